import JvmDerived
import JvmDerived.Pilot.@@N@@Statement
import JvmDerived.Pilot.@@N@@Code
set_option linter.unusedVariables false
set_option linter.unusedSimpArgs false
namespace Jvm.Pilot.@@N@@
open Jvm Jvm.ClassFile Sem Op Lib Jvm.Free Jvm.Stand Jvm.LawKit Jvm.RoadKit Bundle Jvm.Pilot.@@N@@.Jvm.D
section OwnKit
/-- from the frame f at T the run comes to an end that K takes -/
def own_Go (p : Program) (e : Env) (below : List Frame) (K : Outcome → State → Prop) (T : State) (f : JFrame) : Prop :=
  ∃ s₂ o, Steps p.tables e below (T.setTop f) s₂ ∧ s₂.status = .running ∧ Ended s₂ below o ∧ K o s₂
def own_K (s : State) (Q : Option Value → Heap → List Loc → Prop) (cc ss : Nat) (o : Outcome) (U : State) : Prop :=
  ∃ v L, o = .returned v ∧ Q v U.heap L ∧ FrameEnd s o U L cc ss
variable {p : Program} {l : Launch} {e : Env} {R : Room} {s : State} {m : MethodId} {args : Array Value} {below : List Frame} {meth : Method} {c : Code} {T T' : State} {locs : List Loc} {cells slots : Nat} {K : Outcome → State → Prop} {Q : Option Value → Heap → List Loc → Prop} {cc ss : Nat} {f f' : JFrame}
theorem own_of (h : ∀ t, Steps p.tables e below (T'.setTop f') t → Steps p.tables e below (T.setTop f) t) (k : own_Go p e below K T' f') : own_Go p e below K T f := by
  obtain ⟨s2, o, h1, r⟩ := k
  exact ⟨s2, o, h _ h1, r⟩
theorem own_at (h : ∀ t, Steps p.tables e below (T.setTop f') t → Steps p.tables e below (T.setTop f) t) (k : own_Go p e below K T f') : own_Go p e below K T f := own_of h k
theorem own_cast (q : f = f') (k : own_Go p e below K T f') : own_Go p e below K T f := q ▸ k
theorem own_end (X : Stand p l e R s m args below meth c T locs cells slots) (hlk : meth.locks = false) {v : Option Value} (hv : meth.sig.returnType = none → v = none) (hq : Q v T.heap locs) (h1 : cells ≤ cc) (h2 : slots ≤ ss)
    (hs : ∀ fs, (∀ (f : JFrame) (acts : List Action), f.method = m → f.locked = none → f.entered = [] → (doReturn e (T.setTop f) acts v).1 = T.setFrames fs) → Steps p.tables e below (T.setTop f) (T.setFrames fs)) : own_Go p e below (own_K s Q cc ss) T f := by
  obtain ⟨fs, hr, hrun, hended, hW, hsame⟩ := X.leave (v := v) hv hlk
  exact ⟨_, _, hs fs hr, hrun, hended, _, _, rfl, hq, ⟨_, rfl⟩, hW, hsame.mono h1 h2⟩
theorem own_retN (X : Stand p l e R s m args below meth c T locs cells slots) (hx : p.tables.exec = Jvm.exec) (hlk : meth.locks = false) {pc : Nat} {Ls : Array Slot} {z w : Int32} {t : FieldType} {rest : List Value} (hret : meth.sig.returnType = some t) (ht : t = .boolean ∨ t = .byte ∨ t = .char ∨ t = .short)
    (hd : decode c.code pc = .ok (.ireturn, 1)) (hw : nar t z = w) (hq : Q (some (.int w)) T.heap locs) (h1 : cells ≤ cc) (h2 : slots ≤ ss) : own_Go p e below (own_K s Q cc ss) T (mkF m pc Ls (.int z :: rest)) := by
  subst hw
  exact own_end X hlk (fun h => by rw [hret] at h; cases h) hq h1 h2 fun fs hr => retN X hx hret ht hd hr
theorem own_retI (X : Stand p l e R s m args below meth c T locs cells slots) (hx : p.tables.exec = Jvm.exec) (hlk : meth.locks = false) {pc : Nat} {Ls : Array Slot} {z w : Int32} {rest : List Value} (hret : meth.sig.returnType = some .int)
    (hd : decode c.code pc = .ok (.ireturn, 1)) (hw : z = w) (hq : Q (some (.int w)) T.heap locs) (h1 : cells ≤ cc) (h2 : slots ≤ ss) : own_Go p e below (own_K s Q cc ss) T (mkF m pc Ls (.int z :: rest)) := by
  subst hw
  refine own_end X hlk (fun h => by rw [hret] at h; cases h) hq h1 h2 fun fs hr => ?_
  have hm' : T.vm.method? m = some meth := X.method'
  have hn : narrow .int (.int z) = .int z := rfl
  show Steps p.tables e below (T.setTop { method := m, pc := pc, locals := Ls, stack := _ :: rest, locked := none }) _
  jvm_step X.here [X.here.top, hx, hd, hm', hret, hn]
  first | (intro acts; rw [hr _ acts rfl rfl rfl]) | rw [hr _ _ rfl rfl rfl]
  exact Steps.refl _
theorem own_retJ (X : Stand p l e R s m args below meth c T locs cells slots) (hx : p.tables.exec = Jvm.exec) (hlk : meth.locks = false) {pc : Nat} {Ls : Array Slot} {z w : Int64} (hret : meth.sig.returnType = some .long)
    (hd : decode c.code pc = .ok (.lreturn, 1)) (hw : z = w) (hq : Q (some (.long w)) T.heap locs) (h1 : cells ≤ cc) (h2 : slots ≤ ss) : own_Go p e below (own_K s Q cc ss) T (mkF m pc Ls [.long z]) := by
  subst hw
  exact own_end X hlk (fun h => by rw [hret] at h; cases h) hq h1 h2 fun fs hr => X.lreturnOut hx hret hd hr
theorem own_retA (X : Stand p l e R s m args below meth c T locs cells slots) (hx : p.tables.exec = Jvm.exec) (hlk : meth.locks = false) {pc : Nat} {Ls : Array Slot} {z : Value} {ty : FieldType} {rest : List Value} (hz : z.isRef = true) (hret : meth.sig.returnType = some ty) (hty : ty.isReference = true)
    (hd : decode c.code pc = .ok (.areturn, 1)) (hq : Q (some z) T.heap locs) (h1 : cells ≤ cc) (h2 : slots ≤ ss) : own_Go p e below (own_K s Q cc ss) T (mkF m pc Ls (z :: rest)) := by
  refine own_end X hlk (fun h => by rw [hret] at h; cases h) hq h1 h2 fun fs hr => ?_
  have hm' : T.vm.method? m = some meth := X.method'
  show Steps p.tables e below (T.setTop { method := m, pc := pc, locals := Ls, stack := _ :: rest, locked := none }) _
  jvm_step X.here [X.here.top, hx, hd, hm', hret, hz, hty]
  first | (intro acts; rw [hr _ acts rfl rfl rfl]) | rw [hr _ _ rfl rfl rfl]
  exact Steps.refl _
theorem own_retV (X : Stand p l e R s m args below meth c T locs cells slots) (hx : p.tables.exec = Jvm.exec) (hlk : meth.locks = false) {pc : Nat} {Ls : Array Slot} (hret : meth.sig.returnType = none)
    (hd : decode c.code pc = .ok (.return_, 1)) (hq : Q none T.heap locs) (h1 : cells ≤ cc) (h2 : slots ≤ ss) : own_Go p e below (own_K s Q cc ss) T (mkF m pc Ls []) :=
  own_end X hlk (fun _ => rfl) hq h1 h2 fun fs hr => X.returnOut hx hret hd hr
theorem own_ne {i k : Int32} {z : Int} (hz : k.toInt = z) (h : ¬ i = k) : ¬ (z = i.toInt) := fun q => h (Int32.toInt_inj.mp (q.symm.trans hz.symm))
theorem own_lsw {tb : Tables} [Ours tb] {target : State} {g : JFrame} (h : At T m c below) (hx : tb.exec = Jvm.exec) (hg : g.method = m) {dflt o : Int} {prs : Array (Int × Int)} {len pc0 pc' : Nat} (hpc : g.pc = pc0) (hd : decode c.code g.pc = .ok (.lookupswitch dflt prs, len)) {i : Int32} {rest : List Value} (hs : g.stack = .int i :: rest)
    (hso : (prs.toList.zip (prs.toList.drop 1)).all (fun (a, next) => a.1 < next.1) = true) (hof : lookupswitch.offset prs.toList dflt i.toInt = o) (ho : 0 ≤ (pc0 : Int) + o) (hp : ((pc0 : Int) + o).toNat = pc')
    (hr : Steps tb e below (T.setTop { g with pc := pc', stack := rest }) target) : Steps tb e below (T.setTop g) target := by
  subst hg hpc hp hof
  jvm_step h [h.top, hx, hd, hs, ho, lookupswitch.wp_chain]
  exact ⟨by simpa using hso, hr⟩
theorem own_nar01 {z : Int32} (h : z = 0 ∨ z = 1) : nar .boolean z = z := by rcases h with rfl | rfl <;> decide
theorem own_narB (x : Int32) : nar .byte x.toInt8.toInt32 = x.toInt8.toInt32 := Value.int.inj (Jvm.Free.XT.narrow_b x)
theorem own_narC (x : Int32) : nar .char x.toUInt32.toUInt16.toUInt32.toInt32 = x.toUInt32.toUInt16.toUInt32.toInt32 := Value.int.inj (Jvm.Free.XT.narrow_c x)
end OwnKit
/-- a body that writes nothing and returns w -/
def own_P (w : Value) (h0 : Heap) (n0 : Nat) (v : Option Value) (h : Heap) (L : List Loc) : Prop := v = some w ∧ Fr n0 L ∧ h = h0
section OwnArr
/-- an array by its class's name, its components' kind, and what it holds -/
def own_A (Z : State) (h : Heap) (a : Addr) (d : String) (ty : FieldType) (vs : List Value) : Prop :=
  ∃ c : Cell, Arr Z h a c ty ∧ Z.vm.findClass d = some c.cls ∧ c.slots = vs.toArray ∧ ∀ v ∈ vs, fits ty v = true
variable {p : Program} {l : Launch} {e : Env} {R : Room} {s : State} {m : MethodId} {args : Array Value} {below : List Frame} {meth : Method} {c : Code} {T : State} {locs : List Loc} {cells slots : Nat} {Z : State} {a0 : Array Value} {h h' : Heap} {a b : Addr} {d : String} {ty : FieldType} {vs : List Value} {sl : Nat} {v w : Value} {ws : List Addr}
theorem own_A.lt (F : own_A Z h a d ty vs) : a < h.size := by obtain ⟨c, A, -⟩ := F; exact A.lt
theorem own_A.ext (F : own_A Z h a d ty vs) (E : Ext h h') : own_A Z h' a d ty vs := by obtain ⟨c, A, r⟩ := F; exact ⟨c, A.ext E, r⟩
theorem own_A.other (F : own_A Z h b d ty vs) (W : Wr h h' a sl v) (q : b ≠ a) : own_A Z h' b d ty vs := by obtain ⟨c, A, r⟩ := F; exact ⟨c, A.other W q, r⟩
theorem own_A.keep (F : own_A Z h a d ty vs) (K : Keep h h' ws) (q : a ∉ ws) : own_A Z h' a d ty vs := by obtain ⟨c, A, r⟩ := F; exact ⟨c, ⟨K.2.1 a c A.1 q, A.2⟩, r⟩
theorem own_A.set (F : own_A Z h a d ty vs) {i : Nat} (W : Wr h h' a i v) (hv : fits ty v = true) : own_A Z h' a d ty (vs.set i v) := by
  obtain ⟨c, A, q, S, G⟩ := F
  refine ⟨_, A.same W, q, ?_, fun x hx => ?_⟩
  · simp [Cell.setSlot, S]
  · rcases List.mem_or_eq_of_mem_set hx with h1 | h1
    · exact G x h1
    · exact h1 ▸ hv
theorem own_A.exa (F : own_A Z h a d ty vs) : Exa Z h a d := by
  obtain ⟨c, A, q, -⟩ := F
  obtain ⟨-, k, hk, comp, hkind⟩ := A.2.1
  exact ⟨c, k, A.1, q, hk, A.plain, fun z => by rw [hkind] at z; cases z⟩
theorem own_A.fit (F : own_A Z h a d ty vs) : ∃ c : Cell, Arr Z h a c ty ∧ Z.vm.findClass d = some c.cls ∧ c.slots = vs.toArray ∧ (∀ v ∈ vs, fits ty v = true) ∧ FitC Z c := by
  obtain ⟨c, A, q, S, G⟩ := F
  refine ⟨c, A, q, S, G, fun i v hv => ?_⟩
  obtain ⟨-, k, hk, comp, hkind⟩ := A.2.1
  rw [S] at hv
  have hm : v ∈ vs := List.mem_of_getElem? (by simpa using hv)
  simp [State.fitsSlot, State.slotType?, hk, hkind, G v hm]
theorem own_inb {c : Cell} {j : Int32} {i : Nat} (S : c.slots = vs.toArray) (h0 : ¬ j < 0) (hj : j.toNatClampNeg = i) (hi : i < vs.length) : ¬ (j < 0 ∨ c.slots.size ≤ j.toNatClampNeg) := by
  rw [S, hj]; simp only [List.size_toArray]; exact fun q => q.elim h0 (fun q => absurd hi (Nat.not_lt.mpr q))
theorem own_newA (X : Stand p l e R s m args below meth c T locs cells slots) (hx : p.tables.exec = Jvm.exec) (hZ : Z.Warmed39 s.vm) {aty : ArrayType} (w : (Cond.arrayClass (newarray.typeOf aty)).before a0 Z = true) (eT : T.heap = h) {g : JFrame} (hg : g.method = m) (hd : decode c.code g.pc = .ok (.newarray aty, 2)) {n : Int32} {rest : List Value} (hs : g.stack = .int n :: rest)
    (hn : ¬ n < 0) {N cap : Nat} (hN : n.toNatClampNeg = N) (hcap : N ≤ cap) (hb : cap * 8 ≤ 536870912) (hc : cells + 1 ≤ R.cells) (hl : slots + cap ≤ R.slots) {d : String} (hdd : "[" ++ (newarray.typeOf aty).toString = d) {vs : List Value} (hvs : vs = List.replicate N (defaultValue (newarray.typeOf aty))) :
    ∃ T' h', Stand p l e R s m args below meth c T' locs (cells + 1) (slots + cap) ∧ T'.heap = h' ∧ Ext h h' ∧ own_A Z h' h.size d (newarray.typeOf aty) vs ∧
      ∀ target, Steps p.tables e below (T'.setTop { g with pc := g.pc + 2, stack := .ref h.size :: rest }) target → Steps p.tables e below (T.setTop g) target := by
  subst hN hdd hvs
  have hcb : componentBytes (newarray.typeOf aty) ≤ 8 := by cases aty <;> decide
  obtain ⟨cA, kA, comp, h1, h2, h3, X', st⟩ := X.newarrayPrim hx (mvA hZ w) hg hd hs hn (Nat.le_trans (Nat.mul_le_mul hcap hcb) hb) hc (by omega)
  subst eT
  rw [hZ.alike.findClass] at h1
  obtain ⟨kZ, z1, -⟩ := Vm.findClass_spec h1
  obtain ⟨k', z2, z3⟩ := hZ.alike.2.2 _ _ z1
  cases h2.symm.trans z2
  refine ⟨_, _, X'.more (Nat.le_refl _) (by omega), rfl, ⟨by show T.heap.size ≤ (T.heap.push _).size; simp, fun a c h => ?_⟩, ⟨{ cls := cA, slots := Array.replicate n.toNatClampNeg (defaultValue (newarray.typeOf aty)), vm := .none }, ⟨by show (T.heap.push _)[T.heap.size]? = _; simp, ⟨by simp, kZ, z1, comp, by rw [← h3, z3]⟩, by simp⟩, h1, by simp, fun v hv => ?_⟩, st⟩
  · have hlt := (Array.getElem?_eq_some_iff.mp h).1
    show (T.heap.push _)[a]? = _
    rw [Array.getElem?_push, if_neg (Nat.ne_of_lt hlt)]
    exact h
  · rw [List.eq_of_mem_replicate hv]; cases aty <;> rfl
theorem own_ldI (X : Stand p l e R s m args below meth c T locs cells slots) (hx : p.tables.exec = Jvm.exec) (hZ : Z.Warmed39 s.vm) (eT : T.heap = h) (V : own_A Z h a d .int vs) {j : Int32} {i : Nat} (h0 : ¬ j < 0) (hj : j.toNatClampNeg = i) (hv : vs[i]? = some v) {g : JFrame} (hg : g.method = m) {rest : List Value} (hs : g.stack = .int j :: .ref a :: rest) (hd : decode c.code g.pc = .ok (.iaload, 1)) :
    ∀ target, Steps p.tables e below (T.setTop { g with pc := g.pc + 1, stack := v :: rest }) target → Steps p.tables e below (T.setTop g) target := by
  obtain ⟨cl, A, q, S, G⟩ := V
  have hi : i < vs.length := (List.getElem?_eq_some_iff.mp hv).1
  exact X.iaload hx (by rw [eT]; exact A.1) (State.isArrayOf_alike hZ.alike A.2.1) A.2.2 (own_inb S h0 hj hi) (by rw [S, hj]; simpa using hv) hg hs hd
theorem own_ldJ (X : Stand p l e R s m args below meth c T locs cells slots) (hx : p.tables.exec = Jvm.exec) (hZ : Z.Warmed39 s.vm) (eT : T.heap = h) (V : own_A Z h a d .long vs) {j : Int32} {i : Nat} (h0 : ¬ j < 0) (hj : j.toNatClampNeg = i) (hv : vs[i]? = some v) {g : JFrame} (hg : g.method = m) {rest : List Value} (hs : g.stack = .int j :: .ref a :: rest) (hd : decode c.code g.pc = .ok (.laload, 1)) :
    ∀ target, Steps p.tables e below (T.setTop { g with pc := g.pc + 1, stack := v :: rest }) target → Steps p.tables e below (T.setTop g) target := by
  obtain ⟨cl, A, q, S, G⟩ := V
  have hi : i < vs.length := (List.getElem?_eq_some_iff.mp hv).1
  exact X.laload hx (by rw [eT]; exact A.1) (State.isArrayOf_alike hZ.alike A.2.1) A.2.2 (own_inb S h0 hj hi) (by rw [S, hj]; simpa using hv) hg hs hd
theorem own_ldC (X : Stand p l e R s m args below meth c T locs cells slots) (hx : p.tables.exec = Jvm.exec) (hZ : Z.Warmed39 s.vm) (eT : T.heap = h) (V : own_A Z h a d .char vs) {j : Int32} {i : Nat} (h0 : ¬ j < 0) (hj : j.toNatClampNeg = i) (hv : vs[i]? = some v) {g : JFrame} (hg : g.method = m) {rest : List Value} (hs : g.stack = .int j :: .ref a :: rest) (hd : decode c.code g.pc = .ok (.caload, 1)) :
    ∀ target, Steps p.tables e below (T.setTop { g with pc := g.pc + 1, stack := v :: rest }) target → Steps p.tables e below (T.setTop g) target := by
  obtain ⟨cl, A, q, S, G⟩ := V
  have hi : i < vs.length := (List.getElem?_eq_some_iff.mp hv).1
  exact X.caload hx (by rw [eT]; exact A.1) (State.isArrayOf_alike hZ.alike A.2.1) A.2.2 (own_inb S h0 hj hi) (by rw [S, hj]; simpa using hv) hg hs hd
theorem own_ldB (X : Stand p l e R s m args below meth c T locs cells slots) (hx : p.tables.exec = Jvm.exec) (hZ : Z.Warmed39 s.vm) (eT : T.heap = h) (V : own_A Z h a d .byte vs) {j : Int32} {i : Nat} (h0 : ¬ j < 0) (hj : j.toNatClampNeg = i) (hv : vs[i]? = some v) {g : JFrame} (hg : g.method = m) {rest : List Value} (hs : g.stack = .int j :: .ref a :: rest) (hd : decode c.code g.pc = .ok (.baload, 1)) :
    ∀ target, Steps p.tables e below (T.setTop { g with pc := g.pc + 1, stack := v :: rest }) target → Steps p.tables e below (T.setTop g) target := by
  obtain ⟨cl, A, q, S, G⟩ := V
  have hi : i < vs.length := (List.getElem?_eq_some_iff.mp hv).1
  exact X.baloadBytes hx (by rw [eT]; exact A.1) (State.isArrayOf_alike hZ.alike A.2.1) A.2.2 (own_inb S h0 hj hi) (by rw [S, hj]; simpa using hv) hg hs hd
theorem own_len (X : Stand p l e R s m args below meth c T locs cells slots) (hx : p.tables.exec = Jvm.exec) (hZ : Z.Warmed39 s.vm) (eT : T.heap = h) (V : own_A Z h a d ty vs) {N : Int32} (hN : vs.length.toInt32 = N) {g : JFrame} (hg : g.method = m) {rest : List Value} (hs : g.stack = .ref a :: rest) (hd : decode c.code g.pc = .ok (.arraylength, 1)) :
    ∀ target, Steps p.tables e below (T.setTop { g with pc := g.pc + 1, stack := .int N :: rest }) target → Steps p.tables e below (T.setTop g) target := by
  obtain ⟨cl, A, q, S, G⟩ := V
  have e1 : cl.slots.size.toInt32 = N := by rw [S]; simpa using hN
  have st := X.arraylength hx (by rw [eT]; exact A.1) (State.isArrayOf_alike hZ.alike A.2.1) hg hs hd
  rw [e1] at st
  exact st
theorem own_stI (X : Stand p l e R s m args below meth c T locs cells slots) (hx : p.tables.exec = Jvm.exec) (hZ : Z.Warmed39 s.vm) (eT : T.heap = h) (V : own_A Z h a d .int vs) {j x : Int32} {i : Nat} (h0 : ¬ j < 0) (hj : j.toNatClampNeg = i) (hi : i < vs.length) {g : JFrame} (hg : g.method = m) {rest : List Value} (hs : g.stack = .int x :: .int j :: .ref a :: rest) (hd : decode c.code g.pc = .ok (.iastore, 1)) :
    ∃ T' h', Stand p l e R s m args below meth c T' (locs ++ [⟨a, i⟩]) cells slots ∧ T'.heap = h' ∧ Wr h h' a i (.int x) ∧ own_A Z h' a d .int (vs.set i (.int x)) ∧ ∀ target, Steps p.tables e below (T'.setTop { g with pc := g.pc + 1, stack := rest }) target → Steps p.tables e below (T.setTop g) target := by
  obtain ⟨cl, A, q, S, G⟩ := id V
  subst hj
  obtain ⟨T', h', X', e', W, st⟩ := stI X hx hZ eT A (own_inb S h0 rfl hi) hg hs hd
  exact ⟨T', h', X', e', W, V.set W rfl, st⟩
theorem own_stJ (X : Stand p l e R s m args below meth c T locs cells slots) (hx : p.tables.exec = Jvm.exec) (hZ : Z.Warmed39 s.vm) (eT : T.heap = h) (V : own_A Z h a d .long vs) {j : Int32} {x : Int64} {i : Nat} (h0 : ¬ j < 0) (hj : j.toNatClampNeg = i) (hi : i < vs.length) {g : JFrame} (hg : g.method = m) {rest : List Value} (hs : g.stack = .long x :: .int j :: .ref a :: rest) (hd : decode c.code g.pc = .ok (.lastore, 1)) :
    ∃ T' h', Stand p l e R s m args below meth c T' (locs ++ [⟨a, i⟩]) cells slots ∧ T'.heap = h' ∧ Wr h h' a i (.long x) ∧ own_A Z h' a d .long (vs.set i (.long x)) ∧ ∀ target, Steps p.tables e below (T'.setTop { g with pc := g.pc + 1, stack := rest }) target → Steps p.tables e below (T.setTop g) target := by
  obtain ⟨cl, A, q, S, G⟩ := id V
  subst hj
  obtain ⟨T', h', X', e', W, st⟩ := stJ X hx hZ eT A (own_inb S h0 rfl hi) hg hs hd
  exact ⟨T', h', X', e', W, V.set W rfl, st⟩
theorem own_stB (X : Stand p l e R s m args below meth c T locs cells slots) (hx : p.tables.exec = Jvm.exec) (hZ : Z.Warmed39 s.vm) (eT : T.heap = h) (V : own_A Z h a d .byte vs) {j x y : Int32} {i : Nat} (hy : nar .byte x = y) (h0 : ¬ j < 0) (hj : j.toNatClampNeg = i) (hi : i < vs.length) {g : JFrame} (hg : g.method = m) {rest : List Value} (hs : g.stack = .int x :: .int j :: .ref a :: rest) (hd : decode c.code g.pc = .ok (.bastore, 1)) :
    ∃ T' h', Stand p l e R s m args below meth c T' (locs ++ [⟨a, i⟩]) cells slots ∧ T'.heap = h' ∧ Wr h h' a i (.int y) ∧ own_A Z h' a d .byte (vs.set i (.int y)) ∧ ∀ target, Steps p.tables e below (T'.setTop { g with pc := g.pc + 1, stack := rest }) target → Steps p.tables e below (T.setTop g) target := by
  obtain ⟨cl, A, q, S, G⟩ := id V
  subst hj hy
  obtain ⟨T', h', X', e', W, st⟩ := stB X hx hZ eT A (own_inb S h0 rfl hi) hg hs hd
  exact ⟨T', h', X', e', W, V.set W (fits_nar_byte x), st⟩
theorem own_stC (X : Stand p l e R s m args below meth c T locs cells slots) (hx : p.tables.exec = Jvm.exec) (hZ : Z.Warmed39 s.vm) (eT : T.heap = h) (V : own_A Z h a d .char vs) {j x y : Int32} {i : Nat} (hy : nar .char x = y) (h0 : ¬ j < 0) (hj : j.toNatClampNeg = i) (hi : i < vs.length) {g : JFrame} (hg : g.method = m) {rest : List Value} (hs : g.stack = .int x :: .int j :: .ref a :: rest) (hd : decode c.code g.pc = .ok (.castore, 1)) :
    ∃ T' h', Stand p l e R s m args below meth c T' (locs ++ [⟨a, i⟩]) cells slots ∧ T'.heap = h' ∧ Wr h h' a i (.int y) ∧ own_A Z h' a d .char (vs.set i (.int y)) ∧ ∀ target, Steps p.tables e below (T'.setTop { g with pc := g.pc + 1, stack := rest }) target → Steps p.tables e below (T.setTop g) target := by
  obtain ⟨cl, A, q, S, G⟩ := id V
  subst hj hy
  obtain ⟨T', h', X', e', W, st⟩ := stC X hx hZ eT A (own_inb S h0 rfl hi) hg hs hd
  exact ⟨T', h', X', e', W, V.set W (fits_nar_char x), st⟩
theorem own_clone (X : Stand p l e R s m args below meth c T locs cells slots) (hx : p.tables.exec = Jvm.exec) (hZ : Z.Warmed39 s.vm) {own : String} {index : Nat} (hown : s.vm.findClass own = some m.cls)
    (w1 : (Cond.methodLink own index ⟨d, "clone", "()Ljava/lang/Object;"⟩).before a0 Z = true) (w2 : (Cond.sameMethod d "java/lang/Object" "clone" "()Ljava/lang/Object;").before a0 Z = true) (w3 : (Cond.native ⟨"java/lang/Object", "clone", "()Ljava/lang/Object;"⟩).before a0 Z = true)
    (w4 : (Cond.instanceMethod ⟨"java/lang/Object", "clone", "()Ljava/lang/Object;"⟩).before a0 Z = true) (w5 : (Cond.selects d ⟨d, "clone", "()Ljava/lang/Object;"⟩ ⟨"java/lang/Object", "clone", "()Ljava/lang/Object;"⟩).before a0 Z = true) (w6 : (Cond.castable d "java/lang/Cloneable").before a0 Z = true)
    (eT : T.heap = h) (V : own_A Z h a d ty vs) {g : JFrame} (hg : g.method = m) (hsize : g.locals.size = c.maxLocals) {rest : List Value} (hs : g.stack = .ref a :: rest) (hd : decode c.code g.pc = .ok (.invokevirtual index, 3))
    (hf : 1 ≤ R.frames) {W cap : Nat} (hW : 2 * g.monitorRoom + (rest.map fun v => v.category).sum ≤ W) (hl : W + 14 ≤ R.locals) (hcap : vs.length ≤ cap) (hc : cells + 1 ≤ R.cells) (hsl : slots + cap ≤ R.slots) :
    ∃ T' h', Stand p l e R s m args below meth c T' locs (cells + 1) (slots + cap) ∧ T'.heap = h' ∧ Ext h h' ∧ own_A Z h' h.size d ty vs ∧
      ∀ target, Steps p.tables e below (T'.setTop { g with pc := g.pc + 3, stack := .ref h.size :: rest }) target → Steps p.tables e below (T.setTop g) target := by
  have Ex := V.exa
  obtain ⟨cl, A, q, S, G, F⟩ := V.fit
  obtain ⟨T', h', X', e', E, A', -, st⟩ := cloneA X hx hZ hown w1 w2 w3 w4 w5 w6 eT A Ex F hg hsize hs hd hf hW hl (cap := cap) (by rw [S]; simpa using hcap) hc hsl
  exact ⟨T', h', X', e', E, ⟨_, A', q, S, G⟩, st⟩
theorem own_nA (hv : v.isRef = true) : narrow (.array ty) v = v ∧ fits (.array ty) v = true := by cases v <;> simp_all [Value.isRef, narrow, fits]
end OwnArr

theorem pn_com_example_isimud_isimud_oscore_OscoreOptionOfRequestPinLaw : plainName "com/example/isimud/isimud/oscore/OscoreOptionOfRequestPinLaw" = true := by first | (simp [plainName, overriddenIn]; done) | decide +kernel
theorem ef_method_3 (m : MethodId) (x0 : Int64) (x1 : Int32) : entryFrame m #[(.long x0), (.int x1)] 3 = mkF m 0 #[.val (.long x0), .second, .val (.int x1)] [] := by first | (simp [entryFrame, mkF, argsToLocals, Value.category]; done) | rfl
theorem d_method_3_0 : decode method_3_code 0 = .ok (.lload_n 0, 1) := by decide +kernel
theorem d_method_3_1 : decode method_3_code 1 = .ok (.bipush 8, 2) := by decide +kernel
theorem d_method_3_3 : decode method_3_code 3 = .ok (.iload_n 2, 1) := by decide +kernel
theorem d_method_3_4 : decode method_3_code 4 = .ok (.imul, 1) := by decide +kernel
theorem d_method_3_5 : decode method_3_code 5 = .ok (.lushr, 1) := by decide +kernel
theorem d_method_3_6 : decode method_3_code 6 = .ok (.l2i, 1) := by decide +kernel
theorem d_method_3_7 : decode method_3_code 7 = .ok (.i2b, 1) := by decide +kernel
theorem d_method_3_8 : decode method_3_code 8 = .ok (.ireturn, 1) := by decide +kernel
def own_F_method_3 (q1 : Int64) (q2 : Int32) : Int32 := ((((q1.toUInt64 >>> (((8 : Int32) * q2) &&& 0x3f).toInt64.toUInt64).toInt64).toInt32).toInt8.toInt32)
set_option maxRecDepth 65536 in
set_option maxHeartbeats 40000000 in
theorem rm_method_3 (l : Launch) (Z : State) (a0 : Array Value) (hw : ∀ d ∈ tables_1, d.before a0 Z = true) (ws : List Jvm.Cond) (q1 : Int64) (q2 : Int32)  (h0 : Heap) (n0 : Nat) (Z0 : n0 ≤ h0.size)  :
    MetFree l (⟨"com/example/isimud/isimud/oscore/OscoreOptionOfRequestPinLaw", "b", "(JI)B"⟩ : MethodName) (head1 (Jvm.Cond.code (⟨"com/example/isimud/isimud/oscore/OscoreOptionOfRequestPinLaw", "b", "(JI)B"⟩ : MethodName) method_3_code 3 (some .byte) :: ws) ({ frames := 0, cells := 0, slots := 0, locals := 0 } : Room)) (fun a U => a = #[(.long q1), (.int q2)] ∧ Z.Warmed39 U.vm ∧ U.heap = h0) (fun _ _ _ _ _ => True) (fun _ U o U' => ∃ v L, o = .returned v ∧ own_P (.int (own_F_method_3 q1 q2)) h0 n0 v U'.heap L ∧ FrameEnd U o U' L ({ frames := 0, cells := 0, slots := 0, locals := 0 } : Room).cells ({ frames := 0, cells := 0, slots := 0, locals := 0 } : Room).slots) := by
  refine MetFree.of_bodySF (plainFor_of_name pn_com_example_isimud_isimud_oscore_OscoreOptionOfRequestPinLaw) hisR ?_
  intro p e s m args below meth c s₁ Bd hml0 hP hK
  obtain ⟨rfl, hZ, hh⟩ := hP
  have hx := Bd.exec
  have hby := Bd.bytes
  have hlk : meth.locks = false := BodyLoose.notSynchronized Bd
  have hml : c.maxLocals = 3 := hml0
  have hown : s.vm.findClass "com/example/isimud/isimud/oscore/OscoreOptionOfRequestPinLaw" = some m.cls := findClass_of_methodNamed Bd.named
  have hnm := (name_of_methodNamed Bd.named Bd.method).1
  have X0 : Stand p l e ({ frames := 0, cells := 0, slots := 0, locals := 0 } : Room) s m #[(.long q1), (.int q2)] below meth c s₁ [] 0 0 := Stand.of_body Bd
  have e0 : s₁.heap = h0 := by rw [← hh, Bd.state]; rfl
  have N0 := Fr.nil n0
  refine own_cast (K := own_K s (own_P (.int (own_F_method_3 q1 q2)) h0 n0) 0 0) (ef_method_3 m q1 q2) ?_
  generalize hKK : own_K s (own_P (.int (own_F_method_3 q1 q2)) h0 n0) 0 0 = KK
  show own_Go p e below KK s₁ (mkF m 0 #[.val (.long q1), .second, .val (.int q2)] [])
  refine own_at (fun t k => XS.lloadN X0.here hx rfl (hb hby d_method_3_0) rfl k) ?_
  show own_Go p e below KK s₁ (mkF m 1 #[.val (.long q1), .second, .val (.int q2)] [(.long q1)])
  refine own_at (fun t k => XS.bipush X0.here hx rfl (hb hby d_method_3_1) k) ?_
  show own_Go p e below KK s₁ (mkF m 3 #[.val (.long q1), .second, .val (.int q2)] [(.int 8), (.long q1)])
  refine own_at (fun t k => XS.iloadN X0.here hx rfl (hb hby d_method_3_3) rfl k) ?_
  show own_Go p e below KK s₁ (mkF m 4 #[.val (.long q1), .second, .val (.int q2)] [(.int q2), (.int 8), (.long q1)])
  refine own_at (fun t k => XS.imul X0.here hx rfl (hb hby d_method_3_4) rfl k) ?_
  show own_Go p e below KK s₁ (mkF m 5 #[.val (.long q1), .second, .val (.int q2)] [(.int ((8 : Int32) * q2)), (.long q1)])
  refine own_at (fun t k => XS.lushr X0.here hx rfl (hb hby d_method_3_5) rfl k) ?_
  show own_Go p e below KK s₁ (mkF m 6 #[.val (.long q1), .second, .val (.int q2)] [(.long ((q1.toUInt64 >>> (((8 : Int32) * q2) &&& 0x3f).toInt64.toUInt64).toInt64))])
  refine own_at (fun t k => XS.l2i X0.here hx rfl (hb hby d_method_3_6) rfl k) ?_
  show own_Go p e below KK s₁ (mkF m 7 #[.val (.long q1), .second, .val (.int q2)] [(.int (((q1.toUInt64 >>> (((8 : Int32) * q2) &&& 0x3f).toInt64.toUInt64).toInt64).toInt32))])
  refine own_at (fun t k => XS.i2b X0.here hx rfl (hb hby d_method_3_7) rfl k) ?_
  show own_Go p e below KK s₁ (mkF m 8 #[.val (.long q1), .second, .val (.int q2)] [(.int ((((q1.toUInt64 >>> (((8 : Int32) * q2) &&& 0x3f).toInt64.toUInt64).toInt64).toInt32).toInt8.toInt32))])
  subst hKK
  exact own_retN X0 hx hlk (t := .byte) Bd.returns (by simp) (hb hby d_method_3_8) (w := (own_F_method_3 q1 q2)) ((own_narB _).trans (show ((((q1.toUInt64 >>> (((8 : Int32) * q2) &&& 0x3f).toInt64.toUInt64).toInt64).toInt32).toInt8.toInt32) = (own_F_method_3 q1 q2) from rfl)) ⟨rfl, N0, e0⟩ (Nat.le_of_ble_eq_true rfl) (Nat.le_of_ble_eq_true rfl)
def own_vals (u : Int64) (n : Nat) : List Value := (List.range n).map fun i => .int (own_F_method_3 u (Int32.ofNat i))
theorem own_vlen (u : Int64) (n : Nat) : (own_vals u n).length = n := by simp [own_vals]
theorem own_narF (u : Int64) (i : Int32) : nar .byte (own_F_method_3 u i) = own_F_method_3 u i := by unfold own_F_method_3; exact own_narB _
def own_Qf (Z : State) (vs : List Value) (h0 : Heap) (n0 : Nat) (v : Option Value) (h : Heap) (L : List Loc) : Prop := ∃ b : Addr, v = some (.ref b) ∧ Fr n0 L ∧ Keep h0 h [] ∧ n0 ≤ b ∧ h0.size ≤ b ∧ own_A Z h b "[B" .byte vs
theorem ef_method_4 (m : MethodId) (x0 : Int64) (x1 : Int32) : entryFrame m #[(.long x0), (.int x1)] 4 = mkF m 0 #[.val (.long x0), .second, .val (.int x1), .unset] [] := by first | (simp [entryFrame, mkF, argsToLocals, Value.category]; done) | rfl
theorem d_method_4_0 : decode method_4_code 0 = .ok (.iload_n 2, 1) := by decide +kernel
theorem d_method_4_1 : decode method_4_code 1 = .ok (.newarray .byte, 2) := by decide +kernel
theorem d_method_4_3 : decode method_4_code 3 = .ok (.astore_n 3, 1) := by decide +kernel
theorem d_method_4_4 : decode method_4_code 4 = .ok (.iload_n 2, 1) := by decide +kernel
theorem d_method_4_5 : decode method_4_code 5 = .ok (.ifCond .le 11, 3) := by decide +kernel
theorem d_method_4_16 : decode method_4_code 16 = .ok (.iload_n 2, 1) := by decide +kernel
theorem d_method_4_17 : decode method_4_code 17 = .ok (.iconst 1, 1) := by decide +kernel
theorem d_method_4_18 : decode method_4_code 18 = .ok (.if_icmp .le 11, 3) := by decide +kernel
theorem d_method_4_29 : decode method_4_code 29 = .ok (.iload_n 2, 1) := by decide +kernel
theorem d_method_4_30 : decode method_4_code 30 = .ok (.iconst 2, 1) := by decide +kernel
theorem d_method_4_31 : decode method_4_code 31 = .ok (.if_icmp .le 11, 3) := by decide +kernel
theorem d_method_4_42 : decode method_4_code 42 = .ok (.iload_n 2, 1) := by decide +kernel
theorem d_method_4_43 : decode method_4_code 43 = .ok (.iconst 3, 1) := by decide +kernel
theorem d_method_4_44 : decode method_4_code 44 = .ok (.if_icmp .le 11, 3) := by decide +kernel
theorem d_method_4_55 : decode method_4_code 55 = .ok (.iload_n 2, 1) := by decide +kernel
theorem d_method_4_56 : decode method_4_code 56 = .ok (.iconst 4, 1) := by decide +kernel
theorem d_method_4_57 : decode method_4_code 57 = .ok (.if_icmp .le 11, 3) := by decide +kernel
theorem d_method_4_68 : decode method_4_code 68 = .ok (.iload_n 2, 1) := by decide +kernel
theorem d_method_4_69 : decode method_4_code 69 = .ok (.iconst 5, 1) := by decide +kernel
theorem d_method_4_70 : decode method_4_code 70 = .ok (.if_icmp .le 11, 3) := by decide +kernel
theorem d_method_4_81 : decode method_4_code 81 = .ok (.iload_n 2, 1) := by decide +kernel
theorem d_method_4_82 : decode method_4_code 82 = .ok (.bipush 6, 2) := by decide +kernel
theorem d_method_4_84 : decode method_4_code 84 = .ok (.if_icmp .le 13, 3) := by decide +kernel
theorem d_method_4_97 : decode method_4_code 97 = .ok (.aload_n 3, 1) := by decide +kernel
theorem d_method_4_98 : decode method_4_code 98 = .ok (.areturn, 1) := by decide +kernel
set_option maxRecDepth 65536 in
set_option maxHeartbeats 40000000 in
theorem rm_make0 (l : Launch) (Z : State) (a0 : Array Value) (hw : ∀ d ∈ tables_1, d.before a0 Z = true) (ws : List Jvm.Cond) (q1 : Int64)  (h0 : Heap) (n0 : Nat) (Z0 : n0 ≤ h0.size)  :
    MetFree l (⟨"com/example/isimud/isimud/oscore/OscoreOptionOfRequestPinLaw", "make", "(JI)[B"⟩ : MethodName) (head1 (Jvm.Cond.code (⟨"com/example/isimud/isimud/oscore/OscoreOptionOfRequestPinLaw", "make", "(JI)[B"⟩ : MethodName) method_4_code 4 (some (.array .byte)) :: ws) ({ frames := 1, cells := 1, slots := 7, locals := 16 } : Room)) (fun a U => a = #[(.long q1), (.int 0)] ∧ Z.Warmed39 U.vm ∧ U.heap = h0) (fun _ _ _ _ _ => True) (fun _ U o U' => ∃ v L, o = .returned v ∧ own_Qf Z [] h0 n0 v U'.heap L ∧ FrameEnd U o U' L ({ frames := 1, cells := 1, slots := 7, locals := 16 } : Room).cells ({ frames := 1, cells := 1, slots := 7, locals := 16 } : Room).slots) := by
  refine MetFree.of_bodySF (plainFor_of_name pn_com_example_isimud_isimud_oscore_OscoreOptionOfRequestPinLaw) hisR ?_
  intro p e s m args below meth c s₁ Bd hml0 hP hK
  obtain ⟨rfl, hZ, hh⟩ := hP
  have hx := Bd.exec
  have hby := Bd.bytes
  have hlk : meth.locks = false := BodyLoose.notSynchronized Bd
  have hml : c.maxLocals = 4 := hml0
  have hown : s.vm.findClass "com/example/isimud/isimud/oscore/OscoreOptionOfRequestPinLaw" = some m.cls := findClass_of_methodNamed Bd.named
  have hnm := (name_of_methodNamed Bd.named Bd.method).1
  have X0 : Stand p l e ({ frames := 1, cells := 1, slots := 7, locals := 16 } : Room) s m #[(.long q1), (.int 0)] below meth c s₁ [] 0 0 := Stand.of_body Bd
  have e0 : s₁.heap = h0 := by rw [← hh, Bd.state]; rfl
  have N0 := Fr.nil n0
  refine own_cast (K := own_K s (own_Qf Z [] h0 n0) 1 7) (ef_method_4 m q1 (0 : Int32)) ?_
  generalize hKK : own_K s (own_Qf Z [] h0 n0) 1 7 = KK
  show own_Go p e below KK s₁ (mkF m 0 #[.val (.long q1), .second, .val (.int 0), .unset] [])
  have Kp0 : Keep h0 h0 [] := Keep.refl _ _
  refine own_at (fun t k => XS.iloadN X0.here hx rfl (hb hby d_method_4_0) rfl k) ?_
  show own_Go p e below KK s₁ (mkF m 1 #[.val (.long q1), .second, .val (.int 0), .unset] [(.int 0)])
  obtain ⟨T1, h1, X1, e1, E1, V1, st1⟩ := own_newA X0 hx hZ (hw _ (List.mem_of_getElem? (i := 4) rfl)) e0 (g := (mkF m 1 #[.val (.long q1), .second, .val (.int 0), .unset] [(.int 0)])) rfl (hb hby d_method_4_1) rfl (by decide) (N := 0) (by decide) (cap := 0) (by decide) (by decide) (by decide) (by decide) (d := "[B") (by first | rfl | decide +kernel) (vs := []) rfl
  obtain ⟨b1, g1⟩ : ∃ z, z = h0.size := ⟨_, rfl⟩
  rw [← g1] at V1 st1
  have g_b1 : n0 ≤ b1 := by rw [g1]; exact Z0
  have sz_b1 : h0.size ≤ b1 := by rw [g1]; exact Kp0.1
  have Zs1 : n0 ≤ h1.size := Nat.le_trans Z0 E1.1
  have Kp1 : Keep h0 h1 [] := Kp0.ext E1
  have A2_b1 : own_A Z h1 b1 "[B" .byte [] := V1
  refine own_of (fun t k => st1 t k) ?_
  show own_Go p e below KK T1 (mkF m 3 #[.val (.long q1), .second, .val (.int 0), .unset] [(.ref b1)])
  refine own_at (fun t k => XS.astoreN X1.here hx rfl (hb hby d_method_4_3) rfl rfl (l' := #[.val (.long q1), .second, .val (.int 0), .val (.ref b1)]) rfl k) ?_
  show own_Go p e below KK T1 (mkF m 4 #[.val (.long q1), .second, .val (.int 0), .val (.ref b1)] [])
  refine own_at (fun t k => XS.iloadN X1.here hx rfl (hb hby d_method_4_4) rfl k) ?_
  show own_Go p e below KK T1 (mkF m 5 #[.val (.long q1), .second, .val (.int 0), .val (.ref b1)] [(.int 0)])
  have hc5 : ¬ ((0 : Int32) < (0 : Int32)) := by decide
  refine own_at (fun t k => XS.ifYes X1.here hx rfl (pc0 := 5) (pc' := 16) rfl (hb hby d_method_4_5) rfl (Jvm.Free.XT.i0_le_t hc5) (by decide) (by decide) k) ?_
  show own_Go p e below KK T1 (mkF m 16 #[.val (.long q1), .second, .val (.int 0), .val (.ref b1)] [])
  refine own_at (fun t k => XS.iloadN X1.here hx rfl (hb hby d_method_4_16) rfl k) ?_
  show own_Go p e below KK T1 (mkF m 17 #[.val (.long q1), .second, .val (.int 0), .val (.ref b1)] [(.int 0)])
  refine own_at (fun t k => XS.iconst X1.here hx rfl (hb hby d_method_4_17) k) ?_
  show own_Go p e below KK T1 (mkF m 18 #[.val (.long q1), .second, .val (.int 0), .val (.ref b1)] [(.int 1), (.int 0)])
  have hc18 : ¬ ((1 : Int32) < (0 : Int32)) := by decide
  refine own_at (fun t k => XS.icmpYes X1.here hx rfl (pc0 := 18) (pc' := 29) rfl (hb hby d_method_4_18) rfl (Jvm.Free.XT.ii_le_t hc18) (by decide) (by decide) k) ?_
  show own_Go p e below KK T1 (mkF m 29 #[.val (.long q1), .second, .val (.int 0), .val (.ref b1)] [])
  refine own_at (fun t k => XS.iloadN X1.here hx rfl (hb hby d_method_4_29) rfl k) ?_
  show own_Go p e below KK T1 (mkF m 30 #[.val (.long q1), .second, .val (.int 0), .val (.ref b1)] [(.int 0)])
  refine own_at (fun t k => XS.iconst X1.here hx rfl (hb hby d_method_4_30) k) ?_
  show own_Go p e below KK T1 (mkF m 31 #[.val (.long q1), .second, .val (.int 0), .val (.ref b1)] [(.int 2), (.int 0)])
  have hc31 : ¬ ((2 : Int32) < (0 : Int32)) := by decide
  refine own_at (fun t k => XS.icmpYes X1.here hx rfl (pc0 := 31) (pc' := 42) rfl (hb hby d_method_4_31) rfl (Jvm.Free.XT.ii_le_t hc31) (by decide) (by decide) k) ?_
  show own_Go p e below KK T1 (mkF m 42 #[.val (.long q1), .second, .val (.int 0), .val (.ref b1)] [])
  refine own_at (fun t k => XS.iloadN X1.here hx rfl (hb hby d_method_4_42) rfl k) ?_
  show own_Go p e below KK T1 (mkF m 43 #[.val (.long q1), .second, .val (.int 0), .val (.ref b1)] [(.int 0)])
  refine own_at (fun t k => XS.iconst X1.here hx rfl (hb hby d_method_4_43) k) ?_
  show own_Go p e below KK T1 (mkF m 44 #[.val (.long q1), .second, .val (.int 0), .val (.ref b1)] [(.int 3), (.int 0)])
  have hc44 : ¬ ((3 : Int32) < (0 : Int32)) := by decide
  refine own_at (fun t k => XS.icmpYes X1.here hx rfl (pc0 := 44) (pc' := 55) rfl (hb hby d_method_4_44) rfl (Jvm.Free.XT.ii_le_t hc44) (by decide) (by decide) k) ?_
  show own_Go p e below KK T1 (mkF m 55 #[.val (.long q1), .second, .val (.int 0), .val (.ref b1)] [])
  refine own_at (fun t k => XS.iloadN X1.here hx rfl (hb hby d_method_4_55) rfl k) ?_
  show own_Go p e below KK T1 (mkF m 56 #[.val (.long q1), .second, .val (.int 0), .val (.ref b1)] [(.int 0)])
  refine own_at (fun t k => XS.iconst X1.here hx rfl (hb hby d_method_4_56) k) ?_
  show own_Go p e below KK T1 (mkF m 57 #[.val (.long q1), .second, .val (.int 0), .val (.ref b1)] [(.int 4), (.int 0)])
  have hc57 : ¬ ((4 : Int32) < (0 : Int32)) := by decide
  refine own_at (fun t k => XS.icmpYes X1.here hx rfl (pc0 := 57) (pc' := 68) rfl (hb hby d_method_4_57) rfl (Jvm.Free.XT.ii_le_t hc57) (by decide) (by decide) k) ?_
  show own_Go p e below KK T1 (mkF m 68 #[.val (.long q1), .second, .val (.int 0), .val (.ref b1)] [])
  refine own_at (fun t k => XS.iloadN X1.here hx rfl (hb hby d_method_4_68) rfl k) ?_
  show own_Go p e below KK T1 (mkF m 69 #[.val (.long q1), .second, .val (.int 0), .val (.ref b1)] [(.int 0)])
  refine own_at (fun t k => XS.iconst X1.here hx rfl (hb hby d_method_4_69) k) ?_
  show own_Go p e below KK T1 (mkF m 70 #[.val (.long q1), .second, .val (.int 0), .val (.ref b1)] [(.int 5), (.int 0)])
  have hc70 : ¬ ((5 : Int32) < (0 : Int32)) := by decide
  refine own_at (fun t k => XS.icmpYes X1.here hx rfl (pc0 := 70) (pc' := 81) rfl (hb hby d_method_4_70) rfl (Jvm.Free.XT.ii_le_t hc70) (by decide) (by decide) k) ?_
  show own_Go p e below KK T1 (mkF m 81 #[.val (.long q1), .second, .val (.int 0), .val (.ref b1)] [])
  refine own_at (fun t k => XS.iloadN X1.here hx rfl (hb hby d_method_4_81) rfl k) ?_
  show own_Go p e below KK T1 (mkF m 82 #[.val (.long q1), .second, .val (.int 0), .val (.ref b1)] [(.int 0)])
  refine own_at (fun t k => XS.bipush X1.here hx rfl (hb hby d_method_4_82) k) ?_
  show own_Go p e below KK T1 (mkF m 84 #[.val (.long q1), .second, .val (.int 0), .val (.ref b1)] [(.int 6), (.int 0)])
  have hc84 : ¬ ((6 : Int32) < (0 : Int32)) := by decide
  refine own_at (fun t k => XS.icmpYes X1.here hx rfl (pc0 := 84) (pc' := 97) rfl (hb hby d_method_4_84) rfl (Jvm.Free.XT.ii_le_t hc84) (by decide) (by decide) k) ?_
  show own_Go p e below KK T1 (mkF m 97 #[.val (.long q1), .second, .val (.int 0), .val (.ref b1)] [])
  refine own_at (fun t k => XS.aloadN X1.here hx rfl (hb hby d_method_4_97) rfl rfl k) ?_
  show own_Go p e below KK T1 (mkF m 98 #[.val (.long q1), .second, .val (.int 0), .val (.ref b1)] [(.ref b1)])
  subst hKK
  exact own_retA X1 hx hlk rfl Bd.returns rfl (hb hby d_method_4_98) ⟨b1, rfl, N0, by rw [e1]; exact Kp1, g_b1, sz_b1, by rw [e1]; exact A2_b1⟩ (Nat.le_of_ble_eq_true rfl) (Nat.le_of_ble_eq_true rfl)
theorem d_method_4_8 : decode method_4_code 8 = .ok (.aload_n 3, 1) := by decide +kernel
theorem d_method_4_9 : decode method_4_code 9 = .ok (.iconst 0, 1) := by decide +kernel
theorem d_method_4_10 : decode method_4_code 10 = .ok (.lload_n 0, 1) := by decide +kernel
theorem d_method_4_11 : decode method_4_code 11 = .ok (.iconst 0, 1) := by decide +kernel
theorem d_method_4_12 : decode method_4_code 12 = .ok (.invokestatic 37, 3) := by decide +kernel
theorem pd__JI_B : parseMethodDescriptor "(JI)B" = some ⟨[.long, .int], some .byte⟩ := by decide +kernel
theorem d_method_4_15 : decode method_4_code 15 = .ok (.bastore, 1) := by decide +kernel
set_option maxRecDepth 65536 in
set_option maxHeartbeats 40000000 in
theorem rm_make1 (l : Launch) (Z : State) (a0 : Array Value) (hw : ∀ d ∈ tables_1, d.before a0 Z = true) (ws : List Jvm.Cond) (q1 : Int64)  (h0 : Heap) (n0 : Nat) (Z0 : n0 ≤ h0.size)  :
    MetFree l (⟨"com/example/isimud/isimud/oscore/OscoreOptionOfRequestPinLaw", "make", "(JI)[B"⟩ : MethodName) (head1 (Jvm.Cond.code (⟨"com/example/isimud/isimud/oscore/OscoreOptionOfRequestPinLaw", "make", "(JI)[B"⟩ : MethodName) method_4_code 4 (some (.array .byte)) :: ws) ({ frames := 1, cells := 1, slots := 7, locals := 16 } : Room)) (fun a U => a = #[(.long q1), (.int 1)] ∧ Z.Warmed39 U.vm ∧ U.heap = h0) (fun _ _ _ _ _ => True) (fun _ U o U' => ∃ v L, o = .returned v ∧ own_Qf Z [(.int (own_F_method_3 q1 (0 : Int32)))] h0 n0 v U'.heap L ∧ FrameEnd U o U' L ({ frames := 1, cells := 1, slots := 7, locals := 16 } : Room).cells ({ frames := 1, cells := 1, slots := 7, locals := 16 } : Room).slots) := by
  refine MetFree.of_bodySF (plainFor_of_name pn_com_example_isimud_isimud_oscore_OscoreOptionOfRequestPinLaw) hisR ?_
  intro p e s m args below meth c s₁ Bd hml0 hP hK
  obtain ⟨rfl, hZ, hh⟩ := hP
  have hx := Bd.exec
  have hby := Bd.bytes
  have hlk : meth.locks = false := BodyLoose.notSynchronized Bd
  have hml : c.maxLocals = 4 := hml0
  have hown : s.vm.findClass "com/example/isimud/isimud/oscore/OscoreOptionOfRequestPinLaw" = some m.cls := findClass_of_methodNamed Bd.named
  have hnm := (name_of_methodNamed Bd.named Bd.method).1
  have X0 : Stand p l e ({ frames := 1, cells := 1, slots := 7, locals := 16 } : Room) s m #[(.long q1), (.int 1)] below meth c s₁ [] 0 0 := Stand.of_body Bd
  have e0 : s₁.heap = h0 := by rw [← hh, Bd.state]; rfl
  have N0 := Fr.nil n0
  refine own_cast (K := own_K s (own_Qf Z [(.int (own_F_method_3 q1 (0 : Int32)))] h0 n0) 1 7) (ef_method_4 m q1 (1 : Int32)) ?_
  generalize hKK : own_K s (own_Qf Z [(.int (own_F_method_3 q1 (0 : Int32)))] h0 n0) 1 7 = KK
  show own_Go p e below KK s₁ (mkF m 0 #[.val (.long q1), .second, .val (.int 1), .unset] [])
  have Kp0 : Keep h0 h0 [] := Keep.refl _ _
  refine own_at (fun t k => XS.iloadN X0.here hx rfl (hb hby d_method_4_0) rfl k) ?_
  show own_Go p e below KK s₁ (mkF m 1 #[.val (.long q1), .second, .val (.int 1), .unset] [(.int 1)])
  obtain ⟨T1, h1, X1, e1, E1, V1, st1⟩ := own_newA X0 hx hZ (hw _ (List.mem_of_getElem? (i := 4) rfl)) e0 (g := (mkF m 1 #[.val (.long q1), .second, .val (.int 1), .unset] [(.int 1)])) rfl (hb hby d_method_4_1) rfl (by decide) (N := 1) (by decide) (cap := 1) (by decide) (by decide) (by decide) (by decide) (d := "[B") (by first | rfl | decide +kernel) (vs := [(.int 0)]) rfl
  obtain ⟨b1, g1⟩ : ∃ z, z = h0.size := ⟨_, rfl⟩
  rw [← g1] at V1 st1
  have g_b1 : n0 ≤ b1 := by rw [g1]; exact Z0
  have sz_b1 : h0.size ≤ b1 := by rw [g1]; exact Kp0.1
  have Zs1 : n0 ≤ h1.size := Nat.le_trans Z0 E1.1
  have Kp1 : Keep h0 h1 [] := Kp0.ext E1
  have A2_b1 : own_A Z h1 b1 "[B" .byte [(.int 0)] := V1
  refine own_of (fun t k => st1 t k) ?_
  show own_Go p e below KK T1 (mkF m 3 #[.val (.long q1), .second, .val (.int 1), .unset] [(.ref b1)])
  refine own_at (fun t k => XS.astoreN X1.here hx rfl (hb hby d_method_4_3) rfl rfl (l' := #[.val (.long q1), .second, .val (.int 1), .val (.ref b1)]) rfl k) ?_
  show own_Go p e below KK T1 (mkF m 4 #[.val (.long q1), .second, .val (.int 1), .val (.ref b1)] [])
  refine own_at (fun t k => XS.iloadN X1.here hx rfl (hb hby d_method_4_4) rfl k) ?_
  show own_Go p e below KK T1 (mkF m 5 #[.val (.long q1), .second, .val (.int 1), .val (.ref b1)] [(.int 1)])
  have hc5 : (0 : Int32) < (1 : Int32) := by decide
  refine own_at (fun t k => XS.ifNo X1.here hx rfl (hb hby d_method_4_5) rfl (Jvm.Free.XT.i0_le_f hc5) k) ?_
  show own_Go p e below KK T1 (mkF m 8 #[.val (.long q1), .second, .val (.int 1), .val (.ref b1)] [])
  refine own_at (fun t k => XS.aloadN X1.here hx rfl (hb hby d_method_4_8) rfl rfl k) ?_
  show own_Go p e below KK T1 (mkF m 9 #[.val (.long q1), .second, .val (.int 1), .val (.ref b1)] [(.ref b1)])
  refine own_at (fun t k => XS.iconst X1.here hx rfl (hb hby d_method_4_9) k) ?_
  show own_Go p e below KK T1 (mkF m 10 #[.val (.long q1), .second, .val (.int 1), .val (.ref b1)] [(.int 0), (.ref b1)])
  refine own_at (fun t k => XS.lloadN X1.here hx rfl (hb hby d_method_4_10) rfl k) ?_
  show own_Go p e below KK T1 (mkF m 11 #[.val (.long q1), .second, .val (.int 1), .val (.ref b1)] [(.long q1), (.int 0), (.ref b1)])
  refine own_at (fun t k => XS.iconst X1.here hx rfl (hb hby d_method_4_11) k) ?_
  show own_Go p e below KK T1 (mkF m 12 #[.val (.long q1), .second, .val (.int 1), .val (.ref b1)] [(.int 0), (.long q1), (.int 0), (.ref b1)])
  obtain ⟨_, _, ⟨T3, L3, k3, n3⟩, -, X3, ⟨Lc3, hQ3, l3, y3, z3⟩, st3⟩ := Jvm.LawKit.callS X1 hx (y := (⟨"com/example/isimud/isimud/oscore/OscoreOptionOfRequestPinLaw", "b", "(JI)B"⟩ : MethodName)) hown (mvT hZ (hw _ (List.mem_of_getElem? (i := 53) rfl))) (mvT hZ (hw _ (List.mem_of_getElem? (i := 54) rfl))) (mvT hZ (hw _ (List.mem_of_getElem? (i := 2) rfl))) (mvT hZ (hw _ (List.mem_of_getElem? (i := 55) rfl))) (by decide) (backOf (W := 2) (rm_method_3 l Z a0 hw [] q1 (0 : Int32)  h1 n0 Zs1 ) hZ (hw _ (List.mem_of_getElem? (i := 55) rfl)) (hw _ (List.mem_of_getElem? (i := 2) rfl)) (by decide) (by decide)) (g := (mkF m 12 #[.val (.long q1), .second, .val (.int 1), .val (.ref b1)] [(.int 0), (.long q1), (.int 0), (.ref b1)])) rfl (by rw [hml]; rfl) (argsL := [(.long q1), (.int 0)]) (rest := [(.int 0), (.ref b1)]) (lenOf pd__JI_B rfl) rfl (by show 2 * 0 + _ ≤ _; exact Nat.le_of_eq rfl) (hb hby d_method_4_12) (fun _ _ => ⟨rfl, e1, (by decide : 1 + 0 ≤ _), (by decide : 1 + 0 ≤ _)⟩)
  dsimp only [Pt.U, Pt.locs, Pt.cells, Pt.slots] at X3 l3 y3 z3 st3 hQ3
  subst l3 y3 z3
  obtain ⟨rfl, N3q, e3⟩ := hQ3
  have N3 := Fr.app N0 N3q
  refine own_of (fun t k => st3 t k) ?_
  show own_Go p e below KK T3 (mkF m 15 #[.val (.long q1), .second, .val (.int 1), .val (.ref b1)] [(.int (own_F_method_3 q1 (0 : Int32))), (.int 0), (.ref b1)])
  obtain ⟨T4, h4, X4, e4, W4, V4, st4⟩ := own_stB X3 hx hZ e3 A2_b1 (j := (0 : Int32)) (y := (own_F_method_3 q1 (0 : Int32))) (own_narF _ _) (i := 0) (by decide) (by decide) (show (0 : Nat) < 1 from by decide) (g := (mkF m 15 #[.val (.long q1), .second, .val (.int 1), .val (.ref b1)] [(.int (own_F_method_3 q1 (0 : Int32))), (.int 0), (.ref b1)])) rfl rfl (hb hby d_method_4_15)
  have N4 := Fr.snoc X4 N3 g_b1
  have Zs4 : n0 ≤ h4.size := (by rw [W4.size]; exact Zs1)
  have Kp4 : Keep h0 h4 [] := Kp1.wr W4 (Or.inr sz_b1)
  have A5_b1 : own_A Z h4 b1 "[B" .byte [(.int (own_F_method_3 q1 (0 : Int32)))] := V4
  refine own_of (fun t k => st4 t k) ?_
  show own_Go p e below KK T4 (mkF m 16 #[.val (.long q1), .second, .val (.int 1), .val (.ref b1)] [])
  refine own_at (fun t k => XS.iloadN X4.here hx rfl (hb hby d_method_4_16) rfl k) ?_
  show own_Go p e below KK T4 (mkF m 17 #[.val (.long q1), .second, .val (.int 1), .val (.ref b1)] [(.int 1)])
  refine own_at (fun t k => XS.iconst X4.here hx rfl (hb hby d_method_4_17) k) ?_
  show own_Go p e below KK T4 (mkF m 18 #[.val (.long q1), .second, .val (.int 1), .val (.ref b1)] [(.int 1), (.int 1)])
  have hc18 : ¬ ((1 : Int32) < (1 : Int32)) := by decide
  refine own_at (fun t k => XS.icmpYes X4.here hx rfl (pc0 := 18) (pc' := 29) rfl (hb hby d_method_4_18) rfl (Jvm.Free.XT.ii_le_t hc18) (by decide) (by decide) k) ?_
  show own_Go p e below KK T4 (mkF m 29 #[.val (.long q1), .second, .val (.int 1), .val (.ref b1)] [])
  refine own_at (fun t k => XS.iloadN X4.here hx rfl (hb hby d_method_4_29) rfl k) ?_
  show own_Go p e below KK T4 (mkF m 30 #[.val (.long q1), .second, .val (.int 1), .val (.ref b1)] [(.int 1)])
  refine own_at (fun t k => XS.iconst X4.here hx rfl (hb hby d_method_4_30) k) ?_
  show own_Go p e below KK T4 (mkF m 31 #[.val (.long q1), .second, .val (.int 1), .val (.ref b1)] [(.int 2), (.int 1)])
  have hc31 : ¬ ((2 : Int32) < (1 : Int32)) := by decide
  refine own_at (fun t k => XS.icmpYes X4.here hx rfl (pc0 := 31) (pc' := 42) rfl (hb hby d_method_4_31) rfl (Jvm.Free.XT.ii_le_t hc31) (by decide) (by decide) k) ?_
  show own_Go p e below KK T4 (mkF m 42 #[.val (.long q1), .second, .val (.int 1), .val (.ref b1)] [])
  refine own_at (fun t k => XS.iloadN X4.here hx rfl (hb hby d_method_4_42) rfl k) ?_
  show own_Go p e below KK T4 (mkF m 43 #[.val (.long q1), .second, .val (.int 1), .val (.ref b1)] [(.int 1)])
  refine own_at (fun t k => XS.iconst X4.here hx rfl (hb hby d_method_4_43) k) ?_
  show own_Go p e below KK T4 (mkF m 44 #[.val (.long q1), .second, .val (.int 1), .val (.ref b1)] [(.int 3), (.int 1)])
  have hc44 : ¬ ((3 : Int32) < (1 : Int32)) := by decide
  refine own_at (fun t k => XS.icmpYes X4.here hx rfl (pc0 := 44) (pc' := 55) rfl (hb hby d_method_4_44) rfl (Jvm.Free.XT.ii_le_t hc44) (by decide) (by decide) k) ?_
  show own_Go p e below KK T4 (mkF m 55 #[.val (.long q1), .second, .val (.int 1), .val (.ref b1)] [])
  refine own_at (fun t k => XS.iloadN X4.here hx rfl (hb hby d_method_4_55) rfl k) ?_
  show own_Go p e below KK T4 (mkF m 56 #[.val (.long q1), .second, .val (.int 1), .val (.ref b1)] [(.int 1)])
  refine own_at (fun t k => XS.iconst X4.here hx rfl (hb hby d_method_4_56) k) ?_
  show own_Go p e below KK T4 (mkF m 57 #[.val (.long q1), .second, .val (.int 1), .val (.ref b1)] [(.int 4), (.int 1)])
  have hc57 : ¬ ((4 : Int32) < (1 : Int32)) := by decide
  refine own_at (fun t k => XS.icmpYes X4.here hx rfl (pc0 := 57) (pc' := 68) rfl (hb hby d_method_4_57) rfl (Jvm.Free.XT.ii_le_t hc57) (by decide) (by decide) k) ?_
  show own_Go p e below KK T4 (mkF m 68 #[.val (.long q1), .second, .val (.int 1), .val (.ref b1)] [])
  refine own_at (fun t k => XS.iloadN X4.here hx rfl (hb hby d_method_4_68) rfl k) ?_
  show own_Go p e below KK T4 (mkF m 69 #[.val (.long q1), .second, .val (.int 1), .val (.ref b1)] [(.int 1)])
  refine own_at (fun t k => XS.iconst X4.here hx rfl (hb hby d_method_4_69) k) ?_
  show own_Go p e below KK T4 (mkF m 70 #[.val (.long q1), .second, .val (.int 1), .val (.ref b1)] [(.int 5), (.int 1)])
  have hc70 : ¬ ((5 : Int32) < (1 : Int32)) := by decide
  refine own_at (fun t k => XS.icmpYes X4.here hx rfl (pc0 := 70) (pc' := 81) rfl (hb hby d_method_4_70) rfl (Jvm.Free.XT.ii_le_t hc70) (by decide) (by decide) k) ?_
  show own_Go p e below KK T4 (mkF m 81 #[.val (.long q1), .second, .val (.int 1), .val (.ref b1)] [])
  refine own_at (fun t k => XS.iloadN X4.here hx rfl (hb hby d_method_4_81) rfl k) ?_
  show own_Go p e below KK T4 (mkF m 82 #[.val (.long q1), .second, .val (.int 1), .val (.ref b1)] [(.int 1)])
  refine own_at (fun t k => XS.bipush X4.here hx rfl (hb hby d_method_4_82) k) ?_
  show own_Go p e below KK T4 (mkF m 84 #[.val (.long q1), .second, .val (.int 1), .val (.ref b1)] [(.int 6), (.int 1)])
  have hc84 : ¬ ((6 : Int32) < (1 : Int32)) := by decide
  refine own_at (fun t k => XS.icmpYes X4.here hx rfl (pc0 := 84) (pc' := 97) rfl (hb hby d_method_4_84) rfl (Jvm.Free.XT.ii_le_t hc84) (by decide) (by decide) k) ?_
  show own_Go p e below KK T4 (mkF m 97 #[.val (.long q1), .second, .val (.int 1), .val (.ref b1)] [])
  refine own_at (fun t k => XS.aloadN X4.here hx rfl (hb hby d_method_4_97) rfl rfl k) ?_
  show own_Go p e below KK T4 (mkF m 98 #[.val (.long q1), .second, .val (.int 1), .val (.ref b1)] [(.ref b1)])
  subst hKK
  exact own_retA X4 hx hlk rfl Bd.returns rfl (hb hby d_method_4_98) ⟨b1, rfl, N4, by rw [e4]; exact Kp4, g_b1, sz_b1, by rw [e4]; exact A5_b1⟩ (Nat.le_of_ble_eq_true rfl) (Nat.le_of_ble_eq_true rfl)
theorem d_method_4_21 : decode method_4_code 21 = .ok (.aload_n 3, 1) := by decide +kernel
theorem d_method_4_22 : decode method_4_code 22 = .ok (.iconst 1, 1) := by decide +kernel
theorem d_method_4_23 : decode method_4_code 23 = .ok (.lload_n 0, 1) := by decide +kernel
theorem d_method_4_24 : decode method_4_code 24 = .ok (.iconst 1, 1) := by decide +kernel
theorem d_method_4_25 : decode method_4_code 25 = .ok (.invokestatic 37, 3) := by decide +kernel
theorem d_method_4_28 : decode method_4_code 28 = .ok (.bastore, 1) := by decide +kernel
set_option maxRecDepth 65536 in
set_option maxHeartbeats 40000000 in
theorem rm_make2 (l : Launch) (Z : State) (a0 : Array Value) (hw : ∀ d ∈ tables_1, d.before a0 Z = true) (ws : List Jvm.Cond) (q1 : Int64)  (h0 : Heap) (n0 : Nat) (Z0 : n0 ≤ h0.size)  :
    MetFree l (⟨"com/example/isimud/isimud/oscore/OscoreOptionOfRequestPinLaw", "make", "(JI)[B"⟩ : MethodName) (head1 (Jvm.Cond.code (⟨"com/example/isimud/isimud/oscore/OscoreOptionOfRequestPinLaw", "make", "(JI)[B"⟩ : MethodName) method_4_code 4 (some (.array .byte)) :: ws) ({ frames := 1, cells := 1, slots := 7, locals := 16 } : Room)) (fun a U => a = #[(.long q1), (.int 2)] ∧ Z.Warmed39 U.vm ∧ U.heap = h0) (fun _ _ _ _ _ => True) (fun _ U o U' => ∃ v L, o = .returned v ∧ own_Qf Z [(.int (own_F_method_3 q1 (0 : Int32))), (.int (own_F_method_3 q1 (1 : Int32)))] h0 n0 v U'.heap L ∧ FrameEnd U o U' L ({ frames := 1, cells := 1, slots := 7, locals := 16 } : Room).cells ({ frames := 1, cells := 1, slots := 7, locals := 16 } : Room).slots) := by
  refine MetFree.of_bodySF (plainFor_of_name pn_com_example_isimud_isimud_oscore_OscoreOptionOfRequestPinLaw) hisR ?_
  intro p e s m args below meth c s₁ Bd hml0 hP hK
  obtain ⟨rfl, hZ, hh⟩ := hP
  have hx := Bd.exec
  have hby := Bd.bytes
  have hlk : meth.locks = false := BodyLoose.notSynchronized Bd
  have hml : c.maxLocals = 4 := hml0
  have hown : s.vm.findClass "com/example/isimud/isimud/oscore/OscoreOptionOfRequestPinLaw" = some m.cls := findClass_of_methodNamed Bd.named
  have hnm := (name_of_methodNamed Bd.named Bd.method).1
  have X0 : Stand p l e ({ frames := 1, cells := 1, slots := 7, locals := 16 } : Room) s m #[(.long q1), (.int 2)] below meth c s₁ [] 0 0 := Stand.of_body Bd
  have e0 : s₁.heap = h0 := by rw [← hh, Bd.state]; rfl
  have N0 := Fr.nil n0
  refine own_cast (K := own_K s (own_Qf Z [(.int (own_F_method_3 q1 (0 : Int32))), (.int (own_F_method_3 q1 (1 : Int32)))] h0 n0) 1 7) (ef_method_4 m q1 (2 : Int32)) ?_
  generalize hKK : own_K s (own_Qf Z [(.int (own_F_method_3 q1 (0 : Int32))), (.int (own_F_method_3 q1 (1 : Int32)))] h0 n0) 1 7 = KK
  show own_Go p e below KK s₁ (mkF m 0 #[.val (.long q1), .second, .val (.int 2), .unset] [])
  have Kp0 : Keep h0 h0 [] := Keep.refl _ _
  refine own_at (fun t k => XS.iloadN X0.here hx rfl (hb hby d_method_4_0) rfl k) ?_
  show own_Go p e below KK s₁ (mkF m 1 #[.val (.long q1), .second, .val (.int 2), .unset] [(.int 2)])
  obtain ⟨T1, h1, X1, e1, E1, V1, st1⟩ := own_newA X0 hx hZ (hw _ (List.mem_of_getElem? (i := 4) rfl)) e0 (g := (mkF m 1 #[.val (.long q1), .second, .val (.int 2), .unset] [(.int 2)])) rfl (hb hby d_method_4_1) rfl (by decide) (N := 2) (by decide) (cap := 2) (by decide) (by decide) (by decide) (by decide) (d := "[B") (by first | rfl | decide +kernel) (vs := [(.int 0), (.int 0)]) rfl
  obtain ⟨b1, g1⟩ : ∃ z, z = h0.size := ⟨_, rfl⟩
  rw [← g1] at V1 st1
  have g_b1 : n0 ≤ b1 := by rw [g1]; exact Z0
  have sz_b1 : h0.size ≤ b1 := by rw [g1]; exact Kp0.1
  have Zs1 : n0 ≤ h1.size := Nat.le_trans Z0 E1.1
  have Kp1 : Keep h0 h1 [] := Kp0.ext E1
  have A2_b1 : own_A Z h1 b1 "[B" .byte [(.int 0), (.int 0)] := V1
  refine own_of (fun t k => st1 t k) ?_
  show own_Go p e below KK T1 (mkF m 3 #[.val (.long q1), .second, .val (.int 2), .unset] [(.ref b1)])
  refine own_at (fun t k => XS.astoreN X1.here hx rfl (hb hby d_method_4_3) rfl rfl (l' := #[.val (.long q1), .second, .val (.int 2), .val (.ref b1)]) rfl k) ?_
  show own_Go p e below KK T1 (mkF m 4 #[.val (.long q1), .second, .val (.int 2), .val (.ref b1)] [])
  refine own_at (fun t k => XS.iloadN X1.here hx rfl (hb hby d_method_4_4) rfl k) ?_
  show own_Go p e below KK T1 (mkF m 5 #[.val (.long q1), .second, .val (.int 2), .val (.ref b1)] [(.int 2)])
  have hc5 : (0 : Int32) < (2 : Int32) := by decide
  refine own_at (fun t k => XS.ifNo X1.here hx rfl (hb hby d_method_4_5) rfl (Jvm.Free.XT.i0_le_f hc5) k) ?_
  show own_Go p e below KK T1 (mkF m 8 #[.val (.long q1), .second, .val (.int 2), .val (.ref b1)] [])
  refine own_at (fun t k => XS.aloadN X1.here hx rfl (hb hby d_method_4_8) rfl rfl k) ?_
  show own_Go p e below KK T1 (mkF m 9 #[.val (.long q1), .second, .val (.int 2), .val (.ref b1)] [(.ref b1)])
  refine own_at (fun t k => XS.iconst X1.here hx rfl (hb hby d_method_4_9) k) ?_
  show own_Go p e below KK T1 (mkF m 10 #[.val (.long q1), .second, .val (.int 2), .val (.ref b1)] [(.int 0), (.ref b1)])
  refine own_at (fun t k => XS.lloadN X1.here hx rfl (hb hby d_method_4_10) rfl k) ?_
  show own_Go p e below KK T1 (mkF m 11 #[.val (.long q1), .second, .val (.int 2), .val (.ref b1)] [(.long q1), (.int 0), (.ref b1)])
  refine own_at (fun t k => XS.iconst X1.here hx rfl (hb hby d_method_4_11) k) ?_
  show own_Go p e below KK T1 (mkF m 12 #[.val (.long q1), .second, .val (.int 2), .val (.ref b1)] [(.int 0), (.long q1), (.int 0), (.ref b1)])
  obtain ⟨_, _, ⟨T3, L3, k3, n3⟩, -, X3, ⟨Lc3, hQ3, l3, y3, z3⟩, st3⟩ := Jvm.LawKit.callS X1 hx (y := (⟨"com/example/isimud/isimud/oscore/OscoreOptionOfRequestPinLaw", "b", "(JI)B"⟩ : MethodName)) hown (mvT hZ (hw _ (List.mem_of_getElem? (i := 53) rfl))) (mvT hZ (hw _ (List.mem_of_getElem? (i := 54) rfl))) (mvT hZ (hw _ (List.mem_of_getElem? (i := 2) rfl))) (mvT hZ (hw _ (List.mem_of_getElem? (i := 55) rfl))) (by decide) (backOf (W := 2) (rm_method_3 l Z a0 hw [] q1 (0 : Int32)  h1 n0 Zs1 ) hZ (hw _ (List.mem_of_getElem? (i := 55) rfl)) (hw _ (List.mem_of_getElem? (i := 2) rfl)) (by decide) (by decide)) (g := (mkF m 12 #[.val (.long q1), .second, .val (.int 2), .val (.ref b1)] [(.int 0), (.long q1), (.int 0), (.ref b1)])) rfl (by rw [hml]; rfl) (argsL := [(.long q1), (.int 0)]) (rest := [(.int 0), (.ref b1)]) (lenOf pd__JI_B rfl) rfl (by show 2 * 0 + _ ≤ _; exact Nat.le_of_eq rfl) (hb hby d_method_4_12) (fun _ _ => ⟨rfl, e1, (by decide : 1 + 0 ≤ _), (by decide : 2 + 0 ≤ _)⟩)
  dsimp only [Pt.U, Pt.locs, Pt.cells, Pt.slots] at X3 l3 y3 z3 st3 hQ3
  subst l3 y3 z3
  obtain ⟨rfl, N3q, e3⟩ := hQ3
  have N3 := Fr.app N0 N3q
  refine own_of (fun t k => st3 t k) ?_
  show own_Go p e below KK T3 (mkF m 15 #[.val (.long q1), .second, .val (.int 2), .val (.ref b1)] [(.int (own_F_method_3 q1 (0 : Int32))), (.int 0), (.ref b1)])
  obtain ⟨T4, h4, X4, e4, W4, V4, st4⟩ := own_stB X3 hx hZ e3 A2_b1 (j := (0 : Int32)) (y := (own_F_method_3 q1 (0 : Int32))) (own_narF _ _) (i := 0) (by decide) (by decide) (show (0 : Nat) < 2 from by decide) (g := (mkF m 15 #[.val (.long q1), .second, .val (.int 2), .val (.ref b1)] [(.int (own_F_method_3 q1 (0 : Int32))), (.int 0), (.ref b1)])) rfl rfl (hb hby d_method_4_15)
  have N4 := Fr.snoc X4 N3 g_b1
  have Zs4 : n0 ≤ h4.size := (by rw [W4.size]; exact Zs1)
  have Kp4 : Keep h0 h4 [] := Kp1.wr W4 (Or.inr sz_b1)
  have A5_b1 : own_A Z h4 b1 "[B" .byte [(.int (own_F_method_3 q1 (0 : Int32))), (.int 0)] := V4
  refine own_of (fun t k => st4 t k) ?_
  show own_Go p e below KK T4 (mkF m 16 #[.val (.long q1), .second, .val (.int 2), .val (.ref b1)] [])
  refine own_at (fun t k => XS.iloadN X4.here hx rfl (hb hby d_method_4_16) rfl k) ?_
  show own_Go p e below KK T4 (mkF m 17 #[.val (.long q1), .second, .val (.int 2), .val (.ref b1)] [(.int 2)])
  refine own_at (fun t k => XS.iconst X4.here hx rfl (hb hby d_method_4_17) k) ?_
  show own_Go p e below KK T4 (mkF m 18 #[.val (.long q1), .second, .val (.int 2), .val (.ref b1)] [(.int 1), (.int 2)])
  have hc18 : (1 : Int32) < (2 : Int32) := by decide
  refine own_at (fun t k => XS.icmpNo X4.here hx rfl (hb hby d_method_4_18) rfl (Jvm.Free.XT.ii_le_f hc18) k) ?_
  show own_Go p e below KK T4 (mkF m 21 #[.val (.long q1), .second, .val (.int 2), .val (.ref b1)] [])
  refine own_at (fun t k => XS.aloadN X4.here hx rfl (hb hby d_method_4_21) rfl rfl k) ?_
  show own_Go p e below KK T4 (mkF m 22 #[.val (.long q1), .second, .val (.int 2), .val (.ref b1)] [(.ref b1)])
  refine own_at (fun t k => XS.iconst X4.here hx rfl (hb hby d_method_4_22) k) ?_
  show own_Go p e below KK T4 (mkF m 23 #[.val (.long q1), .second, .val (.int 2), .val (.ref b1)] [(.int 1), (.ref b1)])
  refine own_at (fun t k => XS.lloadN X4.here hx rfl (hb hby d_method_4_23) rfl k) ?_
  show own_Go p e below KK T4 (mkF m 24 #[.val (.long q1), .second, .val (.int 2), .val (.ref b1)] [(.long q1), (.int 1), (.ref b1)])
  refine own_at (fun t k => XS.iconst X4.here hx rfl (hb hby d_method_4_24) k) ?_
  show own_Go p e below KK T4 (mkF m 25 #[.val (.long q1), .second, .val (.int 2), .val (.ref b1)] [(.int 1), (.long q1), (.int 1), (.ref b1)])
  obtain ⟨_, _, ⟨T6, L6, k6, n6⟩, -, X6, ⟨Lc6, hQ6, l6, y6, z6⟩, st6⟩ := Jvm.LawKit.callS X4 hx (y := (⟨"com/example/isimud/isimud/oscore/OscoreOptionOfRequestPinLaw", "b", "(JI)B"⟩ : MethodName)) hown (mvT hZ (hw _ (List.mem_of_getElem? (i := 53) rfl))) (mvT hZ (hw _ (List.mem_of_getElem? (i := 54) rfl))) (mvT hZ (hw _ (List.mem_of_getElem? (i := 2) rfl))) (mvT hZ (hw _ (List.mem_of_getElem? (i := 55) rfl))) (by decide) (backOf (W := 2) (rm_method_3 l Z a0 hw [] q1 (1 : Int32)  h4 n0 Zs4 ) hZ (hw _ (List.mem_of_getElem? (i := 55) rfl)) (hw _ (List.mem_of_getElem? (i := 2) rfl)) (by decide) (by decide)) (g := (mkF m 25 #[.val (.long q1), .second, .val (.int 2), .val (.ref b1)] [(.int 1), (.long q1), (.int 1), (.ref b1)])) rfl (by rw [hml]; rfl) (argsL := [(.long q1), (.int 1)]) (rest := [(.int 1), (.ref b1)]) (lenOf pd__JI_B rfl) rfl (by show 2 * 0 + _ ≤ _; exact Nat.le_of_eq rfl) (hb hby d_method_4_25) (fun _ _ => ⟨rfl, e4, (by decide : 1 + 0 ≤ _), (by decide : 2 + 0 ≤ _)⟩)
  dsimp only [Pt.U, Pt.locs, Pt.cells, Pt.slots] at X6 l6 y6 z6 st6 hQ6
  subst l6 y6 z6
  obtain ⟨rfl, N6q, e6⟩ := hQ6
  have N6 := Fr.app N4 N6q
  refine own_of (fun t k => st6 t k) ?_
  show own_Go p e below KK T6 (mkF m 28 #[.val (.long q1), .second, .val (.int 2), .val (.ref b1)] [(.int (own_F_method_3 q1 (1 : Int32))), (.int 1), (.ref b1)])
  obtain ⟨T7, h7, X7, e7, W7, V7, st7⟩ := own_stB X6 hx hZ e6 A5_b1 (j := (1 : Int32)) (y := (own_F_method_3 q1 (1 : Int32))) (own_narF _ _) (i := 1) (by decide) (by decide) (show (1 : Nat) < 2 from by decide) (g := (mkF m 28 #[.val (.long q1), .second, .val (.int 2), .val (.ref b1)] [(.int (own_F_method_3 q1 (1 : Int32))), (.int 1), (.ref b1)])) rfl rfl (hb hby d_method_4_28)
  have N7 := Fr.snoc X7 N6 g_b1
  have Zs7 : n0 ≤ h7.size := (by rw [W7.size]; exact Zs4)
  have Kp7 : Keep h0 h7 [] := Kp4.wr W7 (Or.inr sz_b1)
  have A8_b1 : own_A Z h7 b1 "[B" .byte [(.int (own_F_method_3 q1 (0 : Int32))), (.int (own_F_method_3 q1 (1 : Int32)))] := V7
  refine own_of (fun t k => st7 t k) ?_
  show own_Go p e below KK T7 (mkF m 29 #[.val (.long q1), .second, .val (.int 2), .val (.ref b1)] [])
  refine own_at (fun t k => XS.iloadN X7.here hx rfl (hb hby d_method_4_29) rfl k) ?_
  show own_Go p e below KK T7 (mkF m 30 #[.val (.long q1), .second, .val (.int 2), .val (.ref b1)] [(.int 2)])
  refine own_at (fun t k => XS.iconst X7.here hx rfl (hb hby d_method_4_30) k) ?_
  show own_Go p e below KK T7 (mkF m 31 #[.val (.long q1), .second, .val (.int 2), .val (.ref b1)] [(.int 2), (.int 2)])
  have hc31 : ¬ ((2 : Int32) < (2 : Int32)) := by decide
  refine own_at (fun t k => XS.icmpYes X7.here hx rfl (pc0 := 31) (pc' := 42) rfl (hb hby d_method_4_31) rfl (Jvm.Free.XT.ii_le_t hc31) (by decide) (by decide) k) ?_
  show own_Go p e below KK T7 (mkF m 42 #[.val (.long q1), .second, .val (.int 2), .val (.ref b1)] [])
  refine own_at (fun t k => XS.iloadN X7.here hx rfl (hb hby d_method_4_42) rfl k) ?_
  show own_Go p e below KK T7 (mkF m 43 #[.val (.long q1), .second, .val (.int 2), .val (.ref b1)] [(.int 2)])
  refine own_at (fun t k => XS.iconst X7.here hx rfl (hb hby d_method_4_43) k) ?_
  show own_Go p e below KK T7 (mkF m 44 #[.val (.long q1), .second, .val (.int 2), .val (.ref b1)] [(.int 3), (.int 2)])
  have hc44 : ¬ ((3 : Int32) < (2 : Int32)) := by decide
  refine own_at (fun t k => XS.icmpYes X7.here hx rfl (pc0 := 44) (pc' := 55) rfl (hb hby d_method_4_44) rfl (Jvm.Free.XT.ii_le_t hc44) (by decide) (by decide) k) ?_
  show own_Go p e below KK T7 (mkF m 55 #[.val (.long q1), .second, .val (.int 2), .val (.ref b1)] [])
  refine own_at (fun t k => XS.iloadN X7.here hx rfl (hb hby d_method_4_55) rfl k) ?_
  show own_Go p e below KK T7 (mkF m 56 #[.val (.long q1), .second, .val (.int 2), .val (.ref b1)] [(.int 2)])
  refine own_at (fun t k => XS.iconst X7.here hx rfl (hb hby d_method_4_56) k) ?_
  show own_Go p e below KK T7 (mkF m 57 #[.val (.long q1), .second, .val (.int 2), .val (.ref b1)] [(.int 4), (.int 2)])
  have hc57 : ¬ ((4 : Int32) < (2 : Int32)) := by decide
  refine own_at (fun t k => XS.icmpYes X7.here hx rfl (pc0 := 57) (pc' := 68) rfl (hb hby d_method_4_57) rfl (Jvm.Free.XT.ii_le_t hc57) (by decide) (by decide) k) ?_
  show own_Go p e below KK T7 (mkF m 68 #[.val (.long q1), .second, .val (.int 2), .val (.ref b1)] [])
  refine own_at (fun t k => XS.iloadN X7.here hx rfl (hb hby d_method_4_68) rfl k) ?_
  show own_Go p e below KK T7 (mkF m 69 #[.val (.long q1), .second, .val (.int 2), .val (.ref b1)] [(.int 2)])
  refine own_at (fun t k => XS.iconst X7.here hx rfl (hb hby d_method_4_69) k) ?_
  show own_Go p e below KK T7 (mkF m 70 #[.val (.long q1), .second, .val (.int 2), .val (.ref b1)] [(.int 5), (.int 2)])
  have hc70 : ¬ ((5 : Int32) < (2 : Int32)) := by decide
  refine own_at (fun t k => XS.icmpYes X7.here hx rfl (pc0 := 70) (pc' := 81) rfl (hb hby d_method_4_70) rfl (Jvm.Free.XT.ii_le_t hc70) (by decide) (by decide) k) ?_
  show own_Go p e below KK T7 (mkF m 81 #[.val (.long q1), .second, .val (.int 2), .val (.ref b1)] [])
  refine own_at (fun t k => XS.iloadN X7.here hx rfl (hb hby d_method_4_81) rfl k) ?_
  show own_Go p e below KK T7 (mkF m 82 #[.val (.long q1), .second, .val (.int 2), .val (.ref b1)] [(.int 2)])
  refine own_at (fun t k => XS.bipush X7.here hx rfl (hb hby d_method_4_82) k) ?_
  show own_Go p e below KK T7 (mkF m 84 #[.val (.long q1), .second, .val (.int 2), .val (.ref b1)] [(.int 6), (.int 2)])
  have hc84 : ¬ ((6 : Int32) < (2 : Int32)) := by decide
  refine own_at (fun t k => XS.icmpYes X7.here hx rfl (pc0 := 84) (pc' := 97) rfl (hb hby d_method_4_84) rfl (Jvm.Free.XT.ii_le_t hc84) (by decide) (by decide) k) ?_
  show own_Go p e below KK T7 (mkF m 97 #[.val (.long q1), .second, .val (.int 2), .val (.ref b1)] [])
  refine own_at (fun t k => XS.aloadN X7.here hx rfl (hb hby d_method_4_97) rfl rfl k) ?_
  show own_Go p e below KK T7 (mkF m 98 #[.val (.long q1), .second, .val (.int 2), .val (.ref b1)] [(.ref b1)])
  subst hKK
  exact own_retA X7 hx hlk rfl Bd.returns rfl (hb hby d_method_4_98) ⟨b1, rfl, N7, by rw [e7]; exact Kp7, g_b1, sz_b1, by rw [e7]; exact A8_b1⟩ (Nat.le_of_ble_eq_true rfl) (Nat.le_of_ble_eq_true rfl)
theorem d_method_4_34 : decode method_4_code 34 = .ok (.aload_n 3, 1) := by decide +kernel
theorem d_method_4_35 : decode method_4_code 35 = .ok (.iconst 2, 1) := by decide +kernel
theorem d_method_4_36 : decode method_4_code 36 = .ok (.lload_n 0, 1) := by decide +kernel
theorem d_method_4_37 : decode method_4_code 37 = .ok (.iconst 2, 1) := by decide +kernel
theorem d_method_4_38 : decode method_4_code 38 = .ok (.invokestatic 37, 3) := by decide +kernel
theorem d_method_4_41 : decode method_4_code 41 = .ok (.bastore, 1) := by decide +kernel
set_option maxRecDepth 65536 in
set_option maxHeartbeats 40000000 in
theorem rm_make3 (l : Launch) (Z : State) (a0 : Array Value) (hw : ∀ d ∈ tables_1, d.before a0 Z = true) (ws : List Jvm.Cond) (q1 : Int64)  (h0 : Heap) (n0 : Nat) (Z0 : n0 ≤ h0.size)  :
    MetFree l (⟨"com/example/isimud/isimud/oscore/OscoreOptionOfRequestPinLaw", "make", "(JI)[B"⟩ : MethodName) (head1 (Jvm.Cond.code (⟨"com/example/isimud/isimud/oscore/OscoreOptionOfRequestPinLaw", "make", "(JI)[B"⟩ : MethodName) method_4_code 4 (some (.array .byte)) :: ws) ({ frames := 1, cells := 1, slots := 7, locals := 16 } : Room)) (fun a U => a = #[(.long q1), (.int 3)] ∧ Z.Warmed39 U.vm ∧ U.heap = h0) (fun _ _ _ _ _ => True) (fun _ U o U' => ∃ v L, o = .returned v ∧ own_Qf Z [(.int (own_F_method_3 q1 (0 : Int32))), (.int (own_F_method_3 q1 (1 : Int32))), (.int (own_F_method_3 q1 (2 : Int32)))] h0 n0 v U'.heap L ∧ FrameEnd U o U' L ({ frames := 1, cells := 1, slots := 7, locals := 16 } : Room).cells ({ frames := 1, cells := 1, slots := 7, locals := 16 } : Room).slots) := by
  refine MetFree.of_bodySF (plainFor_of_name pn_com_example_isimud_isimud_oscore_OscoreOptionOfRequestPinLaw) hisR ?_
  intro p e s m args below meth c s₁ Bd hml0 hP hK
  obtain ⟨rfl, hZ, hh⟩ := hP
  have hx := Bd.exec
  have hby := Bd.bytes
  have hlk : meth.locks = false := BodyLoose.notSynchronized Bd
  have hml : c.maxLocals = 4 := hml0
  have hown : s.vm.findClass "com/example/isimud/isimud/oscore/OscoreOptionOfRequestPinLaw" = some m.cls := findClass_of_methodNamed Bd.named
  have hnm := (name_of_methodNamed Bd.named Bd.method).1
  have X0 : Stand p l e ({ frames := 1, cells := 1, slots := 7, locals := 16 } : Room) s m #[(.long q1), (.int 3)] below meth c s₁ [] 0 0 := Stand.of_body Bd
  have e0 : s₁.heap = h0 := by rw [← hh, Bd.state]; rfl
  have N0 := Fr.nil n0
  refine own_cast (K := own_K s (own_Qf Z [(.int (own_F_method_3 q1 (0 : Int32))), (.int (own_F_method_3 q1 (1 : Int32))), (.int (own_F_method_3 q1 (2 : Int32)))] h0 n0) 1 7) (ef_method_4 m q1 (3 : Int32)) ?_
  generalize hKK : own_K s (own_Qf Z [(.int (own_F_method_3 q1 (0 : Int32))), (.int (own_F_method_3 q1 (1 : Int32))), (.int (own_F_method_3 q1 (2 : Int32)))] h0 n0) 1 7 = KK
  show own_Go p e below KK s₁ (mkF m 0 #[.val (.long q1), .second, .val (.int 3), .unset] [])
  have Kp0 : Keep h0 h0 [] := Keep.refl _ _
  refine own_at (fun t k => XS.iloadN X0.here hx rfl (hb hby d_method_4_0) rfl k) ?_
  show own_Go p e below KK s₁ (mkF m 1 #[.val (.long q1), .second, .val (.int 3), .unset] [(.int 3)])
  obtain ⟨T1, h1, X1, e1, E1, V1, st1⟩ := own_newA X0 hx hZ (hw _ (List.mem_of_getElem? (i := 4) rfl)) e0 (g := (mkF m 1 #[.val (.long q1), .second, .val (.int 3), .unset] [(.int 3)])) rfl (hb hby d_method_4_1) rfl (by decide) (N := 3) (by decide) (cap := 3) (by decide) (by decide) (by decide) (by decide) (d := "[B") (by first | rfl | decide +kernel) (vs := [(.int 0), (.int 0), (.int 0)]) rfl
  obtain ⟨b1, g1⟩ : ∃ z, z = h0.size := ⟨_, rfl⟩
  rw [← g1] at V1 st1
  have g_b1 : n0 ≤ b1 := by rw [g1]; exact Z0
  have sz_b1 : h0.size ≤ b1 := by rw [g1]; exact Kp0.1
  have Zs1 : n0 ≤ h1.size := Nat.le_trans Z0 E1.1
  have Kp1 : Keep h0 h1 [] := Kp0.ext E1
  have A2_b1 : own_A Z h1 b1 "[B" .byte [(.int 0), (.int 0), (.int 0)] := V1
  refine own_of (fun t k => st1 t k) ?_
  show own_Go p e below KK T1 (mkF m 3 #[.val (.long q1), .second, .val (.int 3), .unset] [(.ref b1)])
  refine own_at (fun t k => XS.astoreN X1.here hx rfl (hb hby d_method_4_3) rfl rfl (l' := #[.val (.long q1), .second, .val (.int 3), .val (.ref b1)]) rfl k) ?_
  show own_Go p e below KK T1 (mkF m 4 #[.val (.long q1), .second, .val (.int 3), .val (.ref b1)] [])
  refine own_at (fun t k => XS.iloadN X1.here hx rfl (hb hby d_method_4_4) rfl k) ?_
  show own_Go p e below KK T1 (mkF m 5 #[.val (.long q1), .second, .val (.int 3), .val (.ref b1)] [(.int 3)])
  have hc5 : (0 : Int32) < (3 : Int32) := by decide
  refine own_at (fun t k => XS.ifNo X1.here hx rfl (hb hby d_method_4_5) rfl (Jvm.Free.XT.i0_le_f hc5) k) ?_
  show own_Go p e below KK T1 (mkF m 8 #[.val (.long q1), .second, .val (.int 3), .val (.ref b1)] [])
  refine own_at (fun t k => XS.aloadN X1.here hx rfl (hb hby d_method_4_8) rfl rfl k) ?_
  show own_Go p e below KK T1 (mkF m 9 #[.val (.long q1), .second, .val (.int 3), .val (.ref b1)] [(.ref b1)])
  refine own_at (fun t k => XS.iconst X1.here hx rfl (hb hby d_method_4_9) k) ?_
  show own_Go p e below KK T1 (mkF m 10 #[.val (.long q1), .second, .val (.int 3), .val (.ref b1)] [(.int 0), (.ref b1)])
  refine own_at (fun t k => XS.lloadN X1.here hx rfl (hb hby d_method_4_10) rfl k) ?_
  show own_Go p e below KK T1 (mkF m 11 #[.val (.long q1), .second, .val (.int 3), .val (.ref b1)] [(.long q1), (.int 0), (.ref b1)])
  refine own_at (fun t k => XS.iconst X1.here hx rfl (hb hby d_method_4_11) k) ?_
  show own_Go p e below KK T1 (mkF m 12 #[.val (.long q1), .second, .val (.int 3), .val (.ref b1)] [(.int 0), (.long q1), (.int 0), (.ref b1)])
  obtain ⟨_, _, ⟨T3, L3, k3, n3⟩, -, X3, ⟨Lc3, hQ3, l3, y3, z3⟩, st3⟩ := Jvm.LawKit.callS X1 hx (y := (⟨"com/example/isimud/isimud/oscore/OscoreOptionOfRequestPinLaw", "b", "(JI)B"⟩ : MethodName)) hown (mvT hZ (hw _ (List.mem_of_getElem? (i := 53) rfl))) (mvT hZ (hw _ (List.mem_of_getElem? (i := 54) rfl))) (mvT hZ (hw _ (List.mem_of_getElem? (i := 2) rfl))) (mvT hZ (hw _ (List.mem_of_getElem? (i := 55) rfl))) (by decide) (backOf (W := 2) (rm_method_3 l Z a0 hw [] q1 (0 : Int32)  h1 n0 Zs1 ) hZ (hw _ (List.mem_of_getElem? (i := 55) rfl)) (hw _ (List.mem_of_getElem? (i := 2) rfl)) (by decide) (by decide)) (g := (mkF m 12 #[.val (.long q1), .second, .val (.int 3), .val (.ref b1)] [(.int 0), (.long q1), (.int 0), (.ref b1)])) rfl (by rw [hml]; rfl) (argsL := [(.long q1), (.int 0)]) (rest := [(.int 0), (.ref b1)]) (lenOf pd__JI_B rfl) rfl (by show 2 * 0 + _ ≤ _; exact Nat.le_of_eq rfl) (hb hby d_method_4_12) (fun _ _ => ⟨rfl, e1, (by decide : 1 + 0 ≤ _), (by decide : 3 + 0 ≤ _)⟩)
  dsimp only [Pt.U, Pt.locs, Pt.cells, Pt.slots] at X3 l3 y3 z3 st3 hQ3
  subst l3 y3 z3
  obtain ⟨rfl, N3q, e3⟩ := hQ3
  have N3 := Fr.app N0 N3q
  refine own_of (fun t k => st3 t k) ?_
  show own_Go p e below KK T3 (mkF m 15 #[.val (.long q1), .second, .val (.int 3), .val (.ref b1)] [(.int (own_F_method_3 q1 (0 : Int32))), (.int 0), (.ref b1)])
  obtain ⟨T4, h4, X4, e4, W4, V4, st4⟩ := own_stB X3 hx hZ e3 A2_b1 (j := (0 : Int32)) (y := (own_F_method_3 q1 (0 : Int32))) (own_narF _ _) (i := 0) (by decide) (by decide) (show (0 : Nat) < 3 from by decide) (g := (mkF m 15 #[.val (.long q1), .second, .val (.int 3), .val (.ref b1)] [(.int (own_F_method_3 q1 (0 : Int32))), (.int 0), (.ref b1)])) rfl rfl (hb hby d_method_4_15)
  have N4 := Fr.snoc X4 N3 g_b1
  have Zs4 : n0 ≤ h4.size := (by rw [W4.size]; exact Zs1)
  have Kp4 : Keep h0 h4 [] := Kp1.wr W4 (Or.inr sz_b1)
  have A5_b1 : own_A Z h4 b1 "[B" .byte [(.int (own_F_method_3 q1 (0 : Int32))), (.int 0), (.int 0)] := V4
  refine own_of (fun t k => st4 t k) ?_
  show own_Go p e below KK T4 (mkF m 16 #[.val (.long q1), .second, .val (.int 3), .val (.ref b1)] [])
  refine own_at (fun t k => XS.iloadN X4.here hx rfl (hb hby d_method_4_16) rfl k) ?_
  show own_Go p e below KK T4 (mkF m 17 #[.val (.long q1), .second, .val (.int 3), .val (.ref b1)] [(.int 3)])
  refine own_at (fun t k => XS.iconst X4.here hx rfl (hb hby d_method_4_17) k) ?_
  show own_Go p e below KK T4 (mkF m 18 #[.val (.long q1), .second, .val (.int 3), .val (.ref b1)] [(.int 1), (.int 3)])
  have hc18 : (1 : Int32) < (3 : Int32) := by decide
  refine own_at (fun t k => XS.icmpNo X4.here hx rfl (hb hby d_method_4_18) rfl (Jvm.Free.XT.ii_le_f hc18) k) ?_
  show own_Go p e below KK T4 (mkF m 21 #[.val (.long q1), .second, .val (.int 3), .val (.ref b1)] [])
  refine own_at (fun t k => XS.aloadN X4.here hx rfl (hb hby d_method_4_21) rfl rfl k) ?_
  show own_Go p e below KK T4 (mkF m 22 #[.val (.long q1), .second, .val (.int 3), .val (.ref b1)] [(.ref b1)])
  refine own_at (fun t k => XS.iconst X4.here hx rfl (hb hby d_method_4_22) k) ?_
  show own_Go p e below KK T4 (mkF m 23 #[.val (.long q1), .second, .val (.int 3), .val (.ref b1)] [(.int 1), (.ref b1)])
  refine own_at (fun t k => XS.lloadN X4.here hx rfl (hb hby d_method_4_23) rfl k) ?_
  show own_Go p e below KK T4 (mkF m 24 #[.val (.long q1), .second, .val (.int 3), .val (.ref b1)] [(.long q1), (.int 1), (.ref b1)])
  refine own_at (fun t k => XS.iconst X4.here hx rfl (hb hby d_method_4_24) k) ?_
  show own_Go p e below KK T4 (mkF m 25 #[.val (.long q1), .second, .val (.int 3), .val (.ref b1)] [(.int 1), (.long q1), (.int 1), (.ref b1)])
  obtain ⟨_, _, ⟨T6, L6, k6, n6⟩, -, X6, ⟨Lc6, hQ6, l6, y6, z6⟩, st6⟩ := Jvm.LawKit.callS X4 hx (y := (⟨"com/example/isimud/isimud/oscore/OscoreOptionOfRequestPinLaw", "b", "(JI)B"⟩ : MethodName)) hown (mvT hZ (hw _ (List.mem_of_getElem? (i := 53) rfl))) (mvT hZ (hw _ (List.mem_of_getElem? (i := 54) rfl))) (mvT hZ (hw _ (List.mem_of_getElem? (i := 2) rfl))) (mvT hZ (hw _ (List.mem_of_getElem? (i := 55) rfl))) (by decide) (backOf (W := 2) (rm_method_3 l Z a0 hw [] q1 (1 : Int32)  h4 n0 Zs4 ) hZ (hw _ (List.mem_of_getElem? (i := 55) rfl)) (hw _ (List.mem_of_getElem? (i := 2) rfl)) (by decide) (by decide)) (g := (mkF m 25 #[.val (.long q1), .second, .val (.int 3), .val (.ref b1)] [(.int 1), (.long q1), (.int 1), (.ref b1)])) rfl (by rw [hml]; rfl) (argsL := [(.long q1), (.int 1)]) (rest := [(.int 1), (.ref b1)]) (lenOf pd__JI_B rfl) rfl (by show 2 * 0 + _ ≤ _; exact Nat.le_of_eq rfl) (hb hby d_method_4_25) (fun _ _ => ⟨rfl, e4, (by decide : 1 + 0 ≤ _), (by decide : 3 + 0 ≤ _)⟩)
  dsimp only [Pt.U, Pt.locs, Pt.cells, Pt.slots] at X6 l6 y6 z6 st6 hQ6
  subst l6 y6 z6
  obtain ⟨rfl, N6q, e6⟩ := hQ6
  have N6 := Fr.app N4 N6q
  refine own_of (fun t k => st6 t k) ?_
  show own_Go p e below KK T6 (mkF m 28 #[.val (.long q1), .second, .val (.int 3), .val (.ref b1)] [(.int (own_F_method_3 q1 (1 : Int32))), (.int 1), (.ref b1)])
  obtain ⟨T7, h7, X7, e7, W7, V7, st7⟩ := own_stB X6 hx hZ e6 A5_b1 (j := (1 : Int32)) (y := (own_F_method_3 q1 (1 : Int32))) (own_narF _ _) (i := 1) (by decide) (by decide) (show (1 : Nat) < 3 from by decide) (g := (mkF m 28 #[.val (.long q1), .second, .val (.int 3), .val (.ref b1)] [(.int (own_F_method_3 q1 (1 : Int32))), (.int 1), (.ref b1)])) rfl rfl (hb hby d_method_4_28)
  have N7 := Fr.snoc X7 N6 g_b1
  have Zs7 : n0 ≤ h7.size := (by rw [W7.size]; exact Zs4)
  have Kp7 : Keep h0 h7 [] := Kp4.wr W7 (Or.inr sz_b1)
  have A8_b1 : own_A Z h7 b1 "[B" .byte [(.int (own_F_method_3 q1 (0 : Int32))), (.int (own_F_method_3 q1 (1 : Int32))), (.int 0)] := V7
  refine own_of (fun t k => st7 t k) ?_
  show own_Go p e below KK T7 (mkF m 29 #[.val (.long q1), .second, .val (.int 3), .val (.ref b1)] [])
  refine own_at (fun t k => XS.iloadN X7.here hx rfl (hb hby d_method_4_29) rfl k) ?_
  show own_Go p e below KK T7 (mkF m 30 #[.val (.long q1), .second, .val (.int 3), .val (.ref b1)] [(.int 3)])
  refine own_at (fun t k => XS.iconst X7.here hx rfl (hb hby d_method_4_30) k) ?_
  show own_Go p e below KK T7 (mkF m 31 #[.val (.long q1), .second, .val (.int 3), .val (.ref b1)] [(.int 2), (.int 3)])
  have hc31 : (2 : Int32) < (3 : Int32) := by decide
  refine own_at (fun t k => XS.icmpNo X7.here hx rfl (hb hby d_method_4_31) rfl (Jvm.Free.XT.ii_le_f hc31) k) ?_
  show own_Go p e below KK T7 (mkF m 34 #[.val (.long q1), .second, .val (.int 3), .val (.ref b1)] [])
  refine own_at (fun t k => XS.aloadN X7.here hx rfl (hb hby d_method_4_34) rfl rfl k) ?_
  show own_Go p e below KK T7 (mkF m 35 #[.val (.long q1), .second, .val (.int 3), .val (.ref b1)] [(.ref b1)])
  refine own_at (fun t k => XS.iconst X7.here hx rfl (hb hby d_method_4_35) k) ?_
  show own_Go p e below KK T7 (mkF m 36 #[.val (.long q1), .second, .val (.int 3), .val (.ref b1)] [(.int 2), (.ref b1)])
  refine own_at (fun t k => XS.lloadN X7.here hx rfl (hb hby d_method_4_36) rfl k) ?_
  show own_Go p e below KK T7 (mkF m 37 #[.val (.long q1), .second, .val (.int 3), .val (.ref b1)] [(.long q1), (.int 2), (.ref b1)])
  refine own_at (fun t k => XS.iconst X7.here hx rfl (hb hby d_method_4_37) k) ?_
  show own_Go p e below KK T7 (mkF m 38 #[.val (.long q1), .second, .val (.int 3), .val (.ref b1)] [(.int 2), (.long q1), (.int 2), (.ref b1)])
  obtain ⟨_, _, ⟨T9, L9, k9, n9⟩, -, X9, ⟨Lc9, hQ9, l9, y9, z9⟩, st9⟩ := Jvm.LawKit.callS X7 hx (y := (⟨"com/example/isimud/isimud/oscore/OscoreOptionOfRequestPinLaw", "b", "(JI)B"⟩ : MethodName)) hown (mvT hZ (hw _ (List.mem_of_getElem? (i := 53) rfl))) (mvT hZ (hw _ (List.mem_of_getElem? (i := 54) rfl))) (mvT hZ (hw _ (List.mem_of_getElem? (i := 2) rfl))) (mvT hZ (hw _ (List.mem_of_getElem? (i := 55) rfl))) (by decide) (backOf (W := 2) (rm_method_3 l Z a0 hw [] q1 (2 : Int32)  h7 n0 Zs7 ) hZ (hw _ (List.mem_of_getElem? (i := 55) rfl)) (hw _ (List.mem_of_getElem? (i := 2) rfl)) (by decide) (by decide)) (g := (mkF m 38 #[.val (.long q1), .second, .val (.int 3), .val (.ref b1)] [(.int 2), (.long q1), (.int 2), (.ref b1)])) rfl (by rw [hml]; rfl) (argsL := [(.long q1), (.int 2)]) (rest := [(.int 2), (.ref b1)]) (lenOf pd__JI_B rfl) rfl (by show 2 * 0 + _ ≤ _; exact Nat.le_of_eq rfl) (hb hby d_method_4_38) (fun _ _ => ⟨rfl, e7, (by decide : 1 + 0 ≤ _), (by decide : 3 + 0 ≤ _)⟩)
  dsimp only [Pt.U, Pt.locs, Pt.cells, Pt.slots] at X9 l9 y9 z9 st9 hQ9
  subst l9 y9 z9
  obtain ⟨rfl, N9q, e9⟩ := hQ9
  have N9 := Fr.app N7 N9q
  refine own_of (fun t k => st9 t k) ?_
  show own_Go p e below KK T9 (mkF m 41 #[.val (.long q1), .second, .val (.int 3), .val (.ref b1)] [(.int (own_F_method_3 q1 (2 : Int32))), (.int 2), (.ref b1)])
  obtain ⟨T10, h10, X10, e10, W10, V10, st10⟩ := own_stB X9 hx hZ e9 A8_b1 (j := (2 : Int32)) (y := (own_F_method_3 q1 (2 : Int32))) (own_narF _ _) (i := 2) (by decide) (by decide) (show (2 : Nat) < 3 from by decide) (g := (mkF m 41 #[.val (.long q1), .second, .val (.int 3), .val (.ref b1)] [(.int (own_F_method_3 q1 (2 : Int32))), (.int 2), (.ref b1)])) rfl rfl (hb hby d_method_4_41)
  have N10 := Fr.snoc X10 N9 g_b1
  have Zs10 : n0 ≤ h10.size := (by rw [W10.size]; exact Zs7)
  have Kp10 : Keep h0 h10 [] := Kp7.wr W10 (Or.inr sz_b1)
  have A11_b1 : own_A Z h10 b1 "[B" .byte [(.int (own_F_method_3 q1 (0 : Int32))), (.int (own_F_method_3 q1 (1 : Int32))), (.int (own_F_method_3 q1 (2 : Int32)))] := V10
  refine own_of (fun t k => st10 t k) ?_
  show own_Go p e below KK T10 (mkF m 42 #[.val (.long q1), .second, .val (.int 3), .val (.ref b1)] [])
  refine own_at (fun t k => XS.iloadN X10.here hx rfl (hb hby d_method_4_42) rfl k) ?_
  show own_Go p e below KK T10 (mkF m 43 #[.val (.long q1), .second, .val (.int 3), .val (.ref b1)] [(.int 3)])
  refine own_at (fun t k => XS.iconst X10.here hx rfl (hb hby d_method_4_43) k) ?_
  show own_Go p e below KK T10 (mkF m 44 #[.val (.long q1), .second, .val (.int 3), .val (.ref b1)] [(.int 3), (.int 3)])
  have hc44 : ¬ ((3 : Int32) < (3 : Int32)) := by decide
  refine own_at (fun t k => XS.icmpYes X10.here hx rfl (pc0 := 44) (pc' := 55) rfl (hb hby d_method_4_44) rfl (Jvm.Free.XT.ii_le_t hc44) (by decide) (by decide) k) ?_
  show own_Go p e below KK T10 (mkF m 55 #[.val (.long q1), .second, .val (.int 3), .val (.ref b1)] [])
  refine own_at (fun t k => XS.iloadN X10.here hx rfl (hb hby d_method_4_55) rfl k) ?_
  show own_Go p e below KK T10 (mkF m 56 #[.val (.long q1), .second, .val (.int 3), .val (.ref b1)] [(.int 3)])
  refine own_at (fun t k => XS.iconst X10.here hx rfl (hb hby d_method_4_56) k) ?_
  show own_Go p e below KK T10 (mkF m 57 #[.val (.long q1), .second, .val (.int 3), .val (.ref b1)] [(.int 4), (.int 3)])
  have hc57 : ¬ ((4 : Int32) < (3 : Int32)) := by decide
  refine own_at (fun t k => XS.icmpYes X10.here hx rfl (pc0 := 57) (pc' := 68) rfl (hb hby d_method_4_57) rfl (Jvm.Free.XT.ii_le_t hc57) (by decide) (by decide) k) ?_
  show own_Go p e below KK T10 (mkF m 68 #[.val (.long q1), .second, .val (.int 3), .val (.ref b1)] [])
  refine own_at (fun t k => XS.iloadN X10.here hx rfl (hb hby d_method_4_68) rfl k) ?_
  show own_Go p e below KK T10 (mkF m 69 #[.val (.long q1), .second, .val (.int 3), .val (.ref b1)] [(.int 3)])
  refine own_at (fun t k => XS.iconst X10.here hx rfl (hb hby d_method_4_69) k) ?_
  show own_Go p e below KK T10 (mkF m 70 #[.val (.long q1), .second, .val (.int 3), .val (.ref b1)] [(.int 5), (.int 3)])
  have hc70 : ¬ ((5 : Int32) < (3 : Int32)) := by decide
  refine own_at (fun t k => XS.icmpYes X10.here hx rfl (pc0 := 70) (pc' := 81) rfl (hb hby d_method_4_70) rfl (Jvm.Free.XT.ii_le_t hc70) (by decide) (by decide) k) ?_
  show own_Go p e below KK T10 (mkF m 81 #[.val (.long q1), .second, .val (.int 3), .val (.ref b1)] [])
  refine own_at (fun t k => XS.iloadN X10.here hx rfl (hb hby d_method_4_81) rfl k) ?_
  show own_Go p e below KK T10 (mkF m 82 #[.val (.long q1), .second, .val (.int 3), .val (.ref b1)] [(.int 3)])
  refine own_at (fun t k => XS.bipush X10.here hx rfl (hb hby d_method_4_82) k) ?_
  show own_Go p e below KK T10 (mkF m 84 #[.val (.long q1), .second, .val (.int 3), .val (.ref b1)] [(.int 6), (.int 3)])
  have hc84 : ¬ ((6 : Int32) < (3 : Int32)) := by decide
  refine own_at (fun t k => XS.icmpYes X10.here hx rfl (pc0 := 84) (pc' := 97) rfl (hb hby d_method_4_84) rfl (Jvm.Free.XT.ii_le_t hc84) (by decide) (by decide) k) ?_
  show own_Go p e below KK T10 (mkF m 97 #[.val (.long q1), .second, .val (.int 3), .val (.ref b1)] [])
  refine own_at (fun t k => XS.aloadN X10.here hx rfl (hb hby d_method_4_97) rfl rfl k) ?_
  show own_Go p e below KK T10 (mkF m 98 #[.val (.long q1), .second, .val (.int 3), .val (.ref b1)] [(.ref b1)])
  subst hKK
  exact own_retA X10 hx hlk rfl Bd.returns rfl (hb hby d_method_4_98) ⟨b1, rfl, N10, by rw [e10]; exact Kp10, g_b1, sz_b1, by rw [e10]; exact A11_b1⟩ (Nat.le_of_ble_eq_true rfl) (Nat.le_of_ble_eq_true rfl)
theorem d_method_4_47 : decode method_4_code 47 = .ok (.aload_n 3, 1) := by decide +kernel
theorem d_method_4_48 : decode method_4_code 48 = .ok (.iconst 3, 1) := by decide +kernel
theorem d_method_4_49 : decode method_4_code 49 = .ok (.lload_n 0, 1) := by decide +kernel
theorem d_method_4_50 : decode method_4_code 50 = .ok (.iconst 3, 1) := by decide +kernel
theorem d_method_4_51 : decode method_4_code 51 = .ok (.invokestatic 37, 3) := by decide +kernel
theorem d_method_4_54 : decode method_4_code 54 = .ok (.bastore, 1) := by decide +kernel
set_option maxRecDepth 65536 in
set_option maxHeartbeats 40000000 in
theorem rm_make4 (l : Launch) (Z : State) (a0 : Array Value) (hw : ∀ d ∈ tables_1, d.before a0 Z = true) (ws : List Jvm.Cond) (q1 : Int64)  (h0 : Heap) (n0 : Nat) (Z0 : n0 ≤ h0.size)  :
    MetFree l (⟨"com/example/isimud/isimud/oscore/OscoreOptionOfRequestPinLaw", "make", "(JI)[B"⟩ : MethodName) (head1 (Jvm.Cond.code (⟨"com/example/isimud/isimud/oscore/OscoreOptionOfRequestPinLaw", "make", "(JI)[B"⟩ : MethodName) method_4_code 4 (some (.array .byte)) :: ws) ({ frames := 1, cells := 1, slots := 7, locals := 16 } : Room)) (fun a U => a = #[(.long q1), (.int 4)] ∧ Z.Warmed39 U.vm ∧ U.heap = h0) (fun _ _ _ _ _ => True) (fun _ U o U' => ∃ v L, o = .returned v ∧ own_Qf Z [(.int (own_F_method_3 q1 (0 : Int32))), (.int (own_F_method_3 q1 (1 : Int32))), (.int (own_F_method_3 q1 (2 : Int32))), (.int (own_F_method_3 q1 (3 : Int32)))] h0 n0 v U'.heap L ∧ FrameEnd U o U' L ({ frames := 1, cells := 1, slots := 7, locals := 16 } : Room).cells ({ frames := 1, cells := 1, slots := 7, locals := 16 } : Room).slots) := by
  refine MetFree.of_bodySF (plainFor_of_name pn_com_example_isimud_isimud_oscore_OscoreOptionOfRequestPinLaw) hisR ?_
  intro p e s m args below meth c s₁ Bd hml0 hP hK
  obtain ⟨rfl, hZ, hh⟩ := hP
  have hx := Bd.exec
  have hby := Bd.bytes
  have hlk : meth.locks = false := BodyLoose.notSynchronized Bd
  have hml : c.maxLocals = 4 := hml0
  have hown : s.vm.findClass "com/example/isimud/isimud/oscore/OscoreOptionOfRequestPinLaw" = some m.cls := findClass_of_methodNamed Bd.named
  have hnm := (name_of_methodNamed Bd.named Bd.method).1
  have X0 : Stand p l e ({ frames := 1, cells := 1, slots := 7, locals := 16 } : Room) s m #[(.long q1), (.int 4)] below meth c s₁ [] 0 0 := Stand.of_body Bd
  have e0 : s₁.heap = h0 := by rw [← hh, Bd.state]; rfl
  have N0 := Fr.nil n0
  refine own_cast (K := own_K s (own_Qf Z [(.int (own_F_method_3 q1 (0 : Int32))), (.int (own_F_method_3 q1 (1 : Int32))), (.int (own_F_method_3 q1 (2 : Int32))), (.int (own_F_method_3 q1 (3 : Int32)))] h0 n0) 1 7) (ef_method_4 m q1 (4 : Int32)) ?_
  generalize hKK : own_K s (own_Qf Z [(.int (own_F_method_3 q1 (0 : Int32))), (.int (own_F_method_3 q1 (1 : Int32))), (.int (own_F_method_3 q1 (2 : Int32))), (.int (own_F_method_3 q1 (3 : Int32)))] h0 n0) 1 7 = KK
  show own_Go p e below KK s₁ (mkF m 0 #[.val (.long q1), .second, .val (.int 4), .unset] [])
  have Kp0 : Keep h0 h0 [] := Keep.refl _ _
  refine own_at (fun t k => XS.iloadN X0.here hx rfl (hb hby d_method_4_0) rfl k) ?_
  show own_Go p e below KK s₁ (mkF m 1 #[.val (.long q1), .second, .val (.int 4), .unset] [(.int 4)])
  obtain ⟨T1, h1, X1, e1, E1, V1, st1⟩ := own_newA X0 hx hZ (hw _ (List.mem_of_getElem? (i := 4) rfl)) e0 (g := (mkF m 1 #[.val (.long q1), .second, .val (.int 4), .unset] [(.int 4)])) rfl (hb hby d_method_4_1) rfl (by decide) (N := 4) (by decide) (cap := 4) (by decide) (by decide) (by decide) (by decide) (d := "[B") (by first | rfl | decide +kernel) (vs := [(.int 0), (.int 0), (.int 0), (.int 0)]) rfl
  obtain ⟨b1, g1⟩ : ∃ z, z = h0.size := ⟨_, rfl⟩
  rw [← g1] at V1 st1
  have g_b1 : n0 ≤ b1 := by rw [g1]; exact Z0
  have sz_b1 : h0.size ≤ b1 := by rw [g1]; exact Kp0.1
  have Zs1 : n0 ≤ h1.size := Nat.le_trans Z0 E1.1
  have Kp1 : Keep h0 h1 [] := Kp0.ext E1
  have A2_b1 : own_A Z h1 b1 "[B" .byte [(.int 0), (.int 0), (.int 0), (.int 0)] := V1
  refine own_of (fun t k => st1 t k) ?_
  show own_Go p e below KK T1 (mkF m 3 #[.val (.long q1), .second, .val (.int 4), .unset] [(.ref b1)])
  refine own_at (fun t k => XS.astoreN X1.here hx rfl (hb hby d_method_4_3) rfl rfl (l' := #[.val (.long q1), .second, .val (.int 4), .val (.ref b1)]) rfl k) ?_
  show own_Go p e below KK T1 (mkF m 4 #[.val (.long q1), .second, .val (.int 4), .val (.ref b1)] [])
  refine own_at (fun t k => XS.iloadN X1.here hx rfl (hb hby d_method_4_4) rfl k) ?_
  show own_Go p e below KK T1 (mkF m 5 #[.val (.long q1), .second, .val (.int 4), .val (.ref b1)] [(.int 4)])
  have hc5 : (0 : Int32) < (4 : Int32) := by decide
  refine own_at (fun t k => XS.ifNo X1.here hx rfl (hb hby d_method_4_5) rfl (Jvm.Free.XT.i0_le_f hc5) k) ?_
  show own_Go p e below KK T1 (mkF m 8 #[.val (.long q1), .second, .val (.int 4), .val (.ref b1)] [])
  refine own_at (fun t k => XS.aloadN X1.here hx rfl (hb hby d_method_4_8) rfl rfl k) ?_
  show own_Go p e below KK T1 (mkF m 9 #[.val (.long q1), .second, .val (.int 4), .val (.ref b1)] [(.ref b1)])
  refine own_at (fun t k => XS.iconst X1.here hx rfl (hb hby d_method_4_9) k) ?_
  show own_Go p e below KK T1 (mkF m 10 #[.val (.long q1), .second, .val (.int 4), .val (.ref b1)] [(.int 0), (.ref b1)])
  refine own_at (fun t k => XS.lloadN X1.here hx rfl (hb hby d_method_4_10) rfl k) ?_
  show own_Go p e below KK T1 (mkF m 11 #[.val (.long q1), .second, .val (.int 4), .val (.ref b1)] [(.long q1), (.int 0), (.ref b1)])
  refine own_at (fun t k => XS.iconst X1.here hx rfl (hb hby d_method_4_11) k) ?_
  show own_Go p e below KK T1 (mkF m 12 #[.val (.long q1), .second, .val (.int 4), .val (.ref b1)] [(.int 0), (.long q1), (.int 0), (.ref b1)])
  obtain ⟨_, _, ⟨T3, L3, k3, n3⟩, -, X3, ⟨Lc3, hQ3, l3, y3, z3⟩, st3⟩ := Jvm.LawKit.callS X1 hx (y := (⟨"com/example/isimud/isimud/oscore/OscoreOptionOfRequestPinLaw", "b", "(JI)B"⟩ : MethodName)) hown (mvT hZ (hw _ (List.mem_of_getElem? (i := 53) rfl))) (mvT hZ (hw _ (List.mem_of_getElem? (i := 54) rfl))) (mvT hZ (hw _ (List.mem_of_getElem? (i := 2) rfl))) (mvT hZ (hw _ (List.mem_of_getElem? (i := 55) rfl))) (by decide) (backOf (W := 2) (rm_method_3 l Z a0 hw [] q1 (0 : Int32)  h1 n0 Zs1 ) hZ (hw _ (List.mem_of_getElem? (i := 55) rfl)) (hw _ (List.mem_of_getElem? (i := 2) rfl)) (by decide) (by decide)) (g := (mkF m 12 #[.val (.long q1), .second, .val (.int 4), .val (.ref b1)] [(.int 0), (.long q1), (.int 0), (.ref b1)])) rfl (by rw [hml]; rfl) (argsL := [(.long q1), (.int 0)]) (rest := [(.int 0), (.ref b1)]) (lenOf pd__JI_B rfl) rfl (by show 2 * 0 + _ ≤ _; exact Nat.le_of_eq rfl) (hb hby d_method_4_12) (fun _ _ => ⟨rfl, e1, (by decide : 1 + 0 ≤ _), (by decide : 4 + 0 ≤ _)⟩)
  dsimp only [Pt.U, Pt.locs, Pt.cells, Pt.slots] at X3 l3 y3 z3 st3 hQ3
  subst l3 y3 z3
  obtain ⟨rfl, N3q, e3⟩ := hQ3
  have N3 := Fr.app N0 N3q
  refine own_of (fun t k => st3 t k) ?_
  show own_Go p e below KK T3 (mkF m 15 #[.val (.long q1), .second, .val (.int 4), .val (.ref b1)] [(.int (own_F_method_3 q1 (0 : Int32))), (.int 0), (.ref b1)])
  obtain ⟨T4, h4, X4, e4, W4, V4, st4⟩ := own_stB X3 hx hZ e3 A2_b1 (j := (0 : Int32)) (y := (own_F_method_3 q1 (0 : Int32))) (own_narF _ _) (i := 0) (by decide) (by decide) (show (0 : Nat) < 4 from by decide) (g := (mkF m 15 #[.val (.long q1), .second, .val (.int 4), .val (.ref b1)] [(.int (own_F_method_3 q1 (0 : Int32))), (.int 0), (.ref b1)])) rfl rfl (hb hby d_method_4_15)
  have N4 := Fr.snoc X4 N3 g_b1
  have Zs4 : n0 ≤ h4.size := (by rw [W4.size]; exact Zs1)
  have Kp4 : Keep h0 h4 [] := Kp1.wr W4 (Or.inr sz_b1)
  have A5_b1 : own_A Z h4 b1 "[B" .byte [(.int (own_F_method_3 q1 (0 : Int32))), (.int 0), (.int 0), (.int 0)] := V4
  refine own_of (fun t k => st4 t k) ?_
  show own_Go p e below KK T4 (mkF m 16 #[.val (.long q1), .second, .val (.int 4), .val (.ref b1)] [])
  refine own_at (fun t k => XS.iloadN X4.here hx rfl (hb hby d_method_4_16) rfl k) ?_
  show own_Go p e below KK T4 (mkF m 17 #[.val (.long q1), .second, .val (.int 4), .val (.ref b1)] [(.int 4)])
  refine own_at (fun t k => XS.iconst X4.here hx rfl (hb hby d_method_4_17) k) ?_
  show own_Go p e below KK T4 (mkF m 18 #[.val (.long q1), .second, .val (.int 4), .val (.ref b1)] [(.int 1), (.int 4)])
  have hc18 : (1 : Int32) < (4 : Int32) := by decide
  refine own_at (fun t k => XS.icmpNo X4.here hx rfl (hb hby d_method_4_18) rfl (Jvm.Free.XT.ii_le_f hc18) k) ?_
  show own_Go p e below KK T4 (mkF m 21 #[.val (.long q1), .second, .val (.int 4), .val (.ref b1)] [])
  refine own_at (fun t k => XS.aloadN X4.here hx rfl (hb hby d_method_4_21) rfl rfl k) ?_
  show own_Go p e below KK T4 (mkF m 22 #[.val (.long q1), .second, .val (.int 4), .val (.ref b1)] [(.ref b1)])
  refine own_at (fun t k => XS.iconst X4.here hx rfl (hb hby d_method_4_22) k) ?_
  show own_Go p e below KK T4 (mkF m 23 #[.val (.long q1), .second, .val (.int 4), .val (.ref b1)] [(.int 1), (.ref b1)])
  refine own_at (fun t k => XS.lloadN X4.here hx rfl (hb hby d_method_4_23) rfl k) ?_
  show own_Go p e below KK T4 (mkF m 24 #[.val (.long q1), .second, .val (.int 4), .val (.ref b1)] [(.long q1), (.int 1), (.ref b1)])
  refine own_at (fun t k => XS.iconst X4.here hx rfl (hb hby d_method_4_24) k) ?_
  show own_Go p e below KK T4 (mkF m 25 #[.val (.long q1), .second, .val (.int 4), .val (.ref b1)] [(.int 1), (.long q1), (.int 1), (.ref b1)])
  obtain ⟨_, _, ⟨T6, L6, k6, n6⟩, -, X6, ⟨Lc6, hQ6, l6, y6, z6⟩, st6⟩ := Jvm.LawKit.callS X4 hx (y := (⟨"com/example/isimud/isimud/oscore/OscoreOptionOfRequestPinLaw", "b", "(JI)B"⟩ : MethodName)) hown (mvT hZ (hw _ (List.mem_of_getElem? (i := 53) rfl))) (mvT hZ (hw _ (List.mem_of_getElem? (i := 54) rfl))) (mvT hZ (hw _ (List.mem_of_getElem? (i := 2) rfl))) (mvT hZ (hw _ (List.mem_of_getElem? (i := 55) rfl))) (by decide) (backOf (W := 2) (rm_method_3 l Z a0 hw [] q1 (1 : Int32)  h4 n0 Zs4 ) hZ (hw _ (List.mem_of_getElem? (i := 55) rfl)) (hw _ (List.mem_of_getElem? (i := 2) rfl)) (by decide) (by decide)) (g := (mkF m 25 #[.val (.long q1), .second, .val (.int 4), .val (.ref b1)] [(.int 1), (.long q1), (.int 1), (.ref b1)])) rfl (by rw [hml]; rfl) (argsL := [(.long q1), (.int 1)]) (rest := [(.int 1), (.ref b1)]) (lenOf pd__JI_B rfl) rfl (by show 2 * 0 + _ ≤ _; exact Nat.le_of_eq rfl) (hb hby d_method_4_25) (fun _ _ => ⟨rfl, e4, (by decide : 1 + 0 ≤ _), (by decide : 4 + 0 ≤ _)⟩)
  dsimp only [Pt.U, Pt.locs, Pt.cells, Pt.slots] at X6 l6 y6 z6 st6 hQ6
  subst l6 y6 z6
  obtain ⟨rfl, N6q, e6⟩ := hQ6
  have N6 := Fr.app N4 N6q
  refine own_of (fun t k => st6 t k) ?_
  show own_Go p e below KK T6 (mkF m 28 #[.val (.long q1), .second, .val (.int 4), .val (.ref b1)] [(.int (own_F_method_3 q1 (1 : Int32))), (.int 1), (.ref b1)])
  obtain ⟨T7, h7, X7, e7, W7, V7, st7⟩ := own_stB X6 hx hZ e6 A5_b1 (j := (1 : Int32)) (y := (own_F_method_3 q1 (1 : Int32))) (own_narF _ _) (i := 1) (by decide) (by decide) (show (1 : Nat) < 4 from by decide) (g := (mkF m 28 #[.val (.long q1), .second, .val (.int 4), .val (.ref b1)] [(.int (own_F_method_3 q1 (1 : Int32))), (.int 1), (.ref b1)])) rfl rfl (hb hby d_method_4_28)
  have N7 := Fr.snoc X7 N6 g_b1
  have Zs7 : n0 ≤ h7.size := (by rw [W7.size]; exact Zs4)
  have Kp7 : Keep h0 h7 [] := Kp4.wr W7 (Or.inr sz_b1)
  have A8_b1 : own_A Z h7 b1 "[B" .byte [(.int (own_F_method_3 q1 (0 : Int32))), (.int (own_F_method_3 q1 (1 : Int32))), (.int 0), (.int 0)] := V7
  refine own_of (fun t k => st7 t k) ?_
  show own_Go p e below KK T7 (mkF m 29 #[.val (.long q1), .second, .val (.int 4), .val (.ref b1)] [])
  refine own_at (fun t k => XS.iloadN X7.here hx rfl (hb hby d_method_4_29) rfl k) ?_
  show own_Go p e below KK T7 (mkF m 30 #[.val (.long q1), .second, .val (.int 4), .val (.ref b1)] [(.int 4)])
  refine own_at (fun t k => XS.iconst X7.here hx rfl (hb hby d_method_4_30) k) ?_
  show own_Go p e below KK T7 (mkF m 31 #[.val (.long q1), .second, .val (.int 4), .val (.ref b1)] [(.int 2), (.int 4)])
  have hc31 : (2 : Int32) < (4 : Int32) := by decide
  refine own_at (fun t k => XS.icmpNo X7.here hx rfl (hb hby d_method_4_31) rfl (Jvm.Free.XT.ii_le_f hc31) k) ?_
  show own_Go p e below KK T7 (mkF m 34 #[.val (.long q1), .second, .val (.int 4), .val (.ref b1)] [])
  refine own_at (fun t k => XS.aloadN X7.here hx rfl (hb hby d_method_4_34) rfl rfl k) ?_
  show own_Go p e below KK T7 (mkF m 35 #[.val (.long q1), .second, .val (.int 4), .val (.ref b1)] [(.ref b1)])
  refine own_at (fun t k => XS.iconst X7.here hx rfl (hb hby d_method_4_35) k) ?_
  show own_Go p e below KK T7 (mkF m 36 #[.val (.long q1), .second, .val (.int 4), .val (.ref b1)] [(.int 2), (.ref b1)])
  refine own_at (fun t k => XS.lloadN X7.here hx rfl (hb hby d_method_4_36) rfl k) ?_
  show own_Go p e below KK T7 (mkF m 37 #[.val (.long q1), .second, .val (.int 4), .val (.ref b1)] [(.long q1), (.int 2), (.ref b1)])
  refine own_at (fun t k => XS.iconst X7.here hx rfl (hb hby d_method_4_37) k) ?_
  show own_Go p e below KK T7 (mkF m 38 #[.val (.long q1), .second, .val (.int 4), .val (.ref b1)] [(.int 2), (.long q1), (.int 2), (.ref b1)])
  obtain ⟨_, _, ⟨T9, L9, k9, n9⟩, -, X9, ⟨Lc9, hQ9, l9, y9, z9⟩, st9⟩ := Jvm.LawKit.callS X7 hx (y := (⟨"com/example/isimud/isimud/oscore/OscoreOptionOfRequestPinLaw", "b", "(JI)B"⟩ : MethodName)) hown (mvT hZ (hw _ (List.mem_of_getElem? (i := 53) rfl))) (mvT hZ (hw _ (List.mem_of_getElem? (i := 54) rfl))) (mvT hZ (hw _ (List.mem_of_getElem? (i := 2) rfl))) (mvT hZ (hw _ (List.mem_of_getElem? (i := 55) rfl))) (by decide) (backOf (W := 2) (rm_method_3 l Z a0 hw [] q1 (2 : Int32)  h7 n0 Zs7 ) hZ (hw _ (List.mem_of_getElem? (i := 55) rfl)) (hw _ (List.mem_of_getElem? (i := 2) rfl)) (by decide) (by decide)) (g := (mkF m 38 #[.val (.long q1), .second, .val (.int 4), .val (.ref b1)] [(.int 2), (.long q1), (.int 2), (.ref b1)])) rfl (by rw [hml]; rfl) (argsL := [(.long q1), (.int 2)]) (rest := [(.int 2), (.ref b1)]) (lenOf pd__JI_B rfl) rfl (by show 2 * 0 + _ ≤ _; exact Nat.le_of_eq rfl) (hb hby d_method_4_38) (fun _ _ => ⟨rfl, e7, (by decide : 1 + 0 ≤ _), (by decide : 4 + 0 ≤ _)⟩)
  dsimp only [Pt.U, Pt.locs, Pt.cells, Pt.slots] at X9 l9 y9 z9 st9 hQ9
  subst l9 y9 z9
  obtain ⟨rfl, N9q, e9⟩ := hQ9
  have N9 := Fr.app N7 N9q
  refine own_of (fun t k => st9 t k) ?_
  show own_Go p e below KK T9 (mkF m 41 #[.val (.long q1), .second, .val (.int 4), .val (.ref b1)] [(.int (own_F_method_3 q1 (2 : Int32))), (.int 2), (.ref b1)])
  obtain ⟨T10, h10, X10, e10, W10, V10, st10⟩ := own_stB X9 hx hZ e9 A8_b1 (j := (2 : Int32)) (y := (own_F_method_3 q1 (2 : Int32))) (own_narF _ _) (i := 2) (by decide) (by decide) (show (2 : Nat) < 4 from by decide) (g := (mkF m 41 #[.val (.long q1), .second, .val (.int 4), .val (.ref b1)] [(.int (own_F_method_3 q1 (2 : Int32))), (.int 2), (.ref b1)])) rfl rfl (hb hby d_method_4_41)
  have N10 := Fr.snoc X10 N9 g_b1
  have Zs10 : n0 ≤ h10.size := (by rw [W10.size]; exact Zs7)
  have Kp10 : Keep h0 h10 [] := Kp7.wr W10 (Or.inr sz_b1)
  have A11_b1 : own_A Z h10 b1 "[B" .byte [(.int (own_F_method_3 q1 (0 : Int32))), (.int (own_F_method_3 q1 (1 : Int32))), (.int (own_F_method_3 q1 (2 : Int32))), (.int 0)] := V10
  refine own_of (fun t k => st10 t k) ?_
  show own_Go p e below KK T10 (mkF m 42 #[.val (.long q1), .second, .val (.int 4), .val (.ref b1)] [])
  refine own_at (fun t k => XS.iloadN X10.here hx rfl (hb hby d_method_4_42) rfl k) ?_
  show own_Go p e below KK T10 (mkF m 43 #[.val (.long q1), .second, .val (.int 4), .val (.ref b1)] [(.int 4)])
  refine own_at (fun t k => XS.iconst X10.here hx rfl (hb hby d_method_4_43) k) ?_
  show own_Go p e below KK T10 (mkF m 44 #[.val (.long q1), .second, .val (.int 4), .val (.ref b1)] [(.int 3), (.int 4)])
  have hc44 : (3 : Int32) < (4 : Int32) := by decide
  refine own_at (fun t k => XS.icmpNo X10.here hx rfl (hb hby d_method_4_44) rfl (Jvm.Free.XT.ii_le_f hc44) k) ?_
  show own_Go p e below KK T10 (mkF m 47 #[.val (.long q1), .second, .val (.int 4), .val (.ref b1)] [])
  refine own_at (fun t k => XS.aloadN X10.here hx rfl (hb hby d_method_4_47) rfl rfl k) ?_
  show own_Go p e below KK T10 (mkF m 48 #[.val (.long q1), .second, .val (.int 4), .val (.ref b1)] [(.ref b1)])
  refine own_at (fun t k => XS.iconst X10.here hx rfl (hb hby d_method_4_48) k) ?_
  show own_Go p e below KK T10 (mkF m 49 #[.val (.long q1), .second, .val (.int 4), .val (.ref b1)] [(.int 3), (.ref b1)])
  refine own_at (fun t k => XS.lloadN X10.here hx rfl (hb hby d_method_4_49) rfl k) ?_
  show own_Go p e below KK T10 (mkF m 50 #[.val (.long q1), .second, .val (.int 4), .val (.ref b1)] [(.long q1), (.int 3), (.ref b1)])
  refine own_at (fun t k => XS.iconst X10.here hx rfl (hb hby d_method_4_50) k) ?_
  show own_Go p e below KK T10 (mkF m 51 #[.val (.long q1), .second, .val (.int 4), .val (.ref b1)] [(.int 3), (.long q1), (.int 3), (.ref b1)])
  obtain ⟨_, _, ⟨T12, L12, k12, n12⟩, -, X12, ⟨Lc12, hQ12, l12, y12, z12⟩, st12⟩ := Jvm.LawKit.callS X10 hx (y := (⟨"com/example/isimud/isimud/oscore/OscoreOptionOfRequestPinLaw", "b", "(JI)B"⟩ : MethodName)) hown (mvT hZ (hw _ (List.mem_of_getElem? (i := 53) rfl))) (mvT hZ (hw _ (List.mem_of_getElem? (i := 54) rfl))) (mvT hZ (hw _ (List.mem_of_getElem? (i := 2) rfl))) (mvT hZ (hw _ (List.mem_of_getElem? (i := 55) rfl))) (by decide) (backOf (W := 2) (rm_method_3 l Z a0 hw [] q1 (3 : Int32)  h10 n0 Zs10 ) hZ (hw _ (List.mem_of_getElem? (i := 55) rfl)) (hw _ (List.mem_of_getElem? (i := 2) rfl)) (by decide) (by decide)) (g := (mkF m 51 #[.val (.long q1), .second, .val (.int 4), .val (.ref b1)] [(.int 3), (.long q1), (.int 3), (.ref b1)])) rfl (by rw [hml]; rfl) (argsL := [(.long q1), (.int 3)]) (rest := [(.int 3), (.ref b1)]) (lenOf pd__JI_B rfl) rfl (by show 2 * 0 + _ ≤ _; exact Nat.le_of_eq rfl) (hb hby d_method_4_51) (fun _ _ => ⟨rfl, e10, (by decide : 1 + 0 ≤ _), (by decide : 4 + 0 ≤ _)⟩)
  dsimp only [Pt.U, Pt.locs, Pt.cells, Pt.slots] at X12 l12 y12 z12 st12 hQ12
  subst l12 y12 z12
  obtain ⟨rfl, N12q, e12⟩ := hQ12
  have N12 := Fr.app N10 N12q
  refine own_of (fun t k => st12 t k) ?_
  show own_Go p e below KK T12 (mkF m 54 #[.val (.long q1), .second, .val (.int 4), .val (.ref b1)] [(.int (own_F_method_3 q1 (3 : Int32))), (.int 3), (.ref b1)])
  obtain ⟨T13, h13, X13, e13, W13, V13, st13⟩ := own_stB X12 hx hZ e12 A11_b1 (j := (3 : Int32)) (y := (own_F_method_3 q1 (3 : Int32))) (own_narF _ _) (i := 3) (by decide) (by decide) (show (3 : Nat) < 4 from by decide) (g := (mkF m 54 #[.val (.long q1), .second, .val (.int 4), .val (.ref b1)] [(.int (own_F_method_3 q1 (3 : Int32))), (.int 3), (.ref b1)])) rfl rfl (hb hby d_method_4_54)
  have N13 := Fr.snoc X13 N12 g_b1
  have Zs13 : n0 ≤ h13.size := (by rw [W13.size]; exact Zs10)
  have Kp13 : Keep h0 h13 [] := Kp10.wr W13 (Or.inr sz_b1)
  have A14_b1 : own_A Z h13 b1 "[B" .byte [(.int (own_F_method_3 q1 (0 : Int32))), (.int (own_F_method_3 q1 (1 : Int32))), (.int (own_F_method_3 q1 (2 : Int32))), (.int (own_F_method_3 q1 (3 : Int32)))] := V13
  refine own_of (fun t k => st13 t k) ?_
  show own_Go p e below KK T13 (mkF m 55 #[.val (.long q1), .second, .val (.int 4), .val (.ref b1)] [])
  refine own_at (fun t k => XS.iloadN X13.here hx rfl (hb hby d_method_4_55) rfl k) ?_
  show own_Go p e below KK T13 (mkF m 56 #[.val (.long q1), .second, .val (.int 4), .val (.ref b1)] [(.int 4)])
  refine own_at (fun t k => XS.iconst X13.here hx rfl (hb hby d_method_4_56) k) ?_
  show own_Go p e below KK T13 (mkF m 57 #[.val (.long q1), .second, .val (.int 4), .val (.ref b1)] [(.int 4), (.int 4)])
  have hc57 : ¬ ((4 : Int32) < (4 : Int32)) := by decide
  refine own_at (fun t k => XS.icmpYes X13.here hx rfl (pc0 := 57) (pc' := 68) rfl (hb hby d_method_4_57) rfl (Jvm.Free.XT.ii_le_t hc57) (by decide) (by decide) k) ?_
  show own_Go p e below KK T13 (mkF m 68 #[.val (.long q1), .second, .val (.int 4), .val (.ref b1)] [])
  refine own_at (fun t k => XS.iloadN X13.here hx rfl (hb hby d_method_4_68) rfl k) ?_
  show own_Go p e below KK T13 (mkF m 69 #[.val (.long q1), .second, .val (.int 4), .val (.ref b1)] [(.int 4)])
  refine own_at (fun t k => XS.iconst X13.here hx rfl (hb hby d_method_4_69) k) ?_
  show own_Go p e below KK T13 (mkF m 70 #[.val (.long q1), .second, .val (.int 4), .val (.ref b1)] [(.int 5), (.int 4)])
  have hc70 : ¬ ((5 : Int32) < (4 : Int32)) := by decide
  refine own_at (fun t k => XS.icmpYes X13.here hx rfl (pc0 := 70) (pc' := 81) rfl (hb hby d_method_4_70) rfl (Jvm.Free.XT.ii_le_t hc70) (by decide) (by decide) k) ?_
  show own_Go p e below KK T13 (mkF m 81 #[.val (.long q1), .second, .val (.int 4), .val (.ref b1)] [])
  refine own_at (fun t k => XS.iloadN X13.here hx rfl (hb hby d_method_4_81) rfl k) ?_
  show own_Go p e below KK T13 (mkF m 82 #[.val (.long q1), .second, .val (.int 4), .val (.ref b1)] [(.int 4)])
  refine own_at (fun t k => XS.bipush X13.here hx rfl (hb hby d_method_4_82) k) ?_
  show own_Go p e below KK T13 (mkF m 84 #[.val (.long q1), .second, .val (.int 4), .val (.ref b1)] [(.int 6), (.int 4)])
  have hc84 : ¬ ((6 : Int32) < (4 : Int32)) := by decide
  refine own_at (fun t k => XS.icmpYes X13.here hx rfl (pc0 := 84) (pc' := 97) rfl (hb hby d_method_4_84) rfl (Jvm.Free.XT.ii_le_t hc84) (by decide) (by decide) k) ?_
  show own_Go p e below KK T13 (mkF m 97 #[.val (.long q1), .second, .val (.int 4), .val (.ref b1)] [])
  refine own_at (fun t k => XS.aloadN X13.here hx rfl (hb hby d_method_4_97) rfl rfl k) ?_
  show own_Go p e below KK T13 (mkF m 98 #[.val (.long q1), .second, .val (.int 4), .val (.ref b1)] [(.ref b1)])
  subst hKK
  exact own_retA X13 hx hlk rfl Bd.returns rfl (hb hby d_method_4_98) ⟨b1, rfl, N13, by rw [e13]; exact Kp13, g_b1, sz_b1, by rw [e13]; exact A14_b1⟩ (Nat.le_of_ble_eq_true rfl) (Nat.le_of_ble_eq_true rfl)
theorem d_method_4_60 : decode method_4_code 60 = .ok (.aload_n 3, 1) := by decide +kernel
theorem d_method_4_61 : decode method_4_code 61 = .ok (.iconst 4, 1) := by decide +kernel
theorem d_method_4_62 : decode method_4_code 62 = .ok (.lload_n 0, 1) := by decide +kernel
theorem d_method_4_63 : decode method_4_code 63 = .ok (.iconst 4, 1) := by decide +kernel
theorem d_method_4_64 : decode method_4_code 64 = .ok (.invokestatic 37, 3) := by decide +kernel
theorem d_method_4_67 : decode method_4_code 67 = .ok (.bastore, 1) := by decide +kernel
set_option maxRecDepth 65536 in
set_option maxHeartbeats 40000000 in
theorem rm_make5 (l : Launch) (Z : State) (a0 : Array Value) (hw : ∀ d ∈ tables_1, d.before a0 Z = true) (ws : List Jvm.Cond) (q1 : Int64)  (h0 : Heap) (n0 : Nat) (Z0 : n0 ≤ h0.size)  :
    MetFree l (⟨"com/example/isimud/isimud/oscore/OscoreOptionOfRequestPinLaw", "make", "(JI)[B"⟩ : MethodName) (head1 (Jvm.Cond.code (⟨"com/example/isimud/isimud/oscore/OscoreOptionOfRequestPinLaw", "make", "(JI)[B"⟩ : MethodName) method_4_code 4 (some (.array .byte)) :: ws) ({ frames := 1, cells := 1, slots := 7, locals := 16 } : Room)) (fun a U => a = #[(.long q1), (.int 5)] ∧ Z.Warmed39 U.vm ∧ U.heap = h0) (fun _ _ _ _ _ => True) (fun _ U o U' => ∃ v L, o = .returned v ∧ own_Qf Z [(.int (own_F_method_3 q1 (0 : Int32))), (.int (own_F_method_3 q1 (1 : Int32))), (.int (own_F_method_3 q1 (2 : Int32))), (.int (own_F_method_3 q1 (3 : Int32))), (.int (own_F_method_3 q1 (4 : Int32)))] h0 n0 v U'.heap L ∧ FrameEnd U o U' L ({ frames := 1, cells := 1, slots := 7, locals := 16 } : Room).cells ({ frames := 1, cells := 1, slots := 7, locals := 16 } : Room).slots) := by
  refine MetFree.of_bodySF (plainFor_of_name pn_com_example_isimud_isimud_oscore_OscoreOptionOfRequestPinLaw) hisR ?_
  intro p e s m args below meth c s₁ Bd hml0 hP hK
  obtain ⟨rfl, hZ, hh⟩ := hP
  have hx := Bd.exec
  have hby := Bd.bytes
  have hlk : meth.locks = false := BodyLoose.notSynchronized Bd
  have hml : c.maxLocals = 4 := hml0
  have hown : s.vm.findClass "com/example/isimud/isimud/oscore/OscoreOptionOfRequestPinLaw" = some m.cls := findClass_of_methodNamed Bd.named
  have hnm := (name_of_methodNamed Bd.named Bd.method).1
  have X0 : Stand p l e ({ frames := 1, cells := 1, slots := 7, locals := 16 } : Room) s m #[(.long q1), (.int 5)] below meth c s₁ [] 0 0 := Stand.of_body Bd
  have e0 : s₁.heap = h0 := by rw [← hh, Bd.state]; rfl
  have N0 := Fr.nil n0
  refine own_cast (K := own_K s (own_Qf Z [(.int (own_F_method_3 q1 (0 : Int32))), (.int (own_F_method_3 q1 (1 : Int32))), (.int (own_F_method_3 q1 (2 : Int32))), (.int (own_F_method_3 q1 (3 : Int32))), (.int (own_F_method_3 q1 (4 : Int32)))] h0 n0) 1 7) (ef_method_4 m q1 (5 : Int32)) ?_
  generalize hKK : own_K s (own_Qf Z [(.int (own_F_method_3 q1 (0 : Int32))), (.int (own_F_method_3 q1 (1 : Int32))), (.int (own_F_method_3 q1 (2 : Int32))), (.int (own_F_method_3 q1 (3 : Int32))), (.int (own_F_method_3 q1 (4 : Int32)))] h0 n0) 1 7 = KK
  show own_Go p e below KK s₁ (mkF m 0 #[.val (.long q1), .second, .val (.int 5), .unset] [])
  have Kp0 : Keep h0 h0 [] := Keep.refl _ _
  refine own_at (fun t k => XS.iloadN X0.here hx rfl (hb hby d_method_4_0) rfl k) ?_
  show own_Go p e below KK s₁ (mkF m 1 #[.val (.long q1), .second, .val (.int 5), .unset] [(.int 5)])
  obtain ⟨T1, h1, X1, e1, E1, V1, st1⟩ := own_newA X0 hx hZ (hw _ (List.mem_of_getElem? (i := 4) rfl)) e0 (g := (mkF m 1 #[.val (.long q1), .second, .val (.int 5), .unset] [(.int 5)])) rfl (hb hby d_method_4_1) rfl (by decide) (N := 5) (by decide) (cap := 5) (by decide) (by decide) (by decide) (by decide) (d := "[B") (by first | rfl | decide +kernel) (vs := [(.int 0), (.int 0), (.int 0), (.int 0), (.int 0)]) rfl
  obtain ⟨b1, g1⟩ : ∃ z, z = h0.size := ⟨_, rfl⟩
  rw [← g1] at V1 st1
  have g_b1 : n0 ≤ b1 := by rw [g1]; exact Z0
  have sz_b1 : h0.size ≤ b1 := by rw [g1]; exact Kp0.1
  have Zs1 : n0 ≤ h1.size := Nat.le_trans Z0 E1.1
  have Kp1 : Keep h0 h1 [] := Kp0.ext E1
  have A2_b1 : own_A Z h1 b1 "[B" .byte [(.int 0), (.int 0), (.int 0), (.int 0), (.int 0)] := V1
  refine own_of (fun t k => st1 t k) ?_
  show own_Go p e below KK T1 (mkF m 3 #[.val (.long q1), .second, .val (.int 5), .unset] [(.ref b1)])
  refine own_at (fun t k => XS.astoreN X1.here hx rfl (hb hby d_method_4_3) rfl rfl (l' := #[.val (.long q1), .second, .val (.int 5), .val (.ref b1)]) rfl k) ?_
  show own_Go p e below KK T1 (mkF m 4 #[.val (.long q1), .second, .val (.int 5), .val (.ref b1)] [])
  refine own_at (fun t k => XS.iloadN X1.here hx rfl (hb hby d_method_4_4) rfl k) ?_
  show own_Go p e below KK T1 (mkF m 5 #[.val (.long q1), .second, .val (.int 5), .val (.ref b1)] [(.int 5)])
  have hc5 : (0 : Int32) < (5 : Int32) := by decide
  refine own_at (fun t k => XS.ifNo X1.here hx rfl (hb hby d_method_4_5) rfl (Jvm.Free.XT.i0_le_f hc5) k) ?_
  show own_Go p e below KK T1 (mkF m 8 #[.val (.long q1), .second, .val (.int 5), .val (.ref b1)] [])
  refine own_at (fun t k => XS.aloadN X1.here hx rfl (hb hby d_method_4_8) rfl rfl k) ?_
  show own_Go p e below KK T1 (mkF m 9 #[.val (.long q1), .second, .val (.int 5), .val (.ref b1)] [(.ref b1)])
  refine own_at (fun t k => XS.iconst X1.here hx rfl (hb hby d_method_4_9) k) ?_
  show own_Go p e below KK T1 (mkF m 10 #[.val (.long q1), .second, .val (.int 5), .val (.ref b1)] [(.int 0), (.ref b1)])
  refine own_at (fun t k => XS.lloadN X1.here hx rfl (hb hby d_method_4_10) rfl k) ?_
  show own_Go p e below KK T1 (mkF m 11 #[.val (.long q1), .second, .val (.int 5), .val (.ref b1)] [(.long q1), (.int 0), (.ref b1)])
  refine own_at (fun t k => XS.iconst X1.here hx rfl (hb hby d_method_4_11) k) ?_
  show own_Go p e below KK T1 (mkF m 12 #[.val (.long q1), .second, .val (.int 5), .val (.ref b1)] [(.int 0), (.long q1), (.int 0), (.ref b1)])
  obtain ⟨_, _, ⟨T3, L3, k3, n3⟩, -, X3, ⟨Lc3, hQ3, l3, y3, z3⟩, st3⟩ := Jvm.LawKit.callS X1 hx (y := (⟨"com/example/isimud/isimud/oscore/OscoreOptionOfRequestPinLaw", "b", "(JI)B"⟩ : MethodName)) hown (mvT hZ (hw _ (List.mem_of_getElem? (i := 53) rfl))) (mvT hZ (hw _ (List.mem_of_getElem? (i := 54) rfl))) (mvT hZ (hw _ (List.mem_of_getElem? (i := 2) rfl))) (mvT hZ (hw _ (List.mem_of_getElem? (i := 55) rfl))) (by decide) (backOf (W := 2) (rm_method_3 l Z a0 hw [] q1 (0 : Int32)  h1 n0 Zs1 ) hZ (hw _ (List.mem_of_getElem? (i := 55) rfl)) (hw _ (List.mem_of_getElem? (i := 2) rfl)) (by decide) (by decide)) (g := (mkF m 12 #[.val (.long q1), .second, .val (.int 5), .val (.ref b1)] [(.int 0), (.long q1), (.int 0), (.ref b1)])) rfl (by rw [hml]; rfl) (argsL := [(.long q1), (.int 0)]) (rest := [(.int 0), (.ref b1)]) (lenOf pd__JI_B rfl) rfl (by show 2 * 0 + _ ≤ _; exact Nat.le_of_eq rfl) (hb hby d_method_4_12) (fun _ _ => ⟨rfl, e1, (by decide : 1 + 0 ≤ _), (by decide : 5 + 0 ≤ _)⟩)
  dsimp only [Pt.U, Pt.locs, Pt.cells, Pt.slots] at X3 l3 y3 z3 st3 hQ3
  subst l3 y3 z3
  obtain ⟨rfl, N3q, e3⟩ := hQ3
  have N3 := Fr.app N0 N3q
  refine own_of (fun t k => st3 t k) ?_
  show own_Go p e below KK T3 (mkF m 15 #[.val (.long q1), .second, .val (.int 5), .val (.ref b1)] [(.int (own_F_method_3 q1 (0 : Int32))), (.int 0), (.ref b1)])
  obtain ⟨T4, h4, X4, e4, W4, V4, st4⟩ := own_stB X3 hx hZ e3 A2_b1 (j := (0 : Int32)) (y := (own_F_method_3 q1 (0 : Int32))) (own_narF _ _) (i := 0) (by decide) (by decide) (show (0 : Nat) < 5 from by decide) (g := (mkF m 15 #[.val (.long q1), .second, .val (.int 5), .val (.ref b1)] [(.int (own_F_method_3 q1 (0 : Int32))), (.int 0), (.ref b1)])) rfl rfl (hb hby d_method_4_15)
  have N4 := Fr.snoc X4 N3 g_b1
  have Zs4 : n0 ≤ h4.size := (by rw [W4.size]; exact Zs1)
  have Kp4 : Keep h0 h4 [] := Kp1.wr W4 (Or.inr sz_b1)
  have A5_b1 : own_A Z h4 b1 "[B" .byte [(.int (own_F_method_3 q1 (0 : Int32))), (.int 0), (.int 0), (.int 0), (.int 0)] := V4
  refine own_of (fun t k => st4 t k) ?_
  show own_Go p e below KK T4 (mkF m 16 #[.val (.long q1), .second, .val (.int 5), .val (.ref b1)] [])
  refine own_at (fun t k => XS.iloadN X4.here hx rfl (hb hby d_method_4_16) rfl k) ?_
  show own_Go p e below KK T4 (mkF m 17 #[.val (.long q1), .second, .val (.int 5), .val (.ref b1)] [(.int 5)])
  refine own_at (fun t k => XS.iconst X4.here hx rfl (hb hby d_method_4_17) k) ?_
  show own_Go p e below KK T4 (mkF m 18 #[.val (.long q1), .second, .val (.int 5), .val (.ref b1)] [(.int 1), (.int 5)])
  have hc18 : (1 : Int32) < (5 : Int32) := by decide
  refine own_at (fun t k => XS.icmpNo X4.here hx rfl (hb hby d_method_4_18) rfl (Jvm.Free.XT.ii_le_f hc18) k) ?_
  show own_Go p e below KK T4 (mkF m 21 #[.val (.long q1), .second, .val (.int 5), .val (.ref b1)] [])
  refine own_at (fun t k => XS.aloadN X4.here hx rfl (hb hby d_method_4_21) rfl rfl k) ?_
  show own_Go p e below KK T4 (mkF m 22 #[.val (.long q1), .second, .val (.int 5), .val (.ref b1)] [(.ref b1)])
  refine own_at (fun t k => XS.iconst X4.here hx rfl (hb hby d_method_4_22) k) ?_
  show own_Go p e below KK T4 (mkF m 23 #[.val (.long q1), .second, .val (.int 5), .val (.ref b1)] [(.int 1), (.ref b1)])
  refine own_at (fun t k => XS.lloadN X4.here hx rfl (hb hby d_method_4_23) rfl k) ?_
  show own_Go p e below KK T4 (mkF m 24 #[.val (.long q1), .second, .val (.int 5), .val (.ref b1)] [(.long q1), (.int 1), (.ref b1)])
  refine own_at (fun t k => XS.iconst X4.here hx rfl (hb hby d_method_4_24) k) ?_
  show own_Go p e below KK T4 (mkF m 25 #[.val (.long q1), .second, .val (.int 5), .val (.ref b1)] [(.int 1), (.long q1), (.int 1), (.ref b1)])
  obtain ⟨_, _, ⟨T6, L6, k6, n6⟩, -, X6, ⟨Lc6, hQ6, l6, y6, z6⟩, st6⟩ := Jvm.LawKit.callS X4 hx (y := (⟨"com/example/isimud/isimud/oscore/OscoreOptionOfRequestPinLaw", "b", "(JI)B"⟩ : MethodName)) hown (mvT hZ (hw _ (List.mem_of_getElem? (i := 53) rfl))) (mvT hZ (hw _ (List.mem_of_getElem? (i := 54) rfl))) (mvT hZ (hw _ (List.mem_of_getElem? (i := 2) rfl))) (mvT hZ (hw _ (List.mem_of_getElem? (i := 55) rfl))) (by decide) (backOf (W := 2) (rm_method_3 l Z a0 hw [] q1 (1 : Int32)  h4 n0 Zs4 ) hZ (hw _ (List.mem_of_getElem? (i := 55) rfl)) (hw _ (List.mem_of_getElem? (i := 2) rfl)) (by decide) (by decide)) (g := (mkF m 25 #[.val (.long q1), .second, .val (.int 5), .val (.ref b1)] [(.int 1), (.long q1), (.int 1), (.ref b1)])) rfl (by rw [hml]; rfl) (argsL := [(.long q1), (.int 1)]) (rest := [(.int 1), (.ref b1)]) (lenOf pd__JI_B rfl) rfl (by show 2 * 0 + _ ≤ _; exact Nat.le_of_eq rfl) (hb hby d_method_4_25) (fun _ _ => ⟨rfl, e4, (by decide : 1 + 0 ≤ _), (by decide : 5 + 0 ≤ _)⟩)
  dsimp only [Pt.U, Pt.locs, Pt.cells, Pt.slots] at X6 l6 y6 z6 st6 hQ6
  subst l6 y6 z6
  obtain ⟨rfl, N6q, e6⟩ := hQ6
  have N6 := Fr.app N4 N6q
  refine own_of (fun t k => st6 t k) ?_
  show own_Go p e below KK T6 (mkF m 28 #[.val (.long q1), .second, .val (.int 5), .val (.ref b1)] [(.int (own_F_method_3 q1 (1 : Int32))), (.int 1), (.ref b1)])
  obtain ⟨T7, h7, X7, e7, W7, V7, st7⟩ := own_stB X6 hx hZ e6 A5_b1 (j := (1 : Int32)) (y := (own_F_method_3 q1 (1 : Int32))) (own_narF _ _) (i := 1) (by decide) (by decide) (show (1 : Nat) < 5 from by decide) (g := (mkF m 28 #[.val (.long q1), .second, .val (.int 5), .val (.ref b1)] [(.int (own_F_method_3 q1 (1 : Int32))), (.int 1), (.ref b1)])) rfl rfl (hb hby d_method_4_28)
  have N7 := Fr.snoc X7 N6 g_b1
  have Zs7 : n0 ≤ h7.size := (by rw [W7.size]; exact Zs4)
  have Kp7 : Keep h0 h7 [] := Kp4.wr W7 (Or.inr sz_b1)
  have A8_b1 : own_A Z h7 b1 "[B" .byte [(.int (own_F_method_3 q1 (0 : Int32))), (.int (own_F_method_3 q1 (1 : Int32))), (.int 0), (.int 0), (.int 0)] := V7
  refine own_of (fun t k => st7 t k) ?_
  show own_Go p e below KK T7 (mkF m 29 #[.val (.long q1), .second, .val (.int 5), .val (.ref b1)] [])
  refine own_at (fun t k => XS.iloadN X7.here hx rfl (hb hby d_method_4_29) rfl k) ?_
  show own_Go p e below KK T7 (mkF m 30 #[.val (.long q1), .second, .val (.int 5), .val (.ref b1)] [(.int 5)])
  refine own_at (fun t k => XS.iconst X7.here hx rfl (hb hby d_method_4_30) k) ?_
  show own_Go p e below KK T7 (mkF m 31 #[.val (.long q1), .second, .val (.int 5), .val (.ref b1)] [(.int 2), (.int 5)])
  have hc31 : (2 : Int32) < (5 : Int32) := by decide
  refine own_at (fun t k => XS.icmpNo X7.here hx rfl (hb hby d_method_4_31) rfl (Jvm.Free.XT.ii_le_f hc31) k) ?_
  show own_Go p e below KK T7 (mkF m 34 #[.val (.long q1), .second, .val (.int 5), .val (.ref b1)] [])
  refine own_at (fun t k => XS.aloadN X7.here hx rfl (hb hby d_method_4_34) rfl rfl k) ?_
  show own_Go p e below KK T7 (mkF m 35 #[.val (.long q1), .second, .val (.int 5), .val (.ref b1)] [(.ref b1)])
  refine own_at (fun t k => XS.iconst X7.here hx rfl (hb hby d_method_4_35) k) ?_
  show own_Go p e below KK T7 (mkF m 36 #[.val (.long q1), .second, .val (.int 5), .val (.ref b1)] [(.int 2), (.ref b1)])
  refine own_at (fun t k => XS.lloadN X7.here hx rfl (hb hby d_method_4_36) rfl k) ?_
  show own_Go p e below KK T7 (mkF m 37 #[.val (.long q1), .second, .val (.int 5), .val (.ref b1)] [(.long q1), (.int 2), (.ref b1)])
  refine own_at (fun t k => XS.iconst X7.here hx rfl (hb hby d_method_4_37) k) ?_
  show own_Go p e below KK T7 (mkF m 38 #[.val (.long q1), .second, .val (.int 5), .val (.ref b1)] [(.int 2), (.long q1), (.int 2), (.ref b1)])
  obtain ⟨_, _, ⟨T9, L9, k9, n9⟩, -, X9, ⟨Lc9, hQ9, l9, y9, z9⟩, st9⟩ := Jvm.LawKit.callS X7 hx (y := (⟨"com/example/isimud/isimud/oscore/OscoreOptionOfRequestPinLaw", "b", "(JI)B"⟩ : MethodName)) hown (mvT hZ (hw _ (List.mem_of_getElem? (i := 53) rfl))) (mvT hZ (hw _ (List.mem_of_getElem? (i := 54) rfl))) (mvT hZ (hw _ (List.mem_of_getElem? (i := 2) rfl))) (mvT hZ (hw _ (List.mem_of_getElem? (i := 55) rfl))) (by decide) (backOf (W := 2) (rm_method_3 l Z a0 hw [] q1 (2 : Int32)  h7 n0 Zs7 ) hZ (hw _ (List.mem_of_getElem? (i := 55) rfl)) (hw _ (List.mem_of_getElem? (i := 2) rfl)) (by decide) (by decide)) (g := (mkF m 38 #[.val (.long q1), .second, .val (.int 5), .val (.ref b1)] [(.int 2), (.long q1), (.int 2), (.ref b1)])) rfl (by rw [hml]; rfl) (argsL := [(.long q1), (.int 2)]) (rest := [(.int 2), (.ref b1)]) (lenOf pd__JI_B rfl) rfl (by show 2 * 0 + _ ≤ _; exact Nat.le_of_eq rfl) (hb hby d_method_4_38) (fun _ _ => ⟨rfl, e7, (by decide : 1 + 0 ≤ _), (by decide : 5 + 0 ≤ _)⟩)
  dsimp only [Pt.U, Pt.locs, Pt.cells, Pt.slots] at X9 l9 y9 z9 st9 hQ9
  subst l9 y9 z9
  obtain ⟨rfl, N9q, e9⟩ := hQ9
  have N9 := Fr.app N7 N9q
  refine own_of (fun t k => st9 t k) ?_
  show own_Go p e below KK T9 (mkF m 41 #[.val (.long q1), .second, .val (.int 5), .val (.ref b1)] [(.int (own_F_method_3 q1 (2 : Int32))), (.int 2), (.ref b1)])
  obtain ⟨T10, h10, X10, e10, W10, V10, st10⟩ := own_stB X9 hx hZ e9 A8_b1 (j := (2 : Int32)) (y := (own_F_method_3 q1 (2 : Int32))) (own_narF _ _) (i := 2) (by decide) (by decide) (show (2 : Nat) < 5 from by decide) (g := (mkF m 41 #[.val (.long q1), .second, .val (.int 5), .val (.ref b1)] [(.int (own_F_method_3 q1 (2 : Int32))), (.int 2), (.ref b1)])) rfl rfl (hb hby d_method_4_41)
  have N10 := Fr.snoc X10 N9 g_b1
  have Zs10 : n0 ≤ h10.size := (by rw [W10.size]; exact Zs7)
  have Kp10 : Keep h0 h10 [] := Kp7.wr W10 (Or.inr sz_b1)
  have A11_b1 : own_A Z h10 b1 "[B" .byte [(.int (own_F_method_3 q1 (0 : Int32))), (.int (own_F_method_3 q1 (1 : Int32))), (.int (own_F_method_3 q1 (2 : Int32))), (.int 0), (.int 0)] := V10
  refine own_of (fun t k => st10 t k) ?_
  show own_Go p e below KK T10 (mkF m 42 #[.val (.long q1), .second, .val (.int 5), .val (.ref b1)] [])
  refine own_at (fun t k => XS.iloadN X10.here hx rfl (hb hby d_method_4_42) rfl k) ?_
  show own_Go p e below KK T10 (mkF m 43 #[.val (.long q1), .second, .val (.int 5), .val (.ref b1)] [(.int 5)])
  refine own_at (fun t k => XS.iconst X10.here hx rfl (hb hby d_method_4_43) k) ?_
  show own_Go p e below KK T10 (mkF m 44 #[.val (.long q1), .second, .val (.int 5), .val (.ref b1)] [(.int 3), (.int 5)])
  have hc44 : (3 : Int32) < (5 : Int32) := by decide
  refine own_at (fun t k => XS.icmpNo X10.here hx rfl (hb hby d_method_4_44) rfl (Jvm.Free.XT.ii_le_f hc44) k) ?_
  show own_Go p e below KK T10 (mkF m 47 #[.val (.long q1), .second, .val (.int 5), .val (.ref b1)] [])
  refine own_at (fun t k => XS.aloadN X10.here hx rfl (hb hby d_method_4_47) rfl rfl k) ?_
  show own_Go p e below KK T10 (mkF m 48 #[.val (.long q1), .second, .val (.int 5), .val (.ref b1)] [(.ref b1)])
  refine own_at (fun t k => XS.iconst X10.here hx rfl (hb hby d_method_4_48) k) ?_
  show own_Go p e below KK T10 (mkF m 49 #[.val (.long q1), .second, .val (.int 5), .val (.ref b1)] [(.int 3), (.ref b1)])
  refine own_at (fun t k => XS.lloadN X10.here hx rfl (hb hby d_method_4_49) rfl k) ?_
  show own_Go p e below KK T10 (mkF m 50 #[.val (.long q1), .second, .val (.int 5), .val (.ref b1)] [(.long q1), (.int 3), (.ref b1)])
  refine own_at (fun t k => XS.iconst X10.here hx rfl (hb hby d_method_4_50) k) ?_
  show own_Go p e below KK T10 (mkF m 51 #[.val (.long q1), .second, .val (.int 5), .val (.ref b1)] [(.int 3), (.long q1), (.int 3), (.ref b1)])
  obtain ⟨_, _, ⟨T12, L12, k12, n12⟩, -, X12, ⟨Lc12, hQ12, l12, y12, z12⟩, st12⟩ := Jvm.LawKit.callS X10 hx (y := (⟨"com/example/isimud/isimud/oscore/OscoreOptionOfRequestPinLaw", "b", "(JI)B"⟩ : MethodName)) hown (mvT hZ (hw _ (List.mem_of_getElem? (i := 53) rfl))) (mvT hZ (hw _ (List.mem_of_getElem? (i := 54) rfl))) (mvT hZ (hw _ (List.mem_of_getElem? (i := 2) rfl))) (mvT hZ (hw _ (List.mem_of_getElem? (i := 55) rfl))) (by decide) (backOf (W := 2) (rm_method_3 l Z a0 hw [] q1 (3 : Int32)  h10 n0 Zs10 ) hZ (hw _ (List.mem_of_getElem? (i := 55) rfl)) (hw _ (List.mem_of_getElem? (i := 2) rfl)) (by decide) (by decide)) (g := (mkF m 51 #[.val (.long q1), .second, .val (.int 5), .val (.ref b1)] [(.int 3), (.long q1), (.int 3), (.ref b1)])) rfl (by rw [hml]; rfl) (argsL := [(.long q1), (.int 3)]) (rest := [(.int 3), (.ref b1)]) (lenOf pd__JI_B rfl) rfl (by show 2 * 0 + _ ≤ _; exact Nat.le_of_eq rfl) (hb hby d_method_4_51) (fun _ _ => ⟨rfl, e10, (by decide : 1 + 0 ≤ _), (by decide : 5 + 0 ≤ _)⟩)
  dsimp only [Pt.U, Pt.locs, Pt.cells, Pt.slots] at X12 l12 y12 z12 st12 hQ12
  subst l12 y12 z12
  obtain ⟨rfl, N12q, e12⟩ := hQ12
  have N12 := Fr.app N10 N12q
  refine own_of (fun t k => st12 t k) ?_
  show own_Go p e below KK T12 (mkF m 54 #[.val (.long q1), .second, .val (.int 5), .val (.ref b1)] [(.int (own_F_method_3 q1 (3 : Int32))), (.int 3), (.ref b1)])
  obtain ⟨T13, h13, X13, e13, W13, V13, st13⟩ := own_stB X12 hx hZ e12 A11_b1 (j := (3 : Int32)) (y := (own_F_method_3 q1 (3 : Int32))) (own_narF _ _) (i := 3) (by decide) (by decide) (show (3 : Nat) < 5 from by decide) (g := (mkF m 54 #[.val (.long q1), .second, .val (.int 5), .val (.ref b1)] [(.int (own_F_method_3 q1 (3 : Int32))), (.int 3), (.ref b1)])) rfl rfl (hb hby d_method_4_54)
  have N13 := Fr.snoc X13 N12 g_b1
  have Zs13 : n0 ≤ h13.size := (by rw [W13.size]; exact Zs10)
  have Kp13 : Keep h0 h13 [] := Kp10.wr W13 (Or.inr sz_b1)
  have A14_b1 : own_A Z h13 b1 "[B" .byte [(.int (own_F_method_3 q1 (0 : Int32))), (.int (own_F_method_3 q1 (1 : Int32))), (.int (own_F_method_3 q1 (2 : Int32))), (.int (own_F_method_3 q1 (3 : Int32))), (.int 0)] := V13
  refine own_of (fun t k => st13 t k) ?_
  show own_Go p e below KK T13 (mkF m 55 #[.val (.long q1), .second, .val (.int 5), .val (.ref b1)] [])
  refine own_at (fun t k => XS.iloadN X13.here hx rfl (hb hby d_method_4_55) rfl k) ?_
  show own_Go p e below KK T13 (mkF m 56 #[.val (.long q1), .second, .val (.int 5), .val (.ref b1)] [(.int 5)])
  refine own_at (fun t k => XS.iconst X13.here hx rfl (hb hby d_method_4_56) k) ?_
  show own_Go p e below KK T13 (mkF m 57 #[.val (.long q1), .second, .val (.int 5), .val (.ref b1)] [(.int 4), (.int 5)])
  have hc57 : (4 : Int32) < (5 : Int32) := by decide
  refine own_at (fun t k => XS.icmpNo X13.here hx rfl (hb hby d_method_4_57) rfl (Jvm.Free.XT.ii_le_f hc57) k) ?_
  show own_Go p e below KK T13 (mkF m 60 #[.val (.long q1), .second, .val (.int 5), .val (.ref b1)] [])
  refine own_at (fun t k => XS.aloadN X13.here hx rfl (hb hby d_method_4_60) rfl rfl k) ?_
  show own_Go p e below KK T13 (mkF m 61 #[.val (.long q1), .second, .val (.int 5), .val (.ref b1)] [(.ref b1)])
  refine own_at (fun t k => XS.iconst X13.here hx rfl (hb hby d_method_4_61) k) ?_
  show own_Go p e below KK T13 (mkF m 62 #[.val (.long q1), .second, .val (.int 5), .val (.ref b1)] [(.int 4), (.ref b1)])
  refine own_at (fun t k => XS.lloadN X13.here hx rfl (hb hby d_method_4_62) rfl k) ?_
  show own_Go p e below KK T13 (mkF m 63 #[.val (.long q1), .second, .val (.int 5), .val (.ref b1)] [(.long q1), (.int 4), (.ref b1)])
  refine own_at (fun t k => XS.iconst X13.here hx rfl (hb hby d_method_4_63) k) ?_
  show own_Go p e below KK T13 (mkF m 64 #[.val (.long q1), .second, .val (.int 5), .val (.ref b1)] [(.int 4), (.long q1), (.int 4), (.ref b1)])
  obtain ⟨_, _, ⟨T15, L15, k15, n15⟩, -, X15, ⟨Lc15, hQ15, l15, y15, z15⟩, st15⟩ := Jvm.LawKit.callS X13 hx (y := (⟨"com/example/isimud/isimud/oscore/OscoreOptionOfRequestPinLaw", "b", "(JI)B"⟩ : MethodName)) hown (mvT hZ (hw _ (List.mem_of_getElem? (i := 53) rfl))) (mvT hZ (hw _ (List.mem_of_getElem? (i := 54) rfl))) (mvT hZ (hw _ (List.mem_of_getElem? (i := 2) rfl))) (mvT hZ (hw _ (List.mem_of_getElem? (i := 55) rfl))) (by decide) (backOf (W := 2) (rm_method_3 l Z a0 hw [] q1 (4 : Int32)  h13 n0 Zs13 ) hZ (hw _ (List.mem_of_getElem? (i := 55) rfl)) (hw _ (List.mem_of_getElem? (i := 2) rfl)) (by decide) (by decide)) (g := (mkF m 64 #[.val (.long q1), .second, .val (.int 5), .val (.ref b1)] [(.int 4), (.long q1), (.int 4), (.ref b1)])) rfl (by rw [hml]; rfl) (argsL := [(.long q1), (.int 4)]) (rest := [(.int 4), (.ref b1)]) (lenOf pd__JI_B rfl) rfl (by show 2 * 0 + _ ≤ _; exact Nat.le_of_eq rfl) (hb hby d_method_4_64) (fun _ _ => ⟨rfl, e13, (by decide : 1 + 0 ≤ _), (by decide : 5 + 0 ≤ _)⟩)
  dsimp only [Pt.U, Pt.locs, Pt.cells, Pt.slots] at X15 l15 y15 z15 st15 hQ15
  subst l15 y15 z15
  obtain ⟨rfl, N15q, e15⟩ := hQ15
  have N15 := Fr.app N13 N15q
  refine own_of (fun t k => st15 t k) ?_
  show own_Go p e below KK T15 (mkF m 67 #[.val (.long q1), .second, .val (.int 5), .val (.ref b1)] [(.int (own_F_method_3 q1 (4 : Int32))), (.int 4), (.ref b1)])
  obtain ⟨T16, h16, X16, e16, W16, V16, st16⟩ := own_stB X15 hx hZ e15 A14_b1 (j := (4 : Int32)) (y := (own_F_method_3 q1 (4 : Int32))) (own_narF _ _) (i := 4) (by decide) (by decide) (show (4 : Nat) < 5 from by decide) (g := (mkF m 67 #[.val (.long q1), .second, .val (.int 5), .val (.ref b1)] [(.int (own_F_method_3 q1 (4 : Int32))), (.int 4), (.ref b1)])) rfl rfl (hb hby d_method_4_67)
  have N16 := Fr.snoc X16 N15 g_b1
  have Zs16 : n0 ≤ h16.size := (by rw [W16.size]; exact Zs13)
  have Kp16 : Keep h0 h16 [] := Kp13.wr W16 (Or.inr sz_b1)
  have A17_b1 : own_A Z h16 b1 "[B" .byte [(.int (own_F_method_3 q1 (0 : Int32))), (.int (own_F_method_3 q1 (1 : Int32))), (.int (own_F_method_3 q1 (2 : Int32))), (.int (own_F_method_3 q1 (3 : Int32))), (.int (own_F_method_3 q1 (4 : Int32)))] := V16
  refine own_of (fun t k => st16 t k) ?_
  show own_Go p e below KK T16 (mkF m 68 #[.val (.long q1), .second, .val (.int 5), .val (.ref b1)] [])
  refine own_at (fun t k => XS.iloadN X16.here hx rfl (hb hby d_method_4_68) rfl k) ?_
  show own_Go p e below KK T16 (mkF m 69 #[.val (.long q1), .second, .val (.int 5), .val (.ref b1)] [(.int 5)])
  refine own_at (fun t k => XS.iconst X16.here hx rfl (hb hby d_method_4_69) k) ?_
  show own_Go p e below KK T16 (mkF m 70 #[.val (.long q1), .second, .val (.int 5), .val (.ref b1)] [(.int 5), (.int 5)])
  have hc70 : ¬ ((5 : Int32) < (5 : Int32)) := by decide
  refine own_at (fun t k => XS.icmpYes X16.here hx rfl (pc0 := 70) (pc' := 81) rfl (hb hby d_method_4_70) rfl (Jvm.Free.XT.ii_le_t hc70) (by decide) (by decide) k) ?_
  show own_Go p e below KK T16 (mkF m 81 #[.val (.long q1), .second, .val (.int 5), .val (.ref b1)] [])
  refine own_at (fun t k => XS.iloadN X16.here hx rfl (hb hby d_method_4_81) rfl k) ?_
  show own_Go p e below KK T16 (mkF m 82 #[.val (.long q1), .second, .val (.int 5), .val (.ref b1)] [(.int 5)])
  refine own_at (fun t k => XS.bipush X16.here hx rfl (hb hby d_method_4_82) k) ?_
  show own_Go p e below KK T16 (mkF m 84 #[.val (.long q1), .second, .val (.int 5), .val (.ref b1)] [(.int 6), (.int 5)])
  have hc84 : ¬ ((6 : Int32) < (5 : Int32)) := by decide
  refine own_at (fun t k => XS.icmpYes X16.here hx rfl (pc0 := 84) (pc' := 97) rfl (hb hby d_method_4_84) rfl (Jvm.Free.XT.ii_le_t hc84) (by decide) (by decide) k) ?_
  show own_Go p e below KK T16 (mkF m 97 #[.val (.long q1), .second, .val (.int 5), .val (.ref b1)] [])
  refine own_at (fun t k => XS.aloadN X16.here hx rfl (hb hby d_method_4_97) rfl rfl k) ?_
  show own_Go p e below KK T16 (mkF m 98 #[.val (.long q1), .second, .val (.int 5), .val (.ref b1)] [(.ref b1)])
  subst hKK
  exact own_retA X16 hx hlk rfl Bd.returns rfl (hb hby d_method_4_98) ⟨b1, rfl, N16, by rw [e16]; exact Kp16, g_b1, sz_b1, by rw [e16]; exact A17_b1⟩ (Nat.le_of_ble_eq_true rfl) (Nat.le_of_ble_eq_true rfl)
theorem d_method_4_73 : decode method_4_code 73 = .ok (.aload_n 3, 1) := by decide +kernel
theorem d_method_4_74 : decode method_4_code 74 = .ok (.iconst 5, 1) := by decide +kernel
theorem d_method_4_75 : decode method_4_code 75 = .ok (.lload_n 0, 1) := by decide +kernel
theorem d_method_4_76 : decode method_4_code 76 = .ok (.iconst 5, 1) := by decide +kernel
theorem d_method_4_77 : decode method_4_code 77 = .ok (.invokestatic 37, 3) := by decide +kernel
theorem d_method_4_80 : decode method_4_code 80 = .ok (.bastore, 1) := by decide +kernel
set_option maxRecDepth 65536 in
set_option maxHeartbeats 40000000 in
theorem rm_make6 (l : Launch) (Z : State) (a0 : Array Value) (hw : ∀ d ∈ tables_1, d.before a0 Z = true) (ws : List Jvm.Cond) (q1 : Int64)  (h0 : Heap) (n0 : Nat) (Z0 : n0 ≤ h0.size)  :
    MetFree l (⟨"com/example/isimud/isimud/oscore/OscoreOptionOfRequestPinLaw", "make", "(JI)[B"⟩ : MethodName) (head1 (Jvm.Cond.code (⟨"com/example/isimud/isimud/oscore/OscoreOptionOfRequestPinLaw", "make", "(JI)[B"⟩ : MethodName) method_4_code 4 (some (.array .byte)) :: ws) ({ frames := 1, cells := 1, slots := 7, locals := 16 } : Room)) (fun a U => a = #[(.long q1), (.int 6)] ∧ Z.Warmed39 U.vm ∧ U.heap = h0) (fun _ _ _ _ _ => True) (fun _ U o U' => ∃ v L, o = .returned v ∧ own_Qf Z [(.int (own_F_method_3 q1 (0 : Int32))), (.int (own_F_method_3 q1 (1 : Int32))), (.int (own_F_method_3 q1 (2 : Int32))), (.int (own_F_method_3 q1 (3 : Int32))), (.int (own_F_method_3 q1 (4 : Int32))), (.int (own_F_method_3 q1 (5 : Int32)))] h0 n0 v U'.heap L ∧ FrameEnd U o U' L ({ frames := 1, cells := 1, slots := 7, locals := 16 } : Room).cells ({ frames := 1, cells := 1, slots := 7, locals := 16 } : Room).slots) := by
  refine MetFree.of_bodySF (plainFor_of_name pn_com_example_isimud_isimud_oscore_OscoreOptionOfRequestPinLaw) hisR ?_
  intro p e s m args below meth c s₁ Bd hml0 hP hK
  obtain ⟨rfl, hZ, hh⟩ := hP
  have hx := Bd.exec
  have hby := Bd.bytes
  have hlk : meth.locks = false := BodyLoose.notSynchronized Bd
  have hml : c.maxLocals = 4 := hml0
  have hown : s.vm.findClass "com/example/isimud/isimud/oscore/OscoreOptionOfRequestPinLaw" = some m.cls := findClass_of_methodNamed Bd.named
  have hnm := (name_of_methodNamed Bd.named Bd.method).1
  have X0 : Stand p l e ({ frames := 1, cells := 1, slots := 7, locals := 16 } : Room) s m #[(.long q1), (.int 6)] below meth c s₁ [] 0 0 := Stand.of_body Bd
  have e0 : s₁.heap = h0 := by rw [← hh, Bd.state]; rfl
  have N0 := Fr.nil n0
  refine own_cast (K := own_K s (own_Qf Z [(.int (own_F_method_3 q1 (0 : Int32))), (.int (own_F_method_3 q1 (1 : Int32))), (.int (own_F_method_3 q1 (2 : Int32))), (.int (own_F_method_3 q1 (3 : Int32))), (.int (own_F_method_3 q1 (4 : Int32))), (.int (own_F_method_3 q1 (5 : Int32)))] h0 n0) 1 7) (ef_method_4 m q1 (6 : Int32)) ?_
  generalize hKK : own_K s (own_Qf Z [(.int (own_F_method_3 q1 (0 : Int32))), (.int (own_F_method_3 q1 (1 : Int32))), (.int (own_F_method_3 q1 (2 : Int32))), (.int (own_F_method_3 q1 (3 : Int32))), (.int (own_F_method_3 q1 (4 : Int32))), (.int (own_F_method_3 q1 (5 : Int32)))] h0 n0) 1 7 = KK
  show own_Go p e below KK s₁ (mkF m 0 #[.val (.long q1), .second, .val (.int 6), .unset] [])
  have Kp0 : Keep h0 h0 [] := Keep.refl _ _
  refine own_at (fun t k => XS.iloadN X0.here hx rfl (hb hby d_method_4_0) rfl k) ?_
  show own_Go p e below KK s₁ (mkF m 1 #[.val (.long q1), .second, .val (.int 6), .unset] [(.int 6)])
  obtain ⟨T1, h1, X1, e1, E1, V1, st1⟩ := own_newA X0 hx hZ (hw _ (List.mem_of_getElem? (i := 4) rfl)) e0 (g := (mkF m 1 #[.val (.long q1), .second, .val (.int 6), .unset] [(.int 6)])) rfl (hb hby d_method_4_1) rfl (by decide) (N := 6) (by decide) (cap := 6) (by decide) (by decide) (by decide) (by decide) (d := "[B") (by first | rfl | decide +kernel) (vs := [(.int 0), (.int 0), (.int 0), (.int 0), (.int 0), (.int 0)]) rfl
  obtain ⟨b1, g1⟩ : ∃ z, z = h0.size := ⟨_, rfl⟩
  rw [← g1] at V1 st1
  have g_b1 : n0 ≤ b1 := by rw [g1]; exact Z0
  have sz_b1 : h0.size ≤ b1 := by rw [g1]; exact Kp0.1
  have Zs1 : n0 ≤ h1.size := Nat.le_trans Z0 E1.1
  have Kp1 : Keep h0 h1 [] := Kp0.ext E1
  have A2_b1 : own_A Z h1 b1 "[B" .byte [(.int 0), (.int 0), (.int 0), (.int 0), (.int 0), (.int 0)] := V1
  refine own_of (fun t k => st1 t k) ?_
  show own_Go p e below KK T1 (mkF m 3 #[.val (.long q1), .second, .val (.int 6), .unset] [(.ref b1)])
  refine own_at (fun t k => XS.astoreN X1.here hx rfl (hb hby d_method_4_3) rfl rfl (l' := #[.val (.long q1), .second, .val (.int 6), .val (.ref b1)]) rfl k) ?_
  show own_Go p e below KK T1 (mkF m 4 #[.val (.long q1), .second, .val (.int 6), .val (.ref b1)] [])
  refine own_at (fun t k => XS.iloadN X1.here hx rfl (hb hby d_method_4_4) rfl k) ?_
  show own_Go p e below KK T1 (mkF m 5 #[.val (.long q1), .second, .val (.int 6), .val (.ref b1)] [(.int 6)])
  have hc5 : (0 : Int32) < (6 : Int32) := by decide
  refine own_at (fun t k => XS.ifNo X1.here hx rfl (hb hby d_method_4_5) rfl (Jvm.Free.XT.i0_le_f hc5) k) ?_
  show own_Go p e below KK T1 (mkF m 8 #[.val (.long q1), .second, .val (.int 6), .val (.ref b1)] [])
  refine own_at (fun t k => XS.aloadN X1.here hx rfl (hb hby d_method_4_8) rfl rfl k) ?_
  show own_Go p e below KK T1 (mkF m 9 #[.val (.long q1), .second, .val (.int 6), .val (.ref b1)] [(.ref b1)])
  refine own_at (fun t k => XS.iconst X1.here hx rfl (hb hby d_method_4_9) k) ?_
  show own_Go p e below KK T1 (mkF m 10 #[.val (.long q1), .second, .val (.int 6), .val (.ref b1)] [(.int 0), (.ref b1)])
  refine own_at (fun t k => XS.lloadN X1.here hx rfl (hb hby d_method_4_10) rfl k) ?_
  show own_Go p e below KK T1 (mkF m 11 #[.val (.long q1), .second, .val (.int 6), .val (.ref b1)] [(.long q1), (.int 0), (.ref b1)])
  refine own_at (fun t k => XS.iconst X1.here hx rfl (hb hby d_method_4_11) k) ?_
  show own_Go p e below KK T1 (mkF m 12 #[.val (.long q1), .second, .val (.int 6), .val (.ref b1)] [(.int 0), (.long q1), (.int 0), (.ref b1)])
  obtain ⟨_, _, ⟨T3, L3, k3, n3⟩, -, X3, ⟨Lc3, hQ3, l3, y3, z3⟩, st3⟩ := Jvm.LawKit.callS X1 hx (y := (⟨"com/example/isimud/isimud/oscore/OscoreOptionOfRequestPinLaw", "b", "(JI)B"⟩ : MethodName)) hown (mvT hZ (hw _ (List.mem_of_getElem? (i := 53) rfl))) (mvT hZ (hw _ (List.mem_of_getElem? (i := 54) rfl))) (mvT hZ (hw _ (List.mem_of_getElem? (i := 2) rfl))) (mvT hZ (hw _ (List.mem_of_getElem? (i := 55) rfl))) (by decide) (backOf (W := 2) (rm_method_3 l Z a0 hw [] q1 (0 : Int32)  h1 n0 Zs1 ) hZ (hw _ (List.mem_of_getElem? (i := 55) rfl)) (hw _ (List.mem_of_getElem? (i := 2) rfl)) (by decide) (by decide)) (g := (mkF m 12 #[.val (.long q1), .second, .val (.int 6), .val (.ref b1)] [(.int 0), (.long q1), (.int 0), (.ref b1)])) rfl (by rw [hml]; rfl) (argsL := [(.long q1), (.int 0)]) (rest := [(.int 0), (.ref b1)]) (lenOf pd__JI_B rfl) rfl (by show 2 * 0 + _ ≤ _; exact Nat.le_of_eq rfl) (hb hby d_method_4_12) (fun _ _ => ⟨rfl, e1, (by decide : 1 + 0 ≤ _), (by decide : 6 + 0 ≤ _)⟩)
  dsimp only [Pt.U, Pt.locs, Pt.cells, Pt.slots] at X3 l3 y3 z3 st3 hQ3
  subst l3 y3 z3
  obtain ⟨rfl, N3q, e3⟩ := hQ3
  have N3 := Fr.app N0 N3q
  refine own_of (fun t k => st3 t k) ?_
  show own_Go p e below KK T3 (mkF m 15 #[.val (.long q1), .second, .val (.int 6), .val (.ref b1)] [(.int (own_F_method_3 q1 (0 : Int32))), (.int 0), (.ref b1)])
  obtain ⟨T4, h4, X4, e4, W4, V4, st4⟩ := own_stB X3 hx hZ e3 A2_b1 (j := (0 : Int32)) (y := (own_F_method_3 q1 (0 : Int32))) (own_narF _ _) (i := 0) (by decide) (by decide) (show (0 : Nat) < 6 from by decide) (g := (mkF m 15 #[.val (.long q1), .second, .val (.int 6), .val (.ref b1)] [(.int (own_F_method_3 q1 (0 : Int32))), (.int 0), (.ref b1)])) rfl rfl (hb hby d_method_4_15)
  have N4 := Fr.snoc X4 N3 g_b1
  have Zs4 : n0 ≤ h4.size := (by rw [W4.size]; exact Zs1)
  have Kp4 : Keep h0 h4 [] := Kp1.wr W4 (Or.inr sz_b1)
  have A5_b1 : own_A Z h4 b1 "[B" .byte [(.int (own_F_method_3 q1 (0 : Int32))), (.int 0), (.int 0), (.int 0), (.int 0), (.int 0)] := V4
  refine own_of (fun t k => st4 t k) ?_
  show own_Go p e below KK T4 (mkF m 16 #[.val (.long q1), .second, .val (.int 6), .val (.ref b1)] [])
  refine own_at (fun t k => XS.iloadN X4.here hx rfl (hb hby d_method_4_16) rfl k) ?_
  show own_Go p e below KK T4 (mkF m 17 #[.val (.long q1), .second, .val (.int 6), .val (.ref b1)] [(.int 6)])
  refine own_at (fun t k => XS.iconst X4.here hx rfl (hb hby d_method_4_17) k) ?_
  show own_Go p e below KK T4 (mkF m 18 #[.val (.long q1), .second, .val (.int 6), .val (.ref b1)] [(.int 1), (.int 6)])
  have hc18 : (1 : Int32) < (6 : Int32) := by decide
  refine own_at (fun t k => XS.icmpNo X4.here hx rfl (hb hby d_method_4_18) rfl (Jvm.Free.XT.ii_le_f hc18) k) ?_
  show own_Go p e below KK T4 (mkF m 21 #[.val (.long q1), .second, .val (.int 6), .val (.ref b1)] [])
  refine own_at (fun t k => XS.aloadN X4.here hx rfl (hb hby d_method_4_21) rfl rfl k) ?_
  show own_Go p e below KK T4 (mkF m 22 #[.val (.long q1), .second, .val (.int 6), .val (.ref b1)] [(.ref b1)])
  refine own_at (fun t k => XS.iconst X4.here hx rfl (hb hby d_method_4_22) k) ?_
  show own_Go p e below KK T4 (mkF m 23 #[.val (.long q1), .second, .val (.int 6), .val (.ref b1)] [(.int 1), (.ref b1)])
  refine own_at (fun t k => XS.lloadN X4.here hx rfl (hb hby d_method_4_23) rfl k) ?_
  show own_Go p e below KK T4 (mkF m 24 #[.val (.long q1), .second, .val (.int 6), .val (.ref b1)] [(.long q1), (.int 1), (.ref b1)])
  refine own_at (fun t k => XS.iconst X4.here hx rfl (hb hby d_method_4_24) k) ?_
  show own_Go p e below KK T4 (mkF m 25 #[.val (.long q1), .second, .val (.int 6), .val (.ref b1)] [(.int 1), (.long q1), (.int 1), (.ref b1)])
  obtain ⟨_, _, ⟨T6, L6, k6, n6⟩, -, X6, ⟨Lc6, hQ6, l6, y6, z6⟩, st6⟩ := Jvm.LawKit.callS X4 hx (y := (⟨"com/example/isimud/isimud/oscore/OscoreOptionOfRequestPinLaw", "b", "(JI)B"⟩ : MethodName)) hown (mvT hZ (hw _ (List.mem_of_getElem? (i := 53) rfl))) (mvT hZ (hw _ (List.mem_of_getElem? (i := 54) rfl))) (mvT hZ (hw _ (List.mem_of_getElem? (i := 2) rfl))) (mvT hZ (hw _ (List.mem_of_getElem? (i := 55) rfl))) (by decide) (backOf (W := 2) (rm_method_3 l Z a0 hw [] q1 (1 : Int32)  h4 n0 Zs4 ) hZ (hw _ (List.mem_of_getElem? (i := 55) rfl)) (hw _ (List.mem_of_getElem? (i := 2) rfl)) (by decide) (by decide)) (g := (mkF m 25 #[.val (.long q1), .second, .val (.int 6), .val (.ref b1)] [(.int 1), (.long q1), (.int 1), (.ref b1)])) rfl (by rw [hml]; rfl) (argsL := [(.long q1), (.int 1)]) (rest := [(.int 1), (.ref b1)]) (lenOf pd__JI_B rfl) rfl (by show 2 * 0 + _ ≤ _; exact Nat.le_of_eq rfl) (hb hby d_method_4_25) (fun _ _ => ⟨rfl, e4, (by decide : 1 + 0 ≤ _), (by decide : 6 + 0 ≤ _)⟩)
  dsimp only [Pt.U, Pt.locs, Pt.cells, Pt.slots] at X6 l6 y6 z6 st6 hQ6
  subst l6 y6 z6
  obtain ⟨rfl, N6q, e6⟩ := hQ6
  have N6 := Fr.app N4 N6q
  refine own_of (fun t k => st6 t k) ?_
  show own_Go p e below KK T6 (mkF m 28 #[.val (.long q1), .second, .val (.int 6), .val (.ref b1)] [(.int (own_F_method_3 q1 (1 : Int32))), (.int 1), (.ref b1)])
  obtain ⟨T7, h7, X7, e7, W7, V7, st7⟩ := own_stB X6 hx hZ e6 A5_b1 (j := (1 : Int32)) (y := (own_F_method_3 q1 (1 : Int32))) (own_narF _ _) (i := 1) (by decide) (by decide) (show (1 : Nat) < 6 from by decide) (g := (mkF m 28 #[.val (.long q1), .second, .val (.int 6), .val (.ref b1)] [(.int (own_F_method_3 q1 (1 : Int32))), (.int 1), (.ref b1)])) rfl rfl (hb hby d_method_4_28)
  have N7 := Fr.snoc X7 N6 g_b1
  have Zs7 : n0 ≤ h7.size := (by rw [W7.size]; exact Zs4)
  have Kp7 : Keep h0 h7 [] := Kp4.wr W7 (Or.inr sz_b1)
  have A8_b1 : own_A Z h7 b1 "[B" .byte [(.int (own_F_method_3 q1 (0 : Int32))), (.int (own_F_method_3 q1 (1 : Int32))), (.int 0), (.int 0), (.int 0), (.int 0)] := V7
  refine own_of (fun t k => st7 t k) ?_
  show own_Go p e below KK T7 (mkF m 29 #[.val (.long q1), .second, .val (.int 6), .val (.ref b1)] [])
  refine own_at (fun t k => XS.iloadN X7.here hx rfl (hb hby d_method_4_29) rfl k) ?_
  show own_Go p e below KK T7 (mkF m 30 #[.val (.long q1), .second, .val (.int 6), .val (.ref b1)] [(.int 6)])
  refine own_at (fun t k => XS.iconst X7.here hx rfl (hb hby d_method_4_30) k) ?_
  show own_Go p e below KK T7 (mkF m 31 #[.val (.long q1), .second, .val (.int 6), .val (.ref b1)] [(.int 2), (.int 6)])
  have hc31 : (2 : Int32) < (6 : Int32) := by decide
  refine own_at (fun t k => XS.icmpNo X7.here hx rfl (hb hby d_method_4_31) rfl (Jvm.Free.XT.ii_le_f hc31) k) ?_
  show own_Go p e below KK T7 (mkF m 34 #[.val (.long q1), .second, .val (.int 6), .val (.ref b1)] [])
  refine own_at (fun t k => XS.aloadN X7.here hx rfl (hb hby d_method_4_34) rfl rfl k) ?_
  show own_Go p e below KK T7 (mkF m 35 #[.val (.long q1), .second, .val (.int 6), .val (.ref b1)] [(.ref b1)])
  refine own_at (fun t k => XS.iconst X7.here hx rfl (hb hby d_method_4_35) k) ?_
  show own_Go p e below KK T7 (mkF m 36 #[.val (.long q1), .second, .val (.int 6), .val (.ref b1)] [(.int 2), (.ref b1)])
  refine own_at (fun t k => XS.lloadN X7.here hx rfl (hb hby d_method_4_36) rfl k) ?_
  show own_Go p e below KK T7 (mkF m 37 #[.val (.long q1), .second, .val (.int 6), .val (.ref b1)] [(.long q1), (.int 2), (.ref b1)])
  refine own_at (fun t k => XS.iconst X7.here hx rfl (hb hby d_method_4_37) k) ?_
  show own_Go p e below KK T7 (mkF m 38 #[.val (.long q1), .second, .val (.int 6), .val (.ref b1)] [(.int 2), (.long q1), (.int 2), (.ref b1)])
  obtain ⟨_, _, ⟨T9, L9, k9, n9⟩, -, X9, ⟨Lc9, hQ9, l9, y9, z9⟩, st9⟩ := Jvm.LawKit.callS X7 hx (y := (⟨"com/example/isimud/isimud/oscore/OscoreOptionOfRequestPinLaw", "b", "(JI)B"⟩ : MethodName)) hown (mvT hZ (hw _ (List.mem_of_getElem? (i := 53) rfl))) (mvT hZ (hw _ (List.mem_of_getElem? (i := 54) rfl))) (mvT hZ (hw _ (List.mem_of_getElem? (i := 2) rfl))) (mvT hZ (hw _ (List.mem_of_getElem? (i := 55) rfl))) (by decide) (backOf (W := 2) (rm_method_3 l Z a0 hw [] q1 (2 : Int32)  h7 n0 Zs7 ) hZ (hw _ (List.mem_of_getElem? (i := 55) rfl)) (hw _ (List.mem_of_getElem? (i := 2) rfl)) (by decide) (by decide)) (g := (mkF m 38 #[.val (.long q1), .second, .val (.int 6), .val (.ref b1)] [(.int 2), (.long q1), (.int 2), (.ref b1)])) rfl (by rw [hml]; rfl) (argsL := [(.long q1), (.int 2)]) (rest := [(.int 2), (.ref b1)]) (lenOf pd__JI_B rfl) rfl (by show 2 * 0 + _ ≤ _; exact Nat.le_of_eq rfl) (hb hby d_method_4_38) (fun _ _ => ⟨rfl, e7, (by decide : 1 + 0 ≤ _), (by decide : 6 + 0 ≤ _)⟩)
  dsimp only [Pt.U, Pt.locs, Pt.cells, Pt.slots] at X9 l9 y9 z9 st9 hQ9
  subst l9 y9 z9
  obtain ⟨rfl, N9q, e9⟩ := hQ9
  have N9 := Fr.app N7 N9q
  refine own_of (fun t k => st9 t k) ?_
  show own_Go p e below KK T9 (mkF m 41 #[.val (.long q1), .second, .val (.int 6), .val (.ref b1)] [(.int (own_F_method_3 q1 (2 : Int32))), (.int 2), (.ref b1)])
  obtain ⟨T10, h10, X10, e10, W10, V10, st10⟩ := own_stB X9 hx hZ e9 A8_b1 (j := (2 : Int32)) (y := (own_F_method_3 q1 (2 : Int32))) (own_narF _ _) (i := 2) (by decide) (by decide) (show (2 : Nat) < 6 from by decide) (g := (mkF m 41 #[.val (.long q1), .second, .val (.int 6), .val (.ref b1)] [(.int (own_F_method_3 q1 (2 : Int32))), (.int 2), (.ref b1)])) rfl rfl (hb hby d_method_4_41)
  have N10 := Fr.snoc X10 N9 g_b1
  have Zs10 : n0 ≤ h10.size := (by rw [W10.size]; exact Zs7)
  have Kp10 : Keep h0 h10 [] := Kp7.wr W10 (Or.inr sz_b1)
  have A11_b1 : own_A Z h10 b1 "[B" .byte [(.int (own_F_method_3 q1 (0 : Int32))), (.int (own_F_method_3 q1 (1 : Int32))), (.int (own_F_method_3 q1 (2 : Int32))), (.int 0), (.int 0), (.int 0)] := V10
  refine own_of (fun t k => st10 t k) ?_
  show own_Go p e below KK T10 (mkF m 42 #[.val (.long q1), .second, .val (.int 6), .val (.ref b1)] [])
  refine own_at (fun t k => XS.iloadN X10.here hx rfl (hb hby d_method_4_42) rfl k) ?_
  show own_Go p e below KK T10 (mkF m 43 #[.val (.long q1), .second, .val (.int 6), .val (.ref b1)] [(.int 6)])
  refine own_at (fun t k => XS.iconst X10.here hx rfl (hb hby d_method_4_43) k) ?_
  show own_Go p e below KK T10 (mkF m 44 #[.val (.long q1), .second, .val (.int 6), .val (.ref b1)] [(.int 3), (.int 6)])
  have hc44 : (3 : Int32) < (6 : Int32) := by decide
  refine own_at (fun t k => XS.icmpNo X10.here hx rfl (hb hby d_method_4_44) rfl (Jvm.Free.XT.ii_le_f hc44) k) ?_
  show own_Go p e below KK T10 (mkF m 47 #[.val (.long q1), .second, .val (.int 6), .val (.ref b1)] [])
  refine own_at (fun t k => XS.aloadN X10.here hx rfl (hb hby d_method_4_47) rfl rfl k) ?_
  show own_Go p e below KK T10 (mkF m 48 #[.val (.long q1), .second, .val (.int 6), .val (.ref b1)] [(.ref b1)])
  refine own_at (fun t k => XS.iconst X10.here hx rfl (hb hby d_method_4_48) k) ?_
  show own_Go p e below KK T10 (mkF m 49 #[.val (.long q1), .second, .val (.int 6), .val (.ref b1)] [(.int 3), (.ref b1)])
  refine own_at (fun t k => XS.lloadN X10.here hx rfl (hb hby d_method_4_49) rfl k) ?_
  show own_Go p e below KK T10 (mkF m 50 #[.val (.long q1), .second, .val (.int 6), .val (.ref b1)] [(.long q1), (.int 3), (.ref b1)])
  refine own_at (fun t k => XS.iconst X10.here hx rfl (hb hby d_method_4_50) k) ?_
  show own_Go p e below KK T10 (mkF m 51 #[.val (.long q1), .second, .val (.int 6), .val (.ref b1)] [(.int 3), (.long q1), (.int 3), (.ref b1)])
  obtain ⟨_, _, ⟨T12, L12, k12, n12⟩, -, X12, ⟨Lc12, hQ12, l12, y12, z12⟩, st12⟩ := Jvm.LawKit.callS X10 hx (y := (⟨"com/example/isimud/isimud/oscore/OscoreOptionOfRequestPinLaw", "b", "(JI)B"⟩ : MethodName)) hown (mvT hZ (hw _ (List.mem_of_getElem? (i := 53) rfl))) (mvT hZ (hw _ (List.mem_of_getElem? (i := 54) rfl))) (mvT hZ (hw _ (List.mem_of_getElem? (i := 2) rfl))) (mvT hZ (hw _ (List.mem_of_getElem? (i := 55) rfl))) (by decide) (backOf (W := 2) (rm_method_3 l Z a0 hw [] q1 (3 : Int32)  h10 n0 Zs10 ) hZ (hw _ (List.mem_of_getElem? (i := 55) rfl)) (hw _ (List.mem_of_getElem? (i := 2) rfl)) (by decide) (by decide)) (g := (mkF m 51 #[.val (.long q1), .second, .val (.int 6), .val (.ref b1)] [(.int 3), (.long q1), (.int 3), (.ref b1)])) rfl (by rw [hml]; rfl) (argsL := [(.long q1), (.int 3)]) (rest := [(.int 3), (.ref b1)]) (lenOf pd__JI_B rfl) rfl (by show 2 * 0 + _ ≤ _; exact Nat.le_of_eq rfl) (hb hby d_method_4_51) (fun _ _ => ⟨rfl, e10, (by decide : 1 + 0 ≤ _), (by decide : 6 + 0 ≤ _)⟩)
  dsimp only [Pt.U, Pt.locs, Pt.cells, Pt.slots] at X12 l12 y12 z12 st12 hQ12
  subst l12 y12 z12
  obtain ⟨rfl, N12q, e12⟩ := hQ12
  have N12 := Fr.app N10 N12q
  refine own_of (fun t k => st12 t k) ?_
  show own_Go p e below KK T12 (mkF m 54 #[.val (.long q1), .second, .val (.int 6), .val (.ref b1)] [(.int (own_F_method_3 q1 (3 : Int32))), (.int 3), (.ref b1)])
  obtain ⟨T13, h13, X13, e13, W13, V13, st13⟩ := own_stB X12 hx hZ e12 A11_b1 (j := (3 : Int32)) (y := (own_F_method_3 q1 (3 : Int32))) (own_narF _ _) (i := 3) (by decide) (by decide) (show (3 : Nat) < 6 from by decide) (g := (mkF m 54 #[.val (.long q1), .second, .val (.int 6), .val (.ref b1)] [(.int (own_F_method_3 q1 (3 : Int32))), (.int 3), (.ref b1)])) rfl rfl (hb hby d_method_4_54)
  have N13 := Fr.snoc X13 N12 g_b1
  have Zs13 : n0 ≤ h13.size := (by rw [W13.size]; exact Zs10)
  have Kp13 : Keep h0 h13 [] := Kp10.wr W13 (Or.inr sz_b1)
  have A14_b1 : own_A Z h13 b1 "[B" .byte [(.int (own_F_method_3 q1 (0 : Int32))), (.int (own_F_method_3 q1 (1 : Int32))), (.int (own_F_method_3 q1 (2 : Int32))), (.int (own_F_method_3 q1 (3 : Int32))), (.int 0), (.int 0)] := V13
  refine own_of (fun t k => st13 t k) ?_
  show own_Go p e below KK T13 (mkF m 55 #[.val (.long q1), .second, .val (.int 6), .val (.ref b1)] [])
  refine own_at (fun t k => XS.iloadN X13.here hx rfl (hb hby d_method_4_55) rfl k) ?_
  show own_Go p e below KK T13 (mkF m 56 #[.val (.long q1), .second, .val (.int 6), .val (.ref b1)] [(.int 6)])
  refine own_at (fun t k => XS.iconst X13.here hx rfl (hb hby d_method_4_56) k) ?_
  show own_Go p e below KK T13 (mkF m 57 #[.val (.long q1), .second, .val (.int 6), .val (.ref b1)] [(.int 4), (.int 6)])
  have hc57 : (4 : Int32) < (6 : Int32) := by decide
  refine own_at (fun t k => XS.icmpNo X13.here hx rfl (hb hby d_method_4_57) rfl (Jvm.Free.XT.ii_le_f hc57) k) ?_
  show own_Go p e below KK T13 (mkF m 60 #[.val (.long q1), .second, .val (.int 6), .val (.ref b1)] [])
  refine own_at (fun t k => XS.aloadN X13.here hx rfl (hb hby d_method_4_60) rfl rfl k) ?_
  show own_Go p e below KK T13 (mkF m 61 #[.val (.long q1), .second, .val (.int 6), .val (.ref b1)] [(.ref b1)])
  refine own_at (fun t k => XS.iconst X13.here hx rfl (hb hby d_method_4_61) k) ?_
  show own_Go p e below KK T13 (mkF m 62 #[.val (.long q1), .second, .val (.int 6), .val (.ref b1)] [(.int 4), (.ref b1)])
  refine own_at (fun t k => XS.lloadN X13.here hx rfl (hb hby d_method_4_62) rfl k) ?_
  show own_Go p e below KK T13 (mkF m 63 #[.val (.long q1), .second, .val (.int 6), .val (.ref b1)] [(.long q1), (.int 4), (.ref b1)])
  refine own_at (fun t k => XS.iconst X13.here hx rfl (hb hby d_method_4_63) k) ?_
  show own_Go p e below KK T13 (mkF m 64 #[.val (.long q1), .second, .val (.int 6), .val (.ref b1)] [(.int 4), (.long q1), (.int 4), (.ref b1)])
  obtain ⟨_, _, ⟨T15, L15, k15, n15⟩, -, X15, ⟨Lc15, hQ15, l15, y15, z15⟩, st15⟩ := Jvm.LawKit.callS X13 hx (y := (⟨"com/example/isimud/isimud/oscore/OscoreOptionOfRequestPinLaw", "b", "(JI)B"⟩ : MethodName)) hown (mvT hZ (hw _ (List.mem_of_getElem? (i := 53) rfl))) (mvT hZ (hw _ (List.mem_of_getElem? (i := 54) rfl))) (mvT hZ (hw _ (List.mem_of_getElem? (i := 2) rfl))) (mvT hZ (hw _ (List.mem_of_getElem? (i := 55) rfl))) (by decide) (backOf (W := 2) (rm_method_3 l Z a0 hw [] q1 (4 : Int32)  h13 n0 Zs13 ) hZ (hw _ (List.mem_of_getElem? (i := 55) rfl)) (hw _ (List.mem_of_getElem? (i := 2) rfl)) (by decide) (by decide)) (g := (mkF m 64 #[.val (.long q1), .second, .val (.int 6), .val (.ref b1)] [(.int 4), (.long q1), (.int 4), (.ref b1)])) rfl (by rw [hml]; rfl) (argsL := [(.long q1), (.int 4)]) (rest := [(.int 4), (.ref b1)]) (lenOf pd__JI_B rfl) rfl (by show 2 * 0 + _ ≤ _; exact Nat.le_of_eq rfl) (hb hby d_method_4_64) (fun _ _ => ⟨rfl, e13, (by decide : 1 + 0 ≤ _), (by decide : 6 + 0 ≤ _)⟩)
  dsimp only [Pt.U, Pt.locs, Pt.cells, Pt.slots] at X15 l15 y15 z15 st15 hQ15
  subst l15 y15 z15
  obtain ⟨rfl, N15q, e15⟩ := hQ15
  have N15 := Fr.app N13 N15q
  refine own_of (fun t k => st15 t k) ?_
  show own_Go p e below KK T15 (mkF m 67 #[.val (.long q1), .second, .val (.int 6), .val (.ref b1)] [(.int (own_F_method_3 q1 (4 : Int32))), (.int 4), (.ref b1)])
  obtain ⟨T16, h16, X16, e16, W16, V16, st16⟩ := own_stB X15 hx hZ e15 A14_b1 (j := (4 : Int32)) (y := (own_F_method_3 q1 (4 : Int32))) (own_narF _ _) (i := 4) (by decide) (by decide) (show (4 : Nat) < 6 from by decide) (g := (mkF m 67 #[.val (.long q1), .second, .val (.int 6), .val (.ref b1)] [(.int (own_F_method_3 q1 (4 : Int32))), (.int 4), (.ref b1)])) rfl rfl (hb hby d_method_4_67)
  have N16 := Fr.snoc X16 N15 g_b1
  have Zs16 : n0 ≤ h16.size := (by rw [W16.size]; exact Zs13)
  have Kp16 : Keep h0 h16 [] := Kp13.wr W16 (Or.inr sz_b1)
  have A17_b1 : own_A Z h16 b1 "[B" .byte [(.int (own_F_method_3 q1 (0 : Int32))), (.int (own_F_method_3 q1 (1 : Int32))), (.int (own_F_method_3 q1 (2 : Int32))), (.int (own_F_method_3 q1 (3 : Int32))), (.int (own_F_method_3 q1 (4 : Int32))), (.int 0)] := V16
  refine own_of (fun t k => st16 t k) ?_
  show own_Go p e below KK T16 (mkF m 68 #[.val (.long q1), .second, .val (.int 6), .val (.ref b1)] [])
  refine own_at (fun t k => XS.iloadN X16.here hx rfl (hb hby d_method_4_68) rfl k) ?_
  show own_Go p e below KK T16 (mkF m 69 #[.val (.long q1), .second, .val (.int 6), .val (.ref b1)] [(.int 6)])
  refine own_at (fun t k => XS.iconst X16.here hx rfl (hb hby d_method_4_69) k) ?_
  show own_Go p e below KK T16 (mkF m 70 #[.val (.long q1), .second, .val (.int 6), .val (.ref b1)] [(.int 5), (.int 6)])
  have hc70 : (5 : Int32) < (6 : Int32) := by decide
  refine own_at (fun t k => XS.icmpNo X16.here hx rfl (hb hby d_method_4_70) rfl (Jvm.Free.XT.ii_le_f hc70) k) ?_
  show own_Go p e below KK T16 (mkF m 73 #[.val (.long q1), .second, .val (.int 6), .val (.ref b1)] [])
  refine own_at (fun t k => XS.aloadN X16.here hx rfl (hb hby d_method_4_73) rfl rfl k) ?_
  show own_Go p e below KK T16 (mkF m 74 #[.val (.long q1), .second, .val (.int 6), .val (.ref b1)] [(.ref b1)])
  refine own_at (fun t k => XS.iconst X16.here hx rfl (hb hby d_method_4_74) k) ?_
  show own_Go p e below KK T16 (mkF m 75 #[.val (.long q1), .second, .val (.int 6), .val (.ref b1)] [(.int 5), (.ref b1)])
  refine own_at (fun t k => XS.lloadN X16.here hx rfl (hb hby d_method_4_75) rfl k) ?_
  show own_Go p e below KK T16 (mkF m 76 #[.val (.long q1), .second, .val (.int 6), .val (.ref b1)] [(.long q1), (.int 5), (.ref b1)])
  refine own_at (fun t k => XS.iconst X16.here hx rfl (hb hby d_method_4_76) k) ?_
  show own_Go p e below KK T16 (mkF m 77 #[.val (.long q1), .second, .val (.int 6), .val (.ref b1)] [(.int 5), (.long q1), (.int 5), (.ref b1)])
  obtain ⟨_, _, ⟨T18, L18, k18, n18⟩, -, X18, ⟨Lc18, hQ18, l18, y18, z18⟩, st18⟩ := Jvm.LawKit.callS X16 hx (y := (⟨"com/example/isimud/isimud/oscore/OscoreOptionOfRequestPinLaw", "b", "(JI)B"⟩ : MethodName)) hown (mvT hZ (hw _ (List.mem_of_getElem? (i := 53) rfl))) (mvT hZ (hw _ (List.mem_of_getElem? (i := 54) rfl))) (mvT hZ (hw _ (List.mem_of_getElem? (i := 2) rfl))) (mvT hZ (hw _ (List.mem_of_getElem? (i := 55) rfl))) (by decide) (backOf (W := 2) (rm_method_3 l Z a0 hw [] q1 (5 : Int32)  h16 n0 Zs16 ) hZ (hw _ (List.mem_of_getElem? (i := 55) rfl)) (hw _ (List.mem_of_getElem? (i := 2) rfl)) (by decide) (by decide)) (g := (mkF m 77 #[.val (.long q1), .second, .val (.int 6), .val (.ref b1)] [(.int 5), (.long q1), (.int 5), (.ref b1)])) rfl (by rw [hml]; rfl) (argsL := [(.long q1), (.int 5)]) (rest := [(.int 5), (.ref b1)]) (lenOf pd__JI_B rfl) rfl (by show 2 * 0 + _ ≤ _; exact Nat.le_of_eq rfl) (hb hby d_method_4_77) (fun _ _ => ⟨rfl, e16, (by decide : 1 + 0 ≤ _), (by decide : 6 + 0 ≤ _)⟩)
  dsimp only [Pt.U, Pt.locs, Pt.cells, Pt.slots] at X18 l18 y18 z18 st18 hQ18
  subst l18 y18 z18
  obtain ⟨rfl, N18q, e18⟩ := hQ18
  have N18 := Fr.app N16 N18q
  refine own_of (fun t k => st18 t k) ?_
  show own_Go p e below KK T18 (mkF m 80 #[.val (.long q1), .second, .val (.int 6), .val (.ref b1)] [(.int (own_F_method_3 q1 (5 : Int32))), (.int 5), (.ref b1)])
  obtain ⟨T19, h19, X19, e19, W19, V19, st19⟩ := own_stB X18 hx hZ e18 A17_b1 (j := (5 : Int32)) (y := (own_F_method_3 q1 (5 : Int32))) (own_narF _ _) (i := 5) (by decide) (by decide) (show (5 : Nat) < 6 from by decide) (g := (mkF m 80 #[.val (.long q1), .second, .val (.int 6), .val (.ref b1)] [(.int (own_F_method_3 q1 (5 : Int32))), (.int 5), (.ref b1)])) rfl rfl (hb hby d_method_4_80)
  have N19 := Fr.snoc X19 N18 g_b1
  have Zs19 : n0 ≤ h19.size := (by rw [W19.size]; exact Zs16)
  have Kp19 : Keep h0 h19 [] := Kp16.wr W19 (Or.inr sz_b1)
  have A20_b1 : own_A Z h19 b1 "[B" .byte [(.int (own_F_method_3 q1 (0 : Int32))), (.int (own_F_method_3 q1 (1 : Int32))), (.int (own_F_method_3 q1 (2 : Int32))), (.int (own_F_method_3 q1 (3 : Int32))), (.int (own_F_method_3 q1 (4 : Int32))), (.int (own_F_method_3 q1 (5 : Int32)))] := V19
  refine own_of (fun t k => st19 t k) ?_
  show own_Go p e below KK T19 (mkF m 81 #[.val (.long q1), .second, .val (.int 6), .val (.ref b1)] [])
  refine own_at (fun t k => XS.iloadN X19.here hx rfl (hb hby d_method_4_81) rfl k) ?_
  show own_Go p e below KK T19 (mkF m 82 #[.val (.long q1), .second, .val (.int 6), .val (.ref b1)] [(.int 6)])
  refine own_at (fun t k => XS.bipush X19.here hx rfl (hb hby d_method_4_82) k) ?_
  show own_Go p e below KK T19 (mkF m 84 #[.val (.long q1), .second, .val (.int 6), .val (.ref b1)] [(.int 6), (.int 6)])
  have hc84 : ¬ ((6 : Int32) < (6 : Int32)) := by decide
  refine own_at (fun t k => XS.icmpYes X19.here hx rfl (pc0 := 84) (pc' := 97) rfl (hb hby d_method_4_84) rfl (Jvm.Free.XT.ii_le_t hc84) (by decide) (by decide) k) ?_
  show own_Go p e below KK T19 (mkF m 97 #[.val (.long q1), .second, .val (.int 6), .val (.ref b1)] [])
  refine own_at (fun t k => XS.aloadN X19.here hx rfl (hb hby d_method_4_97) rfl rfl k) ?_
  show own_Go p e below KK T19 (mkF m 98 #[.val (.long q1), .second, .val (.int 6), .val (.ref b1)] [(.ref b1)])
  subst hKK
  exact own_retA X19 hx hlk rfl Bd.returns rfl (hb hby d_method_4_98) ⟨b1, rfl, N19, by rw [e19]; exact Kp19, g_b1, sz_b1, by rw [e19]; exact A20_b1⟩ (Nat.le_of_ble_eq_true rfl) (Nat.le_of_ble_eq_true rfl)
theorem d_method_4_87 : decode method_4_code 87 = .ok (.aload_n 3, 1) := by decide +kernel
theorem d_method_4_88 : decode method_4_code 88 = .ok (.bipush 6, 2) := by decide +kernel
theorem d_method_4_90 : decode method_4_code 90 = .ok (.lload_n 0, 1) := by decide +kernel
theorem d_method_4_91 : decode method_4_code 91 = .ok (.bipush 6, 2) := by decide +kernel
theorem d_method_4_93 : decode method_4_code 93 = .ok (.invokestatic 37, 3) := by decide +kernel
theorem d_method_4_96 : decode method_4_code 96 = .ok (.bastore, 1) := by decide +kernel
set_option maxRecDepth 65536 in
set_option maxHeartbeats 40000000 in
theorem rm_make7 (l : Launch) (Z : State) (a0 : Array Value) (hw : ∀ d ∈ tables_1, d.before a0 Z = true) (ws : List Jvm.Cond) (q1 : Int64)  (h0 : Heap) (n0 : Nat) (Z0 : n0 ≤ h0.size)  :
    MetFree l (⟨"com/example/isimud/isimud/oscore/OscoreOptionOfRequestPinLaw", "make", "(JI)[B"⟩ : MethodName) (head1 (Jvm.Cond.code (⟨"com/example/isimud/isimud/oscore/OscoreOptionOfRequestPinLaw", "make", "(JI)[B"⟩ : MethodName) method_4_code 4 (some (.array .byte)) :: ws) ({ frames := 1, cells := 1, slots := 7, locals := 16 } : Room)) (fun a U => a = #[(.long q1), (.int 7)] ∧ Z.Warmed39 U.vm ∧ U.heap = h0) (fun _ _ _ _ _ => True) (fun _ U o U' => ∃ v L, o = .returned v ∧ own_Qf Z [(.int (own_F_method_3 q1 (0 : Int32))), (.int (own_F_method_3 q1 (1 : Int32))), (.int (own_F_method_3 q1 (2 : Int32))), (.int (own_F_method_3 q1 (3 : Int32))), (.int (own_F_method_3 q1 (4 : Int32))), (.int (own_F_method_3 q1 (5 : Int32))), (.int (own_F_method_3 q1 (6 : Int32)))] h0 n0 v U'.heap L ∧ FrameEnd U o U' L ({ frames := 1, cells := 1, slots := 7, locals := 16 } : Room).cells ({ frames := 1, cells := 1, slots := 7, locals := 16 } : Room).slots) := by
  refine MetFree.of_bodySF (plainFor_of_name pn_com_example_isimud_isimud_oscore_OscoreOptionOfRequestPinLaw) hisR ?_
  intro p e s m args below meth c s₁ Bd hml0 hP hK
  obtain ⟨rfl, hZ, hh⟩ := hP
  have hx := Bd.exec
  have hby := Bd.bytes
  have hlk : meth.locks = false := BodyLoose.notSynchronized Bd
  have hml : c.maxLocals = 4 := hml0
  have hown : s.vm.findClass "com/example/isimud/isimud/oscore/OscoreOptionOfRequestPinLaw" = some m.cls := findClass_of_methodNamed Bd.named
  have hnm := (name_of_methodNamed Bd.named Bd.method).1
  have X0 : Stand p l e ({ frames := 1, cells := 1, slots := 7, locals := 16 } : Room) s m #[(.long q1), (.int 7)] below meth c s₁ [] 0 0 := Stand.of_body Bd
  have e0 : s₁.heap = h0 := by rw [← hh, Bd.state]; rfl
  have N0 := Fr.nil n0
  refine own_cast (K := own_K s (own_Qf Z [(.int (own_F_method_3 q1 (0 : Int32))), (.int (own_F_method_3 q1 (1 : Int32))), (.int (own_F_method_3 q1 (2 : Int32))), (.int (own_F_method_3 q1 (3 : Int32))), (.int (own_F_method_3 q1 (4 : Int32))), (.int (own_F_method_3 q1 (5 : Int32))), (.int (own_F_method_3 q1 (6 : Int32)))] h0 n0) 1 7) (ef_method_4 m q1 (7 : Int32)) ?_
  generalize hKK : own_K s (own_Qf Z [(.int (own_F_method_3 q1 (0 : Int32))), (.int (own_F_method_3 q1 (1 : Int32))), (.int (own_F_method_3 q1 (2 : Int32))), (.int (own_F_method_3 q1 (3 : Int32))), (.int (own_F_method_3 q1 (4 : Int32))), (.int (own_F_method_3 q1 (5 : Int32))), (.int (own_F_method_3 q1 (6 : Int32)))] h0 n0) 1 7 = KK
  show own_Go p e below KK s₁ (mkF m 0 #[.val (.long q1), .second, .val (.int 7), .unset] [])
  have Kp0 : Keep h0 h0 [] := Keep.refl _ _
  refine own_at (fun t k => XS.iloadN X0.here hx rfl (hb hby d_method_4_0) rfl k) ?_
  show own_Go p e below KK s₁ (mkF m 1 #[.val (.long q1), .second, .val (.int 7), .unset] [(.int 7)])
  obtain ⟨T1, h1, X1, e1, E1, V1, st1⟩ := own_newA X0 hx hZ (hw _ (List.mem_of_getElem? (i := 4) rfl)) e0 (g := (mkF m 1 #[.val (.long q1), .second, .val (.int 7), .unset] [(.int 7)])) rfl (hb hby d_method_4_1) rfl (by decide) (N := 7) (by decide) (cap := 7) (by decide) (by decide) (by decide) (by decide) (d := "[B") (by first | rfl | decide +kernel) (vs := [(.int 0), (.int 0), (.int 0), (.int 0), (.int 0), (.int 0), (.int 0)]) rfl
  obtain ⟨b1, g1⟩ : ∃ z, z = h0.size := ⟨_, rfl⟩
  rw [← g1] at V1 st1
  have g_b1 : n0 ≤ b1 := by rw [g1]; exact Z0
  have sz_b1 : h0.size ≤ b1 := by rw [g1]; exact Kp0.1
  have Zs1 : n0 ≤ h1.size := Nat.le_trans Z0 E1.1
  have Kp1 : Keep h0 h1 [] := Kp0.ext E1
  have A2_b1 : own_A Z h1 b1 "[B" .byte [(.int 0), (.int 0), (.int 0), (.int 0), (.int 0), (.int 0), (.int 0)] := V1
  refine own_of (fun t k => st1 t k) ?_
  show own_Go p e below KK T1 (mkF m 3 #[.val (.long q1), .second, .val (.int 7), .unset] [(.ref b1)])
  refine own_at (fun t k => XS.astoreN X1.here hx rfl (hb hby d_method_4_3) rfl rfl (l' := #[.val (.long q1), .second, .val (.int 7), .val (.ref b1)]) rfl k) ?_
  show own_Go p e below KK T1 (mkF m 4 #[.val (.long q1), .second, .val (.int 7), .val (.ref b1)] [])
  refine own_at (fun t k => XS.iloadN X1.here hx rfl (hb hby d_method_4_4) rfl k) ?_
  show own_Go p e below KK T1 (mkF m 5 #[.val (.long q1), .second, .val (.int 7), .val (.ref b1)] [(.int 7)])
  have hc5 : (0 : Int32) < (7 : Int32) := by decide
  refine own_at (fun t k => XS.ifNo X1.here hx rfl (hb hby d_method_4_5) rfl (Jvm.Free.XT.i0_le_f hc5) k) ?_
  show own_Go p e below KK T1 (mkF m 8 #[.val (.long q1), .second, .val (.int 7), .val (.ref b1)] [])
  refine own_at (fun t k => XS.aloadN X1.here hx rfl (hb hby d_method_4_8) rfl rfl k) ?_
  show own_Go p e below KK T1 (mkF m 9 #[.val (.long q1), .second, .val (.int 7), .val (.ref b1)] [(.ref b1)])
  refine own_at (fun t k => XS.iconst X1.here hx rfl (hb hby d_method_4_9) k) ?_
  show own_Go p e below KK T1 (mkF m 10 #[.val (.long q1), .second, .val (.int 7), .val (.ref b1)] [(.int 0), (.ref b1)])
  refine own_at (fun t k => XS.lloadN X1.here hx rfl (hb hby d_method_4_10) rfl k) ?_
  show own_Go p e below KK T1 (mkF m 11 #[.val (.long q1), .second, .val (.int 7), .val (.ref b1)] [(.long q1), (.int 0), (.ref b1)])
  refine own_at (fun t k => XS.iconst X1.here hx rfl (hb hby d_method_4_11) k) ?_
  show own_Go p e below KK T1 (mkF m 12 #[.val (.long q1), .second, .val (.int 7), .val (.ref b1)] [(.int 0), (.long q1), (.int 0), (.ref b1)])
  obtain ⟨_, _, ⟨T3, L3, k3, n3⟩, -, X3, ⟨Lc3, hQ3, l3, y3, z3⟩, st3⟩ := Jvm.LawKit.callS X1 hx (y := (⟨"com/example/isimud/isimud/oscore/OscoreOptionOfRequestPinLaw", "b", "(JI)B"⟩ : MethodName)) hown (mvT hZ (hw _ (List.mem_of_getElem? (i := 53) rfl))) (mvT hZ (hw _ (List.mem_of_getElem? (i := 54) rfl))) (mvT hZ (hw _ (List.mem_of_getElem? (i := 2) rfl))) (mvT hZ (hw _ (List.mem_of_getElem? (i := 55) rfl))) (by decide) (backOf (W := 2) (rm_method_3 l Z a0 hw [] q1 (0 : Int32)  h1 n0 Zs1 ) hZ (hw _ (List.mem_of_getElem? (i := 55) rfl)) (hw _ (List.mem_of_getElem? (i := 2) rfl)) (by decide) (by decide)) (g := (mkF m 12 #[.val (.long q1), .second, .val (.int 7), .val (.ref b1)] [(.int 0), (.long q1), (.int 0), (.ref b1)])) rfl (by rw [hml]; rfl) (argsL := [(.long q1), (.int 0)]) (rest := [(.int 0), (.ref b1)]) (lenOf pd__JI_B rfl) rfl (by show 2 * 0 + _ ≤ _; exact Nat.le_of_eq rfl) (hb hby d_method_4_12) (fun _ _ => ⟨rfl, e1, (by decide : 1 + 0 ≤ _), (by decide : 7 + 0 ≤ _)⟩)
  dsimp only [Pt.U, Pt.locs, Pt.cells, Pt.slots] at X3 l3 y3 z3 st3 hQ3
  subst l3 y3 z3
  obtain ⟨rfl, N3q, e3⟩ := hQ3
  have N3 := Fr.app N0 N3q
  refine own_of (fun t k => st3 t k) ?_
  show own_Go p e below KK T3 (mkF m 15 #[.val (.long q1), .second, .val (.int 7), .val (.ref b1)] [(.int (own_F_method_3 q1 (0 : Int32))), (.int 0), (.ref b1)])
  obtain ⟨T4, h4, X4, e4, W4, V4, st4⟩ := own_stB X3 hx hZ e3 A2_b1 (j := (0 : Int32)) (y := (own_F_method_3 q1 (0 : Int32))) (own_narF _ _) (i := 0) (by decide) (by decide) (show (0 : Nat) < 7 from by decide) (g := (mkF m 15 #[.val (.long q1), .second, .val (.int 7), .val (.ref b1)] [(.int (own_F_method_3 q1 (0 : Int32))), (.int 0), (.ref b1)])) rfl rfl (hb hby d_method_4_15)
  have N4 := Fr.snoc X4 N3 g_b1
  have Zs4 : n0 ≤ h4.size := (by rw [W4.size]; exact Zs1)
  have Kp4 : Keep h0 h4 [] := Kp1.wr W4 (Or.inr sz_b1)
  have A5_b1 : own_A Z h4 b1 "[B" .byte [(.int (own_F_method_3 q1 (0 : Int32))), (.int 0), (.int 0), (.int 0), (.int 0), (.int 0), (.int 0)] := V4
  refine own_of (fun t k => st4 t k) ?_
  show own_Go p e below KK T4 (mkF m 16 #[.val (.long q1), .second, .val (.int 7), .val (.ref b1)] [])
  refine own_at (fun t k => XS.iloadN X4.here hx rfl (hb hby d_method_4_16) rfl k) ?_
  show own_Go p e below KK T4 (mkF m 17 #[.val (.long q1), .second, .val (.int 7), .val (.ref b1)] [(.int 7)])
  refine own_at (fun t k => XS.iconst X4.here hx rfl (hb hby d_method_4_17) k) ?_
  show own_Go p e below KK T4 (mkF m 18 #[.val (.long q1), .second, .val (.int 7), .val (.ref b1)] [(.int 1), (.int 7)])
  have hc18 : (1 : Int32) < (7 : Int32) := by decide
  refine own_at (fun t k => XS.icmpNo X4.here hx rfl (hb hby d_method_4_18) rfl (Jvm.Free.XT.ii_le_f hc18) k) ?_
  show own_Go p e below KK T4 (mkF m 21 #[.val (.long q1), .second, .val (.int 7), .val (.ref b1)] [])
  refine own_at (fun t k => XS.aloadN X4.here hx rfl (hb hby d_method_4_21) rfl rfl k) ?_
  show own_Go p e below KK T4 (mkF m 22 #[.val (.long q1), .second, .val (.int 7), .val (.ref b1)] [(.ref b1)])
  refine own_at (fun t k => XS.iconst X4.here hx rfl (hb hby d_method_4_22) k) ?_
  show own_Go p e below KK T4 (mkF m 23 #[.val (.long q1), .second, .val (.int 7), .val (.ref b1)] [(.int 1), (.ref b1)])
  refine own_at (fun t k => XS.lloadN X4.here hx rfl (hb hby d_method_4_23) rfl k) ?_
  show own_Go p e below KK T4 (mkF m 24 #[.val (.long q1), .second, .val (.int 7), .val (.ref b1)] [(.long q1), (.int 1), (.ref b1)])
  refine own_at (fun t k => XS.iconst X4.here hx rfl (hb hby d_method_4_24) k) ?_
  show own_Go p e below KK T4 (mkF m 25 #[.val (.long q1), .second, .val (.int 7), .val (.ref b1)] [(.int 1), (.long q1), (.int 1), (.ref b1)])
  obtain ⟨_, _, ⟨T6, L6, k6, n6⟩, -, X6, ⟨Lc6, hQ6, l6, y6, z6⟩, st6⟩ := Jvm.LawKit.callS X4 hx (y := (⟨"com/example/isimud/isimud/oscore/OscoreOptionOfRequestPinLaw", "b", "(JI)B"⟩ : MethodName)) hown (mvT hZ (hw _ (List.mem_of_getElem? (i := 53) rfl))) (mvT hZ (hw _ (List.mem_of_getElem? (i := 54) rfl))) (mvT hZ (hw _ (List.mem_of_getElem? (i := 2) rfl))) (mvT hZ (hw _ (List.mem_of_getElem? (i := 55) rfl))) (by decide) (backOf (W := 2) (rm_method_3 l Z a0 hw [] q1 (1 : Int32)  h4 n0 Zs4 ) hZ (hw _ (List.mem_of_getElem? (i := 55) rfl)) (hw _ (List.mem_of_getElem? (i := 2) rfl)) (by decide) (by decide)) (g := (mkF m 25 #[.val (.long q1), .second, .val (.int 7), .val (.ref b1)] [(.int 1), (.long q1), (.int 1), (.ref b1)])) rfl (by rw [hml]; rfl) (argsL := [(.long q1), (.int 1)]) (rest := [(.int 1), (.ref b1)]) (lenOf pd__JI_B rfl) rfl (by show 2 * 0 + _ ≤ _; exact Nat.le_of_eq rfl) (hb hby d_method_4_25) (fun _ _ => ⟨rfl, e4, (by decide : 1 + 0 ≤ _), (by decide : 7 + 0 ≤ _)⟩)
  dsimp only [Pt.U, Pt.locs, Pt.cells, Pt.slots] at X6 l6 y6 z6 st6 hQ6
  subst l6 y6 z6
  obtain ⟨rfl, N6q, e6⟩ := hQ6
  have N6 := Fr.app N4 N6q
  refine own_of (fun t k => st6 t k) ?_
  show own_Go p e below KK T6 (mkF m 28 #[.val (.long q1), .second, .val (.int 7), .val (.ref b1)] [(.int (own_F_method_3 q1 (1 : Int32))), (.int 1), (.ref b1)])
  obtain ⟨T7, h7, X7, e7, W7, V7, st7⟩ := own_stB X6 hx hZ e6 A5_b1 (j := (1 : Int32)) (y := (own_F_method_3 q1 (1 : Int32))) (own_narF _ _) (i := 1) (by decide) (by decide) (show (1 : Nat) < 7 from by decide) (g := (mkF m 28 #[.val (.long q1), .second, .val (.int 7), .val (.ref b1)] [(.int (own_F_method_3 q1 (1 : Int32))), (.int 1), (.ref b1)])) rfl rfl (hb hby d_method_4_28)
  have N7 := Fr.snoc X7 N6 g_b1
  have Zs7 : n0 ≤ h7.size := (by rw [W7.size]; exact Zs4)
  have Kp7 : Keep h0 h7 [] := Kp4.wr W7 (Or.inr sz_b1)
  have A8_b1 : own_A Z h7 b1 "[B" .byte [(.int (own_F_method_3 q1 (0 : Int32))), (.int (own_F_method_3 q1 (1 : Int32))), (.int 0), (.int 0), (.int 0), (.int 0), (.int 0)] := V7
  refine own_of (fun t k => st7 t k) ?_
  show own_Go p e below KK T7 (mkF m 29 #[.val (.long q1), .second, .val (.int 7), .val (.ref b1)] [])
  refine own_at (fun t k => XS.iloadN X7.here hx rfl (hb hby d_method_4_29) rfl k) ?_
  show own_Go p e below KK T7 (mkF m 30 #[.val (.long q1), .second, .val (.int 7), .val (.ref b1)] [(.int 7)])
  refine own_at (fun t k => XS.iconst X7.here hx rfl (hb hby d_method_4_30) k) ?_
  show own_Go p e below KK T7 (mkF m 31 #[.val (.long q1), .second, .val (.int 7), .val (.ref b1)] [(.int 2), (.int 7)])
  have hc31 : (2 : Int32) < (7 : Int32) := by decide
  refine own_at (fun t k => XS.icmpNo X7.here hx rfl (hb hby d_method_4_31) rfl (Jvm.Free.XT.ii_le_f hc31) k) ?_
  show own_Go p e below KK T7 (mkF m 34 #[.val (.long q1), .second, .val (.int 7), .val (.ref b1)] [])
  refine own_at (fun t k => XS.aloadN X7.here hx rfl (hb hby d_method_4_34) rfl rfl k) ?_
  show own_Go p e below KK T7 (mkF m 35 #[.val (.long q1), .second, .val (.int 7), .val (.ref b1)] [(.ref b1)])
  refine own_at (fun t k => XS.iconst X7.here hx rfl (hb hby d_method_4_35) k) ?_
  show own_Go p e below KK T7 (mkF m 36 #[.val (.long q1), .second, .val (.int 7), .val (.ref b1)] [(.int 2), (.ref b1)])
  refine own_at (fun t k => XS.lloadN X7.here hx rfl (hb hby d_method_4_36) rfl k) ?_
  show own_Go p e below KK T7 (mkF m 37 #[.val (.long q1), .second, .val (.int 7), .val (.ref b1)] [(.long q1), (.int 2), (.ref b1)])
  refine own_at (fun t k => XS.iconst X7.here hx rfl (hb hby d_method_4_37) k) ?_
  show own_Go p e below KK T7 (mkF m 38 #[.val (.long q1), .second, .val (.int 7), .val (.ref b1)] [(.int 2), (.long q1), (.int 2), (.ref b1)])
  obtain ⟨_, _, ⟨T9, L9, k9, n9⟩, -, X9, ⟨Lc9, hQ9, l9, y9, z9⟩, st9⟩ := Jvm.LawKit.callS X7 hx (y := (⟨"com/example/isimud/isimud/oscore/OscoreOptionOfRequestPinLaw", "b", "(JI)B"⟩ : MethodName)) hown (mvT hZ (hw _ (List.mem_of_getElem? (i := 53) rfl))) (mvT hZ (hw _ (List.mem_of_getElem? (i := 54) rfl))) (mvT hZ (hw _ (List.mem_of_getElem? (i := 2) rfl))) (mvT hZ (hw _ (List.mem_of_getElem? (i := 55) rfl))) (by decide) (backOf (W := 2) (rm_method_3 l Z a0 hw [] q1 (2 : Int32)  h7 n0 Zs7 ) hZ (hw _ (List.mem_of_getElem? (i := 55) rfl)) (hw _ (List.mem_of_getElem? (i := 2) rfl)) (by decide) (by decide)) (g := (mkF m 38 #[.val (.long q1), .second, .val (.int 7), .val (.ref b1)] [(.int 2), (.long q1), (.int 2), (.ref b1)])) rfl (by rw [hml]; rfl) (argsL := [(.long q1), (.int 2)]) (rest := [(.int 2), (.ref b1)]) (lenOf pd__JI_B rfl) rfl (by show 2 * 0 + _ ≤ _; exact Nat.le_of_eq rfl) (hb hby d_method_4_38) (fun _ _ => ⟨rfl, e7, (by decide : 1 + 0 ≤ _), (by decide : 7 + 0 ≤ _)⟩)
  dsimp only [Pt.U, Pt.locs, Pt.cells, Pt.slots] at X9 l9 y9 z9 st9 hQ9
  subst l9 y9 z9
  obtain ⟨rfl, N9q, e9⟩ := hQ9
  have N9 := Fr.app N7 N9q
  refine own_of (fun t k => st9 t k) ?_
  show own_Go p e below KK T9 (mkF m 41 #[.val (.long q1), .second, .val (.int 7), .val (.ref b1)] [(.int (own_F_method_3 q1 (2 : Int32))), (.int 2), (.ref b1)])
  obtain ⟨T10, h10, X10, e10, W10, V10, st10⟩ := own_stB X9 hx hZ e9 A8_b1 (j := (2 : Int32)) (y := (own_F_method_3 q1 (2 : Int32))) (own_narF _ _) (i := 2) (by decide) (by decide) (show (2 : Nat) < 7 from by decide) (g := (mkF m 41 #[.val (.long q1), .second, .val (.int 7), .val (.ref b1)] [(.int (own_F_method_3 q1 (2 : Int32))), (.int 2), (.ref b1)])) rfl rfl (hb hby d_method_4_41)
  have N10 := Fr.snoc X10 N9 g_b1
  have Zs10 : n0 ≤ h10.size := (by rw [W10.size]; exact Zs7)
  have Kp10 : Keep h0 h10 [] := Kp7.wr W10 (Or.inr sz_b1)
  have A11_b1 : own_A Z h10 b1 "[B" .byte [(.int (own_F_method_3 q1 (0 : Int32))), (.int (own_F_method_3 q1 (1 : Int32))), (.int (own_F_method_3 q1 (2 : Int32))), (.int 0), (.int 0), (.int 0), (.int 0)] := V10
  refine own_of (fun t k => st10 t k) ?_
  show own_Go p e below KK T10 (mkF m 42 #[.val (.long q1), .second, .val (.int 7), .val (.ref b1)] [])
  refine own_at (fun t k => XS.iloadN X10.here hx rfl (hb hby d_method_4_42) rfl k) ?_
  show own_Go p e below KK T10 (mkF m 43 #[.val (.long q1), .second, .val (.int 7), .val (.ref b1)] [(.int 7)])
  refine own_at (fun t k => XS.iconst X10.here hx rfl (hb hby d_method_4_43) k) ?_
  show own_Go p e below KK T10 (mkF m 44 #[.val (.long q1), .second, .val (.int 7), .val (.ref b1)] [(.int 3), (.int 7)])
  have hc44 : (3 : Int32) < (7 : Int32) := by decide
  refine own_at (fun t k => XS.icmpNo X10.here hx rfl (hb hby d_method_4_44) rfl (Jvm.Free.XT.ii_le_f hc44) k) ?_
  show own_Go p e below KK T10 (mkF m 47 #[.val (.long q1), .second, .val (.int 7), .val (.ref b1)] [])
  refine own_at (fun t k => XS.aloadN X10.here hx rfl (hb hby d_method_4_47) rfl rfl k) ?_
  show own_Go p e below KK T10 (mkF m 48 #[.val (.long q1), .second, .val (.int 7), .val (.ref b1)] [(.ref b1)])
  refine own_at (fun t k => XS.iconst X10.here hx rfl (hb hby d_method_4_48) k) ?_
  show own_Go p e below KK T10 (mkF m 49 #[.val (.long q1), .second, .val (.int 7), .val (.ref b1)] [(.int 3), (.ref b1)])
  refine own_at (fun t k => XS.lloadN X10.here hx rfl (hb hby d_method_4_49) rfl k) ?_
  show own_Go p e below KK T10 (mkF m 50 #[.val (.long q1), .second, .val (.int 7), .val (.ref b1)] [(.long q1), (.int 3), (.ref b1)])
  refine own_at (fun t k => XS.iconst X10.here hx rfl (hb hby d_method_4_50) k) ?_
  show own_Go p e below KK T10 (mkF m 51 #[.val (.long q1), .second, .val (.int 7), .val (.ref b1)] [(.int 3), (.long q1), (.int 3), (.ref b1)])
  obtain ⟨_, _, ⟨T12, L12, k12, n12⟩, -, X12, ⟨Lc12, hQ12, l12, y12, z12⟩, st12⟩ := Jvm.LawKit.callS X10 hx (y := (⟨"com/example/isimud/isimud/oscore/OscoreOptionOfRequestPinLaw", "b", "(JI)B"⟩ : MethodName)) hown (mvT hZ (hw _ (List.mem_of_getElem? (i := 53) rfl))) (mvT hZ (hw _ (List.mem_of_getElem? (i := 54) rfl))) (mvT hZ (hw _ (List.mem_of_getElem? (i := 2) rfl))) (mvT hZ (hw _ (List.mem_of_getElem? (i := 55) rfl))) (by decide) (backOf (W := 2) (rm_method_3 l Z a0 hw [] q1 (3 : Int32)  h10 n0 Zs10 ) hZ (hw _ (List.mem_of_getElem? (i := 55) rfl)) (hw _ (List.mem_of_getElem? (i := 2) rfl)) (by decide) (by decide)) (g := (mkF m 51 #[.val (.long q1), .second, .val (.int 7), .val (.ref b1)] [(.int 3), (.long q1), (.int 3), (.ref b1)])) rfl (by rw [hml]; rfl) (argsL := [(.long q1), (.int 3)]) (rest := [(.int 3), (.ref b1)]) (lenOf pd__JI_B rfl) rfl (by show 2 * 0 + _ ≤ _; exact Nat.le_of_eq rfl) (hb hby d_method_4_51) (fun _ _ => ⟨rfl, e10, (by decide : 1 + 0 ≤ _), (by decide : 7 + 0 ≤ _)⟩)
  dsimp only [Pt.U, Pt.locs, Pt.cells, Pt.slots] at X12 l12 y12 z12 st12 hQ12
  subst l12 y12 z12
  obtain ⟨rfl, N12q, e12⟩ := hQ12
  have N12 := Fr.app N10 N12q
  refine own_of (fun t k => st12 t k) ?_
  show own_Go p e below KK T12 (mkF m 54 #[.val (.long q1), .second, .val (.int 7), .val (.ref b1)] [(.int (own_F_method_3 q1 (3 : Int32))), (.int 3), (.ref b1)])
  obtain ⟨T13, h13, X13, e13, W13, V13, st13⟩ := own_stB X12 hx hZ e12 A11_b1 (j := (3 : Int32)) (y := (own_F_method_3 q1 (3 : Int32))) (own_narF _ _) (i := 3) (by decide) (by decide) (show (3 : Nat) < 7 from by decide) (g := (mkF m 54 #[.val (.long q1), .second, .val (.int 7), .val (.ref b1)] [(.int (own_F_method_3 q1 (3 : Int32))), (.int 3), (.ref b1)])) rfl rfl (hb hby d_method_4_54)
  have N13 := Fr.snoc X13 N12 g_b1
  have Zs13 : n0 ≤ h13.size := (by rw [W13.size]; exact Zs10)
  have Kp13 : Keep h0 h13 [] := Kp10.wr W13 (Or.inr sz_b1)
  have A14_b1 : own_A Z h13 b1 "[B" .byte [(.int (own_F_method_3 q1 (0 : Int32))), (.int (own_F_method_3 q1 (1 : Int32))), (.int (own_F_method_3 q1 (2 : Int32))), (.int (own_F_method_3 q1 (3 : Int32))), (.int 0), (.int 0), (.int 0)] := V13
  refine own_of (fun t k => st13 t k) ?_
  show own_Go p e below KK T13 (mkF m 55 #[.val (.long q1), .second, .val (.int 7), .val (.ref b1)] [])
  refine own_at (fun t k => XS.iloadN X13.here hx rfl (hb hby d_method_4_55) rfl k) ?_
  show own_Go p e below KK T13 (mkF m 56 #[.val (.long q1), .second, .val (.int 7), .val (.ref b1)] [(.int 7)])
  refine own_at (fun t k => XS.iconst X13.here hx rfl (hb hby d_method_4_56) k) ?_
  show own_Go p e below KK T13 (mkF m 57 #[.val (.long q1), .second, .val (.int 7), .val (.ref b1)] [(.int 4), (.int 7)])
  have hc57 : (4 : Int32) < (7 : Int32) := by decide
  refine own_at (fun t k => XS.icmpNo X13.here hx rfl (hb hby d_method_4_57) rfl (Jvm.Free.XT.ii_le_f hc57) k) ?_
  show own_Go p e below KK T13 (mkF m 60 #[.val (.long q1), .second, .val (.int 7), .val (.ref b1)] [])
  refine own_at (fun t k => XS.aloadN X13.here hx rfl (hb hby d_method_4_60) rfl rfl k) ?_
  show own_Go p e below KK T13 (mkF m 61 #[.val (.long q1), .second, .val (.int 7), .val (.ref b1)] [(.ref b1)])
  refine own_at (fun t k => XS.iconst X13.here hx rfl (hb hby d_method_4_61) k) ?_
  show own_Go p e below KK T13 (mkF m 62 #[.val (.long q1), .second, .val (.int 7), .val (.ref b1)] [(.int 4), (.ref b1)])
  refine own_at (fun t k => XS.lloadN X13.here hx rfl (hb hby d_method_4_62) rfl k) ?_
  show own_Go p e below KK T13 (mkF m 63 #[.val (.long q1), .second, .val (.int 7), .val (.ref b1)] [(.long q1), (.int 4), (.ref b1)])
  refine own_at (fun t k => XS.iconst X13.here hx rfl (hb hby d_method_4_63) k) ?_
  show own_Go p e below KK T13 (mkF m 64 #[.val (.long q1), .second, .val (.int 7), .val (.ref b1)] [(.int 4), (.long q1), (.int 4), (.ref b1)])
  obtain ⟨_, _, ⟨T15, L15, k15, n15⟩, -, X15, ⟨Lc15, hQ15, l15, y15, z15⟩, st15⟩ := Jvm.LawKit.callS X13 hx (y := (⟨"com/example/isimud/isimud/oscore/OscoreOptionOfRequestPinLaw", "b", "(JI)B"⟩ : MethodName)) hown (mvT hZ (hw _ (List.mem_of_getElem? (i := 53) rfl))) (mvT hZ (hw _ (List.mem_of_getElem? (i := 54) rfl))) (mvT hZ (hw _ (List.mem_of_getElem? (i := 2) rfl))) (mvT hZ (hw _ (List.mem_of_getElem? (i := 55) rfl))) (by decide) (backOf (W := 2) (rm_method_3 l Z a0 hw [] q1 (4 : Int32)  h13 n0 Zs13 ) hZ (hw _ (List.mem_of_getElem? (i := 55) rfl)) (hw _ (List.mem_of_getElem? (i := 2) rfl)) (by decide) (by decide)) (g := (mkF m 64 #[.val (.long q1), .second, .val (.int 7), .val (.ref b1)] [(.int 4), (.long q1), (.int 4), (.ref b1)])) rfl (by rw [hml]; rfl) (argsL := [(.long q1), (.int 4)]) (rest := [(.int 4), (.ref b1)]) (lenOf pd__JI_B rfl) rfl (by show 2 * 0 + _ ≤ _; exact Nat.le_of_eq rfl) (hb hby d_method_4_64) (fun _ _ => ⟨rfl, e13, (by decide : 1 + 0 ≤ _), (by decide : 7 + 0 ≤ _)⟩)
  dsimp only [Pt.U, Pt.locs, Pt.cells, Pt.slots] at X15 l15 y15 z15 st15 hQ15
  subst l15 y15 z15
  obtain ⟨rfl, N15q, e15⟩ := hQ15
  have N15 := Fr.app N13 N15q
  refine own_of (fun t k => st15 t k) ?_
  show own_Go p e below KK T15 (mkF m 67 #[.val (.long q1), .second, .val (.int 7), .val (.ref b1)] [(.int (own_F_method_3 q1 (4 : Int32))), (.int 4), (.ref b1)])
  obtain ⟨T16, h16, X16, e16, W16, V16, st16⟩ := own_stB X15 hx hZ e15 A14_b1 (j := (4 : Int32)) (y := (own_F_method_3 q1 (4 : Int32))) (own_narF _ _) (i := 4) (by decide) (by decide) (show (4 : Nat) < 7 from by decide) (g := (mkF m 67 #[.val (.long q1), .second, .val (.int 7), .val (.ref b1)] [(.int (own_F_method_3 q1 (4 : Int32))), (.int 4), (.ref b1)])) rfl rfl (hb hby d_method_4_67)
  have N16 := Fr.snoc X16 N15 g_b1
  have Zs16 : n0 ≤ h16.size := (by rw [W16.size]; exact Zs13)
  have Kp16 : Keep h0 h16 [] := Kp13.wr W16 (Or.inr sz_b1)
  have A17_b1 : own_A Z h16 b1 "[B" .byte [(.int (own_F_method_3 q1 (0 : Int32))), (.int (own_F_method_3 q1 (1 : Int32))), (.int (own_F_method_3 q1 (2 : Int32))), (.int (own_F_method_3 q1 (3 : Int32))), (.int (own_F_method_3 q1 (4 : Int32))), (.int 0), (.int 0)] := V16
  refine own_of (fun t k => st16 t k) ?_
  show own_Go p e below KK T16 (mkF m 68 #[.val (.long q1), .second, .val (.int 7), .val (.ref b1)] [])
  refine own_at (fun t k => XS.iloadN X16.here hx rfl (hb hby d_method_4_68) rfl k) ?_
  show own_Go p e below KK T16 (mkF m 69 #[.val (.long q1), .second, .val (.int 7), .val (.ref b1)] [(.int 7)])
  refine own_at (fun t k => XS.iconst X16.here hx rfl (hb hby d_method_4_69) k) ?_
  show own_Go p e below KK T16 (mkF m 70 #[.val (.long q1), .second, .val (.int 7), .val (.ref b1)] [(.int 5), (.int 7)])
  have hc70 : (5 : Int32) < (7 : Int32) := by decide
  refine own_at (fun t k => XS.icmpNo X16.here hx rfl (hb hby d_method_4_70) rfl (Jvm.Free.XT.ii_le_f hc70) k) ?_
  show own_Go p e below KK T16 (mkF m 73 #[.val (.long q1), .second, .val (.int 7), .val (.ref b1)] [])
  refine own_at (fun t k => XS.aloadN X16.here hx rfl (hb hby d_method_4_73) rfl rfl k) ?_
  show own_Go p e below KK T16 (mkF m 74 #[.val (.long q1), .second, .val (.int 7), .val (.ref b1)] [(.ref b1)])
  refine own_at (fun t k => XS.iconst X16.here hx rfl (hb hby d_method_4_74) k) ?_
  show own_Go p e below KK T16 (mkF m 75 #[.val (.long q1), .second, .val (.int 7), .val (.ref b1)] [(.int 5), (.ref b1)])
  refine own_at (fun t k => XS.lloadN X16.here hx rfl (hb hby d_method_4_75) rfl k) ?_
  show own_Go p e below KK T16 (mkF m 76 #[.val (.long q1), .second, .val (.int 7), .val (.ref b1)] [(.long q1), (.int 5), (.ref b1)])
  refine own_at (fun t k => XS.iconst X16.here hx rfl (hb hby d_method_4_76) k) ?_
  show own_Go p e below KK T16 (mkF m 77 #[.val (.long q1), .second, .val (.int 7), .val (.ref b1)] [(.int 5), (.long q1), (.int 5), (.ref b1)])
  obtain ⟨_, _, ⟨T18, L18, k18, n18⟩, -, X18, ⟨Lc18, hQ18, l18, y18, z18⟩, st18⟩ := Jvm.LawKit.callS X16 hx (y := (⟨"com/example/isimud/isimud/oscore/OscoreOptionOfRequestPinLaw", "b", "(JI)B"⟩ : MethodName)) hown (mvT hZ (hw _ (List.mem_of_getElem? (i := 53) rfl))) (mvT hZ (hw _ (List.mem_of_getElem? (i := 54) rfl))) (mvT hZ (hw _ (List.mem_of_getElem? (i := 2) rfl))) (mvT hZ (hw _ (List.mem_of_getElem? (i := 55) rfl))) (by decide) (backOf (W := 2) (rm_method_3 l Z a0 hw [] q1 (5 : Int32)  h16 n0 Zs16 ) hZ (hw _ (List.mem_of_getElem? (i := 55) rfl)) (hw _ (List.mem_of_getElem? (i := 2) rfl)) (by decide) (by decide)) (g := (mkF m 77 #[.val (.long q1), .second, .val (.int 7), .val (.ref b1)] [(.int 5), (.long q1), (.int 5), (.ref b1)])) rfl (by rw [hml]; rfl) (argsL := [(.long q1), (.int 5)]) (rest := [(.int 5), (.ref b1)]) (lenOf pd__JI_B rfl) rfl (by show 2 * 0 + _ ≤ _; exact Nat.le_of_eq rfl) (hb hby d_method_4_77) (fun _ _ => ⟨rfl, e16, (by decide : 1 + 0 ≤ _), (by decide : 7 + 0 ≤ _)⟩)
  dsimp only [Pt.U, Pt.locs, Pt.cells, Pt.slots] at X18 l18 y18 z18 st18 hQ18
  subst l18 y18 z18
  obtain ⟨rfl, N18q, e18⟩ := hQ18
  have N18 := Fr.app N16 N18q
  refine own_of (fun t k => st18 t k) ?_
  show own_Go p e below KK T18 (mkF m 80 #[.val (.long q1), .second, .val (.int 7), .val (.ref b1)] [(.int (own_F_method_3 q1 (5 : Int32))), (.int 5), (.ref b1)])
  obtain ⟨T19, h19, X19, e19, W19, V19, st19⟩ := own_stB X18 hx hZ e18 A17_b1 (j := (5 : Int32)) (y := (own_F_method_3 q1 (5 : Int32))) (own_narF _ _) (i := 5) (by decide) (by decide) (show (5 : Nat) < 7 from by decide) (g := (mkF m 80 #[.val (.long q1), .second, .val (.int 7), .val (.ref b1)] [(.int (own_F_method_3 q1 (5 : Int32))), (.int 5), (.ref b1)])) rfl rfl (hb hby d_method_4_80)
  have N19 := Fr.snoc X19 N18 g_b1
  have Zs19 : n0 ≤ h19.size := (by rw [W19.size]; exact Zs16)
  have Kp19 : Keep h0 h19 [] := Kp16.wr W19 (Or.inr sz_b1)
  have A20_b1 : own_A Z h19 b1 "[B" .byte [(.int (own_F_method_3 q1 (0 : Int32))), (.int (own_F_method_3 q1 (1 : Int32))), (.int (own_F_method_3 q1 (2 : Int32))), (.int (own_F_method_3 q1 (3 : Int32))), (.int (own_F_method_3 q1 (4 : Int32))), (.int (own_F_method_3 q1 (5 : Int32))), (.int 0)] := V19
  refine own_of (fun t k => st19 t k) ?_
  show own_Go p e below KK T19 (mkF m 81 #[.val (.long q1), .second, .val (.int 7), .val (.ref b1)] [])
  refine own_at (fun t k => XS.iloadN X19.here hx rfl (hb hby d_method_4_81) rfl k) ?_
  show own_Go p e below KK T19 (mkF m 82 #[.val (.long q1), .second, .val (.int 7), .val (.ref b1)] [(.int 7)])
  refine own_at (fun t k => XS.bipush X19.here hx rfl (hb hby d_method_4_82) k) ?_
  show own_Go p e below KK T19 (mkF m 84 #[.val (.long q1), .second, .val (.int 7), .val (.ref b1)] [(.int 6), (.int 7)])
  have hc84 : (6 : Int32) < (7 : Int32) := by decide
  refine own_at (fun t k => XS.icmpNo X19.here hx rfl (hb hby d_method_4_84) rfl (Jvm.Free.XT.ii_le_f hc84) k) ?_
  show own_Go p e below KK T19 (mkF m 87 #[.val (.long q1), .second, .val (.int 7), .val (.ref b1)] [])
  refine own_at (fun t k => XS.aloadN X19.here hx rfl (hb hby d_method_4_87) rfl rfl k) ?_
  show own_Go p e below KK T19 (mkF m 88 #[.val (.long q1), .second, .val (.int 7), .val (.ref b1)] [(.ref b1)])
  refine own_at (fun t k => XS.bipush X19.here hx rfl (hb hby d_method_4_88) k) ?_
  show own_Go p e below KK T19 (mkF m 90 #[.val (.long q1), .second, .val (.int 7), .val (.ref b1)] [(.int 6), (.ref b1)])
  refine own_at (fun t k => XS.lloadN X19.here hx rfl (hb hby d_method_4_90) rfl k) ?_
  show own_Go p e below KK T19 (mkF m 91 #[.val (.long q1), .second, .val (.int 7), .val (.ref b1)] [(.long q1), (.int 6), (.ref b1)])
  refine own_at (fun t k => XS.bipush X19.here hx rfl (hb hby d_method_4_91) k) ?_
  show own_Go p e below KK T19 (mkF m 93 #[.val (.long q1), .second, .val (.int 7), .val (.ref b1)] [(.int 6), (.long q1), (.int 6), (.ref b1)])
  obtain ⟨_, _, ⟨T21, L21, k21, n21⟩, -, X21, ⟨Lc21, hQ21, l21, y21, z21⟩, st21⟩ := Jvm.LawKit.callS X19 hx (y := (⟨"com/example/isimud/isimud/oscore/OscoreOptionOfRequestPinLaw", "b", "(JI)B"⟩ : MethodName)) hown (mvT hZ (hw _ (List.mem_of_getElem? (i := 53) rfl))) (mvT hZ (hw _ (List.mem_of_getElem? (i := 54) rfl))) (mvT hZ (hw _ (List.mem_of_getElem? (i := 2) rfl))) (mvT hZ (hw _ (List.mem_of_getElem? (i := 55) rfl))) (by decide) (backOf (W := 2) (rm_method_3 l Z a0 hw [] q1 (6 : Int32)  h19 n0 Zs19 ) hZ (hw _ (List.mem_of_getElem? (i := 55) rfl)) (hw _ (List.mem_of_getElem? (i := 2) rfl)) (by decide) (by decide)) (g := (mkF m 93 #[.val (.long q1), .second, .val (.int 7), .val (.ref b1)] [(.int 6), (.long q1), (.int 6), (.ref b1)])) rfl (by rw [hml]; rfl) (argsL := [(.long q1), (.int 6)]) (rest := [(.int 6), (.ref b1)]) (lenOf pd__JI_B rfl) rfl (by show 2 * 0 + _ ≤ _; exact Nat.le_of_eq rfl) (hb hby d_method_4_93) (fun _ _ => ⟨rfl, e19, (by decide : 1 + 0 ≤ _), (by decide : 7 + 0 ≤ _)⟩)
  dsimp only [Pt.U, Pt.locs, Pt.cells, Pt.slots] at X21 l21 y21 z21 st21 hQ21
  subst l21 y21 z21
  obtain ⟨rfl, N21q, e21⟩ := hQ21
  have N21 := Fr.app N19 N21q
  refine own_of (fun t k => st21 t k) ?_
  show own_Go p e below KK T21 (mkF m 96 #[.val (.long q1), .second, .val (.int 7), .val (.ref b1)] [(.int (own_F_method_3 q1 (6 : Int32))), (.int 6), (.ref b1)])
  obtain ⟨T22, h22, X22, e22, W22, V22, st22⟩ := own_stB X21 hx hZ e21 A20_b1 (j := (6 : Int32)) (y := (own_F_method_3 q1 (6 : Int32))) (own_narF _ _) (i := 6) (by decide) (by decide) (show (6 : Nat) < 7 from by decide) (g := (mkF m 96 #[.val (.long q1), .second, .val (.int 7), .val (.ref b1)] [(.int (own_F_method_3 q1 (6 : Int32))), (.int 6), (.ref b1)])) rfl rfl (hb hby d_method_4_96)
  have N22 := Fr.snoc X22 N21 g_b1
  have Zs22 : n0 ≤ h22.size := (by rw [W22.size]; exact Zs19)
  have Kp22 : Keep h0 h22 [] := Kp19.wr W22 (Or.inr sz_b1)
  have A23_b1 : own_A Z h22 b1 "[B" .byte [(.int (own_F_method_3 q1 (0 : Int32))), (.int (own_F_method_3 q1 (1 : Int32))), (.int (own_F_method_3 q1 (2 : Int32))), (.int (own_F_method_3 q1 (3 : Int32))), (.int (own_F_method_3 q1 (4 : Int32))), (.int (own_F_method_3 q1 (5 : Int32))), (.int (own_F_method_3 q1 (6 : Int32)))] := V22
  refine own_of (fun t k => st22 t k) ?_
  show own_Go p e below KK T22 (mkF m 97 #[.val (.long q1), .second, .val (.int 7), .val (.ref b1)] [])
  refine own_at (fun t k => XS.aloadN X22.here hx rfl (hb hby d_method_4_97) rfl rfl k) ?_
  show own_Go p e below KK T22 (mkF m 98 #[.val (.long q1), .second, .val (.int 7), .val (.ref b1)] [(.ref b1)])
  subst hKK
  exact own_retA X22 hx hlk rfl Bd.returns rfl (hb hby d_method_4_98) ⟨b1, rfl, N22, by rw [e22]; exact Kp22, g_b1, sz_b1, by rw [e22]; exact A23_b1⟩ (Nat.le_of_ble_eq_true rfl) (Nat.le_of_ble_eq_true rfl)
theorem rm_make (l : Launch) (Z : State) (a0 : Array Value) (hw : ∀ d ∈ tables_1, d.before a0 Z = true) (ws : List Jvm.Cond) (q1 : Int64) (n : Nat) (h0 : Heap) (n0 : Nat) (Z0 : n0 ≤ h0.size) (hn : n ≤ 7) :
    MetFree l (⟨"com/example/isimud/isimud/oscore/OscoreOptionOfRequestPinLaw", "make", "(JI)[B"⟩ : MethodName) (head1 (Jvm.Cond.code (⟨"com/example/isimud/isimud/oscore/OscoreOptionOfRequestPinLaw", "make", "(JI)[B"⟩ : MethodName) method_4_code 4 (some (.array .byte)) :: ws) ({ frames := 1, cells := 1, slots := 7, locals := 16 } : Room)) (fun a U => a = #[(.long q1), (.int (Int32.ofNat n))] ∧ Z.Warmed39 U.vm ∧ U.heap = h0) (fun _ _ _ _ _ => True) (fun _ U o U' => ∃ v L, o = .returned v ∧ own_Qf Z (own_vals q1 n) h0 n0 v U'.heap L ∧ FrameEnd U o U' L ({ frames := 1, cells := 1, slots := 7, locals := 16 } : Room).cells ({ frames := 1, cells := 1, slots := 7, locals := 16 } : Room).slots) := by
  match n, hn with
  | 0, _ => exact rm_make0 l Z a0 hw ws q1 h0 n0 Z0
  | 1, _ => exact rm_make1 l Z a0 hw ws q1 h0 n0 Z0
  | 2, _ => exact rm_make2 l Z a0 hw ws q1 h0 n0 Z0
  | 3, _ => exact rm_make3 l Z a0 hw ws q1 h0 n0 Z0
  | 4, _ => exact rm_make4 l Z a0 hw ws q1 h0 n0 Z0
  | 5, _ => exact rm_make5 l Z a0 hw ws q1 h0 n0 Z0
  | 6, _ => exact rm_make6 l Z a0 hw ws q1 h0 n0 Z0
  | 7, _ => exact rm_make7 l Z a0 hw ws q1 h0 n0 Z0
  | n + 8, h => exact absurd h (by omega)
def own_Qv (q1 : Addr) (h0 : Heap) (n0 : Nat) (v : Option Value) (h : Heap) (L : List Loc) : Prop := v = none ∧ Fr n0 L ∧ Keep h0 h [q1]
theorem ef_method_5 (m : MethodId) (x0 : Addr) : entryFrame m #[(.ref x0)] 1 = mkF m 0 #[.val (.ref x0)] [] := by first | (simp [entryFrame, mkF, argsToLocals, Value.category]; done) | rfl
theorem d_method_5_0 : decode method_5_code 0 = .ok (.aload_n 0, 1) := by decide +kernel
theorem d_method_5_1 : decode method_5_code 1 = .ok (.arraylength, 1) := by decide +kernel
theorem d_method_5_2 : decode method_5_code 2 = .ok (.ifCond .le 12, 3) := by decide +kernel
theorem d_method_5_14 : decode method_5_code 14 = .ok (.aload_n 0, 1) := by decide +kernel
theorem d_method_5_15 : decode method_5_code 15 = .ok (.arraylength, 1) := by decide +kernel
theorem d_method_5_16 : decode method_5_code 16 = .ok (.iconst 1, 1) := by decide +kernel
theorem d_method_5_17 : decode method_5_code 17 = .ok (.if_icmp .le 12, 3) := by decide +kernel
theorem d_method_5_29 : decode method_5_code 29 = .ok (.aload_n 0, 1) := by decide +kernel
theorem d_method_5_30 : decode method_5_code 30 = .ok (.arraylength, 1) := by decide +kernel
theorem d_method_5_31 : decode method_5_code 31 = .ok (.iconst 2, 1) := by decide +kernel
theorem d_method_5_32 : decode method_5_code 32 = .ok (.if_icmp .le 12, 3) := by decide +kernel
theorem d_method_5_44 : decode method_5_code 44 = .ok (.aload_n 0, 1) := by decide +kernel
theorem d_method_5_45 : decode method_5_code 45 = .ok (.arraylength, 1) := by decide +kernel
theorem d_method_5_46 : decode method_5_code 46 = .ok (.iconst 3, 1) := by decide +kernel
theorem d_method_5_47 : decode method_5_code 47 = .ok (.if_icmp .le 12, 3) := by decide +kernel
theorem d_method_5_59 : decode method_5_code 59 = .ok (.aload_n 0, 1) := by decide +kernel
theorem d_method_5_60 : decode method_5_code 60 = .ok (.arraylength, 1) := by decide +kernel
theorem d_method_5_61 : decode method_5_code 61 = .ok (.iconst 4, 1) := by decide +kernel
theorem d_method_5_62 : decode method_5_code 62 = .ok (.if_icmp .le 12, 3) := by decide +kernel
theorem d_method_5_74 : decode method_5_code 74 = .ok (.aload_n 0, 1) := by decide +kernel
theorem d_method_5_75 : decode method_5_code 75 = .ok (.arraylength, 1) := by decide +kernel
theorem d_method_5_76 : decode method_5_code 76 = .ok (.iconst 5, 1) := by decide +kernel
theorem d_method_5_77 : decode method_5_code 77 = .ok (.if_icmp .le 12, 3) := by decide +kernel
theorem d_method_5_89 : decode method_5_code 89 = .ok (.aload_n 0, 1) := by decide +kernel
theorem d_method_5_90 : decode method_5_code 90 = .ok (.arraylength, 1) := by decide +kernel
theorem d_method_5_91 : decode method_5_code 91 = .ok (.bipush 6, 2) := by decide +kernel
theorem d_method_5_93 : decode method_5_code 93 = .ok (.if_icmp .le 14, 3) := by decide +kernel
theorem d_method_5_107 : decode method_5_code 107 = .ok (.return_, 1) := by decide +kernel
set_option maxRecDepth 65536 in
set_option maxHeartbeats 40000000 in
theorem rm_flip0 (l : Launch) (Z : State) (a0 : Array Value) (hw : ∀ d ∈ tables_1, d.before a0 Z = true) (ws : List Jvm.Cond) (q1 : Addr) (u : Int64) (h0 : Heap) (n0 : Nat) (Z0 : n0 ≤ h0.size) (Aq : own_A Z h0 q1 "[B" .byte []) (gq : n0 ≤ q1) :
    MetFree l (⟨"com/example/isimud/isimud/oscore/OscoreOptionOfRequestPinLaw", "flip", "([B)V"⟩ : MethodName) (head1 (Jvm.Cond.code (⟨"com/example/isimud/isimud/oscore/OscoreOptionOfRequestPinLaw", "flip", "([B)V"⟩ : MethodName) method_5_code 1 none :: ws) ({ frames := 0, cells := 0, slots := 0, locals := 0 } : Room)) (fun a U => a = #[(.ref q1)] ∧ Z.Warmed39 U.vm ∧ U.heap = h0) (fun _ _ _ _ _ => True) (fun _ U o U' => ∃ v L, o = .returned v ∧ own_Qv q1 h0 n0 v U'.heap L ∧ FrameEnd U o U' L ({ frames := 0, cells := 0, slots := 0, locals := 0 } : Room).cells ({ frames := 0, cells := 0, slots := 0, locals := 0 } : Room).slots) := by
  refine MetFree.of_bodySF (plainFor_of_name pn_com_example_isimud_isimud_oscore_OscoreOptionOfRequestPinLaw) hisR ?_
  intro p e s m args below meth c s₁ Bd hml0 hP hK
  obtain ⟨rfl, hZ, hh⟩ := hP
  have hx := Bd.exec
  have hby := Bd.bytes
  have hlk : meth.locks = false := BodyLoose.notSynchronized Bd
  have hml : c.maxLocals = 1 := hml0
  have hown : s.vm.findClass "com/example/isimud/isimud/oscore/OscoreOptionOfRequestPinLaw" = some m.cls := findClass_of_methodNamed Bd.named
  have hnm := (name_of_methodNamed Bd.named Bd.method).1
  have X0 : Stand p l e ({ frames := 0, cells := 0, slots := 0, locals := 0 } : Room) s m #[(.ref q1)] below meth c s₁ [] 0 0 := Stand.of_body Bd
  have e0 : s₁.heap = h0 := by rw [← hh, Bd.state]; rfl
  have N0 := Fr.nil n0
  refine own_cast (K := own_K s (own_Qv q1 h0 n0) 0 0) (ef_method_5 m q1) ?_
  generalize hKK : own_K s (own_Qv q1 h0 n0) 0 0 = KK
  show own_Go p e below KK s₁ (mkF m 0 #[.val (.ref q1)] [])
  have Kp0 : Keep h0 h0 [q1] := Keep.refl _ _
  refine own_at (fun t k => XS.aloadN X0.here hx rfl (hb hby d_method_5_0) rfl rfl k) ?_
  show own_Go p e below KK s₁ (mkF m 1 #[.val (.ref q1)] [(.ref q1)])
  refine own_at (fun t k => own_len X0 hx hZ e0 Aq (N := (0 : Int32)) (show (0 : Nat).toInt32 = (0 : Int32) from by decide) (g := (mkF m 1 #[.val (.ref q1)] [(.ref q1)])) rfl rfl (hb hby d_method_5_1) t k) ?_
  show own_Go p e below KK s₁ (mkF m 2 #[.val (.ref q1)] [(.int 0)])
  have hc2 : ¬ ((0 : Int32) < (0 : Int32)) := by decide
  refine own_at (fun t k => XS.ifYes X0.here hx rfl (pc0 := 2) (pc' := 14) rfl (hb hby d_method_5_2) rfl (Jvm.Free.XT.i0_le_t hc2) (by decide) (by decide) k) ?_
  show own_Go p e below KK s₁ (mkF m 14 #[.val (.ref q1)] [])
  refine own_at (fun t k => XS.aloadN X0.here hx rfl (hb hby d_method_5_14) rfl rfl k) ?_
  show own_Go p e below KK s₁ (mkF m 15 #[.val (.ref q1)] [(.ref q1)])
  refine own_at (fun t k => own_len X0 hx hZ e0 Aq (N := (0 : Int32)) (show (0 : Nat).toInt32 = (0 : Int32) from by decide) (g := (mkF m 15 #[.val (.ref q1)] [(.ref q1)])) rfl rfl (hb hby d_method_5_15) t k) ?_
  show own_Go p e below KK s₁ (mkF m 16 #[.val (.ref q1)] [(.int 0)])
  refine own_at (fun t k => XS.iconst X0.here hx rfl (hb hby d_method_5_16) k) ?_
  show own_Go p e below KK s₁ (mkF m 17 #[.val (.ref q1)] [(.int 1), (.int 0)])
  have hc17 : ¬ ((1 : Int32) < (0 : Int32)) := by decide
  refine own_at (fun t k => XS.icmpYes X0.here hx rfl (pc0 := 17) (pc' := 29) rfl (hb hby d_method_5_17) rfl (Jvm.Free.XT.ii_le_t hc17) (by decide) (by decide) k) ?_
  show own_Go p e below KK s₁ (mkF m 29 #[.val (.ref q1)] [])
  refine own_at (fun t k => XS.aloadN X0.here hx rfl (hb hby d_method_5_29) rfl rfl k) ?_
  show own_Go p e below KK s₁ (mkF m 30 #[.val (.ref q1)] [(.ref q1)])
  refine own_at (fun t k => own_len X0 hx hZ e0 Aq (N := (0 : Int32)) (show (0 : Nat).toInt32 = (0 : Int32) from by decide) (g := (mkF m 30 #[.val (.ref q1)] [(.ref q1)])) rfl rfl (hb hby d_method_5_30) t k) ?_
  show own_Go p e below KK s₁ (mkF m 31 #[.val (.ref q1)] [(.int 0)])
  refine own_at (fun t k => XS.iconst X0.here hx rfl (hb hby d_method_5_31) k) ?_
  show own_Go p e below KK s₁ (mkF m 32 #[.val (.ref q1)] [(.int 2), (.int 0)])
  have hc32 : ¬ ((2 : Int32) < (0 : Int32)) := by decide
  refine own_at (fun t k => XS.icmpYes X0.here hx rfl (pc0 := 32) (pc' := 44) rfl (hb hby d_method_5_32) rfl (Jvm.Free.XT.ii_le_t hc32) (by decide) (by decide) k) ?_
  show own_Go p e below KK s₁ (mkF m 44 #[.val (.ref q1)] [])
  refine own_at (fun t k => XS.aloadN X0.here hx rfl (hb hby d_method_5_44) rfl rfl k) ?_
  show own_Go p e below KK s₁ (mkF m 45 #[.val (.ref q1)] [(.ref q1)])
  refine own_at (fun t k => own_len X0 hx hZ e0 Aq (N := (0 : Int32)) (show (0 : Nat).toInt32 = (0 : Int32) from by decide) (g := (mkF m 45 #[.val (.ref q1)] [(.ref q1)])) rfl rfl (hb hby d_method_5_45) t k) ?_
  show own_Go p e below KK s₁ (mkF m 46 #[.val (.ref q1)] [(.int 0)])
  refine own_at (fun t k => XS.iconst X0.here hx rfl (hb hby d_method_5_46) k) ?_
  show own_Go p e below KK s₁ (mkF m 47 #[.val (.ref q1)] [(.int 3), (.int 0)])
  have hc47 : ¬ ((3 : Int32) < (0 : Int32)) := by decide
  refine own_at (fun t k => XS.icmpYes X0.here hx rfl (pc0 := 47) (pc' := 59) rfl (hb hby d_method_5_47) rfl (Jvm.Free.XT.ii_le_t hc47) (by decide) (by decide) k) ?_
  show own_Go p e below KK s₁ (mkF m 59 #[.val (.ref q1)] [])
  refine own_at (fun t k => XS.aloadN X0.here hx rfl (hb hby d_method_5_59) rfl rfl k) ?_
  show own_Go p e below KK s₁ (mkF m 60 #[.val (.ref q1)] [(.ref q1)])
  refine own_at (fun t k => own_len X0 hx hZ e0 Aq (N := (0 : Int32)) (show (0 : Nat).toInt32 = (0 : Int32) from by decide) (g := (mkF m 60 #[.val (.ref q1)] [(.ref q1)])) rfl rfl (hb hby d_method_5_60) t k) ?_
  show own_Go p e below KK s₁ (mkF m 61 #[.val (.ref q1)] [(.int 0)])
  refine own_at (fun t k => XS.iconst X0.here hx rfl (hb hby d_method_5_61) k) ?_
  show own_Go p e below KK s₁ (mkF m 62 #[.val (.ref q1)] [(.int 4), (.int 0)])
  have hc62 : ¬ ((4 : Int32) < (0 : Int32)) := by decide
  refine own_at (fun t k => XS.icmpYes X0.here hx rfl (pc0 := 62) (pc' := 74) rfl (hb hby d_method_5_62) rfl (Jvm.Free.XT.ii_le_t hc62) (by decide) (by decide) k) ?_
  show own_Go p e below KK s₁ (mkF m 74 #[.val (.ref q1)] [])
  refine own_at (fun t k => XS.aloadN X0.here hx rfl (hb hby d_method_5_74) rfl rfl k) ?_
  show own_Go p e below KK s₁ (mkF m 75 #[.val (.ref q1)] [(.ref q1)])
  refine own_at (fun t k => own_len X0 hx hZ e0 Aq (N := (0 : Int32)) (show (0 : Nat).toInt32 = (0 : Int32) from by decide) (g := (mkF m 75 #[.val (.ref q1)] [(.ref q1)])) rfl rfl (hb hby d_method_5_75) t k) ?_
  show own_Go p e below KK s₁ (mkF m 76 #[.val (.ref q1)] [(.int 0)])
  refine own_at (fun t k => XS.iconst X0.here hx rfl (hb hby d_method_5_76) k) ?_
  show own_Go p e below KK s₁ (mkF m 77 #[.val (.ref q1)] [(.int 5), (.int 0)])
  have hc77 : ¬ ((5 : Int32) < (0 : Int32)) := by decide
  refine own_at (fun t k => XS.icmpYes X0.here hx rfl (pc0 := 77) (pc' := 89) rfl (hb hby d_method_5_77) rfl (Jvm.Free.XT.ii_le_t hc77) (by decide) (by decide) k) ?_
  show own_Go p e below KK s₁ (mkF m 89 #[.val (.ref q1)] [])
  refine own_at (fun t k => XS.aloadN X0.here hx rfl (hb hby d_method_5_89) rfl rfl k) ?_
  show own_Go p e below KK s₁ (mkF m 90 #[.val (.ref q1)] [(.ref q1)])
  refine own_at (fun t k => own_len X0 hx hZ e0 Aq (N := (0 : Int32)) (show (0 : Nat).toInt32 = (0 : Int32) from by decide) (g := (mkF m 90 #[.val (.ref q1)] [(.ref q1)])) rfl rfl (hb hby d_method_5_90) t k) ?_
  show own_Go p e below KK s₁ (mkF m 91 #[.val (.ref q1)] [(.int 0)])
  refine own_at (fun t k => XS.bipush X0.here hx rfl (hb hby d_method_5_91) k) ?_
  show own_Go p e below KK s₁ (mkF m 93 #[.val (.ref q1)] [(.int 6), (.int 0)])
  have hc93 : ¬ ((6 : Int32) < (0 : Int32)) := by decide
  refine own_at (fun t k => XS.icmpYes X0.here hx rfl (pc0 := 93) (pc' := 107) rfl (hb hby d_method_5_93) rfl (Jvm.Free.XT.ii_le_t hc93) (by decide) (by decide) k) ?_
  show own_Go p e below KK s₁ (mkF m 107 #[.val (.ref q1)] [])
  subst hKK
  exact own_retV X0 hx hlk Bd.returns (hb hby d_method_5_107) ⟨rfl, N0, by rw [e0]; exact Kp0⟩ (Nat.le_of_ble_eq_true rfl) (Nat.le_of_ble_eq_true rfl)
theorem d_method_5_5 : decode method_5_code 5 = .ok (.aload_n 0, 1) := by decide +kernel
theorem d_method_5_6 : decode method_5_code 6 = .ok (.iconst 0, 1) := by decide +kernel
theorem d_method_5_7 : decode method_5_code 7 = .ok (.aload_n 0, 1) := by decide +kernel
theorem d_method_5_8 : decode method_5_code 8 = .ok (.iconst 0, 1) := by decide +kernel
theorem d_method_5_9 : decode method_5_code 9 = .ok (.baload, 1) := by decide +kernel
theorem d_method_5_10 : decode method_5_code 10 = .ok (.iconst (-1), 1) := by decide +kernel
theorem d_method_5_11 : decode method_5_code 11 = .ok (.ixor, 1) := by decide +kernel
theorem d_method_5_12 : decode method_5_code 12 = .ok (.i2b, 1) := by decide +kernel
theorem d_method_5_13 : decode method_5_code 13 = .ok (.bastore, 1) := by decide +kernel
set_option maxRecDepth 65536 in
set_option maxHeartbeats 40000000 in
theorem rm_flip1 (l : Launch) (Z : State) (a0 : Array Value) (hw : ∀ d ∈ tables_1, d.before a0 Z = true) (ws : List Jvm.Cond) (q1 : Addr) (u : Int64) (h0 : Heap) (n0 : Nat) (Z0 : n0 ≤ h0.size) (Aq : own_A Z h0 q1 "[B" .byte [(.int (own_F_method_3 u (0 : Int32)))]) (gq : n0 ≤ q1) :
    MetFree l (⟨"com/example/isimud/isimud/oscore/OscoreOptionOfRequestPinLaw", "flip", "([B)V"⟩ : MethodName) (head1 (Jvm.Cond.code (⟨"com/example/isimud/isimud/oscore/OscoreOptionOfRequestPinLaw", "flip", "([B)V"⟩ : MethodName) method_5_code 1 none :: ws) ({ frames := 0, cells := 0, slots := 0, locals := 0 } : Room)) (fun a U => a = #[(.ref q1)] ∧ Z.Warmed39 U.vm ∧ U.heap = h0) (fun _ _ _ _ _ => True) (fun _ U o U' => ∃ v L, o = .returned v ∧ own_Qv q1 h0 n0 v U'.heap L ∧ FrameEnd U o U' L ({ frames := 0, cells := 0, slots := 0, locals := 0 } : Room).cells ({ frames := 0, cells := 0, slots := 0, locals := 0 } : Room).slots) := by
  refine MetFree.of_bodySF (plainFor_of_name pn_com_example_isimud_isimud_oscore_OscoreOptionOfRequestPinLaw) hisR ?_
  intro p e s m args below meth c s₁ Bd hml0 hP hK
  obtain ⟨rfl, hZ, hh⟩ := hP
  have hx := Bd.exec
  have hby := Bd.bytes
  have hlk : meth.locks = false := BodyLoose.notSynchronized Bd
  have hml : c.maxLocals = 1 := hml0
  have hown : s.vm.findClass "com/example/isimud/isimud/oscore/OscoreOptionOfRequestPinLaw" = some m.cls := findClass_of_methodNamed Bd.named
  have hnm := (name_of_methodNamed Bd.named Bd.method).1
  have X0 : Stand p l e ({ frames := 0, cells := 0, slots := 0, locals := 0 } : Room) s m #[(.ref q1)] below meth c s₁ [] 0 0 := Stand.of_body Bd
  have e0 : s₁.heap = h0 := by rw [← hh, Bd.state]; rfl
  have N0 := Fr.nil n0
  refine own_cast (K := own_K s (own_Qv q1 h0 n0) 0 0) (ef_method_5 m q1) ?_
  generalize hKK : own_K s (own_Qv q1 h0 n0) 0 0 = KK
  show own_Go p e below KK s₁ (mkF m 0 #[.val (.ref q1)] [])
  have Kp0 : Keep h0 h0 [q1] := Keep.refl _ _
  refine own_at (fun t k => XS.aloadN X0.here hx rfl (hb hby d_method_5_0) rfl rfl k) ?_
  show own_Go p e below KK s₁ (mkF m 1 #[.val (.ref q1)] [(.ref q1)])
  refine own_at (fun t k => own_len X0 hx hZ e0 Aq (N := (1 : Int32)) (show (1 : Nat).toInt32 = (1 : Int32) from by decide) (g := (mkF m 1 #[.val (.ref q1)] [(.ref q1)])) rfl rfl (hb hby d_method_5_1) t k) ?_
  show own_Go p e below KK s₁ (mkF m 2 #[.val (.ref q1)] [(.int 1)])
  have hc2 : (0 : Int32) < (1 : Int32) := by decide
  refine own_at (fun t k => XS.ifNo X0.here hx rfl (hb hby d_method_5_2) rfl (Jvm.Free.XT.i0_le_f hc2) k) ?_
  show own_Go p e below KK s₁ (mkF m 5 #[.val (.ref q1)] [])
  refine own_at (fun t k => XS.aloadN X0.here hx rfl (hb hby d_method_5_5) rfl rfl k) ?_
  show own_Go p e below KK s₁ (mkF m 6 #[.val (.ref q1)] [(.ref q1)])
  refine own_at (fun t k => XS.iconst X0.here hx rfl (hb hby d_method_5_6) k) ?_
  show own_Go p e below KK s₁ (mkF m 7 #[.val (.ref q1)] [(.int 0), (.ref q1)])
  refine own_at (fun t k => XS.aloadN X0.here hx rfl (hb hby d_method_5_7) rfl rfl k) ?_
  show own_Go p e below KK s₁ (mkF m 8 #[.val (.ref q1)] [(.ref q1), (.int 0), (.ref q1)])
  refine own_at (fun t k => XS.iconst X0.here hx rfl (hb hby d_method_5_8) k) ?_
  show own_Go p e below KK s₁ (mkF m 9 #[.val (.ref q1)] [(.int 0), (.ref q1), (.int 0), (.ref q1)])
  refine own_at (fun t k => own_ldB X0 hx hZ e0 Aq (j := (0 : Int32)) (i := 0) (v := (.int (own_F_method_3 u (0 : Int32)))) (by decide) (by decide) rfl (g := (mkF m 9 #[.val (.ref q1)] [(.int 0), (.ref q1), (.int 0), (.ref q1)])) rfl rfl (hb hby d_method_5_9) t k) ?_
  show own_Go p e below KK s₁ (mkF m 10 #[.val (.ref q1)] [(.int (own_F_method_3 u (0 : Int32))), (.int 0), (.ref q1)])
  refine own_at (fun t k => XS.iconst X0.here hx rfl (hb hby d_method_5_10) k) ?_
  show own_Go p e below KK s₁ (mkF m 11 #[.val (.ref q1)] [(.int (-1 : Int32)), (.int (own_F_method_3 u (0 : Int32))), (.int 0), (.ref q1)])
  refine own_at (fun t k => XS.ixor X0.here hx rfl (hb hby d_method_5_11) rfl k) ?_
  show own_Go p e below KK s₁ (mkF m 12 #[.val (.ref q1)] [(.int ((own_F_method_3 u (0 : Int32)) ^^^ (-1 : Int32))), (.int 0), (.ref q1)])
  refine own_at (fun t k => XS.i2b X0.here hx rfl (hb hby d_method_5_12) rfl k) ?_
  show own_Go p e below KK s₁ (mkF m 13 #[.val (.ref q1)] [(.int (((own_F_method_3 u (0 : Int32)) ^^^ (-1 : Int32)).toInt8.toInt32)), (.int 0), (.ref q1)])
  obtain ⟨T1, h1, X1, e1, W1, V1, st1⟩ := own_stB X0 hx hZ e0 Aq (j := (0 : Int32)) (y := (((own_F_method_3 u (0 : Int32)) ^^^ (-1 : Int32)).toInt8.toInt32)) (own_narB _) (i := 0) (by decide) (by decide) (show (0 : Nat) < 1 from by decide) (g := (mkF m 13 #[.val (.ref q1)] [(.int (((own_F_method_3 u (0 : Int32)) ^^^ (-1 : Int32)).toInt8.toInt32)), (.int 0), (.ref q1)])) rfl rfl (hb hby d_method_5_13)
  have N1 := Fr.snoc X1 N0 gq
  have Zs1 : n0 ≤ h1.size := (by rw [W1.size]; exact Z0)
  have Kp1 : Keep h0 h1 [q1] := Kp0.wr W1 (Or.inl (by simp))
  have A2_q1 : own_A Z h1 q1 "[B" .byte [(.int (((own_F_method_3 u (0 : Int32)) ^^^ (-1 : Int32)).toInt8.toInt32))] := V1
  refine own_of (fun t k => st1 t k) ?_
  show own_Go p e below KK T1 (mkF m 14 #[.val (.ref q1)] [])
  refine own_at (fun t k => XS.aloadN X1.here hx rfl (hb hby d_method_5_14) rfl rfl k) ?_
  show own_Go p e below KK T1 (mkF m 15 #[.val (.ref q1)] [(.ref q1)])
  refine own_at (fun t k => own_len X1 hx hZ e1 A2_q1 (N := (1 : Int32)) (show (1 : Nat).toInt32 = (1 : Int32) from by decide) (g := (mkF m 15 #[.val (.ref q1)] [(.ref q1)])) rfl rfl (hb hby d_method_5_15) t k) ?_
  show own_Go p e below KK T1 (mkF m 16 #[.val (.ref q1)] [(.int 1)])
  refine own_at (fun t k => XS.iconst X1.here hx rfl (hb hby d_method_5_16) k) ?_
  show own_Go p e below KK T1 (mkF m 17 #[.val (.ref q1)] [(.int 1), (.int 1)])
  have hc17 : ¬ ((1 : Int32) < (1 : Int32)) := by decide
  refine own_at (fun t k => XS.icmpYes X1.here hx rfl (pc0 := 17) (pc' := 29) rfl (hb hby d_method_5_17) rfl (Jvm.Free.XT.ii_le_t hc17) (by decide) (by decide) k) ?_
  show own_Go p e below KK T1 (mkF m 29 #[.val (.ref q1)] [])
  refine own_at (fun t k => XS.aloadN X1.here hx rfl (hb hby d_method_5_29) rfl rfl k) ?_
  show own_Go p e below KK T1 (mkF m 30 #[.val (.ref q1)] [(.ref q1)])
  refine own_at (fun t k => own_len X1 hx hZ e1 A2_q1 (N := (1 : Int32)) (show (1 : Nat).toInt32 = (1 : Int32) from by decide) (g := (mkF m 30 #[.val (.ref q1)] [(.ref q1)])) rfl rfl (hb hby d_method_5_30) t k) ?_
  show own_Go p e below KK T1 (mkF m 31 #[.val (.ref q1)] [(.int 1)])
  refine own_at (fun t k => XS.iconst X1.here hx rfl (hb hby d_method_5_31) k) ?_
  show own_Go p e below KK T1 (mkF m 32 #[.val (.ref q1)] [(.int 2), (.int 1)])
  have hc32 : ¬ ((2 : Int32) < (1 : Int32)) := by decide
  refine own_at (fun t k => XS.icmpYes X1.here hx rfl (pc0 := 32) (pc' := 44) rfl (hb hby d_method_5_32) rfl (Jvm.Free.XT.ii_le_t hc32) (by decide) (by decide) k) ?_
  show own_Go p e below KK T1 (mkF m 44 #[.val (.ref q1)] [])
  refine own_at (fun t k => XS.aloadN X1.here hx rfl (hb hby d_method_5_44) rfl rfl k) ?_
  show own_Go p e below KK T1 (mkF m 45 #[.val (.ref q1)] [(.ref q1)])
  refine own_at (fun t k => own_len X1 hx hZ e1 A2_q1 (N := (1 : Int32)) (show (1 : Nat).toInt32 = (1 : Int32) from by decide) (g := (mkF m 45 #[.val (.ref q1)] [(.ref q1)])) rfl rfl (hb hby d_method_5_45) t k) ?_
  show own_Go p e below KK T1 (mkF m 46 #[.val (.ref q1)] [(.int 1)])
  refine own_at (fun t k => XS.iconst X1.here hx rfl (hb hby d_method_5_46) k) ?_
  show own_Go p e below KK T1 (mkF m 47 #[.val (.ref q1)] [(.int 3), (.int 1)])
  have hc47 : ¬ ((3 : Int32) < (1 : Int32)) := by decide
  refine own_at (fun t k => XS.icmpYes X1.here hx rfl (pc0 := 47) (pc' := 59) rfl (hb hby d_method_5_47) rfl (Jvm.Free.XT.ii_le_t hc47) (by decide) (by decide) k) ?_
  show own_Go p e below KK T1 (mkF m 59 #[.val (.ref q1)] [])
  refine own_at (fun t k => XS.aloadN X1.here hx rfl (hb hby d_method_5_59) rfl rfl k) ?_
  show own_Go p e below KK T1 (mkF m 60 #[.val (.ref q1)] [(.ref q1)])
  refine own_at (fun t k => own_len X1 hx hZ e1 A2_q1 (N := (1 : Int32)) (show (1 : Nat).toInt32 = (1 : Int32) from by decide) (g := (mkF m 60 #[.val (.ref q1)] [(.ref q1)])) rfl rfl (hb hby d_method_5_60) t k) ?_
  show own_Go p e below KK T1 (mkF m 61 #[.val (.ref q1)] [(.int 1)])
  refine own_at (fun t k => XS.iconst X1.here hx rfl (hb hby d_method_5_61) k) ?_
  show own_Go p e below KK T1 (mkF m 62 #[.val (.ref q1)] [(.int 4), (.int 1)])
  have hc62 : ¬ ((4 : Int32) < (1 : Int32)) := by decide
  refine own_at (fun t k => XS.icmpYes X1.here hx rfl (pc0 := 62) (pc' := 74) rfl (hb hby d_method_5_62) rfl (Jvm.Free.XT.ii_le_t hc62) (by decide) (by decide) k) ?_
  show own_Go p e below KK T1 (mkF m 74 #[.val (.ref q1)] [])
  refine own_at (fun t k => XS.aloadN X1.here hx rfl (hb hby d_method_5_74) rfl rfl k) ?_
  show own_Go p e below KK T1 (mkF m 75 #[.val (.ref q1)] [(.ref q1)])
  refine own_at (fun t k => own_len X1 hx hZ e1 A2_q1 (N := (1 : Int32)) (show (1 : Nat).toInt32 = (1 : Int32) from by decide) (g := (mkF m 75 #[.val (.ref q1)] [(.ref q1)])) rfl rfl (hb hby d_method_5_75) t k) ?_
  show own_Go p e below KK T1 (mkF m 76 #[.val (.ref q1)] [(.int 1)])
  refine own_at (fun t k => XS.iconst X1.here hx rfl (hb hby d_method_5_76) k) ?_
  show own_Go p e below KK T1 (mkF m 77 #[.val (.ref q1)] [(.int 5), (.int 1)])
  have hc77 : ¬ ((5 : Int32) < (1 : Int32)) := by decide
  refine own_at (fun t k => XS.icmpYes X1.here hx rfl (pc0 := 77) (pc' := 89) rfl (hb hby d_method_5_77) rfl (Jvm.Free.XT.ii_le_t hc77) (by decide) (by decide) k) ?_
  show own_Go p e below KK T1 (mkF m 89 #[.val (.ref q1)] [])
  refine own_at (fun t k => XS.aloadN X1.here hx rfl (hb hby d_method_5_89) rfl rfl k) ?_
  show own_Go p e below KK T1 (mkF m 90 #[.val (.ref q1)] [(.ref q1)])
  refine own_at (fun t k => own_len X1 hx hZ e1 A2_q1 (N := (1 : Int32)) (show (1 : Nat).toInt32 = (1 : Int32) from by decide) (g := (mkF m 90 #[.val (.ref q1)] [(.ref q1)])) rfl rfl (hb hby d_method_5_90) t k) ?_
  show own_Go p e below KK T1 (mkF m 91 #[.val (.ref q1)] [(.int 1)])
  refine own_at (fun t k => XS.bipush X1.here hx rfl (hb hby d_method_5_91) k) ?_
  show own_Go p e below KK T1 (mkF m 93 #[.val (.ref q1)] [(.int 6), (.int 1)])
  have hc93 : ¬ ((6 : Int32) < (1 : Int32)) := by decide
  refine own_at (fun t k => XS.icmpYes X1.here hx rfl (pc0 := 93) (pc' := 107) rfl (hb hby d_method_5_93) rfl (Jvm.Free.XT.ii_le_t hc93) (by decide) (by decide) k) ?_
  show own_Go p e below KK T1 (mkF m 107 #[.val (.ref q1)] [])
  subst hKK
  exact own_retV X1 hx hlk Bd.returns (hb hby d_method_5_107) ⟨rfl, N1, by rw [e1]; exact Kp1⟩ (Nat.le_of_ble_eq_true rfl) (Nat.le_of_ble_eq_true rfl)
theorem d_method_5_20 : decode method_5_code 20 = .ok (.aload_n 0, 1) := by decide +kernel
theorem d_method_5_21 : decode method_5_code 21 = .ok (.iconst 1, 1) := by decide +kernel
theorem d_method_5_22 : decode method_5_code 22 = .ok (.aload_n 0, 1) := by decide +kernel
theorem d_method_5_23 : decode method_5_code 23 = .ok (.iconst 1, 1) := by decide +kernel
theorem d_method_5_24 : decode method_5_code 24 = .ok (.baload, 1) := by decide +kernel
theorem d_method_5_25 : decode method_5_code 25 = .ok (.iconst (-1), 1) := by decide +kernel
theorem d_method_5_26 : decode method_5_code 26 = .ok (.ixor, 1) := by decide +kernel
theorem d_method_5_27 : decode method_5_code 27 = .ok (.i2b, 1) := by decide +kernel
theorem d_method_5_28 : decode method_5_code 28 = .ok (.bastore, 1) := by decide +kernel
set_option maxRecDepth 65536 in
set_option maxHeartbeats 40000000 in
theorem rm_flip2 (l : Launch) (Z : State) (a0 : Array Value) (hw : ∀ d ∈ tables_1, d.before a0 Z = true) (ws : List Jvm.Cond) (q1 : Addr) (u : Int64) (h0 : Heap) (n0 : Nat) (Z0 : n0 ≤ h0.size) (Aq : own_A Z h0 q1 "[B" .byte [(.int (own_F_method_3 u (0 : Int32))), (.int (own_F_method_3 u (1 : Int32)))]) (gq : n0 ≤ q1) :
    MetFree l (⟨"com/example/isimud/isimud/oscore/OscoreOptionOfRequestPinLaw", "flip", "([B)V"⟩ : MethodName) (head1 (Jvm.Cond.code (⟨"com/example/isimud/isimud/oscore/OscoreOptionOfRequestPinLaw", "flip", "([B)V"⟩ : MethodName) method_5_code 1 none :: ws) ({ frames := 0, cells := 0, slots := 0, locals := 0 } : Room)) (fun a U => a = #[(.ref q1)] ∧ Z.Warmed39 U.vm ∧ U.heap = h0) (fun _ _ _ _ _ => True) (fun _ U o U' => ∃ v L, o = .returned v ∧ own_Qv q1 h0 n0 v U'.heap L ∧ FrameEnd U o U' L ({ frames := 0, cells := 0, slots := 0, locals := 0 } : Room).cells ({ frames := 0, cells := 0, slots := 0, locals := 0 } : Room).slots) := by
  refine MetFree.of_bodySF (plainFor_of_name pn_com_example_isimud_isimud_oscore_OscoreOptionOfRequestPinLaw) hisR ?_
  intro p e s m args below meth c s₁ Bd hml0 hP hK
  obtain ⟨rfl, hZ, hh⟩ := hP
  have hx := Bd.exec
  have hby := Bd.bytes
  have hlk : meth.locks = false := BodyLoose.notSynchronized Bd
  have hml : c.maxLocals = 1 := hml0
  have hown : s.vm.findClass "com/example/isimud/isimud/oscore/OscoreOptionOfRequestPinLaw" = some m.cls := findClass_of_methodNamed Bd.named
  have hnm := (name_of_methodNamed Bd.named Bd.method).1
  have X0 : Stand p l e ({ frames := 0, cells := 0, slots := 0, locals := 0 } : Room) s m #[(.ref q1)] below meth c s₁ [] 0 0 := Stand.of_body Bd
  have e0 : s₁.heap = h0 := by rw [← hh, Bd.state]; rfl
  have N0 := Fr.nil n0
  refine own_cast (K := own_K s (own_Qv q1 h0 n0) 0 0) (ef_method_5 m q1) ?_
  generalize hKK : own_K s (own_Qv q1 h0 n0) 0 0 = KK
  show own_Go p e below KK s₁ (mkF m 0 #[.val (.ref q1)] [])
  have Kp0 : Keep h0 h0 [q1] := Keep.refl _ _
  refine own_at (fun t k => XS.aloadN X0.here hx rfl (hb hby d_method_5_0) rfl rfl k) ?_
  show own_Go p e below KK s₁ (mkF m 1 #[.val (.ref q1)] [(.ref q1)])
  refine own_at (fun t k => own_len X0 hx hZ e0 Aq (N := (2 : Int32)) (show (2 : Nat).toInt32 = (2 : Int32) from by decide) (g := (mkF m 1 #[.val (.ref q1)] [(.ref q1)])) rfl rfl (hb hby d_method_5_1) t k) ?_
  show own_Go p e below KK s₁ (mkF m 2 #[.val (.ref q1)] [(.int 2)])
  have hc2 : (0 : Int32) < (2 : Int32) := by decide
  refine own_at (fun t k => XS.ifNo X0.here hx rfl (hb hby d_method_5_2) rfl (Jvm.Free.XT.i0_le_f hc2) k) ?_
  show own_Go p e below KK s₁ (mkF m 5 #[.val (.ref q1)] [])
  refine own_at (fun t k => XS.aloadN X0.here hx rfl (hb hby d_method_5_5) rfl rfl k) ?_
  show own_Go p e below KK s₁ (mkF m 6 #[.val (.ref q1)] [(.ref q1)])
  refine own_at (fun t k => XS.iconst X0.here hx rfl (hb hby d_method_5_6) k) ?_
  show own_Go p e below KK s₁ (mkF m 7 #[.val (.ref q1)] [(.int 0), (.ref q1)])
  refine own_at (fun t k => XS.aloadN X0.here hx rfl (hb hby d_method_5_7) rfl rfl k) ?_
  show own_Go p e below KK s₁ (mkF m 8 #[.val (.ref q1)] [(.ref q1), (.int 0), (.ref q1)])
  refine own_at (fun t k => XS.iconst X0.here hx rfl (hb hby d_method_5_8) k) ?_
  show own_Go p e below KK s₁ (mkF m 9 #[.val (.ref q1)] [(.int 0), (.ref q1), (.int 0), (.ref q1)])
  refine own_at (fun t k => own_ldB X0 hx hZ e0 Aq (j := (0 : Int32)) (i := 0) (v := (.int (own_F_method_3 u (0 : Int32)))) (by decide) (by decide) rfl (g := (mkF m 9 #[.val (.ref q1)] [(.int 0), (.ref q1), (.int 0), (.ref q1)])) rfl rfl (hb hby d_method_5_9) t k) ?_
  show own_Go p e below KK s₁ (mkF m 10 #[.val (.ref q1)] [(.int (own_F_method_3 u (0 : Int32))), (.int 0), (.ref q1)])
  refine own_at (fun t k => XS.iconst X0.here hx rfl (hb hby d_method_5_10) k) ?_
  show own_Go p e below KK s₁ (mkF m 11 #[.val (.ref q1)] [(.int (-1 : Int32)), (.int (own_F_method_3 u (0 : Int32))), (.int 0), (.ref q1)])
  refine own_at (fun t k => XS.ixor X0.here hx rfl (hb hby d_method_5_11) rfl k) ?_
  show own_Go p e below KK s₁ (mkF m 12 #[.val (.ref q1)] [(.int ((own_F_method_3 u (0 : Int32)) ^^^ (-1 : Int32))), (.int 0), (.ref q1)])
  refine own_at (fun t k => XS.i2b X0.here hx rfl (hb hby d_method_5_12) rfl k) ?_
  show own_Go p e below KK s₁ (mkF m 13 #[.val (.ref q1)] [(.int (((own_F_method_3 u (0 : Int32)) ^^^ (-1 : Int32)).toInt8.toInt32)), (.int 0), (.ref q1)])
  obtain ⟨T1, h1, X1, e1, W1, V1, st1⟩ := own_stB X0 hx hZ e0 Aq (j := (0 : Int32)) (y := (((own_F_method_3 u (0 : Int32)) ^^^ (-1 : Int32)).toInt8.toInt32)) (own_narB _) (i := 0) (by decide) (by decide) (show (0 : Nat) < 2 from by decide) (g := (mkF m 13 #[.val (.ref q1)] [(.int (((own_F_method_3 u (0 : Int32)) ^^^ (-1 : Int32)).toInt8.toInt32)), (.int 0), (.ref q1)])) rfl rfl (hb hby d_method_5_13)
  have N1 := Fr.snoc X1 N0 gq
  have Zs1 : n0 ≤ h1.size := (by rw [W1.size]; exact Z0)
  have Kp1 : Keep h0 h1 [q1] := Kp0.wr W1 (Or.inl (by simp))
  have A2_q1 : own_A Z h1 q1 "[B" .byte [(.int (((own_F_method_3 u (0 : Int32)) ^^^ (-1 : Int32)).toInt8.toInt32)), (.int (own_F_method_3 u (1 : Int32)))] := V1
  refine own_of (fun t k => st1 t k) ?_
  show own_Go p e below KK T1 (mkF m 14 #[.val (.ref q1)] [])
  refine own_at (fun t k => XS.aloadN X1.here hx rfl (hb hby d_method_5_14) rfl rfl k) ?_
  show own_Go p e below KK T1 (mkF m 15 #[.val (.ref q1)] [(.ref q1)])
  refine own_at (fun t k => own_len X1 hx hZ e1 A2_q1 (N := (2 : Int32)) (show (2 : Nat).toInt32 = (2 : Int32) from by decide) (g := (mkF m 15 #[.val (.ref q1)] [(.ref q1)])) rfl rfl (hb hby d_method_5_15) t k) ?_
  show own_Go p e below KK T1 (mkF m 16 #[.val (.ref q1)] [(.int 2)])
  refine own_at (fun t k => XS.iconst X1.here hx rfl (hb hby d_method_5_16) k) ?_
  show own_Go p e below KK T1 (mkF m 17 #[.val (.ref q1)] [(.int 1), (.int 2)])
  have hc17 : (1 : Int32) < (2 : Int32) := by decide
  refine own_at (fun t k => XS.icmpNo X1.here hx rfl (hb hby d_method_5_17) rfl (Jvm.Free.XT.ii_le_f hc17) k) ?_
  show own_Go p e below KK T1 (mkF m 20 #[.val (.ref q1)] [])
  refine own_at (fun t k => XS.aloadN X1.here hx rfl (hb hby d_method_5_20) rfl rfl k) ?_
  show own_Go p e below KK T1 (mkF m 21 #[.val (.ref q1)] [(.ref q1)])
  refine own_at (fun t k => XS.iconst X1.here hx rfl (hb hby d_method_5_21) k) ?_
  show own_Go p e below KK T1 (mkF m 22 #[.val (.ref q1)] [(.int 1), (.ref q1)])
  refine own_at (fun t k => XS.aloadN X1.here hx rfl (hb hby d_method_5_22) rfl rfl k) ?_
  show own_Go p e below KK T1 (mkF m 23 #[.val (.ref q1)] [(.ref q1), (.int 1), (.ref q1)])
  refine own_at (fun t k => XS.iconst X1.here hx rfl (hb hby d_method_5_23) k) ?_
  show own_Go p e below KK T1 (mkF m 24 #[.val (.ref q1)] [(.int 1), (.ref q1), (.int 1), (.ref q1)])
  refine own_at (fun t k => own_ldB X1 hx hZ e1 A2_q1 (j := (1 : Int32)) (i := 1) (v := (.int (own_F_method_3 u (1 : Int32)))) (by decide) (by decide) rfl (g := (mkF m 24 #[.val (.ref q1)] [(.int 1), (.ref q1), (.int 1), (.ref q1)])) rfl rfl (hb hby d_method_5_24) t k) ?_
  show own_Go p e below KK T1 (mkF m 25 #[.val (.ref q1)] [(.int (own_F_method_3 u (1 : Int32))), (.int 1), (.ref q1)])
  refine own_at (fun t k => XS.iconst X1.here hx rfl (hb hby d_method_5_25) k) ?_
  show own_Go p e below KK T1 (mkF m 26 #[.val (.ref q1)] [(.int (-1 : Int32)), (.int (own_F_method_3 u (1 : Int32))), (.int 1), (.ref q1)])
  refine own_at (fun t k => XS.ixor X1.here hx rfl (hb hby d_method_5_26) rfl k) ?_
  show own_Go p e below KK T1 (mkF m 27 #[.val (.ref q1)] [(.int ((own_F_method_3 u (1 : Int32)) ^^^ (-1 : Int32))), (.int 1), (.ref q1)])
  refine own_at (fun t k => XS.i2b X1.here hx rfl (hb hby d_method_5_27) rfl k) ?_
  show own_Go p e below KK T1 (mkF m 28 #[.val (.ref q1)] [(.int (((own_F_method_3 u (1 : Int32)) ^^^ (-1 : Int32)).toInt8.toInt32)), (.int 1), (.ref q1)])
  obtain ⟨T3, h3, X3, e3, W3, V3, st3⟩ := own_stB X1 hx hZ e1 A2_q1 (j := (1 : Int32)) (y := (((own_F_method_3 u (1 : Int32)) ^^^ (-1 : Int32)).toInt8.toInt32)) (own_narB _) (i := 1) (by decide) (by decide) (show (1 : Nat) < 2 from by decide) (g := (mkF m 28 #[.val (.ref q1)] [(.int (((own_F_method_3 u (1 : Int32)) ^^^ (-1 : Int32)).toInt8.toInt32)), (.int 1), (.ref q1)])) rfl rfl (hb hby d_method_5_28)
  have N3 := Fr.snoc X3 N1 gq
  have Zs3 : n0 ≤ h3.size := (by rw [W3.size]; exact Zs1)
  have Kp3 : Keep h0 h3 [q1] := Kp1.wr W3 (Or.inl (by simp))
  have A4_q1 : own_A Z h3 q1 "[B" .byte [(.int (((own_F_method_3 u (0 : Int32)) ^^^ (-1 : Int32)).toInt8.toInt32)), (.int (((own_F_method_3 u (1 : Int32)) ^^^ (-1 : Int32)).toInt8.toInt32))] := V3
  refine own_of (fun t k => st3 t k) ?_
  show own_Go p e below KK T3 (mkF m 29 #[.val (.ref q1)] [])
  refine own_at (fun t k => XS.aloadN X3.here hx rfl (hb hby d_method_5_29) rfl rfl k) ?_
  show own_Go p e below KK T3 (mkF m 30 #[.val (.ref q1)] [(.ref q1)])
  refine own_at (fun t k => own_len X3 hx hZ e3 A4_q1 (N := (2 : Int32)) (show (2 : Nat).toInt32 = (2 : Int32) from by decide) (g := (mkF m 30 #[.val (.ref q1)] [(.ref q1)])) rfl rfl (hb hby d_method_5_30) t k) ?_
  show own_Go p e below KK T3 (mkF m 31 #[.val (.ref q1)] [(.int 2)])
  refine own_at (fun t k => XS.iconst X3.here hx rfl (hb hby d_method_5_31) k) ?_
  show own_Go p e below KK T3 (mkF m 32 #[.val (.ref q1)] [(.int 2), (.int 2)])
  have hc32 : ¬ ((2 : Int32) < (2 : Int32)) := by decide
  refine own_at (fun t k => XS.icmpYes X3.here hx rfl (pc0 := 32) (pc' := 44) rfl (hb hby d_method_5_32) rfl (Jvm.Free.XT.ii_le_t hc32) (by decide) (by decide) k) ?_
  show own_Go p e below KK T3 (mkF m 44 #[.val (.ref q1)] [])
  refine own_at (fun t k => XS.aloadN X3.here hx rfl (hb hby d_method_5_44) rfl rfl k) ?_
  show own_Go p e below KK T3 (mkF m 45 #[.val (.ref q1)] [(.ref q1)])
  refine own_at (fun t k => own_len X3 hx hZ e3 A4_q1 (N := (2 : Int32)) (show (2 : Nat).toInt32 = (2 : Int32) from by decide) (g := (mkF m 45 #[.val (.ref q1)] [(.ref q1)])) rfl rfl (hb hby d_method_5_45) t k) ?_
  show own_Go p e below KK T3 (mkF m 46 #[.val (.ref q1)] [(.int 2)])
  refine own_at (fun t k => XS.iconst X3.here hx rfl (hb hby d_method_5_46) k) ?_
  show own_Go p e below KK T3 (mkF m 47 #[.val (.ref q1)] [(.int 3), (.int 2)])
  have hc47 : ¬ ((3 : Int32) < (2 : Int32)) := by decide
  refine own_at (fun t k => XS.icmpYes X3.here hx rfl (pc0 := 47) (pc' := 59) rfl (hb hby d_method_5_47) rfl (Jvm.Free.XT.ii_le_t hc47) (by decide) (by decide) k) ?_
  show own_Go p e below KK T3 (mkF m 59 #[.val (.ref q1)] [])
  refine own_at (fun t k => XS.aloadN X3.here hx rfl (hb hby d_method_5_59) rfl rfl k) ?_
  show own_Go p e below KK T3 (mkF m 60 #[.val (.ref q1)] [(.ref q1)])
  refine own_at (fun t k => own_len X3 hx hZ e3 A4_q1 (N := (2 : Int32)) (show (2 : Nat).toInt32 = (2 : Int32) from by decide) (g := (mkF m 60 #[.val (.ref q1)] [(.ref q1)])) rfl rfl (hb hby d_method_5_60) t k) ?_
  show own_Go p e below KK T3 (mkF m 61 #[.val (.ref q1)] [(.int 2)])
  refine own_at (fun t k => XS.iconst X3.here hx rfl (hb hby d_method_5_61) k) ?_
  show own_Go p e below KK T3 (mkF m 62 #[.val (.ref q1)] [(.int 4), (.int 2)])
  have hc62 : ¬ ((4 : Int32) < (2 : Int32)) := by decide
  refine own_at (fun t k => XS.icmpYes X3.here hx rfl (pc0 := 62) (pc' := 74) rfl (hb hby d_method_5_62) rfl (Jvm.Free.XT.ii_le_t hc62) (by decide) (by decide) k) ?_
  show own_Go p e below KK T3 (mkF m 74 #[.val (.ref q1)] [])
  refine own_at (fun t k => XS.aloadN X3.here hx rfl (hb hby d_method_5_74) rfl rfl k) ?_
  show own_Go p e below KK T3 (mkF m 75 #[.val (.ref q1)] [(.ref q1)])
  refine own_at (fun t k => own_len X3 hx hZ e3 A4_q1 (N := (2 : Int32)) (show (2 : Nat).toInt32 = (2 : Int32) from by decide) (g := (mkF m 75 #[.val (.ref q1)] [(.ref q1)])) rfl rfl (hb hby d_method_5_75) t k) ?_
  show own_Go p e below KK T3 (mkF m 76 #[.val (.ref q1)] [(.int 2)])
  refine own_at (fun t k => XS.iconst X3.here hx rfl (hb hby d_method_5_76) k) ?_
  show own_Go p e below KK T3 (mkF m 77 #[.val (.ref q1)] [(.int 5), (.int 2)])
  have hc77 : ¬ ((5 : Int32) < (2 : Int32)) := by decide
  refine own_at (fun t k => XS.icmpYes X3.here hx rfl (pc0 := 77) (pc' := 89) rfl (hb hby d_method_5_77) rfl (Jvm.Free.XT.ii_le_t hc77) (by decide) (by decide) k) ?_
  show own_Go p e below KK T3 (mkF m 89 #[.val (.ref q1)] [])
  refine own_at (fun t k => XS.aloadN X3.here hx rfl (hb hby d_method_5_89) rfl rfl k) ?_
  show own_Go p e below KK T3 (mkF m 90 #[.val (.ref q1)] [(.ref q1)])
  refine own_at (fun t k => own_len X3 hx hZ e3 A4_q1 (N := (2 : Int32)) (show (2 : Nat).toInt32 = (2 : Int32) from by decide) (g := (mkF m 90 #[.val (.ref q1)] [(.ref q1)])) rfl rfl (hb hby d_method_5_90) t k) ?_
  show own_Go p e below KK T3 (mkF m 91 #[.val (.ref q1)] [(.int 2)])
  refine own_at (fun t k => XS.bipush X3.here hx rfl (hb hby d_method_5_91) k) ?_
  show own_Go p e below KK T3 (mkF m 93 #[.val (.ref q1)] [(.int 6), (.int 2)])
  have hc93 : ¬ ((6 : Int32) < (2 : Int32)) := by decide
  refine own_at (fun t k => XS.icmpYes X3.here hx rfl (pc0 := 93) (pc' := 107) rfl (hb hby d_method_5_93) rfl (Jvm.Free.XT.ii_le_t hc93) (by decide) (by decide) k) ?_
  show own_Go p e below KK T3 (mkF m 107 #[.val (.ref q1)] [])
  subst hKK
  exact own_retV X3 hx hlk Bd.returns (hb hby d_method_5_107) ⟨rfl, N3, by rw [e3]; exact Kp3⟩ (Nat.le_of_ble_eq_true rfl) (Nat.le_of_ble_eq_true rfl)
theorem d_method_5_35 : decode method_5_code 35 = .ok (.aload_n 0, 1) := by decide +kernel
theorem d_method_5_36 : decode method_5_code 36 = .ok (.iconst 2, 1) := by decide +kernel
theorem d_method_5_37 : decode method_5_code 37 = .ok (.aload_n 0, 1) := by decide +kernel
theorem d_method_5_38 : decode method_5_code 38 = .ok (.iconst 2, 1) := by decide +kernel
theorem d_method_5_39 : decode method_5_code 39 = .ok (.baload, 1) := by decide +kernel
theorem d_method_5_40 : decode method_5_code 40 = .ok (.iconst (-1), 1) := by decide +kernel
theorem d_method_5_41 : decode method_5_code 41 = .ok (.ixor, 1) := by decide +kernel
theorem d_method_5_42 : decode method_5_code 42 = .ok (.i2b, 1) := by decide +kernel
theorem d_method_5_43 : decode method_5_code 43 = .ok (.bastore, 1) := by decide +kernel
set_option maxRecDepth 65536 in
set_option maxHeartbeats 40000000 in
theorem rm_flip3 (l : Launch) (Z : State) (a0 : Array Value) (hw : ∀ d ∈ tables_1, d.before a0 Z = true) (ws : List Jvm.Cond) (q1 : Addr) (u : Int64) (h0 : Heap) (n0 : Nat) (Z0 : n0 ≤ h0.size) (Aq : own_A Z h0 q1 "[B" .byte [(.int (own_F_method_3 u (0 : Int32))), (.int (own_F_method_3 u (1 : Int32))), (.int (own_F_method_3 u (2 : Int32)))]) (gq : n0 ≤ q1) :
    MetFree l (⟨"com/example/isimud/isimud/oscore/OscoreOptionOfRequestPinLaw", "flip", "([B)V"⟩ : MethodName) (head1 (Jvm.Cond.code (⟨"com/example/isimud/isimud/oscore/OscoreOptionOfRequestPinLaw", "flip", "([B)V"⟩ : MethodName) method_5_code 1 none :: ws) ({ frames := 0, cells := 0, slots := 0, locals := 0 } : Room)) (fun a U => a = #[(.ref q1)] ∧ Z.Warmed39 U.vm ∧ U.heap = h0) (fun _ _ _ _ _ => True) (fun _ U o U' => ∃ v L, o = .returned v ∧ own_Qv q1 h0 n0 v U'.heap L ∧ FrameEnd U o U' L ({ frames := 0, cells := 0, slots := 0, locals := 0 } : Room).cells ({ frames := 0, cells := 0, slots := 0, locals := 0 } : Room).slots) := by
  refine MetFree.of_bodySF (plainFor_of_name pn_com_example_isimud_isimud_oscore_OscoreOptionOfRequestPinLaw) hisR ?_
  intro p e s m args below meth c s₁ Bd hml0 hP hK
  obtain ⟨rfl, hZ, hh⟩ := hP
  have hx := Bd.exec
  have hby := Bd.bytes
  have hlk : meth.locks = false := BodyLoose.notSynchronized Bd
  have hml : c.maxLocals = 1 := hml0
  have hown : s.vm.findClass "com/example/isimud/isimud/oscore/OscoreOptionOfRequestPinLaw" = some m.cls := findClass_of_methodNamed Bd.named
  have hnm := (name_of_methodNamed Bd.named Bd.method).1
  have X0 : Stand p l e ({ frames := 0, cells := 0, slots := 0, locals := 0 } : Room) s m #[(.ref q1)] below meth c s₁ [] 0 0 := Stand.of_body Bd
  have e0 : s₁.heap = h0 := by rw [← hh, Bd.state]; rfl
  have N0 := Fr.nil n0
  refine own_cast (K := own_K s (own_Qv q1 h0 n0) 0 0) (ef_method_5 m q1) ?_
  generalize hKK : own_K s (own_Qv q1 h0 n0) 0 0 = KK
  show own_Go p e below KK s₁ (mkF m 0 #[.val (.ref q1)] [])
  have Kp0 : Keep h0 h0 [q1] := Keep.refl _ _
  refine own_at (fun t k => XS.aloadN X0.here hx rfl (hb hby d_method_5_0) rfl rfl k) ?_
  show own_Go p e below KK s₁ (mkF m 1 #[.val (.ref q1)] [(.ref q1)])
  refine own_at (fun t k => own_len X0 hx hZ e0 Aq (N := (3 : Int32)) (show (3 : Nat).toInt32 = (3 : Int32) from by decide) (g := (mkF m 1 #[.val (.ref q1)] [(.ref q1)])) rfl rfl (hb hby d_method_5_1) t k) ?_
  show own_Go p e below KK s₁ (mkF m 2 #[.val (.ref q1)] [(.int 3)])
  have hc2 : (0 : Int32) < (3 : Int32) := by decide
  refine own_at (fun t k => XS.ifNo X0.here hx rfl (hb hby d_method_5_2) rfl (Jvm.Free.XT.i0_le_f hc2) k) ?_
  show own_Go p e below KK s₁ (mkF m 5 #[.val (.ref q1)] [])
  refine own_at (fun t k => XS.aloadN X0.here hx rfl (hb hby d_method_5_5) rfl rfl k) ?_
  show own_Go p e below KK s₁ (mkF m 6 #[.val (.ref q1)] [(.ref q1)])
  refine own_at (fun t k => XS.iconst X0.here hx rfl (hb hby d_method_5_6) k) ?_
  show own_Go p e below KK s₁ (mkF m 7 #[.val (.ref q1)] [(.int 0), (.ref q1)])
  refine own_at (fun t k => XS.aloadN X0.here hx rfl (hb hby d_method_5_7) rfl rfl k) ?_
  show own_Go p e below KK s₁ (mkF m 8 #[.val (.ref q1)] [(.ref q1), (.int 0), (.ref q1)])
  refine own_at (fun t k => XS.iconst X0.here hx rfl (hb hby d_method_5_8) k) ?_
  show own_Go p e below KK s₁ (mkF m 9 #[.val (.ref q1)] [(.int 0), (.ref q1), (.int 0), (.ref q1)])
  refine own_at (fun t k => own_ldB X0 hx hZ e0 Aq (j := (0 : Int32)) (i := 0) (v := (.int (own_F_method_3 u (0 : Int32)))) (by decide) (by decide) rfl (g := (mkF m 9 #[.val (.ref q1)] [(.int 0), (.ref q1), (.int 0), (.ref q1)])) rfl rfl (hb hby d_method_5_9) t k) ?_
  show own_Go p e below KK s₁ (mkF m 10 #[.val (.ref q1)] [(.int (own_F_method_3 u (0 : Int32))), (.int 0), (.ref q1)])
  refine own_at (fun t k => XS.iconst X0.here hx rfl (hb hby d_method_5_10) k) ?_
  show own_Go p e below KK s₁ (mkF m 11 #[.val (.ref q1)] [(.int (-1 : Int32)), (.int (own_F_method_3 u (0 : Int32))), (.int 0), (.ref q1)])
  refine own_at (fun t k => XS.ixor X0.here hx rfl (hb hby d_method_5_11) rfl k) ?_
  show own_Go p e below KK s₁ (mkF m 12 #[.val (.ref q1)] [(.int ((own_F_method_3 u (0 : Int32)) ^^^ (-1 : Int32))), (.int 0), (.ref q1)])
  refine own_at (fun t k => XS.i2b X0.here hx rfl (hb hby d_method_5_12) rfl k) ?_
  show own_Go p e below KK s₁ (mkF m 13 #[.val (.ref q1)] [(.int (((own_F_method_3 u (0 : Int32)) ^^^ (-1 : Int32)).toInt8.toInt32)), (.int 0), (.ref q1)])
  obtain ⟨T1, h1, X1, e1, W1, V1, st1⟩ := own_stB X0 hx hZ e0 Aq (j := (0 : Int32)) (y := (((own_F_method_3 u (0 : Int32)) ^^^ (-1 : Int32)).toInt8.toInt32)) (own_narB _) (i := 0) (by decide) (by decide) (show (0 : Nat) < 3 from by decide) (g := (mkF m 13 #[.val (.ref q1)] [(.int (((own_F_method_3 u (0 : Int32)) ^^^ (-1 : Int32)).toInt8.toInt32)), (.int 0), (.ref q1)])) rfl rfl (hb hby d_method_5_13)
  have N1 := Fr.snoc X1 N0 gq
  have Zs1 : n0 ≤ h1.size := (by rw [W1.size]; exact Z0)
  have Kp1 : Keep h0 h1 [q1] := Kp0.wr W1 (Or.inl (by simp))
  have A2_q1 : own_A Z h1 q1 "[B" .byte [(.int (((own_F_method_3 u (0 : Int32)) ^^^ (-1 : Int32)).toInt8.toInt32)), (.int (own_F_method_3 u (1 : Int32))), (.int (own_F_method_3 u (2 : Int32)))] := V1
  refine own_of (fun t k => st1 t k) ?_
  show own_Go p e below KK T1 (mkF m 14 #[.val (.ref q1)] [])
  refine own_at (fun t k => XS.aloadN X1.here hx rfl (hb hby d_method_5_14) rfl rfl k) ?_
  show own_Go p e below KK T1 (mkF m 15 #[.val (.ref q1)] [(.ref q1)])
  refine own_at (fun t k => own_len X1 hx hZ e1 A2_q1 (N := (3 : Int32)) (show (3 : Nat).toInt32 = (3 : Int32) from by decide) (g := (mkF m 15 #[.val (.ref q1)] [(.ref q1)])) rfl rfl (hb hby d_method_5_15) t k) ?_
  show own_Go p e below KK T1 (mkF m 16 #[.val (.ref q1)] [(.int 3)])
  refine own_at (fun t k => XS.iconst X1.here hx rfl (hb hby d_method_5_16) k) ?_
  show own_Go p e below KK T1 (mkF m 17 #[.val (.ref q1)] [(.int 1), (.int 3)])
  have hc17 : (1 : Int32) < (3 : Int32) := by decide
  refine own_at (fun t k => XS.icmpNo X1.here hx rfl (hb hby d_method_5_17) rfl (Jvm.Free.XT.ii_le_f hc17) k) ?_
  show own_Go p e below KK T1 (mkF m 20 #[.val (.ref q1)] [])
  refine own_at (fun t k => XS.aloadN X1.here hx rfl (hb hby d_method_5_20) rfl rfl k) ?_
  show own_Go p e below KK T1 (mkF m 21 #[.val (.ref q1)] [(.ref q1)])
  refine own_at (fun t k => XS.iconst X1.here hx rfl (hb hby d_method_5_21) k) ?_
  show own_Go p e below KK T1 (mkF m 22 #[.val (.ref q1)] [(.int 1), (.ref q1)])
  refine own_at (fun t k => XS.aloadN X1.here hx rfl (hb hby d_method_5_22) rfl rfl k) ?_
  show own_Go p e below KK T1 (mkF m 23 #[.val (.ref q1)] [(.ref q1), (.int 1), (.ref q1)])
  refine own_at (fun t k => XS.iconst X1.here hx rfl (hb hby d_method_5_23) k) ?_
  show own_Go p e below KK T1 (mkF m 24 #[.val (.ref q1)] [(.int 1), (.ref q1), (.int 1), (.ref q1)])
  refine own_at (fun t k => own_ldB X1 hx hZ e1 A2_q1 (j := (1 : Int32)) (i := 1) (v := (.int (own_F_method_3 u (1 : Int32)))) (by decide) (by decide) rfl (g := (mkF m 24 #[.val (.ref q1)] [(.int 1), (.ref q1), (.int 1), (.ref q1)])) rfl rfl (hb hby d_method_5_24) t k) ?_
  show own_Go p e below KK T1 (mkF m 25 #[.val (.ref q1)] [(.int (own_F_method_3 u (1 : Int32))), (.int 1), (.ref q1)])
  refine own_at (fun t k => XS.iconst X1.here hx rfl (hb hby d_method_5_25) k) ?_
  show own_Go p e below KK T1 (mkF m 26 #[.val (.ref q1)] [(.int (-1 : Int32)), (.int (own_F_method_3 u (1 : Int32))), (.int 1), (.ref q1)])
  refine own_at (fun t k => XS.ixor X1.here hx rfl (hb hby d_method_5_26) rfl k) ?_
  show own_Go p e below KK T1 (mkF m 27 #[.val (.ref q1)] [(.int ((own_F_method_3 u (1 : Int32)) ^^^ (-1 : Int32))), (.int 1), (.ref q1)])
  refine own_at (fun t k => XS.i2b X1.here hx rfl (hb hby d_method_5_27) rfl k) ?_
  show own_Go p e below KK T1 (mkF m 28 #[.val (.ref q1)] [(.int (((own_F_method_3 u (1 : Int32)) ^^^ (-1 : Int32)).toInt8.toInt32)), (.int 1), (.ref q1)])
  obtain ⟨T3, h3, X3, e3, W3, V3, st3⟩ := own_stB X1 hx hZ e1 A2_q1 (j := (1 : Int32)) (y := (((own_F_method_3 u (1 : Int32)) ^^^ (-1 : Int32)).toInt8.toInt32)) (own_narB _) (i := 1) (by decide) (by decide) (show (1 : Nat) < 3 from by decide) (g := (mkF m 28 #[.val (.ref q1)] [(.int (((own_F_method_3 u (1 : Int32)) ^^^ (-1 : Int32)).toInt8.toInt32)), (.int 1), (.ref q1)])) rfl rfl (hb hby d_method_5_28)
  have N3 := Fr.snoc X3 N1 gq
  have Zs3 : n0 ≤ h3.size := (by rw [W3.size]; exact Zs1)
  have Kp3 : Keep h0 h3 [q1] := Kp1.wr W3 (Or.inl (by simp))
  have A4_q1 : own_A Z h3 q1 "[B" .byte [(.int (((own_F_method_3 u (0 : Int32)) ^^^ (-1 : Int32)).toInt8.toInt32)), (.int (((own_F_method_3 u (1 : Int32)) ^^^ (-1 : Int32)).toInt8.toInt32)), (.int (own_F_method_3 u (2 : Int32)))] := V3
  refine own_of (fun t k => st3 t k) ?_
  show own_Go p e below KK T3 (mkF m 29 #[.val (.ref q1)] [])
  refine own_at (fun t k => XS.aloadN X3.here hx rfl (hb hby d_method_5_29) rfl rfl k) ?_
  show own_Go p e below KK T3 (mkF m 30 #[.val (.ref q1)] [(.ref q1)])
  refine own_at (fun t k => own_len X3 hx hZ e3 A4_q1 (N := (3 : Int32)) (show (3 : Nat).toInt32 = (3 : Int32) from by decide) (g := (mkF m 30 #[.val (.ref q1)] [(.ref q1)])) rfl rfl (hb hby d_method_5_30) t k) ?_
  show own_Go p e below KK T3 (mkF m 31 #[.val (.ref q1)] [(.int 3)])
  refine own_at (fun t k => XS.iconst X3.here hx rfl (hb hby d_method_5_31) k) ?_
  show own_Go p e below KK T3 (mkF m 32 #[.val (.ref q1)] [(.int 2), (.int 3)])
  have hc32 : (2 : Int32) < (3 : Int32) := by decide
  refine own_at (fun t k => XS.icmpNo X3.here hx rfl (hb hby d_method_5_32) rfl (Jvm.Free.XT.ii_le_f hc32) k) ?_
  show own_Go p e below KK T3 (mkF m 35 #[.val (.ref q1)] [])
  refine own_at (fun t k => XS.aloadN X3.here hx rfl (hb hby d_method_5_35) rfl rfl k) ?_
  show own_Go p e below KK T3 (mkF m 36 #[.val (.ref q1)] [(.ref q1)])
  refine own_at (fun t k => XS.iconst X3.here hx rfl (hb hby d_method_5_36) k) ?_
  show own_Go p e below KK T3 (mkF m 37 #[.val (.ref q1)] [(.int 2), (.ref q1)])
  refine own_at (fun t k => XS.aloadN X3.here hx rfl (hb hby d_method_5_37) rfl rfl k) ?_
  show own_Go p e below KK T3 (mkF m 38 #[.val (.ref q1)] [(.ref q1), (.int 2), (.ref q1)])
  refine own_at (fun t k => XS.iconst X3.here hx rfl (hb hby d_method_5_38) k) ?_
  show own_Go p e below KK T3 (mkF m 39 #[.val (.ref q1)] [(.int 2), (.ref q1), (.int 2), (.ref q1)])
  refine own_at (fun t k => own_ldB X3 hx hZ e3 A4_q1 (j := (2 : Int32)) (i := 2) (v := (.int (own_F_method_3 u (2 : Int32)))) (by decide) (by decide) rfl (g := (mkF m 39 #[.val (.ref q1)] [(.int 2), (.ref q1), (.int 2), (.ref q1)])) rfl rfl (hb hby d_method_5_39) t k) ?_
  show own_Go p e below KK T3 (mkF m 40 #[.val (.ref q1)] [(.int (own_F_method_3 u (2 : Int32))), (.int 2), (.ref q1)])
  refine own_at (fun t k => XS.iconst X3.here hx rfl (hb hby d_method_5_40) k) ?_
  show own_Go p e below KK T3 (mkF m 41 #[.val (.ref q1)] [(.int (-1 : Int32)), (.int (own_F_method_3 u (2 : Int32))), (.int 2), (.ref q1)])
  refine own_at (fun t k => XS.ixor X3.here hx rfl (hb hby d_method_5_41) rfl k) ?_
  show own_Go p e below KK T3 (mkF m 42 #[.val (.ref q1)] [(.int ((own_F_method_3 u (2 : Int32)) ^^^ (-1 : Int32))), (.int 2), (.ref q1)])
  refine own_at (fun t k => XS.i2b X3.here hx rfl (hb hby d_method_5_42) rfl k) ?_
  show own_Go p e below KK T3 (mkF m 43 #[.val (.ref q1)] [(.int (((own_F_method_3 u (2 : Int32)) ^^^ (-1 : Int32)).toInt8.toInt32)), (.int 2), (.ref q1)])
  obtain ⟨T5, h5, X5, e5, W5, V5, st5⟩ := own_stB X3 hx hZ e3 A4_q1 (j := (2 : Int32)) (y := (((own_F_method_3 u (2 : Int32)) ^^^ (-1 : Int32)).toInt8.toInt32)) (own_narB _) (i := 2) (by decide) (by decide) (show (2 : Nat) < 3 from by decide) (g := (mkF m 43 #[.val (.ref q1)] [(.int (((own_F_method_3 u (2 : Int32)) ^^^ (-1 : Int32)).toInt8.toInt32)), (.int 2), (.ref q1)])) rfl rfl (hb hby d_method_5_43)
  have N5 := Fr.snoc X5 N3 gq
  have Zs5 : n0 ≤ h5.size := (by rw [W5.size]; exact Zs3)
  have Kp5 : Keep h0 h5 [q1] := Kp3.wr W5 (Or.inl (by simp))
  have A6_q1 : own_A Z h5 q1 "[B" .byte [(.int (((own_F_method_3 u (0 : Int32)) ^^^ (-1 : Int32)).toInt8.toInt32)), (.int (((own_F_method_3 u (1 : Int32)) ^^^ (-1 : Int32)).toInt8.toInt32)), (.int (((own_F_method_3 u (2 : Int32)) ^^^ (-1 : Int32)).toInt8.toInt32))] := V5
  refine own_of (fun t k => st5 t k) ?_
  show own_Go p e below KK T5 (mkF m 44 #[.val (.ref q1)] [])
  refine own_at (fun t k => XS.aloadN X5.here hx rfl (hb hby d_method_5_44) rfl rfl k) ?_
  show own_Go p e below KK T5 (mkF m 45 #[.val (.ref q1)] [(.ref q1)])
  refine own_at (fun t k => own_len X5 hx hZ e5 A6_q1 (N := (3 : Int32)) (show (3 : Nat).toInt32 = (3 : Int32) from by decide) (g := (mkF m 45 #[.val (.ref q1)] [(.ref q1)])) rfl rfl (hb hby d_method_5_45) t k) ?_
  show own_Go p e below KK T5 (mkF m 46 #[.val (.ref q1)] [(.int 3)])
  refine own_at (fun t k => XS.iconst X5.here hx rfl (hb hby d_method_5_46) k) ?_
  show own_Go p e below KK T5 (mkF m 47 #[.val (.ref q1)] [(.int 3), (.int 3)])
  have hc47 : ¬ ((3 : Int32) < (3 : Int32)) := by decide
  refine own_at (fun t k => XS.icmpYes X5.here hx rfl (pc0 := 47) (pc' := 59) rfl (hb hby d_method_5_47) rfl (Jvm.Free.XT.ii_le_t hc47) (by decide) (by decide) k) ?_
  show own_Go p e below KK T5 (mkF m 59 #[.val (.ref q1)] [])
  refine own_at (fun t k => XS.aloadN X5.here hx rfl (hb hby d_method_5_59) rfl rfl k) ?_
  show own_Go p e below KK T5 (mkF m 60 #[.val (.ref q1)] [(.ref q1)])
  refine own_at (fun t k => own_len X5 hx hZ e5 A6_q1 (N := (3 : Int32)) (show (3 : Nat).toInt32 = (3 : Int32) from by decide) (g := (mkF m 60 #[.val (.ref q1)] [(.ref q1)])) rfl rfl (hb hby d_method_5_60) t k) ?_
  show own_Go p e below KK T5 (mkF m 61 #[.val (.ref q1)] [(.int 3)])
  refine own_at (fun t k => XS.iconst X5.here hx rfl (hb hby d_method_5_61) k) ?_
  show own_Go p e below KK T5 (mkF m 62 #[.val (.ref q1)] [(.int 4), (.int 3)])
  have hc62 : ¬ ((4 : Int32) < (3 : Int32)) := by decide
  refine own_at (fun t k => XS.icmpYes X5.here hx rfl (pc0 := 62) (pc' := 74) rfl (hb hby d_method_5_62) rfl (Jvm.Free.XT.ii_le_t hc62) (by decide) (by decide) k) ?_
  show own_Go p e below KK T5 (mkF m 74 #[.val (.ref q1)] [])
  refine own_at (fun t k => XS.aloadN X5.here hx rfl (hb hby d_method_5_74) rfl rfl k) ?_
  show own_Go p e below KK T5 (mkF m 75 #[.val (.ref q1)] [(.ref q1)])
  refine own_at (fun t k => own_len X5 hx hZ e5 A6_q1 (N := (3 : Int32)) (show (3 : Nat).toInt32 = (3 : Int32) from by decide) (g := (mkF m 75 #[.val (.ref q1)] [(.ref q1)])) rfl rfl (hb hby d_method_5_75) t k) ?_
  show own_Go p e below KK T5 (mkF m 76 #[.val (.ref q1)] [(.int 3)])
  refine own_at (fun t k => XS.iconst X5.here hx rfl (hb hby d_method_5_76) k) ?_
  show own_Go p e below KK T5 (mkF m 77 #[.val (.ref q1)] [(.int 5), (.int 3)])
  have hc77 : ¬ ((5 : Int32) < (3 : Int32)) := by decide
  refine own_at (fun t k => XS.icmpYes X5.here hx rfl (pc0 := 77) (pc' := 89) rfl (hb hby d_method_5_77) rfl (Jvm.Free.XT.ii_le_t hc77) (by decide) (by decide) k) ?_
  show own_Go p e below KK T5 (mkF m 89 #[.val (.ref q1)] [])
  refine own_at (fun t k => XS.aloadN X5.here hx rfl (hb hby d_method_5_89) rfl rfl k) ?_
  show own_Go p e below KK T5 (mkF m 90 #[.val (.ref q1)] [(.ref q1)])
  refine own_at (fun t k => own_len X5 hx hZ e5 A6_q1 (N := (3 : Int32)) (show (3 : Nat).toInt32 = (3 : Int32) from by decide) (g := (mkF m 90 #[.val (.ref q1)] [(.ref q1)])) rfl rfl (hb hby d_method_5_90) t k) ?_
  show own_Go p e below KK T5 (mkF m 91 #[.val (.ref q1)] [(.int 3)])
  refine own_at (fun t k => XS.bipush X5.here hx rfl (hb hby d_method_5_91) k) ?_
  show own_Go p e below KK T5 (mkF m 93 #[.val (.ref q1)] [(.int 6), (.int 3)])
  have hc93 : ¬ ((6 : Int32) < (3 : Int32)) := by decide
  refine own_at (fun t k => XS.icmpYes X5.here hx rfl (pc0 := 93) (pc' := 107) rfl (hb hby d_method_5_93) rfl (Jvm.Free.XT.ii_le_t hc93) (by decide) (by decide) k) ?_
  show own_Go p e below KK T5 (mkF m 107 #[.val (.ref q1)] [])
  subst hKK
  exact own_retV X5 hx hlk Bd.returns (hb hby d_method_5_107) ⟨rfl, N5, by rw [e5]; exact Kp5⟩ (Nat.le_of_ble_eq_true rfl) (Nat.le_of_ble_eq_true rfl)
theorem d_method_5_50 : decode method_5_code 50 = .ok (.aload_n 0, 1) := by decide +kernel
theorem d_method_5_51 : decode method_5_code 51 = .ok (.iconst 3, 1) := by decide +kernel
theorem d_method_5_52 : decode method_5_code 52 = .ok (.aload_n 0, 1) := by decide +kernel
theorem d_method_5_53 : decode method_5_code 53 = .ok (.iconst 3, 1) := by decide +kernel
theorem d_method_5_54 : decode method_5_code 54 = .ok (.baload, 1) := by decide +kernel
theorem d_method_5_55 : decode method_5_code 55 = .ok (.iconst (-1), 1) := by decide +kernel
theorem d_method_5_56 : decode method_5_code 56 = .ok (.ixor, 1) := by decide +kernel
theorem d_method_5_57 : decode method_5_code 57 = .ok (.i2b, 1) := by decide +kernel
theorem d_method_5_58 : decode method_5_code 58 = .ok (.bastore, 1) := by decide +kernel
set_option maxRecDepth 65536 in
set_option maxHeartbeats 40000000 in
theorem rm_flip4 (l : Launch) (Z : State) (a0 : Array Value) (hw : ∀ d ∈ tables_1, d.before a0 Z = true) (ws : List Jvm.Cond) (q1 : Addr) (u : Int64) (h0 : Heap) (n0 : Nat) (Z0 : n0 ≤ h0.size) (Aq : own_A Z h0 q1 "[B" .byte [(.int (own_F_method_3 u (0 : Int32))), (.int (own_F_method_3 u (1 : Int32))), (.int (own_F_method_3 u (2 : Int32))), (.int (own_F_method_3 u (3 : Int32)))]) (gq : n0 ≤ q1) :
    MetFree l (⟨"com/example/isimud/isimud/oscore/OscoreOptionOfRequestPinLaw", "flip", "([B)V"⟩ : MethodName) (head1 (Jvm.Cond.code (⟨"com/example/isimud/isimud/oscore/OscoreOptionOfRequestPinLaw", "flip", "([B)V"⟩ : MethodName) method_5_code 1 none :: ws) ({ frames := 0, cells := 0, slots := 0, locals := 0 } : Room)) (fun a U => a = #[(.ref q1)] ∧ Z.Warmed39 U.vm ∧ U.heap = h0) (fun _ _ _ _ _ => True) (fun _ U o U' => ∃ v L, o = .returned v ∧ own_Qv q1 h0 n0 v U'.heap L ∧ FrameEnd U o U' L ({ frames := 0, cells := 0, slots := 0, locals := 0 } : Room).cells ({ frames := 0, cells := 0, slots := 0, locals := 0 } : Room).slots) := by
  refine MetFree.of_bodySF (plainFor_of_name pn_com_example_isimud_isimud_oscore_OscoreOptionOfRequestPinLaw) hisR ?_
  intro p e s m args below meth c s₁ Bd hml0 hP hK
  obtain ⟨rfl, hZ, hh⟩ := hP
  have hx := Bd.exec
  have hby := Bd.bytes
  have hlk : meth.locks = false := BodyLoose.notSynchronized Bd
  have hml : c.maxLocals = 1 := hml0
  have hown : s.vm.findClass "com/example/isimud/isimud/oscore/OscoreOptionOfRequestPinLaw" = some m.cls := findClass_of_methodNamed Bd.named
  have hnm := (name_of_methodNamed Bd.named Bd.method).1
  have X0 : Stand p l e ({ frames := 0, cells := 0, slots := 0, locals := 0 } : Room) s m #[(.ref q1)] below meth c s₁ [] 0 0 := Stand.of_body Bd
  have e0 : s₁.heap = h0 := by rw [← hh, Bd.state]; rfl
  have N0 := Fr.nil n0
  refine own_cast (K := own_K s (own_Qv q1 h0 n0) 0 0) (ef_method_5 m q1) ?_
  generalize hKK : own_K s (own_Qv q1 h0 n0) 0 0 = KK
  show own_Go p e below KK s₁ (mkF m 0 #[.val (.ref q1)] [])
  have Kp0 : Keep h0 h0 [q1] := Keep.refl _ _
  refine own_at (fun t k => XS.aloadN X0.here hx rfl (hb hby d_method_5_0) rfl rfl k) ?_
  show own_Go p e below KK s₁ (mkF m 1 #[.val (.ref q1)] [(.ref q1)])
  refine own_at (fun t k => own_len X0 hx hZ e0 Aq (N := (4 : Int32)) (show (4 : Nat).toInt32 = (4 : Int32) from by decide) (g := (mkF m 1 #[.val (.ref q1)] [(.ref q1)])) rfl rfl (hb hby d_method_5_1) t k) ?_
  show own_Go p e below KK s₁ (mkF m 2 #[.val (.ref q1)] [(.int 4)])
  have hc2 : (0 : Int32) < (4 : Int32) := by decide
  refine own_at (fun t k => XS.ifNo X0.here hx rfl (hb hby d_method_5_2) rfl (Jvm.Free.XT.i0_le_f hc2) k) ?_
  show own_Go p e below KK s₁ (mkF m 5 #[.val (.ref q1)] [])
  refine own_at (fun t k => XS.aloadN X0.here hx rfl (hb hby d_method_5_5) rfl rfl k) ?_
  show own_Go p e below KK s₁ (mkF m 6 #[.val (.ref q1)] [(.ref q1)])
  refine own_at (fun t k => XS.iconst X0.here hx rfl (hb hby d_method_5_6) k) ?_
  show own_Go p e below KK s₁ (mkF m 7 #[.val (.ref q1)] [(.int 0), (.ref q1)])
  refine own_at (fun t k => XS.aloadN X0.here hx rfl (hb hby d_method_5_7) rfl rfl k) ?_
  show own_Go p e below KK s₁ (mkF m 8 #[.val (.ref q1)] [(.ref q1), (.int 0), (.ref q1)])
  refine own_at (fun t k => XS.iconst X0.here hx rfl (hb hby d_method_5_8) k) ?_
  show own_Go p e below KK s₁ (mkF m 9 #[.val (.ref q1)] [(.int 0), (.ref q1), (.int 0), (.ref q1)])
  refine own_at (fun t k => own_ldB X0 hx hZ e0 Aq (j := (0 : Int32)) (i := 0) (v := (.int (own_F_method_3 u (0 : Int32)))) (by decide) (by decide) rfl (g := (mkF m 9 #[.val (.ref q1)] [(.int 0), (.ref q1), (.int 0), (.ref q1)])) rfl rfl (hb hby d_method_5_9) t k) ?_
  show own_Go p e below KK s₁ (mkF m 10 #[.val (.ref q1)] [(.int (own_F_method_3 u (0 : Int32))), (.int 0), (.ref q1)])
  refine own_at (fun t k => XS.iconst X0.here hx rfl (hb hby d_method_5_10) k) ?_
  show own_Go p e below KK s₁ (mkF m 11 #[.val (.ref q1)] [(.int (-1 : Int32)), (.int (own_F_method_3 u (0 : Int32))), (.int 0), (.ref q1)])
  refine own_at (fun t k => XS.ixor X0.here hx rfl (hb hby d_method_5_11) rfl k) ?_
  show own_Go p e below KK s₁ (mkF m 12 #[.val (.ref q1)] [(.int ((own_F_method_3 u (0 : Int32)) ^^^ (-1 : Int32))), (.int 0), (.ref q1)])
  refine own_at (fun t k => XS.i2b X0.here hx rfl (hb hby d_method_5_12) rfl k) ?_
  show own_Go p e below KK s₁ (mkF m 13 #[.val (.ref q1)] [(.int (((own_F_method_3 u (0 : Int32)) ^^^ (-1 : Int32)).toInt8.toInt32)), (.int 0), (.ref q1)])
  obtain ⟨T1, h1, X1, e1, W1, V1, st1⟩ := own_stB X0 hx hZ e0 Aq (j := (0 : Int32)) (y := (((own_F_method_3 u (0 : Int32)) ^^^ (-1 : Int32)).toInt8.toInt32)) (own_narB _) (i := 0) (by decide) (by decide) (show (0 : Nat) < 4 from by decide) (g := (mkF m 13 #[.val (.ref q1)] [(.int (((own_F_method_3 u (0 : Int32)) ^^^ (-1 : Int32)).toInt8.toInt32)), (.int 0), (.ref q1)])) rfl rfl (hb hby d_method_5_13)
  have N1 := Fr.snoc X1 N0 gq
  have Zs1 : n0 ≤ h1.size := (by rw [W1.size]; exact Z0)
  have Kp1 : Keep h0 h1 [q1] := Kp0.wr W1 (Or.inl (by simp))
  have A2_q1 : own_A Z h1 q1 "[B" .byte [(.int (((own_F_method_3 u (0 : Int32)) ^^^ (-1 : Int32)).toInt8.toInt32)), (.int (own_F_method_3 u (1 : Int32))), (.int (own_F_method_3 u (2 : Int32))), (.int (own_F_method_3 u (3 : Int32)))] := V1
  refine own_of (fun t k => st1 t k) ?_
  show own_Go p e below KK T1 (mkF m 14 #[.val (.ref q1)] [])
  refine own_at (fun t k => XS.aloadN X1.here hx rfl (hb hby d_method_5_14) rfl rfl k) ?_
  show own_Go p e below KK T1 (mkF m 15 #[.val (.ref q1)] [(.ref q1)])
  refine own_at (fun t k => own_len X1 hx hZ e1 A2_q1 (N := (4 : Int32)) (show (4 : Nat).toInt32 = (4 : Int32) from by decide) (g := (mkF m 15 #[.val (.ref q1)] [(.ref q1)])) rfl rfl (hb hby d_method_5_15) t k) ?_
  show own_Go p e below KK T1 (mkF m 16 #[.val (.ref q1)] [(.int 4)])
  refine own_at (fun t k => XS.iconst X1.here hx rfl (hb hby d_method_5_16) k) ?_
  show own_Go p e below KK T1 (mkF m 17 #[.val (.ref q1)] [(.int 1), (.int 4)])
  have hc17 : (1 : Int32) < (4 : Int32) := by decide
  refine own_at (fun t k => XS.icmpNo X1.here hx rfl (hb hby d_method_5_17) rfl (Jvm.Free.XT.ii_le_f hc17) k) ?_
  show own_Go p e below KK T1 (mkF m 20 #[.val (.ref q1)] [])
  refine own_at (fun t k => XS.aloadN X1.here hx rfl (hb hby d_method_5_20) rfl rfl k) ?_
  show own_Go p e below KK T1 (mkF m 21 #[.val (.ref q1)] [(.ref q1)])
  refine own_at (fun t k => XS.iconst X1.here hx rfl (hb hby d_method_5_21) k) ?_
  show own_Go p e below KK T1 (mkF m 22 #[.val (.ref q1)] [(.int 1), (.ref q1)])
  refine own_at (fun t k => XS.aloadN X1.here hx rfl (hb hby d_method_5_22) rfl rfl k) ?_
  show own_Go p e below KK T1 (mkF m 23 #[.val (.ref q1)] [(.ref q1), (.int 1), (.ref q1)])
  refine own_at (fun t k => XS.iconst X1.here hx rfl (hb hby d_method_5_23) k) ?_
  show own_Go p e below KK T1 (mkF m 24 #[.val (.ref q1)] [(.int 1), (.ref q1), (.int 1), (.ref q1)])
  refine own_at (fun t k => own_ldB X1 hx hZ e1 A2_q1 (j := (1 : Int32)) (i := 1) (v := (.int (own_F_method_3 u (1 : Int32)))) (by decide) (by decide) rfl (g := (mkF m 24 #[.val (.ref q1)] [(.int 1), (.ref q1), (.int 1), (.ref q1)])) rfl rfl (hb hby d_method_5_24) t k) ?_
  show own_Go p e below KK T1 (mkF m 25 #[.val (.ref q1)] [(.int (own_F_method_3 u (1 : Int32))), (.int 1), (.ref q1)])
  refine own_at (fun t k => XS.iconst X1.here hx rfl (hb hby d_method_5_25) k) ?_
  show own_Go p e below KK T1 (mkF m 26 #[.val (.ref q1)] [(.int (-1 : Int32)), (.int (own_F_method_3 u (1 : Int32))), (.int 1), (.ref q1)])
  refine own_at (fun t k => XS.ixor X1.here hx rfl (hb hby d_method_5_26) rfl k) ?_
  show own_Go p e below KK T1 (mkF m 27 #[.val (.ref q1)] [(.int ((own_F_method_3 u (1 : Int32)) ^^^ (-1 : Int32))), (.int 1), (.ref q1)])
  refine own_at (fun t k => XS.i2b X1.here hx rfl (hb hby d_method_5_27) rfl k) ?_
  show own_Go p e below KK T1 (mkF m 28 #[.val (.ref q1)] [(.int (((own_F_method_3 u (1 : Int32)) ^^^ (-1 : Int32)).toInt8.toInt32)), (.int 1), (.ref q1)])
  obtain ⟨T3, h3, X3, e3, W3, V3, st3⟩ := own_stB X1 hx hZ e1 A2_q1 (j := (1 : Int32)) (y := (((own_F_method_3 u (1 : Int32)) ^^^ (-1 : Int32)).toInt8.toInt32)) (own_narB _) (i := 1) (by decide) (by decide) (show (1 : Nat) < 4 from by decide) (g := (mkF m 28 #[.val (.ref q1)] [(.int (((own_F_method_3 u (1 : Int32)) ^^^ (-1 : Int32)).toInt8.toInt32)), (.int 1), (.ref q1)])) rfl rfl (hb hby d_method_5_28)
  have N3 := Fr.snoc X3 N1 gq
  have Zs3 : n0 ≤ h3.size := (by rw [W3.size]; exact Zs1)
  have Kp3 : Keep h0 h3 [q1] := Kp1.wr W3 (Or.inl (by simp))
  have A4_q1 : own_A Z h3 q1 "[B" .byte [(.int (((own_F_method_3 u (0 : Int32)) ^^^ (-1 : Int32)).toInt8.toInt32)), (.int (((own_F_method_3 u (1 : Int32)) ^^^ (-1 : Int32)).toInt8.toInt32)), (.int (own_F_method_3 u (2 : Int32))), (.int (own_F_method_3 u (3 : Int32)))] := V3
  refine own_of (fun t k => st3 t k) ?_
  show own_Go p e below KK T3 (mkF m 29 #[.val (.ref q1)] [])
  refine own_at (fun t k => XS.aloadN X3.here hx rfl (hb hby d_method_5_29) rfl rfl k) ?_
  show own_Go p e below KK T3 (mkF m 30 #[.val (.ref q1)] [(.ref q1)])
  refine own_at (fun t k => own_len X3 hx hZ e3 A4_q1 (N := (4 : Int32)) (show (4 : Nat).toInt32 = (4 : Int32) from by decide) (g := (mkF m 30 #[.val (.ref q1)] [(.ref q1)])) rfl rfl (hb hby d_method_5_30) t k) ?_
  show own_Go p e below KK T3 (mkF m 31 #[.val (.ref q1)] [(.int 4)])
  refine own_at (fun t k => XS.iconst X3.here hx rfl (hb hby d_method_5_31) k) ?_
  show own_Go p e below KK T3 (mkF m 32 #[.val (.ref q1)] [(.int 2), (.int 4)])
  have hc32 : (2 : Int32) < (4 : Int32) := by decide
  refine own_at (fun t k => XS.icmpNo X3.here hx rfl (hb hby d_method_5_32) rfl (Jvm.Free.XT.ii_le_f hc32) k) ?_
  show own_Go p e below KK T3 (mkF m 35 #[.val (.ref q1)] [])
  refine own_at (fun t k => XS.aloadN X3.here hx rfl (hb hby d_method_5_35) rfl rfl k) ?_
  show own_Go p e below KK T3 (mkF m 36 #[.val (.ref q1)] [(.ref q1)])
  refine own_at (fun t k => XS.iconst X3.here hx rfl (hb hby d_method_5_36) k) ?_
  show own_Go p e below KK T3 (mkF m 37 #[.val (.ref q1)] [(.int 2), (.ref q1)])
  refine own_at (fun t k => XS.aloadN X3.here hx rfl (hb hby d_method_5_37) rfl rfl k) ?_
  show own_Go p e below KK T3 (mkF m 38 #[.val (.ref q1)] [(.ref q1), (.int 2), (.ref q1)])
  refine own_at (fun t k => XS.iconst X3.here hx rfl (hb hby d_method_5_38) k) ?_
  show own_Go p e below KK T3 (mkF m 39 #[.val (.ref q1)] [(.int 2), (.ref q1), (.int 2), (.ref q1)])
  refine own_at (fun t k => own_ldB X3 hx hZ e3 A4_q1 (j := (2 : Int32)) (i := 2) (v := (.int (own_F_method_3 u (2 : Int32)))) (by decide) (by decide) rfl (g := (mkF m 39 #[.val (.ref q1)] [(.int 2), (.ref q1), (.int 2), (.ref q1)])) rfl rfl (hb hby d_method_5_39) t k) ?_
  show own_Go p e below KK T3 (mkF m 40 #[.val (.ref q1)] [(.int (own_F_method_3 u (2 : Int32))), (.int 2), (.ref q1)])
  refine own_at (fun t k => XS.iconst X3.here hx rfl (hb hby d_method_5_40) k) ?_
  show own_Go p e below KK T3 (mkF m 41 #[.val (.ref q1)] [(.int (-1 : Int32)), (.int (own_F_method_3 u (2 : Int32))), (.int 2), (.ref q1)])
  refine own_at (fun t k => XS.ixor X3.here hx rfl (hb hby d_method_5_41) rfl k) ?_
  show own_Go p e below KK T3 (mkF m 42 #[.val (.ref q1)] [(.int ((own_F_method_3 u (2 : Int32)) ^^^ (-1 : Int32))), (.int 2), (.ref q1)])
  refine own_at (fun t k => XS.i2b X3.here hx rfl (hb hby d_method_5_42) rfl k) ?_
  show own_Go p e below KK T3 (mkF m 43 #[.val (.ref q1)] [(.int (((own_F_method_3 u (2 : Int32)) ^^^ (-1 : Int32)).toInt8.toInt32)), (.int 2), (.ref q1)])
  obtain ⟨T5, h5, X5, e5, W5, V5, st5⟩ := own_stB X3 hx hZ e3 A4_q1 (j := (2 : Int32)) (y := (((own_F_method_3 u (2 : Int32)) ^^^ (-1 : Int32)).toInt8.toInt32)) (own_narB _) (i := 2) (by decide) (by decide) (show (2 : Nat) < 4 from by decide) (g := (mkF m 43 #[.val (.ref q1)] [(.int (((own_F_method_3 u (2 : Int32)) ^^^ (-1 : Int32)).toInt8.toInt32)), (.int 2), (.ref q1)])) rfl rfl (hb hby d_method_5_43)
  have N5 := Fr.snoc X5 N3 gq
  have Zs5 : n0 ≤ h5.size := (by rw [W5.size]; exact Zs3)
  have Kp5 : Keep h0 h5 [q1] := Kp3.wr W5 (Or.inl (by simp))
  have A6_q1 : own_A Z h5 q1 "[B" .byte [(.int (((own_F_method_3 u (0 : Int32)) ^^^ (-1 : Int32)).toInt8.toInt32)), (.int (((own_F_method_3 u (1 : Int32)) ^^^ (-1 : Int32)).toInt8.toInt32)), (.int (((own_F_method_3 u (2 : Int32)) ^^^ (-1 : Int32)).toInt8.toInt32)), (.int (own_F_method_3 u (3 : Int32)))] := V5
  refine own_of (fun t k => st5 t k) ?_
  show own_Go p e below KK T5 (mkF m 44 #[.val (.ref q1)] [])
  refine own_at (fun t k => XS.aloadN X5.here hx rfl (hb hby d_method_5_44) rfl rfl k) ?_
  show own_Go p e below KK T5 (mkF m 45 #[.val (.ref q1)] [(.ref q1)])
  refine own_at (fun t k => own_len X5 hx hZ e5 A6_q1 (N := (4 : Int32)) (show (4 : Nat).toInt32 = (4 : Int32) from by decide) (g := (mkF m 45 #[.val (.ref q1)] [(.ref q1)])) rfl rfl (hb hby d_method_5_45) t k) ?_
  show own_Go p e below KK T5 (mkF m 46 #[.val (.ref q1)] [(.int 4)])
  refine own_at (fun t k => XS.iconst X5.here hx rfl (hb hby d_method_5_46) k) ?_
  show own_Go p e below KK T5 (mkF m 47 #[.val (.ref q1)] [(.int 3), (.int 4)])
  have hc47 : (3 : Int32) < (4 : Int32) := by decide
  refine own_at (fun t k => XS.icmpNo X5.here hx rfl (hb hby d_method_5_47) rfl (Jvm.Free.XT.ii_le_f hc47) k) ?_
  show own_Go p e below KK T5 (mkF m 50 #[.val (.ref q1)] [])
  refine own_at (fun t k => XS.aloadN X5.here hx rfl (hb hby d_method_5_50) rfl rfl k) ?_
  show own_Go p e below KK T5 (mkF m 51 #[.val (.ref q1)] [(.ref q1)])
  refine own_at (fun t k => XS.iconst X5.here hx rfl (hb hby d_method_5_51) k) ?_
  show own_Go p e below KK T5 (mkF m 52 #[.val (.ref q1)] [(.int 3), (.ref q1)])
  refine own_at (fun t k => XS.aloadN X5.here hx rfl (hb hby d_method_5_52) rfl rfl k) ?_
  show own_Go p e below KK T5 (mkF m 53 #[.val (.ref q1)] [(.ref q1), (.int 3), (.ref q1)])
  refine own_at (fun t k => XS.iconst X5.here hx rfl (hb hby d_method_5_53) k) ?_
  show own_Go p e below KK T5 (mkF m 54 #[.val (.ref q1)] [(.int 3), (.ref q1), (.int 3), (.ref q1)])
  refine own_at (fun t k => own_ldB X5 hx hZ e5 A6_q1 (j := (3 : Int32)) (i := 3) (v := (.int (own_F_method_3 u (3 : Int32)))) (by decide) (by decide) rfl (g := (mkF m 54 #[.val (.ref q1)] [(.int 3), (.ref q1), (.int 3), (.ref q1)])) rfl rfl (hb hby d_method_5_54) t k) ?_
  show own_Go p e below KK T5 (mkF m 55 #[.val (.ref q1)] [(.int (own_F_method_3 u (3 : Int32))), (.int 3), (.ref q1)])
  refine own_at (fun t k => XS.iconst X5.here hx rfl (hb hby d_method_5_55) k) ?_
  show own_Go p e below KK T5 (mkF m 56 #[.val (.ref q1)] [(.int (-1 : Int32)), (.int (own_F_method_3 u (3 : Int32))), (.int 3), (.ref q1)])
  refine own_at (fun t k => XS.ixor X5.here hx rfl (hb hby d_method_5_56) rfl k) ?_
  show own_Go p e below KK T5 (mkF m 57 #[.val (.ref q1)] [(.int ((own_F_method_3 u (3 : Int32)) ^^^ (-1 : Int32))), (.int 3), (.ref q1)])
  refine own_at (fun t k => XS.i2b X5.here hx rfl (hb hby d_method_5_57) rfl k) ?_
  show own_Go p e below KK T5 (mkF m 58 #[.val (.ref q1)] [(.int (((own_F_method_3 u (3 : Int32)) ^^^ (-1 : Int32)).toInt8.toInt32)), (.int 3), (.ref q1)])
  obtain ⟨T7, h7, X7, e7, W7, V7, st7⟩ := own_stB X5 hx hZ e5 A6_q1 (j := (3 : Int32)) (y := (((own_F_method_3 u (3 : Int32)) ^^^ (-1 : Int32)).toInt8.toInt32)) (own_narB _) (i := 3) (by decide) (by decide) (show (3 : Nat) < 4 from by decide) (g := (mkF m 58 #[.val (.ref q1)] [(.int (((own_F_method_3 u (3 : Int32)) ^^^ (-1 : Int32)).toInt8.toInt32)), (.int 3), (.ref q1)])) rfl rfl (hb hby d_method_5_58)
  have N7 := Fr.snoc X7 N5 gq
  have Zs7 : n0 ≤ h7.size := (by rw [W7.size]; exact Zs5)
  have Kp7 : Keep h0 h7 [q1] := Kp5.wr W7 (Or.inl (by simp))
  have A8_q1 : own_A Z h7 q1 "[B" .byte [(.int (((own_F_method_3 u (0 : Int32)) ^^^ (-1 : Int32)).toInt8.toInt32)), (.int (((own_F_method_3 u (1 : Int32)) ^^^ (-1 : Int32)).toInt8.toInt32)), (.int (((own_F_method_3 u (2 : Int32)) ^^^ (-1 : Int32)).toInt8.toInt32)), (.int (((own_F_method_3 u (3 : Int32)) ^^^ (-1 : Int32)).toInt8.toInt32))] := V7
  refine own_of (fun t k => st7 t k) ?_
  show own_Go p e below KK T7 (mkF m 59 #[.val (.ref q1)] [])
  refine own_at (fun t k => XS.aloadN X7.here hx rfl (hb hby d_method_5_59) rfl rfl k) ?_
  show own_Go p e below KK T7 (mkF m 60 #[.val (.ref q1)] [(.ref q1)])
  refine own_at (fun t k => own_len X7 hx hZ e7 A8_q1 (N := (4 : Int32)) (show (4 : Nat).toInt32 = (4 : Int32) from by decide) (g := (mkF m 60 #[.val (.ref q1)] [(.ref q1)])) rfl rfl (hb hby d_method_5_60) t k) ?_
  show own_Go p e below KK T7 (mkF m 61 #[.val (.ref q1)] [(.int 4)])
  refine own_at (fun t k => XS.iconst X7.here hx rfl (hb hby d_method_5_61) k) ?_
  show own_Go p e below KK T7 (mkF m 62 #[.val (.ref q1)] [(.int 4), (.int 4)])
  have hc62 : ¬ ((4 : Int32) < (4 : Int32)) := by decide
  refine own_at (fun t k => XS.icmpYes X7.here hx rfl (pc0 := 62) (pc' := 74) rfl (hb hby d_method_5_62) rfl (Jvm.Free.XT.ii_le_t hc62) (by decide) (by decide) k) ?_
  show own_Go p e below KK T7 (mkF m 74 #[.val (.ref q1)] [])
  refine own_at (fun t k => XS.aloadN X7.here hx rfl (hb hby d_method_5_74) rfl rfl k) ?_
  show own_Go p e below KK T7 (mkF m 75 #[.val (.ref q1)] [(.ref q1)])
  refine own_at (fun t k => own_len X7 hx hZ e7 A8_q1 (N := (4 : Int32)) (show (4 : Nat).toInt32 = (4 : Int32) from by decide) (g := (mkF m 75 #[.val (.ref q1)] [(.ref q1)])) rfl rfl (hb hby d_method_5_75) t k) ?_
  show own_Go p e below KK T7 (mkF m 76 #[.val (.ref q1)] [(.int 4)])
  refine own_at (fun t k => XS.iconst X7.here hx rfl (hb hby d_method_5_76) k) ?_
  show own_Go p e below KK T7 (mkF m 77 #[.val (.ref q1)] [(.int 5), (.int 4)])
  have hc77 : ¬ ((5 : Int32) < (4 : Int32)) := by decide
  refine own_at (fun t k => XS.icmpYes X7.here hx rfl (pc0 := 77) (pc' := 89) rfl (hb hby d_method_5_77) rfl (Jvm.Free.XT.ii_le_t hc77) (by decide) (by decide) k) ?_
  show own_Go p e below KK T7 (mkF m 89 #[.val (.ref q1)] [])
  refine own_at (fun t k => XS.aloadN X7.here hx rfl (hb hby d_method_5_89) rfl rfl k) ?_
  show own_Go p e below KK T7 (mkF m 90 #[.val (.ref q1)] [(.ref q1)])
  refine own_at (fun t k => own_len X7 hx hZ e7 A8_q1 (N := (4 : Int32)) (show (4 : Nat).toInt32 = (4 : Int32) from by decide) (g := (mkF m 90 #[.val (.ref q1)] [(.ref q1)])) rfl rfl (hb hby d_method_5_90) t k) ?_
  show own_Go p e below KK T7 (mkF m 91 #[.val (.ref q1)] [(.int 4)])
  refine own_at (fun t k => XS.bipush X7.here hx rfl (hb hby d_method_5_91) k) ?_
  show own_Go p e below KK T7 (mkF m 93 #[.val (.ref q1)] [(.int 6), (.int 4)])
  have hc93 : ¬ ((6 : Int32) < (4 : Int32)) := by decide
  refine own_at (fun t k => XS.icmpYes X7.here hx rfl (pc0 := 93) (pc' := 107) rfl (hb hby d_method_5_93) rfl (Jvm.Free.XT.ii_le_t hc93) (by decide) (by decide) k) ?_
  show own_Go p e below KK T7 (mkF m 107 #[.val (.ref q1)] [])
  subst hKK
  exact own_retV X7 hx hlk Bd.returns (hb hby d_method_5_107) ⟨rfl, N7, by rw [e7]; exact Kp7⟩ (Nat.le_of_ble_eq_true rfl) (Nat.le_of_ble_eq_true rfl)
theorem d_method_5_65 : decode method_5_code 65 = .ok (.aload_n 0, 1) := by decide +kernel
theorem d_method_5_66 : decode method_5_code 66 = .ok (.iconst 4, 1) := by decide +kernel
theorem d_method_5_67 : decode method_5_code 67 = .ok (.aload_n 0, 1) := by decide +kernel
theorem d_method_5_68 : decode method_5_code 68 = .ok (.iconst 4, 1) := by decide +kernel
theorem d_method_5_69 : decode method_5_code 69 = .ok (.baload, 1) := by decide +kernel
theorem d_method_5_70 : decode method_5_code 70 = .ok (.iconst (-1), 1) := by decide +kernel
theorem d_method_5_71 : decode method_5_code 71 = .ok (.ixor, 1) := by decide +kernel
theorem d_method_5_72 : decode method_5_code 72 = .ok (.i2b, 1) := by decide +kernel
theorem d_method_5_73 : decode method_5_code 73 = .ok (.bastore, 1) := by decide +kernel
set_option maxRecDepth 65536 in
set_option maxHeartbeats 40000000 in
theorem rm_flip5 (l : Launch) (Z : State) (a0 : Array Value) (hw : ∀ d ∈ tables_1, d.before a0 Z = true) (ws : List Jvm.Cond) (q1 : Addr) (u : Int64) (h0 : Heap) (n0 : Nat) (Z0 : n0 ≤ h0.size) (Aq : own_A Z h0 q1 "[B" .byte [(.int (own_F_method_3 u (0 : Int32))), (.int (own_F_method_3 u (1 : Int32))), (.int (own_F_method_3 u (2 : Int32))), (.int (own_F_method_3 u (3 : Int32))), (.int (own_F_method_3 u (4 : Int32)))]) (gq : n0 ≤ q1) :
    MetFree l (⟨"com/example/isimud/isimud/oscore/OscoreOptionOfRequestPinLaw", "flip", "([B)V"⟩ : MethodName) (head1 (Jvm.Cond.code (⟨"com/example/isimud/isimud/oscore/OscoreOptionOfRequestPinLaw", "flip", "([B)V"⟩ : MethodName) method_5_code 1 none :: ws) ({ frames := 0, cells := 0, slots := 0, locals := 0 } : Room)) (fun a U => a = #[(.ref q1)] ∧ Z.Warmed39 U.vm ∧ U.heap = h0) (fun _ _ _ _ _ => True) (fun _ U o U' => ∃ v L, o = .returned v ∧ own_Qv q1 h0 n0 v U'.heap L ∧ FrameEnd U o U' L ({ frames := 0, cells := 0, slots := 0, locals := 0 } : Room).cells ({ frames := 0, cells := 0, slots := 0, locals := 0 } : Room).slots) := by
  refine MetFree.of_bodySF (plainFor_of_name pn_com_example_isimud_isimud_oscore_OscoreOptionOfRequestPinLaw) hisR ?_
  intro p e s m args below meth c s₁ Bd hml0 hP hK
  obtain ⟨rfl, hZ, hh⟩ := hP
  have hx := Bd.exec
  have hby := Bd.bytes
  have hlk : meth.locks = false := BodyLoose.notSynchronized Bd
  have hml : c.maxLocals = 1 := hml0
  have hown : s.vm.findClass "com/example/isimud/isimud/oscore/OscoreOptionOfRequestPinLaw" = some m.cls := findClass_of_methodNamed Bd.named
  have hnm := (name_of_methodNamed Bd.named Bd.method).1
  have X0 : Stand p l e ({ frames := 0, cells := 0, slots := 0, locals := 0 } : Room) s m #[(.ref q1)] below meth c s₁ [] 0 0 := Stand.of_body Bd
  have e0 : s₁.heap = h0 := by rw [← hh, Bd.state]; rfl
  have N0 := Fr.nil n0
  refine own_cast (K := own_K s (own_Qv q1 h0 n0) 0 0) (ef_method_5 m q1) ?_
  generalize hKK : own_K s (own_Qv q1 h0 n0) 0 0 = KK
  show own_Go p e below KK s₁ (mkF m 0 #[.val (.ref q1)] [])
  have Kp0 : Keep h0 h0 [q1] := Keep.refl _ _
  refine own_at (fun t k => XS.aloadN X0.here hx rfl (hb hby d_method_5_0) rfl rfl k) ?_
  show own_Go p e below KK s₁ (mkF m 1 #[.val (.ref q1)] [(.ref q1)])
  refine own_at (fun t k => own_len X0 hx hZ e0 Aq (N := (5 : Int32)) (show (5 : Nat).toInt32 = (5 : Int32) from by decide) (g := (mkF m 1 #[.val (.ref q1)] [(.ref q1)])) rfl rfl (hb hby d_method_5_1) t k) ?_
  show own_Go p e below KK s₁ (mkF m 2 #[.val (.ref q1)] [(.int 5)])
  have hc2 : (0 : Int32) < (5 : Int32) := by decide
  refine own_at (fun t k => XS.ifNo X0.here hx rfl (hb hby d_method_5_2) rfl (Jvm.Free.XT.i0_le_f hc2) k) ?_
  show own_Go p e below KK s₁ (mkF m 5 #[.val (.ref q1)] [])
  refine own_at (fun t k => XS.aloadN X0.here hx rfl (hb hby d_method_5_5) rfl rfl k) ?_
  show own_Go p e below KK s₁ (mkF m 6 #[.val (.ref q1)] [(.ref q1)])
  refine own_at (fun t k => XS.iconst X0.here hx rfl (hb hby d_method_5_6) k) ?_
  show own_Go p e below KK s₁ (mkF m 7 #[.val (.ref q1)] [(.int 0), (.ref q1)])
  refine own_at (fun t k => XS.aloadN X0.here hx rfl (hb hby d_method_5_7) rfl rfl k) ?_
  show own_Go p e below KK s₁ (mkF m 8 #[.val (.ref q1)] [(.ref q1), (.int 0), (.ref q1)])
  refine own_at (fun t k => XS.iconst X0.here hx rfl (hb hby d_method_5_8) k) ?_
  show own_Go p e below KK s₁ (mkF m 9 #[.val (.ref q1)] [(.int 0), (.ref q1), (.int 0), (.ref q1)])
  refine own_at (fun t k => own_ldB X0 hx hZ e0 Aq (j := (0 : Int32)) (i := 0) (v := (.int (own_F_method_3 u (0 : Int32)))) (by decide) (by decide) rfl (g := (mkF m 9 #[.val (.ref q1)] [(.int 0), (.ref q1), (.int 0), (.ref q1)])) rfl rfl (hb hby d_method_5_9) t k) ?_
  show own_Go p e below KK s₁ (mkF m 10 #[.val (.ref q1)] [(.int (own_F_method_3 u (0 : Int32))), (.int 0), (.ref q1)])
  refine own_at (fun t k => XS.iconst X0.here hx rfl (hb hby d_method_5_10) k) ?_
  show own_Go p e below KK s₁ (mkF m 11 #[.val (.ref q1)] [(.int (-1 : Int32)), (.int (own_F_method_3 u (0 : Int32))), (.int 0), (.ref q1)])
  refine own_at (fun t k => XS.ixor X0.here hx rfl (hb hby d_method_5_11) rfl k) ?_
  show own_Go p e below KK s₁ (mkF m 12 #[.val (.ref q1)] [(.int ((own_F_method_3 u (0 : Int32)) ^^^ (-1 : Int32))), (.int 0), (.ref q1)])
  refine own_at (fun t k => XS.i2b X0.here hx rfl (hb hby d_method_5_12) rfl k) ?_
  show own_Go p e below KK s₁ (mkF m 13 #[.val (.ref q1)] [(.int (((own_F_method_3 u (0 : Int32)) ^^^ (-1 : Int32)).toInt8.toInt32)), (.int 0), (.ref q1)])
  obtain ⟨T1, h1, X1, e1, W1, V1, st1⟩ := own_stB X0 hx hZ e0 Aq (j := (0 : Int32)) (y := (((own_F_method_3 u (0 : Int32)) ^^^ (-1 : Int32)).toInt8.toInt32)) (own_narB _) (i := 0) (by decide) (by decide) (show (0 : Nat) < 5 from by decide) (g := (mkF m 13 #[.val (.ref q1)] [(.int (((own_F_method_3 u (0 : Int32)) ^^^ (-1 : Int32)).toInt8.toInt32)), (.int 0), (.ref q1)])) rfl rfl (hb hby d_method_5_13)
  have N1 := Fr.snoc X1 N0 gq
  have Zs1 : n0 ≤ h1.size := (by rw [W1.size]; exact Z0)
  have Kp1 : Keep h0 h1 [q1] := Kp0.wr W1 (Or.inl (by simp))
  have A2_q1 : own_A Z h1 q1 "[B" .byte [(.int (((own_F_method_3 u (0 : Int32)) ^^^ (-1 : Int32)).toInt8.toInt32)), (.int (own_F_method_3 u (1 : Int32))), (.int (own_F_method_3 u (2 : Int32))), (.int (own_F_method_3 u (3 : Int32))), (.int (own_F_method_3 u (4 : Int32)))] := V1
  refine own_of (fun t k => st1 t k) ?_
  show own_Go p e below KK T1 (mkF m 14 #[.val (.ref q1)] [])
  refine own_at (fun t k => XS.aloadN X1.here hx rfl (hb hby d_method_5_14) rfl rfl k) ?_
  show own_Go p e below KK T1 (mkF m 15 #[.val (.ref q1)] [(.ref q1)])
  refine own_at (fun t k => own_len X1 hx hZ e1 A2_q1 (N := (5 : Int32)) (show (5 : Nat).toInt32 = (5 : Int32) from by decide) (g := (mkF m 15 #[.val (.ref q1)] [(.ref q1)])) rfl rfl (hb hby d_method_5_15) t k) ?_
  show own_Go p e below KK T1 (mkF m 16 #[.val (.ref q1)] [(.int 5)])
  refine own_at (fun t k => XS.iconst X1.here hx rfl (hb hby d_method_5_16) k) ?_
  show own_Go p e below KK T1 (mkF m 17 #[.val (.ref q1)] [(.int 1), (.int 5)])
  have hc17 : (1 : Int32) < (5 : Int32) := by decide
  refine own_at (fun t k => XS.icmpNo X1.here hx rfl (hb hby d_method_5_17) rfl (Jvm.Free.XT.ii_le_f hc17) k) ?_
  show own_Go p e below KK T1 (mkF m 20 #[.val (.ref q1)] [])
  refine own_at (fun t k => XS.aloadN X1.here hx rfl (hb hby d_method_5_20) rfl rfl k) ?_
  show own_Go p e below KK T1 (mkF m 21 #[.val (.ref q1)] [(.ref q1)])
  refine own_at (fun t k => XS.iconst X1.here hx rfl (hb hby d_method_5_21) k) ?_
  show own_Go p e below KK T1 (mkF m 22 #[.val (.ref q1)] [(.int 1), (.ref q1)])
  refine own_at (fun t k => XS.aloadN X1.here hx rfl (hb hby d_method_5_22) rfl rfl k) ?_
  show own_Go p e below KK T1 (mkF m 23 #[.val (.ref q1)] [(.ref q1), (.int 1), (.ref q1)])
  refine own_at (fun t k => XS.iconst X1.here hx rfl (hb hby d_method_5_23) k) ?_
  show own_Go p e below KK T1 (mkF m 24 #[.val (.ref q1)] [(.int 1), (.ref q1), (.int 1), (.ref q1)])
  refine own_at (fun t k => own_ldB X1 hx hZ e1 A2_q1 (j := (1 : Int32)) (i := 1) (v := (.int (own_F_method_3 u (1 : Int32)))) (by decide) (by decide) rfl (g := (mkF m 24 #[.val (.ref q1)] [(.int 1), (.ref q1), (.int 1), (.ref q1)])) rfl rfl (hb hby d_method_5_24) t k) ?_
  show own_Go p e below KK T1 (mkF m 25 #[.val (.ref q1)] [(.int (own_F_method_3 u (1 : Int32))), (.int 1), (.ref q1)])
  refine own_at (fun t k => XS.iconst X1.here hx rfl (hb hby d_method_5_25) k) ?_
  show own_Go p e below KK T1 (mkF m 26 #[.val (.ref q1)] [(.int (-1 : Int32)), (.int (own_F_method_3 u (1 : Int32))), (.int 1), (.ref q1)])
  refine own_at (fun t k => XS.ixor X1.here hx rfl (hb hby d_method_5_26) rfl k) ?_
  show own_Go p e below KK T1 (mkF m 27 #[.val (.ref q1)] [(.int ((own_F_method_3 u (1 : Int32)) ^^^ (-1 : Int32))), (.int 1), (.ref q1)])
  refine own_at (fun t k => XS.i2b X1.here hx rfl (hb hby d_method_5_27) rfl k) ?_
  show own_Go p e below KK T1 (mkF m 28 #[.val (.ref q1)] [(.int (((own_F_method_3 u (1 : Int32)) ^^^ (-1 : Int32)).toInt8.toInt32)), (.int 1), (.ref q1)])
  obtain ⟨T3, h3, X3, e3, W3, V3, st3⟩ := own_stB X1 hx hZ e1 A2_q1 (j := (1 : Int32)) (y := (((own_F_method_3 u (1 : Int32)) ^^^ (-1 : Int32)).toInt8.toInt32)) (own_narB _) (i := 1) (by decide) (by decide) (show (1 : Nat) < 5 from by decide) (g := (mkF m 28 #[.val (.ref q1)] [(.int (((own_F_method_3 u (1 : Int32)) ^^^ (-1 : Int32)).toInt8.toInt32)), (.int 1), (.ref q1)])) rfl rfl (hb hby d_method_5_28)
  have N3 := Fr.snoc X3 N1 gq
  have Zs3 : n0 ≤ h3.size := (by rw [W3.size]; exact Zs1)
  have Kp3 : Keep h0 h3 [q1] := Kp1.wr W3 (Or.inl (by simp))
  have A4_q1 : own_A Z h3 q1 "[B" .byte [(.int (((own_F_method_3 u (0 : Int32)) ^^^ (-1 : Int32)).toInt8.toInt32)), (.int (((own_F_method_3 u (1 : Int32)) ^^^ (-1 : Int32)).toInt8.toInt32)), (.int (own_F_method_3 u (2 : Int32))), (.int (own_F_method_3 u (3 : Int32))), (.int (own_F_method_3 u (4 : Int32)))] := V3
  refine own_of (fun t k => st3 t k) ?_
  show own_Go p e below KK T3 (mkF m 29 #[.val (.ref q1)] [])
  refine own_at (fun t k => XS.aloadN X3.here hx rfl (hb hby d_method_5_29) rfl rfl k) ?_
  show own_Go p e below KK T3 (mkF m 30 #[.val (.ref q1)] [(.ref q1)])
  refine own_at (fun t k => own_len X3 hx hZ e3 A4_q1 (N := (5 : Int32)) (show (5 : Nat).toInt32 = (5 : Int32) from by decide) (g := (mkF m 30 #[.val (.ref q1)] [(.ref q1)])) rfl rfl (hb hby d_method_5_30) t k) ?_
  show own_Go p e below KK T3 (mkF m 31 #[.val (.ref q1)] [(.int 5)])
  refine own_at (fun t k => XS.iconst X3.here hx rfl (hb hby d_method_5_31) k) ?_
  show own_Go p e below KK T3 (mkF m 32 #[.val (.ref q1)] [(.int 2), (.int 5)])
  have hc32 : (2 : Int32) < (5 : Int32) := by decide
  refine own_at (fun t k => XS.icmpNo X3.here hx rfl (hb hby d_method_5_32) rfl (Jvm.Free.XT.ii_le_f hc32) k) ?_
  show own_Go p e below KK T3 (mkF m 35 #[.val (.ref q1)] [])
  refine own_at (fun t k => XS.aloadN X3.here hx rfl (hb hby d_method_5_35) rfl rfl k) ?_
  show own_Go p e below KK T3 (mkF m 36 #[.val (.ref q1)] [(.ref q1)])
  refine own_at (fun t k => XS.iconst X3.here hx rfl (hb hby d_method_5_36) k) ?_
  show own_Go p e below KK T3 (mkF m 37 #[.val (.ref q1)] [(.int 2), (.ref q1)])
  refine own_at (fun t k => XS.aloadN X3.here hx rfl (hb hby d_method_5_37) rfl rfl k) ?_
  show own_Go p e below KK T3 (mkF m 38 #[.val (.ref q1)] [(.ref q1), (.int 2), (.ref q1)])
  refine own_at (fun t k => XS.iconst X3.here hx rfl (hb hby d_method_5_38) k) ?_
  show own_Go p e below KK T3 (mkF m 39 #[.val (.ref q1)] [(.int 2), (.ref q1), (.int 2), (.ref q1)])
  refine own_at (fun t k => own_ldB X3 hx hZ e3 A4_q1 (j := (2 : Int32)) (i := 2) (v := (.int (own_F_method_3 u (2 : Int32)))) (by decide) (by decide) rfl (g := (mkF m 39 #[.val (.ref q1)] [(.int 2), (.ref q1), (.int 2), (.ref q1)])) rfl rfl (hb hby d_method_5_39) t k) ?_
  show own_Go p e below KK T3 (mkF m 40 #[.val (.ref q1)] [(.int (own_F_method_3 u (2 : Int32))), (.int 2), (.ref q1)])
  refine own_at (fun t k => XS.iconst X3.here hx rfl (hb hby d_method_5_40) k) ?_
  show own_Go p e below KK T3 (mkF m 41 #[.val (.ref q1)] [(.int (-1 : Int32)), (.int (own_F_method_3 u (2 : Int32))), (.int 2), (.ref q1)])
  refine own_at (fun t k => XS.ixor X3.here hx rfl (hb hby d_method_5_41) rfl k) ?_
  show own_Go p e below KK T3 (mkF m 42 #[.val (.ref q1)] [(.int ((own_F_method_3 u (2 : Int32)) ^^^ (-1 : Int32))), (.int 2), (.ref q1)])
  refine own_at (fun t k => XS.i2b X3.here hx rfl (hb hby d_method_5_42) rfl k) ?_
  show own_Go p e below KK T3 (mkF m 43 #[.val (.ref q1)] [(.int (((own_F_method_3 u (2 : Int32)) ^^^ (-1 : Int32)).toInt8.toInt32)), (.int 2), (.ref q1)])
  obtain ⟨T5, h5, X5, e5, W5, V5, st5⟩ := own_stB X3 hx hZ e3 A4_q1 (j := (2 : Int32)) (y := (((own_F_method_3 u (2 : Int32)) ^^^ (-1 : Int32)).toInt8.toInt32)) (own_narB _) (i := 2) (by decide) (by decide) (show (2 : Nat) < 5 from by decide) (g := (mkF m 43 #[.val (.ref q1)] [(.int (((own_F_method_3 u (2 : Int32)) ^^^ (-1 : Int32)).toInt8.toInt32)), (.int 2), (.ref q1)])) rfl rfl (hb hby d_method_5_43)
  have N5 := Fr.snoc X5 N3 gq
  have Zs5 : n0 ≤ h5.size := (by rw [W5.size]; exact Zs3)
  have Kp5 : Keep h0 h5 [q1] := Kp3.wr W5 (Or.inl (by simp))
  have A6_q1 : own_A Z h5 q1 "[B" .byte [(.int (((own_F_method_3 u (0 : Int32)) ^^^ (-1 : Int32)).toInt8.toInt32)), (.int (((own_F_method_3 u (1 : Int32)) ^^^ (-1 : Int32)).toInt8.toInt32)), (.int (((own_F_method_3 u (2 : Int32)) ^^^ (-1 : Int32)).toInt8.toInt32)), (.int (own_F_method_3 u (3 : Int32))), (.int (own_F_method_3 u (4 : Int32)))] := V5
  refine own_of (fun t k => st5 t k) ?_
  show own_Go p e below KK T5 (mkF m 44 #[.val (.ref q1)] [])
  refine own_at (fun t k => XS.aloadN X5.here hx rfl (hb hby d_method_5_44) rfl rfl k) ?_
  show own_Go p e below KK T5 (mkF m 45 #[.val (.ref q1)] [(.ref q1)])
  refine own_at (fun t k => own_len X5 hx hZ e5 A6_q1 (N := (5 : Int32)) (show (5 : Nat).toInt32 = (5 : Int32) from by decide) (g := (mkF m 45 #[.val (.ref q1)] [(.ref q1)])) rfl rfl (hb hby d_method_5_45) t k) ?_
  show own_Go p e below KK T5 (mkF m 46 #[.val (.ref q1)] [(.int 5)])
  refine own_at (fun t k => XS.iconst X5.here hx rfl (hb hby d_method_5_46) k) ?_
  show own_Go p e below KK T5 (mkF m 47 #[.val (.ref q1)] [(.int 3), (.int 5)])
  have hc47 : (3 : Int32) < (5 : Int32) := by decide
  refine own_at (fun t k => XS.icmpNo X5.here hx rfl (hb hby d_method_5_47) rfl (Jvm.Free.XT.ii_le_f hc47) k) ?_
  show own_Go p e below KK T5 (mkF m 50 #[.val (.ref q1)] [])
  refine own_at (fun t k => XS.aloadN X5.here hx rfl (hb hby d_method_5_50) rfl rfl k) ?_
  show own_Go p e below KK T5 (mkF m 51 #[.val (.ref q1)] [(.ref q1)])
  refine own_at (fun t k => XS.iconst X5.here hx rfl (hb hby d_method_5_51) k) ?_
  show own_Go p e below KK T5 (mkF m 52 #[.val (.ref q1)] [(.int 3), (.ref q1)])
  refine own_at (fun t k => XS.aloadN X5.here hx rfl (hb hby d_method_5_52) rfl rfl k) ?_
  show own_Go p e below KK T5 (mkF m 53 #[.val (.ref q1)] [(.ref q1), (.int 3), (.ref q1)])
  refine own_at (fun t k => XS.iconst X5.here hx rfl (hb hby d_method_5_53) k) ?_
  show own_Go p e below KK T5 (mkF m 54 #[.val (.ref q1)] [(.int 3), (.ref q1), (.int 3), (.ref q1)])
  refine own_at (fun t k => own_ldB X5 hx hZ e5 A6_q1 (j := (3 : Int32)) (i := 3) (v := (.int (own_F_method_3 u (3 : Int32)))) (by decide) (by decide) rfl (g := (mkF m 54 #[.val (.ref q1)] [(.int 3), (.ref q1), (.int 3), (.ref q1)])) rfl rfl (hb hby d_method_5_54) t k) ?_
  show own_Go p e below KK T5 (mkF m 55 #[.val (.ref q1)] [(.int (own_F_method_3 u (3 : Int32))), (.int 3), (.ref q1)])
  refine own_at (fun t k => XS.iconst X5.here hx rfl (hb hby d_method_5_55) k) ?_
  show own_Go p e below KK T5 (mkF m 56 #[.val (.ref q1)] [(.int (-1 : Int32)), (.int (own_F_method_3 u (3 : Int32))), (.int 3), (.ref q1)])
  refine own_at (fun t k => XS.ixor X5.here hx rfl (hb hby d_method_5_56) rfl k) ?_
  show own_Go p e below KK T5 (mkF m 57 #[.val (.ref q1)] [(.int ((own_F_method_3 u (3 : Int32)) ^^^ (-1 : Int32))), (.int 3), (.ref q1)])
  refine own_at (fun t k => XS.i2b X5.here hx rfl (hb hby d_method_5_57) rfl k) ?_
  show own_Go p e below KK T5 (mkF m 58 #[.val (.ref q1)] [(.int (((own_F_method_3 u (3 : Int32)) ^^^ (-1 : Int32)).toInt8.toInt32)), (.int 3), (.ref q1)])
  obtain ⟨T7, h7, X7, e7, W7, V7, st7⟩ := own_stB X5 hx hZ e5 A6_q1 (j := (3 : Int32)) (y := (((own_F_method_3 u (3 : Int32)) ^^^ (-1 : Int32)).toInt8.toInt32)) (own_narB _) (i := 3) (by decide) (by decide) (show (3 : Nat) < 5 from by decide) (g := (mkF m 58 #[.val (.ref q1)] [(.int (((own_F_method_3 u (3 : Int32)) ^^^ (-1 : Int32)).toInt8.toInt32)), (.int 3), (.ref q1)])) rfl rfl (hb hby d_method_5_58)
  have N7 := Fr.snoc X7 N5 gq
  have Zs7 : n0 ≤ h7.size := (by rw [W7.size]; exact Zs5)
  have Kp7 : Keep h0 h7 [q1] := Kp5.wr W7 (Or.inl (by simp))
  have A8_q1 : own_A Z h7 q1 "[B" .byte [(.int (((own_F_method_3 u (0 : Int32)) ^^^ (-1 : Int32)).toInt8.toInt32)), (.int (((own_F_method_3 u (1 : Int32)) ^^^ (-1 : Int32)).toInt8.toInt32)), (.int (((own_F_method_3 u (2 : Int32)) ^^^ (-1 : Int32)).toInt8.toInt32)), (.int (((own_F_method_3 u (3 : Int32)) ^^^ (-1 : Int32)).toInt8.toInt32)), (.int (own_F_method_3 u (4 : Int32)))] := V7
  refine own_of (fun t k => st7 t k) ?_
  show own_Go p e below KK T7 (mkF m 59 #[.val (.ref q1)] [])
  refine own_at (fun t k => XS.aloadN X7.here hx rfl (hb hby d_method_5_59) rfl rfl k) ?_
  show own_Go p e below KK T7 (mkF m 60 #[.val (.ref q1)] [(.ref q1)])
  refine own_at (fun t k => own_len X7 hx hZ e7 A8_q1 (N := (5 : Int32)) (show (5 : Nat).toInt32 = (5 : Int32) from by decide) (g := (mkF m 60 #[.val (.ref q1)] [(.ref q1)])) rfl rfl (hb hby d_method_5_60) t k) ?_
  show own_Go p e below KK T7 (mkF m 61 #[.val (.ref q1)] [(.int 5)])
  refine own_at (fun t k => XS.iconst X7.here hx rfl (hb hby d_method_5_61) k) ?_
  show own_Go p e below KK T7 (mkF m 62 #[.val (.ref q1)] [(.int 4), (.int 5)])
  have hc62 : (4 : Int32) < (5 : Int32) := by decide
  refine own_at (fun t k => XS.icmpNo X7.here hx rfl (hb hby d_method_5_62) rfl (Jvm.Free.XT.ii_le_f hc62) k) ?_
  show own_Go p e below KK T7 (mkF m 65 #[.val (.ref q1)] [])
  refine own_at (fun t k => XS.aloadN X7.here hx rfl (hb hby d_method_5_65) rfl rfl k) ?_
  show own_Go p e below KK T7 (mkF m 66 #[.val (.ref q1)] [(.ref q1)])
  refine own_at (fun t k => XS.iconst X7.here hx rfl (hb hby d_method_5_66) k) ?_
  show own_Go p e below KK T7 (mkF m 67 #[.val (.ref q1)] [(.int 4), (.ref q1)])
  refine own_at (fun t k => XS.aloadN X7.here hx rfl (hb hby d_method_5_67) rfl rfl k) ?_
  show own_Go p e below KK T7 (mkF m 68 #[.val (.ref q1)] [(.ref q1), (.int 4), (.ref q1)])
  refine own_at (fun t k => XS.iconst X7.here hx rfl (hb hby d_method_5_68) k) ?_
  show own_Go p e below KK T7 (mkF m 69 #[.val (.ref q1)] [(.int 4), (.ref q1), (.int 4), (.ref q1)])
  refine own_at (fun t k => own_ldB X7 hx hZ e7 A8_q1 (j := (4 : Int32)) (i := 4) (v := (.int (own_F_method_3 u (4 : Int32)))) (by decide) (by decide) rfl (g := (mkF m 69 #[.val (.ref q1)] [(.int 4), (.ref q1), (.int 4), (.ref q1)])) rfl rfl (hb hby d_method_5_69) t k) ?_
  show own_Go p e below KK T7 (mkF m 70 #[.val (.ref q1)] [(.int (own_F_method_3 u (4 : Int32))), (.int 4), (.ref q1)])
  refine own_at (fun t k => XS.iconst X7.here hx rfl (hb hby d_method_5_70) k) ?_
  show own_Go p e below KK T7 (mkF m 71 #[.val (.ref q1)] [(.int (-1 : Int32)), (.int (own_F_method_3 u (4 : Int32))), (.int 4), (.ref q1)])
  refine own_at (fun t k => XS.ixor X7.here hx rfl (hb hby d_method_5_71) rfl k) ?_
  show own_Go p e below KK T7 (mkF m 72 #[.val (.ref q1)] [(.int ((own_F_method_3 u (4 : Int32)) ^^^ (-1 : Int32))), (.int 4), (.ref q1)])
  refine own_at (fun t k => XS.i2b X7.here hx rfl (hb hby d_method_5_72) rfl k) ?_
  show own_Go p e below KK T7 (mkF m 73 #[.val (.ref q1)] [(.int (((own_F_method_3 u (4 : Int32)) ^^^ (-1 : Int32)).toInt8.toInt32)), (.int 4), (.ref q1)])
  obtain ⟨T9, h9, X9, e9, W9, V9, st9⟩ := own_stB X7 hx hZ e7 A8_q1 (j := (4 : Int32)) (y := (((own_F_method_3 u (4 : Int32)) ^^^ (-1 : Int32)).toInt8.toInt32)) (own_narB _) (i := 4) (by decide) (by decide) (show (4 : Nat) < 5 from by decide) (g := (mkF m 73 #[.val (.ref q1)] [(.int (((own_F_method_3 u (4 : Int32)) ^^^ (-1 : Int32)).toInt8.toInt32)), (.int 4), (.ref q1)])) rfl rfl (hb hby d_method_5_73)
  have N9 := Fr.snoc X9 N7 gq
  have Zs9 : n0 ≤ h9.size := (by rw [W9.size]; exact Zs7)
  have Kp9 : Keep h0 h9 [q1] := Kp7.wr W9 (Or.inl (by simp))
  have A10_q1 : own_A Z h9 q1 "[B" .byte [(.int (((own_F_method_3 u (0 : Int32)) ^^^ (-1 : Int32)).toInt8.toInt32)), (.int (((own_F_method_3 u (1 : Int32)) ^^^ (-1 : Int32)).toInt8.toInt32)), (.int (((own_F_method_3 u (2 : Int32)) ^^^ (-1 : Int32)).toInt8.toInt32)), (.int (((own_F_method_3 u (3 : Int32)) ^^^ (-1 : Int32)).toInt8.toInt32)), (.int (((own_F_method_3 u (4 : Int32)) ^^^ (-1 : Int32)).toInt8.toInt32))] := V9
  refine own_of (fun t k => st9 t k) ?_
  show own_Go p e below KK T9 (mkF m 74 #[.val (.ref q1)] [])
  refine own_at (fun t k => XS.aloadN X9.here hx rfl (hb hby d_method_5_74) rfl rfl k) ?_
  show own_Go p e below KK T9 (mkF m 75 #[.val (.ref q1)] [(.ref q1)])
  refine own_at (fun t k => own_len X9 hx hZ e9 A10_q1 (N := (5 : Int32)) (show (5 : Nat).toInt32 = (5 : Int32) from by decide) (g := (mkF m 75 #[.val (.ref q1)] [(.ref q1)])) rfl rfl (hb hby d_method_5_75) t k) ?_
  show own_Go p e below KK T9 (mkF m 76 #[.val (.ref q1)] [(.int 5)])
  refine own_at (fun t k => XS.iconst X9.here hx rfl (hb hby d_method_5_76) k) ?_
  show own_Go p e below KK T9 (mkF m 77 #[.val (.ref q1)] [(.int 5), (.int 5)])
  have hc77 : ¬ ((5 : Int32) < (5 : Int32)) := by decide
  refine own_at (fun t k => XS.icmpYes X9.here hx rfl (pc0 := 77) (pc' := 89) rfl (hb hby d_method_5_77) rfl (Jvm.Free.XT.ii_le_t hc77) (by decide) (by decide) k) ?_
  show own_Go p e below KK T9 (mkF m 89 #[.val (.ref q1)] [])
  refine own_at (fun t k => XS.aloadN X9.here hx rfl (hb hby d_method_5_89) rfl rfl k) ?_
  show own_Go p e below KK T9 (mkF m 90 #[.val (.ref q1)] [(.ref q1)])
  refine own_at (fun t k => own_len X9 hx hZ e9 A10_q1 (N := (5 : Int32)) (show (5 : Nat).toInt32 = (5 : Int32) from by decide) (g := (mkF m 90 #[.val (.ref q1)] [(.ref q1)])) rfl rfl (hb hby d_method_5_90) t k) ?_
  show own_Go p e below KK T9 (mkF m 91 #[.val (.ref q1)] [(.int 5)])
  refine own_at (fun t k => XS.bipush X9.here hx rfl (hb hby d_method_5_91) k) ?_
  show own_Go p e below KK T9 (mkF m 93 #[.val (.ref q1)] [(.int 6), (.int 5)])
  have hc93 : ¬ ((6 : Int32) < (5 : Int32)) := by decide
  refine own_at (fun t k => XS.icmpYes X9.here hx rfl (pc0 := 93) (pc' := 107) rfl (hb hby d_method_5_93) rfl (Jvm.Free.XT.ii_le_t hc93) (by decide) (by decide) k) ?_
  show own_Go p e below KK T9 (mkF m 107 #[.val (.ref q1)] [])
  subst hKK
  exact own_retV X9 hx hlk Bd.returns (hb hby d_method_5_107) ⟨rfl, N9, by rw [e9]; exact Kp9⟩ (Nat.le_of_ble_eq_true rfl) (Nat.le_of_ble_eq_true rfl)
theorem d_method_5_80 : decode method_5_code 80 = .ok (.aload_n 0, 1) := by decide +kernel
theorem d_method_5_81 : decode method_5_code 81 = .ok (.iconst 5, 1) := by decide +kernel
theorem d_method_5_82 : decode method_5_code 82 = .ok (.aload_n 0, 1) := by decide +kernel
theorem d_method_5_83 : decode method_5_code 83 = .ok (.iconst 5, 1) := by decide +kernel
theorem d_method_5_84 : decode method_5_code 84 = .ok (.baload, 1) := by decide +kernel
theorem d_method_5_85 : decode method_5_code 85 = .ok (.iconst (-1), 1) := by decide +kernel
theorem d_method_5_86 : decode method_5_code 86 = .ok (.ixor, 1) := by decide +kernel
theorem d_method_5_87 : decode method_5_code 87 = .ok (.i2b, 1) := by decide +kernel
theorem d_method_5_88 : decode method_5_code 88 = .ok (.bastore, 1) := by decide +kernel
set_option maxRecDepth 65536 in
set_option maxHeartbeats 40000000 in
theorem rm_flip6 (l : Launch) (Z : State) (a0 : Array Value) (hw : ∀ d ∈ tables_1, d.before a0 Z = true) (ws : List Jvm.Cond) (q1 : Addr) (u : Int64) (h0 : Heap) (n0 : Nat) (Z0 : n0 ≤ h0.size) (Aq : own_A Z h0 q1 "[B" .byte [(.int (own_F_method_3 u (0 : Int32))), (.int (own_F_method_3 u (1 : Int32))), (.int (own_F_method_3 u (2 : Int32))), (.int (own_F_method_3 u (3 : Int32))), (.int (own_F_method_3 u (4 : Int32))), (.int (own_F_method_3 u (5 : Int32)))]) (gq : n0 ≤ q1) :
    MetFree l (⟨"com/example/isimud/isimud/oscore/OscoreOptionOfRequestPinLaw", "flip", "([B)V"⟩ : MethodName) (head1 (Jvm.Cond.code (⟨"com/example/isimud/isimud/oscore/OscoreOptionOfRequestPinLaw", "flip", "([B)V"⟩ : MethodName) method_5_code 1 none :: ws) ({ frames := 0, cells := 0, slots := 0, locals := 0 } : Room)) (fun a U => a = #[(.ref q1)] ∧ Z.Warmed39 U.vm ∧ U.heap = h0) (fun _ _ _ _ _ => True) (fun _ U o U' => ∃ v L, o = .returned v ∧ own_Qv q1 h0 n0 v U'.heap L ∧ FrameEnd U o U' L ({ frames := 0, cells := 0, slots := 0, locals := 0 } : Room).cells ({ frames := 0, cells := 0, slots := 0, locals := 0 } : Room).slots) := by
  refine MetFree.of_bodySF (plainFor_of_name pn_com_example_isimud_isimud_oscore_OscoreOptionOfRequestPinLaw) hisR ?_
  intro p e s m args below meth c s₁ Bd hml0 hP hK
  obtain ⟨rfl, hZ, hh⟩ := hP
  have hx := Bd.exec
  have hby := Bd.bytes
  have hlk : meth.locks = false := BodyLoose.notSynchronized Bd
  have hml : c.maxLocals = 1 := hml0
  have hown : s.vm.findClass "com/example/isimud/isimud/oscore/OscoreOptionOfRequestPinLaw" = some m.cls := findClass_of_methodNamed Bd.named
  have hnm := (name_of_methodNamed Bd.named Bd.method).1
  have X0 : Stand p l e ({ frames := 0, cells := 0, slots := 0, locals := 0 } : Room) s m #[(.ref q1)] below meth c s₁ [] 0 0 := Stand.of_body Bd
  have e0 : s₁.heap = h0 := by rw [← hh, Bd.state]; rfl
  have N0 := Fr.nil n0
  refine own_cast (K := own_K s (own_Qv q1 h0 n0) 0 0) (ef_method_5 m q1) ?_
  generalize hKK : own_K s (own_Qv q1 h0 n0) 0 0 = KK
  show own_Go p e below KK s₁ (mkF m 0 #[.val (.ref q1)] [])
  have Kp0 : Keep h0 h0 [q1] := Keep.refl _ _
  refine own_at (fun t k => XS.aloadN X0.here hx rfl (hb hby d_method_5_0) rfl rfl k) ?_
  show own_Go p e below KK s₁ (mkF m 1 #[.val (.ref q1)] [(.ref q1)])
  refine own_at (fun t k => own_len X0 hx hZ e0 Aq (N := (6 : Int32)) (show (6 : Nat).toInt32 = (6 : Int32) from by decide) (g := (mkF m 1 #[.val (.ref q1)] [(.ref q1)])) rfl rfl (hb hby d_method_5_1) t k) ?_
  show own_Go p e below KK s₁ (mkF m 2 #[.val (.ref q1)] [(.int 6)])
  have hc2 : (0 : Int32) < (6 : Int32) := by decide
  refine own_at (fun t k => XS.ifNo X0.here hx rfl (hb hby d_method_5_2) rfl (Jvm.Free.XT.i0_le_f hc2) k) ?_
  show own_Go p e below KK s₁ (mkF m 5 #[.val (.ref q1)] [])
  refine own_at (fun t k => XS.aloadN X0.here hx rfl (hb hby d_method_5_5) rfl rfl k) ?_
  show own_Go p e below KK s₁ (mkF m 6 #[.val (.ref q1)] [(.ref q1)])
  refine own_at (fun t k => XS.iconst X0.here hx rfl (hb hby d_method_5_6) k) ?_
  show own_Go p e below KK s₁ (mkF m 7 #[.val (.ref q1)] [(.int 0), (.ref q1)])
  refine own_at (fun t k => XS.aloadN X0.here hx rfl (hb hby d_method_5_7) rfl rfl k) ?_
  show own_Go p e below KK s₁ (mkF m 8 #[.val (.ref q1)] [(.ref q1), (.int 0), (.ref q1)])
  refine own_at (fun t k => XS.iconst X0.here hx rfl (hb hby d_method_5_8) k) ?_
  show own_Go p e below KK s₁ (mkF m 9 #[.val (.ref q1)] [(.int 0), (.ref q1), (.int 0), (.ref q1)])
  refine own_at (fun t k => own_ldB X0 hx hZ e0 Aq (j := (0 : Int32)) (i := 0) (v := (.int (own_F_method_3 u (0 : Int32)))) (by decide) (by decide) rfl (g := (mkF m 9 #[.val (.ref q1)] [(.int 0), (.ref q1), (.int 0), (.ref q1)])) rfl rfl (hb hby d_method_5_9) t k) ?_
  show own_Go p e below KK s₁ (mkF m 10 #[.val (.ref q1)] [(.int (own_F_method_3 u (0 : Int32))), (.int 0), (.ref q1)])
  refine own_at (fun t k => XS.iconst X0.here hx rfl (hb hby d_method_5_10) k) ?_
  show own_Go p e below KK s₁ (mkF m 11 #[.val (.ref q1)] [(.int (-1 : Int32)), (.int (own_F_method_3 u (0 : Int32))), (.int 0), (.ref q1)])
  refine own_at (fun t k => XS.ixor X0.here hx rfl (hb hby d_method_5_11) rfl k) ?_
  show own_Go p e below KK s₁ (mkF m 12 #[.val (.ref q1)] [(.int ((own_F_method_3 u (0 : Int32)) ^^^ (-1 : Int32))), (.int 0), (.ref q1)])
  refine own_at (fun t k => XS.i2b X0.here hx rfl (hb hby d_method_5_12) rfl k) ?_
  show own_Go p e below KK s₁ (mkF m 13 #[.val (.ref q1)] [(.int (((own_F_method_3 u (0 : Int32)) ^^^ (-1 : Int32)).toInt8.toInt32)), (.int 0), (.ref q1)])
  obtain ⟨T1, h1, X1, e1, W1, V1, st1⟩ := own_stB X0 hx hZ e0 Aq (j := (0 : Int32)) (y := (((own_F_method_3 u (0 : Int32)) ^^^ (-1 : Int32)).toInt8.toInt32)) (own_narB _) (i := 0) (by decide) (by decide) (show (0 : Nat) < 6 from by decide) (g := (mkF m 13 #[.val (.ref q1)] [(.int (((own_F_method_3 u (0 : Int32)) ^^^ (-1 : Int32)).toInt8.toInt32)), (.int 0), (.ref q1)])) rfl rfl (hb hby d_method_5_13)
  have N1 := Fr.snoc X1 N0 gq
  have Zs1 : n0 ≤ h1.size := (by rw [W1.size]; exact Z0)
  have Kp1 : Keep h0 h1 [q1] := Kp0.wr W1 (Or.inl (by simp))
  have A2_q1 : own_A Z h1 q1 "[B" .byte [(.int (((own_F_method_3 u (0 : Int32)) ^^^ (-1 : Int32)).toInt8.toInt32)), (.int (own_F_method_3 u (1 : Int32))), (.int (own_F_method_3 u (2 : Int32))), (.int (own_F_method_3 u (3 : Int32))), (.int (own_F_method_3 u (4 : Int32))), (.int (own_F_method_3 u (5 : Int32)))] := V1
  refine own_of (fun t k => st1 t k) ?_
  show own_Go p e below KK T1 (mkF m 14 #[.val (.ref q1)] [])
  refine own_at (fun t k => XS.aloadN X1.here hx rfl (hb hby d_method_5_14) rfl rfl k) ?_
  show own_Go p e below KK T1 (mkF m 15 #[.val (.ref q1)] [(.ref q1)])
  refine own_at (fun t k => own_len X1 hx hZ e1 A2_q1 (N := (6 : Int32)) (show (6 : Nat).toInt32 = (6 : Int32) from by decide) (g := (mkF m 15 #[.val (.ref q1)] [(.ref q1)])) rfl rfl (hb hby d_method_5_15) t k) ?_
  show own_Go p e below KK T1 (mkF m 16 #[.val (.ref q1)] [(.int 6)])
  refine own_at (fun t k => XS.iconst X1.here hx rfl (hb hby d_method_5_16) k) ?_
  show own_Go p e below KK T1 (mkF m 17 #[.val (.ref q1)] [(.int 1), (.int 6)])
  have hc17 : (1 : Int32) < (6 : Int32) := by decide
  refine own_at (fun t k => XS.icmpNo X1.here hx rfl (hb hby d_method_5_17) rfl (Jvm.Free.XT.ii_le_f hc17) k) ?_
  show own_Go p e below KK T1 (mkF m 20 #[.val (.ref q1)] [])
  refine own_at (fun t k => XS.aloadN X1.here hx rfl (hb hby d_method_5_20) rfl rfl k) ?_
  show own_Go p e below KK T1 (mkF m 21 #[.val (.ref q1)] [(.ref q1)])
  refine own_at (fun t k => XS.iconst X1.here hx rfl (hb hby d_method_5_21) k) ?_
  show own_Go p e below KK T1 (mkF m 22 #[.val (.ref q1)] [(.int 1), (.ref q1)])
  refine own_at (fun t k => XS.aloadN X1.here hx rfl (hb hby d_method_5_22) rfl rfl k) ?_
  show own_Go p e below KK T1 (mkF m 23 #[.val (.ref q1)] [(.ref q1), (.int 1), (.ref q1)])
  refine own_at (fun t k => XS.iconst X1.here hx rfl (hb hby d_method_5_23) k) ?_
  show own_Go p e below KK T1 (mkF m 24 #[.val (.ref q1)] [(.int 1), (.ref q1), (.int 1), (.ref q1)])
  refine own_at (fun t k => own_ldB X1 hx hZ e1 A2_q1 (j := (1 : Int32)) (i := 1) (v := (.int (own_F_method_3 u (1 : Int32)))) (by decide) (by decide) rfl (g := (mkF m 24 #[.val (.ref q1)] [(.int 1), (.ref q1), (.int 1), (.ref q1)])) rfl rfl (hb hby d_method_5_24) t k) ?_
  show own_Go p e below KK T1 (mkF m 25 #[.val (.ref q1)] [(.int (own_F_method_3 u (1 : Int32))), (.int 1), (.ref q1)])
  refine own_at (fun t k => XS.iconst X1.here hx rfl (hb hby d_method_5_25) k) ?_
  show own_Go p e below KK T1 (mkF m 26 #[.val (.ref q1)] [(.int (-1 : Int32)), (.int (own_F_method_3 u (1 : Int32))), (.int 1), (.ref q1)])
  refine own_at (fun t k => XS.ixor X1.here hx rfl (hb hby d_method_5_26) rfl k) ?_
  show own_Go p e below KK T1 (mkF m 27 #[.val (.ref q1)] [(.int ((own_F_method_3 u (1 : Int32)) ^^^ (-1 : Int32))), (.int 1), (.ref q1)])
  refine own_at (fun t k => XS.i2b X1.here hx rfl (hb hby d_method_5_27) rfl k) ?_
  show own_Go p e below KK T1 (mkF m 28 #[.val (.ref q1)] [(.int (((own_F_method_3 u (1 : Int32)) ^^^ (-1 : Int32)).toInt8.toInt32)), (.int 1), (.ref q1)])
  obtain ⟨T3, h3, X3, e3, W3, V3, st3⟩ := own_stB X1 hx hZ e1 A2_q1 (j := (1 : Int32)) (y := (((own_F_method_3 u (1 : Int32)) ^^^ (-1 : Int32)).toInt8.toInt32)) (own_narB _) (i := 1) (by decide) (by decide) (show (1 : Nat) < 6 from by decide) (g := (mkF m 28 #[.val (.ref q1)] [(.int (((own_F_method_3 u (1 : Int32)) ^^^ (-1 : Int32)).toInt8.toInt32)), (.int 1), (.ref q1)])) rfl rfl (hb hby d_method_5_28)
  have N3 := Fr.snoc X3 N1 gq
  have Zs3 : n0 ≤ h3.size := (by rw [W3.size]; exact Zs1)
  have Kp3 : Keep h0 h3 [q1] := Kp1.wr W3 (Or.inl (by simp))
  have A4_q1 : own_A Z h3 q1 "[B" .byte [(.int (((own_F_method_3 u (0 : Int32)) ^^^ (-1 : Int32)).toInt8.toInt32)), (.int (((own_F_method_3 u (1 : Int32)) ^^^ (-1 : Int32)).toInt8.toInt32)), (.int (own_F_method_3 u (2 : Int32))), (.int (own_F_method_3 u (3 : Int32))), (.int (own_F_method_3 u (4 : Int32))), (.int (own_F_method_3 u (5 : Int32)))] := V3
  refine own_of (fun t k => st3 t k) ?_
  show own_Go p e below KK T3 (mkF m 29 #[.val (.ref q1)] [])
  refine own_at (fun t k => XS.aloadN X3.here hx rfl (hb hby d_method_5_29) rfl rfl k) ?_
  show own_Go p e below KK T3 (mkF m 30 #[.val (.ref q1)] [(.ref q1)])
  refine own_at (fun t k => own_len X3 hx hZ e3 A4_q1 (N := (6 : Int32)) (show (6 : Nat).toInt32 = (6 : Int32) from by decide) (g := (mkF m 30 #[.val (.ref q1)] [(.ref q1)])) rfl rfl (hb hby d_method_5_30) t k) ?_
  show own_Go p e below KK T3 (mkF m 31 #[.val (.ref q1)] [(.int 6)])
  refine own_at (fun t k => XS.iconst X3.here hx rfl (hb hby d_method_5_31) k) ?_
  show own_Go p e below KK T3 (mkF m 32 #[.val (.ref q1)] [(.int 2), (.int 6)])
  have hc32 : (2 : Int32) < (6 : Int32) := by decide
  refine own_at (fun t k => XS.icmpNo X3.here hx rfl (hb hby d_method_5_32) rfl (Jvm.Free.XT.ii_le_f hc32) k) ?_
  show own_Go p e below KK T3 (mkF m 35 #[.val (.ref q1)] [])
  refine own_at (fun t k => XS.aloadN X3.here hx rfl (hb hby d_method_5_35) rfl rfl k) ?_
  show own_Go p e below KK T3 (mkF m 36 #[.val (.ref q1)] [(.ref q1)])
  refine own_at (fun t k => XS.iconst X3.here hx rfl (hb hby d_method_5_36) k) ?_
  show own_Go p e below KK T3 (mkF m 37 #[.val (.ref q1)] [(.int 2), (.ref q1)])
  refine own_at (fun t k => XS.aloadN X3.here hx rfl (hb hby d_method_5_37) rfl rfl k) ?_
  show own_Go p e below KK T3 (mkF m 38 #[.val (.ref q1)] [(.ref q1), (.int 2), (.ref q1)])
  refine own_at (fun t k => XS.iconst X3.here hx rfl (hb hby d_method_5_38) k) ?_
  show own_Go p e below KK T3 (mkF m 39 #[.val (.ref q1)] [(.int 2), (.ref q1), (.int 2), (.ref q1)])
  refine own_at (fun t k => own_ldB X3 hx hZ e3 A4_q1 (j := (2 : Int32)) (i := 2) (v := (.int (own_F_method_3 u (2 : Int32)))) (by decide) (by decide) rfl (g := (mkF m 39 #[.val (.ref q1)] [(.int 2), (.ref q1), (.int 2), (.ref q1)])) rfl rfl (hb hby d_method_5_39) t k) ?_
  show own_Go p e below KK T3 (mkF m 40 #[.val (.ref q1)] [(.int (own_F_method_3 u (2 : Int32))), (.int 2), (.ref q1)])
  refine own_at (fun t k => XS.iconst X3.here hx rfl (hb hby d_method_5_40) k) ?_
  show own_Go p e below KK T3 (mkF m 41 #[.val (.ref q1)] [(.int (-1 : Int32)), (.int (own_F_method_3 u (2 : Int32))), (.int 2), (.ref q1)])
  refine own_at (fun t k => XS.ixor X3.here hx rfl (hb hby d_method_5_41) rfl k) ?_
  show own_Go p e below KK T3 (mkF m 42 #[.val (.ref q1)] [(.int ((own_F_method_3 u (2 : Int32)) ^^^ (-1 : Int32))), (.int 2), (.ref q1)])
  refine own_at (fun t k => XS.i2b X3.here hx rfl (hb hby d_method_5_42) rfl k) ?_
  show own_Go p e below KK T3 (mkF m 43 #[.val (.ref q1)] [(.int (((own_F_method_3 u (2 : Int32)) ^^^ (-1 : Int32)).toInt8.toInt32)), (.int 2), (.ref q1)])
  obtain ⟨T5, h5, X5, e5, W5, V5, st5⟩ := own_stB X3 hx hZ e3 A4_q1 (j := (2 : Int32)) (y := (((own_F_method_3 u (2 : Int32)) ^^^ (-1 : Int32)).toInt8.toInt32)) (own_narB _) (i := 2) (by decide) (by decide) (show (2 : Nat) < 6 from by decide) (g := (mkF m 43 #[.val (.ref q1)] [(.int (((own_F_method_3 u (2 : Int32)) ^^^ (-1 : Int32)).toInt8.toInt32)), (.int 2), (.ref q1)])) rfl rfl (hb hby d_method_5_43)
  have N5 := Fr.snoc X5 N3 gq
  have Zs5 : n0 ≤ h5.size := (by rw [W5.size]; exact Zs3)
  have Kp5 : Keep h0 h5 [q1] := Kp3.wr W5 (Or.inl (by simp))
  have A6_q1 : own_A Z h5 q1 "[B" .byte [(.int (((own_F_method_3 u (0 : Int32)) ^^^ (-1 : Int32)).toInt8.toInt32)), (.int (((own_F_method_3 u (1 : Int32)) ^^^ (-1 : Int32)).toInt8.toInt32)), (.int (((own_F_method_3 u (2 : Int32)) ^^^ (-1 : Int32)).toInt8.toInt32)), (.int (own_F_method_3 u (3 : Int32))), (.int (own_F_method_3 u (4 : Int32))), (.int (own_F_method_3 u (5 : Int32)))] := V5
  refine own_of (fun t k => st5 t k) ?_
  show own_Go p e below KK T5 (mkF m 44 #[.val (.ref q1)] [])
  refine own_at (fun t k => XS.aloadN X5.here hx rfl (hb hby d_method_5_44) rfl rfl k) ?_
  show own_Go p e below KK T5 (mkF m 45 #[.val (.ref q1)] [(.ref q1)])
  refine own_at (fun t k => own_len X5 hx hZ e5 A6_q1 (N := (6 : Int32)) (show (6 : Nat).toInt32 = (6 : Int32) from by decide) (g := (mkF m 45 #[.val (.ref q1)] [(.ref q1)])) rfl rfl (hb hby d_method_5_45) t k) ?_
  show own_Go p e below KK T5 (mkF m 46 #[.val (.ref q1)] [(.int 6)])
  refine own_at (fun t k => XS.iconst X5.here hx rfl (hb hby d_method_5_46) k) ?_
  show own_Go p e below KK T5 (mkF m 47 #[.val (.ref q1)] [(.int 3), (.int 6)])
  have hc47 : (3 : Int32) < (6 : Int32) := by decide
  refine own_at (fun t k => XS.icmpNo X5.here hx rfl (hb hby d_method_5_47) rfl (Jvm.Free.XT.ii_le_f hc47) k) ?_
  show own_Go p e below KK T5 (mkF m 50 #[.val (.ref q1)] [])
  refine own_at (fun t k => XS.aloadN X5.here hx rfl (hb hby d_method_5_50) rfl rfl k) ?_
  show own_Go p e below KK T5 (mkF m 51 #[.val (.ref q1)] [(.ref q1)])
  refine own_at (fun t k => XS.iconst X5.here hx rfl (hb hby d_method_5_51) k) ?_
  show own_Go p e below KK T5 (mkF m 52 #[.val (.ref q1)] [(.int 3), (.ref q1)])
  refine own_at (fun t k => XS.aloadN X5.here hx rfl (hb hby d_method_5_52) rfl rfl k) ?_
  show own_Go p e below KK T5 (mkF m 53 #[.val (.ref q1)] [(.ref q1), (.int 3), (.ref q1)])
  refine own_at (fun t k => XS.iconst X5.here hx rfl (hb hby d_method_5_53) k) ?_
  show own_Go p e below KK T5 (mkF m 54 #[.val (.ref q1)] [(.int 3), (.ref q1), (.int 3), (.ref q1)])
  refine own_at (fun t k => own_ldB X5 hx hZ e5 A6_q1 (j := (3 : Int32)) (i := 3) (v := (.int (own_F_method_3 u (3 : Int32)))) (by decide) (by decide) rfl (g := (mkF m 54 #[.val (.ref q1)] [(.int 3), (.ref q1), (.int 3), (.ref q1)])) rfl rfl (hb hby d_method_5_54) t k) ?_
  show own_Go p e below KK T5 (mkF m 55 #[.val (.ref q1)] [(.int (own_F_method_3 u (3 : Int32))), (.int 3), (.ref q1)])
  refine own_at (fun t k => XS.iconst X5.here hx rfl (hb hby d_method_5_55) k) ?_
  show own_Go p e below KK T5 (mkF m 56 #[.val (.ref q1)] [(.int (-1 : Int32)), (.int (own_F_method_3 u (3 : Int32))), (.int 3), (.ref q1)])
  refine own_at (fun t k => XS.ixor X5.here hx rfl (hb hby d_method_5_56) rfl k) ?_
  show own_Go p e below KK T5 (mkF m 57 #[.val (.ref q1)] [(.int ((own_F_method_3 u (3 : Int32)) ^^^ (-1 : Int32))), (.int 3), (.ref q1)])
  refine own_at (fun t k => XS.i2b X5.here hx rfl (hb hby d_method_5_57) rfl k) ?_
  show own_Go p e below KK T5 (mkF m 58 #[.val (.ref q1)] [(.int (((own_F_method_3 u (3 : Int32)) ^^^ (-1 : Int32)).toInt8.toInt32)), (.int 3), (.ref q1)])
  obtain ⟨T7, h7, X7, e7, W7, V7, st7⟩ := own_stB X5 hx hZ e5 A6_q1 (j := (3 : Int32)) (y := (((own_F_method_3 u (3 : Int32)) ^^^ (-1 : Int32)).toInt8.toInt32)) (own_narB _) (i := 3) (by decide) (by decide) (show (3 : Nat) < 6 from by decide) (g := (mkF m 58 #[.val (.ref q1)] [(.int (((own_F_method_3 u (3 : Int32)) ^^^ (-1 : Int32)).toInt8.toInt32)), (.int 3), (.ref q1)])) rfl rfl (hb hby d_method_5_58)
  have N7 := Fr.snoc X7 N5 gq
  have Zs7 : n0 ≤ h7.size := (by rw [W7.size]; exact Zs5)
  have Kp7 : Keep h0 h7 [q1] := Kp5.wr W7 (Or.inl (by simp))
  have A8_q1 : own_A Z h7 q1 "[B" .byte [(.int (((own_F_method_3 u (0 : Int32)) ^^^ (-1 : Int32)).toInt8.toInt32)), (.int (((own_F_method_3 u (1 : Int32)) ^^^ (-1 : Int32)).toInt8.toInt32)), (.int (((own_F_method_3 u (2 : Int32)) ^^^ (-1 : Int32)).toInt8.toInt32)), (.int (((own_F_method_3 u (3 : Int32)) ^^^ (-1 : Int32)).toInt8.toInt32)), (.int (own_F_method_3 u (4 : Int32))), (.int (own_F_method_3 u (5 : Int32)))] := V7
  refine own_of (fun t k => st7 t k) ?_
  show own_Go p e below KK T7 (mkF m 59 #[.val (.ref q1)] [])
  refine own_at (fun t k => XS.aloadN X7.here hx rfl (hb hby d_method_5_59) rfl rfl k) ?_
  show own_Go p e below KK T7 (mkF m 60 #[.val (.ref q1)] [(.ref q1)])
  refine own_at (fun t k => own_len X7 hx hZ e7 A8_q1 (N := (6 : Int32)) (show (6 : Nat).toInt32 = (6 : Int32) from by decide) (g := (mkF m 60 #[.val (.ref q1)] [(.ref q1)])) rfl rfl (hb hby d_method_5_60) t k) ?_
  show own_Go p e below KK T7 (mkF m 61 #[.val (.ref q1)] [(.int 6)])
  refine own_at (fun t k => XS.iconst X7.here hx rfl (hb hby d_method_5_61) k) ?_
  show own_Go p e below KK T7 (mkF m 62 #[.val (.ref q1)] [(.int 4), (.int 6)])
  have hc62 : (4 : Int32) < (6 : Int32) := by decide
  refine own_at (fun t k => XS.icmpNo X7.here hx rfl (hb hby d_method_5_62) rfl (Jvm.Free.XT.ii_le_f hc62) k) ?_
  show own_Go p e below KK T7 (mkF m 65 #[.val (.ref q1)] [])
  refine own_at (fun t k => XS.aloadN X7.here hx rfl (hb hby d_method_5_65) rfl rfl k) ?_
  show own_Go p e below KK T7 (mkF m 66 #[.val (.ref q1)] [(.ref q1)])
  refine own_at (fun t k => XS.iconst X7.here hx rfl (hb hby d_method_5_66) k) ?_
  show own_Go p e below KK T7 (mkF m 67 #[.val (.ref q1)] [(.int 4), (.ref q1)])
  refine own_at (fun t k => XS.aloadN X7.here hx rfl (hb hby d_method_5_67) rfl rfl k) ?_
  show own_Go p e below KK T7 (mkF m 68 #[.val (.ref q1)] [(.ref q1), (.int 4), (.ref q1)])
  refine own_at (fun t k => XS.iconst X7.here hx rfl (hb hby d_method_5_68) k) ?_
  show own_Go p e below KK T7 (mkF m 69 #[.val (.ref q1)] [(.int 4), (.ref q1), (.int 4), (.ref q1)])
  refine own_at (fun t k => own_ldB X7 hx hZ e7 A8_q1 (j := (4 : Int32)) (i := 4) (v := (.int (own_F_method_3 u (4 : Int32)))) (by decide) (by decide) rfl (g := (mkF m 69 #[.val (.ref q1)] [(.int 4), (.ref q1), (.int 4), (.ref q1)])) rfl rfl (hb hby d_method_5_69) t k) ?_
  show own_Go p e below KK T7 (mkF m 70 #[.val (.ref q1)] [(.int (own_F_method_3 u (4 : Int32))), (.int 4), (.ref q1)])
  refine own_at (fun t k => XS.iconst X7.here hx rfl (hb hby d_method_5_70) k) ?_
  show own_Go p e below KK T7 (mkF m 71 #[.val (.ref q1)] [(.int (-1 : Int32)), (.int (own_F_method_3 u (4 : Int32))), (.int 4), (.ref q1)])
  refine own_at (fun t k => XS.ixor X7.here hx rfl (hb hby d_method_5_71) rfl k) ?_
  show own_Go p e below KK T7 (mkF m 72 #[.val (.ref q1)] [(.int ((own_F_method_3 u (4 : Int32)) ^^^ (-1 : Int32))), (.int 4), (.ref q1)])
  refine own_at (fun t k => XS.i2b X7.here hx rfl (hb hby d_method_5_72) rfl k) ?_
  show own_Go p e below KK T7 (mkF m 73 #[.val (.ref q1)] [(.int (((own_F_method_3 u (4 : Int32)) ^^^ (-1 : Int32)).toInt8.toInt32)), (.int 4), (.ref q1)])
  obtain ⟨T9, h9, X9, e9, W9, V9, st9⟩ := own_stB X7 hx hZ e7 A8_q1 (j := (4 : Int32)) (y := (((own_F_method_3 u (4 : Int32)) ^^^ (-1 : Int32)).toInt8.toInt32)) (own_narB _) (i := 4) (by decide) (by decide) (show (4 : Nat) < 6 from by decide) (g := (mkF m 73 #[.val (.ref q1)] [(.int (((own_F_method_3 u (4 : Int32)) ^^^ (-1 : Int32)).toInt8.toInt32)), (.int 4), (.ref q1)])) rfl rfl (hb hby d_method_5_73)
  have N9 := Fr.snoc X9 N7 gq
  have Zs9 : n0 ≤ h9.size := (by rw [W9.size]; exact Zs7)
  have Kp9 : Keep h0 h9 [q1] := Kp7.wr W9 (Or.inl (by simp))
  have A10_q1 : own_A Z h9 q1 "[B" .byte [(.int (((own_F_method_3 u (0 : Int32)) ^^^ (-1 : Int32)).toInt8.toInt32)), (.int (((own_F_method_3 u (1 : Int32)) ^^^ (-1 : Int32)).toInt8.toInt32)), (.int (((own_F_method_3 u (2 : Int32)) ^^^ (-1 : Int32)).toInt8.toInt32)), (.int (((own_F_method_3 u (3 : Int32)) ^^^ (-1 : Int32)).toInt8.toInt32)), (.int (((own_F_method_3 u (4 : Int32)) ^^^ (-1 : Int32)).toInt8.toInt32)), (.int (own_F_method_3 u (5 : Int32)))] := V9
  refine own_of (fun t k => st9 t k) ?_
  show own_Go p e below KK T9 (mkF m 74 #[.val (.ref q1)] [])
  refine own_at (fun t k => XS.aloadN X9.here hx rfl (hb hby d_method_5_74) rfl rfl k) ?_
  show own_Go p e below KK T9 (mkF m 75 #[.val (.ref q1)] [(.ref q1)])
  refine own_at (fun t k => own_len X9 hx hZ e9 A10_q1 (N := (6 : Int32)) (show (6 : Nat).toInt32 = (6 : Int32) from by decide) (g := (mkF m 75 #[.val (.ref q1)] [(.ref q1)])) rfl rfl (hb hby d_method_5_75) t k) ?_
  show own_Go p e below KK T9 (mkF m 76 #[.val (.ref q1)] [(.int 6)])
  refine own_at (fun t k => XS.iconst X9.here hx rfl (hb hby d_method_5_76) k) ?_
  show own_Go p e below KK T9 (mkF m 77 #[.val (.ref q1)] [(.int 5), (.int 6)])
  have hc77 : (5 : Int32) < (6 : Int32) := by decide
  refine own_at (fun t k => XS.icmpNo X9.here hx rfl (hb hby d_method_5_77) rfl (Jvm.Free.XT.ii_le_f hc77) k) ?_
  show own_Go p e below KK T9 (mkF m 80 #[.val (.ref q1)] [])
  refine own_at (fun t k => XS.aloadN X9.here hx rfl (hb hby d_method_5_80) rfl rfl k) ?_
  show own_Go p e below KK T9 (mkF m 81 #[.val (.ref q1)] [(.ref q1)])
  refine own_at (fun t k => XS.iconst X9.here hx rfl (hb hby d_method_5_81) k) ?_
  show own_Go p e below KK T9 (mkF m 82 #[.val (.ref q1)] [(.int 5), (.ref q1)])
  refine own_at (fun t k => XS.aloadN X9.here hx rfl (hb hby d_method_5_82) rfl rfl k) ?_
  show own_Go p e below KK T9 (mkF m 83 #[.val (.ref q1)] [(.ref q1), (.int 5), (.ref q1)])
  refine own_at (fun t k => XS.iconst X9.here hx rfl (hb hby d_method_5_83) k) ?_
  show own_Go p e below KK T9 (mkF m 84 #[.val (.ref q1)] [(.int 5), (.ref q1), (.int 5), (.ref q1)])
  refine own_at (fun t k => own_ldB X9 hx hZ e9 A10_q1 (j := (5 : Int32)) (i := 5) (v := (.int (own_F_method_3 u (5 : Int32)))) (by decide) (by decide) rfl (g := (mkF m 84 #[.val (.ref q1)] [(.int 5), (.ref q1), (.int 5), (.ref q1)])) rfl rfl (hb hby d_method_5_84) t k) ?_
  show own_Go p e below KK T9 (mkF m 85 #[.val (.ref q1)] [(.int (own_F_method_3 u (5 : Int32))), (.int 5), (.ref q1)])
  refine own_at (fun t k => XS.iconst X9.here hx rfl (hb hby d_method_5_85) k) ?_
  show own_Go p e below KK T9 (mkF m 86 #[.val (.ref q1)] [(.int (-1 : Int32)), (.int (own_F_method_3 u (5 : Int32))), (.int 5), (.ref q1)])
  refine own_at (fun t k => XS.ixor X9.here hx rfl (hb hby d_method_5_86) rfl k) ?_
  show own_Go p e below KK T9 (mkF m 87 #[.val (.ref q1)] [(.int ((own_F_method_3 u (5 : Int32)) ^^^ (-1 : Int32))), (.int 5), (.ref q1)])
  refine own_at (fun t k => XS.i2b X9.here hx rfl (hb hby d_method_5_87) rfl k) ?_
  show own_Go p e below KK T9 (mkF m 88 #[.val (.ref q1)] [(.int (((own_F_method_3 u (5 : Int32)) ^^^ (-1 : Int32)).toInt8.toInt32)), (.int 5), (.ref q1)])
  obtain ⟨T11, h11, X11, e11, W11, V11, st11⟩ := own_stB X9 hx hZ e9 A10_q1 (j := (5 : Int32)) (y := (((own_F_method_3 u (5 : Int32)) ^^^ (-1 : Int32)).toInt8.toInt32)) (own_narB _) (i := 5) (by decide) (by decide) (show (5 : Nat) < 6 from by decide) (g := (mkF m 88 #[.val (.ref q1)] [(.int (((own_F_method_3 u (5 : Int32)) ^^^ (-1 : Int32)).toInt8.toInt32)), (.int 5), (.ref q1)])) rfl rfl (hb hby d_method_5_88)
  have N11 := Fr.snoc X11 N9 gq
  have Zs11 : n0 ≤ h11.size := (by rw [W11.size]; exact Zs9)
  have Kp11 : Keep h0 h11 [q1] := Kp9.wr W11 (Or.inl (by simp))
  have A12_q1 : own_A Z h11 q1 "[B" .byte [(.int (((own_F_method_3 u (0 : Int32)) ^^^ (-1 : Int32)).toInt8.toInt32)), (.int (((own_F_method_3 u (1 : Int32)) ^^^ (-1 : Int32)).toInt8.toInt32)), (.int (((own_F_method_3 u (2 : Int32)) ^^^ (-1 : Int32)).toInt8.toInt32)), (.int (((own_F_method_3 u (3 : Int32)) ^^^ (-1 : Int32)).toInt8.toInt32)), (.int (((own_F_method_3 u (4 : Int32)) ^^^ (-1 : Int32)).toInt8.toInt32)), (.int (((own_F_method_3 u (5 : Int32)) ^^^ (-1 : Int32)).toInt8.toInt32))] := V11
  refine own_of (fun t k => st11 t k) ?_
  show own_Go p e below KK T11 (mkF m 89 #[.val (.ref q1)] [])
  refine own_at (fun t k => XS.aloadN X11.here hx rfl (hb hby d_method_5_89) rfl rfl k) ?_
  show own_Go p e below KK T11 (mkF m 90 #[.val (.ref q1)] [(.ref q1)])
  refine own_at (fun t k => own_len X11 hx hZ e11 A12_q1 (N := (6 : Int32)) (show (6 : Nat).toInt32 = (6 : Int32) from by decide) (g := (mkF m 90 #[.val (.ref q1)] [(.ref q1)])) rfl rfl (hb hby d_method_5_90) t k) ?_
  show own_Go p e below KK T11 (mkF m 91 #[.val (.ref q1)] [(.int 6)])
  refine own_at (fun t k => XS.bipush X11.here hx rfl (hb hby d_method_5_91) k) ?_
  show own_Go p e below KK T11 (mkF m 93 #[.val (.ref q1)] [(.int 6), (.int 6)])
  have hc93 : ¬ ((6 : Int32) < (6 : Int32)) := by decide
  refine own_at (fun t k => XS.icmpYes X11.here hx rfl (pc0 := 93) (pc' := 107) rfl (hb hby d_method_5_93) rfl (Jvm.Free.XT.ii_le_t hc93) (by decide) (by decide) k) ?_
  show own_Go p e below KK T11 (mkF m 107 #[.val (.ref q1)] [])
  subst hKK
  exact own_retV X11 hx hlk Bd.returns (hb hby d_method_5_107) ⟨rfl, N11, by rw [e11]; exact Kp11⟩ (Nat.le_of_ble_eq_true rfl) (Nat.le_of_ble_eq_true rfl)
theorem d_method_5_96 : decode method_5_code 96 = .ok (.aload_n 0, 1) := by decide +kernel
theorem d_method_5_97 : decode method_5_code 97 = .ok (.bipush 6, 2) := by decide +kernel
theorem d_method_5_99 : decode method_5_code 99 = .ok (.aload_n 0, 1) := by decide +kernel
theorem d_method_5_100 : decode method_5_code 100 = .ok (.bipush 6, 2) := by decide +kernel
theorem d_method_5_102 : decode method_5_code 102 = .ok (.baload, 1) := by decide +kernel
theorem d_method_5_103 : decode method_5_code 103 = .ok (.iconst (-1), 1) := by decide +kernel
theorem d_method_5_104 : decode method_5_code 104 = .ok (.ixor, 1) := by decide +kernel
theorem d_method_5_105 : decode method_5_code 105 = .ok (.i2b, 1) := by decide +kernel
theorem d_method_5_106 : decode method_5_code 106 = .ok (.bastore, 1) := by decide +kernel
set_option maxRecDepth 65536 in
set_option maxHeartbeats 40000000 in
theorem rm_flip7 (l : Launch) (Z : State) (a0 : Array Value) (hw : ∀ d ∈ tables_1, d.before a0 Z = true) (ws : List Jvm.Cond) (q1 : Addr) (u : Int64) (h0 : Heap) (n0 : Nat) (Z0 : n0 ≤ h0.size) (Aq : own_A Z h0 q1 "[B" .byte [(.int (own_F_method_3 u (0 : Int32))), (.int (own_F_method_3 u (1 : Int32))), (.int (own_F_method_3 u (2 : Int32))), (.int (own_F_method_3 u (3 : Int32))), (.int (own_F_method_3 u (4 : Int32))), (.int (own_F_method_3 u (5 : Int32))), (.int (own_F_method_3 u (6 : Int32)))]) (gq : n0 ≤ q1) :
    MetFree l (⟨"com/example/isimud/isimud/oscore/OscoreOptionOfRequestPinLaw", "flip", "([B)V"⟩ : MethodName) (head1 (Jvm.Cond.code (⟨"com/example/isimud/isimud/oscore/OscoreOptionOfRequestPinLaw", "flip", "([B)V"⟩ : MethodName) method_5_code 1 none :: ws) ({ frames := 0, cells := 0, slots := 0, locals := 0 } : Room)) (fun a U => a = #[(.ref q1)] ∧ Z.Warmed39 U.vm ∧ U.heap = h0) (fun _ _ _ _ _ => True) (fun _ U o U' => ∃ v L, o = .returned v ∧ own_Qv q1 h0 n0 v U'.heap L ∧ FrameEnd U o U' L ({ frames := 0, cells := 0, slots := 0, locals := 0 } : Room).cells ({ frames := 0, cells := 0, slots := 0, locals := 0 } : Room).slots) := by
  refine MetFree.of_bodySF (plainFor_of_name pn_com_example_isimud_isimud_oscore_OscoreOptionOfRequestPinLaw) hisR ?_
  intro p e s m args below meth c s₁ Bd hml0 hP hK
  obtain ⟨rfl, hZ, hh⟩ := hP
  have hx := Bd.exec
  have hby := Bd.bytes
  have hlk : meth.locks = false := BodyLoose.notSynchronized Bd
  have hml : c.maxLocals = 1 := hml0
  have hown : s.vm.findClass "com/example/isimud/isimud/oscore/OscoreOptionOfRequestPinLaw" = some m.cls := findClass_of_methodNamed Bd.named
  have hnm := (name_of_methodNamed Bd.named Bd.method).1
  have X0 : Stand p l e ({ frames := 0, cells := 0, slots := 0, locals := 0 } : Room) s m #[(.ref q1)] below meth c s₁ [] 0 0 := Stand.of_body Bd
  have e0 : s₁.heap = h0 := by rw [← hh, Bd.state]; rfl
  have N0 := Fr.nil n0
  refine own_cast (K := own_K s (own_Qv q1 h0 n0) 0 0) (ef_method_5 m q1) ?_
  generalize hKK : own_K s (own_Qv q1 h0 n0) 0 0 = KK
  show own_Go p e below KK s₁ (mkF m 0 #[.val (.ref q1)] [])
  have Kp0 : Keep h0 h0 [q1] := Keep.refl _ _
  refine own_at (fun t k => XS.aloadN X0.here hx rfl (hb hby d_method_5_0) rfl rfl k) ?_
  show own_Go p e below KK s₁ (mkF m 1 #[.val (.ref q1)] [(.ref q1)])
  refine own_at (fun t k => own_len X0 hx hZ e0 Aq (N := (7 : Int32)) (show (7 : Nat).toInt32 = (7 : Int32) from by decide) (g := (mkF m 1 #[.val (.ref q1)] [(.ref q1)])) rfl rfl (hb hby d_method_5_1) t k) ?_
  show own_Go p e below KK s₁ (mkF m 2 #[.val (.ref q1)] [(.int 7)])
  have hc2 : (0 : Int32) < (7 : Int32) := by decide
  refine own_at (fun t k => XS.ifNo X0.here hx rfl (hb hby d_method_5_2) rfl (Jvm.Free.XT.i0_le_f hc2) k) ?_
  show own_Go p e below KK s₁ (mkF m 5 #[.val (.ref q1)] [])
  refine own_at (fun t k => XS.aloadN X0.here hx rfl (hb hby d_method_5_5) rfl rfl k) ?_
  show own_Go p e below KK s₁ (mkF m 6 #[.val (.ref q1)] [(.ref q1)])
  refine own_at (fun t k => XS.iconst X0.here hx rfl (hb hby d_method_5_6) k) ?_
  show own_Go p e below KK s₁ (mkF m 7 #[.val (.ref q1)] [(.int 0), (.ref q1)])
  refine own_at (fun t k => XS.aloadN X0.here hx rfl (hb hby d_method_5_7) rfl rfl k) ?_
  show own_Go p e below KK s₁ (mkF m 8 #[.val (.ref q1)] [(.ref q1), (.int 0), (.ref q1)])
  refine own_at (fun t k => XS.iconst X0.here hx rfl (hb hby d_method_5_8) k) ?_
  show own_Go p e below KK s₁ (mkF m 9 #[.val (.ref q1)] [(.int 0), (.ref q1), (.int 0), (.ref q1)])
  refine own_at (fun t k => own_ldB X0 hx hZ e0 Aq (j := (0 : Int32)) (i := 0) (v := (.int (own_F_method_3 u (0 : Int32)))) (by decide) (by decide) rfl (g := (mkF m 9 #[.val (.ref q1)] [(.int 0), (.ref q1), (.int 0), (.ref q1)])) rfl rfl (hb hby d_method_5_9) t k) ?_
  show own_Go p e below KK s₁ (mkF m 10 #[.val (.ref q1)] [(.int (own_F_method_3 u (0 : Int32))), (.int 0), (.ref q1)])
  refine own_at (fun t k => XS.iconst X0.here hx rfl (hb hby d_method_5_10) k) ?_
  show own_Go p e below KK s₁ (mkF m 11 #[.val (.ref q1)] [(.int (-1 : Int32)), (.int (own_F_method_3 u (0 : Int32))), (.int 0), (.ref q1)])
  refine own_at (fun t k => XS.ixor X0.here hx rfl (hb hby d_method_5_11) rfl k) ?_
  show own_Go p e below KK s₁ (mkF m 12 #[.val (.ref q1)] [(.int ((own_F_method_3 u (0 : Int32)) ^^^ (-1 : Int32))), (.int 0), (.ref q1)])
  refine own_at (fun t k => XS.i2b X0.here hx rfl (hb hby d_method_5_12) rfl k) ?_
  show own_Go p e below KK s₁ (mkF m 13 #[.val (.ref q1)] [(.int (((own_F_method_3 u (0 : Int32)) ^^^ (-1 : Int32)).toInt8.toInt32)), (.int 0), (.ref q1)])
  obtain ⟨T1, h1, X1, e1, W1, V1, st1⟩ := own_stB X0 hx hZ e0 Aq (j := (0 : Int32)) (y := (((own_F_method_3 u (0 : Int32)) ^^^ (-1 : Int32)).toInt8.toInt32)) (own_narB _) (i := 0) (by decide) (by decide) (show (0 : Nat) < 7 from by decide) (g := (mkF m 13 #[.val (.ref q1)] [(.int (((own_F_method_3 u (0 : Int32)) ^^^ (-1 : Int32)).toInt8.toInt32)), (.int 0), (.ref q1)])) rfl rfl (hb hby d_method_5_13)
  have N1 := Fr.snoc X1 N0 gq
  have Zs1 : n0 ≤ h1.size := (by rw [W1.size]; exact Z0)
  have Kp1 : Keep h0 h1 [q1] := Kp0.wr W1 (Or.inl (by simp))
  have A2_q1 : own_A Z h1 q1 "[B" .byte [(.int (((own_F_method_3 u (0 : Int32)) ^^^ (-1 : Int32)).toInt8.toInt32)), (.int (own_F_method_3 u (1 : Int32))), (.int (own_F_method_3 u (2 : Int32))), (.int (own_F_method_3 u (3 : Int32))), (.int (own_F_method_3 u (4 : Int32))), (.int (own_F_method_3 u (5 : Int32))), (.int (own_F_method_3 u (6 : Int32)))] := V1
  refine own_of (fun t k => st1 t k) ?_
  show own_Go p e below KK T1 (mkF m 14 #[.val (.ref q1)] [])
  refine own_at (fun t k => XS.aloadN X1.here hx rfl (hb hby d_method_5_14) rfl rfl k) ?_
  show own_Go p e below KK T1 (mkF m 15 #[.val (.ref q1)] [(.ref q1)])
  refine own_at (fun t k => own_len X1 hx hZ e1 A2_q1 (N := (7 : Int32)) (show (7 : Nat).toInt32 = (7 : Int32) from by decide) (g := (mkF m 15 #[.val (.ref q1)] [(.ref q1)])) rfl rfl (hb hby d_method_5_15) t k) ?_
  show own_Go p e below KK T1 (mkF m 16 #[.val (.ref q1)] [(.int 7)])
  refine own_at (fun t k => XS.iconst X1.here hx rfl (hb hby d_method_5_16) k) ?_
  show own_Go p e below KK T1 (mkF m 17 #[.val (.ref q1)] [(.int 1), (.int 7)])
  have hc17 : (1 : Int32) < (7 : Int32) := by decide
  refine own_at (fun t k => XS.icmpNo X1.here hx rfl (hb hby d_method_5_17) rfl (Jvm.Free.XT.ii_le_f hc17) k) ?_
  show own_Go p e below KK T1 (mkF m 20 #[.val (.ref q1)] [])
  refine own_at (fun t k => XS.aloadN X1.here hx rfl (hb hby d_method_5_20) rfl rfl k) ?_
  show own_Go p e below KK T1 (mkF m 21 #[.val (.ref q1)] [(.ref q1)])
  refine own_at (fun t k => XS.iconst X1.here hx rfl (hb hby d_method_5_21) k) ?_
  show own_Go p e below KK T1 (mkF m 22 #[.val (.ref q1)] [(.int 1), (.ref q1)])
  refine own_at (fun t k => XS.aloadN X1.here hx rfl (hb hby d_method_5_22) rfl rfl k) ?_
  show own_Go p e below KK T1 (mkF m 23 #[.val (.ref q1)] [(.ref q1), (.int 1), (.ref q1)])
  refine own_at (fun t k => XS.iconst X1.here hx rfl (hb hby d_method_5_23) k) ?_
  show own_Go p e below KK T1 (mkF m 24 #[.val (.ref q1)] [(.int 1), (.ref q1), (.int 1), (.ref q1)])
  refine own_at (fun t k => own_ldB X1 hx hZ e1 A2_q1 (j := (1 : Int32)) (i := 1) (v := (.int (own_F_method_3 u (1 : Int32)))) (by decide) (by decide) rfl (g := (mkF m 24 #[.val (.ref q1)] [(.int 1), (.ref q1), (.int 1), (.ref q1)])) rfl rfl (hb hby d_method_5_24) t k) ?_
  show own_Go p e below KK T1 (mkF m 25 #[.val (.ref q1)] [(.int (own_F_method_3 u (1 : Int32))), (.int 1), (.ref q1)])
  refine own_at (fun t k => XS.iconst X1.here hx rfl (hb hby d_method_5_25) k) ?_
  show own_Go p e below KK T1 (mkF m 26 #[.val (.ref q1)] [(.int (-1 : Int32)), (.int (own_F_method_3 u (1 : Int32))), (.int 1), (.ref q1)])
  refine own_at (fun t k => XS.ixor X1.here hx rfl (hb hby d_method_5_26) rfl k) ?_
  show own_Go p e below KK T1 (mkF m 27 #[.val (.ref q1)] [(.int ((own_F_method_3 u (1 : Int32)) ^^^ (-1 : Int32))), (.int 1), (.ref q1)])
  refine own_at (fun t k => XS.i2b X1.here hx rfl (hb hby d_method_5_27) rfl k) ?_
  show own_Go p e below KK T1 (mkF m 28 #[.val (.ref q1)] [(.int (((own_F_method_3 u (1 : Int32)) ^^^ (-1 : Int32)).toInt8.toInt32)), (.int 1), (.ref q1)])
  obtain ⟨T3, h3, X3, e3, W3, V3, st3⟩ := own_stB X1 hx hZ e1 A2_q1 (j := (1 : Int32)) (y := (((own_F_method_3 u (1 : Int32)) ^^^ (-1 : Int32)).toInt8.toInt32)) (own_narB _) (i := 1) (by decide) (by decide) (show (1 : Nat) < 7 from by decide) (g := (mkF m 28 #[.val (.ref q1)] [(.int (((own_F_method_3 u (1 : Int32)) ^^^ (-1 : Int32)).toInt8.toInt32)), (.int 1), (.ref q1)])) rfl rfl (hb hby d_method_5_28)
  have N3 := Fr.snoc X3 N1 gq
  have Zs3 : n0 ≤ h3.size := (by rw [W3.size]; exact Zs1)
  have Kp3 : Keep h0 h3 [q1] := Kp1.wr W3 (Or.inl (by simp))
  have A4_q1 : own_A Z h3 q1 "[B" .byte [(.int (((own_F_method_3 u (0 : Int32)) ^^^ (-1 : Int32)).toInt8.toInt32)), (.int (((own_F_method_3 u (1 : Int32)) ^^^ (-1 : Int32)).toInt8.toInt32)), (.int (own_F_method_3 u (2 : Int32))), (.int (own_F_method_3 u (3 : Int32))), (.int (own_F_method_3 u (4 : Int32))), (.int (own_F_method_3 u (5 : Int32))), (.int (own_F_method_3 u (6 : Int32)))] := V3
  refine own_of (fun t k => st3 t k) ?_
  show own_Go p e below KK T3 (mkF m 29 #[.val (.ref q1)] [])
  refine own_at (fun t k => XS.aloadN X3.here hx rfl (hb hby d_method_5_29) rfl rfl k) ?_
  show own_Go p e below KK T3 (mkF m 30 #[.val (.ref q1)] [(.ref q1)])
  refine own_at (fun t k => own_len X3 hx hZ e3 A4_q1 (N := (7 : Int32)) (show (7 : Nat).toInt32 = (7 : Int32) from by decide) (g := (mkF m 30 #[.val (.ref q1)] [(.ref q1)])) rfl rfl (hb hby d_method_5_30) t k) ?_
  show own_Go p e below KK T3 (mkF m 31 #[.val (.ref q1)] [(.int 7)])
  refine own_at (fun t k => XS.iconst X3.here hx rfl (hb hby d_method_5_31) k) ?_
  show own_Go p e below KK T3 (mkF m 32 #[.val (.ref q1)] [(.int 2), (.int 7)])
  have hc32 : (2 : Int32) < (7 : Int32) := by decide
  refine own_at (fun t k => XS.icmpNo X3.here hx rfl (hb hby d_method_5_32) rfl (Jvm.Free.XT.ii_le_f hc32) k) ?_
  show own_Go p e below KK T3 (mkF m 35 #[.val (.ref q1)] [])
  refine own_at (fun t k => XS.aloadN X3.here hx rfl (hb hby d_method_5_35) rfl rfl k) ?_
  show own_Go p e below KK T3 (mkF m 36 #[.val (.ref q1)] [(.ref q1)])
  refine own_at (fun t k => XS.iconst X3.here hx rfl (hb hby d_method_5_36) k) ?_
  show own_Go p e below KK T3 (mkF m 37 #[.val (.ref q1)] [(.int 2), (.ref q1)])
  refine own_at (fun t k => XS.aloadN X3.here hx rfl (hb hby d_method_5_37) rfl rfl k) ?_
  show own_Go p e below KK T3 (mkF m 38 #[.val (.ref q1)] [(.ref q1), (.int 2), (.ref q1)])
  refine own_at (fun t k => XS.iconst X3.here hx rfl (hb hby d_method_5_38) k) ?_
  show own_Go p e below KK T3 (mkF m 39 #[.val (.ref q1)] [(.int 2), (.ref q1), (.int 2), (.ref q1)])
  refine own_at (fun t k => own_ldB X3 hx hZ e3 A4_q1 (j := (2 : Int32)) (i := 2) (v := (.int (own_F_method_3 u (2 : Int32)))) (by decide) (by decide) rfl (g := (mkF m 39 #[.val (.ref q1)] [(.int 2), (.ref q1), (.int 2), (.ref q1)])) rfl rfl (hb hby d_method_5_39) t k) ?_
  show own_Go p e below KK T3 (mkF m 40 #[.val (.ref q1)] [(.int (own_F_method_3 u (2 : Int32))), (.int 2), (.ref q1)])
  refine own_at (fun t k => XS.iconst X3.here hx rfl (hb hby d_method_5_40) k) ?_
  show own_Go p e below KK T3 (mkF m 41 #[.val (.ref q1)] [(.int (-1 : Int32)), (.int (own_F_method_3 u (2 : Int32))), (.int 2), (.ref q1)])
  refine own_at (fun t k => XS.ixor X3.here hx rfl (hb hby d_method_5_41) rfl k) ?_
  show own_Go p e below KK T3 (mkF m 42 #[.val (.ref q1)] [(.int ((own_F_method_3 u (2 : Int32)) ^^^ (-1 : Int32))), (.int 2), (.ref q1)])
  refine own_at (fun t k => XS.i2b X3.here hx rfl (hb hby d_method_5_42) rfl k) ?_
  show own_Go p e below KK T3 (mkF m 43 #[.val (.ref q1)] [(.int (((own_F_method_3 u (2 : Int32)) ^^^ (-1 : Int32)).toInt8.toInt32)), (.int 2), (.ref q1)])
  obtain ⟨T5, h5, X5, e5, W5, V5, st5⟩ := own_stB X3 hx hZ e3 A4_q1 (j := (2 : Int32)) (y := (((own_F_method_3 u (2 : Int32)) ^^^ (-1 : Int32)).toInt8.toInt32)) (own_narB _) (i := 2) (by decide) (by decide) (show (2 : Nat) < 7 from by decide) (g := (mkF m 43 #[.val (.ref q1)] [(.int (((own_F_method_3 u (2 : Int32)) ^^^ (-1 : Int32)).toInt8.toInt32)), (.int 2), (.ref q1)])) rfl rfl (hb hby d_method_5_43)
  have N5 := Fr.snoc X5 N3 gq
  have Zs5 : n0 ≤ h5.size := (by rw [W5.size]; exact Zs3)
  have Kp5 : Keep h0 h5 [q1] := Kp3.wr W5 (Or.inl (by simp))
  have A6_q1 : own_A Z h5 q1 "[B" .byte [(.int (((own_F_method_3 u (0 : Int32)) ^^^ (-1 : Int32)).toInt8.toInt32)), (.int (((own_F_method_3 u (1 : Int32)) ^^^ (-1 : Int32)).toInt8.toInt32)), (.int (((own_F_method_3 u (2 : Int32)) ^^^ (-1 : Int32)).toInt8.toInt32)), (.int (own_F_method_3 u (3 : Int32))), (.int (own_F_method_3 u (4 : Int32))), (.int (own_F_method_3 u (5 : Int32))), (.int (own_F_method_3 u (6 : Int32)))] := V5
  refine own_of (fun t k => st5 t k) ?_
  show own_Go p e below KK T5 (mkF m 44 #[.val (.ref q1)] [])
  refine own_at (fun t k => XS.aloadN X5.here hx rfl (hb hby d_method_5_44) rfl rfl k) ?_
  show own_Go p e below KK T5 (mkF m 45 #[.val (.ref q1)] [(.ref q1)])
  refine own_at (fun t k => own_len X5 hx hZ e5 A6_q1 (N := (7 : Int32)) (show (7 : Nat).toInt32 = (7 : Int32) from by decide) (g := (mkF m 45 #[.val (.ref q1)] [(.ref q1)])) rfl rfl (hb hby d_method_5_45) t k) ?_
  show own_Go p e below KK T5 (mkF m 46 #[.val (.ref q1)] [(.int 7)])
  refine own_at (fun t k => XS.iconst X5.here hx rfl (hb hby d_method_5_46) k) ?_
  show own_Go p e below KK T5 (mkF m 47 #[.val (.ref q1)] [(.int 3), (.int 7)])
  have hc47 : (3 : Int32) < (7 : Int32) := by decide
  refine own_at (fun t k => XS.icmpNo X5.here hx rfl (hb hby d_method_5_47) rfl (Jvm.Free.XT.ii_le_f hc47) k) ?_
  show own_Go p e below KK T5 (mkF m 50 #[.val (.ref q1)] [])
  refine own_at (fun t k => XS.aloadN X5.here hx rfl (hb hby d_method_5_50) rfl rfl k) ?_
  show own_Go p e below KK T5 (mkF m 51 #[.val (.ref q1)] [(.ref q1)])
  refine own_at (fun t k => XS.iconst X5.here hx rfl (hb hby d_method_5_51) k) ?_
  show own_Go p e below KK T5 (mkF m 52 #[.val (.ref q1)] [(.int 3), (.ref q1)])
  refine own_at (fun t k => XS.aloadN X5.here hx rfl (hb hby d_method_5_52) rfl rfl k) ?_
  show own_Go p e below KK T5 (mkF m 53 #[.val (.ref q1)] [(.ref q1), (.int 3), (.ref q1)])
  refine own_at (fun t k => XS.iconst X5.here hx rfl (hb hby d_method_5_53) k) ?_
  show own_Go p e below KK T5 (mkF m 54 #[.val (.ref q1)] [(.int 3), (.ref q1), (.int 3), (.ref q1)])
  refine own_at (fun t k => own_ldB X5 hx hZ e5 A6_q1 (j := (3 : Int32)) (i := 3) (v := (.int (own_F_method_3 u (3 : Int32)))) (by decide) (by decide) rfl (g := (mkF m 54 #[.val (.ref q1)] [(.int 3), (.ref q1), (.int 3), (.ref q1)])) rfl rfl (hb hby d_method_5_54) t k) ?_
  show own_Go p e below KK T5 (mkF m 55 #[.val (.ref q1)] [(.int (own_F_method_3 u (3 : Int32))), (.int 3), (.ref q1)])
  refine own_at (fun t k => XS.iconst X5.here hx rfl (hb hby d_method_5_55) k) ?_
  show own_Go p e below KK T5 (mkF m 56 #[.val (.ref q1)] [(.int (-1 : Int32)), (.int (own_F_method_3 u (3 : Int32))), (.int 3), (.ref q1)])
  refine own_at (fun t k => XS.ixor X5.here hx rfl (hb hby d_method_5_56) rfl k) ?_
  show own_Go p e below KK T5 (mkF m 57 #[.val (.ref q1)] [(.int ((own_F_method_3 u (3 : Int32)) ^^^ (-1 : Int32))), (.int 3), (.ref q1)])
  refine own_at (fun t k => XS.i2b X5.here hx rfl (hb hby d_method_5_57) rfl k) ?_
  show own_Go p e below KK T5 (mkF m 58 #[.val (.ref q1)] [(.int (((own_F_method_3 u (3 : Int32)) ^^^ (-1 : Int32)).toInt8.toInt32)), (.int 3), (.ref q1)])
  obtain ⟨T7, h7, X7, e7, W7, V7, st7⟩ := own_stB X5 hx hZ e5 A6_q1 (j := (3 : Int32)) (y := (((own_F_method_3 u (3 : Int32)) ^^^ (-1 : Int32)).toInt8.toInt32)) (own_narB _) (i := 3) (by decide) (by decide) (show (3 : Nat) < 7 from by decide) (g := (mkF m 58 #[.val (.ref q1)] [(.int (((own_F_method_3 u (3 : Int32)) ^^^ (-1 : Int32)).toInt8.toInt32)), (.int 3), (.ref q1)])) rfl rfl (hb hby d_method_5_58)
  have N7 := Fr.snoc X7 N5 gq
  have Zs7 : n0 ≤ h7.size := (by rw [W7.size]; exact Zs5)
  have Kp7 : Keep h0 h7 [q1] := Kp5.wr W7 (Or.inl (by simp))
  have A8_q1 : own_A Z h7 q1 "[B" .byte [(.int (((own_F_method_3 u (0 : Int32)) ^^^ (-1 : Int32)).toInt8.toInt32)), (.int (((own_F_method_3 u (1 : Int32)) ^^^ (-1 : Int32)).toInt8.toInt32)), (.int (((own_F_method_3 u (2 : Int32)) ^^^ (-1 : Int32)).toInt8.toInt32)), (.int (((own_F_method_3 u (3 : Int32)) ^^^ (-1 : Int32)).toInt8.toInt32)), (.int (own_F_method_3 u (4 : Int32))), (.int (own_F_method_3 u (5 : Int32))), (.int (own_F_method_3 u (6 : Int32)))] := V7
  refine own_of (fun t k => st7 t k) ?_
  show own_Go p e below KK T7 (mkF m 59 #[.val (.ref q1)] [])
  refine own_at (fun t k => XS.aloadN X7.here hx rfl (hb hby d_method_5_59) rfl rfl k) ?_
  show own_Go p e below KK T7 (mkF m 60 #[.val (.ref q1)] [(.ref q1)])
  refine own_at (fun t k => own_len X7 hx hZ e7 A8_q1 (N := (7 : Int32)) (show (7 : Nat).toInt32 = (7 : Int32) from by decide) (g := (mkF m 60 #[.val (.ref q1)] [(.ref q1)])) rfl rfl (hb hby d_method_5_60) t k) ?_
  show own_Go p e below KK T7 (mkF m 61 #[.val (.ref q1)] [(.int 7)])
  refine own_at (fun t k => XS.iconst X7.here hx rfl (hb hby d_method_5_61) k) ?_
  show own_Go p e below KK T7 (mkF m 62 #[.val (.ref q1)] [(.int 4), (.int 7)])
  have hc62 : (4 : Int32) < (7 : Int32) := by decide
  refine own_at (fun t k => XS.icmpNo X7.here hx rfl (hb hby d_method_5_62) rfl (Jvm.Free.XT.ii_le_f hc62) k) ?_
  show own_Go p e below KK T7 (mkF m 65 #[.val (.ref q1)] [])
  refine own_at (fun t k => XS.aloadN X7.here hx rfl (hb hby d_method_5_65) rfl rfl k) ?_
  show own_Go p e below KK T7 (mkF m 66 #[.val (.ref q1)] [(.ref q1)])
  refine own_at (fun t k => XS.iconst X7.here hx rfl (hb hby d_method_5_66) k) ?_
  show own_Go p e below KK T7 (mkF m 67 #[.val (.ref q1)] [(.int 4), (.ref q1)])
  refine own_at (fun t k => XS.aloadN X7.here hx rfl (hb hby d_method_5_67) rfl rfl k) ?_
  show own_Go p e below KK T7 (mkF m 68 #[.val (.ref q1)] [(.ref q1), (.int 4), (.ref q1)])
  refine own_at (fun t k => XS.iconst X7.here hx rfl (hb hby d_method_5_68) k) ?_
  show own_Go p e below KK T7 (mkF m 69 #[.val (.ref q1)] [(.int 4), (.ref q1), (.int 4), (.ref q1)])
  refine own_at (fun t k => own_ldB X7 hx hZ e7 A8_q1 (j := (4 : Int32)) (i := 4) (v := (.int (own_F_method_3 u (4 : Int32)))) (by decide) (by decide) rfl (g := (mkF m 69 #[.val (.ref q1)] [(.int 4), (.ref q1), (.int 4), (.ref q1)])) rfl rfl (hb hby d_method_5_69) t k) ?_
  show own_Go p e below KK T7 (mkF m 70 #[.val (.ref q1)] [(.int (own_F_method_3 u (4 : Int32))), (.int 4), (.ref q1)])
  refine own_at (fun t k => XS.iconst X7.here hx rfl (hb hby d_method_5_70) k) ?_
  show own_Go p e below KK T7 (mkF m 71 #[.val (.ref q1)] [(.int (-1 : Int32)), (.int (own_F_method_3 u (4 : Int32))), (.int 4), (.ref q1)])
  refine own_at (fun t k => XS.ixor X7.here hx rfl (hb hby d_method_5_71) rfl k) ?_
  show own_Go p e below KK T7 (mkF m 72 #[.val (.ref q1)] [(.int ((own_F_method_3 u (4 : Int32)) ^^^ (-1 : Int32))), (.int 4), (.ref q1)])
  refine own_at (fun t k => XS.i2b X7.here hx rfl (hb hby d_method_5_72) rfl k) ?_
  show own_Go p e below KK T7 (mkF m 73 #[.val (.ref q1)] [(.int (((own_F_method_3 u (4 : Int32)) ^^^ (-1 : Int32)).toInt8.toInt32)), (.int 4), (.ref q1)])
  obtain ⟨T9, h9, X9, e9, W9, V9, st9⟩ := own_stB X7 hx hZ e7 A8_q1 (j := (4 : Int32)) (y := (((own_F_method_3 u (4 : Int32)) ^^^ (-1 : Int32)).toInt8.toInt32)) (own_narB _) (i := 4) (by decide) (by decide) (show (4 : Nat) < 7 from by decide) (g := (mkF m 73 #[.val (.ref q1)] [(.int (((own_F_method_3 u (4 : Int32)) ^^^ (-1 : Int32)).toInt8.toInt32)), (.int 4), (.ref q1)])) rfl rfl (hb hby d_method_5_73)
  have N9 := Fr.snoc X9 N7 gq
  have Zs9 : n0 ≤ h9.size := (by rw [W9.size]; exact Zs7)
  have Kp9 : Keep h0 h9 [q1] := Kp7.wr W9 (Or.inl (by simp))
  have A10_q1 : own_A Z h9 q1 "[B" .byte [(.int (((own_F_method_3 u (0 : Int32)) ^^^ (-1 : Int32)).toInt8.toInt32)), (.int (((own_F_method_3 u (1 : Int32)) ^^^ (-1 : Int32)).toInt8.toInt32)), (.int (((own_F_method_3 u (2 : Int32)) ^^^ (-1 : Int32)).toInt8.toInt32)), (.int (((own_F_method_3 u (3 : Int32)) ^^^ (-1 : Int32)).toInt8.toInt32)), (.int (((own_F_method_3 u (4 : Int32)) ^^^ (-1 : Int32)).toInt8.toInt32)), (.int (own_F_method_3 u (5 : Int32))), (.int (own_F_method_3 u (6 : Int32)))] := V9
  refine own_of (fun t k => st9 t k) ?_
  show own_Go p e below KK T9 (mkF m 74 #[.val (.ref q1)] [])
  refine own_at (fun t k => XS.aloadN X9.here hx rfl (hb hby d_method_5_74) rfl rfl k) ?_
  show own_Go p e below KK T9 (mkF m 75 #[.val (.ref q1)] [(.ref q1)])
  refine own_at (fun t k => own_len X9 hx hZ e9 A10_q1 (N := (7 : Int32)) (show (7 : Nat).toInt32 = (7 : Int32) from by decide) (g := (mkF m 75 #[.val (.ref q1)] [(.ref q1)])) rfl rfl (hb hby d_method_5_75) t k) ?_
  show own_Go p e below KK T9 (mkF m 76 #[.val (.ref q1)] [(.int 7)])
  refine own_at (fun t k => XS.iconst X9.here hx rfl (hb hby d_method_5_76) k) ?_
  show own_Go p e below KK T9 (mkF m 77 #[.val (.ref q1)] [(.int 5), (.int 7)])
  have hc77 : (5 : Int32) < (7 : Int32) := by decide
  refine own_at (fun t k => XS.icmpNo X9.here hx rfl (hb hby d_method_5_77) rfl (Jvm.Free.XT.ii_le_f hc77) k) ?_
  show own_Go p e below KK T9 (mkF m 80 #[.val (.ref q1)] [])
  refine own_at (fun t k => XS.aloadN X9.here hx rfl (hb hby d_method_5_80) rfl rfl k) ?_
  show own_Go p e below KK T9 (mkF m 81 #[.val (.ref q1)] [(.ref q1)])
  refine own_at (fun t k => XS.iconst X9.here hx rfl (hb hby d_method_5_81) k) ?_
  show own_Go p e below KK T9 (mkF m 82 #[.val (.ref q1)] [(.int 5), (.ref q1)])
  refine own_at (fun t k => XS.aloadN X9.here hx rfl (hb hby d_method_5_82) rfl rfl k) ?_
  show own_Go p e below KK T9 (mkF m 83 #[.val (.ref q1)] [(.ref q1), (.int 5), (.ref q1)])
  refine own_at (fun t k => XS.iconst X9.here hx rfl (hb hby d_method_5_83) k) ?_
  show own_Go p e below KK T9 (mkF m 84 #[.val (.ref q1)] [(.int 5), (.ref q1), (.int 5), (.ref q1)])
  refine own_at (fun t k => own_ldB X9 hx hZ e9 A10_q1 (j := (5 : Int32)) (i := 5) (v := (.int (own_F_method_3 u (5 : Int32)))) (by decide) (by decide) rfl (g := (mkF m 84 #[.val (.ref q1)] [(.int 5), (.ref q1), (.int 5), (.ref q1)])) rfl rfl (hb hby d_method_5_84) t k) ?_
  show own_Go p e below KK T9 (mkF m 85 #[.val (.ref q1)] [(.int (own_F_method_3 u (5 : Int32))), (.int 5), (.ref q1)])
  refine own_at (fun t k => XS.iconst X9.here hx rfl (hb hby d_method_5_85) k) ?_
  show own_Go p e below KK T9 (mkF m 86 #[.val (.ref q1)] [(.int (-1 : Int32)), (.int (own_F_method_3 u (5 : Int32))), (.int 5), (.ref q1)])
  refine own_at (fun t k => XS.ixor X9.here hx rfl (hb hby d_method_5_86) rfl k) ?_
  show own_Go p e below KK T9 (mkF m 87 #[.val (.ref q1)] [(.int ((own_F_method_3 u (5 : Int32)) ^^^ (-1 : Int32))), (.int 5), (.ref q1)])
  refine own_at (fun t k => XS.i2b X9.here hx rfl (hb hby d_method_5_87) rfl k) ?_
  show own_Go p e below KK T9 (mkF m 88 #[.val (.ref q1)] [(.int (((own_F_method_3 u (5 : Int32)) ^^^ (-1 : Int32)).toInt8.toInt32)), (.int 5), (.ref q1)])
  obtain ⟨T11, h11, X11, e11, W11, V11, st11⟩ := own_stB X9 hx hZ e9 A10_q1 (j := (5 : Int32)) (y := (((own_F_method_3 u (5 : Int32)) ^^^ (-1 : Int32)).toInt8.toInt32)) (own_narB _) (i := 5) (by decide) (by decide) (show (5 : Nat) < 7 from by decide) (g := (mkF m 88 #[.val (.ref q1)] [(.int (((own_F_method_3 u (5 : Int32)) ^^^ (-1 : Int32)).toInt8.toInt32)), (.int 5), (.ref q1)])) rfl rfl (hb hby d_method_5_88)
  have N11 := Fr.snoc X11 N9 gq
  have Zs11 : n0 ≤ h11.size := (by rw [W11.size]; exact Zs9)
  have Kp11 : Keep h0 h11 [q1] := Kp9.wr W11 (Or.inl (by simp))
  have A12_q1 : own_A Z h11 q1 "[B" .byte [(.int (((own_F_method_3 u (0 : Int32)) ^^^ (-1 : Int32)).toInt8.toInt32)), (.int (((own_F_method_3 u (1 : Int32)) ^^^ (-1 : Int32)).toInt8.toInt32)), (.int (((own_F_method_3 u (2 : Int32)) ^^^ (-1 : Int32)).toInt8.toInt32)), (.int (((own_F_method_3 u (3 : Int32)) ^^^ (-1 : Int32)).toInt8.toInt32)), (.int (((own_F_method_3 u (4 : Int32)) ^^^ (-1 : Int32)).toInt8.toInt32)), (.int (((own_F_method_3 u (5 : Int32)) ^^^ (-1 : Int32)).toInt8.toInt32)), (.int (own_F_method_3 u (6 : Int32)))] := V11
  refine own_of (fun t k => st11 t k) ?_
  show own_Go p e below KK T11 (mkF m 89 #[.val (.ref q1)] [])
  refine own_at (fun t k => XS.aloadN X11.here hx rfl (hb hby d_method_5_89) rfl rfl k) ?_
  show own_Go p e below KK T11 (mkF m 90 #[.val (.ref q1)] [(.ref q1)])
  refine own_at (fun t k => own_len X11 hx hZ e11 A12_q1 (N := (7 : Int32)) (show (7 : Nat).toInt32 = (7 : Int32) from by decide) (g := (mkF m 90 #[.val (.ref q1)] [(.ref q1)])) rfl rfl (hb hby d_method_5_90) t k) ?_
  show own_Go p e below KK T11 (mkF m 91 #[.val (.ref q1)] [(.int 7)])
  refine own_at (fun t k => XS.bipush X11.here hx rfl (hb hby d_method_5_91) k) ?_
  show own_Go p e below KK T11 (mkF m 93 #[.val (.ref q1)] [(.int 6), (.int 7)])
  have hc93 : (6 : Int32) < (7 : Int32) := by decide
  refine own_at (fun t k => XS.icmpNo X11.here hx rfl (hb hby d_method_5_93) rfl (Jvm.Free.XT.ii_le_f hc93) k) ?_
  show own_Go p e below KK T11 (mkF m 96 #[.val (.ref q1)] [])
  refine own_at (fun t k => XS.aloadN X11.here hx rfl (hb hby d_method_5_96) rfl rfl k) ?_
  show own_Go p e below KK T11 (mkF m 97 #[.val (.ref q1)] [(.ref q1)])
  refine own_at (fun t k => XS.bipush X11.here hx rfl (hb hby d_method_5_97) k) ?_
  show own_Go p e below KK T11 (mkF m 99 #[.val (.ref q1)] [(.int 6), (.ref q1)])
  refine own_at (fun t k => XS.aloadN X11.here hx rfl (hb hby d_method_5_99) rfl rfl k) ?_
  show own_Go p e below KK T11 (mkF m 100 #[.val (.ref q1)] [(.ref q1), (.int 6), (.ref q1)])
  refine own_at (fun t k => XS.bipush X11.here hx rfl (hb hby d_method_5_100) k) ?_
  show own_Go p e below KK T11 (mkF m 102 #[.val (.ref q1)] [(.int 6), (.ref q1), (.int 6), (.ref q1)])
  refine own_at (fun t k => own_ldB X11 hx hZ e11 A12_q1 (j := (6 : Int32)) (i := 6) (v := (.int (own_F_method_3 u (6 : Int32)))) (by decide) (by decide) rfl (g := (mkF m 102 #[.val (.ref q1)] [(.int 6), (.ref q1), (.int 6), (.ref q1)])) rfl rfl (hb hby d_method_5_102) t k) ?_
  show own_Go p e below KK T11 (mkF m 103 #[.val (.ref q1)] [(.int (own_F_method_3 u (6 : Int32))), (.int 6), (.ref q1)])
  refine own_at (fun t k => XS.iconst X11.here hx rfl (hb hby d_method_5_103) k) ?_
  show own_Go p e below KK T11 (mkF m 104 #[.val (.ref q1)] [(.int (-1 : Int32)), (.int (own_F_method_3 u (6 : Int32))), (.int 6), (.ref q1)])
  refine own_at (fun t k => XS.ixor X11.here hx rfl (hb hby d_method_5_104) rfl k) ?_
  show own_Go p e below KK T11 (mkF m 105 #[.val (.ref q1)] [(.int ((own_F_method_3 u (6 : Int32)) ^^^ (-1 : Int32))), (.int 6), (.ref q1)])
  refine own_at (fun t k => XS.i2b X11.here hx rfl (hb hby d_method_5_105) rfl k) ?_
  show own_Go p e below KK T11 (mkF m 106 #[.val (.ref q1)] [(.int (((own_F_method_3 u (6 : Int32)) ^^^ (-1 : Int32)).toInt8.toInt32)), (.int 6), (.ref q1)])
  obtain ⟨T13, h13, X13, e13, W13, V13, st13⟩ := own_stB X11 hx hZ e11 A12_q1 (j := (6 : Int32)) (y := (((own_F_method_3 u (6 : Int32)) ^^^ (-1 : Int32)).toInt8.toInt32)) (own_narB _) (i := 6) (by decide) (by decide) (show (6 : Nat) < 7 from by decide) (g := (mkF m 106 #[.val (.ref q1)] [(.int (((own_F_method_3 u (6 : Int32)) ^^^ (-1 : Int32)).toInt8.toInt32)), (.int 6), (.ref q1)])) rfl rfl (hb hby d_method_5_106)
  have N13 := Fr.snoc X13 N11 gq
  have Zs13 : n0 ≤ h13.size := (by rw [W13.size]; exact Zs11)
  have Kp13 : Keep h0 h13 [q1] := Kp11.wr W13 (Or.inl (by simp))
  have A14_q1 : own_A Z h13 q1 "[B" .byte [(.int (((own_F_method_3 u (0 : Int32)) ^^^ (-1 : Int32)).toInt8.toInt32)), (.int (((own_F_method_3 u (1 : Int32)) ^^^ (-1 : Int32)).toInt8.toInt32)), (.int (((own_F_method_3 u (2 : Int32)) ^^^ (-1 : Int32)).toInt8.toInt32)), (.int (((own_F_method_3 u (3 : Int32)) ^^^ (-1 : Int32)).toInt8.toInt32)), (.int (((own_F_method_3 u (4 : Int32)) ^^^ (-1 : Int32)).toInt8.toInt32)), (.int (((own_F_method_3 u (5 : Int32)) ^^^ (-1 : Int32)).toInt8.toInt32)), (.int (((own_F_method_3 u (6 : Int32)) ^^^ (-1 : Int32)).toInt8.toInt32))] := V13
  refine own_of (fun t k => st13 t k) ?_
  show own_Go p e below KK T13 (mkF m 107 #[.val (.ref q1)] [])
  subst hKK
  exact own_retV X13 hx hlk Bd.returns (hb hby d_method_5_107) ⟨rfl, N13, by rw [e13]; exact Kp13⟩ (Nat.le_of_ble_eq_true rfl) (Nat.le_of_ble_eq_true rfl)
theorem rm_flip (l : Launch) (Z : State) (a0 : Array Value) (hw : ∀ d ∈ tables_1, d.before a0 Z = true) (ws : List Jvm.Cond) (q1 : Addr) (u : Int64) (n : Nat) (h0 : Heap) (n0 : Nat) (Z0 : n0 ≤ h0.size) (hn : n ≤ 7) (Aq : own_A Z h0 q1 "[B" .byte (own_vals u n)) (gq : n0 ≤ q1) :
    MetFree l (⟨"com/example/isimud/isimud/oscore/OscoreOptionOfRequestPinLaw", "flip", "([B)V"⟩ : MethodName) (head1 (Jvm.Cond.code (⟨"com/example/isimud/isimud/oscore/OscoreOptionOfRequestPinLaw", "flip", "([B)V"⟩ : MethodName) method_5_code 1 none :: ws) ({ frames := 0, cells := 0, slots := 0, locals := 0 } : Room)) (fun a U => a = #[(.ref q1)] ∧ Z.Warmed39 U.vm ∧ U.heap = h0) (fun _ _ _ _ _ => True) (fun _ U o U' => ∃ v L, o = .returned v ∧ own_Qv q1 h0 n0 v U'.heap L ∧ FrameEnd U o U' L ({ frames := 0, cells := 0, slots := 0, locals := 0 } : Room).cells ({ frames := 0, cells := 0, slots := 0, locals := 0 } : Room).slots) := by
  match n, hn with
  | 0, _ => exact rm_flip0 l Z a0 hw ws q1 u h0 n0 Z0 Aq gq
  | 1, _ => exact rm_flip1 l Z a0 hw ws q1 u h0 n0 Z0 Aq gq
  | 2, _ => exact rm_flip2 l Z a0 hw ws q1 u h0 n0 Z0 Aq gq
  | 3, _ => exact rm_flip3 l Z a0 hw ws q1 u h0 n0 Z0 Aq gq
  | 4, _ => exact rm_flip4 l Z a0 hw ws q1 u h0 n0 Z0 Aq gq
  | 5, _ => exact rm_flip5 l Z a0 hw ws q1 u h0 n0 Z0 Aq gq
  | 6, _ => exact rm_flip6 l Z a0 hw ws q1 u h0 n0 Z0 Aq gq
  | 7, _ => exact rm_flip7 l Z a0 hw ws q1 u h0 n0 Z0 Aq gq
  | n + 8, h => exact absurd h (by omega)
def own_Qc (Z : State) (q1 : Addr) (v2 v3 v4 : Value) (h0 : Heap) (n0 : Nat) (v : Option Value) (h : Heap) (L : List Loc) : Prop := v = none ∧ Fr n0 L ∧ Keep h0 h [q1] ∧ Exa Z h q1 "com/example/isimud/isimud/oscore/OscoreOption" ∧ Fld Z h q1 "com/example/isimud/isimud/oscore/OscoreOption" "partialIv" "[B" v2 ∧ Fld Z h q1 "com/example/isimud/isimud/oscore/OscoreOption" "kidContext" "[B" v3 ∧ Fld Z h q1 "com/example/isimud/isimud/oscore/OscoreOption" "kid" "[B" v4
theorem pn_com_example_isimud_isimud_oscore_OscoreOption : plainName "com/example/isimud/isimud/oscore/OscoreOption" = true := by first | (simp [plainName, overriddenIn]; done) | decide +kernel
theorem ef_prog_18_1 (m : MethodId) (x0 : Addr) (x1 : Value) (x2 : Value) (x3 : Value) (v1 : x1.isRef = true) (v2 : x2.isRef = true) (v3 : x3.isRef = true) : entryFrame m #[(.ref x0), x1, x2, x3] 4 = mkF m 0 #[.val (.ref x0), .val x1, .val x2, .val x3] [] := by first | (simp [entryFrame, mkF, argsToLocals, Value.category, Jvm.Free.XT.cat1 v1, Jvm.Free.XT.cat1 v2, Jvm.Free.XT.cat1 v3]; done) | rfl | (rcases ref_cases v1 with rfl | ⟨_, rfl⟩ <;> rcases ref_cases v2 with rfl | ⟨_, rfl⟩ <;> rcases ref_cases v3 with rfl | ⟨_, rfl⟩ <;> rfl)
theorem d_prog_18_1_0 : decode prog_18_method_1_code 0 = .ok (.aload_n 0, 1) := by decide +kernel
theorem d_prog_18_1_1 : decode prog_18_method_1_code 1 = .ok (.invokespecial 1, 3) := by decide +kernel
theorem d_prog_18_1_4 : decode prog_18_method_1_code 4 = .ok (.aload_n 0, 1) := by decide +kernel
theorem d_prog_18_1_5 : decode prog_18_method_1_code 5 = .ok (.aload_n 1, 1) := by decide +kernel
theorem d_prog_18_1_6 : decode prog_18_method_1_code 6 = .ok (.putfield 7, 3) := by decide +kernel
theorem d_prog_18_1_9 : decode prog_18_method_1_code 9 = .ok (.aload_n 0, 1) := by decide +kernel
theorem d_prog_18_1_10 : decode prog_18_method_1_code 10 = .ok (.aload_n 2, 1) := by decide +kernel
theorem d_prog_18_1_11 : decode prog_18_method_1_code 11 = .ok (.putfield 13, 3) := by decide +kernel
theorem d_prog_18_1_14 : decode prog_18_method_1_code 14 = .ok (.aload_n 0, 1) := by decide +kernel
theorem d_prog_18_1_15 : decode prog_18_method_1_code 15 = .ok (.aload_n 3, 1) := by decide +kernel
theorem d_prog_18_1_16 : decode prog_18_method_1_code 16 = .ok (.putfield 16, 3) := by decide +kernel
theorem d_prog_18_1_19 : decode prog_18_method_1_code 19 = .ok (.return_, 1) := by decide +kernel
set_option maxRecDepth 65536 in
set_option maxHeartbeats 40000000 in
theorem rm_ctor (l : Launch) (Z : State) (a0 : Array Value) (hw : ∀ d ∈ tables_1, d.before a0 Z = true) (ws : List Jvm.Cond) (q1 : Addr) (v2 : Value) (v3 : Value) (v4 : Value)  (h0 : Heap) (n0 : Nat) (Z0 : n0 ≤ h0.size) (F0 : Fld Z h0 q1 "com/example/isimud/isimud/oscore/OscoreOption" "partialIv" "[B" .null) (F1 : Fld Z h0 q1 "com/example/isimud/isimud/oscore/OscoreOption" "kidContext" "[B" .null) (F2 : Fld Z h0 q1 "com/example/isimud/isimud/oscore/OscoreOption" "kid" "[B" .null) (Eq : Exa Z h0 q1 "com/example/isimud/isimud/oscore/OscoreOption") (gq : n0 ≤ q1) (r2 : v2.isRef = true) (r3 : v3.isRef = true) (r4 : v4.isRef = true) :
    MetFree l (⟨"com/example/isimud/isimud/oscore/OscoreOption", "<init>", "([B[B[B)V"⟩ : MethodName) (head1 (Jvm.Cond.code (⟨"com/example/isimud/isimud/oscore/OscoreOption", "<init>", "([B[B[B)V"⟩ : MethodName) prog_18_method_1_code 4 none :: ws) ({ frames := 1, cells := 0, slots := 0, locals := 12 } : Room)) (fun a U => a = #[(.ref q1), v2, v3, v4] ∧ Z.Warmed39 U.vm ∧ U.heap = h0) (fun _ _ _ _ _ => True) (fun _ U o U' => ∃ v L, o = .returned v ∧ own_Qc Z q1 v2 v3 v4 h0 n0 v U'.heap L ∧ FrameEnd U o U' L ({ frames := 1, cells := 0, slots := 0, locals := 12 } : Room).cells ({ frames := 1, cells := 0, slots := 0, locals := 12 } : Room).slots) := by
  refine MetFree.of_bodySF (plainFor_of_name pn_com_example_isimud_isimud_oscore_OscoreOption) hisR ?_
  intro p e s m args below meth c s₁ Bd hml0 hP hK
  obtain ⟨rfl, hZ, hh⟩ := hP
  have hx := Bd.exec
  have hby := Bd.bytes
  have hlk : meth.locks = false := BodyLoose.notSynchronized Bd
  have hml : c.maxLocals = 4 := hml0
  have hown : s.vm.findClass "com/example/isimud/isimud/oscore/OscoreOption" = some m.cls := findClass_of_methodNamed Bd.named
  have hnm := (name_of_methodNamed Bd.named Bd.method).1
  have X0 : Stand p l e ({ frames := 1, cells := 0, slots := 0, locals := 12 } : Room) s m #[(.ref q1), v2, v3, v4] below meth c s₁ [] 0 0 := Stand.of_body Bd
  have e0 : s₁.heap = h0 := by rw [← hh, Bd.state]; rfl
  have N0 := Fr.nil n0
  refine own_cast (K := own_K s (own_Qc Z q1 v2 v3 v4 h0 n0) 0 0) (ef_prog_18_1 m q1 v2 v3 v4 r2 r3 r4) ?_
  generalize hKK : own_K s (own_Qc Z q1 v2 v3 v4 h0 n0) 0 0 = KK
  show own_Go p e below KK s₁ (mkF m 0 #[.val (.ref q1), .val v2, .val v3, .val v4] [])
  have Kp0 : Keep h0 h0 [q1] := Keep.refl _ _
  refine own_at (fun t k => XS.aloadN X0.here hx rfl (hb hby d_prog_18_1_0) rfl rfl k) ?_
  show own_Go p e below KK s₁ (mkF m 1 #[.val (.ref q1), .val v2, .val v3, .val v4] [(.ref q1)])
  obtain ⟨T1, X1, e1, st1⟩ := initO X0 hx hZ hown (hw _ (List.mem_of_getElem? (i := 23) rfl)) (hw _ (List.mem_of_getElem? (i := 24) rfl)) (hw _ (List.mem_of_getElem? (i := 25) rfl)) e0 (g := (mkF m 1 #[.val (.ref q1), .val v2, .val v3, .val v4] [(.ref q1)])) rfl (by rw [hml]; rfl) rfl (hb hby d_prog_18_1_1) (by decide) (W := 0) (by show 2 * 0 + _ ≤ _; exact Nat.le_of_eq rfl) (by decide)
  refine own_of (fun t k => st1 t k) ?_
  show own_Go p e below KK T1 (mkF m 4 #[.val (.ref q1), .val v2, .val v3, .val v4] [])
  refine own_at (fun t k => XS.aloadN X1.here hx rfl (hb hby d_prog_18_1_4) rfl rfl k) ?_
  show own_Go p e below KK T1 (mkF m 5 #[.val (.ref q1), .val v2, .val v3, .val v4] [(.ref q1)])
  refine own_at (fun t k => XS.aloadN X1.here hx rfl (hb hby d_prog_18_1_5) rfl r2 k) ?_
  show own_Go p e below KK T1 (mkF m 6 #[.val (.ref q1), .val v2, .val v3, .val v4] [v2, (.ref q1)])
  obtain ⟨T2, h2, X2, e2, W2, st2⟩ := putF X1 hx hZ hown (host := "") (Or.inl (hw _ (List.mem_of_getElem? (i := 26) rfl))) Via.refl e1 F0 Eq (Or.inr ⟨(hw _ (List.mem_of_getElem? (i := 27) rfl)), rfl, hnm⟩) (hw _ (List.mem_of_getElem? (i := 10) rfl)) (ty := (.array .byte)) (by decide) (own_nA r2).1 (own_nA r2).2 (g := (mkF m 6 #[.val (.ref q1), .val v2, .val v3, .val v4] [v2, (.ref q1)])) rfl rfl (hb hby d_prog_18_1_6)
  have N2 := Fr.snoc X2 N0 gq
  have F1_h2 : Fld Z h2 q1 "com/example/isimud/isimud/oscore/OscoreOption" "kidContext" "[B" .null := F1.other W2 (Or.inr (slot_ne (C := "com/example/isimud/isimud/oscore/OscoreOption") (Or.inr (hw _ (List.mem_of_getElem? (i := 29) rfl))) (Or.inr (hw _ (List.mem_of_getElem? (i := 27) rfl))) (by decide) (t := (.array .byte)) (t' := (.array .byte)) (by decide) (by decide)))
  have F2_h2 : Fld Z h2 q1 "com/example/isimud/isimud/oscore/OscoreOption" "kid" "[B" .null := F2.other W2 (Or.inr (slot_ne (C := "com/example/isimud/isimud/oscore/OscoreOption") (Or.inr (hw _ (List.mem_of_getElem? (i := 31) rfl))) (Or.inr (hw _ (List.mem_of_getElem? (i := 27) rfl))) (by decide) (t := (.array .byte)) (t' := (.array .byte)) (by decide) (by decide)))
  have Eq_h2 : Exa Z h2 q1 "com/example/isimud/isimud/oscore/OscoreOption" := Eq.wr W2
  have Zs2 : n0 ≤ h2.size := (by rw [W2.size]; exact Z0)
  have Kp2 : Keep h0 h2 [q1] := Kp0.wr W2 (Or.inl (by simp))
  have F3_q1 : Fld Z h2 q1 "com/example/isimud/isimud/oscore/OscoreOption" "partialIv" "[B" v2 := F0.same W2
  refine own_of (fun t k => st2 t k) ?_
  show own_Go p e below KK T2 (mkF m 9 #[.val (.ref q1), .val v2, .val v3, .val v4] [])
  refine own_at (fun t k => XS.aloadN X2.here hx rfl (hb hby d_prog_18_1_9) rfl rfl k) ?_
  show own_Go p e below KK T2 (mkF m 10 #[.val (.ref q1), .val v2, .val v3, .val v4] [(.ref q1)])
  refine own_at (fun t k => XS.aloadN X2.here hx rfl (hb hby d_prog_18_1_10) rfl r3 k) ?_
  show own_Go p e below KK T2 (mkF m 11 #[.val (.ref q1), .val v2, .val v3, .val v4] [v3, (.ref q1)])
  obtain ⟨T4, h4, X4, e4, W4, st4⟩ := putF X2 hx hZ hown (host := "") (Or.inl (hw _ (List.mem_of_getElem? (i := 28) rfl))) Via.refl e2 F1_h2 Eq_h2 (Or.inr ⟨(hw _ (List.mem_of_getElem? (i := 29) rfl)), rfl, hnm⟩) (hw _ (List.mem_of_getElem? (i := 10) rfl)) (ty := (.array .byte)) (by decide) (own_nA r3).1 (own_nA r3).2 (g := (mkF m 11 #[.val (.ref q1), .val v2, .val v3, .val v4] [v3, (.ref q1)])) rfl rfl (hb hby d_prog_18_1_11)
  have N4 := Fr.snoc X4 N2 gq
  have F3_q1_h4 : Fld Z h4 q1 "com/example/isimud/isimud/oscore/OscoreOption" "partialIv" "[B" v2 := F3_q1.other W4 (Or.inr (slot_ne (C := "com/example/isimud/isimud/oscore/OscoreOption") (Or.inr (hw _ (List.mem_of_getElem? (i := 27) rfl))) (Or.inr (hw _ (List.mem_of_getElem? (i := 29) rfl))) (by decide) (t := (.array .byte)) (t' := (.array .byte)) (by decide) (by decide)))
  have F2_h4 : Fld Z h4 q1 "com/example/isimud/isimud/oscore/OscoreOption" "kid" "[B" .null := F2_h2.other W4 (Or.inr (slot_ne (C := "com/example/isimud/isimud/oscore/OscoreOption") (Or.inr (hw _ (List.mem_of_getElem? (i := 31) rfl))) (Or.inr (hw _ (List.mem_of_getElem? (i := 29) rfl))) (by decide) (t := (.array .byte)) (t' := (.array .byte)) (by decide) (by decide)))
  have Eq_h4 : Exa Z h4 q1 "com/example/isimud/isimud/oscore/OscoreOption" := Eq_h2.wr W4
  have Zs4 : n0 ≤ h4.size := (by rw [W4.size]; exact Zs2)
  have Kp4 : Keep h0 h4 [q1] := Kp2.wr W4 (Or.inl (by simp))
  have F5_q1 : Fld Z h4 q1 "com/example/isimud/isimud/oscore/OscoreOption" "kidContext" "[B" v3 := F1_h2.same W4
  refine own_of (fun t k => st4 t k) ?_
  show own_Go p e below KK T4 (mkF m 14 #[.val (.ref q1), .val v2, .val v3, .val v4] [])
  refine own_at (fun t k => XS.aloadN X4.here hx rfl (hb hby d_prog_18_1_14) rfl rfl k) ?_
  show own_Go p e below KK T4 (mkF m 15 #[.val (.ref q1), .val v2, .val v3, .val v4] [(.ref q1)])
  refine own_at (fun t k => XS.aloadN X4.here hx rfl (hb hby d_prog_18_1_15) rfl r4 k) ?_
  show own_Go p e below KK T4 (mkF m 16 #[.val (.ref q1), .val v2, .val v3, .val v4] [v4, (.ref q1)])
  obtain ⟨T6, h6, X6, e6, W6, st6⟩ := putF X4 hx hZ hown (host := "") (Or.inl (hw _ (List.mem_of_getElem? (i := 30) rfl))) Via.refl e4 F2_h4 Eq_h4 (Or.inr ⟨(hw _ (List.mem_of_getElem? (i := 31) rfl)), rfl, hnm⟩) (hw _ (List.mem_of_getElem? (i := 10) rfl)) (ty := (.array .byte)) (by decide) (own_nA r4).1 (own_nA r4).2 (g := (mkF m 16 #[.val (.ref q1), .val v2, .val v3, .val v4] [v4, (.ref q1)])) rfl rfl (hb hby d_prog_18_1_16)
  have N6 := Fr.snoc X6 N4 gq
  have F3_q1_h6 : Fld Z h6 q1 "com/example/isimud/isimud/oscore/OscoreOption" "partialIv" "[B" v2 := F3_q1_h4.other W6 (Or.inr (slot_ne (C := "com/example/isimud/isimud/oscore/OscoreOption") (Or.inr (hw _ (List.mem_of_getElem? (i := 27) rfl))) (Or.inr (hw _ (List.mem_of_getElem? (i := 31) rfl))) (by decide) (t := (.array .byte)) (t' := (.array .byte)) (by decide) (by decide)))
  have F5_q1_h6 : Fld Z h6 q1 "com/example/isimud/isimud/oscore/OscoreOption" "kidContext" "[B" v3 := F5_q1.other W6 (Or.inr (slot_ne (C := "com/example/isimud/isimud/oscore/OscoreOption") (Or.inr (hw _ (List.mem_of_getElem? (i := 29) rfl))) (Or.inr (hw _ (List.mem_of_getElem? (i := 31) rfl))) (by decide) (t := (.array .byte)) (t' := (.array .byte)) (by decide) (by decide)))
  have Eq_h6 : Exa Z h6 q1 "com/example/isimud/isimud/oscore/OscoreOption" := Eq_h4.wr W6
  have Zs6 : n0 ≤ h6.size := (by rw [W6.size]; exact Zs4)
  have Kp6 : Keep h0 h6 [q1] := Kp4.wr W6 (Or.inl (by simp))
  have F7_q1 : Fld Z h6 q1 "com/example/isimud/isimud/oscore/OscoreOption" "kid" "[B" v4 := F2_h4.same W6
  refine own_of (fun t k => st6 t k) ?_
  show own_Go p e below KK T6 (mkF m 19 #[.val (.ref q1), .val v2, .val v3, .val v4] [])
  subst hKK
  exact own_retV X6 hx hlk Bd.returns (hb hby d_prog_18_1_19) ⟨rfl, N6, by rw [e6]; exact Kp6, by rw [e6]; exact Eq_h6, by rw [e6]; exact F3_q1_h6, by rw [e6]; exact F5_q1_h6, by rw [e6]; exact F7_q1⟩ (Nat.le_of_ble_eq_true rfl) (Nat.le_of_ble_eq_true rfl)
def own_Qo (Z : State) (vs1 vs2 : List Value) (h0 : Heap) (n0 : Nat) (v : Option Value) (h : Heap) (L : List Loc) : Prop := ∃ b x y : Addr, v = some (.ref b) ∧ Fr n0 L ∧ Keep h0 h [] ∧ n0 ≤ b ∧ h0.size ≤ b ∧ h0.size ≤ x ∧ h0.size ≤ y ∧ Exa Z h b "com/example/isimud/isimud/oscore/OscoreOption" ∧ Fld Z h b "com/example/isimud/isimud/oscore/OscoreOption" "partialIv" "[B" (.ref x) ∧ Fld Z h b "com/example/isimud/isimud/oscore/OscoreOption" "kidContext" "[B" .null ∧ Fld Z h b "com/example/isimud/isimud/oscore/OscoreOption" "kid" "[B" (.ref y) ∧ own_A Z h x "[B" .byte vs1 ∧ own_A Z h y "[B" .byte vs2
theorem ef_prog_18_2 (m : MethodId) (x0 : Addr) (x1 : Addr) : entryFrame m #[(.ref x0), (.ref x1)] 2 = mkF m 0 #[.val (.ref x0), .val (.ref x1)] [] := by first | (simp [entryFrame, mkF, argsToLocals, Value.category]; done) | rfl
theorem d_prog_18_2_0 : decode prog_18_method_2_code 0 = .ok (.new 8, 3) := by decide +kernel
theorem d_prog_18_2_3 : decode prog_18_method_2_code 3 = .ok (.dup, 1) := by decide +kernel
theorem d_prog_18_2_4 : decode prog_18_method_2_code 4 = .ok (.aload_n 0, 1) := by decide +kernel
theorem d_prog_18_2_5 : decode prog_18_method_2_code 5 = .ok (.invokevirtual 19, 3) := by decide +kernel
theorem d_prog_18_2_8 : decode prog_18_method_2_code 8 = .ok (.checkcast 20, 3) := by decide +kernel
theorem d_prog_18_2_11 : decode prog_18_method_2_code 11 = .ok (.aconst_null, 1) := by decide +kernel
theorem d_prog_18_2_12 : decode prog_18_method_2_code 12 = .ok (.aload_n 1, 1) := by decide +kernel
theorem d_prog_18_2_13 : decode prog_18_method_2_code 13 = .ok (.invokevirtual 19, 3) := by decide +kernel
theorem d_prog_18_2_16 : decode prog_18_method_2_code 16 = .ok (.checkcast 20, 3) := by decide +kernel
theorem d_prog_18_2_19 : decode prog_18_method_2_code 19 = .ok (.invokespecial 24, 3) := by decide +kernel
theorem pd___B_B_B_V : parseMethodDescriptor "([B[B[B)V" = some ⟨[(.array .byte), (.array .byte), (.array .byte)], none⟩ := by decide +kernel
theorem d_prog_18_2_22 : decode prog_18_method_2_code 22 = .ok (.areturn, 1) := by decide +kernel
set_option maxRecDepth 65536 in
set_option maxHeartbeats 40000000 in
theorem rm_of (l : Launch) (Z : State) (a0 : Array Value) (hw : ∀ d ∈ tables_1, d.before a0 Z = true) (ws : List Jvm.Cond) (q1 : Addr) (q2 : Addr) (vs1 vs2 : List Value) (h0 : Heap) (n0 : Nat) (Z0 : n0 ≤ h0.size) (Aq1 : own_A Z h0 q1 "[B" .byte vs1) (Aq2 : own_A Z h0 q2 "[B" .byte vs2) (hl1 : vs1.length ≤ 7) (hl2 : vs2.length ≤ 7) :
    MetFree l (⟨"com/example/isimud/isimud/oscore/OscoreOption", "ofRequest", "([B[B)Lcom/example/isimud/isimud/oscore/OscoreOption;"⟩ : MethodName) (head1 (Jvm.Cond.code (⟨"com/example/isimud/isimud/oscore/OscoreOption", "ofRequest", "([B[B)Lcom/example/isimud/isimud/oscore/OscoreOption;"⟩ : MethodName) prog_18_method_2_code 2 (some (.object "com/example/isimud/isimud/oscore/OscoreOption")) :: ws) ({ frames := 2, cells := 3, slots := 17, locals := 28 } : Room)) (fun a U => a = #[(.ref q1), (.ref q2)] ∧ Z.Warmed39 U.vm ∧ U.heap = h0) (fun _ _ _ _ _ => True) (fun _ U o U' => ∃ v L, o = .returned v ∧ own_Qo Z vs1 vs2 h0 n0 v U'.heap L ∧ FrameEnd U o U' L ({ frames := 2, cells := 3, slots := 17, locals := 28 } : Room).cells ({ frames := 2, cells := 3, slots := 17, locals := 28 } : Room).slots) := by
  refine MetFree.of_bodySF (plainFor_of_name pn_com_example_isimud_isimud_oscore_OscoreOption) hisR ?_
  intro p e s m args below meth c s₁ Bd hml0 hP hK
  obtain ⟨rfl, hZ, hh⟩ := hP
  have hx := Bd.exec
  have hby := Bd.bytes
  have hlk : meth.locks = false := BodyLoose.notSynchronized Bd
  have hml : c.maxLocals = 2 := hml0
  have hown : s.vm.findClass "com/example/isimud/isimud/oscore/OscoreOption" = some m.cls := findClass_of_methodNamed Bd.named
  have hnm := (name_of_methodNamed Bd.named Bd.method).1
  have X0 : Stand p l e ({ frames := 2, cells := 3, slots := 17, locals := 28 } : Room) s m #[(.ref q1), (.ref q2)] below meth c s₁ [] 0 0 := Stand.of_body Bd
  have e0 : s₁.heap = h0 := by rw [← hh, Bd.state]; rfl
  have N0 := Fr.nil n0
  refine own_cast (K := own_K s (own_Qo Z vs1 vs2 h0 n0) 3 17) (ef_prog_18_2 m q1 q2) ?_
  generalize hKK : own_K s (own_Qo Z vs1 vs2 h0 n0) 3 17 = KK
  show own_Go p e below KK s₁ (mkF m 0 #[.val (.ref q1), .val (.ref q2)] [])
  have Kp0 : Keep h0 h0 [] := Keep.refl _ _
  obtain ⟨T1, h1, X1, e1, E1, A1, D1, -, st1⟩ := newO X0 hx hZ hown (hw _ (List.mem_of_getElem? (i := 9) rfl)) (hw _ (List.mem_of_getElem? (i := 10) rfl)) (hw _ (List.mem_of_getElem? (i := 7) rfl)) e0 (g := (mkF m 0 #[.val (.ref q1), .val (.ref q2)] [])) rfl (hb hby d_prog_18_2_0) (by decide) (by decide)
  obtain ⟨b1, g1⟩ : ∃ z, z = h0.size := ⟨_, rfl⟩
  rw [← g1] at A1 D1 st1
  have ne_q1_b1 : q1 ≠ b1 := by rw [g1]; exact Nat.ne_of_lt Aq1.lt
  have ne_q2_b1 : q2 ≠ b1 := by rw [g1]; exact Nat.ne_of_lt Aq2.lt
  have g_b1 : n0 ≤ b1 := by rw [g1]; exact Z0
  have sz_b1 : h0.size ≤ b1 := by rw [g1]; exact Kp0.1
  have Aq1_h1 : own_A Z h1 q1 "[B" .byte vs1 := Aq1.ext E1
  have Aq2_h1 : own_A Z h1 q2 "[B" .byte vs2 := Aq2.ext E1
  have Zs1 : n0 ≤ h1.size := Nat.le_trans Z0 E1.1
  have Kp1 : Keep h0 h1 [] := Kp0.ext E1
  have E2_b1 : Exa Z h1 b1 "com/example/isimud/isimud/oscore/OscoreOption" := A1
  have F3_b1 : Fld Z h1 b1 "com/example/isimud/isimud/oscore/OscoreOption" "partialIv" "[B" .null := D1 (Or.inr (hw _ (List.mem_of_getElem? (i := 27) rfl))) (ty := (.array .byte)) (by decide)
  have F4_b1 : Fld Z h1 b1 "com/example/isimud/isimud/oscore/OscoreOption" "kidContext" "[B" .null := D1 (Or.inr (hw _ (List.mem_of_getElem? (i := 29) rfl))) (ty := (.array .byte)) (by decide)
  have F5_b1 : Fld Z h1 b1 "com/example/isimud/isimud/oscore/OscoreOption" "kid" "[B" .null := D1 (Or.inr (hw _ (List.mem_of_getElem? (i := 31) rfl))) (ty := (.array .byte)) (by decide)
  refine own_of (fun t k => st1 t k) ?_
  show own_Go p e below KK T1 (mkF m 3 #[.val (.ref q1), .val (.ref q2)] [(.ref b1)])
  refine own_at (fun t k => XS.dup X1.here hx rfl (hb hby d_prog_18_2_3) rfl rfl k) ?_
  show own_Go p e below KK T1 (mkF m 4 #[.val (.ref q1), .val (.ref q2)] [(.ref b1), (.ref b1)])
  refine own_at (fun t k => XS.aloadN X1.here hx rfl (hb hby d_prog_18_2_4) rfl rfl k) ?_
  show own_Go p e below KK T1 (mkF m 5 #[.val (.ref q1), .val (.ref q2)] [(.ref q1), (.ref b1), (.ref b1)])
  obtain ⟨T6, h6, X6, e6, E6, V6, st6⟩ := own_clone X1 hx hZ hown (hw _ (List.mem_of_getElem? (i := 11) rfl)) (hw _ (List.mem_of_getElem? (i := 12) rfl)) (hw _ (List.mem_of_getElem? (i := 16) rfl)) (hw _ (List.mem_of_getElem? (i := 14) rfl)) (hw _ (List.mem_of_getElem? (i := 15) rfl)) (hw _ (List.mem_of_getElem? (i := 17) rfl)) e1 Aq1_h1 (g := (mkF m 5 #[.val (.ref q1), .val (.ref q2)] [(.ref q1), (.ref b1), (.ref b1)])) rfl (by rw [hml]; rfl) rfl (hb hby d_prog_18_2_5) (by decide) (W := 2) (cap := 7) (by show 2 * 0 + _ ≤ _; exact Nat.le_of_eq rfl) (by decide) hl1 (by decide) (by decide)
  obtain ⟨b6, g6⟩ : ∃ z, z = h1.size := ⟨_, rfl⟩
  rw [← g6] at V6 st6
  have ne_b1_b6 : b1 ≠ b6 := by rw [g6]; exact Nat.ne_of_lt E2_b1.lt
  have ne_q1_b6 : q1 ≠ b6 := by rw [g6]; exact Nat.ne_of_lt Aq1_h1.lt
  have ne_q2_b6 : q2 ≠ b6 := by rw [g6]; exact Nat.ne_of_lt Aq2_h1.lt
  have g_b6 : n0 ≤ b6 := by rw [g6]; exact Zs1
  have sz_b6 : h0.size ≤ b6 := by rw [g6]; exact Kp1.1
  have Aq1_h6 : own_A Z h6 q1 "[B" .byte vs1 := Aq1_h1.ext E6
  have Aq2_h6 : own_A Z h6 q2 "[B" .byte vs2 := Aq2_h1.ext E6
  have E2_b1_h6 : Exa Z h6 b1 "com/example/isimud/isimud/oscore/OscoreOption" := E2_b1.ext E6
  have F3_b1_h6 : Fld Z h6 b1 "com/example/isimud/isimud/oscore/OscoreOption" "partialIv" "[B" .null := F3_b1.ext E6
  have F4_b1_h6 : Fld Z h6 b1 "com/example/isimud/isimud/oscore/OscoreOption" "kidContext" "[B" .null := F4_b1.ext E6
  have F5_b1_h6 : Fld Z h6 b1 "com/example/isimud/isimud/oscore/OscoreOption" "kid" "[B" .null := F5_b1.ext E6
  have Zs6 : n0 ≤ h6.size := Nat.le_trans Zs1 E6.1
  have Kp6 : Keep h0 h6 [] := Kp1.ext E6
  have A7_b6 : own_A Z h6 b6 "[B" .byte vs1 := V6
  refine own_of (fun t k => st6 t k) ?_
  show own_Go p e below KK T6 (mkF m 8 #[.val (.ref q1), .val (.ref q2)] [(.ref b6), (.ref b1), (.ref b1)])
  obtain ⟨T8, X8, e8, st8⟩ := castY X6 hx hZ hown (hw _ (List.mem_of_getElem? (i := 18) rfl)) e6 (Ins.self A7_b6.exa) (g := (mkF m 8 #[.val (.ref q1), .val (.ref q2)] [(.ref b6), (.ref b1), (.ref b1)])) rfl rfl (hb hby d_prog_18_2_8)
  refine own_of (fun t k => st8 t k) ?_
  show own_Go p e below KK T8 (mkF m 11 #[.val (.ref q1), .val (.ref q2)] [(.ref b6), (.ref b1), (.ref b1)])
  refine own_at (fun t k => XS.aconstNull X8.here hx rfl (hb hby d_prog_18_2_11) k) ?_
  show own_Go p e below KK T8 (mkF m 12 #[.val (.ref q1), .val (.ref q2)] [.null, (.ref b6), (.ref b1), (.ref b1)])
  refine own_at (fun t k => XS.aloadN X8.here hx rfl (hb hby d_prog_18_2_12) rfl rfl k) ?_
  show own_Go p e below KK T8 (mkF m 13 #[.val (.ref q1), .val (.ref q2)] [(.ref q2), .null, (.ref b6), (.ref b1), (.ref b1)])
  obtain ⟨T9, h9, X9, e9, E9, V9, st9⟩ := own_clone X8 hx hZ hown (hw _ (List.mem_of_getElem? (i := 11) rfl)) (hw _ (List.mem_of_getElem? (i := 12) rfl)) (hw _ (List.mem_of_getElem? (i := 16) rfl)) (hw _ (List.mem_of_getElem? (i := 14) rfl)) (hw _ (List.mem_of_getElem? (i := 15) rfl)) (hw _ (List.mem_of_getElem? (i := 17) rfl)) e8 Aq2_h6 (g := (mkF m 13 #[.val (.ref q1), .val (.ref q2)] [(.ref q2), .null, (.ref b6), (.ref b1), (.ref b1)])) rfl (by rw [hml]; rfl) rfl (hb hby d_prog_18_2_13) (by decide) (W := 4) (cap := 7) (by show 2 * 0 + _ ≤ _; exact Nat.le_of_eq rfl) (by decide) hl2 (by decide) (by decide)
  obtain ⟨b9, g9⟩ : ∃ z, z = h6.size := ⟨_, rfl⟩
  rw [← g9] at V9 st9
  have ne_b1_b9 : b1 ≠ b9 := by rw [g9]; exact Nat.ne_of_lt E2_b1_h6.lt
  have ne_b6_b9 : b6 ≠ b9 := by rw [g9]; exact Nat.ne_of_lt A7_b6.lt
  have ne_q1_b9 : q1 ≠ b9 := by rw [g9]; exact Nat.ne_of_lt Aq1_h6.lt
  have ne_q2_b9 : q2 ≠ b9 := by rw [g9]; exact Nat.ne_of_lt Aq2_h6.lt
  have g_b9 : n0 ≤ b9 := by rw [g9]; exact Zs6
  have sz_b9 : h0.size ≤ b9 := by rw [g9]; exact Kp6.1
  have Aq1_h9 : own_A Z h9 q1 "[B" .byte vs1 := Aq1_h6.ext E9
  have Aq2_h9 : own_A Z h9 q2 "[B" .byte vs2 := Aq2_h6.ext E9
  have E2_b1_h9 : Exa Z h9 b1 "com/example/isimud/isimud/oscore/OscoreOption" := E2_b1_h6.ext E9
  have F3_b1_h9 : Fld Z h9 b1 "com/example/isimud/isimud/oscore/OscoreOption" "partialIv" "[B" .null := F3_b1_h6.ext E9
  have F4_b1_h9 : Fld Z h9 b1 "com/example/isimud/isimud/oscore/OscoreOption" "kidContext" "[B" .null := F4_b1_h6.ext E9
  have F5_b1_h9 : Fld Z h9 b1 "com/example/isimud/isimud/oscore/OscoreOption" "kid" "[B" .null := F5_b1_h6.ext E9
  have A7_b6_h9 : own_A Z h9 b6 "[B" .byte vs1 := A7_b6.ext E9
  have Zs9 : n0 ≤ h9.size := Nat.le_trans Zs6 E9.1
  have Kp9 : Keep h0 h9 [] := Kp6.ext E9
  have A10_b9 : own_A Z h9 b9 "[B" .byte vs2 := V9
  refine own_of (fun t k => st9 t k) ?_
  show own_Go p e below KK T9 (mkF m 16 #[.val (.ref q1), .val (.ref q2)] [(.ref b9), .null, (.ref b6), (.ref b1), (.ref b1)])
  obtain ⟨T11, X11, e11, st11⟩ := castY X9 hx hZ hown (hw _ (List.mem_of_getElem? (i := 18) rfl)) e9 (Ins.self A10_b9.exa) (g := (mkF m 16 #[.val (.ref q1), .val (.ref q2)] [(.ref b9), .null, (.ref b6), (.ref b1), (.ref b1)])) rfl rfl (hb hby d_prog_18_2_16)
  refine own_of (fun t k => st11 t k) ?_
  show own_Go p e below KK T11 (mkF m 19 #[.val (.ref q1), .val (.ref q2)] [(.ref b9), .null, (.ref b6), (.ref b1), (.ref b1)])
  obtain ⟨_, _, ⟨T12, L12, k12, n12⟩, -, X12, ⟨Lc12, hQ12, l12, y12, z12⟩, st12⟩ := X11.specialBack hx (y := (⟨"com/example/isimud/isimud/oscore/OscoreOption", "<init>", "([B[B[B)V"⟩ : MethodName)) rfl hown (mvT hZ (hw _ (List.mem_of_getElem? (i := 20) rfl))) (mvT hZ (hw _ (List.mem_of_getElem? (i := 21) rfl))) (mvT hZ (hw _ (List.mem_of_getElem? (i := 22) rfl))) (by decide) (backOf (W := 1) (rm_ctor l Z a0 hw [] b1 (.ref b6) .null (.ref b9)  h9 n0 Zs9 F3_b1_h9 F4_b1_h9 F5_b1_h9 E2_b1_h9 g_b1 rfl rfl rfl) hZ (hw _ (List.mem_of_getElem? (i := 22) rfl)) (hw _ (List.mem_of_getElem? (i := 7) rfl)) (by decide) (by decide)) (g := (mkF m 19 #[.val (.ref q1), .val (.ref q2)] [(.ref b9), .null, (.ref b6), (.ref b1), (.ref b1)])) rfl (by rw [hml]; rfl) (Steps.refl _) (a := b1) (argsL := [(.ref b6), .null, (.ref b9)]) (rest := [(.ref b1)]) (lenOf pd___B_B_B_V rfl) rfl (by show 2 * 0 + _ ≤ _; exact Nat.le_of_eq rfl) (hb hby d_prog_18_2_19) (fun _ _ => ⟨rfl, e11, (by decide : 3 + 0 ≤ _), (by decide : 17 + 0 ≤ _)⟩)
  dsimp only [Pt.U, Pt.locs, Pt.cells, Pt.slots] at X12 l12 y12 z12 st12 hQ12
  subst l12 y12 z12
  obtain ⟨rfl, N12q, K12, Ex12, Fx12, Fy12, Fz12⟩ := hQ12
  have Aq1_h12 : own_A Z T12.heap q1 "[B" .byte vs1 := Aq1_h9.keep K12 (ninS ne_q1_b1 nin0)
  have Aq2_h12 : own_A Z T12.heap q2 "[B" .byte vs2 := Aq2_h9.keep K12 (ninS ne_q2_b1 nin0)
  have A7_b6_h12 : own_A Z T12.heap b6 "[B" .byte vs1 := A7_b6_h9.keep K12 (ninS ne_b1_b6.symm nin0)
  have A10_b9_h12 : own_A Z T12.heap b9 "[B" .byte vs2 := A10_b9.keep K12 (ninS ne_b1_b9.symm nin0)
  have Zs12 : n0 ≤ T12.heap.size := Nat.le_trans Zs9 K12.1
  have Kp12 : Keep h0 T12.heap [] := Kp9.trans K12 (allS (Or.inr sz_b1) all0)
  have E13_b1 : Exa Z T12.heap b1 "com/example/isimud/isimud/oscore/OscoreOption" := Ex12
  have F14_b1 : Fld Z T12.heap b1 "com/example/isimud/isimud/oscore/OscoreOption" "partialIv" "[B" (.ref b6) := Fx12
  have F15_b1 : Fld Z T12.heap b1 "com/example/isimud/isimud/oscore/OscoreOption" "kidContext" "[B" .null := Fy12
  have F16_b1 : Fld Z T12.heap b1 "com/example/isimud/isimud/oscore/OscoreOption" "kid" "[B" (.ref b9) := Fz12
  have N12 := Fr.app N0 N12q
  refine own_of (fun t k => st12.trans k) ?_
  show own_Go p e below KK T12 (mkF m 22 #[.val (.ref q1), .val (.ref q2)] [(.ref b1)])
  subst hKK
  exact own_retA X12 hx hlk rfl Bd.returns rfl (hb hby d_prog_18_2_22) ⟨b1, b6, b9, rfl, N12, Kp12, g_b1, sz_b1, sz_b6, sz_b9, E13_b1, F14_b1, F15_b1, F16_b1, A7_b6_h12, A10_b9_h12⟩ (Nat.le_of_ble_eq_true rfl) (Nat.le_of_ble_eq_true rfl)
theorem ef_prog_18_5 (m : MethodId) (x0 : Addr) : entryFrame m #[(.ref x0)] 1 = mkF m 0 #[.val (.ref x0)] [] := by first | (simp [entryFrame, mkF, argsToLocals, Value.category]; done) | rfl
theorem d_prog_18_5_0 : decode prog_18_method_5_code 0 = .ok (.aload_n 0, 1) := by decide +kernel
theorem d_prog_18_5_1 : decode prog_18_method_5_code 1 = .ok (.getfield 7, 3) := by decide +kernel
theorem d_prog_18_5_4 : decode prog_18_method_5_code 4 = .ok (.ifnonnull 7, 3) := by decide +kernel
theorem d_prog_18_5_11 : decode prog_18_method_5_code 11 = .ok (.aload_n 0, 1) := by decide +kernel
theorem d_prog_18_5_12 : decode prog_18_method_5_code 12 = .ok (.getfield 7, 3) := by decide +kernel
theorem d_prog_18_5_15 : decode prog_18_method_5_code 15 = .ok (.invokevirtual 19, 3) := by decide +kernel
theorem d_prog_18_5_18 : decode prog_18_method_5_code 18 = .ok (.checkcast 20, 3) := by decide +kernel
theorem d_prog_18_5_21 : decode prog_18_method_5_code 21 = .ok (.areturn, 1) := by decide +kernel
set_option maxRecDepth 65536 in
set_option maxHeartbeats 40000000 in
theorem rm_partialIv (l : Launch) (Z : State) (a0 : Array Value) (hw : ∀ d ∈ tables_1, d.before a0 Z = true) (ws : List Jvm.Cond) (q1 : Addr) (w : Addr) (vs : List Value) (h0 : Heap) (n0 : Nat) (Z0 : n0 ≤ h0.size) (Fq : Fld Z h0 q1 "com/example/isimud/isimud/oscore/OscoreOption" "partialIv" "[B" (.ref w)) (Aq : own_A Z h0 w "[B" .byte vs) (hl : vs.length ≤ 7) :
    MetFree l (⟨"com/example/isimud/isimud/oscore/OscoreOption", "partialIv", "()[B"⟩ : MethodName) (head1 (Jvm.Cond.code (⟨"com/example/isimud/isimud/oscore/OscoreOption", "partialIv", "()[B"⟩ : MethodName) prog_18_method_5_code 1 (some (.array .byte)) :: ws) ({ frames := 1, cells := 1, slots := 7, locals := 14 } : Room)) (fun a U => a = #[(.ref q1)] ∧ Z.Warmed39 U.vm ∧ U.heap = h0) (fun _ _ _ _ _ => True) (fun _ U o U' => ∃ v L, o = .returned v ∧ own_Qf Z vs h0 n0 v U'.heap L ∧ FrameEnd U o U' L ({ frames := 1, cells := 1, slots := 7, locals := 14 } : Room).cells ({ frames := 1, cells := 1, slots := 7, locals := 14 } : Room).slots) := by
  refine MetFree.of_bodySF (plainFor_of_name pn_com_example_isimud_isimud_oscore_OscoreOption) hisR ?_
  intro p e s m args below meth c s₁ Bd hml0 hP hK
  obtain ⟨rfl, hZ, hh⟩ := hP
  have hx := Bd.exec
  have hby := Bd.bytes
  have hlk : meth.locks = false := BodyLoose.notSynchronized Bd
  have hml : c.maxLocals = 1 := hml0
  have hown : s.vm.findClass "com/example/isimud/isimud/oscore/OscoreOption" = some m.cls := findClass_of_methodNamed Bd.named
  have hnm := (name_of_methodNamed Bd.named Bd.method).1
  have X0 : Stand p l e ({ frames := 1, cells := 1, slots := 7, locals := 14 } : Room) s m #[(.ref q1)] below meth c s₁ [] 0 0 := Stand.of_body Bd
  have e0 : s₁.heap = h0 := by rw [← hh, Bd.state]; rfl
  have N0 := Fr.nil n0
  refine own_cast (K := own_K s (own_Qf Z vs h0 n0) 1 7) (ef_prog_18_5 m q1) ?_
  generalize hKK : own_K s (own_Qf Z vs h0 n0) 1 7 = KK
  show own_Go p e below KK s₁ (mkF m 0 #[.val (.ref q1)] [])
  have Kp0 : Keep h0 h0 [] := Keep.refl _ _
  refine own_at (fun t k => XS.aloadN X0.here hx rfl (hb hby d_prog_18_5_0) rfl rfl k) ?_
  show own_Go p e below KK s₁ (mkF m 1 #[.val (.ref q1)] [(.ref q1)])
  obtain ⟨T1, X1, e1, st1⟩ := getF X0 hx hZ hown (host := "") (Or.inl (hw _ (List.mem_of_getElem? (i := 26) rfl))) Via.refl e0 Fq (g := (mkF m 1 #[.val (.ref q1)] [(.ref q1)])) rfl rfl (hb hby d_prog_18_5_1)
  refine own_of (fun t k => st1 t k) ?_
  show own_Go p e below KK T1 (mkF m 4 #[.val (.ref q1)] [(.ref w)])
  refine own_at (fun t k => XS.ifnonnullYes X1.here hx rfl (pc0 := 4) (pc' := 11) rfl (hb hby d_prog_18_5_4) rfl (by decide) (by decide) k) ?_
  show own_Go p e below KK T1 (mkF m 11 #[.val (.ref q1)] [])
  refine own_at (fun t k => XS.aloadN X1.here hx rfl (hb hby d_prog_18_5_11) rfl rfl k) ?_
  show own_Go p e below KK T1 (mkF m 12 #[.val (.ref q1)] [(.ref q1)])
  obtain ⟨T2, X2, e2, st2⟩ := getF X1 hx hZ hown (host := "") (Or.inl (hw _ (List.mem_of_getElem? (i := 26) rfl))) Via.refl e1 Fq (g := (mkF m 12 #[.val (.ref q1)] [(.ref q1)])) rfl rfl (hb hby d_prog_18_5_12)
  refine own_of (fun t k => st2 t k) ?_
  show own_Go p e below KK T2 (mkF m 15 #[.val (.ref q1)] [(.ref w)])
  obtain ⟨T3, h3, X3, e3, E3, V3, st3⟩ := own_clone X2 hx hZ hown (hw _ (List.mem_of_getElem? (i := 11) rfl)) (hw _ (List.mem_of_getElem? (i := 12) rfl)) (hw _ (List.mem_of_getElem? (i := 16) rfl)) (hw _ (List.mem_of_getElem? (i := 14) rfl)) (hw _ (List.mem_of_getElem? (i := 15) rfl)) (hw _ (List.mem_of_getElem? (i := 17) rfl)) e2 Aq (g := (mkF m 15 #[.val (.ref q1)] [(.ref w)])) rfl (by rw [hml]; rfl) rfl (hb hby d_prog_18_5_15) (by decide) (W := 0) (cap := 7) (by show 2 * 0 + _ ≤ _; exact Nat.le_of_eq rfl) (by decide) hl (by decide) (by decide)
  obtain ⟨b3, g3⟩ : ∃ z, z = h0.size := ⟨_, rfl⟩
  rw [← g3] at V3 st3
  have ne_q1_b3 : q1 ≠ b3 := by rw [g3]; exact Nat.ne_of_lt Fq.lt
  have ne_w_b3 : w ≠ b3 := by rw [g3]; exact Nat.ne_of_lt Aq.lt
  have g_b3 : n0 ≤ b3 := by rw [g3]; exact Z0
  have sz_b3 : h0.size ≤ b3 := by rw [g3]; exact Kp0.1
  have Fq_h3 : Fld Z h3 q1 "com/example/isimud/isimud/oscore/OscoreOption" "partialIv" "[B" (.ref w) := Fq.ext E3
  have Aq_h3 : own_A Z h3 w "[B" .byte vs := Aq.ext E3
  have Zs3 : n0 ≤ h3.size := Nat.le_trans Z0 E3.1
  have Kp3 : Keep h0 h3 [] := Kp0.ext E3
  have A4_b3 : own_A Z h3 b3 "[B" .byte vs := V3
  refine own_of (fun t k => st3 t k) ?_
  show own_Go p e below KK T3 (mkF m 18 #[.val (.ref q1)] [(.ref b3)])
  obtain ⟨T5, X5, e5, st5⟩ := castY X3 hx hZ hown (hw _ (List.mem_of_getElem? (i := 18) rfl)) e3 (Ins.self A4_b3.exa) (g := (mkF m 18 #[.val (.ref q1)] [(.ref b3)])) rfl rfl (hb hby d_prog_18_5_18)
  refine own_of (fun t k => st5 t k) ?_
  show own_Go p e below KK T5 (mkF m 21 #[.val (.ref q1)] [(.ref b3)])
  subst hKK
  exact own_retA X5 hx hlk rfl Bd.returns rfl (hb hby d_prog_18_5_21) ⟨b3, rfl, N0, by rw [e5]; exact Kp3, g_b3, sz_b3, by rw [e5]; exact A4_b3⟩ (Nat.le_of_ble_eq_true rfl) (Nat.le_of_ble_eq_true rfl)
theorem ef_prog_18_6 (m : MethodId) (x0 : Addr) : entryFrame m #[(.ref x0)] 1 = mkF m 0 #[.val (.ref x0)] [] := by first | (simp [entryFrame, mkF, argsToLocals, Value.category]; done) | rfl
theorem d_prog_18_6_0 : decode prog_18_method_6_code 0 = .ok (.aload_n 0, 1) := by decide +kernel
theorem d_prog_18_6_1 : decode prog_18_method_6_code 1 = .ok (.getfield 13, 3) := by decide +kernel
theorem d_prog_18_6_4 : decode prog_18_method_6_code 4 = .ok (.ifnonnull 7, 3) := by decide +kernel
theorem d_prog_18_6_7 : decode prog_18_method_6_code 7 = .ok (.aconst_null, 1) := by decide +kernel
theorem d_prog_18_6_8 : decode prog_18_method_6_code 8 = .ok (.goto 13, 3) := by decide +kernel
theorem d_prog_18_6_21 : decode prog_18_method_6_code 21 = .ok (.areturn, 1) := by decide +kernel
set_option maxRecDepth 65536 in
set_option maxHeartbeats 40000000 in
theorem rm_kidContext0 (l : Launch) (Z : State) (a0 : Array Value) (hw : ∀ d ∈ tables_1, d.before a0 Z = true) (ws : List Jvm.Cond) (q1 : Addr)  (h0 : Heap) (n0 : Nat) (Z0 : n0 ≤ h0.size) (Fq : Fld Z h0 q1 "com/example/isimud/isimud/oscore/OscoreOption" "kidContext" "[B" .null) :
    MetFree l (⟨"com/example/isimud/isimud/oscore/OscoreOption", "kidContext", "()[B"⟩ : MethodName) (head1 (Jvm.Cond.code (⟨"com/example/isimud/isimud/oscore/OscoreOption", "kidContext", "()[B"⟩ : MethodName) prog_18_method_6_code 1 (some (.array .byte)) :: ws) ({ frames := 0, cells := 0, slots := 0, locals := 0 } : Room)) (fun a U => a = #[(.ref q1)] ∧ Z.Warmed39 U.vm ∧ U.heap = h0) (fun _ _ _ _ _ => True) (fun _ U o U' => ∃ v L, o = .returned v ∧ own_P .null h0 n0 v U'.heap L ∧ FrameEnd U o U' L ({ frames := 0, cells := 0, slots := 0, locals := 0 } : Room).cells ({ frames := 0, cells := 0, slots := 0, locals := 0 } : Room).slots) := by
  refine MetFree.of_bodySF (plainFor_of_name pn_com_example_isimud_isimud_oscore_OscoreOption) hisR ?_
  intro p e s m args below meth c s₁ Bd hml0 hP hK
  obtain ⟨rfl, hZ, hh⟩ := hP
  have hx := Bd.exec
  have hby := Bd.bytes
  have hlk : meth.locks = false := BodyLoose.notSynchronized Bd
  have hml : c.maxLocals = 1 := hml0
  have hown : s.vm.findClass "com/example/isimud/isimud/oscore/OscoreOption" = some m.cls := findClass_of_methodNamed Bd.named
  have hnm := (name_of_methodNamed Bd.named Bd.method).1
  have X0 : Stand p l e ({ frames := 0, cells := 0, slots := 0, locals := 0 } : Room) s m #[(.ref q1)] below meth c s₁ [] 0 0 := Stand.of_body Bd
  have e0 : s₁.heap = h0 := by rw [← hh, Bd.state]; rfl
  have N0 := Fr.nil n0
  refine own_cast (K := own_K s (own_P .null h0 n0) 0 0) (ef_prog_18_6 m q1) ?_
  generalize hKK : own_K s (own_P .null h0 n0) 0 0 = KK
  show own_Go p e below KK s₁ (mkF m 0 #[.val (.ref q1)] [])
  refine own_at (fun t k => XS.aloadN X0.here hx rfl (hb hby d_prog_18_6_0) rfl rfl k) ?_
  show own_Go p e below KK s₁ (mkF m 1 #[.val (.ref q1)] [(.ref q1)])
  obtain ⟨T1, X1, e1, st1⟩ := getF X0 hx hZ hown (host := "") (Or.inl (hw _ (List.mem_of_getElem? (i := 28) rfl))) Via.refl e0 Fq (g := (mkF m 1 #[.val (.ref q1)] [(.ref q1)])) rfl rfl (hb hby d_prog_18_6_1)
  refine own_of (fun t k => st1 t k) ?_
  show own_Go p e below KK T1 (mkF m 4 #[.val (.ref q1)] [.null])
  refine own_at (fun t k => XS.ifnonnullNo X1.here hx rfl (hb hby d_prog_18_6_4) rfl k) ?_
  show own_Go p e below KK T1 (mkF m 7 #[.val (.ref q1)] [])
  refine own_at (fun t k => XS.aconstNull X1.here hx rfl (hb hby d_prog_18_6_7) k) ?_
  show own_Go p e below KK T1 (mkF m 8 #[.val (.ref q1)] [.null])
  refine own_at (fun t k => XS.goto X1.here hx rfl (pc0 := 8) (pc' := 21) rfl (hb hby d_prog_18_6_8) (by decide) (by decide) k) ?_
  show own_Go p e below KK T1 (mkF m 21 #[.val (.ref q1)] [.null])
  subst hKK
  exact own_retA X1 hx hlk rfl Bd.returns rfl (hb hby d_prog_18_6_21) ⟨rfl, N0, e1⟩ (Nat.le_of_ble_eq_true rfl) (Nat.le_of_ble_eq_true rfl)
theorem ef_prog_18_7 (m : MethodId) (x0 : Addr) : entryFrame m #[(.ref x0)] 1 = mkF m 0 #[.val (.ref x0)] [] := by first | (simp [entryFrame, mkF, argsToLocals, Value.category]; done) | rfl
theorem d_prog_18_7_0 : decode prog_18_method_7_code 0 = .ok (.aload_n 0, 1) := by decide +kernel
theorem d_prog_18_7_1 : decode prog_18_method_7_code 1 = .ok (.getfield 16, 3) := by decide +kernel
theorem d_prog_18_7_4 : decode prog_18_method_7_code 4 = .ok (.ifnonnull 7, 3) := by decide +kernel
theorem d_prog_18_7_11 : decode prog_18_method_7_code 11 = .ok (.aload_n 0, 1) := by decide +kernel
theorem d_prog_18_7_12 : decode prog_18_method_7_code 12 = .ok (.getfield 16, 3) := by decide +kernel
theorem d_prog_18_7_15 : decode prog_18_method_7_code 15 = .ok (.invokevirtual 19, 3) := by decide +kernel
theorem d_prog_18_7_18 : decode prog_18_method_7_code 18 = .ok (.checkcast 20, 3) := by decide +kernel
theorem d_prog_18_7_21 : decode prog_18_method_7_code 21 = .ok (.areturn, 1) := by decide +kernel
set_option maxRecDepth 65536 in
set_option maxHeartbeats 40000000 in
theorem rm_kid (l : Launch) (Z : State) (a0 : Array Value) (hw : ∀ d ∈ tables_1, d.before a0 Z = true) (ws : List Jvm.Cond) (q1 : Addr) (w : Addr) (vs : List Value) (h0 : Heap) (n0 : Nat) (Z0 : n0 ≤ h0.size) (Fq : Fld Z h0 q1 "com/example/isimud/isimud/oscore/OscoreOption" "kid" "[B" (.ref w)) (Aq : own_A Z h0 w "[B" .byte vs) (hl : vs.length ≤ 7) :
    MetFree l (⟨"com/example/isimud/isimud/oscore/OscoreOption", "kid", "()[B"⟩ : MethodName) (head1 (Jvm.Cond.code (⟨"com/example/isimud/isimud/oscore/OscoreOption", "kid", "()[B"⟩ : MethodName) prog_18_method_7_code 1 (some (.array .byte)) :: ws) ({ frames := 1, cells := 1, slots := 7, locals := 14 } : Room)) (fun a U => a = #[(.ref q1)] ∧ Z.Warmed39 U.vm ∧ U.heap = h0) (fun _ _ _ _ _ => True) (fun _ U o U' => ∃ v L, o = .returned v ∧ own_Qf Z vs h0 n0 v U'.heap L ∧ FrameEnd U o U' L ({ frames := 1, cells := 1, slots := 7, locals := 14 } : Room).cells ({ frames := 1, cells := 1, slots := 7, locals := 14 } : Room).slots) := by
  refine MetFree.of_bodySF (plainFor_of_name pn_com_example_isimud_isimud_oscore_OscoreOption) hisR ?_
  intro p e s m args below meth c s₁ Bd hml0 hP hK
  obtain ⟨rfl, hZ, hh⟩ := hP
  have hx := Bd.exec
  have hby := Bd.bytes
  have hlk : meth.locks = false := BodyLoose.notSynchronized Bd
  have hml : c.maxLocals = 1 := hml0
  have hown : s.vm.findClass "com/example/isimud/isimud/oscore/OscoreOption" = some m.cls := findClass_of_methodNamed Bd.named
  have hnm := (name_of_methodNamed Bd.named Bd.method).1
  have X0 : Stand p l e ({ frames := 1, cells := 1, slots := 7, locals := 14 } : Room) s m #[(.ref q1)] below meth c s₁ [] 0 0 := Stand.of_body Bd
  have e0 : s₁.heap = h0 := by rw [← hh, Bd.state]; rfl
  have N0 := Fr.nil n0
  refine own_cast (K := own_K s (own_Qf Z vs h0 n0) 1 7) (ef_prog_18_7 m q1) ?_
  generalize hKK : own_K s (own_Qf Z vs h0 n0) 1 7 = KK
  show own_Go p e below KK s₁ (mkF m 0 #[.val (.ref q1)] [])
  have Kp0 : Keep h0 h0 [] := Keep.refl _ _
  refine own_at (fun t k => XS.aloadN X0.here hx rfl (hb hby d_prog_18_7_0) rfl rfl k) ?_
  show own_Go p e below KK s₁ (mkF m 1 #[.val (.ref q1)] [(.ref q1)])
  obtain ⟨T1, X1, e1, st1⟩ := getF X0 hx hZ hown (host := "") (Or.inl (hw _ (List.mem_of_getElem? (i := 30) rfl))) Via.refl e0 Fq (g := (mkF m 1 #[.val (.ref q1)] [(.ref q1)])) rfl rfl (hb hby d_prog_18_7_1)
  refine own_of (fun t k => st1 t k) ?_
  show own_Go p e below KK T1 (mkF m 4 #[.val (.ref q1)] [(.ref w)])
  refine own_at (fun t k => XS.ifnonnullYes X1.here hx rfl (pc0 := 4) (pc' := 11) rfl (hb hby d_prog_18_7_4) rfl (by decide) (by decide) k) ?_
  show own_Go p e below KK T1 (mkF m 11 #[.val (.ref q1)] [])
  refine own_at (fun t k => XS.aloadN X1.here hx rfl (hb hby d_prog_18_7_11) rfl rfl k) ?_
  show own_Go p e below KK T1 (mkF m 12 #[.val (.ref q1)] [(.ref q1)])
  obtain ⟨T2, X2, e2, st2⟩ := getF X1 hx hZ hown (host := "") (Or.inl (hw _ (List.mem_of_getElem? (i := 30) rfl))) Via.refl e1 Fq (g := (mkF m 12 #[.val (.ref q1)] [(.ref q1)])) rfl rfl (hb hby d_prog_18_7_12)
  refine own_of (fun t k => st2 t k) ?_
  show own_Go p e below KK T2 (mkF m 15 #[.val (.ref q1)] [(.ref w)])
  obtain ⟨T3, h3, X3, e3, E3, V3, st3⟩ := own_clone X2 hx hZ hown (hw _ (List.mem_of_getElem? (i := 11) rfl)) (hw _ (List.mem_of_getElem? (i := 12) rfl)) (hw _ (List.mem_of_getElem? (i := 16) rfl)) (hw _ (List.mem_of_getElem? (i := 14) rfl)) (hw _ (List.mem_of_getElem? (i := 15) rfl)) (hw _ (List.mem_of_getElem? (i := 17) rfl)) e2 Aq (g := (mkF m 15 #[.val (.ref q1)] [(.ref w)])) rfl (by rw [hml]; rfl) rfl (hb hby d_prog_18_7_15) (by decide) (W := 0) (cap := 7) (by show 2 * 0 + _ ≤ _; exact Nat.le_of_eq rfl) (by decide) hl (by decide) (by decide)
  obtain ⟨b3, g3⟩ : ∃ z, z = h0.size := ⟨_, rfl⟩
  rw [← g3] at V3 st3
  have ne_q1_b3 : q1 ≠ b3 := by rw [g3]; exact Nat.ne_of_lt Fq.lt
  have ne_w_b3 : w ≠ b3 := by rw [g3]; exact Nat.ne_of_lt Aq.lt
  have g_b3 : n0 ≤ b3 := by rw [g3]; exact Z0
  have sz_b3 : h0.size ≤ b3 := by rw [g3]; exact Kp0.1
  have Fq_h3 : Fld Z h3 q1 "com/example/isimud/isimud/oscore/OscoreOption" "kid" "[B" (.ref w) := Fq.ext E3
  have Aq_h3 : own_A Z h3 w "[B" .byte vs := Aq.ext E3
  have Zs3 : n0 ≤ h3.size := Nat.le_trans Z0 E3.1
  have Kp3 : Keep h0 h3 [] := Kp0.ext E3
  have A4_b3 : own_A Z h3 b3 "[B" .byte vs := V3
  refine own_of (fun t k => st3 t k) ?_
  show own_Go p e below KK T3 (mkF m 18 #[.val (.ref q1)] [(.ref b3)])
  obtain ⟨T5, X5, e5, st5⟩ := castY X3 hx hZ hown (hw _ (List.mem_of_getElem? (i := 18) rfl)) e3 (Ins.self A4_b3.exa) (g := (mkF m 18 #[.val (.ref q1)] [(.ref b3)])) rfl rfl (hb hby d_prog_18_7_18)
  refine own_of (fun t k => st5 t k) ?_
  show own_Go p e below KK T5 (mkF m 21 #[.val (.ref q1)] [(.ref b3)])
  subst hKK
  exact own_retA X5 hx hlk rfl Bd.returns rfl (hb hby d_prog_18_7_21) ⟨b3, rfl, N0, by rw [e5]; exact Kp3, g_b3, sz_b3, by rw [e5]; exact A4_b3⟩ (Nat.le_of_ble_eq_true rfl) (Nat.le_of_ble_eq_true rfl)
theorem ef_method_6 (m : MethodId) (x0 : Addr) (x1 : Int64) (x2 : Int32) : entryFrame m #[(.ref x0), (.long x1), (.int x2)] 4 = mkF m 0 #[.val (.ref x0), .val (.long x1), .second, .val (.int x2)] [] := by first | (simp [entryFrame, mkF, argsToLocals, Value.category]; done) | rfl
theorem d_method_6_0 : decode method_6_code 0 = .ok (.aload_n 0, 1) := by decide +kernel
theorem d_method_6_1 : decode method_6_code 1 = .ok (.ifnull 9, 3) := by decide +kernel
theorem d_method_6_4 : decode method_6_code 4 = .ok (.aload_n 0, 1) := by decide +kernel
theorem d_method_6_5 : decode method_6_code 5 = .ok (.arraylength, 1) := by decide +kernel
theorem d_method_6_6 : decode method_6_code 6 = .ok (.iload_n 3, 1) := by decide +kernel
theorem d_method_6_7 : decode method_6_code 7 = .ok (.if_icmp .eq 5, 3) := by decide +kernel
theorem d_method_6_12 : decode method_6_code 12 = .ok (.iload_n 3, 1) := by decide +kernel
theorem d_method_6_13 : decode method_6_code 13 = .ok (.ifCond .le 16, 3) := by decide +kernel
theorem d_method_6_29 : decode method_6_code 29 = .ok (.iload_n 3, 1) := by decide +kernel
theorem d_method_6_30 : decode method_6_code 30 = .ok (.iconst 1, 1) := by decide +kernel
theorem d_method_6_31 : decode method_6_code 31 = .ok (.if_icmp .le 16, 3) := by decide +kernel
theorem d_method_6_47 : decode method_6_code 47 = .ok (.iload_n 3, 1) := by decide +kernel
theorem d_method_6_48 : decode method_6_code 48 = .ok (.iconst 2, 1) := by decide +kernel
theorem d_method_6_49 : decode method_6_code 49 = .ok (.if_icmp .le 16, 3) := by decide +kernel
theorem d_method_6_65 : decode method_6_code 65 = .ok (.iload_n 3, 1) := by decide +kernel
theorem d_method_6_66 : decode method_6_code 66 = .ok (.iconst 3, 1) := by decide +kernel
theorem d_method_6_67 : decode method_6_code 67 = .ok (.if_icmp .le 16, 3) := by decide +kernel
theorem d_method_6_83 : decode method_6_code 83 = .ok (.iload_n 3, 1) := by decide +kernel
theorem d_method_6_84 : decode method_6_code 84 = .ok (.iconst 4, 1) := by decide +kernel
theorem d_method_6_85 : decode method_6_code 85 = .ok (.if_icmp .le 16, 3) := by decide +kernel
theorem d_method_6_101 : decode method_6_code 101 = .ok (.iload_n 3, 1) := by decide +kernel
theorem d_method_6_102 : decode method_6_code 102 = .ok (.iconst 5, 1) := by decide +kernel
theorem d_method_6_103 : decode method_6_code 103 = .ok (.if_icmp .le 16, 3) := by decide +kernel
theorem d_method_6_119 : decode method_6_code 119 = .ok (.iload_n 3, 1) := by decide +kernel
theorem d_method_6_120 : decode method_6_code 120 = .ok (.bipush 6, 2) := by decide +kernel
theorem d_method_6_122 : decode method_6_code 122 = .ok (.if_icmp .le 18, 3) := by decide +kernel
theorem d_method_6_140 : decode method_6_code 140 = .ok (.iconst 1, 1) := by decide +kernel
theorem d_method_6_141 : decode method_6_code 141 = .ok (.ireturn, 1) := by decide +kernel
set_option maxRecDepth 65536 in
set_option maxHeartbeats 40000000 in
theorem rm_same0 (l : Launch) (Z : State) (a0 : Array Value) (hw : ∀ d ∈ tables_1, d.before a0 Z = true) (ws : List Jvm.Cond) (q1 : Addr) (q2 : Int64)  (h0 : Heap) (n0 : Nat) (Z0 : n0 ≤ h0.size) (Aq : own_A Z h0 q1 "[B" .byte []) :
    MetFree l (⟨"com/example/isimud/isimud/oscore/OscoreOptionOfRequestPinLaw", "same", "([BJI)Z"⟩ : MethodName) (head1 (Jvm.Cond.code (⟨"com/example/isimud/isimud/oscore/OscoreOptionOfRequestPinLaw", "same", "([BJI)Z"⟩ : MethodName) method_6_code 4 (some .boolean) :: ws) ({ frames := 1, cells := 0, slots := 0, locals := 15 } : Room)) (fun a U => a = #[(.ref q1), (.long q2), (.int 0)] ∧ Z.Warmed39 U.vm ∧ U.heap = h0) (fun _ _ _ _ _ => True) (fun _ U o U' => ∃ v L, o = .returned v ∧ own_P (.int 1) h0 n0 v U'.heap L ∧ FrameEnd U o U' L ({ frames := 1, cells := 0, slots := 0, locals := 15 } : Room).cells ({ frames := 1, cells := 0, slots := 0, locals := 15 } : Room).slots) := by
  refine MetFree.of_bodySF (plainFor_of_name pn_com_example_isimud_isimud_oscore_OscoreOptionOfRequestPinLaw) hisR ?_
  intro p e s m args below meth c s₁ Bd hml0 hP hK
  obtain ⟨rfl, hZ, hh⟩ := hP
  have hx := Bd.exec
  have hby := Bd.bytes
  have hlk : meth.locks = false := BodyLoose.notSynchronized Bd
  have hml : c.maxLocals = 4 := hml0
  have hown : s.vm.findClass "com/example/isimud/isimud/oscore/OscoreOptionOfRequestPinLaw" = some m.cls := findClass_of_methodNamed Bd.named
  have hnm := (name_of_methodNamed Bd.named Bd.method).1
  have X0 : Stand p l e ({ frames := 1, cells := 0, slots := 0, locals := 15 } : Room) s m #[(.ref q1), (.long q2), (.int 0)] below meth c s₁ [] 0 0 := Stand.of_body Bd
  have e0 : s₁.heap = h0 := by rw [← hh, Bd.state]; rfl
  have N0 := Fr.nil n0
  refine own_cast (K := own_K s (own_P (.int 1) h0 n0) 0 0) (ef_method_6 m q1 q2 (0 : Int32)) ?_
  generalize hKK : own_K s (own_P (.int 1) h0 n0) 0 0 = KK
  show own_Go p e below KK s₁ (mkF m 0 #[.val (.ref q1), .val (.long q2), .second, .val (.int 0)] [])
  refine own_at (fun t k => XS.aloadN X0.here hx rfl (hb hby d_method_6_0) rfl rfl k) ?_
  show own_Go p e below KK s₁ (mkF m 1 #[.val (.ref q1), .val (.long q2), .second, .val (.int 0)] [(.ref q1)])
  refine own_at (fun t k => XS.ifnullNo X0.here hx rfl (hb hby d_method_6_1) rfl k) ?_
  show own_Go p e below KK s₁ (mkF m 4 #[.val (.ref q1), .val (.long q2), .second, .val (.int 0)] [])
  refine own_at (fun t k => XS.aloadN X0.here hx rfl (hb hby d_method_6_4) rfl rfl k) ?_
  show own_Go p e below KK s₁ (mkF m 5 #[.val (.ref q1), .val (.long q2), .second, .val (.int 0)] [(.ref q1)])
  refine own_at (fun t k => own_len X0 hx hZ e0 Aq (N := (0 : Int32)) (show (0 : Nat).toInt32 = (0 : Int32) from by decide) (g := (mkF m 5 #[.val (.ref q1), .val (.long q2), .second, .val (.int 0)] [(.ref q1)])) rfl rfl (hb hby d_method_6_5) t k) ?_
  show own_Go p e below KK s₁ (mkF m 6 #[.val (.ref q1), .val (.long q2), .second, .val (.int 0)] [(.int 0)])
  refine own_at (fun t k => XS.iloadN X0.here hx rfl (hb hby d_method_6_6) rfl k) ?_
  show own_Go p e below KK s₁ (mkF m 7 #[.val (.ref q1), .val (.long q2), .second, .val (.int 0)] [(.int 0), (.int 0)])
  have hc7 : (0 : Int32) = (0 : Int32) := by decide
  refine own_at (fun t k => XS.icmpYes X0.here hx rfl (pc0 := 7) (pc' := 12) rfl (hb hby d_method_6_7) rfl (Jvm.Free.XT.ii_eq_t hc7) (by decide) (by decide) k) ?_
  show own_Go p e below KK s₁ (mkF m 12 #[.val (.ref q1), .val (.long q2), .second, .val (.int 0)] [])
  refine own_at (fun t k => XS.iloadN X0.here hx rfl (hb hby d_method_6_12) rfl k) ?_
  show own_Go p e below KK s₁ (mkF m 13 #[.val (.ref q1), .val (.long q2), .second, .val (.int 0)] [(.int 0)])
  have hc13 : ¬ ((0 : Int32) < (0 : Int32)) := by decide
  refine own_at (fun t k => XS.ifYes X0.here hx rfl (pc0 := 13) (pc' := 29) rfl (hb hby d_method_6_13) rfl (Jvm.Free.XT.i0_le_t hc13) (by decide) (by decide) k) ?_
  show own_Go p e below KK s₁ (mkF m 29 #[.val (.ref q1), .val (.long q2), .second, .val (.int 0)] [])
  refine own_at (fun t k => XS.iloadN X0.here hx rfl (hb hby d_method_6_29) rfl k) ?_
  show own_Go p e below KK s₁ (mkF m 30 #[.val (.ref q1), .val (.long q2), .second, .val (.int 0)] [(.int 0)])
  refine own_at (fun t k => XS.iconst X0.here hx rfl (hb hby d_method_6_30) k) ?_
  show own_Go p e below KK s₁ (mkF m 31 #[.val (.ref q1), .val (.long q2), .second, .val (.int 0)] [(.int 1), (.int 0)])
  have hc31 : ¬ ((1 : Int32) < (0 : Int32)) := by decide
  refine own_at (fun t k => XS.icmpYes X0.here hx rfl (pc0 := 31) (pc' := 47) rfl (hb hby d_method_6_31) rfl (Jvm.Free.XT.ii_le_t hc31) (by decide) (by decide) k) ?_
  show own_Go p e below KK s₁ (mkF m 47 #[.val (.ref q1), .val (.long q2), .second, .val (.int 0)] [])
  refine own_at (fun t k => XS.iloadN X0.here hx rfl (hb hby d_method_6_47) rfl k) ?_
  show own_Go p e below KK s₁ (mkF m 48 #[.val (.ref q1), .val (.long q2), .second, .val (.int 0)] [(.int 0)])
  refine own_at (fun t k => XS.iconst X0.here hx rfl (hb hby d_method_6_48) k) ?_
  show own_Go p e below KK s₁ (mkF m 49 #[.val (.ref q1), .val (.long q2), .second, .val (.int 0)] [(.int 2), (.int 0)])
  have hc49 : ¬ ((2 : Int32) < (0 : Int32)) := by decide
  refine own_at (fun t k => XS.icmpYes X0.here hx rfl (pc0 := 49) (pc' := 65) rfl (hb hby d_method_6_49) rfl (Jvm.Free.XT.ii_le_t hc49) (by decide) (by decide) k) ?_
  show own_Go p e below KK s₁ (mkF m 65 #[.val (.ref q1), .val (.long q2), .second, .val (.int 0)] [])
  refine own_at (fun t k => XS.iloadN X0.here hx rfl (hb hby d_method_6_65) rfl k) ?_
  show own_Go p e below KK s₁ (mkF m 66 #[.val (.ref q1), .val (.long q2), .second, .val (.int 0)] [(.int 0)])
  refine own_at (fun t k => XS.iconst X0.here hx rfl (hb hby d_method_6_66) k) ?_
  show own_Go p e below KK s₁ (mkF m 67 #[.val (.ref q1), .val (.long q2), .second, .val (.int 0)] [(.int 3), (.int 0)])
  have hc67 : ¬ ((3 : Int32) < (0 : Int32)) := by decide
  refine own_at (fun t k => XS.icmpYes X0.here hx rfl (pc0 := 67) (pc' := 83) rfl (hb hby d_method_6_67) rfl (Jvm.Free.XT.ii_le_t hc67) (by decide) (by decide) k) ?_
  show own_Go p e below KK s₁ (mkF m 83 #[.val (.ref q1), .val (.long q2), .second, .val (.int 0)] [])
  refine own_at (fun t k => XS.iloadN X0.here hx rfl (hb hby d_method_6_83) rfl k) ?_
  show own_Go p e below KK s₁ (mkF m 84 #[.val (.ref q1), .val (.long q2), .second, .val (.int 0)] [(.int 0)])
  refine own_at (fun t k => XS.iconst X0.here hx rfl (hb hby d_method_6_84) k) ?_
  show own_Go p e below KK s₁ (mkF m 85 #[.val (.ref q1), .val (.long q2), .second, .val (.int 0)] [(.int 4), (.int 0)])
  have hc85 : ¬ ((4 : Int32) < (0 : Int32)) := by decide
  refine own_at (fun t k => XS.icmpYes X0.here hx rfl (pc0 := 85) (pc' := 101) rfl (hb hby d_method_6_85) rfl (Jvm.Free.XT.ii_le_t hc85) (by decide) (by decide) k) ?_
  show own_Go p e below KK s₁ (mkF m 101 #[.val (.ref q1), .val (.long q2), .second, .val (.int 0)] [])
  refine own_at (fun t k => XS.iloadN X0.here hx rfl (hb hby d_method_6_101) rfl k) ?_
  show own_Go p e below KK s₁ (mkF m 102 #[.val (.ref q1), .val (.long q2), .second, .val (.int 0)] [(.int 0)])
  refine own_at (fun t k => XS.iconst X0.here hx rfl (hb hby d_method_6_102) k) ?_
  show own_Go p e below KK s₁ (mkF m 103 #[.val (.ref q1), .val (.long q2), .second, .val (.int 0)] [(.int 5), (.int 0)])
  have hc103 : ¬ ((5 : Int32) < (0 : Int32)) := by decide
  refine own_at (fun t k => XS.icmpYes X0.here hx rfl (pc0 := 103) (pc' := 119) rfl (hb hby d_method_6_103) rfl (Jvm.Free.XT.ii_le_t hc103) (by decide) (by decide) k) ?_
  show own_Go p e below KK s₁ (mkF m 119 #[.val (.ref q1), .val (.long q2), .second, .val (.int 0)] [])
  refine own_at (fun t k => XS.iloadN X0.here hx rfl (hb hby d_method_6_119) rfl k) ?_
  show own_Go p e below KK s₁ (mkF m 120 #[.val (.ref q1), .val (.long q2), .second, .val (.int 0)] [(.int 0)])
  refine own_at (fun t k => XS.bipush X0.here hx rfl (hb hby d_method_6_120) k) ?_
  show own_Go p e below KK s₁ (mkF m 122 #[.val (.ref q1), .val (.long q2), .second, .val (.int 0)] [(.int 6), (.int 0)])
  have hc122 : ¬ ((6 : Int32) < (0 : Int32)) := by decide
  refine own_at (fun t k => XS.icmpYes X0.here hx rfl (pc0 := 122) (pc' := 140) rfl (hb hby d_method_6_122) rfl (Jvm.Free.XT.ii_le_t hc122) (by decide) (by decide) k) ?_
  show own_Go p e below KK s₁ (mkF m 140 #[.val (.ref q1), .val (.long q2), .second, .val (.int 0)] [])
  refine own_at (fun t k => XS.iconst X0.here hx rfl (hb hby d_method_6_140) k) ?_
  show own_Go p e below KK s₁ (mkF m 141 #[.val (.ref q1), .val (.long q2), .second, .val (.int 0)] [(.int 1)])
  subst hKK
  exact own_retN X0 hx hlk (t := .boolean) Bd.returns (by simp) (hb hby d_method_6_141) (w := (1 : Int32)) (show nar .boolean (1 : Int32) = 1 from by decide) ⟨rfl, N0, e0⟩ (Nat.le_of_ble_eq_true rfl) (Nat.le_of_ble_eq_true rfl)
theorem d_method_6_16 : decode method_6_code 16 = .ok (.aload_n 0, 1) := by decide +kernel
theorem d_method_6_17 : decode method_6_code 17 = .ok (.iconst 0, 1) := by decide +kernel
theorem d_method_6_18 : decode method_6_code 18 = .ok (.baload, 1) := by decide +kernel
theorem d_method_6_19 : decode method_6_code 19 = .ok (.lload_n 1, 1) := by decide +kernel
theorem d_method_6_20 : decode method_6_code 20 = .ok (.iconst 0, 1) := by decide +kernel
theorem d_method_6_21 : decode method_6_code 21 = .ok (.invokestatic 37, 3) := by decide +kernel
theorem d_method_6_24 : decode method_6_code 24 = .ok (.if_icmp .eq 5, 3) := by decide +kernel
set_option maxRecDepth 65536 in
set_option maxHeartbeats 40000000 in
theorem rm_same1 (l : Launch) (Z : State) (a0 : Array Value) (hw : ∀ d ∈ tables_1, d.before a0 Z = true) (ws : List Jvm.Cond) (q1 : Addr) (q2 : Int64)  (h0 : Heap) (n0 : Nat) (Z0 : n0 ≤ h0.size) (Aq : own_A Z h0 q1 "[B" .byte [(.int (own_F_method_3 q2 (0 : Int32)))]) :
    MetFree l (⟨"com/example/isimud/isimud/oscore/OscoreOptionOfRequestPinLaw", "same", "([BJI)Z"⟩ : MethodName) (head1 (Jvm.Cond.code (⟨"com/example/isimud/isimud/oscore/OscoreOptionOfRequestPinLaw", "same", "([BJI)Z"⟩ : MethodName) method_6_code 4 (some .boolean) :: ws) ({ frames := 1, cells := 0, slots := 0, locals := 15 } : Room)) (fun a U => a = #[(.ref q1), (.long q2), (.int 1)] ∧ Z.Warmed39 U.vm ∧ U.heap = h0) (fun _ _ _ _ _ => True) (fun _ U o U' => ∃ v L, o = .returned v ∧ own_P (.int 1) h0 n0 v U'.heap L ∧ FrameEnd U o U' L ({ frames := 1, cells := 0, slots := 0, locals := 15 } : Room).cells ({ frames := 1, cells := 0, slots := 0, locals := 15 } : Room).slots) := by
  refine MetFree.of_bodySF (plainFor_of_name pn_com_example_isimud_isimud_oscore_OscoreOptionOfRequestPinLaw) hisR ?_
  intro p e s m args below meth c s₁ Bd hml0 hP hK
  obtain ⟨rfl, hZ, hh⟩ := hP
  have hx := Bd.exec
  have hby := Bd.bytes
  have hlk : meth.locks = false := BodyLoose.notSynchronized Bd
  have hml : c.maxLocals = 4 := hml0
  have hown : s.vm.findClass "com/example/isimud/isimud/oscore/OscoreOptionOfRequestPinLaw" = some m.cls := findClass_of_methodNamed Bd.named
  have hnm := (name_of_methodNamed Bd.named Bd.method).1
  have X0 : Stand p l e ({ frames := 1, cells := 0, slots := 0, locals := 15 } : Room) s m #[(.ref q1), (.long q2), (.int 1)] below meth c s₁ [] 0 0 := Stand.of_body Bd
  have e0 : s₁.heap = h0 := by rw [← hh, Bd.state]; rfl
  have N0 := Fr.nil n0
  refine own_cast (K := own_K s (own_P (.int 1) h0 n0) 0 0) (ef_method_6 m q1 q2 (1 : Int32)) ?_
  generalize hKK : own_K s (own_P (.int 1) h0 n0) 0 0 = KK
  show own_Go p e below KK s₁ (mkF m 0 #[.val (.ref q1), .val (.long q2), .second, .val (.int 1)] [])
  refine own_at (fun t k => XS.aloadN X0.here hx rfl (hb hby d_method_6_0) rfl rfl k) ?_
  show own_Go p e below KK s₁ (mkF m 1 #[.val (.ref q1), .val (.long q2), .second, .val (.int 1)] [(.ref q1)])
  refine own_at (fun t k => XS.ifnullNo X0.here hx rfl (hb hby d_method_6_1) rfl k) ?_
  show own_Go p e below KK s₁ (mkF m 4 #[.val (.ref q1), .val (.long q2), .second, .val (.int 1)] [])
  refine own_at (fun t k => XS.aloadN X0.here hx rfl (hb hby d_method_6_4) rfl rfl k) ?_
  show own_Go p e below KK s₁ (mkF m 5 #[.val (.ref q1), .val (.long q2), .second, .val (.int 1)] [(.ref q1)])
  refine own_at (fun t k => own_len X0 hx hZ e0 Aq (N := (1 : Int32)) (show (1 : Nat).toInt32 = (1 : Int32) from by decide) (g := (mkF m 5 #[.val (.ref q1), .val (.long q2), .second, .val (.int 1)] [(.ref q1)])) rfl rfl (hb hby d_method_6_5) t k) ?_
  show own_Go p e below KK s₁ (mkF m 6 #[.val (.ref q1), .val (.long q2), .second, .val (.int 1)] [(.int 1)])
  refine own_at (fun t k => XS.iloadN X0.here hx rfl (hb hby d_method_6_6) rfl k) ?_
  show own_Go p e below KK s₁ (mkF m 7 #[.val (.ref q1), .val (.long q2), .second, .val (.int 1)] [(.int 1), (.int 1)])
  have hc7 : (1 : Int32) = (1 : Int32) := by decide
  refine own_at (fun t k => XS.icmpYes X0.here hx rfl (pc0 := 7) (pc' := 12) rfl (hb hby d_method_6_7) rfl (Jvm.Free.XT.ii_eq_t hc7) (by decide) (by decide) k) ?_
  show own_Go p e below KK s₁ (mkF m 12 #[.val (.ref q1), .val (.long q2), .second, .val (.int 1)] [])
  refine own_at (fun t k => XS.iloadN X0.here hx rfl (hb hby d_method_6_12) rfl k) ?_
  show own_Go p e below KK s₁ (mkF m 13 #[.val (.ref q1), .val (.long q2), .second, .val (.int 1)] [(.int 1)])
  have hc13 : (0 : Int32) < (1 : Int32) := by decide
  refine own_at (fun t k => XS.ifNo X0.here hx rfl (hb hby d_method_6_13) rfl (Jvm.Free.XT.i0_le_f hc13) k) ?_
  show own_Go p e below KK s₁ (mkF m 16 #[.val (.ref q1), .val (.long q2), .second, .val (.int 1)] [])
  refine own_at (fun t k => XS.aloadN X0.here hx rfl (hb hby d_method_6_16) rfl rfl k) ?_
  show own_Go p e below KK s₁ (mkF m 17 #[.val (.ref q1), .val (.long q2), .second, .val (.int 1)] [(.ref q1)])
  refine own_at (fun t k => XS.iconst X0.here hx rfl (hb hby d_method_6_17) k) ?_
  show own_Go p e below KK s₁ (mkF m 18 #[.val (.ref q1), .val (.long q2), .second, .val (.int 1)] [(.int 0), (.ref q1)])
  refine own_at (fun t k => own_ldB X0 hx hZ e0 Aq (j := (0 : Int32)) (i := 0) (v := (.int (own_F_method_3 q2 (0 : Int32)))) (by decide) (by decide) rfl (g := (mkF m 18 #[.val (.ref q1), .val (.long q2), .second, .val (.int 1)] [(.int 0), (.ref q1)])) rfl rfl (hb hby d_method_6_18) t k) ?_
  show own_Go p e below KK s₁ (mkF m 19 #[.val (.ref q1), .val (.long q2), .second, .val (.int 1)] [(.int (own_F_method_3 q2 (0 : Int32)))])
  refine own_at (fun t k => XS.lloadN X0.here hx rfl (hb hby d_method_6_19) rfl k) ?_
  show own_Go p e below KK s₁ (mkF m 20 #[.val (.ref q1), .val (.long q2), .second, .val (.int 1)] [(.long q2), (.int (own_F_method_3 q2 (0 : Int32)))])
  refine own_at (fun t k => XS.iconst X0.here hx rfl (hb hby d_method_6_20) k) ?_
  show own_Go p e below KK s₁ (mkF m 21 #[.val (.ref q1), .val (.long q2), .second, .val (.int 1)] [(.int 0), (.long q2), (.int (own_F_method_3 q2 (0 : Int32)))])
  obtain ⟨_, _, ⟨T1, L1, k1, n1⟩, -, X1, ⟨Lc1, hQ1, l1, y1, z1⟩, st1⟩ := Jvm.LawKit.callS X0 hx (y := (⟨"com/example/isimud/isimud/oscore/OscoreOptionOfRequestPinLaw", "b", "(JI)B"⟩ : MethodName)) hown (mvT hZ (hw _ (List.mem_of_getElem? (i := 53) rfl))) (mvT hZ (hw _ (List.mem_of_getElem? (i := 54) rfl))) (mvT hZ (hw _ (List.mem_of_getElem? (i := 2) rfl))) (mvT hZ (hw _ (List.mem_of_getElem? (i := 55) rfl))) (by decide) (backOf (W := 1) (rm_method_3 l Z a0 hw [] q2 (0 : Int32)  h0 n0 Z0 ) hZ (hw _ (List.mem_of_getElem? (i := 55) rfl)) (hw _ (List.mem_of_getElem? (i := 2) rfl)) (by decide) (by decide)) (g := (mkF m 21 #[.val (.ref q1), .val (.long q2), .second, .val (.int 1)] [(.int 0), (.long q2), (.int (own_F_method_3 q2 (0 : Int32)))])) rfl (by rw [hml]; rfl) (argsL := [(.long q2), (.int 0)]) (rest := [(.int (own_F_method_3 q2 (0 : Int32)))]) (lenOf pd__JI_B rfl) rfl (by show 2 * 0 + _ ≤ _; exact Nat.le_of_eq rfl) (hb hby d_method_6_21) (fun _ _ => ⟨rfl, e0, (by decide : 0 + 0 ≤ _), (by decide : 0 + 0 ≤ _)⟩)
  dsimp only [Pt.U, Pt.locs, Pt.cells, Pt.slots] at X1 l1 y1 z1 st1 hQ1
  subst l1 y1 z1
  obtain ⟨rfl, N1q, e1⟩ := hQ1
  have N1 := Fr.app N0 N1q
  refine own_of (fun t k => st1 t k) ?_
  show own_Go p e below KK T1 (mkF m 24 #[.val (.ref q1), .val (.long q2), .second, .val (.int 1)] [(.int (own_F_method_3 q2 (0 : Int32))), (.int (own_F_method_3 q2 (0 : Int32)))])
  have hc24 : (own_F_method_3 q2 (0 : Int32)) = (own_F_method_3 q2 (0 : Int32)) := rfl
  refine own_at (fun t k => XS.icmpYes X1.here hx rfl (pc0 := 24) (pc' := 29) rfl (hb hby d_method_6_24) rfl (Jvm.Free.XT.ii_eq_t hc24) (by decide) (by decide) k) ?_
  show own_Go p e below KK T1 (mkF m 29 #[.val (.ref q1), .val (.long q2), .second, .val (.int 1)] [])
  refine own_at (fun t k => XS.iloadN X1.here hx rfl (hb hby d_method_6_29) rfl k) ?_
  show own_Go p e below KK T1 (mkF m 30 #[.val (.ref q1), .val (.long q2), .second, .val (.int 1)] [(.int 1)])
  refine own_at (fun t k => XS.iconst X1.here hx rfl (hb hby d_method_6_30) k) ?_
  show own_Go p e below KK T1 (mkF m 31 #[.val (.ref q1), .val (.long q2), .second, .val (.int 1)] [(.int 1), (.int 1)])
  have hc31 : ¬ ((1 : Int32) < (1 : Int32)) := by decide
  refine own_at (fun t k => XS.icmpYes X1.here hx rfl (pc0 := 31) (pc' := 47) rfl (hb hby d_method_6_31) rfl (Jvm.Free.XT.ii_le_t hc31) (by decide) (by decide) k) ?_
  show own_Go p e below KK T1 (mkF m 47 #[.val (.ref q1), .val (.long q2), .second, .val (.int 1)] [])
  refine own_at (fun t k => XS.iloadN X1.here hx rfl (hb hby d_method_6_47) rfl k) ?_
  show own_Go p e below KK T1 (mkF m 48 #[.val (.ref q1), .val (.long q2), .second, .val (.int 1)] [(.int 1)])
  refine own_at (fun t k => XS.iconst X1.here hx rfl (hb hby d_method_6_48) k) ?_
  show own_Go p e below KK T1 (mkF m 49 #[.val (.ref q1), .val (.long q2), .second, .val (.int 1)] [(.int 2), (.int 1)])
  have hc49 : ¬ ((2 : Int32) < (1 : Int32)) := by decide
  refine own_at (fun t k => XS.icmpYes X1.here hx rfl (pc0 := 49) (pc' := 65) rfl (hb hby d_method_6_49) rfl (Jvm.Free.XT.ii_le_t hc49) (by decide) (by decide) k) ?_
  show own_Go p e below KK T1 (mkF m 65 #[.val (.ref q1), .val (.long q2), .second, .val (.int 1)] [])
  refine own_at (fun t k => XS.iloadN X1.here hx rfl (hb hby d_method_6_65) rfl k) ?_
  show own_Go p e below KK T1 (mkF m 66 #[.val (.ref q1), .val (.long q2), .second, .val (.int 1)] [(.int 1)])
  refine own_at (fun t k => XS.iconst X1.here hx rfl (hb hby d_method_6_66) k) ?_
  show own_Go p e below KK T1 (mkF m 67 #[.val (.ref q1), .val (.long q2), .second, .val (.int 1)] [(.int 3), (.int 1)])
  have hc67 : ¬ ((3 : Int32) < (1 : Int32)) := by decide
  refine own_at (fun t k => XS.icmpYes X1.here hx rfl (pc0 := 67) (pc' := 83) rfl (hb hby d_method_6_67) rfl (Jvm.Free.XT.ii_le_t hc67) (by decide) (by decide) k) ?_
  show own_Go p e below KK T1 (mkF m 83 #[.val (.ref q1), .val (.long q2), .second, .val (.int 1)] [])
  refine own_at (fun t k => XS.iloadN X1.here hx rfl (hb hby d_method_6_83) rfl k) ?_
  show own_Go p e below KK T1 (mkF m 84 #[.val (.ref q1), .val (.long q2), .second, .val (.int 1)] [(.int 1)])
  refine own_at (fun t k => XS.iconst X1.here hx rfl (hb hby d_method_6_84) k) ?_
  show own_Go p e below KK T1 (mkF m 85 #[.val (.ref q1), .val (.long q2), .second, .val (.int 1)] [(.int 4), (.int 1)])
  have hc85 : ¬ ((4 : Int32) < (1 : Int32)) := by decide
  refine own_at (fun t k => XS.icmpYes X1.here hx rfl (pc0 := 85) (pc' := 101) rfl (hb hby d_method_6_85) rfl (Jvm.Free.XT.ii_le_t hc85) (by decide) (by decide) k) ?_
  show own_Go p e below KK T1 (mkF m 101 #[.val (.ref q1), .val (.long q2), .second, .val (.int 1)] [])
  refine own_at (fun t k => XS.iloadN X1.here hx rfl (hb hby d_method_6_101) rfl k) ?_
  show own_Go p e below KK T1 (mkF m 102 #[.val (.ref q1), .val (.long q2), .second, .val (.int 1)] [(.int 1)])
  refine own_at (fun t k => XS.iconst X1.here hx rfl (hb hby d_method_6_102) k) ?_
  show own_Go p e below KK T1 (mkF m 103 #[.val (.ref q1), .val (.long q2), .second, .val (.int 1)] [(.int 5), (.int 1)])
  have hc103 : ¬ ((5 : Int32) < (1 : Int32)) := by decide
  refine own_at (fun t k => XS.icmpYes X1.here hx rfl (pc0 := 103) (pc' := 119) rfl (hb hby d_method_6_103) rfl (Jvm.Free.XT.ii_le_t hc103) (by decide) (by decide) k) ?_
  show own_Go p e below KK T1 (mkF m 119 #[.val (.ref q1), .val (.long q2), .second, .val (.int 1)] [])
  refine own_at (fun t k => XS.iloadN X1.here hx rfl (hb hby d_method_6_119) rfl k) ?_
  show own_Go p e below KK T1 (mkF m 120 #[.val (.ref q1), .val (.long q2), .second, .val (.int 1)] [(.int 1)])
  refine own_at (fun t k => XS.bipush X1.here hx rfl (hb hby d_method_6_120) k) ?_
  show own_Go p e below KK T1 (mkF m 122 #[.val (.ref q1), .val (.long q2), .second, .val (.int 1)] [(.int 6), (.int 1)])
  have hc122 : ¬ ((6 : Int32) < (1 : Int32)) := by decide
  refine own_at (fun t k => XS.icmpYes X1.here hx rfl (pc0 := 122) (pc' := 140) rfl (hb hby d_method_6_122) rfl (Jvm.Free.XT.ii_le_t hc122) (by decide) (by decide) k) ?_
  show own_Go p e below KK T1 (mkF m 140 #[.val (.ref q1), .val (.long q2), .second, .val (.int 1)] [])
  refine own_at (fun t k => XS.iconst X1.here hx rfl (hb hby d_method_6_140) k) ?_
  show own_Go p e below KK T1 (mkF m 141 #[.val (.ref q1), .val (.long q2), .second, .val (.int 1)] [(.int 1)])
  subst hKK
  exact own_retN X1 hx hlk (t := .boolean) Bd.returns (by simp) (hb hby d_method_6_141) (w := (1 : Int32)) (show nar .boolean (1 : Int32) = 1 from by decide) ⟨rfl, N1, e1⟩ (Nat.le_of_ble_eq_true rfl) (Nat.le_of_ble_eq_true rfl)
theorem d_method_6_34 : decode method_6_code 34 = .ok (.aload_n 0, 1) := by decide +kernel
theorem d_method_6_35 : decode method_6_code 35 = .ok (.iconst 1, 1) := by decide +kernel
theorem d_method_6_36 : decode method_6_code 36 = .ok (.baload, 1) := by decide +kernel
theorem d_method_6_37 : decode method_6_code 37 = .ok (.lload_n 1, 1) := by decide +kernel
theorem d_method_6_38 : decode method_6_code 38 = .ok (.iconst 1, 1) := by decide +kernel
theorem d_method_6_39 : decode method_6_code 39 = .ok (.invokestatic 37, 3) := by decide +kernel
theorem d_method_6_42 : decode method_6_code 42 = .ok (.if_icmp .eq 5, 3) := by decide +kernel
set_option maxRecDepth 65536 in
set_option maxHeartbeats 40000000 in
theorem rm_same2 (l : Launch) (Z : State) (a0 : Array Value) (hw : ∀ d ∈ tables_1, d.before a0 Z = true) (ws : List Jvm.Cond) (q1 : Addr) (q2 : Int64)  (h0 : Heap) (n0 : Nat) (Z0 : n0 ≤ h0.size) (Aq : own_A Z h0 q1 "[B" .byte [(.int (own_F_method_3 q2 (0 : Int32))), (.int (own_F_method_3 q2 (1 : Int32)))]) :
    MetFree l (⟨"com/example/isimud/isimud/oscore/OscoreOptionOfRequestPinLaw", "same", "([BJI)Z"⟩ : MethodName) (head1 (Jvm.Cond.code (⟨"com/example/isimud/isimud/oscore/OscoreOptionOfRequestPinLaw", "same", "([BJI)Z"⟩ : MethodName) method_6_code 4 (some .boolean) :: ws) ({ frames := 1, cells := 0, slots := 0, locals := 15 } : Room)) (fun a U => a = #[(.ref q1), (.long q2), (.int 2)] ∧ Z.Warmed39 U.vm ∧ U.heap = h0) (fun _ _ _ _ _ => True) (fun _ U o U' => ∃ v L, o = .returned v ∧ own_P (.int 1) h0 n0 v U'.heap L ∧ FrameEnd U o U' L ({ frames := 1, cells := 0, slots := 0, locals := 15 } : Room).cells ({ frames := 1, cells := 0, slots := 0, locals := 15 } : Room).slots) := by
  refine MetFree.of_bodySF (plainFor_of_name pn_com_example_isimud_isimud_oscore_OscoreOptionOfRequestPinLaw) hisR ?_
  intro p e s m args below meth c s₁ Bd hml0 hP hK
  obtain ⟨rfl, hZ, hh⟩ := hP
  have hx := Bd.exec
  have hby := Bd.bytes
  have hlk : meth.locks = false := BodyLoose.notSynchronized Bd
  have hml : c.maxLocals = 4 := hml0
  have hown : s.vm.findClass "com/example/isimud/isimud/oscore/OscoreOptionOfRequestPinLaw" = some m.cls := findClass_of_methodNamed Bd.named
  have hnm := (name_of_methodNamed Bd.named Bd.method).1
  have X0 : Stand p l e ({ frames := 1, cells := 0, slots := 0, locals := 15 } : Room) s m #[(.ref q1), (.long q2), (.int 2)] below meth c s₁ [] 0 0 := Stand.of_body Bd
  have e0 : s₁.heap = h0 := by rw [← hh, Bd.state]; rfl
  have N0 := Fr.nil n0
  refine own_cast (K := own_K s (own_P (.int 1) h0 n0) 0 0) (ef_method_6 m q1 q2 (2 : Int32)) ?_
  generalize hKK : own_K s (own_P (.int 1) h0 n0) 0 0 = KK
  show own_Go p e below KK s₁ (mkF m 0 #[.val (.ref q1), .val (.long q2), .second, .val (.int 2)] [])
  refine own_at (fun t k => XS.aloadN X0.here hx rfl (hb hby d_method_6_0) rfl rfl k) ?_
  show own_Go p e below KK s₁ (mkF m 1 #[.val (.ref q1), .val (.long q2), .second, .val (.int 2)] [(.ref q1)])
  refine own_at (fun t k => XS.ifnullNo X0.here hx rfl (hb hby d_method_6_1) rfl k) ?_
  show own_Go p e below KK s₁ (mkF m 4 #[.val (.ref q1), .val (.long q2), .second, .val (.int 2)] [])
  refine own_at (fun t k => XS.aloadN X0.here hx rfl (hb hby d_method_6_4) rfl rfl k) ?_
  show own_Go p e below KK s₁ (mkF m 5 #[.val (.ref q1), .val (.long q2), .second, .val (.int 2)] [(.ref q1)])
  refine own_at (fun t k => own_len X0 hx hZ e0 Aq (N := (2 : Int32)) (show (2 : Nat).toInt32 = (2 : Int32) from by decide) (g := (mkF m 5 #[.val (.ref q1), .val (.long q2), .second, .val (.int 2)] [(.ref q1)])) rfl rfl (hb hby d_method_6_5) t k) ?_
  show own_Go p e below KK s₁ (mkF m 6 #[.val (.ref q1), .val (.long q2), .second, .val (.int 2)] [(.int 2)])
  refine own_at (fun t k => XS.iloadN X0.here hx rfl (hb hby d_method_6_6) rfl k) ?_
  show own_Go p e below KK s₁ (mkF m 7 #[.val (.ref q1), .val (.long q2), .second, .val (.int 2)] [(.int 2), (.int 2)])
  have hc7 : (2 : Int32) = (2 : Int32) := by decide
  refine own_at (fun t k => XS.icmpYes X0.here hx rfl (pc0 := 7) (pc' := 12) rfl (hb hby d_method_6_7) rfl (Jvm.Free.XT.ii_eq_t hc7) (by decide) (by decide) k) ?_
  show own_Go p e below KK s₁ (mkF m 12 #[.val (.ref q1), .val (.long q2), .second, .val (.int 2)] [])
  refine own_at (fun t k => XS.iloadN X0.here hx rfl (hb hby d_method_6_12) rfl k) ?_
  show own_Go p e below KK s₁ (mkF m 13 #[.val (.ref q1), .val (.long q2), .second, .val (.int 2)] [(.int 2)])
  have hc13 : (0 : Int32) < (2 : Int32) := by decide
  refine own_at (fun t k => XS.ifNo X0.here hx rfl (hb hby d_method_6_13) rfl (Jvm.Free.XT.i0_le_f hc13) k) ?_
  show own_Go p e below KK s₁ (mkF m 16 #[.val (.ref q1), .val (.long q2), .second, .val (.int 2)] [])
  refine own_at (fun t k => XS.aloadN X0.here hx rfl (hb hby d_method_6_16) rfl rfl k) ?_
  show own_Go p e below KK s₁ (mkF m 17 #[.val (.ref q1), .val (.long q2), .second, .val (.int 2)] [(.ref q1)])
  refine own_at (fun t k => XS.iconst X0.here hx rfl (hb hby d_method_6_17) k) ?_
  show own_Go p e below KK s₁ (mkF m 18 #[.val (.ref q1), .val (.long q2), .second, .val (.int 2)] [(.int 0), (.ref q1)])
  refine own_at (fun t k => own_ldB X0 hx hZ e0 Aq (j := (0 : Int32)) (i := 0) (v := (.int (own_F_method_3 q2 (0 : Int32)))) (by decide) (by decide) rfl (g := (mkF m 18 #[.val (.ref q1), .val (.long q2), .second, .val (.int 2)] [(.int 0), (.ref q1)])) rfl rfl (hb hby d_method_6_18) t k) ?_
  show own_Go p e below KK s₁ (mkF m 19 #[.val (.ref q1), .val (.long q2), .second, .val (.int 2)] [(.int (own_F_method_3 q2 (0 : Int32)))])
  refine own_at (fun t k => XS.lloadN X0.here hx rfl (hb hby d_method_6_19) rfl k) ?_
  show own_Go p e below KK s₁ (mkF m 20 #[.val (.ref q1), .val (.long q2), .second, .val (.int 2)] [(.long q2), (.int (own_F_method_3 q2 (0 : Int32)))])
  refine own_at (fun t k => XS.iconst X0.here hx rfl (hb hby d_method_6_20) k) ?_
  show own_Go p e below KK s₁ (mkF m 21 #[.val (.ref q1), .val (.long q2), .second, .val (.int 2)] [(.int 0), (.long q2), (.int (own_F_method_3 q2 (0 : Int32)))])
  obtain ⟨_, _, ⟨T1, L1, k1, n1⟩, -, X1, ⟨Lc1, hQ1, l1, y1, z1⟩, st1⟩ := Jvm.LawKit.callS X0 hx (y := (⟨"com/example/isimud/isimud/oscore/OscoreOptionOfRequestPinLaw", "b", "(JI)B"⟩ : MethodName)) hown (mvT hZ (hw _ (List.mem_of_getElem? (i := 53) rfl))) (mvT hZ (hw _ (List.mem_of_getElem? (i := 54) rfl))) (mvT hZ (hw _ (List.mem_of_getElem? (i := 2) rfl))) (mvT hZ (hw _ (List.mem_of_getElem? (i := 55) rfl))) (by decide) (backOf (W := 1) (rm_method_3 l Z a0 hw [] q2 (0 : Int32)  h0 n0 Z0 ) hZ (hw _ (List.mem_of_getElem? (i := 55) rfl)) (hw _ (List.mem_of_getElem? (i := 2) rfl)) (by decide) (by decide)) (g := (mkF m 21 #[.val (.ref q1), .val (.long q2), .second, .val (.int 2)] [(.int 0), (.long q2), (.int (own_F_method_3 q2 (0 : Int32)))])) rfl (by rw [hml]; rfl) (argsL := [(.long q2), (.int 0)]) (rest := [(.int (own_F_method_3 q2 (0 : Int32)))]) (lenOf pd__JI_B rfl) rfl (by show 2 * 0 + _ ≤ _; exact Nat.le_of_eq rfl) (hb hby d_method_6_21) (fun _ _ => ⟨rfl, e0, (by decide : 0 + 0 ≤ _), (by decide : 0 + 0 ≤ _)⟩)
  dsimp only [Pt.U, Pt.locs, Pt.cells, Pt.slots] at X1 l1 y1 z1 st1 hQ1
  subst l1 y1 z1
  obtain ⟨rfl, N1q, e1⟩ := hQ1
  have N1 := Fr.app N0 N1q
  refine own_of (fun t k => st1 t k) ?_
  show own_Go p e below KK T1 (mkF m 24 #[.val (.ref q1), .val (.long q2), .second, .val (.int 2)] [(.int (own_F_method_3 q2 (0 : Int32))), (.int (own_F_method_3 q2 (0 : Int32)))])
  have hc24 : (own_F_method_3 q2 (0 : Int32)) = (own_F_method_3 q2 (0 : Int32)) := rfl
  refine own_at (fun t k => XS.icmpYes X1.here hx rfl (pc0 := 24) (pc' := 29) rfl (hb hby d_method_6_24) rfl (Jvm.Free.XT.ii_eq_t hc24) (by decide) (by decide) k) ?_
  show own_Go p e below KK T1 (mkF m 29 #[.val (.ref q1), .val (.long q2), .second, .val (.int 2)] [])
  refine own_at (fun t k => XS.iloadN X1.here hx rfl (hb hby d_method_6_29) rfl k) ?_
  show own_Go p e below KK T1 (mkF m 30 #[.val (.ref q1), .val (.long q2), .second, .val (.int 2)] [(.int 2)])
  refine own_at (fun t k => XS.iconst X1.here hx rfl (hb hby d_method_6_30) k) ?_
  show own_Go p e below KK T1 (mkF m 31 #[.val (.ref q1), .val (.long q2), .second, .val (.int 2)] [(.int 1), (.int 2)])
  have hc31 : (1 : Int32) < (2 : Int32) := by decide
  refine own_at (fun t k => XS.icmpNo X1.here hx rfl (hb hby d_method_6_31) rfl (Jvm.Free.XT.ii_le_f hc31) k) ?_
  show own_Go p e below KK T1 (mkF m 34 #[.val (.ref q1), .val (.long q2), .second, .val (.int 2)] [])
  refine own_at (fun t k => XS.aloadN X1.here hx rfl (hb hby d_method_6_34) rfl rfl k) ?_
  show own_Go p e below KK T1 (mkF m 35 #[.val (.ref q1), .val (.long q2), .second, .val (.int 2)] [(.ref q1)])
  refine own_at (fun t k => XS.iconst X1.here hx rfl (hb hby d_method_6_35) k) ?_
  show own_Go p e below KK T1 (mkF m 36 #[.val (.ref q1), .val (.long q2), .second, .val (.int 2)] [(.int 1), (.ref q1)])
  refine own_at (fun t k => own_ldB X1 hx hZ e1 Aq (j := (1 : Int32)) (i := 1) (v := (.int (own_F_method_3 q2 (1 : Int32)))) (by decide) (by decide) rfl (g := (mkF m 36 #[.val (.ref q1), .val (.long q2), .second, .val (.int 2)] [(.int 1), (.ref q1)])) rfl rfl (hb hby d_method_6_36) t k) ?_
  show own_Go p e below KK T1 (mkF m 37 #[.val (.ref q1), .val (.long q2), .second, .val (.int 2)] [(.int (own_F_method_3 q2 (1 : Int32)))])
  refine own_at (fun t k => XS.lloadN X1.here hx rfl (hb hby d_method_6_37) rfl k) ?_
  show own_Go p e below KK T1 (mkF m 38 #[.val (.ref q1), .val (.long q2), .second, .val (.int 2)] [(.long q2), (.int (own_F_method_3 q2 (1 : Int32)))])
  refine own_at (fun t k => XS.iconst X1.here hx rfl (hb hby d_method_6_38) k) ?_
  show own_Go p e below KK T1 (mkF m 39 #[.val (.ref q1), .val (.long q2), .second, .val (.int 2)] [(.int 1), (.long q2), (.int (own_F_method_3 q2 (1 : Int32)))])
  obtain ⟨_, _, ⟨T2, L2, k2, n2⟩, -, X2, ⟨Lc2, hQ2, l2, y2, z2⟩, st2⟩ := Jvm.LawKit.callS X1 hx (y := (⟨"com/example/isimud/isimud/oscore/OscoreOptionOfRequestPinLaw", "b", "(JI)B"⟩ : MethodName)) hown (mvT hZ (hw _ (List.mem_of_getElem? (i := 53) rfl))) (mvT hZ (hw _ (List.mem_of_getElem? (i := 54) rfl))) (mvT hZ (hw _ (List.mem_of_getElem? (i := 2) rfl))) (mvT hZ (hw _ (List.mem_of_getElem? (i := 55) rfl))) (by decide) (backOf (W := 1) (rm_method_3 l Z a0 hw [] q2 (1 : Int32)  h0 n0 Z0 ) hZ (hw _ (List.mem_of_getElem? (i := 55) rfl)) (hw _ (List.mem_of_getElem? (i := 2) rfl)) (by decide) (by decide)) (g := (mkF m 39 #[.val (.ref q1), .val (.long q2), .second, .val (.int 2)] [(.int 1), (.long q2), (.int (own_F_method_3 q2 (1 : Int32)))])) rfl (by rw [hml]; rfl) (argsL := [(.long q2), (.int 1)]) (rest := [(.int (own_F_method_3 q2 (1 : Int32)))]) (lenOf pd__JI_B rfl) rfl (by show 2 * 0 + _ ≤ _; exact Nat.le_of_eq rfl) (hb hby d_method_6_39) (fun _ _ => ⟨rfl, e1, (by decide : 0 + 0 ≤ _), (by decide : 0 + 0 ≤ _)⟩)
  dsimp only [Pt.U, Pt.locs, Pt.cells, Pt.slots] at X2 l2 y2 z2 st2 hQ2
  subst l2 y2 z2
  obtain ⟨rfl, N2q, e2⟩ := hQ2
  have N2 := Fr.app N1 N2q
  refine own_of (fun t k => st2 t k) ?_
  show own_Go p e below KK T2 (mkF m 42 #[.val (.ref q1), .val (.long q2), .second, .val (.int 2)] [(.int (own_F_method_3 q2 (1 : Int32))), (.int (own_F_method_3 q2 (1 : Int32)))])
  have hc42 : (own_F_method_3 q2 (1 : Int32)) = (own_F_method_3 q2 (1 : Int32)) := rfl
  refine own_at (fun t k => XS.icmpYes X2.here hx rfl (pc0 := 42) (pc' := 47) rfl (hb hby d_method_6_42) rfl (Jvm.Free.XT.ii_eq_t hc42) (by decide) (by decide) k) ?_
  show own_Go p e below KK T2 (mkF m 47 #[.val (.ref q1), .val (.long q2), .second, .val (.int 2)] [])
  refine own_at (fun t k => XS.iloadN X2.here hx rfl (hb hby d_method_6_47) rfl k) ?_
  show own_Go p e below KK T2 (mkF m 48 #[.val (.ref q1), .val (.long q2), .second, .val (.int 2)] [(.int 2)])
  refine own_at (fun t k => XS.iconst X2.here hx rfl (hb hby d_method_6_48) k) ?_
  show own_Go p e below KK T2 (mkF m 49 #[.val (.ref q1), .val (.long q2), .second, .val (.int 2)] [(.int 2), (.int 2)])
  have hc49 : ¬ ((2 : Int32) < (2 : Int32)) := by decide
  refine own_at (fun t k => XS.icmpYes X2.here hx rfl (pc0 := 49) (pc' := 65) rfl (hb hby d_method_6_49) rfl (Jvm.Free.XT.ii_le_t hc49) (by decide) (by decide) k) ?_
  show own_Go p e below KK T2 (mkF m 65 #[.val (.ref q1), .val (.long q2), .second, .val (.int 2)] [])
  refine own_at (fun t k => XS.iloadN X2.here hx rfl (hb hby d_method_6_65) rfl k) ?_
  show own_Go p e below KK T2 (mkF m 66 #[.val (.ref q1), .val (.long q2), .second, .val (.int 2)] [(.int 2)])
  refine own_at (fun t k => XS.iconst X2.here hx rfl (hb hby d_method_6_66) k) ?_
  show own_Go p e below KK T2 (mkF m 67 #[.val (.ref q1), .val (.long q2), .second, .val (.int 2)] [(.int 3), (.int 2)])
  have hc67 : ¬ ((3 : Int32) < (2 : Int32)) := by decide
  refine own_at (fun t k => XS.icmpYes X2.here hx rfl (pc0 := 67) (pc' := 83) rfl (hb hby d_method_6_67) rfl (Jvm.Free.XT.ii_le_t hc67) (by decide) (by decide) k) ?_
  show own_Go p e below KK T2 (mkF m 83 #[.val (.ref q1), .val (.long q2), .second, .val (.int 2)] [])
  refine own_at (fun t k => XS.iloadN X2.here hx rfl (hb hby d_method_6_83) rfl k) ?_
  show own_Go p e below KK T2 (mkF m 84 #[.val (.ref q1), .val (.long q2), .second, .val (.int 2)] [(.int 2)])
  refine own_at (fun t k => XS.iconst X2.here hx rfl (hb hby d_method_6_84) k) ?_
  show own_Go p e below KK T2 (mkF m 85 #[.val (.ref q1), .val (.long q2), .second, .val (.int 2)] [(.int 4), (.int 2)])
  have hc85 : ¬ ((4 : Int32) < (2 : Int32)) := by decide
  refine own_at (fun t k => XS.icmpYes X2.here hx rfl (pc0 := 85) (pc' := 101) rfl (hb hby d_method_6_85) rfl (Jvm.Free.XT.ii_le_t hc85) (by decide) (by decide) k) ?_
  show own_Go p e below KK T2 (mkF m 101 #[.val (.ref q1), .val (.long q2), .second, .val (.int 2)] [])
  refine own_at (fun t k => XS.iloadN X2.here hx rfl (hb hby d_method_6_101) rfl k) ?_
  show own_Go p e below KK T2 (mkF m 102 #[.val (.ref q1), .val (.long q2), .second, .val (.int 2)] [(.int 2)])
  refine own_at (fun t k => XS.iconst X2.here hx rfl (hb hby d_method_6_102) k) ?_
  show own_Go p e below KK T2 (mkF m 103 #[.val (.ref q1), .val (.long q2), .second, .val (.int 2)] [(.int 5), (.int 2)])
  have hc103 : ¬ ((5 : Int32) < (2 : Int32)) := by decide
  refine own_at (fun t k => XS.icmpYes X2.here hx rfl (pc0 := 103) (pc' := 119) rfl (hb hby d_method_6_103) rfl (Jvm.Free.XT.ii_le_t hc103) (by decide) (by decide) k) ?_
  show own_Go p e below KK T2 (mkF m 119 #[.val (.ref q1), .val (.long q2), .second, .val (.int 2)] [])
  refine own_at (fun t k => XS.iloadN X2.here hx rfl (hb hby d_method_6_119) rfl k) ?_
  show own_Go p e below KK T2 (mkF m 120 #[.val (.ref q1), .val (.long q2), .second, .val (.int 2)] [(.int 2)])
  refine own_at (fun t k => XS.bipush X2.here hx rfl (hb hby d_method_6_120) k) ?_
  show own_Go p e below KK T2 (mkF m 122 #[.val (.ref q1), .val (.long q2), .second, .val (.int 2)] [(.int 6), (.int 2)])
  have hc122 : ¬ ((6 : Int32) < (2 : Int32)) := by decide
  refine own_at (fun t k => XS.icmpYes X2.here hx rfl (pc0 := 122) (pc' := 140) rfl (hb hby d_method_6_122) rfl (Jvm.Free.XT.ii_le_t hc122) (by decide) (by decide) k) ?_
  show own_Go p e below KK T2 (mkF m 140 #[.val (.ref q1), .val (.long q2), .second, .val (.int 2)] [])
  refine own_at (fun t k => XS.iconst X2.here hx rfl (hb hby d_method_6_140) k) ?_
  show own_Go p e below KK T2 (mkF m 141 #[.val (.ref q1), .val (.long q2), .second, .val (.int 2)] [(.int 1)])
  subst hKK
  exact own_retN X2 hx hlk (t := .boolean) Bd.returns (by simp) (hb hby d_method_6_141) (w := (1 : Int32)) (show nar .boolean (1 : Int32) = 1 from by decide) ⟨rfl, N2, e2⟩ (Nat.le_of_ble_eq_true rfl) (Nat.le_of_ble_eq_true rfl)
theorem d_method_6_52 : decode method_6_code 52 = .ok (.aload_n 0, 1) := by decide +kernel
theorem d_method_6_53 : decode method_6_code 53 = .ok (.iconst 2, 1) := by decide +kernel
theorem d_method_6_54 : decode method_6_code 54 = .ok (.baload, 1) := by decide +kernel
theorem d_method_6_55 : decode method_6_code 55 = .ok (.lload_n 1, 1) := by decide +kernel
theorem d_method_6_56 : decode method_6_code 56 = .ok (.iconst 2, 1) := by decide +kernel
theorem d_method_6_57 : decode method_6_code 57 = .ok (.invokestatic 37, 3) := by decide +kernel
theorem d_method_6_60 : decode method_6_code 60 = .ok (.if_icmp .eq 5, 3) := by decide +kernel
set_option maxRecDepth 65536 in
set_option maxHeartbeats 40000000 in
theorem rm_same3 (l : Launch) (Z : State) (a0 : Array Value) (hw : ∀ d ∈ tables_1, d.before a0 Z = true) (ws : List Jvm.Cond) (q1 : Addr) (q2 : Int64)  (h0 : Heap) (n0 : Nat) (Z0 : n0 ≤ h0.size) (Aq : own_A Z h0 q1 "[B" .byte [(.int (own_F_method_3 q2 (0 : Int32))), (.int (own_F_method_3 q2 (1 : Int32))), (.int (own_F_method_3 q2 (2 : Int32)))]) :
    MetFree l (⟨"com/example/isimud/isimud/oscore/OscoreOptionOfRequestPinLaw", "same", "([BJI)Z"⟩ : MethodName) (head1 (Jvm.Cond.code (⟨"com/example/isimud/isimud/oscore/OscoreOptionOfRequestPinLaw", "same", "([BJI)Z"⟩ : MethodName) method_6_code 4 (some .boolean) :: ws) ({ frames := 1, cells := 0, slots := 0, locals := 15 } : Room)) (fun a U => a = #[(.ref q1), (.long q2), (.int 3)] ∧ Z.Warmed39 U.vm ∧ U.heap = h0) (fun _ _ _ _ _ => True) (fun _ U o U' => ∃ v L, o = .returned v ∧ own_P (.int 1) h0 n0 v U'.heap L ∧ FrameEnd U o U' L ({ frames := 1, cells := 0, slots := 0, locals := 15 } : Room).cells ({ frames := 1, cells := 0, slots := 0, locals := 15 } : Room).slots) := by
  refine MetFree.of_bodySF (plainFor_of_name pn_com_example_isimud_isimud_oscore_OscoreOptionOfRequestPinLaw) hisR ?_
  intro p e s m args below meth c s₁ Bd hml0 hP hK
  obtain ⟨rfl, hZ, hh⟩ := hP
  have hx := Bd.exec
  have hby := Bd.bytes
  have hlk : meth.locks = false := BodyLoose.notSynchronized Bd
  have hml : c.maxLocals = 4 := hml0
  have hown : s.vm.findClass "com/example/isimud/isimud/oscore/OscoreOptionOfRequestPinLaw" = some m.cls := findClass_of_methodNamed Bd.named
  have hnm := (name_of_methodNamed Bd.named Bd.method).1
  have X0 : Stand p l e ({ frames := 1, cells := 0, slots := 0, locals := 15 } : Room) s m #[(.ref q1), (.long q2), (.int 3)] below meth c s₁ [] 0 0 := Stand.of_body Bd
  have e0 : s₁.heap = h0 := by rw [← hh, Bd.state]; rfl
  have N0 := Fr.nil n0
  refine own_cast (K := own_K s (own_P (.int 1) h0 n0) 0 0) (ef_method_6 m q1 q2 (3 : Int32)) ?_
  generalize hKK : own_K s (own_P (.int 1) h0 n0) 0 0 = KK
  show own_Go p e below KK s₁ (mkF m 0 #[.val (.ref q1), .val (.long q2), .second, .val (.int 3)] [])
  refine own_at (fun t k => XS.aloadN X0.here hx rfl (hb hby d_method_6_0) rfl rfl k) ?_
  show own_Go p e below KK s₁ (mkF m 1 #[.val (.ref q1), .val (.long q2), .second, .val (.int 3)] [(.ref q1)])
  refine own_at (fun t k => XS.ifnullNo X0.here hx rfl (hb hby d_method_6_1) rfl k) ?_
  show own_Go p e below KK s₁ (mkF m 4 #[.val (.ref q1), .val (.long q2), .second, .val (.int 3)] [])
  refine own_at (fun t k => XS.aloadN X0.here hx rfl (hb hby d_method_6_4) rfl rfl k) ?_
  show own_Go p e below KK s₁ (mkF m 5 #[.val (.ref q1), .val (.long q2), .second, .val (.int 3)] [(.ref q1)])
  refine own_at (fun t k => own_len X0 hx hZ e0 Aq (N := (3 : Int32)) (show (3 : Nat).toInt32 = (3 : Int32) from by decide) (g := (mkF m 5 #[.val (.ref q1), .val (.long q2), .second, .val (.int 3)] [(.ref q1)])) rfl rfl (hb hby d_method_6_5) t k) ?_
  show own_Go p e below KK s₁ (mkF m 6 #[.val (.ref q1), .val (.long q2), .second, .val (.int 3)] [(.int 3)])
  refine own_at (fun t k => XS.iloadN X0.here hx rfl (hb hby d_method_6_6) rfl k) ?_
  show own_Go p e below KK s₁ (mkF m 7 #[.val (.ref q1), .val (.long q2), .second, .val (.int 3)] [(.int 3), (.int 3)])
  have hc7 : (3 : Int32) = (3 : Int32) := by decide
  refine own_at (fun t k => XS.icmpYes X0.here hx rfl (pc0 := 7) (pc' := 12) rfl (hb hby d_method_6_7) rfl (Jvm.Free.XT.ii_eq_t hc7) (by decide) (by decide) k) ?_
  show own_Go p e below KK s₁ (mkF m 12 #[.val (.ref q1), .val (.long q2), .second, .val (.int 3)] [])
  refine own_at (fun t k => XS.iloadN X0.here hx rfl (hb hby d_method_6_12) rfl k) ?_
  show own_Go p e below KK s₁ (mkF m 13 #[.val (.ref q1), .val (.long q2), .second, .val (.int 3)] [(.int 3)])
  have hc13 : (0 : Int32) < (3 : Int32) := by decide
  refine own_at (fun t k => XS.ifNo X0.here hx rfl (hb hby d_method_6_13) rfl (Jvm.Free.XT.i0_le_f hc13) k) ?_
  show own_Go p e below KK s₁ (mkF m 16 #[.val (.ref q1), .val (.long q2), .second, .val (.int 3)] [])
  refine own_at (fun t k => XS.aloadN X0.here hx rfl (hb hby d_method_6_16) rfl rfl k) ?_
  show own_Go p e below KK s₁ (mkF m 17 #[.val (.ref q1), .val (.long q2), .second, .val (.int 3)] [(.ref q1)])
  refine own_at (fun t k => XS.iconst X0.here hx rfl (hb hby d_method_6_17) k) ?_
  show own_Go p e below KK s₁ (mkF m 18 #[.val (.ref q1), .val (.long q2), .second, .val (.int 3)] [(.int 0), (.ref q1)])
  refine own_at (fun t k => own_ldB X0 hx hZ e0 Aq (j := (0 : Int32)) (i := 0) (v := (.int (own_F_method_3 q2 (0 : Int32)))) (by decide) (by decide) rfl (g := (mkF m 18 #[.val (.ref q1), .val (.long q2), .second, .val (.int 3)] [(.int 0), (.ref q1)])) rfl rfl (hb hby d_method_6_18) t k) ?_
  show own_Go p e below KK s₁ (mkF m 19 #[.val (.ref q1), .val (.long q2), .second, .val (.int 3)] [(.int (own_F_method_3 q2 (0 : Int32)))])
  refine own_at (fun t k => XS.lloadN X0.here hx rfl (hb hby d_method_6_19) rfl k) ?_
  show own_Go p e below KK s₁ (mkF m 20 #[.val (.ref q1), .val (.long q2), .second, .val (.int 3)] [(.long q2), (.int (own_F_method_3 q2 (0 : Int32)))])
  refine own_at (fun t k => XS.iconst X0.here hx rfl (hb hby d_method_6_20) k) ?_
  show own_Go p e below KK s₁ (mkF m 21 #[.val (.ref q1), .val (.long q2), .second, .val (.int 3)] [(.int 0), (.long q2), (.int (own_F_method_3 q2 (0 : Int32)))])
  obtain ⟨_, _, ⟨T1, L1, k1, n1⟩, -, X1, ⟨Lc1, hQ1, l1, y1, z1⟩, st1⟩ := Jvm.LawKit.callS X0 hx (y := (⟨"com/example/isimud/isimud/oscore/OscoreOptionOfRequestPinLaw", "b", "(JI)B"⟩ : MethodName)) hown (mvT hZ (hw _ (List.mem_of_getElem? (i := 53) rfl))) (mvT hZ (hw _ (List.mem_of_getElem? (i := 54) rfl))) (mvT hZ (hw _ (List.mem_of_getElem? (i := 2) rfl))) (mvT hZ (hw _ (List.mem_of_getElem? (i := 55) rfl))) (by decide) (backOf (W := 1) (rm_method_3 l Z a0 hw [] q2 (0 : Int32)  h0 n0 Z0 ) hZ (hw _ (List.mem_of_getElem? (i := 55) rfl)) (hw _ (List.mem_of_getElem? (i := 2) rfl)) (by decide) (by decide)) (g := (mkF m 21 #[.val (.ref q1), .val (.long q2), .second, .val (.int 3)] [(.int 0), (.long q2), (.int (own_F_method_3 q2 (0 : Int32)))])) rfl (by rw [hml]; rfl) (argsL := [(.long q2), (.int 0)]) (rest := [(.int (own_F_method_3 q2 (0 : Int32)))]) (lenOf pd__JI_B rfl) rfl (by show 2 * 0 + _ ≤ _; exact Nat.le_of_eq rfl) (hb hby d_method_6_21) (fun _ _ => ⟨rfl, e0, (by decide : 0 + 0 ≤ _), (by decide : 0 + 0 ≤ _)⟩)
  dsimp only [Pt.U, Pt.locs, Pt.cells, Pt.slots] at X1 l1 y1 z1 st1 hQ1
  subst l1 y1 z1
  obtain ⟨rfl, N1q, e1⟩ := hQ1
  have N1 := Fr.app N0 N1q
  refine own_of (fun t k => st1 t k) ?_
  show own_Go p e below KK T1 (mkF m 24 #[.val (.ref q1), .val (.long q2), .second, .val (.int 3)] [(.int (own_F_method_3 q2 (0 : Int32))), (.int (own_F_method_3 q2 (0 : Int32)))])
  have hc24 : (own_F_method_3 q2 (0 : Int32)) = (own_F_method_3 q2 (0 : Int32)) := rfl
  refine own_at (fun t k => XS.icmpYes X1.here hx rfl (pc0 := 24) (pc' := 29) rfl (hb hby d_method_6_24) rfl (Jvm.Free.XT.ii_eq_t hc24) (by decide) (by decide) k) ?_
  show own_Go p e below KK T1 (mkF m 29 #[.val (.ref q1), .val (.long q2), .second, .val (.int 3)] [])
  refine own_at (fun t k => XS.iloadN X1.here hx rfl (hb hby d_method_6_29) rfl k) ?_
  show own_Go p e below KK T1 (mkF m 30 #[.val (.ref q1), .val (.long q2), .second, .val (.int 3)] [(.int 3)])
  refine own_at (fun t k => XS.iconst X1.here hx rfl (hb hby d_method_6_30) k) ?_
  show own_Go p e below KK T1 (mkF m 31 #[.val (.ref q1), .val (.long q2), .second, .val (.int 3)] [(.int 1), (.int 3)])
  have hc31 : (1 : Int32) < (3 : Int32) := by decide
  refine own_at (fun t k => XS.icmpNo X1.here hx rfl (hb hby d_method_6_31) rfl (Jvm.Free.XT.ii_le_f hc31) k) ?_
  show own_Go p e below KK T1 (mkF m 34 #[.val (.ref q1), .val (.long q2), .second, .val (.int 3)] [])
  refine own_at (fun t k => XS.aloadN X1.here hx rfl (hb hby d_method_6_34) rfl rfl k) ?_
  show own_Go p e below KK T1 (mkF m 35 #[.val (.ref q1), .val (.long q2), .second, .val (.int 3)] [(.ref q1)])
  refine own_at (fun t k => XS.iconst X1.here hx rfl (hb hby d_method_6_35) k) ?_
  show own_Go p e below KK T1 (mkF m 36 #[.val (.ref q1), .val (.long q2), .second, .val (.int 3)] [(.int 1), (.ref q1)])
  refine own_at (fun t k => own_ldB X1 hx hZ e1 Aq (j := (1 : Int32)) (i := 1) (v := (.int (own_F_method_3 q2 (1 : Int32)))) (by decide) (by decide) rfl (g := (mkF m 36 #[.val (.ref q1), .val (.long q2), .second, .val (.int 3)] [(.int 1), (.ref q1)])) rfl rfl (hb hby d_method_6_36) t k) ?_
  show own_Go p e below KK T1 (mkF m 37 #[.val (.ref q1), .val (.long q2), .second, .val (.int 3)] [(.int (own_F_method_3 q2 (1 : Int32)))])
  refine own_at (fun t k => XS.lloadN X1.here hx rfl (hb hby d_method_6_37) rfl k) ?_
  show own_Go p e below KK T1 (mkF m 38 #[.val (.ref q1), .val (.long q2), .second, .val (.int 3)] [(.long q2), (.int (own_F_method_3 q2 (1 : Int32)))])
  refine own_at (fun t k => XS.iconst X1.here hx rfl (hb hby d_method_6_38) k) ?_
  show own_Go p e below KK T1 (mkF m 39 #[.val (.ref q1), .val (.long q2), .second, .val (.int 3)] [(.int 1), (.long q2), (.int (own_F_method_3 q2 (1 : Int32)))])
  obtain ⟨_, _, ⟨T2, L2, k2, n2⟩, -, X2, ⟨Lc2, hQ2, l2, y2, z2⟩, st2⟩ := Jvm.LawKit.callS X1 hx (y := (⟨"com/example/isimud/isimud/oscore/OscoreOptionOfRequestPinLaw", "b", "(JI)B"⟩ : MethodName)) hown (mvT hZ (hw _ (List.mem_of_getElem? (i := 53) rfl))) (mvT hZ (hw _ (List.mem_of_getElem? (i := 54) rfl))) (mvT hZ (hw _ (List.mem_of_getElem? (i := 2) rfl))) (mvT hZ (hw _ (List.mem_of_getElem? (i := 55) rfl))) (by decide) (backOf (W := 1) (rm_method_3 l Z a0 hw [] q2 (1 : Int32)  h0 n0 Z0 ) hZ (hw _ (List.mem_of_getElem? (i := 55) rfl)) (hw _ (List.mem_of_getElem? (i := 2) rfl)) (by decide) (by decide)) (g := (mkF m 39 #[.val (.ref q1), .val (.long q2), .second, .val (.int 3)] [(.int 1), (.long q2), (.int (own_F_method_3 q2 (1 : Int32)))])) rfl (by rw [hml]; rfl) (argsL := [(.long q2), (.int 1)]) (rest := [(.int (own_F_method_3 q2 (1 : Int32)))]) (lenOf pd__JI_B rfl) rfl (by show 2 * 0 + _ ≤ _; exact Nat.le_of_eq rfl) (hb hby d_method_6_39) (fun _ _ => ⟨rfl, e1, (by decide : 0 + 0 ≤ _), (by decide : 0 + 0 ≤ _)⟩)
  dsimp only [Pt.U, Pt.locs, Pt.cells, Pt.slots] at X2 l2 y2 z2 st2 hQ2
  subst l2 y2 z2
  obtain ⟨rfl, N2q, e2⟩ := hQ2
  have N2 := Fr.app N1 N2q
  refine own_of (fun t k => st2 t k) ?_
  show own_Go p e below KK T2 (mkF m 42 #[.val (.ref q1), .val (.long q2), .second, .val (.int 3)] [(.int (own_F_method_3 q2 (1 : Int32))), (.int (own_F_method_3 q2 (1 : Int32)))])
  have hc42 : (own_F_method_3 q2 (1 : Int32)) = (own_F_method_3 q2 (1 : Int32)) := rfl
  refine own_at (fun t k => XS.icmpYes X2.here hx rfl (pc0 := 42) (pc' := 47) rfl (hb hby d_method_6_42) rfl (Jvm.Free.XT.ii_eq_t hc42) (by decide) (by decide) k) ?_
  show own_Go p e below KK T2 (mkF m 47 #[.val (.ref q1), .val (.long q2), .second, .val (.int 3)] [])
  refine own_at (fun t k => XS.iloadN X2.here hx rfl (hb hby d_method_6_47) rfl k) ?_
  show own_Go p e below KK T2 (mkF m 48 #[.val (.ref q1), .val (.long q2), .second, .val (.int 3)] [(.int 3)])
  refine own_at (fun t k => XS.iconst X2.here hx rfl (hb hby d_method_6_48) k) ?_
  show own_Go p e below KK T2 (mkF m 49 #[.val (.ref q1), .val (.long q2), .second, .val (.int 3)] [(.int 2), (.int 3)])
  have hc49 : (2 : Int32) < (3 : Int32) := by decide
  refine own_at (fun t k => XS.icmpNo X2.here hx rfl (hb hby d_method_6_49) rfl (Jvm.Free.XT.ii_le_f hc49) k) ?_
  show own_Go p e below KK T2 (mkF m 52 #[.val (.ref q1), .val (.long q2), .second, .val (.int 3)] [])
  refine own_at (fun t k => XS.aloadN X2.here hx rfl (hb hby d_method_6_52) rfl rfl k) ?_
  show own_Go p e below KK T2 (mkF m 53 #[.val (.ref q1), .val (.long q2), .second, .val (.int 3)] [(.ref q1)])
  refine own_at (fun t k => XS.iconst X2.here hx rfl (hb hby d_method_6_53) k) ?_
  show own_Go p e below KK T2 (mkF m 54 #[.val (.ref q1), .val (.long q2), .second, .val (.int 3)] [(.int 2), (.ref q1)])
  refine own_at (fun t k => own_ldB X2 hx hZ e2 Aq (j := (2 : Int32)) (i := 2) (v := (.int (own_F_method_3 q2 (2 : Int32)))) (by decide) (by decide) rfl (g := (mkF m 54 #[.val (.ref q1), .val (.long q2), .second, .val (.int 3)] [(.int 2), (.ref q1)])) rfl rfl (hb hby d_method_6_54) t k) ?_
  show own_Go p e below KK T2 (mkF m 55 #[.val (.ref q1), .val (.long q2), .second, .val (.int 3)] [(.int (own_F_method_3 q2 (2 : Int32)))])
  refine own_at (fun t k => XS.lloadN X2.here hx rfl (hb hby d_method_6_55) rfl k) ?_
  show own_Go p e below KK T2 (mkF m 56 #[.val (.ref q1), .val (.long q2), .second, .val (.int 3)] [(.long q2), (.int (own_F_method_3 q2 (2 : Int32)))])
  refine own_at (fun t k => XS.iconst X2.here hx rfl (hb hby d_method_6_56) k) ?_
  show own_Go p e below KK T2 (mkF m 57 #[.val (.ref q1), .val (.long q2), .second, .val (.int 3)] [(.int 2), (.long q2), (.int (own_F_method_3 q2 (2 : Int32)))])
  obtain ⟨_, _, ⟨T3, L3, k3, n3⟩, -, X3, ⟨Lc3, hQ3, l3, y3, z3⟩, st3⟩ := Jvm.LawKit.callS X2 hx (y := (⟨"com/example/isimud/isimud/oscore/OscoreOptionOfRequestPinLaw", "b", "(JI)B"⟩ : MethodName)) hown (mvT hZ (hw _ (List.mem_of_getElem? (i := 53) rfl))) (mvT hZ (hw _ (List.mem_of_getElem? (i := 54) rfl))) (mvT hZ (hw _ (List.mem_of_getElem? (i := 2) rfl))) (mvT hZ (hw _ (List.mem_of_getElem? (i := 55) rfl))) (by decide) (backOf (W := 1) (rm_method_3 l Z a0 hw [] q2 (2 : Int32)  h0 n0 Z0 ) hZ (hw _ (List.mem_of_getElem? (i := 55) rfl)) (hw _ (List.mem_of_getElem? (i := 2) rfl)) (by decide) (by decide)) (g := (mkF m 57 #[.val (.ref q1), .val (.long q2), .second, .val (.int 3)] [(.int 2), (.long q2), (.int (own_F_method_3 q2 (2 : Int32)))])) rfl (by rw [hml]; rfl) (argsL := [(.long q2), (.int 2)]) (rest := [(.int (own_F_method_3 q2 (2 : Int32)))]) (lenOf pd__JI_B rfl) rfl (by show 2 * 0 + _ ≤ _; exact Nat.le_of_eq rfl) (hb hby d_method_6_57) (fun _ _ => ⟨rfl, e2, (by decide : 0 + 0 ≤ _), (by decide : 0 + 0 ≤ _)⟩)
  dsimp only [Pt.U, Pt.locs, Pt.cells, Pt.slots] at X3 l3 y3 z3 st3 hQ3
  subst l3 y3 z3
  obtain ⟨rfl, N3q, e3⟩ := hQ3
  have N3 := Fr.app N2 N3q
  refine own_of (fun t k => st3 t k) ?_
  show own_Go p e below KK T3 (mkF m 60 #[.val (.ref q1), .val (.long q2), .second, .val (.int 3)] [(.int (own_F_method_3 q2 (2 : Int32))), (.int (own_F_method_3 q2 (2 : Int32)))])
  have hc60 : (own_F_method_3 q2 (2 : Int32)) = (own_F_method_3 q2 (2 : Int32)) := rfl
  refine own_at (fun t k => XS.icmpYes X3.here hx rfl (pc0 := 60) (pc' := 65) rfl (hb hby d_method_6_60) rfl (Jvm.Free.XT.ii_eq_t hc60) (by decide) (by decide) k) ?_
  show own_Go p e below KK T3 (mkF m 65 #[.val (.ref q1), .val (.long q2), .second, .val (.int 3)] [])
  refine own_at (fun t k => XS.iloadN X3.here hx rfl (hb hby d_method_6_65) rfl k) ?_
  show own_Go p e below KK T3 (mkF m 66 #[.val (.ref q1), .val (.long q2), .second, .val (.int 3)] [(.int 3)])
  refine own_at (fun t k => XS.iconst X3.here hx rfl (hb hby d_method_6_66) k) ?_
  show own_Go p e below KK T3 (mkF m 67 #[.val (.ref q1), .val (.long q2), .second, .val (.int 3)] [(.int 3), (.int 3)])
  have hc67 : ¬ ((3 : Int32) < (3 : Int32)) := by decide
  refine own_at (fun t k => XS.icmpYes X3.here hx rfl (pc0 := 67) (pc' := 83) rfl (hb hby d_method_6_67) rfl (Jvm.Free.XT.ii_le_t hc67) (by decide) (by decide) k) ?_
  show own_Go p e below KK T3 (mkF m 83 #[.val (.ref q1), .val (.long q2), .second, .val (.int 3)] [])
  refine own_at (fun t k => XS.iloadN X3.here hx rfl (hb hby d_method_6_83) rfl k) ?_
  show own_Go p e below KK T3 (mkF m 84 #[.val (.ref q1), .val (.long q2), .second, .val (.int 3)] [(.int 3)])
  refine own_at (fun t k => XS.iconst X3.here hx rfl (hb hby d_method_6_84) k) ?_
  show own_Go p e below KK T3 (mkF m 85 #[.val (.ref q1), .val (.long q2), .second, .val (.int 3)] [(.int 4), (.int 3)])
  have hc85 : ¬ ((4 : Int32) < (3 : Int32)) := by decide
  refine own_at (fun t k => XS.icmpYes X3.here hx rfl (pc0 := 85) (pc' := 101) rfl (hb hby d_method_6_85) rfl (Jvm.Free.XT.ii_le_t hc85) (by decide) (by decide) k) ?_
  show own_Go p e below KK T3 (mkF m 101 #[.val (.ref q1), .val (.long q2), .second, .val (.int 3)] [])
  refine own_at (fun t k => XS.iloadN X3.here hx rfl (hb hby d_method_6_101) rfl k) ?_
  show own_Go p e below KK T3 (mkF m 102 #[.val (.ref q1), .val (.long q2), .second, .val (.int 3)] [(.int 3)])
  refine own_at (fun t k => XS.iconst X3.here hx rfl (hb hby d_method_6_102) k) ?_
  show own_Go p e below KK T3 (mkF m 103 #[.val (.ref q1), .val (.long q2), .second, .val (.int 3)] [(.int 5), (.int 3)])
  have hc103 : ¬ ((5 : Int32) < (3 : Int32)) := by decide
  refine own_at (fun t k => XS.icmpYes X3.here hx rfl (pc0 := 103) (pc' := 119) rfl (hb hby d_method_6_103) rfl (Jvm.Free.XT.ii_le_t hc103) (by decide) (by decide) k) ?_
  show own_Go p e below KK T3 (mkF m 119 #[.val (.ref q1), .val (.long q2), .second, .val (.int 3)] [])
  refine own_at (fun t k => XS.iloadN X3.here hx rfl (hb hby d_method_6_119) rfl k) ?_
  show own_Go p e below KK T3 (mkF m 120 #[.val (.ref q1), .val (.long q2), .second, .val (.int 3)] [(.int 3)])
  refine own_at (fun t k => XS.bipush X3.here hx rfl (hb hby d_method_6_120) k) ?_
  show own_Go p e below KK T3 (mkF m 122 #[.val (.ref q1), .val (.long q2), .second, .val (.int 3)] [(.int 6), (.int 3)])
  have hc122 : ¬ ((6 : Int32) < (3 : Int32)) := by decide
  refine own_at (fun t k => XS.icmpYes X3.here hx rfl (pc0 := 122) (pc' := 140) rfl (hb hby d_method_6_122) rfl (Jvm.Free.XT.ii_le_t hc122) (by decide) (by decide) k) ?_
  show own_Go p e below KK T3 (mkF m 140 #[.val (.ref q1), .val (.long q2), .second, .val (.int 3)] [])
  refine own_at (fun t k => XS.iconst X3.here hx rfl (hb hby d_method_6_140) k) ?_
  show own_Go p e below KK T3 (mkF m 141 #[.val (.ref q1), .val (.long q2), .second, .val (.int 3)] [(.int 1)])
  subst hKK
  exact own_retN X3 hx hlk (t := .boolean) Bd.returns (by simp) (hb hby d_method_6_141) (w := (1 : Int32)) (show nar .boolean (1 : Int32) = 1 from by decide) ⟨rfl, N3, e3⟩ (Nat.le_of_ble_eq_true rfl) (Nat.le_of_ble_eq_true rfl)
theorem d_method_6_70 : decode method_6_code 70 = .ok (.aload_n 0, 1) := by decide +kernel
theorem d_method_6_71 : decode method_6_code 71 = .ok (.iconst 3, 1) := by decide +kernel
theorem d_method_6_72 : decode method_6_code 72 = .ok (.baload, 1) := by decide +kernel
theorem d_method_6_73 : decode method_6_code 73 = .ok (.lload_n 1, 1) := by decide +kernel
theorem d_method_6_74 : decode method_6_code 74 = .ok (.iconst 3, 1) := by decide +kernel
theorem d_method_6_75 : decode method_6_code 75 = .ok (.invokestatic 37, 3) := by decide +kernel
theorem d_method_6_78 : decode method_6_code 78 = .ok (.if_icmp .eq 5, 3) := by decide +kernel
set_option maxRecDepth 65536 in
set_option maxHeartbeats 40000000 in
theorem rm_same4 (l : Launch) (Z : State) (a0 : Array Value) (hw : ∀ d ∈ tables_1, d.before a0 Z = true) (ws : List Jvm.Cond) (q1 : Addr) (q2 : Int64)  (h0 : Heap) (n0 : Nat) (Z0 : n0 ≤ h0.size) (Aq : own_A Z h0 q1 "[B" .byte [(.int (own_F_method_3 q2 (0 : Int32))), (.int (own_F_method_3 q2 (1 : Int32))), (.int (own_F_method_3 q2 (2 : Int32))), (.int (own_F_method_3 q2 (3 : Int32)))]) :
    MetFree l (⟨"com/example/isimud/isimud/oscore/OscoreOptionOfRequestPinLaw", "same", "([BJI)Z"⟩ : MethodName) (head1 (Jvm.Cond.code (⟨"com/example/isimud/isimud/oscore/OscoreOptionOfRequestPinLaw", "same", "([BJI)Z"⟩ : MethodName) method_6_code 4 (some .boolean) :: ws) ({ frames := 1, cells := 0, slots := 0, locals := 15 } : Room)) (fun a U => a = #[(.ref q1), (.long q2), (.int 4)] ∧ Z.Warmed39 U.vm ∧ U.heap = h0) (fun _ _ _ _ _ => True) (fun _ U o U' => ∃ v L, o = .returned v ∧ own_P (.int 1) h0 n0 v U'.heap L ∧ FrameEnd U o U' L ({ frames := 1, cells := 0, slots := 0, locals := 15 } : Room).cells ({ frames := 1, cells := 0, slots := 0, locals := 15 } : Room).slots) := by
  refine MetFree.of_bodySF (plainFor_of_name pn_com_example_isimud_isimud_oscore_OscoreOptionOfRequestPinLaw) hisR ?_
  intro p e s m args below meth c s₁ Bd hml0 hP hK
  obtain ⟨rfl, hZ, hh⟩ := hP
  have hx := Bd.exec
  have hby := Bd.bytes
  have hlk : meth.locks = false := BodyLoose.notSynchronized Bd
  have hml : c.maxLocals = 4 := hml0
  have hown : s.vm.findClass "com/example/isimud/isimud/oscore/OscoreOptionOfRequestPinLaw" = some m.cls := findClass_of_methodNamed Bd.named
  have hnm := (name_of_methodNamed Bd.named Bd.method).1
  have X0 : Stand p l e ({ frames := 1, cells := 0, slots := 0, locals := 15 } : Room) s m #[(.ref q1), (.long q2), (.int 4)] below meth c s₁ [] 0 0 := Stand.of_body Bd
  have e0 : s₁.heap = h0 := by rw [← hh, Bd.state]; rfl
  have N0 := Fr.nil n0
  refine own_cast (K := own_K s (own_P (.int 1) h0 n0) 0 0) (ef_method_6 m q1 q2 (4 : Int32)) ?_
  generalize hKK : own_K s (own_P (.int 1) h0 n0) 0 0 = KK
  show own_Go p e below KK s₁ (mkF m 0 #[.val (.ref q1), .val (.long q2), .second, .val (.int 4)] [])
  refine own_at (fun t k => XS.aloadN X0.here hx rfl (hb hby d_method_6_0) rfl rfl k) ?_
  show own_Go p e below KK s₁ (mkF m 1 #[.val (.ref q1), .val (.long q2), .second, .val (.int 4)] [(.ref q1)])
  refine own_at (fun t k => XS.ifnullNo X0.here hx rfl (hb hby d_method_6_1) rfl k) ?_
  show own_Go p e below KK s₁ (mkF m 4 #[.val (.ref q1), .val (.long q2), .second, .val (.int 4)] [])
  refine own_at (fun t k => XS.aloadN X0.here hx rfl (hb hby d_method_6_4) rfl rfl k) ?_
  show own_Go p e below KK s₁ (mkF m 5 #[.val (.ref q1), .val (.long q2), .second, .val (.int 4)] [(.ref q1)])
  refine own_at (fun t k => own_len X0 hx hZ e0 Aq (N := (4 : Int32)) (show (4 : Nat).toInt32 = (4 : Int32) from by decide) (g := (mkF m 5 #[.val (.ref q1), .val (.long q2), .second, .val (.int 4)] [(.ref q1)])) rfl rfl (hb hby d_method_6_5) t k) ?_
  show own_Go p e below KK s₁ (mkF m 6 #[.val (.ref q1), .val (.long q2), .second, .val (.int 4)] [(.int 4)])
  refine own_at (fun t k => XS.iloadN X0.here hx rfl (hb hby d_method_6_6) rfl k) ?_
  show own_Go p e below KK s₁ (mkF m 7 #[.val (.ref q1), .val (.long q2), .second, .val (.int 4)] [(.int 4), (.int 4)])
  have hc7 : (4 : Int32) = (4 : Int32) := by decide
  refine own_at (fun t k => XS.icmpYes X0.here hx rfl (pc0 := 7) (pc' := 12) rfl (hb hby d_method_6_7) rfl (Jvm.Free.XT.ii_eq_t hc7) (by decide) (by decide) k) ?_
  show own_Go p e below KK s₁ (mkF m 12 #[.val (.ref q1), .val (.long q2), .second, .val (.int 4)] [])
  refine own_at (fun t k => XS.iloadN X0.here hx rfl (hb hby d_method_6_12) rfl k) ?_
  show own_Go p e below KK s₁ (mkF m 13 #[.val (.ref q1), .val (.long q2), .second, .val (.int 4)] [(.int 4)])
  have hc13 : (0 : Int32) < (4 : Int32) := by decide
  refine own_at (fun t k => XS.ifNo X0.here hx rfl (hb hby d_method_6_13) rfl (Jvm.Free.XT.i0_le_f hc13) k) ?_
  show own_Go p e below KK s₁ (mkF m 16 #[.val (.ref q1), .val (.long q2), .second, .val (.int 4)] [])
  refine own_at (fun t k => XS.aloadN X0.here hx rfl (hb hby d_method_6_16) rfl rfl k) ?_
  show own_Go p e below KK s₁ (mkF m 17 #[.val (.ref q1), .val (.long q2), .second, .val (.int 4)] [(.ref q1)])
  refine own_at (fun t k => XS.iconst X0.here hx rfl (hb hby d_method_6_17) k) ?_
  show own_Go p e below KK s₁ (mkF m 18 #[.val (.ref q1), .val (.long q2), .second, .val (.int 4)] [(.int 0), (.ref q1)])
  refine own_at (fun t k => own_ldB X0 hx hZ e0 Aq (j := (0 : Int32)) (i := 0) (v := (.int (own_F_method_3 q2 (0 : Int32)))) (by decide) (by decide) rfl (g := (mkF m 18 #[.val (.ref q1), .val (.long q2), .second, .val (.int 4)] [(.int 0), (.ref q1)])) rfl rfl (hb hby d_method_6_18) t k) ?_
  show own_Go p e below KK s₁ (mkF m 19 #[.val (.ref q1), .val (.long q2), .second, .val (.int 4)] [(.int (own_F_method_3 q2 (0 : Int32)))])
  refine own_at (fun t k => XS.lloadN X0.here hx rfl (hb hby d_method_6_19) rfl k) ?_
  show own_Go p e below KK s₁ (mkF m 20 #[.val (.ref q1), .val (.long q2), .second, .val (.int 4)] [(.long q2), (.int (own_F_method_3 q2 (0 : Int32)))])
  refine own_at (fun t k => XS.iconst X0.here hx rfl (hb hby d_method_6_20) k) ?_
  show own_Go p e below KK s₁ (mkF m 21 #[.val (.ref q1), .val (.long q2), .second, .val (.int 4)] [(.int 0), (.long q2), (.int (own_F_method_3 q2 (0 : Int32)))])
  obtain ⟨_, _, ⟨T1, L1, k1, n1⟩, -, X1, ⟨Lc1, hQ1, l1, y1, z1⟩, st1⟩ := Jvm.LawKit.callS X0 hx (y := (⟨"com/example/isimud/isimud/oscore/OscoreOptionOfRequestPinLaw", "b", "(JI)B"⟩ : MethodName)) hown (mvT hZ (hw _ (List.mem_of_getElem? (i := 53) rfl))) (mvT hZ (hw _ (List.mem_of_getElem? (i := 54) rfl))) (mvT hZ (hw _ (List.mem_of_getElem? (i := 2) rfl))) (mvT hZ (hw _ (List.mem_of_getElem? (i := 55) rfl))) (by decide) (backOf (W := 1) (rm_method_3 l Z a0 hw [] q2 (0 : Int32)  h0 n0 Z0 ) hZ (hw _ (List.mem_of_getElem? (i := 55) rfl)) (hw _ (List.mem_of_getElem? (i := 2) rfl)) (by decide) (by decide)) (g := (mkF m 21 #[.val (.ref q1), .val (.long q2), .second, .val (.int 4)] [(.int 0), (.long q2), (.int (own_F_method_3 q2 (0 : Int32)))])) rfl (by rw [hml]; rfl) (argsL := [(.long q2), (.int 0)]) (rest := [(.int (own_F_method_3 q2 (0 : Int32)))]) (lenOf pd__JI_B rfl) rfl (by show 2 * 0 + _ ≤ _; exact Nat.le_of_eq rfl) (hb hby d_method_6_21) (fun _ _ => ⟨rfl, e0, (by decide : 0 + 0 ≤ _), (by decide : 0 + 0 ≤ _)⟩)
  dsimp only [Pt.U, Pt.locs, Pt.cells, Pt.slots] at X1 l1 y1 z1 st1 hQ1
  subst l1 y1 z1
  obtain ⟨rfl, N1q, e1⟩ := hQ1
  have N1 := Fr.app N0 N1q
  refine own_of (fun t k => st1 t k) ?_
  show own_Go p e below KK T1 (mkF m 24 #[.val (.ref q1), .val (.long q2), .second, .val (.int 4)] [(.int (own_F_method_3 q2 (0 : Int32))), (.int (own_F_method_3 q2 (0 : Int32)))])
  have hc24 : (own_F_method_3 q2 (0 : Int32)) = (own_F_method_3 q2 (0 : Int32)) := rfl
  refine own_at (fun t k => XS.icmpYes X1.here hx rfl (pc0 := 24) (pc' := 29) rfl (hb hby d_method_6_24) rfl (Jvm.Free.XT.ii_eq_t hc24) (by decide) (by decide) k) ?_
  show own_Go p e below KK T1 (mkF m 29 #[.val (.ref q1), .val (.long q2), .second, .val (.int 4)] [])
  refine own_at (fun t k => XS.iloadN X1.here hx rfl (hb hby d_method_6_29) rfl k) ?_
  show own_Go p e below KK T1 (mkF m 30 #[.val (.ref q1), .val (.long q2), .second, .val (.int 4)] [(.int 4)])
  refine own_at (fun t k => XS.iconst X1.here hx rfl (hb hby d_method_6_30) k) ?_
  show own_Go p e below KK T1 (mkF m 31 #[.val (.ref q1), .val (.long q2), .second, .val (.int 4)] [(.int 1), (.int 4)])
  have hc31 : (1 : Int32) < (4 : Int32) := by decide
  refine own_at (fun t k => XS.icmpNo X1.here hx rfl (hb hby d_method_6_31) rfl (Jvm.Free.XT.ii_le_f hc31) k) ?_
  show own_Go p e below KK T1 (mkF m 34 #[.val (.ref q1), .val (.long q2), .second, .val (.int 4)] [])
  refine own_at (fun t k => XS.aloadN X1.here hx rfl (hb hby d_method_6_34) rfl rfl k) ?_
  show own_Go p e below KK T1 (mkF m 35 #[.val (.ref q1), .val (.long q2), .second, .val (.int 4)] [(.ref q1)])
  refine own_at (fun t k => XS.iconst X1.here hx rfl (hb hby d_method_6_35) k) ?_
  show own_Go p e below KK T1 (mkF m 36 #[.val (.ref q1), .val (.long q2), .second, .val (.int 4)] [(.int 1), (.ref q1)])
  refine own_at (fun t k => own_ldB X1 hx hZ e1 Aq (j := (1 : Int32)) (i := 1) (v := (.int (own_F_method_3 q2 (1 : Int32)))) (by decide) (by decide) rfl (g := (mkF m 36 #[.val (.ref q1), .val (.long q2), .second, .val (.int 4)] [(.int 1), (.ref q1)])) rfl rfl (hb hby d_method_6_36) t k) ?_
  show own_Go p e below KK T1 (mkF m 37 #[.val (.ref q1), .val (.long q2), .second, .val (.int 4)] [(.int (own_F_method_3 q2 (1 : Int32)))])
  refine own_at (fun t k => XS.lloadN X1.here hx rfl (hb hby d_method_6_37) rfl k) ?_
  show own_Go p e below KK T1 (mkF m 38 #[.val (.ref q1), .val (.long q2), .second, .val (.int 4)] [(.long q2), (.int (own_F_method_3 q2 (1 : Int32)))])
  refine own_at (fun t k => XS.iconst X1.here hx rfl (hb hby d_method_6_38) k) ?_
  show own_Go p e below KK T1 (mkF m 39 #[.val (.ref q1), .val (.long q2), .second, .val (.int 4)] [(.int 1), (.long q2), (.int (own_F_method_3 q2 (1 : Int32)))])
  obtain ⟨_, _, ⟨T2, L2, k2, n2⟩, -, X2, ⟨Lc2, hQ2, l2, y2, z2⟩, st2⟩ := Jvm.LawKit.callS X1 hx (y := (⟨"com/example/isimud/isimud/oscore/OscoreOptionOfRequestPinLaw", "b", "(JI)B"⟩ : MethodName)) hown (mvT hZ (hw _ (List.mem_of_getElem? (i := 53) rfl))) (mvT hZ (hw _ (List.mem_of_getElem? (i := 54) rfl))) (mvT hZ (hw _ (List.mem_of_getElem? (i := 2) rfl))) (mvT hZ (hw _ (List.mem_of_getElem? (i := 55) rfl))) (by decide) (backOf (W := 1) (rm_method_3 l Z a0 hw [] q2 (1 : Int32)  h0 n0 Z0 ) hZ (hw _ (List.mem_of_getElem? (i := 55) rfl)) (hw _ (List.mem_of_getElem? (i := 2) rfl)) (by decide) (by decide)) (g := (mkF m 39 #[.val (.ref q1), .val (.long q2), .second, .val (.int 4)] [(.int 1), (.long q2), (.int (own_F_method_3 q2 (1 : Int32)))])) rfl (by rw [hml]; rfl) (argsL := [(.long q2), (.int 1)]) (rest := [(.int (own_F_method_3 q2 (1 : Int32)))]) (lenOf pd__JI_B rfl) rfl (by show 2 * 0 + _ ≤ _; exact Nat.le_of_eq rfl) (hb hby d_method_6_39) (fun _ _ => ⟨rfl, e1, (by decide : 0 + 0 ≤ _), (by decide : 0 + 0 ≤ _)⟩)
  dsimp only [Pt.U, Pt.locs, Pt.cells, Pt.slots] at X2 l2 y2 z2 st2 hQ2
  subst l2 y2 z2
  obtain ⟨rfl, N2q, e2⟩ := hQ2
  have N2 := Fr.app N1 N2q
  refine own_of (fun t k => st2 t k) ?_
  show own_Go p e below KK T2 (mkF m 42 #[.val (.ref q1), .val (.long q2), .second, .val (.int 4)] [(.int (own_F_method_3 q2 (1 : Int32))), (.int (own_F_method_3 q2 (1 : Int32)))])
  have hc42 : (own_F_method_3 q2 (1 : Int32)) = (own_F_method_3 q2 (1 : Int32)) := rfl
  refine own_at (fun t k => XS.icmpYes X2.here hx rfl (pc0 := 42) (pc' := 47) rfl (hb hby d_method_6_42) rfl (Jvm.Free.XT.ii_eq_t hc42) (by decide) (by decide) k) ?_
  show own_Go p e below KK T2 (mkF m 47 #[.val (.ref q1), .val (.long q2), .second, .val (.int 4)] [])
  refine own_at (fun t k => XS.iloadN X2.here hx rfl (hb hby d_method_6_47) rfl k) ?_
  show own_Go p e below KK T2 (mkF m 48 #[.val (.ref q1), .val (.long q2), .second, .val (.int 4)] [(.int 4)])
  refine own_at (fun t k => XS.iconst X2.here hx rfl (hb hby d_method_6_48) k) ?_
  show own_Go p e below KK T2 (mkF m 49 #[.val (.ref q1), .val (.long q2), .second, .val (.int 4)] [(.int 2), (.int 4)])
  have hc49 : (2 : Int32) < (4 : Int32) := by decide
  refine own_at (fun t k => XS.icmpNo X2.here hx rfl (hb hby d_method_6_49) rfl (Jvm.Free.XT.ii_le_f hc49) k) ?_
  show own_Go p e below KK T2 (mkF m 52 #[.val (.ref q1), .val (.long q2), .second, .val (.int 4)] [])
  refine own_at (fun t k => XS.aloadN X2.here hx rfl (hb hby d_method_6_52) rfl rfl k) ?_
  show own_Go p e below KK T2 (mkF m 53 #[.val (.ref q1), .val (.long q2), .second, .val (.int 4)] [(.ref q1)])
  refine own_at (fun t k => XS.iconst X2.here hx rfl (hb hby d_method_6_53) k) ?_
  show own_Go p e below KK T2 (mkF m 54 #[.val (.ref q1), .val (.long q2), .second, .val (.int 4)] [(.int 2), (.ref q1)])
  refine own_at (fun t k => own_ldB X2 hx hZ e2 Aq (j := (2 : Int32)) (i := 2) (v := (.int (own_F_method_3 q2 (2 : Int32)))) (by decide) (by decide) rfl (g := (mkF m 54 #[.val (.ref q1), .val (.long q2), .second, .val (.int 4)] [(.int 2), (.ref q1)])) rfl rfl (hb hby d_method_6_54) t k) ?_
  show own_Go p e below KK T2 (mkF m 55 #[.val (.ref q1), .val (.long q2), .second, .val (.int 4)] [(.int (own_F_method_3 q2 (2 : Int32)))])
  refine own_at (fun t k => XS.lloadN X2.here hx rfl (hb hby d_method_6_55) rfl k) ?_
  show own_Go p e below KK T2 (mkF m 56 #[.val (.ref q1), .val (.long q2), .second, .val (.int 4)] [(.long q2), (.int (own_F_method_3 q2 (2 : Int32)))])
  refine own_at (fun t k => XS.iconst X2.here hx rfl (hb hby d_method_6_56) k) ?_
  show own_Go p e below KK T2 (mkF m 57 #[.val (.ref q1), .val (.long q2), .second, .val (.int 4)] [(.int 2), (.long q2), (.int (own_F_method_3 q2 (2 : Int32)))])
  obtain ⟨_, _, ⟨T3, L3, k3, n3⟩, -, X3, ⟨Lc3, hQ3, l3, y3, z3⟩, st3⟩ := Jvm.LawKit.callS X2 hx (y := (⟨"com/example/isimud/isimud/oscore/OscoreOptionOfRequestPinLaw", "b", "(JI)B"⟩ : MethodName)) hown (mvT hZ (hw _ (List.mem_of_getElem? (i := 53) rfl))) (mvT hZ (hw _ (List.mem_of_getElem? (i := 54) rfl))) (mvT hZ (hw _ (List.mem_of_getElem? (i := 2) rfl))) (mvT hZ (hw _ (List.mem_of_getElem? (i := 55) rfl))) (by decide) (backOf (W := 1) (rm_method_3 l Z a0 hw [] q2 (2 : Int32)  h0 n0 Z0 ) hZ (hw _ (List.mem_of_getElem? (i := 55) rfl)) (hw _ (List.mem_of_getElem? (i := 2) rfl)) (by decide) (by decide)) (g := (mkF m 57 #[.val (.ref q1), .val (.long q2), .second, .val (.int 4)] [(.int 2), (.long q2), (.int (own_F_method_3 q2 (2 : Int32)))])) rfl (by rw [hml]; rfl) (argsL := [(.long q2), (.int 2)]) (rest := [(.int (own_F_method_3 q2 (2 : Int32)))]) (lenOf pd__JI_B rfl) rfl (by show 2 * 0 + _ ≤ _; exact Nat.le_of_eq rfl) (hb hby d_method_6_57) (fun _ _ => ⟨rfl, e2, (by decide : 0 + 0 ≤ _), (by decide : 0 + 0 ≤ _)⟩)
  dsimp only [Pt.U, Pt.locs, Pt.cells, Pt.slots] at X3 l3 y3 z3 st3 hQ3
  subst l3 y3 z3
  obtain ⟨rfl, N3q, e3⟩ := hQ3
  have N3 := Fr.app N2 N3q
  refine own_of (fun t k => st3 t k) ?_
  show own_Go p e below KK T3 (mkF m 60 #[.val (.ref q1), .val (.long q2), .second, .val (.int 4)] [(.int (own_F_method_3 q2 (2 : Int32))), (.int (own_F_method_3 q2 (2 : Int32)))])
  have hc60 : (own_F_method_3 q2 (2 : Int32)) = (own_F_method_3 q2 (2 : Int32)) := rfl
  refine own_at (fun t k => XS.icmpYes X3.here hx rfl (pc0 := 60) (pc' := 65) rfl (hb hby d_method_6_60) rfl (Jvm.Free.XT.ii_eq_t hc60) (by decide) (by decide) k) ?_
  show own_Go p e below KK T3 (mkF m 65 #[.val (.ref q1), .val (.long q2), .second, .val (.int 4)] [])
  refine own_at (fun t k => XS.iloadN X3.here hx rfl (hb hby d_method_6_65) rfl k) ?_
  show own_Go p e below KK T3 (mkF m 66 #[.val (.ref q1), .val (.long q2), .second, .val (.int 4)] [(.int 4)])
  refine own_at (fun t k => XS.iconst X3.here hx rfl (hb hby d_method_6_66) k) ?_
  show own_Go p e below KK T3 (mkF m 67 #[.val (.ref q1), .val (.long q2), .second, .val (.int 4)] [(.int 3), (.int 4)])
  have hc67 : (3 : Int32) < (4 : Int32) := by decide
  refine own_at (fun t k => XS.icmpNo X3.here hx rfl (hb hby d_method_6_67) rfl (Jvm.Free.XT.ii_le_f hc67) k) ?_
  show own_Go p e below KK T3 (mkF m 70 #[.val (.ref q1), .val (.long q2), .second, .val (.int 4)] [])
  refine own_at (fun t k => XS.aloadN X3.here hx rfl (hb hby d_method_6_70) rfl rfl k) ?_
  show own_Go p e below KK T3 (mkF m 71 #[.val (.ref q1), .val (.long q2), .second, .val (.int 4)] [(.ref q1)])
  refine own_at (fun t k => XS.iconst X3.here hx rfl (hb hby d_method_6_71) k) ?_
  show own_Go p e below KK T3 (mkF m 72 #[.val (.ref q1), .val (.long q2), .second, .val (.int 4)] [(.int 3), (.ref q1)])
  refine own_at (fun t k => own_ldB X3 hx hZ e3 Aq (j := (3 : Int32)) (i := 3) (v := (.int (own_F_method_3 q2 (3 : Int32)))) (by decide) (by decide) rfl (g := (mkF m 72 #[.val (.ref q1), .val (.long q2), .second, .val (.int 4)] [(.int 3), (.ref q1)])) rfl rfl (hb hby d_method_6_72) t k) ?_
  show own_Go p e below KK T3 (mkF m 73 #[.val (.ref q1), .val (.long q2), .second, .val (.int 4)] [(.int (own_F_method_3 q2 (3 : Int32)))])
  refine own_at (fun t k => XS.lloadN X3.here hx rfl (hb hby d_method_6_73) rfl k) ?_
  show own_Go p e below KK T3 (mkF m 74 #[.val (.ref q1), .val (.long q2), .second, .val (.int 4)] [(.long q2), (.int (own_F_method_3 q2 (3 : Int32)))])
  refine own_at (fun t k => XS.iconst X3.here hx rfl (hb hby d_method_6_74) k) ?_
  show own_Go p e below KK T3 (mkF m 75 #[.val (.ref q1), .val (.long q2), .second, .val (.int 4)] [(.int 3), (.long q2), (.int (own_F_method_3 q2 (3 : Int32)))])
  obtain ⟨_, _, ⟨T4, L4, k4, n4⟩, -, X4, ⟨Lc4, hQ4, l4, y4, z4⟩, st4⟩ := Jvm.LawKit.callS X3 hx (y := (⟨"com/example/isimud/isimud/oscore/OscoreOptionOfRequestPinLaw", "b", "(JI)B"⟩ : MethodName)) hown (mvT hZ (hw _ (List.mem_of_getElem? (i := 53) rfl))) (mvT hZ (hw _ (List.mem_of_getElem? (i := 54) rfl))) (mvT hZ (hw _ (List.mem_of_getElem? (i := 2) rfl))) (mvT hZ (hw _ (List.mem_of_getElem? (i := 55) rfl))) (by decide) (backOf (W := 1) (rm_method_3 l Z a0 hw [] q2 (3 : Int32)  h0 n0 Z0 ) hZ (hw _ (List.mem_of_getElem? (i := 55) rfl)) (hw _ (List.mem_of_getElem? (i := 2) rfl)) (by decide) (by decide)) (g := (mkF m 75 #[.val (.ref q1), .val (.long q2), .second, .val (.int 4)] [(.int 3), (.long q2), (.int (own_F_method_3 q2 (3 : Int32)))])) rfl (by rw [hml]; rfl) (argsL := [(.long q2), (.int 3)]) (rest := [(.int (own_F_method_3 q2 (3 : Int32)))]) (lenOf pd__JI_B rfl) rfl (by show 2 * 0 + _ ≤ _; exact Nat.le_of_eq rfl) (hb hby d_method_6_75) (fun _ _ => ⟨rfl, e3, (by decide : 0 + 0 ≤ _), (by decide : 0 + 0 ≤ _)⟩)
  dsimp only [Pt.U, Pt.locs, Pt.cells, Pt.slots] at X4 l4 y4 z4 st4 hQ4
  subst l4 y4 z4
  obtain ⟨rfl, N4q, e4⟩ := hQ4
  have N4 := Fr.app N3 N4q
  refine own_of (fun t k => st4 t k) ?_
  show own_Go p e below KK T4 (mkF m 78 #[.val (.ref q1), .val (.long q2), .second, .val (.int 4)] [(.int (own_F_method_3 q2 (3 : Int32))), (.int (own_F_method_3 q2 (3 : Int32)))])
  have hc78 : (own_F_method_3 q2 (3 : Int32)) = (own_F_method_3 q2 (3 : Int32)) := rfl
  refine own_at (fun t k => XS.icmpYes X4.here hx rfl (pc0 := 78) (pc' := 83) rfl (hb hby d_method_6_78) rfl (Jvm.Free.XT.ii_eq_t hc78) (by decide) (by decide) k) ?_
  show own_Go p e below KK T4 (mkF m 83 #[.val (.ref q1), .val (.long q2), .second, .val (.int 4)] [])
  refine own_at (fun t k => XS.iloadN X4.here hx rfl (hb hby d_method_6_83) rfl k) ?_
  show own_Go p e below KK T4 (mkF m 84 #[.val (.ref q1), .val (.long q2), .second, .val (.int 4)] [(.int 4)])
  refine own_at (fun t k => XS.iconst X4.here hx rfl (hb hby d_method_6_84) k) ?_
  show own_Go p e below KK T4 (mkF m 85 #[.val (.ref q1), .val (.long q2), .second, .val (.int 4)] [(.int 4), (.int 4)])
  have hc85 : ¬ ((4 : Int32) < (4 : Int32)) := by decide
  refine own_at (fun t k => XS.icmpYes X4.here hx rfl (pc0 := 85) (pc' := 101) rfl (hb hby d_method_6_85) rfl (Jvm.Free.XT.ii_le_t hc85) (by decide) (by decide) k) ?_
  show own_Go p e below KK T4 (mkF m 101 #[.val (.ref q1), .val (.long q2), .second, .val (.int 4)] [])
  refine own_at (fun t k => XS.iloadN X4.here hx rfl (hb hby d_method_6_101) rfl k) ?_
  show own_Go p e below KK T4 (mkF m 102 #[.val (.ref q1), .val (.long q2), .second, .val (.int 4)] [(.int 4)])
  refine own_at (fun t k => XS.iconst X4.here hx rfl (hb hby d_method_6_102) k) ?_
  show own_Go p e below KK T4 (mkF m 103 #[.val (.ref q1), .val (.long q2), .second, .val (.int 4)] [(.int 5), (.int 4)])
  have hc103 : ¬ ((5 : Int32) < (4 : Int32)) := by decide
  refine own_at (fun t k => XS.icmpYes X4.here hx rfl (pc0 := 103) (pc' := 119) rfl (hb hby d_method_6_103) rfl (Jvm.Free.XT.ii_le_t hc103) (by decide) (by decide) k) ?_
  show own_Go p e below KK T4 (mkF m 119 #[.val (.ref q1), .val (.long q2), .second, .val (.int 4)] [])
  refine own_at (fun t k => XS.iloadN X4.here hx rfl (hb hby d_method_6_119) rfl k) ?_
  show own_Go p e below KK T4 (mkF m 120 #[.val (.ref q1), .val (.long q2), .second, .val (.int 4)] [(.int 4)])
  refine own_at (fun t k => XS.bipush X4.here hx rfl (hb hby d_method_6_120) k) ?_
  show own_Go p e below KK T4 (mkF m 122 #[.val (.ref q1), .val (.long q2), .second, .val (.int 4)] [(.int 6), (.int 4)])
  have hc122 : ¬ ((6 : Int32) < (4 : Int32)) := by decide
  refine own_at (fun t k => XS.icmpYes X4.here hx rfl (pc0 := 122) (pc' := 140) rfl (hb hby d_method_6_122) rfl (Jvm.Free.XT.ii_le_t hc122) (by decide) (by decide) k) ?_
  show own_Go p e below KK T4 (mkF m 140 #[.val (.ref q1), .val (.long q2), .second, .val (.int 4)] [])
  refine own_at (fun t k => XS.iconst X4.here hx rfl (hb hby d_method_6_140) k) ?_
  show own_Go p e below KK T4 (mkF m 141 #[.val (.ref q1), .val (.long q2), .second, .val (.int 4)] [(.int 1)])
  subst hKK
  exact own_retN X4 hx hlk (t := .boolean) Bd.returns (by simp) (hb hby d_method_6_141) (w := (1 : Int32)) (show nar .boolean (1 : Int32) = 1 from by decide) ⟨rfl, N4, e4⟩ (Nat.le_of_ble_eq_true rfl) (Nat.le_of_ble_eq_true rfl)
theorem d_method_6_88 : decode method_6_code 88 = .ok (.aload_n 0, 1) := by decide +kernel
theorem d_method_6_89 : decode method_6_code 89 = .ok (.iconst 4, 1) := by decide +kernel
theorem d_method_6_90 : decode method_6_code 90 = .ok (.baload, 1) := by decide +kernel
theorem d_method_6_91 : decode method_6_code 91 = .ok (.lload_n 1, 1) := by decide +kernel
theorem d_method_6_92 : decode method_6_code 92 = .ok (.iconst 4, 1) := by decide +kernel
theorem d_method_6_93 : decode method_6_code 93 = .ok (.invokestatic 37, 3) := by decide +kernel
theorem d_method_6_96 : decode method_6_code 96 = .ok (.if_icmp .eq 5, 3) := by decide +kernel
set_option maxRecDepth 65536 in
set_option maxHeartbeats 40000000 in
theorem rm_same5 (l : Launch) (Z : State) (a0 : Array Value) (hw : ∀ d ∈ tables_1, d.before a0 Z = true) (ws : List Jvm.Cond) (q1 : Addr) (q2 : Int64)  (h0 : Heap) (n0 : Nat) (Z0 : n0 ≤ h0.size) (Aq : own_A Z h0 q1 "[B" .byte [(.int (own_F_method_3 q2 (0 : Int32))), (.int (own_F_method_3 q2 (1 : Int32))), (.int (own_F_method_3 q2 (2 : Int32))), (.int (own_F_method_3 q2 (3 : Int32))), (.int (own_F_method_3 q2 (4 : Int32)))]) :
    MetFree l (⟨"com/example/isimud/isimud/oscore/OscoreOptionOfRequestPinLaw", "same", "([BJI)Z"⟩ : MethodName) (head1 (Jvm.Cond.code (⟨"com/example/isimud/isimud/oscore/OscoreOptionOfRequestPinLaw", "same", "([BJI)Z"⟩ : MethodName) method_6_code 4 (some .boolean) :: ws) ({ frames := 1, cells := 0, slots := 0, locals := 15 } : Room)) (fun a U => a = #[(.ref q1), (.long q2), (.int 5)] ∧ Z.Warmed39 U.vm ∧ U.heap = h0) (fun _ _ _ _ _ => True) (fun _ U o U' => ∃ v L, o = .returned v ∧ own_P (.int 1) h0 n0 v U'.heap L ∧ FrameEnd U o U' L ({ frames := 1, cells := 0, slots := 0, locals := 15 } : Room).cells ({ frames := 1, cells := 0, slots := 0, locals := 15 } : Room).slots) := by
  refine MetFree.of_bodySF (plainFor_of_name pn_com_example_isimud_isimud_oscore_OscoreOptionOfRequestPinLaw) hisR ?_
  intro p e s m args below meth c s₁ Bd hml0 hP hK
  obtain ⟨rfl, hZ, hh⟩ := hP
  have hx := Bd.exec
  have hby := Bd.bytes
  have hlk : meth.locks = false := BodyLoose.notSynchronized Bd
  have hml : c.maxLocals = 4 := hml0
  have hown : s.vm.findClass "com/example/isimud/isimud/oscore/OscoreOptionOfRequestPinLaw" = some m.cls := findClass_of_methodNamed Bd.named
  have hnm := (name_of_methodNamed Bd.named Bd.method).1
  have X0 : Stand p l e ({ frames := 1, cells := 0, slots := 0, locals := 15 } : Room) s m #[(.ref q1), (.long q2), (.int 5)] below meth c s₁ [] 0 0 := Stand.of_body Bd
  have e0 : s₁.heap = h0 := by rw [← hh, Bd.state]; rfl
  have N0 := Fr.nil n0
  refine own_cast (K := own_K s (own_P (.int 1) h0 n0) 0 0) (ef_method_6 m q1 q2 (5 : Int32)) ?_
  generalize hKK : own_K s (own_P (.int 1) h0 n0) 0 0 = KK
  show own_Go p e below KK s₁ (mkF m 0 #[.val (.ref q1), .val (.long q2), .second, .val (.int 5)] [])
  refine own_at (fun t k => XS.aloadN X0.here hx rfl (hb hby d_method_6_0) rfl rfl k) ?_
  show own_Go p e below KK s₁ (mkF m 1 #[.val (.ref q1), .val (.long q2), .second, .val (.int 5)] [(.ref q1)])
  refine own_at (fun t k => XS.ifnullNo X0.here hx rfl (hb hby d_method_6_1) rfl k) ?_
  show own_Go p e below KK s₁ (mkF m 4 #[.val (.ref q1), .val (.long q2), .second, .val (.int 5)] [])
  refine own_at (fun t k => XS.aloadN X0.here hx rfl (hb hby d_method_6_4) rfl rfl k) ?_
  show own_Go p e below KK s₁ (mkF m 5 #[.val (.ref q1), .val (.long q2), .second, .val (.int 5)] [(.ref q1)])
  refine own_at (fun t k => own_len X0 hx hZ e0 Aq (N := (5 : Int32)) (show (5 : Nat).toInt32 = (5 : Int32) from by decide) (g := (mkF m 5 #[.val (.ref q1), .val (.long q2), .second, .val (.int 5)] [(.ref q1)])) rfl rfl (hb hby d_method_6_5) t k) ?_
  show own_Go p e below KK s₁ (mkF m 6 #[.val (.ref q1), .val (.long q2), .second, .val (.int 5)] [(.int 5)])
  refine own_at (fun t k => XS.iloadN X0.here hx rfl (hb hby d_method_6_6) rfl k) ?_
  show own_Go p e below KK s₁ (mkF m 7 #[.val (.ref q1), .val (.long q2), .second, .val (.int 5)] [(.int 5), (.int 5)])
  have hc7 : (5 : Int32) = (5 : Int32) := by decide
  refine own_at (fun t k => XS.icmpYes X0.here hx rfl (pc0 := 7) (pc' := 12) rfl (hb hby d_method_6_7) rfl (Jvm.Free.XT.ii_eq_t hc7) (by decide) (by decide) k) ?_
  show own_Go p e below KK s₁ (mkF m 12 #[.val (.ref q1), .val (.long q2), .second, .val (.int 5)] [])
  refine own_at (fun t k => XS.iloadN X0.here hx rfl (hb hby d_method_6_12) rfl k) ?_
  show own_Go p e below KK s₁ (mkF m 13 #[.val (.ref q1), .val (.long q2), .second, .val (.int 5)] [(.int 5)])
  have hc13 : (0 : Int32) < (5 : Int32) := by decide
  refine own_at (fun t k => XS.ifNo X0.here hx rfl (hb hby d_method_6_13) rfl (Jvm.Free.XT.i0_le_f hc13) k) ?_
  show own_Go p e below KK s₁ (mkF m 16 #[.val (.ref q1), .val (.long q2), .second, .val (.int 5)] [])
  refine own_at (fun t k => XS.aloadN X0.here hx rfl (hb hby d_method_6_16) rfl rfl k) ?_
  show own_Go p e below KK s₁ (mkF m 17 #[.val (.ref q1), .val (.long q2), .second, .val (.int 5)] [(.ref q1)])
  refine own_at (fun t k => XS.iconst X0.here hx rfl (hb hby d_method_6_17) k) ?_
  show own_Go p e below KK s₁ (mkF m 18 #[.val (.ref q1), .val (.long q2), .second, .val (.int 5)] [(.int 0), (.ref q1)])
  refine own_at (fun t k => own_ldB X0 hx hZ e0 Aq (j := (0 : Int32)) (i := 0) (v := (.int (own_F_method_3 q2 (0 : Int32)))) (by decide) (by decide) rfl (g := (mkF m 18 #[.val (.ref q1), .val (.long q2), .second, .val (.int 5)] [(.int 0), (.ref q1)])) rfl rfl (hb hby d_method_6_18) t k) ?_
  show own_Go p e below KK s₁ (mkF m 19 #[.val (.ref q1), .val (.long q2), .second, .val (.int 5)] [(.int (own_F_method_3 q2 (0 : Int32)))])
  refine own_at (fun t k => XS.lloadN X0.here hx rfl (hb hby d_method_6_19) rfl k) ?_
  show own_Go p e below KK s₁ (mkF m 20 #[.val (.ref q1), .val (.long q2), .second, .val (.int 5)] [(.long q2), (.int (own_F_method_3 q2 (0 : Int32)))])
  refine own_at (fun t k => XS.iconst X0.here hx rfl (hb hby d_method_6_20) k) ?_
  show own_Go p e below KK s₁ (mkF m 21 #[.val (.ref q1), .val (.long q2), .second, .val (.int 5)] [(.int 0), (.long q2), (.int (own_F_method_3 q2 (0 : Int32)))])
  obtain ⟨_, _, ⟨T1, L1, k1, n1⟩, -, X1, ⟨Lc1, hQ1, l1, y1, z1⟩, st1⟩ := Jvm.LawKit.callS X0 hx (y := (⟨"com/example/isimud/isimud/oscore/OscoreOptionOfRequestPinLaw", "b", "(JI)B"⟩ : MethodName)) hown (mvT hZ (hw _ (List.mem_of_getElem? (i := 53) rfl))) (mvT hZ (hw _ (List.mem_of_getElem? (i := 54) rfl))) (mvT hZ (hw _ (List.mem_of_getElem? (i := 2) rfl))) (mvT hZ (hw _ (List.mem_of_getElem? (i := 55) rfl))) (by decide) (backOf (W := 1) (rm_method_3 l Z a0 hw [] q2 (0 : Int32)  h0 n0 Z0 ) hZ (hw _ (List.mem_of_getElem? (i := 55) rfl)) (hw _ (List.mem_of_getElem? (i := 2) rfl)) (by decide) (by decide)) (g := (mkF m 21 #[.val (.ref q1), .val (.long q2), .second, .val (.int 5)] [(.int 0), (.long q2), (.int (own_F_method_3 q2 (0 : Int32)))])) rfl (by rw [hml]; rfl) (argsL := [(.long q2), (.int 0)]) (rest := [(.int (own_F_method_3 q2 (0 : Int32)))]) (lenOf pd__JI_B rfl) rfl (by show 2 * 0 + _ ≤ _; exact Nat.le_of_eq rfl) (hb hby d_method_6_21) (fun _ _ => ⟨rfl, e0, (by decide : 0 + 0 ≤ _), (by decide : 0 + 0 ≤ _)⟩)
  dsimp only [Pt.U, Pt.locs, Pt.cells, Pt.slots] at X1 l1 y1 z1 st1 hQ1
  subst l1 y1 z1
  obtain ⟨rfl, N1q, e1⟩ := hQ1
  have N1 := Fr.app N0 N1q
  refine own_of (fun t k => st1 t k) ?_
  show own_Go p e below KK T1 (mkF m 24 #[.val (.ref q1), .val (.long q2), .second, .val (.int 5)] [(.int (own_F_method_3 q2 (0 : Int32))), (.int (own_F_method_3 q2 (0 : Int32)))])
  have hc24 : (own_F_method_3 q2 (0 : Int32)) = (own_F_method_3 q2 (0 : Int32)) := rfl
  refine own_at (fun t k => XS.icmpYes X1.here hx rfl (pc0 := 24) (pc' := 29) rfl (hb hby d_method_6_24) rfl (Jvm.Free.XT.ii_eq_t hc24) (by decide) (by decide) k) ?_
  show own_Go p e below KK T1 (mkF m 29 #[.val (.ref q1), .val (.long q2), .second, .val (.int 5)] [])
  refine own_at (fun t k => XS.iloadN X1.here hx rfl (hb hby d_method_6_29) rfl k) ?_
  show own_Go p e below KK T1 (mkF m 30 #[.val (.ref q1), .val (.long q2), .second, .val (.int 5)] [(.int 5)])
  refine own_at (fun t k => XS.iconst X1.here hx rfl (hb hby d_method_6_30) k) ?_
  show own_Go p e below KK T1 (mkF m 31 #[.val (.ref q1), .val (.long q2), .second, .val (.int 5)] [(.int 1), (.int 5)])
  have hc31 : (1 : Int32) < (5 : Int32) := by decide
  refine own_at (fun t k => XS.icmpNo X1.here hx rfl (hb hby d_method_6_31) rfl (Jvm.Free.XT.ii_le_f hc31) k) ?_
  show own_Go p e below KK T1 (mkF m 34 #[.val (.ref q1), .val (.long q2), .second, .val (.int 5)] [])
  refine own_at (fun t k => XS.aloadN X1.here hx rfl (hb hby d_method_6_34) rfl rfl k) ?_
  show own_Go p e below KK T1 (mkF m 35 #[.val (.ref q1), .val (.long q2), .second, .val (.int 5)] [(.ref q1)])
  refine own_at (fun t k => XS.iconst X1.here hx rfl (hb hby d_method_6_35) k) ?_
  show own_Go p e below KK T1 (mkF m 36 #[.val (.ref q1), .val (.long q2), .second, .val (.int 5)] [(.int 1), (.ref q1)])
  refine own_at (fun t k => own_ldB X1 hx hZ e1 Aq (j := (1 : Int32)) (i := 1) (v := (.int (own_F_method_3 q2 (1 : Int32)))) (by decide) (by decide) rfl (g := (mkF m 36 #[.val (.ref q1), .val (.long q2), .second, .val (.int 5)] [(.int 1), (.ref q1)])) rfl rfl (hb hby d_method_6_36) t k) ?_
  show own_Go p e below KK T1 (mkF m 37 #[.val (.ref q1), .val (.long q2), .second, .val (.int 5)] [(.int (own_F_method_3 q2 (1 : Int32)))])
  refine own_at (fun t k => XS.lloadN X1.here hx rfl (hb hby d_method_6_37) rfl k) ?_
  show own_Go p e below KK T1 (mkF m 38 #[.val (.ref q1), .val (.long q2), .second, .val (.int 5)] [(.long q2), (.int (own_F_method_3 q2 (1 : Int32)))])
  refine own_at (fun t k => XS.iconst X1.here hx rfl (hb hby d_method_6_38) k) ?_
  show own_Go p e below KK T1 (mkF m 39 #[.val (.ref q1), .val (.long q2), .second, .val (.int 5)] [(.int 1), (.long q2), (.int (own_F_method_3 q2 (1 : Int32)))])
  obtain ⟨_, _, ⟨T2, L2, k2, n2⟩, -, X2, ⟨Lc2, hQ2, l2, y2, z2⟩, st2⟩ := Jvm.LawKit.callS X1 hx (y := (⟨"com/example/isimud/isimud/oscore/OscoreOptionOfRequestPinLaw", "b", "(JI)B"⟩ : MethodName)) hown (mvT hZ (hw _ (List.mem_of_getElem? (i := 53) rfl))) (mvT hZ (hw _ (List.mem_of_getElem? (i := 54) rfl))) (mvT hZ (hw _ (List.mem_of_getElem? (i := 2) rfl))) (mvT hZ (hw _ (List.mem_of_getElem? (i := 55) rfl))) (by decide) (backOf (W := 1) (rm_method_3 l Z a0 hw [] q2 (1 : Int32)  h0 n0 Z0 ) hZ (hw _ (List.mem_of_getElem? (i := 55) rfl)) (hw _ (List.mem_of_getElem? (i := 2) rfl)) (by decide) (by decide)) (g := (mkF m 39 #[.val (.ref q1), .val (.long q2), .second, .val (.int 5)] [(.int 1), (.long q2), (.int (own_F_method_3 q2 (1 : Int32)))])) rfl (by rw [hml]; rfl) (argsL := [(.long q2), (.int 1)]) (rest := [(.int (own_F_method_3 q2 (1 : Int32)))]) (lenOf pd__JI_B rfl) rfl (by show 2 * 0 + _ ≤ _; exact Nat.le_of_eq rfl) (hb hby d_method_6_39) (fun _ _ => ⟨rfl, e1, (by decide : 0 + 0 ≤ _), (by decide : 0 + 0 ≤ _)⟩)
  dsimp only [Pt.U, Pt.locs, Pt.cells, Pt.slots] at X2 l2 y2 z2 st2 hQ2
  subst l2 y2 z2
  obtain ⟨rfl, N2q, e2⟩ := hQ2
  have N2 := Fr.app N1 N2q
  refine own_of (fun t k => st2 t k) ?_
  show own_Go p e below KK T2 (mkF m 42 #[.val (.ref q1), .val (.long q2), .second, .val (.int 5)] [(.int (own_F_method_3 q2 (1 : Int32))), (.int (own_F_method_3 q2 (1 : Int32)))])
  have hc42 : (own_F_method_3 q2 (1 : Int32)) = (own_F_method_3 q2 (1 : Int32)) := rfl
  refine own_at (fun t k => XS.icmpYes X2.here hx rfl (pc0 := 42) (pc' := 47) rfl (hb hby d_method_6_42) rfl (Jvm.Free.XT.ii_eq_t hc42) (by decide) (by decide) k) ?_
  show own_Go p e below KK T2 (mkF m 47 #[.val (.ref q1), .val (.long q2), .second, .val (.int 5)] [])
  refine own_at (fun t k => XS.iloadN X2.here hx rfl (hb hby d_method_6_47) rfl k) ?_
  show own_Go p e below KK T2 (mkF m 48 #[.val (.ref q1), .val (.long q2), .second, .val (.int 5)] [(.int 5)])
  refine own_at (fun t k => XS.iconst X2.here hx rfl (hb hby d_method_6_48) k) ?_
  show own_Go p e below KK T2 (mkF m 49 #[.val (.ref q1), .val (.long q2), .second, .val (.int 5)] [(.int 2), (.int 5)])
  have hc49 : (2 : Int32) < (5 : Int32) := by decide
  refine own_at (fun t k => XS.icmpNo X2.here hx rfl (hb hby d_method_6_49) rfl (Jvm.Free.XT.ii_le_f hc49) k) ?_
  show own_Go p e below KK T2 (mkF m 52 #[.val (.ref q1), .val (.long q2), .second, .val (.int 5)] [])
  refine own_at (fun t k => XS.aloadN X2.here hx rfl (hb hby d_method_6_52) rfl rfl k) ?_
  show own_Go p e below KK T2 (mkF m 53 #[.val (.ref q1), .val (.long q2), .second, .val (.int 5)] [(.ref q1)])
  refine own_at (fun t k => XS.iconst X2.here hx rfl (hb hby d_method_6_53) k) ?_
  show own_Go p e below KK T2 (mkF m 54 #[.val (.ref q1), .val (.long q2), .second, .val (.int 5)] [(.int 2), (.ref q1)])
  refine own_at (fun t k => own_ldB X2 hx hZ e2 Aq (j := (2 : Int32)) (i := 2) (v := (.int (own_F_method_3 q2 (2 : Int32)))) (by decide) (by decide) rfl (g := (mkF m 54 #[.val (.ref q1), .val (.long q2), .second, .val (.int 5)] [(.int 2), (.ref q1)])) rfl rfl (hb hby d_method_6_54) t k) ?_
  show own_Go p e below KK T2 (mkF m 55 #[.val (.ref q1), .val (.long q2), .second, .val (.int 5)] [(.int (own_F_method_3 q2 (2 : Int32)))])
  refine own_at (fun t k => XS.lloadN X2.here hx rfl (hb hby d_method_6_55) rfl k) ?_
  show own_Go p e below KK T2 (mkF m 56 #[.val (.ref q1), .val (.long q2), .second, .val (.int 5)] [(.long q2), (.int (own_F_method_3 q2 (2 : Int32)))])
  refine own_at (fun t k => XS.iconst X2.here hx rfl (hb hby d_method_6_56) k) ?_
  show own_Go p e below KK T2 (mkF m 57 #[.val (.ref q1), .val (.long q2), .second, .val (.int 5)] [(.int 2), (.long q2), (.int (own_F_method_3 q2 (2 : Int32)))])
  obtain ⟨_, _, ⟨T3, L3, k3, n3⟩, -, X3, ⟨Lc3, hQ3, l3, y3, z3⟩, st3⟩ := Jvm.LawKit.callS X2 hx (y := (⟨"com/example/isimud/isimud/oscore/OscoreOptionOfRequestPinLaw", "b", "(JI)B"⟩ : MethodName)) hown (mvT hZ (hw _ (List.mem_of_getElem? (i := 53) rfl))) (mvT hZ (hw _ (List.mem_of_getElem? (i := 54) rfl))) (mvT hZ (hw _ (List.mem_of_getElem? (i := 2) rfl))) (mvT hZ (hw _ (List.mem_of_getElem? (i := 55) rfl))) (by decide) (backOf (W := 1) (rm_method_3 l Z a0 hw [] q2 (2 : Int32)  h0 n0 Z0 ) hZ (hw _ (List.mem_of_getElem? (i := 55) rfl)) (hw _ (List.mem_of_getElem? (i := 2) rfl)) (by decide) (by decide)) (g := (mkF m 57 #[.val (.ref q1), .val (.long q2), .second, .val (.int 5)] [(.int 2), (.long q2), (.int (own_F_method_3 q2 (2 : Int32)))])) rfl (by rw [hml]; rfl) (argsL := [(.long q2), (.int 2)]) (rest := [(.int (own_F_method_3 q2 (2 : Int32)))]) (lenOf pd__JI_B rfl) rfl (by show 2 * 0 + _ ≤ _; exact Nat.le_of_eq rfl) (hb hby d_method_6_57) (fun _ _ => ⟨rfl, e2, (by decide : 0 + 0 ≤ _), (by decide : 0 + 0 ≤ _)⟩)
  dsimp only [Pt.U, Pt.locs, Pt.cells, Pt.slots] at X3 l3 y3 z3 st3 hQ3
  subst l3 y3 z3
  obtain ⟨rfl, N3q, e3⟩ := hQ3
  have N3 := Fr.app N2 N3q
  refine own_of (fun t k => st3 t k) ?_
  show own_Go p e below KK T3 (mkF m 60 #[.val (.ref q1), .val (.long q2), .second, .val (.int 5)] [(.int (own_F_method_3 q2 (2 : Int32))), (.int (own_F_method_3 q2 (2 : Int32)))])
  have hc60 : (own_F_method_3 q2 (2 : Int32)) = (own_F_method_3 q2 (2 : Int32)) := rfl
  refine own_at (fun t k => XS.icmpYes X3.here hx rfl (pc0 := 60) (pc' := 65) rfl (hb hby d_method_6_60) rfl (Jvm.Free.XT.ii_eq_t hc60) (by decide) (by decide) k) ?_
  show own_Go p e below KK T3 (mkF m 65 #[.val (.ref q1), .val (.long q2), .second, .val (.int 5)] [])
  refine own_at (fun t k => XS.iloadN X3.here hx rfl (hb hby d_method_6_65) rfl k) ?_
  show own_Go p e below KK T3 (mkF m 66 #[.val (.ref q1), .val (.long q2), .second, .val (.int 5)] [(.int 5)])
  refine own_at (fun t k => XS.iconst X3.here hx rfl (hb hby d_method_6_66) k) ?_
  show own_Go p e below KK T3 (mkF m 67 #[.val (.ref q1), .val (.long q2), .second, .val (.int 5)] [(.int 3), (.int 5)])
  have hc67 : (3 : Int32) < (5 : Int32) := by decide
  refine own_at (fun t k => XS.icmpNo X3.here hx rfl (hb hby d_method_6_67) rfl (Jvm.Free.XT.ii_le_f hc67) k) ?_
  show own_Go p e below KK T3 (mkF m 70 #[.val (.ref q1), .val (.long q2), .second, .val (.int 5)] [])
  refine own_at (fun t k => XS.aloadN X3.here hx rfl (hb hby d_method_6_70) rfl rfl k) ?_
  show own_Go p e below KK T3 (mkF m 71 #[.val (.ref q1), .val (.long q2), .second, .val (.int 5)] [(.ref q1)])
  refine own_at (fun t k => XS.iconst X3.here hx rfl (hb hby d_method_6_71) k) ?_
  show own_Go p e below KK T3 (mkF m 72 #[.val (.ref q1), .val (.long q2), .second, .val (.int 5)] [(.int 3), (.ref q1)])
  refine own_at (fun t k => own_ldB X3 hx hZ e3 Aq (j := (3 : Int32)) (i := 3) (v := (.int (own_F_method_3 q2 (3 : Int32)))) (by decide) (by decide) rfl (g := (mkF m 72 #[.val (.ref q1), .val (.long q2), .second, .val (.int 5)] [(.int 3), (.ref q1)])) rfl rfl (hb hby d_method_6_72) t k) ?_
  show own_Go p e below KK T3 (mkF m 73 #[.val (.ref q1), .val (.long q2), .second, .val (.int 5)] [(.int (own_F_method_3 q2 (3 : Int32)))])
  refine own_at (fun t k => XS.lloadN X3.here hx rfl (hb hby d_method_6_73) rfl k) ?_
  show own_Go p e below KK T3 (mkF m 74 #[.val (.ref q1), .val (.long q2), .second, .val (.int 5)] [(.long q2), (.int (own_F_method_3 q2 (3 : Int32)))])
  refine own_at (fun t k => XS.iconst X3.here hx rfl (hb hby d_method_6_74) k) ?_
  show own_Go p e below KK T3 (mkF m 75 #[.val (.ref q1), .val (.long q2), .second, .val (.int 5)] [(.int 3), (.long q2), (.int (own_F_method_3 q2 (3 : Int32)))])
  obtain ⟨_, _, ⟨T4, L4, k4, n4⟩, -, X4, ⟨Lc4, hQ4, l4, y4, z4⟩, st4⟩ := Jvm.LawKit.callS X3 hx (y := (⟨"com/example/isimud/isimud/oscore/OscoreOptionOfRequestPinLaw", "b", "(JI)B"⟩ : MethodName)) hown (mvT hZ (hw _ (List.mem_of_getElem? (i := 53) rfl))) (mvT hZ (hw _ (List.mem_of_getElem? (i := 54) rfl))) (mvT hZ (hw _ (List.mem_of_getElem? (i := 2) rfl))) (mvT hZ (hw _ (List.mem_of_getElem? (i := 55) rfl))) (by decide) (backOf (W := 1) (rm_method_3 l Z a0 hw [] q2 (3 : Int32)  h0 n0 Z0 ) hZ (hw _ (List.mem_of_getElem? (i := 55) rfl)) (hw _ (List.mem_of_getElem? (i := 2) rfl)) (by decide) (by decide)) (g := (mkF m 75 #[.val (.ref q1), .val (.long q2), .second, .val (.int 5)] [(.int 3), (.long q2), (.int (own_F_method_3 q2 (3 : Int32)))])) rfl (by rw [hml]; rfl) (argsL := [(.long q2), (.int 3)]) (rest := [(.int (own_F_method_3 q2 (3 : Int32)))]) (lenOf pd__JI_B rfl) rfl (by show 2 * 0 + _ ≤ _; exact Nat.le_of_eq rfl) (hb hby d_method_6_75) (fun _ _ => ⟨rfl, e3, (by decide : 0 + 0 ≤ _), (by decide : 0 + 0 ≤ _)⟩)
  dsimp only [Pt.U, Pt.locs, Pt.cells, Pt.slots] at X4 l4 y4 z4 st4 hQ4
  subst l4 y4 z4
  obtain ⟨rfl, N4q, e4⟩ := hQ4
  have N4 := Fr.app N3 N4q
  refine own_of (fun t k => st4 t k) ?_
  show own_Go p e below KK T4 (mkF m 78 #[.val (.ref q1), .val (.long q2), .second, .val (.int 5)] [(.int (own_F_method_3 q2 (3 : Int32))), (.int (own_F_method_3 q2 (3 : Int32)))])
  have hc78 : (own_F_method_3 q2 (3 : Int32)) = (own_F_method_3 q2 (3 : Int32)) := rfl
  refine own_at (fun t k => XS.icmpYes X4.here hx rfl (pc0 := 78) (pc' := 83) rfl (hb hby d_method_6_78) rfl (Jvm.Free.XT.ii_eq_t hc78) (by decide) (by decide) k) ?_
  show own_Go p e below KK T4 (mkF m 83 #[.val (.ref q1), .val (.long q2), .second, .val (.int 5)] [])
  refine own_at (fun t k => XS.iloadN X4.here hx rfl (hb hby d_method_6_83) rfl k) ?_
  show own_Go p e below KK T4 (mkF m 84 #[.val (.ref q1), .val (.long q2), .second, .val (.int 5)] [(.int 5)])
  refine own_at (fun t k => XS.iconst X4.here hx rfl (hb hby d_method_6_84) k) ?_
  show own_Go p e below KK T4 (mkF m 85 #[.val (.ref q1), .val (.long q2), .second, .val (.int 5)] [(.int 4), (.int 5)])
  have hc85 : (4 : Int32) < (5 : Int32) := by decide
  refine own_at (fun t k => XS.icmpNo X4.here hx rfl (hb hby d_method_6_85) rfl (Jvm.Free.XT.ii_le_f hc85) k) ?_
  show own_Go p e below KK T4 (mkF m 88 #[.val (.ref q1), .val (.long q2), .second, .val (.int 5)] [])
  refine own_at (fun t k => XS.aloadN X4.here hx rfl (hb hby d_method_6_88) rfl rfl k) ?_
  show own_Go p e below KK T4 (mkF m 89 #[.val (.ref q1), .val (.long q2), .second, .val (.int 5)] [(.ref q1)])
  refine own_at (fun t k => XS.iconst X4.here hx rfl (hb hby d_method_6_89) k) ?_
  show own_Go p e below KK T4 (mkF m 90 #[.val (.ref q1), .val (.long q2), .second, .val (.int 5)] [(.int 4), (.ref q1)])
  refine own_at (fun t k => own_ldB X4 hx hZ e4 Aq (j := (4 : Int32)) (i := 4) (v := (.int (own_F_method_3 q2 (4 : Int32)))) (by decide) (by decide) rfl (g := (mkF m 90 #[.val (.ref q1), .val (.long q2), .second, .val (.int 5)] [(.int 4), (.ref q1)])) rfl rfl (hb hby d_method_6_90) t k) ?_
  show own_Go p e below KK T4 (mkF m 91 #[.val (.ref q1), .val (.long q2), .second, .val (.int 5)] [(.int (own_F_method_3 q2 (4 : Int32)))])
  refine own_at (fun t k => XS.lloadN X4.here hx rfl (hb hby d_method_6_91) rfl k) ?_
  show own_Go p e below KK T4 (mkF m 92 #[.val (.ref q1), .val (.long q2), .second, .val (.int 5)] [(.long q2), (.int (own_F_method_3 q2 (4 : Int32)))])
  refine own_at (fun t k => XS.iconst X4.here hx rfl (hb hby d_method_6_92) k) ?_
  show own_Go p e below KK T4 (mkF m 93 #[.val (.ref q1), .val (.long q2), .second, .val (.int 5)] [(.int 4), (.long q2), (.int (own_F_method_3 q2 (4 : Int32)))])
  obtain ⟨_, _, ⟨T5, L5, k5, n5⟩, -, X5, ⟨Lc5, hQ5, l5, y5, z5⟩, st5⟩ := Jvm.LawKit.callS X4 hx (y := (⟨"com/example/isimud/isimud/oscore/OscoreOptionOfRequestPinLaw", "b", "(JI)B"⟩ : MethodName)) hown (mvT hZ (hw _ (List.mem_of_getElem? (i := 53) rfl))) (mvT hZ (hw _ (List.mem_of_getElem? (i := 54) rfl))) (mvT hZ (hw _ (List.mem_of_getElem? (i := 2) rfl))) (mvT hZ (hw _ (List.mem_of_getElem? (i := 55) rfl))) (by decide) (backOf (W := 1) (rm_method_3 l Z a0 hw [] q2 (4 : Int32)  h0 n0 Z0 ) hZ (hw _ (List.mem_of_getElem? (i := 55) rfl)) (hw _ (List.mem_of_getElem? (i := 2) rfl)) (by decide) (by decide)) (g := (mkF m 93 #[.val (.ref q1), .val (.long q2), .second, .val (.int 5)] [(.int 4), (.long q2), (.int (own_F_method_3 q2 (4 : Int32)))])) rfl (by rw [hml]; rfl) (argsL := [(.long q2), (.int 4)]) (rest := [(.int (own_F_method_3 q2 (4 : Int32)))]) (lenOf pd__JI_B rfl) rfl (by show 2 * 0 + _ ≤ _; exact Nat.le_of_eq rfl) (hb hby d_method_6_93) (fun _ _ => ⟨rfl, e4, (by decide : 0 + 0 ≤ _), (by decide : 0 + 0 ≤ _)⟩)
  dsimp only [Pt.U, Pt.locs, Pt.cells, Pt.slots] at X5 l5 y5 z5 st5 hQ5
  subst l5 y5 z5
  obtain ⟨rfl, N5q, e5⟩ := hQ5
  have N5 := Fr.app N4 N5q
  refine own_of (fun t k => st5 t k) ?_
  show own_Go p e below KK T5 (mkF m 96 #[.val (.ref q1), .val (.long q2), .second, .val (.int 5)] [(.int (own_F_method_3 q2 (4 : Int32))), (.int (own_F_method_3 q2 (4 : Int32)))])
  have hc96 : (own_F_method_3 q2 (4 : Int32)) = (own_F_method_3 q2 (4 : Int32)) := rfl
  refine own_at (fun t k => XS.icmpYes X5.here hx rfl (pc0 := 96) (pc' := 101) rfl (hb hby d_method_6_96) rfl (Jvm.Free.XT.ii_eq_t hc96) (by decide) (by decide) k) ?_
  show own_Go p e below KK T5 (mkF m 101 #[.val (.ref q1), .val (.long q2), .second, .val (.int 5)] [])
  refine own_at (fun t k => XS.iloadN X5.here hx rfl (hb hby d_method_6_101) rfl k) ?_
  show own_Go p e below KK T5 (mkF m 102 #[.val (.ref q1), .val (.long q2), .second, .val (.int 5)] [(.int 5)])
  refine own_at (fun t k => XS.iconst X5.here hx rfl (hb hby d_method_6_102) k) ?_
  show own_Go p e below KK T5 (mkF m 103 #[.val (.ref q1), .val (.long q2), .second, .val (.int 5)] [(.int 5), (.int 5)])
  have hc103 : ¬ ((5 : Int32) < (5 : Int32)) := by decide
  refine own_at (fun t k => XS.icmpYes X5.here hx rfl (pc0 := 103) (pc' := 119) rfl (hb hby d_method_6_103) rfl (Jvm.Free.XT.ii_le_t hc103) (by decide) (by decide) k) ?_
  show own_Go p e below KK T5 (mkF m 119 #[.val (.ref q1), .val (.long q2), .second, .val (.int 5)] [])
  refine own_at (fun t k => XS.iloadN X5.here hx rfl (hb hby d_method_6_119) rfl k) ?_
  show own_Go p e below KK T5 (mkF m 120 #[.val (.ref q1), .val (.long q2), .second, .val (.int 5)] [(.int 5)])
  refine own_at (fun t k => XS.bipush X5.here hx rfl (hb hby d_method_6_120) k) ?_
  show own_Go p e below KK T5 (mkF m 122 #[.val (.ref q1), .val (.long q2), .second, .val (.int 5)] [(.int 6), (.int 5)])
  have hc122 : ¬ ((6 : Int32) < (5 : Int32)) := by decide
  refine own_at (fun t k => XS.icmpYes X5.here hx rfl (pc0 := 122) (pc' := 140) rfl (hb hby d_method_6_122) rfl (Jvm.Free.XT.ii_le_t hc122) (by decide) (by decide) k) ?_
  show own_Go p e below KK T5 (mkF m 140 #[.val (.ref q1), .val (.long q2), .second, .val (.int 5)] [])
  refine own_at (fun t k => XS.iconst X5.here hx rfl (hb hby d_method_6_140) k) ?_
  show own_Go p e below KK T5 (mkF m 141 #[.val (.ref q1), .val (.long q2), .second, .val (.int 5)] [(.int 1)])
  subst hKK
  exact own_retN X5 hx hlk (t := .boolean) Bd.returns (by simp) (hb hby d_method_6_141) (w := (1 : Int32)) (show nar .boolean (1 : Int32) = 1 from by decide) ⟨rfl, N5, e5⟩ (Nat.le_of_ble_eq_true rfl) (Nat.le_of_ble_eq_true rfl)
theorem d_method_6_106 : decode method_6_code 106 = .ok (.aload_n 0, 1) := by decide +kernel
theorem d_method_6_107 : decode method_6_code 107 = .ok (.iconst 5, 1) := by decide +kernel
theorem d_method_6_108 : decode method_6_code 108 = .ok (.baload, 1) := by decide +kernel
theorem d_method_6_109 : decode method_6_code 109 = .ok (.lload_n 1, 1) := by decide +kernel
theorem d_method_6_110 : decode method_6_code 110 = .ok (.iconst 5, 1) := by decide +kernel
theorem d_method_6_111 : decode method_6_code 111 = .ok (.invokestatic 37, 3) := by decide +kernel
theorem d_method_6_114 : decode method_6_code 114 = .ok (.if_icmp .eq 5, 3) := by decide +kernel
set_option maxRecDepth 65536 in
set_option maxHeartbeats 40000000 in
theorem rm_same6 (l : Launch) (Z : State) (a0 : Array Value) (hw : ∀ d ∈ tables_1, d.before a0 Z = true) (ws : List Jvm.Cond) (q1 : Addr) (q2 : Int64)  (h0 : Heap) (n0 : Nat) (Z0 : n0 ≤ h0.size) (Aq : own_A Z h0 q1 "[B" .byte [(.int (own_F_method_3 q2 (0 : Int32))), (.int (own_F_method_3 q2 (1 : Int32))), (.int (own_F_method_3 q2 (2 : Int32))), (.int (own_F_method_3 q2 (3 : Int32))), (.int (own_F_method_3 q2 (4 : Int32))), (.int (own_F_method_3 q2 (5 : Int32)))]) :
    MetFree l (⟨"com/example/isimud/isimud/oscore/OscoreOptionOfRequestPinLaw", "same", "([BJI)Z"⟩ : MethodName) (head1 (Jvm.Cond.code (⟨"com/example/isimud/isimud/oscore/OscoreOptionOfRequestPinLaw", "same", "([BJI)Z"⟩ : MethodName) method_6_code 4 (some .boolean) :: ws) ({ frames := 1, cells := 0, slots := 0, locals := 15 } : Room)) (fun a U => a = #[(.ref q1), (.long q2), (.int 6)] ∧ Z.Warmed39 U.vm ∧ U.heap = h0) (fun _ _ _ _ _ => True) (fun _ U o U' => ∃ v L, o = .returned v ∧ own_P (.int 1) h0 n0 v U'.heap L ∧ FrameEnd U o U' L ({ frames := 1, cells := 0, slots := 0, locals := 15 } : Room).cells ({ frames := 1, cells := 0, slots := 0, locals := 15 } : Room).slots) := by
  refine MetFree.of_bodySF (plainFor_of_name pn_com_example_isimud_isimud_oscore_OscoreOptionOfRequestPinLaw) hisR ?_
  intro p e s m args below meth c s₁ Bd hml0 hP hK
  obtain ⟨rfl, hZ, hh⟩ := hP
  have hx := Bd.exec
  have hby := Bd.bytes
  have hlk : meth.locks = false := BodyLoose.notSynchronized Bd
  have hml : c.maxLocals = 4 := hml0
  have hown : s.vm.findClass "com/example/isimud/isimud/oscore/OscoreOptionOfRequestPinLaw" = some m.cls := findClass_of_methodNamed Bd.named
  have hnm := (name_of_methodNamed Bd.named Bd.method).1
  have X0 : Stand p l e ({ frames := 1, cells := 0, slots := 0, locals := 15 } : Room) s m #[(.ref q1), (.long q2), (.int 6)] below meth c s₁ [] 0 0 := Stand.of_body Bd
  have e0 : s₁.heap = h0 := by rw [← hh, Bd.state]; rfl
  have N0 := Fr.nil n0
  refine own_cast (K := own_K s (own_P (.int 1) h0 n0) 0 0) (ef_method_6 m q1 q2 (6 : Int32)) ?_
  generalize hKK : own_K s (own_P (.int 1) h0 n0) 0 0 = KK
  show own_Go p e below KK s₁ (mkF m 0 #[.val (.ref q1), .val (.long q2), .second, .val (.int 6)] [])
  refine own_at (fun t k => XS.aloadN X0.here hx rfl (hb hby d_method_6_0) rfl rfl k) ?_
  show own_Go p e below KK s₁ (mkF m 1 #[.val (.ref q1), .val (.long q2), .second, .val (.int 6)] [(.ref q1)])
  refine own_at (fun t k => XS.ifnullNo X0.here hx rfl (hb hby d_method_6_1) rfl k) ?_
  show own_Go p e below KK s₁ (mkF m 4 #[.val (.ref q1), .val (.long q2), .second, .val (.int 6)] [])
  refine own_at (fun t k => XS.aloadN X0.here hx rfl (hb hby d_method_6_4) rfl rfl k) ?_
  show own_Go p e below KK s₁ (mkF m 5 #[.val (.ref q1), .val (.long q2), .second, .val (.int 6)] [(.ref q1)])
  refine own_at (fun t k => own_len X0 hx hZ e0 Aq (N := (6 : Int32)) (show (6 : Nat).toInt32 = (6 : Int32) from by decide) (g := (mkF m 5 #[.val (.ref q1), .val (.long q2), .second, .val (.int 6)] [(.ref q1)])) rfl rfl (hb hby d_method_6_5) t k) ?_
  show own_Go p e below KK s₁ (mkF m 6 #[.val (.ref q1), .val (.long q2), .second, .val (.int 6)] [(.int 6)])
  refine own_at (fun t k => XS.iloadN X0.here hx rfl (hb hby d_method_6_6) rfl k) ?_
  show own_Go p e below KK s₁ (mkF m 7 #[.val (.ref q1), .val (.long q2), .second, .val (.int 6)] [(.int 6), (.int 6)])
  have hc7 : (6 : Int32) = (6 : Int32) := by decide
  refine own_at (fun t k => XS.icmpYes X0.here hx rfl (pc0 := 7) (pc' := 12) rfl (hb hby d_method_6_7) rfl (Jvm.Free.XT.ii_eq_t hc7) (by decide) (by decide) k) ?_
  show own_Go p e below KK s₁ (mkF m 12 #[.val (.ref q1), .val (.long q2), .second, .val (.int 6)] [])
  refine own_at (fun t k => XS.iloadN X0.here hx rfl (hb hby d_method_6_12) rfl k) ?_
  show own_Go p e below KK s₁ (mkF m 13 #[.val (.ref q1), .val (.long q2), .second, .val (.int 6)] [(.int 6)])
  have hc13 : (0 : Int32) < (6 : Int32) := by decide
  refine own_at (fun t k => XS.ifNo X0.here hx rfl (hb hby d_method_6_13) rfl (Jvm.Free.XT.i0_le_f hc13) k) ?_
  show own_Go p e below KK s₁ (mkF m 16 #[.val (.ref q1), .val (.long q2), .second, .val (.int 6)] [])
  refine own_at (fun t k => XS.aloadN X0.here hx rfl (hb hby d_method_6_16) rfl rfl k) ?_
  show own_Go p e below KK s₁ (mkF m 17 #[.val (.ref q1), .val (.long q2), .second, .val (.int 6)] [(.ref q1)])
  refine own_at (fun t k => XS.iconst X0.here hx rfl (hb hby d_method_6_17) k) ?_
  show own_Go p e below KK s₁ (mkF m 18 #[.val (.ref q1), .val (.long q2), .second, .val (.int 6)] [(.int 0), (.ref q1)])
  refine own_at (fun t k => own_ldB X0 hx hZ e0 Aq (j := (0 : Int32)) (i := 0) (v := (.int (own_F_method_3 q2 (0 : Int32)))) (by decide) (by decide) rfl (g := (mkF m 18 #[.val (.ref q1), .val (.long q2), .second, .val (.int 6)] [(.int 0), (.ref q1)])) rfl rfl (hb hby d_method_6_18) t k) ?_
  show own_Go p e below KK s₁ (mkF m 19 #[.val (.ref q1), .val (.long q2), .second, .val (.int 6)] [(.int (own_F_method_3 q2 (0 : Int32)))])
  refine own_at (fun t k => XS.lloadN X0.here hx rfl (hb hby d_method_6_19) rfl k) ?_
  show own_Go p e below KK s₁ (mkF m 20 #[.val (.ref q1), .val (.long q2), .second, .val (.int 6)] [(.long q2), (.int (own_F_method_3 q2 (0 : Int32)))])
  refine own_at (fun t k => XS.iconst X0.here hx rfl (hb hby d_method_6_20) k) ?_
  show own_Go p e below KK s₁ (mkF m 21 #[.val (.ref q1), .val (.long q2), .second, .val (.int 6)] [(.int 0), (.long q2), (.int (own_F_method_3 q2 (0 : Int32)))])
  obtain ⟨_, _, ⟨T1, L1, k1, n1⟩, -, X1, ⟨Lc1, hQ1, l1, y1, z1⟩, st1⟩ := Jvm.LawKit.callS X0 hx (y := (⟨"com/example/isimud/isimud/oscore/OscoreOptionOfRequestPinLaw", "b", "(JI)B"⟩ : MethodName)) hown (mvT hZ (hw _ (List.mem_of_getElem? (i := 53) rfl))) (mvT hZ (hw _ (List.mem_of_getElem? (i := 54) rfl))) (mvT hZ (hw _ (List.mem_of_getElem? (i := 2) rfl))) (mvT hZ (hw _ (List.mem_of_getElem? (i := 55) rfl))) (by decide) (backOf (W := 1) (rm_method_3 l Z a0 hw [] q2 (0 : Int32)  h0 n0 Z0 ) hZ (hw _ (List.mem_of_getElem? (i := 55) rfl)) (hw _ (List.mem_of_getElem? (i := 2) rfl)) (by decide) (by decide)) (g := (mkF m 21 #[.val (.ref q1), .val (.long q2), .second, .val (.int 6)] [(.int 0), (.long q2), (.int (own_F_method_3 q2 (0 : Int32)))])) rfl (by rw [hml]; rfl) (argsL := [(.long q2), (.int 0)]) (rest := [(.int (own_F_method_3 q2 (0 : Int32)))]) (lenOf pd__JI_B rfl) rfl (by show 2 * 0 + _ ≤ _; exact Nat.le_of_eq rfl) (hb hby d_method_6_21) (fun _ _ => ⟨rfl, e0, (by decide : 0 + 0 ≤ _), (by decide : 0 + 0 ≤ _)⟩)
  dsimp only [Pt.U, Pt.locs, Pt.cells, Pt.slots] at X1 l1 y1 z1 st1 hQ1
  subst l1 y1 z1
  obtain ⟨rfl, N1q, e1⟩ := hQ1
  have N1 := Fr.app N0 N1q
  refine own_of (fun t k => st1 t k) ?_
  show own_Go p e below KK T1 (mkF m 24 #[.val (.ref q1), .val (.long q2), .second, .val (.int 6)] [(.int (own_F_method_3 q2 (0 : Int32))), (.int (own_F_method_3 q2 (0 : Int32)))])
  have hc24 : (own_F_method_3 q2 (0 : Int32)) = (own_F_method_3 q2 (0 : Int32)) := rfl
  refine own_at (fun t k => XS.icmpYes X1.here hx rfl (pc0 := 24) (pc' := 29) rfl (hb hby d_method_6_24) rfl (Jvm.Free.XT.ii_eq_t hc24) (by decide) (by decide) k) ?_
  show own_Go p e below KK T1 (mkF m 29 #[.val (.ref q1), .val (.long q2), .second, .val (.int 6)] [])
  refine own_at (fun t k => XS.iloadN X1.here hx rfl (hb hby d_method_6_29) rfl k) ?_
  show own_Go p e below KK T1 (mkF m 30 #[.val (.ref q1), .val (.long q2), .second, .val (.int 6)] [(.int 6)])
  refine own_at (fun t k => XS.iconst X1.here hx rfl (hb hby d_method_6_30) k) ?_
  show own_Go p e below KK T1 (mkF m 31 #[.val (.ref q1), .val (.long q2), .second, .val (.int 6)] [(.int 1), (.int 6)])
  have hc31 : (1 : Int32) < (6 : Int32) := by decide
  refine own_at (fun t k => XS.icmpNo X1.here hx rfl (hb hby d_method_6_31) rfl (Jvm.Free.XT.ii_le_f hc31) k) ?_
  show own_Go p e below KK T1 (mkF m 34 #[.val (.ref q1), .val (.long q2), .second, .val (.int 6)] [])
  refine own_at (fun t k => XS.aloadN X1.here hx rfl (hb hby d_method_6_34) rfl rfl k) ?_
  show own_Go p e below KK T1 (mkF m 35 #[.val (.ref q1), .val (.long q2), .second, .val (.int 6)] [(.ref q1)])
  refine own_at (fun t k => XS.iconst X1.here hx rfl (hb hby d_method_6_35) k) ?_
  show own_Go p e below KK T1 (mkF m 36 #[.val (.ref q1), .val (.long q2), .second, .val (.int 6)] [(.int 1), (.ref q1)])
  refine own_at (fun t k => own_ldB X1 hx hZ e1 Aq (j := (1 : Int32)) (i := 1) (v := (.int (own_F_method_3 q2 (1 : Int32)))) (by decide) (by decide) rfl (g := (mkF m 36 #[.val (.ref q1), .val (.long q2), .second, .val (.int 6)] [(.int 1), (.ref q1)])) rfl rfl (hb hby d_method_6_36) t k) ?_
  show own_Go p e below KK T1 (mkF m 37 #[.val (.ref q1), .val (.long q2), .second, .val (.int 6)] [(.int (own_F_method_3 q2 (1 : Int32)))])
  refine own_at (fun t k => XS.lloadN X1.here hx rfl (hb hby d_method_6_37) rfl k) ?_
  show own_Go p e below KK T1 (mkF m 38 #[.val (.ref q1), .val (.long q2), .second, .val (.int 6)] [(.long q2), (.int (own_F_method_3 q2 (1 : Int32)))])
  refine own_at (fun t k => XS.iconst X1.here hx rfl (hb hby d_method_6_38) k) ?_
  show own_Go p e below KK T1 (mkF m 39 #[.val (.ref q1), .val (.long q2), .second, .val (.int 6)] [(.int 1), (.long q2), (.int (own_F_method_3 q2 (1 : Int32)))])
  obtain ⟨_, _, ⟨T2, L2, k2, n2⟩, -, X2, ⟨Lc2, hQ2, l2, y2, z2⟩, st2⟩ := Jvm.LawKit.callS X1 hx (y := (⟨"com/example/isimud/isimud/oscore/OscoreOptionOfRequestPinLaw", "b", "(JI)B"⟩ : MethodName)) hown (mvT hZ (hw _ (List.mem_of_getElem? (i := 53) rfl))) (mvT hZ (hw _ (List.mem_of_getElem? (i := 54) rfl))) (mvT hZ (hw _ (List.mem_of_getElem? (i := 2) rfl))) (mvT hZ (hw _ (List.mem_of_getElem? (i := 55) rfl))) (by decide) (backOf (W := 1) (rm_method_3 l Z a0 hw [] q2 (1 : Int32)  h0 n0 Z0 ) hZ (hw _ (List.mem_of_getElem? (i := 55) rfl)) (hw _ (List.mem_of_getElem? (i := 2) rfl)) (by decide) (by decide)) (g := (mkF m 39 #[.val (.ref q1), .val (.long q2), .second, .val (.int 6)] [(.int 1), (.long q2), (.int (own_F_method_3 q2 (1 : Int32)))])) rfl (by rw [hml]; rfl) (argsL := [(.long q2), (.int 1)]) (rest := [(.int (own_F_method_3 q2 (1 : Int32)))]) (lenOf pd__JI_B rfl) rfl (by show 2 * 0 + _ ≤ _; exact Nat.le_of_eq rfl) (hb hby d_method_6_39) (fun _ _ => ⟨rfl, e1, (by decide : 0 + 0 ≤ _), (by decide : 0 + 0 ≤ _)⟩)
  dsimp only [Pt.U, Pt.locs, Pt.cells, Pt.slots] at X2 l2 y2 z2 st2 hQ2
  subst l2 y2 z2
  obtain ⟨rfl, N2q, e2⟩ := hQ2
  have N2 := Fr.app N1 N2q
  refine own_of (fun t k => st2 t k) ?_
  show own_Go p e below KK T2 (mkF m 42 #[.val (.ref q1), .val (.long q2), .second, .val (.int 6)] [(.int (own_F_method_3 q2 (1 : Int32))), (.int (own_F_method_3 q2 (1 : Int32)))])
  have hc42 : (own_F_method_3 q2 (1 : Int32)) = (own_F_method_3 q2 (1 : Int32)) := rfl
  refine own_at (fun t k => XS.icmpYes X2.here hx rfl (pc0 := 42) (pc' := 47) rfl (hb hby d_method_6_42) rfl (Jvm.Free.XT.ii_eq_t hc42) (by decide) (by decide) k) ?_
  show own_Go p e below KK T2 (mkF m 47 #[.val (.ref q1), .val (.long q2), .second, .val (.int 6)] [])
  refine own_at (fun t k => XS.iloadN X2.here hx rfl (hb hby d_method_6_47) rfl k) ?_
  show own_Go p e below KK T2 (mkF m 48 #[.val (.ref q1), .val (.long q2), .second, .val (.int 6)] [(.int 6)])
  refine own_at (fun t k => XS.iconst X2.here hx rfl (hb hby d_method_6_48) k) ?_
  show own_Go p e below KK T2 (mkF m 49 #[.val (.ref q1), .val (.long q2), .second, .val (.int 6)] [(.int 2), (.int 6)])
  have hc49 : (2 : Int32) < (6 : Int32) := by decide
  refine own_at (fun t k => XS.icmpNo X2.here hx rfl (hb hby d_method_6_49) rfl (Jvm.Free.XT.ii_le_f hc49) k) ?_
  show own_Go p e below KK T2 (mkF m 52 #[.val (.ref q1), .val (.long q2), .second, .val (.int 6)] [])
  refine own_at (fun t k => XS.aloadN X2.here hx rfl (hb hby d_method_6_52) rfl rfl k) ?_
  show own_Go p e below KK T2 (mkF m 53 #[.val (.ref q1), .val (.long q2), .second, .val (.int 6)] [(.ref q1)])
  refine own_at (fun t k => XS.iconst X2.here hx rfl (hb hby d_method_6_53) k) ?_
  show own_Go p e below KK T2 (mkF m 54 #[.val (.ref q1), .val (.long q2), .second, .val (.int 6)] [(.int 2), (.ref q1)])
  refine own_at (fun t k => own_ldB X2 hx hZ e2 Aq (j := (2 : Int32)) (i := 2) (v := (.int (own_F_method_3 q2 (2 : Int32)))) (by decide) (by decide) rfl (g := (mkF m 54 #[.val (.ref q1), .val (.long q2), .second, .val (.int 6)] [(.int 2), (.ref q1)])) rfl rfl (hb hby d_method_6_54) t k) ?_
  show own_Go p e below KK T2 (mkF m 55 #[.val (.ref q1), .val (.long q2), .second, .val (.int 6)] [(.int (own_F_method_3 q2 (2 : Int32)))])
  refine own_at (fun t k => XS.lloadN X2.here hx rfl (hb hby d_method_6_55) rfl k) ?_
  show own_Go p e below KK T2 (mkF m 56 #[.val (.ref q1), .val (.long q2), .second, .val (.int 6)] [(.long q2), (.int (own_F_method_3 q2 (2 : Int32)))])
  refine own_at (fun t k => XS.iconst X2.here hx rfl (hb hby d_method_6_56) k) ?_
  show own_Go p e below KK T2 (mkF m 57 #[.val (.ref q1), .val (.long q2), .second, .val (.int 6)] [(.int 2), (.long q2), (.int (own_F_method_3 q2 (2 : Int32)))])
  obtain ⟨_, _, ⟨T3, L3, k3, n3⟩, -, X3, ⟨Lc3, hQ3, l3, y3, z3⟩, st3⟩ := Jvm.LawKit.callS X2 hx (y := (⟨"com/example/isimud/isimud/oscore/OscoreOptionOfRequestPinLaw", "b", "(JI)B"⟩ : MethodName)) hown (mvT hZ (hw _ (List.mem_of_getElem? (i := 53) rfl))) (mvT hZ (hw _ (List.mem_of_getElem? (i := 54) rfl))) (mvT hZ (hw _ (List.mem_of_getElem? (i := 2) rfl))) (mvT hZ (hw _ (List.mem_of_getElem? (i := 55) rfl))) (by decide) (backOf (W := 1) (rm_method_3 l Z a0 hw [] q2 (2 : Int32)  h0 n0 Z0 ) hZ (hw _ (List.mem_of_getElem? (i := 55) rfl)) (hw _ (List.mem_of_getElem? (i := 2) rfl)) (by decide) (by decide)) (g := (mkF m 57 #[.val (.ref q1), .val (.long q2), .second, .val (.int 6)] [(.int 2), (.long q2), (.int (own_F_method_3 q2 (2 : Int32)))])) rfl (by rw [hml]; rfl) (argsL := [(.long q2), (.int 2)]) (rest := [(.int (own_F_method_3 q2 (2 : Int32)))]) (lenOf pd__JI_B rfl) rfl (by show 2 * 0 + _ ≤ _; exact Nat.le_of_eq rfl) (hb hby d_method_6_57) (fun _ _ => ⟨rfl, e2, (by decide : 0 + 0 ≤ _), (by decide : 0 + 0 ≤ _)⟩)
  dsimp only [Pt.U, Pt.locs, Pt.cells, Pt.slots] at X3 l3 y3 z3 st3 hQ3
  subst l3 y3 z3
  obtain ⟨rfl, N3q, e3⟩ := hQ3
  have N3 := Fr.app N2 N3q
  refine own_of (fun t k => st3 t k) ?_
  show own_Go p e below KK T3 (mkF m 60 #[.val (.ref q1), .val (.long q2), .second, .val (.int 6)] [(.int (own_F_method_3 q2 (2 : Int32))), (.int (own_F_method_3 q2 (2 : Int32)))])
  have hc60 : (own_F_method_3 q2 (2 : Int32)) = (own_F_method_3 q2 (2 : Int32)) := rfl
  refine own_at (fun t k => XS.icmpYes X3.here hx rfl (pc0 := 60) (pc' := 65) rfl (hb hby d_method_6_60) rfl (Jvm.Free.XT.ii_eq_t hc60) (by decide) (by decide) k) ?_
  show own_Go p e below KK T3 (mkF m 65 #[.val (.ref q1), .val (.long q2), .second, .val (.int 6)] [])
  refine own_at (fun t k => XS.iloadN X3.here hx rfl (hb hby d_method_6_65) rfl k) ?_
  show own_Go p e below KK T3 (mkF m 66 #[.val (.ref q1), .val (.long q2), .second, .val (.int 6)] [(.int 6)])
  refine own_at (fun t k => XS.iconst X3.here hx rfl (hb hby d_method_6_66) k) ?_
  show own_Go p e below KK T3 (mkF m 67 #[.val (.ref q1), .val (.long q2), .second, .val (.int 6)] [(.int 3), (.int 6)])
  have hc67 : (3 : Int32) < (6 : Int32) := by decide
  refine own_at (fun t k => XS.icmpNo X3.here hx rfl (hb hby d_method_6_67) rfl (Jvm.Free.XT.ii_le_f hc67) k) ?_
  show own_Go p e below KK T3 (mkF m 70 #[.val (.ref q1), .val (.long q2), .second, .val (.int 6)] [])
  refine own_at (fun t k => XS.aloadN X3.here hx rfl (hb hby d_method_6_70) rfl rfl k) ?_
  show own_Go p e below KK T3 (mkF m 71 #[.val (.ref q1), .val (.long q2), .second, .val (.int 6)] [(.ref q1)])
  refine own_at (fun t k => XS.iconst X3.here hx rfl (hb hby d_method_6_71) k) ?_
  show own_Go p e below KK T3 (mkF m 72 #[.val (.ref q1), .val (.long q2), .second, .val (.int 6)] [(.int 3), (.ref q1)])
  refine own_at (fun t k => own_ldB X3 hx hZ e3 Aq (j := (3 : Int32)) (i := 3) (v := (.int (own_F_method_3 q2 (3 : Int32)))) (by decide) (by decide) rfl (g := (mkF m 72 #[.val (.ref q1), .val (.long q2), .second, .val (.int 6)] [(.int 3), (.ref q1)])) rfl rfl (hb hby d_method_6_72) t k) ?_
  show own_Go p e below KK T3 (mkF m 73 #[.val (.ref q1), .val (.long q2), .second, .val (.int 6)] [(.int (own_F_method_3 q2 (3 : Int32)))])
  refine own_at (fun t k => XS.lloadN X3.here hx rfl (hb hby d_method_6_73) rfl k) ?_
  show own_Go p e below KK T3 (mkF m 74 #[.val (.ref q1), .val (.long q2), .second, .val (.int 6)] [(.long q2), (.int (own_F_method_3 q2 (3 : Int32)))])
  refine own_at (fun t k => XS.iconst X3.here hx rfl (hb hby d_method_6_74) k) ?_
  show own_Go p e below KK T3 (mkF m 75 #[.val (.ref q1), .val (.long q2), .second, .val (.int 6)] [(.int 3), (.long q2), (.int (own_F_method_3 q2 (3 : Int32)))])
  obtain ⟨_, _, ⟨T4, L4, k4, n4⟩, -, X4, ⟨Lc4, hQ4, l4, y4, z4⟩, st4⟩ := Jvm.LawKit.callS X3 hx (y := (⟨"com/example/isimud/isimud/oscore/OscoreOptionOfRequestPinLaw", "b", "(JI)B"⟩ : MethodName)) hown (mvT hZ (hw _ (List.mem_of_getElem? (i := 53) rfl))) (mvT hZ (hw _ (List.mem_of_getElem? (i := 54) rfl))) (mvT hZ (hw _ (List.mem_of_getElem? (i := 2) rfl))) (mvT hZ (hw _ (List.mem_of_getElem? (i := 55) rfl))) (by decide) (backOf (W := 1) (rm_method_3 l Z a0 hw [] q2 (3 : Int32)  h0 n0 Z0 ) hZ (hw _ (List.mem_of_getElem? (i := 55) rfl)) (hw _ (List.mem_of_getElem? (i := 2) rfl)) (by decide) (by decide)) (g := (mkF m 75 #[.val (.ref q1), .val (.long q2), .second, .val (.int 6)] [(.int 3), (.long q2), (.int (own_F_method_3 q2 (3 : Int32)))])) rfl (by rw [hml]; rfl) (argsL := [(.long q2), (.int 3)]) (rest := [(.int (own_F_method_3 q2 (3 : Int32)))]) (lenOf pd__JI_B rfl) rfl (by show 2 * 0 + _ ≤ _; exact Nat.le_of_eq rfl) (hb hby d_method_6_75) (fun _ _ => ⟨rfl, e3, (by decide : 0 + 0 ≤ _), (by decide : 0 + 0 ≤ _)⟩)
  dsimp only [Pt.U, Pt.locs, Pt.cells, Pt.slots] at X4 l4 y4 z4 st4 hQ4
  subst l4 y4 z4
  obtain ⟨rfl, N4q, e4⟩ := hQ4
  have N4 := Fr.app N3 N4q
  refine own_of (fun t k => st4 t k) ?_
  show own_Go p e below KK T4 (mkF m 78 #[.val (.ref q1), .val (.long q2), .second, .val (.int 6)] [(.int (own_F_method_3 q2 (3 : Int32))), (.int (own_F_method_3 q2 (3 : Int32)))])
  have hc78 : (own_F_method_3 q2 (3 : Int32)) = (own_F_method_3 q2 (3 : Int32)) := rfl
  refine own_at (fun t k => XS.icmpYes X4.here hx rfl (pc0 := 78) (pc' := 83) rfl (hb hby d_method_6_78) rfl (Jvm.Free.XT.ii_eq_t hc78) (by decide) (by decide) k) ?_
  show own_Go p e below KK T4 (mkF m 83 #[.val (.ref q1), .val (.long q2), .second, .val (.int 6)] [])
  refine own_at (fun t k => XS.iloadN X4.here hx rfl (hb hby d_method_6_83) rfl k) ?_
  show own_Go p e below KK T4 (mkF m 84 #[.val (.ref q1), .val (.long q2), .second, .val (.int 6)] [(.int 6)])
  refine own_at (fun t k => XS.iconst X4.here hx rfl (hb hby d_method_6_84) k) ?_
  show own_Go p e below KK T4 (mkF m 85 #[.val (.ref q1), .val (.long q2), .second, .val (.int 6)] [(.int 4), (.int 6)])
  have hc85 : (4 : Int32) < (6 : Int32) := by decide
  refine own_at (fun t k => XS.icmpNo X4.here hx rfl (hb hby d_method_6_85) rfl (Jvm.Free.XT.ii_le_f hc85) k) ?_
  show own_Go p e below KK T4 (mkF m 88 #[.val (.ref q1), .val (.long q2), .second, .val (.int 6)] [])
  refine own_at (fun t k => XS.aloadN X4.here hx rfl (hb hby d_method_6_88) rfl rfl k) ?_
  show own_Go p e below KK T4 (mkF m 89 #[.val (.ref q1), .val (.long q2), .second, .val (.int 6)] [(.ref q1)])
  refine own_at (fun t k => XS.iconst X4.here hx rfl (hb hby d_method_6_89) k) ?_
  show own_Go p e below KK T4 (mkF m 90 #[.val (.ref q1), .val (.long q2), .second, .val (.int 6)] [(.int 4), (.ref q1)])
  refine own_at (fun t k => own_ldB X4 hx hZ e4 Aq (j := (4 : Int32)) (i := 4) (v := (.int (own_F_method_3 q2 (4 : Int32)))) (by decide) (by decide) rfl (g := (mkF m 90 #[.val (.ref q1), .val (.long q2), .second, .val (.int 6)] [(.int 4), (.ref q1)])) rfl rfl (hb hby d_method_6_90) t k) ?_
  show own_Go p e below KK T4 (mkF m 91 #[.val (.ref q1), .val (.long q2), .second, .val (.int 6)] [(.int (own_F_method_3 q2 (4 : Int32)))])
  refine own_at (fun t k => XS.lloadN X4.here hx rfl (hb hby d_method_6_91) rfl k) ?_
  show own_Go p e below KK T4 (mkF m 92 #[.val (.ref q1), .val (.long q2), .second, .val (.int 6)] [(.long q2), (.int (own_F_method_3 q2 (4 : Int32)))])
  refine own_at (fun t k => XS.iconst X4.here hx rfl (hb hby d_method_6_92) k) ?_
  show own_Go p e below KK T4 (mkF m 93 #[.val (.ref q1), .val (.long q2), .second, .val (.int 6)] [(.int 4), (.long q2), (.int (own_F_method_3 q2 (4 : Int32)))])
  obtain ⟨_, _, ⟨T5, L5, k5, n5⟩, -, X5, ⟨Lc5, hQ5, l5, y5, z5⟩, st5⟩ := Jvm.LawKit.callS X4 hx (y := (⟨"com/example/isimud/isimud/oscore/OscoreOptionOfRequestPinLaw", "b", "(JI)B"⟩ : MethodName)) hown (mvT hZ (hw _ (List.mem_of_getElem? (i := 53) rfl))) (mvT hZ (hw _ (List.mem_of_getElem? (i := 54) rfl))) (mvT hZ (hw _ (List.mem_of_getElem? (i := 2) rfl))) (mvT hZ (hw _ (List.mem_of_getElem? (i := 55) rfl))) (by decide) (backOf (W := 1) (rm_method_3 l Z a0 hw [] q2 (4 : Int32)  h0 n0 Z0 ) hZ (hw _ (List.mem_of_getElem? (i := 55) rfl)) (hw _ (List.mem_of_getElem? (i := 2) rfl)) (by decide) (by decide)) (g := (mkF m 93 #[.val (.ref q1), .val (.long q2), .second, .val (.int 6)] [(.int 4), (.long q2), (.int (own_F_method_3 q2 (4 : Int32)))])) rfl (by rw [hml]; rfl) (argsL := [(.long q2), (.int 4)]) (rest := [(.int (own_F_method_3 q2 (4 : Int32)))]) (lenOf pd__JI_B rfl) rfl (by show 2 * 0 + _ ≤ _; exact Nat.le_of_eq rfl) (hb hby d_method_6_93) (fun _ _ => ⟨rfl, e4, (by decide : 0 + 0 ≤ _), (by decide : 0 + 0 ≤ _)⟩)
  dsimp only [Pt.U, Pt.locs, Pt.cells, Pt.slots] at X5 l5 y5 z5 st5 hQ5
  subst l5 y5 z5
  obtain ⟨rfl, N5q, e5⟩ := hQ5
  have N5 := Fr.app N4 N5q
  refine own_of (fun t k => st5 t k) ?_
  show own_Go p e below KK T5 (mkF m 96 #[.val (.ref q1), .val (.long q2), .second, .val (.int 6)] [(.int (own_F_method_3 q2 (4 : Int32))), (.int (own_F_method_3 q2 (4 : Int32)))])
  have hc96 : (own_F_method_3 q2 (4 : Int32)) = (own_F_method_3 q2 (4 : Int32)) := rfl
  refine own_at (fun t k => XS.icmpYes X5.here hx rfl (pc0 := 96) (pc' := 101) rfl (hb hby d_method_6_96) rfl (Jvm.Free.XT.ii_eq_t hc96) (by decide) (by decide) k) ?_
  show own_Go p e below KK T5 (mkF m 101 #[.val (.ref q1), .val (.long q2), .second, .val (.int 6)] [])
  refine own_at (fun t k => XS.iloadN X5.here hx rfl (hb hby d_method_6_101) rfl k) ?_
  show own_Go p e below KK T5 (mkF m 102 #[.val (.ref q1), .val (.long q2), .second, .val (.int 6)] [(.int 6)])
  refine own_at (fun t k => XS.iconst X5.here hx rfl (hb hby d_method_6_102) k) ?_
  show own_Go p e below KK T5 (mkF m 103 #[.val (.ref q1), .val (.long q2), .second, .val (.int 6)] [(.int 5), (.int 6)])
  have hc103 : (5 : Int32) < (6 : Int32) := by decide
  refine own_at (fun t k => XS.icmpNo X5.here hx rfl (hb hby d_method_6_103) rfl (Jvm.Free.XT.ii_le_f hc103) k) ?_
  show own_Go p e below KK T5 (mkF m 106 #[.val (.ref q1), .val (.long q2), .second, .val (.int 6)] [])
  refine own_at (fun t k => XS.aloadN X5.here hx rfl (hb hby d_method_6_106) rfl rfl k) ?_
  show own_Go p e below KK T5 (mkF m 107 #[.val (.ref q1), .val (.long q2), .second, .val (.int 6)] [(.ref q1)])
  refine own_at (fun t k => XS.iconst X5.here hx rfl (hb hby d_method_6_107) k) ?_
  show own_Go p e below KK T5 (mkF m 108 #[.val (.ref q1), .val (.long q2), .second, .val (.int 6)] [(.int 5), (.ref q1)])
  refine own_at (fun t k => own_ldB X5 hx hZ e5 Aq (j := (5 : Int32)) (i := 5) (v := (.int (own_F_method_3 q2 (5 : Int32)))) (by decide) (by decide) rfl (g := (mkF m 108 #[.val (.ref q1), .val (.long q2), .second, .val (.int 6)] [(.int 5), (.ref q1)])) rfl rfl (hb hby d_method_6_108) t k) ?_
  show own_Go p e below KK T5 (mkF m 109 #[.val (.ref q1), .val (.long q2), .second, .val (.int 6)] [(.int (own_F_method_3 q2 (5 : Int32)))])
  refine own_at (fun t k => XS.lloadN X5.here hx rfl (hb hby d_method_6_109) rfl k) ?_
  show own_Go p e below KK T5 (mkF m 110 #[.val (.ref q1), .val (.long q2), .second, .val (.int 6)] [(.long q2), (.int (own_F_method_3 q2 (5 : Int32)))])
  refine own_at (fun t k => XS.iconst X5.here hx rfl (hb hby d_method_6_110) k) ?_
  show own_Go p e below KK T5 (mkF m 111 #[.val (.ref q1), .val (.long q2), .second, .val (.int 6)] [(.int 5), (.long q2), (.int (own_F_method_3 q2 (5 : Int32)))])
  obtain ⟨_, _, ⟨T6, L6, k6, n6⟩, -, X6, ⟨Lc6, hQ6, l6, y6, z6⟩, st6⟩ := Jvm.LawKit.callS X5 hx (y := (⟨"com/example/isimud/isimud/oscore/OscoreOptionOfRequestPinLaw", "b", "(JI)B"⟩ : MethodName)) hown (mvT hZ (hw _ (List.mem_of_getElem? (i := 53) rfl))) (mvT hZ (hw _ (List.mem_of_getElem? (i := 54) rfl))) (mvT hZ (hw _ (List.mem_of_getElem? (i := 2) rfl))) (mvT hZ (hw _ (List.mem_of_getElem? (i := 55) rfl))) (by decide) (backOf (W := 1) (rm_method_3 l Z a0 hw [] q2 (5 : Int32)  h0 n0 Z0 ) hZ (hw _ (List.mem_of_getElem? (i := 55) rfl)) (hw _ (List.mem_of_getElem? (i := 2) rfl)) (by decide) (by decide)) (g := (mkF m 111 #[.val (.ref q1), .val (.long q2), .second, .val (.int 6)] [(.int 5), (.long q2), (.int (own_F_method_3 q2 (5 : Int32)))])) rfl (by rw [hml]; rfl) (argsL := [(.long q2), (.int 5)]) (rest := [(.int (own_F_method_3 q2 (5 : Int32)))]) (lenOf pd__JI_B rfl) rfl (by show 2 * 0 + _ ≤ _; exact Nat.le_of_eq rfl) (hb hby d_method_6_111) (fun _ _ => ⟨rfl, e5, (by decide : 0 + 0 ≤ _), (by decide : 0 + 0 ≤ _)⟩)
  dsimp only [Pt.U, Pt.locs, Pt.cells, Pt.slots] at X6 l6 y6 z6 st6 hQ6
  subst l6 y6 z6
  obtain ⟨rfl, N6q, e6⟩ := hQ6
  have N6 := Fr.app N5 N6q
  refine own_of (fun t k => st6 t k) ?_
  show own_Go p e below KK T6 (mkF m 114 #[.val (.ref q1), .val (.long q2), .second, .val (.int 6)] [(.int (own_F_method_3 q2 (5 : Int32))), (.int (own_F_method_3 q2 (5 : Int32)))])
  have hc114 : (own_F_method_3 q2 (5 : Int32)) = (own_F_method_3 q2 (5 : Int32)) := rfl
  refine own_at (fun t k => XS.icmpYes X6.here hx rfl (pc0 := 114) (pc' := 119) rfl (hb hby d_method_6_114) rfl (Jvm.Free.XT.ii_eq_t hc114) (by decide) (by decide) k) ?_
  show own_Go p e below KK T6 (mkF m 119 #[.val (.ref q1), .val (.long q2), .second, .val (.int 6)] [])
  refine own_at (fun t k => XS.iloadN X6.here hx rfl (hb hby d_method_6_119) rfl k) ?_
  show own_Go p e below KK T6 (mkF m 120 #[.val (.ref q1), .val (.long q2), .second, .val (.int 6)] [(.int 6)])
  refine own_at (fun t k => XS.bipush X6.here hx rfl (hb hby d_method_6_120) k) ?_
  show own_Go p e below KK T6 (mkF m 122 #[.val (.ref q1), .val (.long q2), .second, .val (.int 6)] [(.int 6), (.int 6)])
  have hc122 : ¬ ((6 : Int32) < (6 : Int32)) := by decide
  refine own_at (fun t k => XS.icmpYes X6.here hx rfl (pc0 := 122) (pc' := 140) rfl (hb hby d_method_6_122) rfl (Jvm.Free.XT.ii_le_t hc122) (by decide) (by decide) k) ?_
  show own_Go p e below KK T6 (mkF m 140 #[.val (.ref q1), .val (.long q2), .second, .val (.int 6)] [])
  refine own_at (fun t k => XS.iconst X6.here hx rfl (hb hby d_method_6_140) k) ?_
  show own_Go p e below KK T6 (mkF m 141 #[.val (.ref q1), .val (.long q2), .second, .val (.int 6)] [(.int 1)])
  subst hKK
  exact own_retN X6 hx hlk (t := .boolean) Bd.returns (by simp) (hb hby d_method_6_141) (w := (1 : Int32)) (show nar .boolean (1 : Int32) = 1 from by decide) ⟨rfl, N6, e6⟩ (Nat.le_of_ble_eq_true rfl) (Nat.le_of_ble_eq_true rfl)
theorem d_method_6_125 : decode method_6_code 125 = .ok (.aload_n 0, 1) := by decide +kernel
theorem d_method_6_126 : decode method_6_code 126 = .ok (.bipush 6, 2) := by decide +kernel
theorem d_method_6_128 : decode method_6_code 128 = .ok (.baload, 1) := by decide +kernel
theorem d_method_6_129 : decode method_6_code 129 = .ok (.lload_n 1, 1) := by decide +kernel
theorem d_method_6_130 : decode method_6_code 130 = .ok (.bipush 6, 2) := by decide +kernel
theorem d_method_6_132 : decode method_6_code 132 = .ok (.invokestatic 37, 3) := by decide +kernel
theorem d_method_6_135 : decode method_6_code 135 = .ok (.if_icmp .eq 5, 3) := by decide +kernel
set_option maxRecDepth 65536 in
set_option maxHeartbeats 40000000 in
theorem rm_same7 (l : Launch) (Z : State) (a0 : Array Value) (hw : ∀ d ∈ tables_1, d.before a0 Z = true) (ws : List Jvm.Cond) (q1 : Addr) (q2 : Int64)  (h0 : Heap) (n0 : Nat) (Z0 : n0 ≤ h0.size) (Aq : own_A Z h0 q1 "[B" .byte [(.int (own_F_method_3 q2 (0 : Int32))), (.int (own_F_method_3 q2 (1 : Int32))), (.int (own_F_method_3 q2 (2 : Int32))), (.int (own_F_method_3 q2 (3 : Int32))), (.int (own_F_method_3 q2 (4 : Int32))), (.int (own_F_method_3 q2 (5 : Int32))), (.int (own_F_method_3 q2 (6 : Int32)))]) :
    MetFree l (⟨"com/example/isimud/isimud/oscore/OscoreOptionOfRequestPinLaw", "same", "([BJI)Z"⟩ : MethodName) (head1 (Jvm.Cond.code (⟨"com/example/isimud/isimud/oscore/OscoreOptionOfRequestPinLaw", "same", "([BJI)Z"⟩ : MethodName) method_6_code 4 (some .boolean) :: ws) ({ frames := 1, cells := 0, slots := 0, locals := 15 } : Room)) (fun a U => a = #[(.ref q1), (.long q2), (.int 7)] ∧ Z.Warmed39 U.vm ∧ U.heap = h0) (fun _ _ _ _ _ => True) (fun _ U o U' => ∃ v L, o = .returned v ∧ own_P (.int 1) h0 n0 v U'.heap L ∧ FrameEnd U o U' L ({ frames := 1, cells := 0, slots := 0, locals := 15 } : Room).cells ({ frames := 1, cells := 0, slots := 0, locals := 15 } : Room).slots) := by
  refine MetFree.of_bodySF (plainFor_of_name pn_com_example_isimud_isimud_oscore_OscoreOptionOfRequestPinLaw) hisR ?_
  intro p e s m args below meth c s₁ Bd hml0 hP hK
  obtain ⟨rfl, hZ, hh⟩ := hP
  have hx := Bd.exec
  have hby := Bd.bytes
  have hlk : meth.locks = false := BodyLoose.notSynchronized Bd
  have hml : c.maxLocals = 4 := hml0
  have hown : s.vm.findClass "com/example/isimud/isimud/oscore/OscoreOptionOfRequestPinLaw" = some m.cls := findClass_of_methodNamed Bd.named
  have hnm := (name_of_methodNamed Bd.named Bd.method).1
  have X0 : Stand p l e ({ frames := 1, cells := 0, slots := 0, locals := 15 } : Room) s m #[(.ref q1), (.long q2), (.int 7)] below meth c s₁ [] 0 0 := Stand.of_body Bd
  have e0 : s₁.heap = h0 := by rw [← hh, Bd.state]; rfl
  have N0 := Fr.nil n0
  refine own_cast (K := own_K s (own_P (.int 1) h0 n0) 0 0) (ef_method_6 m q1 q2 (7 : Int32)) ?_
  generalize hKK : own_K s (own_P (.int 1) h0 n0) 0 0 = KK
  show own_Go p e below KK s₁ (mkF m 0 #[.val (.ref q1), .val (.long q2), .second, .val (.int 7)] [])
  refine own_at (fun t k => XS.aloadN X0.here hx rfl (hb hby d_method_6_0) rfl rfl k) ?_
  show own_Go p e below KK s₁ (mkF m 1 #[.val (.ref q1), .val (.long q2), .second, .val (.int 7)] [(.ref q1)])
  refine own_at (fun t k => XS.ifnullNo X0.here hx rfl (hb hby d_method_6_1) rfl k) ?_
  show own_Go p e below KK s₁ (mkF m 4 #[.val (.ref q1), .val (.long q2), .second, .val (.int 7)] [])
  refine own_at (fun t k => XS.aloadN X0.here hx rfl (hb hby d_method_6_4) rfl rfl k) ?_
  show own_Go p e below KK s₁ (mkF m 5 #[.val (.ref q1), .val (.long q2), .second, .val (.int 7)] [(.ref q1)])
  refine own_at (fun t k => own_len X0 hx hZ e0 Aq (N := (7 : Int32)) (show (7 : Nat).toInt32 = (7 : Int32) from by decide) (g := (mkF m 5 #[.val (.ref q1), .val (.long q2), .second, .val (.int 7)] [(.ref q1)])) rfl rfl (hb hby d_method_6_5) t k) ?_
  show own_Go p e below KK s₁ (mkF m 6 #[.val (.ref q1), .val (.long q2), .second, .val (.int 7)] [(.int 7)])
  refine own_at (fun t k => XS.iloadN X0.here hx rfl (hb hby d_method_6_6) rfl k) ?_
  show own_Go p e below KK s₁ (mkF m 7 #[.val (.ref q1), .val (.long q2), .second, .val (.int 7)] [(.int 7), (.int 7)])
  have hc7 : (7 : Int32) = (7 : Int32) := by decide
  refine own_at (fun t k => XS.icmpYes X0.here hx rfl (pc0 := 7) (pc' := 12) rfl (hb hby d_method_6_7) rfl (Jvm.Free.XT.ii_eq_t hc7) (by decide) (by decide) k) ?_
  show own_Go p e below KK s₁ (mkF m 12 #[.val (.ref q1), .val (.long q2), .second, .val (.int 7)] [])
  refine own_at (fun t k => XS.iloadN X0.here hx rfl (hb hby d_method_6_12) rfl k) ?_
  show own_Go p e below KK s₁ (mkF m 13 #[.val (.ref q1), .val (.long q2), .second, .val (.int 7)] [(.int 7)])
  have hc13 : (0 : Int32) < (7 : Int32) := by decide
  refine own_at (fun t k => XS.ifNo X0.here hx rfl (hb hby d_method_6_13) rfl (Jvm.Free.XT.i0_le_f hc13) k) ?_
  show own_Go p e below KK s₁ (mkF m 16 #[.val (.ref q1), .val (.long q2), .second, .val (.int 7)] [])
  refine own_at (fun t k => XS.aloadN X0.here hx rfl (hb hby d_method_6_16) rfl rfl k) ?_
  show own_Go p e below KK s₁ (mkF m 17 #[.val (.ref q1), .val (.long q2), .second, .val (.int 7)] [(.ref q1)])
  refine own_at (fun t k => XS.iconst X0.here hx rfl (hb hby d_method_6_17) k) ?_
  show own_Go p e below KK s₁ (mkF m 18 #[.val (.ref q1), .val (.long q2), .second, .val (.int 7)] [(.int 0), (.ref q1)])
  refine own_at (fun t k => own_ldB X0 hx hZ e0 Aq (j := (0 : Int32)) (i := 0) (v := (.int (own_F_method_3 q2 (0 : Int32)))) (by decide) (by decide) rfl (g := (mkF m 18 #[.val (.ref q1), .val (.long q2), .second, .val (.int 7)] [(.int 0), (.ref q1)])) rfl rfl (hb hby d_method_6_18) t k) ?_
  show own_Go p e below KK s₁ (mkF m 19 #[.val (.ref q1), .val (.long q2), .second, .val (.int 7)] [(.int (own_F_method_3 q2 (0 : Int32)))])
  refine own_at (fun t k => XS.lloadN X0.here hx rfl (hb hby d_method_6_19) rfl k) ?_
  show own_Go p e below KK s₁ (mkF m 20 #[.val (.ref q1), .val (.long q2), .second, .val (.int 7)] [(.long q2), (.int (own_F_method_3 q2 (0 : Int32)))])
  refine own_at (fun t k => XS.iconst X0.here hx rfl (hb hby d_method_6_20) k) ?_
  show own_Go p e below KK s₁ (mkF m 21 #[.val (.ref q1), .val (.long q2), .second, .val (.int 7)] [(.int 0), (.long q2), (.int (own_F_method_3 q2 (0 : Int32)))])
  obtain ⟨_, _, ⟨T1, L1, k1, n1⟩, -, X1, ⟨Lc1, hQ1, l1, y1, z1⟩, st1⟩ := Jvm.LawKit.callS X0 hx (y := (⟨"com/example/isimud/isimud/oscore/OscoreOptionOfRequestPinLaw", "b", "(JI)B"⟩ : MethodName)) hown (mvT hZ (hw _ (List.mem_of_getElem? (i := 53) rfl))) (mvT hZ (hw _ (List.mem_of_getElem? (i := 54) rfl))) (mvT hZ (hw _ (List.mem_of_getElem? (i := 2) rfl))) (mvT hZ (hw _ (List.mem_of_getElem? (i := 55) rfl))) (by decide) (backOf (W := 1) (rm_method_3 l Z a0 hw [] q2 (0 : Int32)  h0 n0 Z0 ) hZ (hw _ (List.mem_of_getElem? (i := 55) rfl)) (hw _ (List.mem_of_getElem? (i := 2) rfl)) (by decide) (by decide)) (g := (mkF m 21 #[.val (.ref q1), .val (.long q2), .second, .val (.int 7)] [(.int 0), (.long q2), (.int (own_F_method_3 q2 (0 : Int32)))])) rfl (by rw [hml]; rfl) (argsL := [(.long q2), (.int 0)]) (rest := [(.int (own_F_method_3 q2 (0 : Int32)))]) (lenOf pd__JI_B rfl) rfl (by show 2 * 0 + _ ≤ _; exact Nat.le_of_eq rfl) (hb hby d_method_6_21) (fun _ _ => ⟨rfl, e0, (by decide : 0 + 0 ≤ _), (by decide : 0 + 0 ≤ _)⟩)
  dsimp only [Pt.U, Pt.locs, Pt.cells, Pt.slots] at X1 l1 y1 z1 st1 hQ1
  subst l1 y1 z1
  obtain ⟨rfl, N1q, e1⟩ := hQ1
  have N1 := Fr.app N0 N1q
  refine own_of (fun t k => st1 t k) ?_
  show own_Go p e below KK T1 (mkF m 24 #[.val (.ref q1), .val (.long q2), .second, .val (.int 7)] [(.int (own_F_method_3 q2 (0 : Int32))), (.int (own_F_method_3 q2 (0 : Int32)))])
  have hc24 : (own_F_method_3 q2 (0 : Int32)) = (own_F_method_3 q2 (0 : Int32)) := rfl
  refine own_at (fun t k => XS.icmpYes X1.here hx rfl (pc0 := 24) (pc' := 29) rfl (hb hby d_method_6_24) rfl (Jvm.Free.XT.ii_eq_t hc24) (by decide) (by decide) k) ?_
  show own_Go p e below KK T1 (mkF m 29 #[.val (.ref q1), .val (.long q2), .second, .val (.int 7)] [])
  refine own_at (fun t k => XS.iloadN X1.here hx rfl (hb hby d_method_6_29) rfl k) ?_
  show own_Go p e below KK T1 (mkF m 30 #[.val (.ref q1), .val (.long q2), .second, .val (.int 7)] [(.int 7)])
  refine own_at (fun t k => XS.iconst X1.here hx rfl (hb hby d_method_6_30) k) ?_
  show own_Go p e below KK T1 (mkF m 31 #[.val (.ref q1), .val (.long q2), .second, .val (.int 7)] [(.int 1), (.int 7)])
  have hc31 : (1 : Int32) < (7 : Int32) := by decide
  refine own_at (fun t k => XS.icmpNo X1.here hx rfl (hb hby d_method_6_31) rfl (Jvm.Free.XT.ii_le_f hc31) k) ?_
  show own_Go p e below KK T1 (mkF m 34 #[.val (.ref q1), .val (.long q2), .second, .val (.int 7)] [])
  refine own_at (fun t k => XS.aloadN X1.here hx rfl (hb hby d_method_6_34) rfl rfl k) ?_
  show own_Go p e below KK T1 (mkF m 35 #[.val (.ref q1), .val (.long q2), .second, .val (.int 7)] [(.ref q1)])
  refine own_at (fun t k => XS.iconst X1.here hx rfl (hb hby d_method_6_35) k) ?_
  show own_Go p e below KK T1 (mkF m 36 #[.val (.ref q1), .val (.long q2), .second, .val (.int 7)] [(.int 1), (.ref q1)])
  refine own_at (fun t k => own_ldB X1 hx hZ e1 Aq (j := (1 : Int32)) (i := 1) (v := (.int (own_F_method_3 q2 (1 : Int32)))) (by decide) (by decide) rfl (g := (mkF m 36 #[.val (.ref q1), .val (.long q2), .second, .val (.int 7)] [(.int 1), (.ref q1)])) rfl rfl (hb hby d_method_6_36) t k) ?_
  show own_Go p e below KK T1 (mkF m 37 #[.val (.ref q1), .val (.long q2), .second, .val (.int 7)] [(.int (own_F_method_3 q2 (1 : Int32)))])
  refine own_at (fun t k => XS.lloadN X1.here hx rfl (hb hby d_method_6_37) rfl k) ?_
  show own_Go p e below KK T1 (mkF m 38 #[.val (.ref q1), .val (.long q2), .second, .val (.int 7)] [(.long q2), (.int (own_F_method_3 q2 (1 : Int32)))])
  refine own_at (fun t k => XS.iconst X1.here hx rfl (hb hby d_method_6_38) k) ?_
  show own_Go p e below KK T1 (mkF m 39 #[.val (.ref q1), .val (.long q2), .second, .val (.int 7)] [(.int 1), (.long q2), (.int (own_F_method_3 q2 (1 : Int32)))])
  obtain ⟨_, _, ⟨T2, L2, k2, n2⟩, -, X2, ⟨Lc2, hQ2, l2, y2, z2⟩, st2⟩ := Jvm.LawKit.callS X1 hx (y := (⟨"com/example/isimud/isimud/oscore/OscoreOptionOfRequestPinLaw", "b", "(JI)B"⟩ : MethodName)) hown (mvT hZ (hw _ (List.mem_of_getElem? (i := 53) rfl))) (mvT hZ (hw _ (List.mem_of_getElem? (i := 54) rfl))) (mvT hZ (hw _ (List.mem_of_getElem? (i := 2) rfl))) (mvT hZ (hw _ (List.mem_of_getElem? (i := 55) rfl))) (by decide) (backOf (W := 1) (rm_method_3 l Z a0 hw [] q2 (1 : Int32)  h0 n0 Z0 ) hZ (hw _ (List.mem_of_getElem? (i := 55) rfl)) (hw _ (List.mem_of_getElem? (i := 2) rfl)) (by decide) (by decide)) (g := (mkF m 39 #[.val (.ref q1), .val (.long q2), .second, .val (.int 7)] [(.int 1), (.long q2), (.int (own_F_method_3 q2 (1 : Int32)))])) rfl (by rw [hml]; rfl) (argsL := [(.long q2), (.int 1)]) (rest := [(.int (own_F_method_3 q2 (1 : Int32)))]) (lenOf pd__JI_B rfl) rfl (by show 2 * 0 + _ ≤ _; exact Nat.le_of_eq rfl) (hb hby d_method_6_39) (fun _ _ => ⟨rfl, e1, (by decide : 0 + 0 ≤ _), (by decide : 0 + 0 ≤ _)⟩)
  dsimp only [Pt.U, Pt.locs, Pt.cells, Pt.slots] at X2 l2 y2 z2 st2 hQ2
  subst l2 y2 z2
  obtain ⟨rfl, N2q, e2⟩ := hQ2
  have N2 := Fr.app N1 N2q
  refine own_of (fun t k => st2 t k) ?_
  show own_Go p e below KK T2 (mkF m 42 #[.val (.ref q1), .val (.long q2), .second, .val (.int 7)] [(.int (own_F_method_3 q2 (1 : Int32))), (.int (own_F_method_3 q2 (1 : Int32)))])
  have hc42 : (own_F_method_3 q2 (1 : Int32)) = (own_F_method_3 q2 (1 : Int32)) := rfl
  refine own_at (fun t k => XS.icmpYes X2.here hx rfl (pc0 := 42) (pc' := 47) rfl (hb hby d_method_6_42) rfl (Jvm.Free.XT.ii_eq_t hc42) (by decide) (by decide) k) ?_
  show own_Go p e below KK T2 (mkF m 47 #[.val (.ref q1), .val (.long q2), .second, .val (.int 7)] [])
  refine own_at (fun t k => XS.iloadN X2.here hx rfl (hb hby d_method_6_47) rfl k) ?_
  show own_Go p e below KK T2 (mkF m 48 #[.val (.ref q1), .val (.long q2), .second, .val (.int 7)] [(.int 7)])
  refine own_at (fun t k => XS.iconst X2.here hx rfl (hb hby d_method_6_48) k) ?_
  show own_Go p e below KK T2 (mkF m 49 #[.val (.ref q1), .val (.long q2), .second, .val (.int 7)] [(.int 2), (.int 7)])
  have hc49 : (2 : Int32) < (7 : Int32) := by decide
  refine own_at (fun t k => XS.icmpNo X2.here hx rfl (hb hby d_method_6_49) rfl (Jvm.Free.XT.ii_le_f hc49) k) ?_
  show own_Go p e below KK T2 (mkF m 52 #[.val (.ref q1), .val (.long q2), .second, .val (.int 7)] [])
  refine own_at (fun t k => XS.aloadN X2.here hx rfl (hb hby d_method_6_52) rfl rfl k) ?_
  show own_Go p e below KK T2 (mkF m 53 #[.val (.ref q1), .val (.long q2), .second, .val (.int 7)] [(.ref q1)])
  refine own_at (fun t k => XS.iconst X2.here hx rfl (hb hby d_method_6_53) k) ?_
  show own_Go p e below KK T2 (mkF m 54 #[.val (.ref q1), .val (.long q2), .second, .val (.int 7)] [(.int 2), (.ref q1)])
  refine own_at (fun t k => own_ldB X2 hx hZ e2 Aq (j := (2 : Int32)) (i := 2) (v := (.int (own_F_method_3 q2 (2 : Int32)))) (by decide) (by decide) rfl (g := (mkF m 54 #[.val (.ref q1), .val (.long q2), .second, .val (.int 7)] [(.int 2), (.ref q1)])) rfl rfl (hb hby d_method_6_54) t k) ?_
  show own_Go p e below KK T2 (mkF m 55 #[.val (.ref q1), .val (.long q2), .second, .val (.int 7)] [(.int (own_F_method_3 q2 (2 : Int32)))])
  refine own_at (fun t k => XS.lloadN X2.here hx rfl (hb hby d_method_6_55) rfl k) ?_
  show own_Go p e below KK T2 (mkF m 56 #[.val (.ref q1), .val (.long q2), .second, .val (.int 7)] [(.long q2), (.int (own_F_method_3 q2 (2 : Int32)))])
  refine own_at (fun t k => XS.iconst X2.here hx rfl (hb hby d_method_6_56) k) ?_
  show own_Go p e below KK T2 (mkF m 57 #[.val (.ref q1), .val (.long q2), .second, .val (.int 7)] [(.int 2), (.long q2), (.int (own_F_method_3 q2 (2 : Int32)))])
  obtain ⟨_, _, ⟨T3, L3, k3, n3⟩, -, X3, ⟨Lc3, hQ3, l3, y3, z3⟩, st3⟩ := Jvm.LawKit.callS X2 hx (y := (⟨"com/example/isimud/isimud/oscore/OscoreOptionOfRequestPinLaw", "b", "(JI)B"⟩ : MethodName)) hown (mvT hZ (hw _ (List.mem_of_getElem? (i := 53) rfl))) (mvT hZ (hw _ (List.mem_of_getElem? (i := 54) rfl))) (mvT hZ (hw _ (List.mem_of_getElem? (i := 2) rfl))) (mvT hZ (hw _ (List.mem_of_getElem? (i := 55) rfl))) (by decide) (backOf (W := 1) (rm_method_3 l Z a0 hw [] q2 (2 : Int32)  h0 n0 Z0 ) hZ (hw _ (List.mem_of_getElem? (i := 55) rfl)) (hw _ (List.mem_of_getElem? (i := 2) rfl)) (by decide) (by decide)) (g := (mkF m 57 #[.val (.ref q1), .val (.long q2), .second, .val (.int 7)] [(.int 2), (.long q2), (.int (own_F_method_3 q2 (2 : Int32)))])) rfl (by rw [hml]; rfl) (argsL := [(.long q2), (.int 2)]) (rest := [(.int (own_F_method_3 q2 (2 : Int32)))]) (lenOf pd__JI_B rfl) rfl (by show 2 * 0 + _ ≤ _; exact Nat.le_of_eq rfl) (hb hby d_method_6_57) (fun _ _ => ⟨rfl, e2, (by decide : 0 + 0 ≤ _), (by decide : 0 + 0 ≤ _)⟩)
  dsimp only [Pt.U, Pt.locs, Pt.cells, Pt.slots] at X3 l3 y3 z3 st3 hQ3
  subst l3 y3 z3
  obtain ⟨rfl, N3q, e3⟩ := hQ3
  have N3 := Fr.app N2 N3q
  refine own_of (fun t k => st3 t k) ?_
  show own_Go p e below KK T3 (mkF m 60 #[.val (.ref q1), .val (.long q2), .second, .val (.int 7)] [(.int (own_F_method_3 q2 (2 : Int32))), (.int (own_F_method_3 q2 (2 : Int32)))])
  have hc60 : (own_F_method_3 q2 (2 : Int32)) = (own_F_method_3 q2 (2 : Int32)) := rfl
  refine own_at (fun t k => XS.icmpYes X3.here hx rfl (pc0 := 60) (pc' := 65) rfl (hb hby d_method_6_60) rfl (Jvm.Free.XT.ii_eq_t hc60) (by decide) (by decide) k) ?_
  show own_Go p e below KK T3 (mkF m 65 #[.val (.ref q1), .val (.long q2), .second, .val (.int 7)] [])
  refine own_at (fun t k => XS.iloadN X3.here hx rfl (hb hby d_method_6_65) rfl k) ?_
  show own_Go p e below KK T3 (mkF m 66 #[.val (.ref q1), .val (.long q2), .second, .val (.int 7)] [(.int 7)])
  refine own_at (fun t k => XS.iconst X3.here hx rfl (hb hby d_method_6_66) k) ?_
  show own_Go p e below KK T3 (mkF m 67 #[.val (.ref q1), .val (.long q2), .second, .val (.int 7)] [(.int 3), (.int 7)])
  have hc67 : (3 : Int32) < (7 : Int32) := by decide
  refine own_at (fun t k => XS.icmpNo X3.here hx rfl (hb hby d_method_6_67) rfl (Jvm.Free.XT.ii_le_f hc67) k) ?_
  show own_Go p e below KK T3 (mkF m 70 #[.val (.ref q1), .val (.long q2), .second, .val (.int 7)] [])
  refine own_at (fun t k => XS.aloadN X3.here hx rfl (hb hby d_method_6_70) rfl rfl k) ?_
  show own_Go p e below KK T3 (mkF m 71 #[.val (.ref q1), .val (.long q2), .second, .val (.int 7)] [(.ref q1)])
  refine own_at (fun t k => XS.iconst X3.here hx rfl (hb hby d_method_6_71) k) ?_
  show own_Go p e below KK T3 (mkF m 72 #[.val (.ref q1), .val (.long q2), .second, .val (.int 7)] [(.int 3), (.ref q1)])
  refine own_at (fun t k => own_ldB X3 hx hZ e3 Aq (j := (3 : Int32)) (i := 3) (v := (.int (own_F_method_3 q2 (3 : Int32)))) (by decide) (by decide) rfl (g := (mkF m 72 #[.val (.ref q1), .val (.long q2), .second, .val (.int 7)] [(.int 3), (.ref q1)])) rfl rfl (hb hby d_method_6_72) t k) ?_
  show own_Go p e below KK T3 (mkF m 73 #[.val (.ref q1), .val (.long q2), .second, .val (.int 7)] [(.int (own_F_method_3 q2 (3 : Int32)))])
  refine own_at (fun t k => XS.lloadN X3.here hx rfl (hb hby d_method_6_73) rfl k) ?_
  show own_Go p e below KK T3 (mkF m 74 #[.val (.ref q1), .val (.long q2), .second, .val (.int 7)] [(.long q2), (.int (own_F_method_3 q2 (3 : Int32)))])
  refine own_at (fun t k => XS.iconst X3.here hx rfl (hb hby d_method_6_74) k) ?_
  show own_Go p e below KK T3 (mkF m 75 #[.val (.ref q1), .val (.long q2), .second, .val (.int 7)] [(.int 3), (.long q2), (.int (own_F_method_3 q2 (3 : Int32)))])
  obtain ⟨_, _, ⟨T4, L4, k4, n4⟩, -, X4, ⟨Lc4, hQ4, l4, y4, z4⟩, st4⟩ := Jvm.LawKit.callS X3 hx (y := (⟨"com/example/isimud/isimud/oscore/OscoreOptionOfRequestPinLaw", "b", "(JI)B"⟩ : MethodName)) hown (mvT hZ (hw _ (List.mem_of_getElem? (i := 53) rfl))) (mvT hZ (hw _ (List.mem_of_getElem? (i := 54) rfl))) (mvT hZ (hw _ (List.mem_of_getElem? (i := 2) rfl))) (mvT hZ (hw _ (List.mem_of_getElem? (i := 55) rfl))) (by decide) (backOf (W := 1) (rm_method_3 l Z a0 hw [] q2 (3 : Int32)  h0 n0 Z0 ) hZ (hw _ (List.mem_of_getElem? (i := 55) rfl)) (hw _ (List.mem_of_getElem? (i := 2) rfl)) (by decide) (by decide)) (g := (mkF m 75 #[.val (.ref q1), .val (.long q2), .second, .val (.int 7)] [(.int 3), (.long q2), (.int (own_F_method_3 q2 (3 : Int32)))])) rfl (by rw [hml]; rfl) (argsL := [(.long q2), (.int 3)]) (rest := [(.int (own_F_method_3 q2 (3 : Int32)))]) (lenOf pd__JI_B rfl) rfl (by show 2 * 0 + _ ≤ _; exact Nat.le_of_eq rfl) (hb hby d_method_6_75) (fun _ _ => ⟨rfl, e3, (by decide : 0 + 0 ≤ _), (by decide : 0 + 0 ≤ _)⟩)
  dsimp only [Pt.U, Pt.locs, Pt.cells, Pt.slots] at X4 l4 y4 z4 st4 hQ4
  subst l4 y4 z4
  obtain ⟨rfl, N4q, e4⟩ := hQ4
  have N4 := Fr.app N3 N4q
  refine own_of (fun t k => st4 t k) ?_
  show own_Go p e below KK T4 (mkF m 78 #[.val (.ref q1), .val (.long q2), .second, .val (.int 7)] [(.int (own_F_method_3 q2 (3 : Int32))), (.int (own_F_method_3 q2 (3 : Int32)))])
  have hc78 : (own_F_method_3 q2 (3 : Int32)) = (own_F_method_3 q2 (3 : Int32)) := rfl
  refine own_at (fun t k => XS.icmpYes X4.here hx rfl (pc0 := 78) (pc' := 83) rfl (hb hby d_method_6_78) rfl (Jvm.Free.XT.ii_eq_t hc78) (by decide) (by decide) k) ?_
  show own_Go p e below KK T4 (mkF m 83 #[.val (.ref q1), .val (.long q2), .second, .val (.int 7)] [])
  refine own_at (fun t k => XS.iloadN X4.here hx rfl (hb hby d_method_6_83) rfl k) ?_
  show own_Go p e below KK T4 (mkF m 84 #[.val (.ref q1), .val (.long q2), .second, .val (.int 7)] [(.int 7)])
  refine own_at (fun t k => XS.iconst X4.here hx rfl (hb hby d_method_6_84) k) ?_
  show own_Go p e below KK T4 (mkF m 85 #[.val (.ref q1), .val (.long q2), .second, .val (.int 7)] [(.int 4), (.int 7)])
  have hc85 : (4 : Int32) < (7 : Int32) := by decide
  refine own_at (fun t k => XS.icmpNo X4.here hx rfl (hb hby d_method_6_85) rfl (Jvm.Free.XT.ii_le_f hc85) k) ?_
  show own_Go p e below KK T4 (mkF m 88 #[.val (.ref q1), .val (.long q2), .second, .val (.int 7)] [])
  refine own_at (fun t k => XS.aloadN X4.here hx rfl (hb hby d_method_6_88) rfl rfl k) ?_
  show own_Go p e below KK T4 (mkF m 89 #[.val (.ref q1), .val (.long q2), .second, .val (.int 7)] [(.ref q1)])
  refine own_at (fun t k => XS.iconst X4.here hx rfl (hb hby d_method_6_89) k) ?_
  show own_Go p e below KK T4 (mkF m 90 #[.val (.ref q1), .val (.long q2), .second, .val (.int 7)] [(.int 4), (.ref q1)])
  refine own_at (fun t k => own_ldB X4 hx hZ e4 Aq (j := (4 : Int32)) (i := 4) (v := (.int (own_F_method_3 q2 (4 : Int32)))) (by decide) (by decide) rfl (g := (mkF m 90 #[.val (.ref q1), .val (.long q2), .second, .val (.int 7)] [(.int 4), (.ref q1)])) rfl rfl (hb hby d_method_6_90) t k) ?_
  show own_Go p e below KK T4 (mkF m 91 #[.val (.ref q1), .val (.long q2), .second, .val (.int 7)] [(.int (own_F_method_3 q2 (4 : Int32)))])
  refine own_at (fun t k => XS.lloadN X4.here hx rfl (hb hby d_method_6_91) rfl k) ?_
  show own_Go p e below KK T4 (mkF m 92 #[.val (.ref q1), .val (.long q2), .second, .val (.int 7)] [(.long q2), (.int (own_F_method_3 q2 (4 : Int32)))])
  refine own_at (fun t k => XS.iconst X4.here hx rfl (hb hby d_method_6_92) k) ?_
  show own_Go p e below KK T4 (mkF m 93 #[.val (.ref q1), .val (.long q2), .second, .val (.int 7)] [(.int 4), (.long q2), (.int (own_F_method_3 q2 (4 : Int32)))])
  obtain ⟨_, _, ⟨T5, L5, k5, n5⟩, -, X5, ⟨Lc5, hQ5, l5, y5, z5⟩, st5⟩ := Jvm.LawKit.callS X4 hx (y := (⟨"com/example/isimud/isimud/oscore/OscoreOptionOfRequestPinLaw", "b", "(JI)B"⟩ : MethodName)) hown (mvT hZ (hw _ (List.mem_of_getElem? (i := 53) rfl))) (mvT hZ (hw _ (List.mem_of_getElem? (i := 54) rfl))) (mvT hZ (hw _ (List.mem_of_getElem? (i := 2) rfl))) (mvT hZ (hw _ (List.mem_of_getElem? (i := 55) rfl))) (by decide) (backOf (W := 1) (rm_method_3 l Z a0 hw [] q2 (4 : Int32)  h0 n0 Z0 ) hZ (hw _ (List.mem_of_getElem? (i := 55) rfl)) (hw _ (List.mem_of_getElem? (i := 2) rfl)) (by decide) (by decide)) (g := (mkF m 93 #[.val (.ref q1), .val (.long q2), .second, .val (.int 7)] [(.int 4), (.long q2), (.int (own_F_method_3 q2 (4 : Int32)))])) rfl (by rw [hml]; rfl) (argsL := [(.long q2), (.int 4)]) (rest := [(.int (own_F_method_3 q2 (4 : Int32)))]) (lenOf pd__JI_B rfl) rfl (by show 2 * 0 + _ ≤ _; exact Nat.le_of_eq rfl) (hb hby d_method_6_93) (fun _ _ => ⟨rfl, e4, (by decide : 0 + 0 ≤ _), (by decide : 0 + 0 ≤ _)⟩)
  dsimp only [Pt.U, Pt.locs, Pt.cells, Pt.slots] at X5 l5 y5 z5 st5 hQ5
  subst l5 y5 z5
  obtain ⟨rfl, N5q, e5⟩ := hQ5
  have N5 := Fr.app N4 N5q
  refine own_of (fun t k => st5 t k) ?_
  show own_Go p e below KK T5 (mkF m 96 #[.val (.ref q1), .val (.long q2), .second, .val (.int 7)] [(.int (own_F_method_3 q2 (4 : Int32))), (.int (own_F_method_3 q2 (4 : Int32)))])
  have hc96 : (own_F_method_3 q2 (4 : Int32)) = (own_F_method_3 q2 (4 : Int32)) := rfl
  refine own_at (fun t k => XS.icmpYes X5.here hx rfl (pc0 := 96) (pc' := 101) rfl (hb hby d_method_6_96) rfl (Jvm.Free.XT.ii_eq_t hc96) (by decide) (by decide) k) ?_
  show own_Go p e below KK T5 (mkF m 101 #[.val (.ref q1), .val (.long q2), .second, .val (.int 7)] [])
  refine own_at (fun t k => XS.iloadN X5.here hx rfl (hb hby d_method_6_101) rfl k) ?_
  show own_Go p e below KK T5 (mkF m 102 #[.val (.ref q1), .val (.long q2), .second, .val (.int 7)] [(.int 7)])
  refine own_at (fun t k => XS.iconst X5.here hx rfl (hb hby d_method_6_102) k) ?_
  show own_Go p e below KK T5 (mkF m 103 #[.val (.ref q1), .val (.long q2), .second, .val (.int 7)] [(.int 5), (.int 7)])
  have hc103 : (5 : Int32) < (7 : Int32) := by decide
  refine own_at (fun t k => XS.icmpNo X5.here hx rfl (hb hby d_method_6_103) rfl (Jvm.Free.XT.ii_le_f hc103) k) ?_
  show own_Go p e below KK T5 (mkF m 106 #[.val (.ref q1), .val (.long q2), .second, .val (.int 7)] [])
  refine own_at (fun t k => XS.aloadN X5.here hx rfl (hb hby d_method_6_106) rfl rfl k) ?_
  show own_Go p e below KK T5 (mkF m 107 #[.val (.ref q1), .val (.long q2), .second, .val (.int 7)] [(.ref q1)])
  refine own_at (fun t k => XS.iconst X5.here hx rfl (hb hby d_method_6_107) k) ?_
  show own_Go p e below KK T5 (mkF m 108 #[.val (.ref q1), .val (.long q2), .second, .val (.int 7)] [(.int 5), (.ref q1)])
  refine own_at (fun t k => own_ldB X5 hx hZ e5 Aq (j := (5 : Int32)) (i := 5) (v := (.int (own_F_method_3 q2 (5 : Int32)))) (by decide) (by decide) rfl (g := (mkF m 108 #[.val (.ref q1), .val (.long q2), .second, .val (.int 7)] [(.int 5), (.ref q1)])) rfl rfl (hb hby d_method_6_108) t k) ?_
  show own_Go p e below KK T5 (mkF m 109 #[.val (.ref q1), .val (.long q2), .second, .val (.int 7)] [(.int (own_F_method_3 q2 (5 : Int32)))])
  refine own_at (fun t k => XS.lloadN X5.here hx rfl (hb hby d_method_6_109) rfl k) ?_
  show own_Go p e below KK T5 (mkF m 110 #[.val (.ref q1), .val (.long q2), .second, .val (.int 7)] [(.long q2), (.int (own_F_method_3 q2 (5 : Int32)))])
  refine own_at (fun t k => XS.iconst X5.here hx rfl (hb hby d_method_6_110) k) ?_
  show own_Go p e below KK T5 (mkF m 111 #[.val (.ref q1), .val (.long q2), .second, .val (.int 7)] [(.int 5), (.long q2), (.int (own_F_method_3 q2 (5 : Int32)))])
  obtain ⟨_, _, ⟨T6, L6, k6, n6⟩, -, X6, ⟨Lc6, hQ6, l6, y6, z6⟩, st6⟩ := Jvm.LawKit.callS X5 hx (y := (⟨"com/example/isimud/isimud/oscore/OscoreOptionOfRequestPinLaw", "b", "(JI)B"⟩ : MethodName)) hown (mvT hZ (hw _ (List.mem_of_getElem? (i := 53) rfl))) (mvT hZ (hw _ (List.mem_of_getElem? (i := 54) rfl))) (mvT hZ (hw _ (List.mem_of_getElem? (i := 2) rfl))) (mvT hZ (hw _ (List.mem_of_getElem? (i := 55) rfl))) (by decide) (backOf (W := 1) (rm_method_3 l Z a0 hw [] q2 (5 : Int32)  h0 n0 Z0 ) hZ (hw _ (List.mem_of_getElem? (i := 55) rfl)) (hw _ (List.mem_of_getElem? (i := 2) rfl)) (by decide) (by decide)) (g := (mkF m 111 #[.val (.ref q1), .val (.long q2), .second, .val (.int 7)] [(.int 5), (.long q2), (.int (own_F_method_3 q2 (5 : Int32)))])) rfl (by rw [hml]; rfl) (argsL := [(.long q2), (.int 5)]) (rest := [(.int (own_F_method_3 q2 (5 : Int32)))]) (lenOf pd__JI_B rfl) rfl (by show 2 * 0 + _ ≤ _; exact Nat.le_of_eq rfl) (hb hby d_method_6_111) (fun _ _ => ⟨rfl, e5, (by decide : 0 + 0 ≤ _), (by decide : 0 + 0 ≤ _)⟩)
  dsimp only [Pt.U, Pt.locs, Pt.cells, Pt.slots] at X6 l6 y6 z6 st6 hQ6
  subst l6 y6 z6
  obtain ⟨rfl, N6q, e6⟩ := hQ6
  have N6 := Fr.app N5 N6q
  refine own_of (fun t k => st6 t k) ?_
  show own_Go p e below KK T6 (mkF m 114 #[.val (.ref q1), .val (.long q2), .second, .val (.int 7)] [(.int (own_F_method_3 q2 (5 : Int32))), (.int (own_F_method_3 q2 (5 : Int32)))])
  have hc114 : (own_F_method_3 q2 (5 : Int32)) = (own_F_method_3 q2 (5 : Int32)) := rfl
  refine own_at (fun t k => XS.icmpYes X6.here hx rfl (pc0 := 114) (pc' := 119) rfl (hb hby d_method_6_114) rfl (Jvm.Free.XT.ii_eq_t hc114) (by decide) (by decide) k) ?_
  show own_Go p e below KK T6 (mkF m 119 #[.val (.ref q1), .val (.long q2), .second, .val (.int 7)] [])
  refine own_at (fun t k => XS.iloadN X6.here hx rfl (hb hby d_method_6_119) rfl k) ?_
  show own_Go p e below KK T6 (mkF m 120 #[.val (.ref q1), .val (.long q2), .second, .val (.int 7)] [(.int 7)])
  refine own_at (fun t k => XS.bipush X6.here hx rfl (hb hby d_method_6_120) k) ?_
  show own_Go p e below KK T6 (mkF m 122 #[.val (.ref q1), .val (.long q2), .second, .val (.int 7)] [(.int 6), (.int 7)])
  have hc122 : (6 : Int32) < (7 : Int32) := by decide
  refine own_at (fun t k => XS.icmpNo X6.here hx rfl (hb hby d_method_6_122) rfl (Jvm.Free.XT.ii_le_f hc122) k) ?_
  show own_Go p e below KK T6 (mkF m 125 #[.val (.ref q1), .val (.long q2), .second, .val (.int 7)] [])
  refine own_at (fun t k => XS.aloadN X6.here hx rfl (hb hby d_method_6_125) rfl rfl k) ?_
  show own_Go p e below KK T6 (mkF m 126 #[.val (.ref q1), .val (.long q2), .second, .val (.int 7)] [(.ref q1)])
  refine own_at (fun t k => XS.bipush X6.here hx rfl (hb hby d_method_6_126) k) ?_
  show own_Go p e below KK T6 (mkF m 128 #[.val (.ref q1), .val (.long q2), .second, .val (.int 7)] [(.int 6), (.ref q1)])
  refine own_at (fun t k => own_ldB X6 hx hZ e6 Aq (j := (6 : Int32)) (i := 6) (v := (.int (own_F_method_3 q2 (6 : Int32)))) (by decide) (by decide) rfl (g := (mkF m 128 #[.val (.ref q1), .val (.long q2), .second, .val (.int 7)] [(.int 6), (.ref q1)])) rfl rfl (hb hby d_method_6_128) t k) ?_
  show own_Go p e below KK T6 (mkF m 129 #[.val (.ref q1), .val (.long q2), .second, .val (.int 7)] [(.int (own_F_method_3 q2 (6 : Int32)))])
  refine own_at (fun t k => XS.lloadN X6.here hx rfl (hb hby d_method_6_129) rfl k) ?_
  show own_Go p e below KK T6 (mkF m 130 #[.val (.ref q1), .val (.long q2), .second, .val (.int 7)] [(.long q2), (.int (own_F_method_3 q2 (6 : Int32)))])
  refine own_at (fun t k => XS.bipush X6.here hx rfl (hb hby d_method_6_130) k) ?_
  show own_Go p e below KK T6 (mkF m 132 #[.val (.ref q1), .val (.long q2), .second, .val (.int 7)] [(.int 6), (.long q2), (.int (own_F_method_3 q2 (6 : Int32)))])
  obtain ⟨_, _, ⟨T7, L7, k7, n7⟩, -, X7, ⟨Lc7, hQ7, l7, y7, z7⟩, st7⟩ := Jvm.LawKit.callS X6 hx (y := (⟨"com/example/isimud/isimud/oscore/OscoreOptionOfRequestPinLaw", "b", "(JI)B"⟩ : MethodName)) hown (mvT hZ (hw _ (List.mem_of_getElem? (i := 53) rfl))) (mvT hZ (hw _ (List.mem_of_getElem? (i := 54) rfl))) (mvT hZ (hw _ (List.mem_of_getElem? (i := 2) rfl))) (mvT hZ (hw _ (List.mem_of_getElem? (i := 55) rfl))) (by decide) (backOf (W := 1) (rm_method_3 l Z a0 hw [] q2 (6 : Int32)  h0 n0 Z0 ) hZ (hw _ (List.mem_of_getElem? (i := 55) rfl)) (hw _ (List.mem_of_getElem? (i := 2) rfl)) (by decide) (by decide)) (g := (mkF m 132 #[.val (.ref q1), .val (.long q2), .second, .val (.int 7)] [(.int 6), (.long q2), (.int (own_F_method_3 q2 (6 : Int32)))])) rfl (by rw [hml]; rfl) (argsL := [(.long q2), (.int 6)]) (rest := [(.int (own_F_method_3 q2 (6 : Int32)))]) (lenOf pd__JI_B rfl) rfl (by show 2 * 0 + _ ≤ _; exact Nat.le_of_eq rfl) (hb hby d_method_6_132) (fun _ _ => ⟨rfl, e6, (by decide : 0 + 0 ≤ _), (by decide : 0 + 0 ≤ _)⟩)
  dsimp only [Pt.U, Pt.locs, Pt.cells, Pt.slots] at X7 l7 y7 z7 st7 hQ7
  subst l7 y7 z7
  obtain ⟨rfl, N7q, e7⟩ := hQ7
  have N7 := Fr.app N6 N7q
  refine own_of (fun t k => st7 t k) ?_
  show own_Go p e below KK T7 (mkF m 135 #[.val (.ref q1), .val (.long q2), .second, .val (.int 7)] [(.int (own_F_method_3 q2 (6 : Int32))), (.int (own_F_method_3 q2 (6 : Int32)))])
  have hc135 : (own_F_method_3 q2 (6 : Int32)) = (own_F_method_3 q2 (6 : Int32)) := rfl
  refine own_at (fun t k => XS.icmpYes X7.here hx rfl (pc0 := 135) (pc' := 140) rfl (hb hby d_method_6_135) rfl (Jvm.Free.XT.ii_eq_t hc135) (by decide) (by decide) k) ?_
  show own_Go p e below KK T7 (mkF m 140 #[.val (.ref q1), .val (.long q2), .second, .val (.int 7)] [])
  refine own_at (fun t k => XS.iconst X7.here hx rfl (hb hby d_method_6_140) k) ?_
  show own_Go p e below KK T7 (mkF m 141 #[.val (.ref q1), .val (.long q2), .second, .val (.int 7)] [(.int 1)])
  subst hKK
  exact own_retN X7 hx hlk (t := .boolean) Bd.returns (by simp) (hb hby d_method_6_141) (w := (1 : Int32)) (show nar .boolean (1 : Int32) = 1 from by decide) ⟨rfl, N7, e7⟩ (Nat.le_of_ble_eq_true rfl) (Nat.le_of_ble_eq_true rfl)
theorem rm_same (l : Launch) (Z : State) (a0 : Array Value) (hw : ∀ d ∈ tables_1, d.before a0 Z = true) (ws : List Jvm.Cond) (q1 : Addr) (q2 : Int64) (n : Nat) (h0 : Heap) (n0 : Nat) (Z0 : n0 ≤ h0.size) (hn : n ≤ 7) (Aq : own_A Z h0 q1 "[B" .byte (own_vals q2 n)) :
    MetFree l (⟨"com/example/isimud/isimud/oscore/OscoreOptionOfRequestPinLaw", "same", "([BJI)Z"⟩ : MethodName) (head1 (Jvm.Cond.code (⟨"com/example/isimud/isimud/oscore/OscoreOptionOfRequestPinLaw", "same", "([BJI)Z"⟩ : MethodName) method_6_code 4 (some .boolean) :: ws) ({ frames := 1, cells := 0, slots := 0, locals := 15 } : Room)) (fun a U => a = #[(.ref q1), (.long q2), (.int (Int32.ofNat n))] ∧ Z.Warmed39 U.vm ∧ U.heap = h0) (fun _ _ _ _ _ => True) (fun _ U o U' => ∃ v L, o = .returned v ∧ own_P (.int 1) h0 n0 v U'.heap L ∧ FrameEnd U o U' L ({ frames := 1, cells := 0, slots := 0, locals := 15 } : Room).cells ({ frames := 1, cells := 0, slots := 0, locals := 15 } : Room).slots) := by
  match n, hn with
  | 0, _ => exact rm_same0 l Z a0 hw ws q1 q2 h0 n0 Z0 Aq
  | 1, _ => exact rm_same1 l Z a0 hw ws q1 q2 h0 n0 Z0 Aq
  | 2, _ => exact rm_same2 l Z a0 hw ws q1 q2 h0 n0 Z0 Aq
  | 3, _ => exact rm_same3 l Z a0 hw ws q1 q2 h0 n0 Z0 Aq
  | 4, _ => exact rm_same4 l Z a0 hw ws q1 q2 h0 n0 Z0 Aq
  | 5, _ => exact rm_same5 l Z a0 hw ws q1 q2 h0 n0 Z0 Aq
  | 6, _ => exact rm_same6 l Z a0 hw ws q1 q2 h0 n0 Z0 Aq
  | 7, _ => exact rm_same7 l Z a0 hw ws q1 q2 h0 n0 Z0 Aq
  | n + 8, h => exact absurd h (by omega)
theorem own_n7 {x z : Int32} (h : z = (x &&& (7 : Int32))) : ∃ n : Nat, n ≤ 7 ∧ z = Int32.ofNat n := by
  have h1 := c_and x 7 (by decide)
  rw [← h, show (7 : Int32).toInt = 7 from rfl] at h1
  refine ⟨z.toInt.toNat, by omega, ?_⟩
  apply Int32.toInt_inj.mp
  rw [Int32.toInt_ofNat_of_lt (by omega)]; omega
theorem ef_law (m : MethodId) (x0 : Int32) (x1 : Int64) (x2 : Int64) : entryFrame m #[(.int x0), (.long x1), (.long x2)] maxLocals = mkF m 0 #[.val (.int x0), .val (.long x1), .second, .val (.long x2), .second, .unset, .unset, .unset, .unset, .unset, .unset, .unset, .unset] [] := by first | (simp [entryFrame, mkF, argsToLocals, Value.category, maxLocals]; done) | rfl
theorem pd__JI__B : parseMethodDescriptor "(JI)[B" = some ⟨[.long, .int], some (.array .byte)⟩ := by decide +kernel
theorem pd___B_B_Lcom_example_isimud_isimud_oscore_OscoreOption_ : parseMethodDescriptor "([B[B)Lcom/example/isimud/isimud/oscore/OscoreOption;" = some ⟨[(.array .byte), (.array .byte)], some (.object "com/example/isimud/isimud/oscore/OscoreOption")⟩ := by decide +kernel
theorem pd___B_V : parseMethodDescriptor "([B)V" = some ⟨[(.array .byte)], none⟩ := by decide +kernel
theorem pd____B : parseMethodDescriptor "()[B" = some ⟨[], some (.array .byte)⟩ := by decide +kernel
theorem pd___BJI_Z : parseMethodDescriptor "([BJI)Z" = some ⟨[(.array .byte), .long, .int], some .boolean⟩ := by decide +kernel
def own_Q (n0 : Nat) (v : Option Value) (h : Heap) (L : List Loc) : Prop := v = some (.int 1) ∧ Fr n0 L
set_option maxRecDepth 65536 in
set_option maxHeartbeats 40000000 in
theorem rm_law (l : Launch) (Z : State) (a0 : Array Value) (hw : ∀ d ∈ tables_1, d.before a0 Z = true) (ws : List Jvm.Cond) (p1 : Int32) (p2 : Int64) (p3 : Int64)  (h0 : Heap) (n0 : Nat) (Z0 : n0 ≤ h0.size)  :
    MetFree l x (head1 (Jvm.Cond.code x code maxLocals ret :: ws) room_1) (fun a U => a = #[(.int p1), (.long p2), (.long p3)] ∧ Z.Warmed39 U.vm ∧ U.heap = h0) (fun _ _ _ _ _ => True) (fun _ U o U' => ∃ v L, o = .returned v ∧ own_Q n0 v U'.heap L ∧ FrameEnd U o U' L room_1.cells room_1.slots) := by
  refine MetFree.of_bodySF (plainFor_of_name pn_com_example_isimud_isimud_oscore_OscoreOptionOfRequestPinLaw) hisR ?_
  intro p e s m args below meth c s₁ Bd hml0 hP hK
  obtain ⟨rfl, hZ, hh⟩ := hP
  have hx := Bd.exec
  have hby := Bd.bytes
  have hlk : meth.locks = false := BodyLoose.notSynchronized Bd
  have hml : c.maxLocals = 13 := hml0
  have hown : s.vm.findClass "com/example/isimud/isimud/oscore/OscoreOptionOfRequestPinLaw" = some m.cls := findClass_of_methodNamed Bd.named
  have hnm := (name_of_methodNamed Bd.named Bd.method).1
  have X0 : Stand p l e room_1 s m #[(.int p1), (.long p2), (.long p3)] below meth c s₁ [] 0 0 := Stand.of_body Bd
  have e0 : s₁.heap = h0 := by rw [← hh, Bd.state]; rfl
  have N0 := Fr.nil n0
  refine own_cast (K := own_K s (own_Q n0) room_1.cells room_1.slots) (ef_law m p1 p2 p3) ?_
  generalize hKK : own_K s (own_Q n0) room_1.cells room_1.slots = KK
  show own_Go p e below KK s₁ (mkF m 0 #[.val (.int p1), .val (.long p2), .second, .val (.long p3), .second, .unset, .unset, .unset, .unset, .unset, .unset, .unset, .unset] [])
  refine own_at (fun t k => XS.iloadN X0.here hx rfl (hb hby at_0) rfl k) ?_
  show own_Go p e below KK s₁ (mkF m 1 #[.val (.int p1), .val (.long p2), .second, .val (.long p3), .second, .unset, .unset, .unset, .unset, .unset, .unset, .unset, .unset] [(.int p1)])
  refine own_at (fun t k => XS.bipush X0.here hx rfl (hb hby at_1) k) ?_
  show own_Go p e below KK s₁ (mkF m 3 #[.val (.int p1), .val (.long p2), .second, .val (.long p3), .second, .unset, .unset, .unset, .unset, .unset, .unset, .unset, .unset] [(.int 7), (.int p1)])
  refine own_at (fun t k => XS.iand X0.here hx rfl (hb hby at_3) rfl k) ?_
  show own_Go p e below KK s₁ (mkF m 4 #[.val (.int p1), .val (.long p2), .second, .val (.long p3), .second, .unset, .unset, .unset, .unset, .unset, .unset, .unset, .unset] [(.int (p1 &&& (7 : Int32)))])
  obtain ⟨pn, hpn⟩ : ∃ z, z = (p1 &&& (7 : Int32)) := ⟨_, rfl⟩
  rw [← hpn]
  show own_Go p e below KK s₁ (mkF m 4 #[.val (.int p1), .val (.long p2), .second, .val (.long p3), .second, .unset, .unset, .unset, .unset, .unset, .unset, .unset, .unset] [(.int pn)])
  obtain ⟨m1, hm1, em1⟩ := own_n7 hpn
  subst em1
  show own_Go p e below KK s₁ (mkF m 4 #[.val (.int p1), .val (.long p2), .second, .val (.long p3), .second, .unset, .unset, .unset, .unset, .unset, .unset, .unset, .unset] [(.int (Int32.ofNat m1))])
  refine own_at (fun t k => XS.istore X0.here hx rfl (hb hby at_4) rfl (l' := #[.val (.int p1), .val (.long p2), .second, .val (.long p3), .second, .val (.int (Int32.ofNat m1)), .unset, .unset, .unset, .unset, .unset, .unset, .unset]) rfl k) ?_
  show own_Go p e below KK s₁ (mkF m 6 #[.val (.int p1), .val (.long p2), .second, .val (.long p3), .second, .val (.int (Int32.ofNat m1)), .unset, .unset, .unset, .unset, .unset, .unset, .unset] [])
  refine own_at (fun t k => XS.iloadN X0.here hx rfl (hb hby at_6) rfl k) ?_
  show own_Go p e below KK s₁ (mkF m 7 #[.val (.int p1), .val (.long p2), .second, .val (.long p3), .second, .val (.int (Int32.ofNat m1)), .unset, .unset, .unset, .unset, .unset, .unset, .unset] [(.int p1)])
  refine own_at (fun t k => XS.iconst X0.here hx rfl (hb hby at_7) k) ?_
  show own_Go p e below KK s₁ (mkF m 8 #[.val (.int p1), .val (.long p2), .second, .val (.long p3), .second, .val (.int (Int32.ofNat m1)), .unset, .unset, .unset, .unset, .unset, .unset, .unset] [(.int 3), (.int p1)])
  refine own_at (fun t k => XS.iushr X0.here hx rfl (hb hby at_8) rfl k) ?_
  show own_Go p e below KK s₁ (mkF m 9 #[.val (.int p1), .val (.long p2), .second, .val (.long p3), .second, .val (.int (Int32.ofNat m1)), .unset, .unset, .unset, .unset, .unset, .unset, .unset] [(.int ((p1.toUInt32 >>> ((3 : Int32) &&& 31).toUInt32).toInt32))])
  refine own_at (fun t k => XS.bipush X0.here hx rfl (hb hby at_9) k) ?_
  show own_Go p e below KK s₁ (mkF m 11 #[.val (.int p1), .val (.long p2), .second, .val (.long p3), .second, .val (.int (Int32.ofNat m1)), .unset, .unset, .unset, .unset, .unset, .unset, .unset] [(.int 7), (.int ((p1.toUInt32 >>> ((3 : Int32) &&& 31).toUInt32).toInt32))])
  refine own_at (fun t k => XS.iand X0.here hx rfl (hb hby at_11) rfl k) ?_
  show own_Go p e below KK s₁ (mkF m 12 #[.val (.int p1), .val (.long p2), .second, .val (.long p3), .second, .val (.int (Int32.ofNat m1)), .unset, .unset, .unset, .unset, .unset, .unset, .unset] [(.int (((p1.toUInt32 >>> ((3 : Int32) &&& 31).toUInt32).toInt32) &&& (7 : Int32)))])
  obtain ⟨kn, hkn⟩ : ∃ z, z = (((p1.toUInt32 >>> ((3 : Int32) &&& 31).toUInt32).toInt32) &&& (7 : Int32)) := ⟨_, rfl⟩
  rw [← hkn]
  show own_Go p e below KK s₁ (mkF m 12 #[.val (.int p1), .val (.long p2), .second, .val (.long p3), .second, .val (.int (Int32.ofNat m1)), .unset, .unset, .unset, .unset, .unset, .unset, .unset] [(.int kn)])
  obtain ⟨m2, hm2, em2⟩ := own_n7 hkn
  subst em2
  show own_Go p e below KK s₁ (mkF m 12 #[.val (.int p1), .val (.long p2), .second, .val (.long p3), .second, .val (.int (Int32.ofNat m1)), .unset, .unset, .unset, .unset, .unset, .unset, .unset] [(.int (Int32.ofNat m2))])
  refine own_at (fun t k => XS.istore X0.here hx rfl (hb hby at_12) rfl (l' := #[.val (.int p1), .val (.long p2), .second, .val (.long p3), .second, .val (.int (Int32.ofNat m1)), .val (.int (Int32.ofNat m2)), .unset, .unset, .unset, .unset, .unset, .unset]) rfl k) ?_
  show own_Go p e below KK s₁ (mkF m 14 #[.val (.int p1), .val (.long p2), .second, .val (.long p3), .second, .val (.int (Int32.ofNat m1)), .val (.int (Int32.ofNat m2)), .unset, .unset, .unset, .unset, .unset, .unset] [])
  refine own_at (fun t k => XS.lloadN X0.here hx rfl (hb hby at_14) rfl k) ?_
  show own_Go p e below KK s₁ (mkF m 15 #[.val (.int p1), .val (.long p2), .second, .val (.long p3), .second, .val (.int (Int32.ofNat m1)), .val (.int (Int32.ofNat m2)), .unset, .unset, .unset, .unset, .unset, .unset] [(.long p2)])
  refine own_at (fun t k => XS.iload X0.here hx rfl (hb hby at_15) rfl k) ?_
  show own_Go p e below KK s₁ (mkF m 17 #[.val (.int p1), .val (.long p2), .second, .val (.long p3), .second, .val (.int (Int32.ofNat m1)), .val (.int (Int32.ofNat m2)), .unset, .unset, .unset, .unset, .unset, .unset] [(.int (Int32.ofNat m1)), (.long p2)])
  obtain ⟨_, _, ⟨T1, L1, k1, n1⟩, -, X1, ⟨Lc1, hQ1, l1, y1, z1⟩, st1⟩ := Jvm.LawKit.callS X0 hx (y := (⟨"com/example/isimud/isimud/oscore/OscoreOptionOfRequestPinLaw", "make", "(JI)[B"⟩ : MethodName)) hown (mvT hZ (hw _ (List.mem_of_getElem? (i := 0) rfl))) (mvT hZ (hw _ (List.mem_of_getElem? (i := 1) rfl))) (mvT hZ (hw _ (List.mem_of_getElem? (i := 2) rfl))) (mvT hZ (hw _ (List.mem_of_getElem? (i := 3) rfl))) (by decide) (backOf (W := 0) (rm_make l Z a0 hw [] p2 m1 h0 n0 Z0 hm1) hZ (hw _ (List.mem_of_getElem? (i := 3) rfl)) (hw _ (List.mem_of_getElem? (i := 2) rfl)) (by decide) (by decide)) (g := (mkF m 17 #[.val (.int p1), .val (.long p2), .second, .val (.long p3), .second, .val (.int (Int32.ofNat m1)), .val (.int (Int32.ofNat m2)), .unset, .unset, .unset, .unset, .unset, .unset] [(.int (Int32.ofNat m1)), (.long p2)])) rfl (by rw [hml]; rfl) (argsL := [(.long p2), (.int (Int32.ofNat m1))]) (rest := []) (lenOf pd__JI__B rfl) rfl (by show 2 * 0 + _ ≤ _; exact Nat.le_of_eq rfl) (hb hby at_17) (fun _ _ => ⟨rfl, e0, (by decide : 0 + 1 ≤ _), (by decide : 0 + 7 ≤ _)⟩)
  dsimp only [Pt.U, Pt.locs, Pt.cells, Pt.slots] at X1 l1 y1 z1 st1 hQ1
  subst l1 y1 z1
  obtain ⟨r1, rfl, N1q, K1, g_r1, s_r1, Aq1⟩ := hQ1
  have Zs1 : n0 ≤ T1.heap.size := Nat.le_trans Z0 K1.1
  have A2_r1 : own_A Z T1.heap r1 "[B" .byte (own_vals p2 m1) := Aq1
  have N1 := Fr.app N0 N1q
  refine own_of (fun t k => st1 t k) ?_
  show own_Go p e below KK T1 (mkF m 20 #[.val (.int p1), .val (.long p2), .second, .val (.long p3), .second, .val (.int (Int32.ofNat m1)), .val (.int (Int32.ofNat m2)), .unset, .unset, .unset, .unset, .unset, .unset] [(.ref r1)])
  refine own_at (fun t k => XS.astore X1.here hx rfl (hb hby at_20) rfl rfl (l' := #[.val (.int p1), .val (.long p2), .second, .val (.long p3), .second, .val (.int (Int32.ofNat m1)), .val (.int (Int32.ofNat m2)), .val (.ref r1), .unset, .unset, .unset, .unset, .unset]) rfl k) ?_
  show own_Go p e below KK T1 (mkF m 22 #[.val (.int p1), .val (.long p2), .second, .val (.long p3), .second, .val (.int (Int32.ofNat m1)), .val (.int (Int32.ofNat m2)), .val (.ref r1), .unset, .unset, .unset, .unset, .unset] [])
  refine own_at (fun t k => XS.lloadN X1.here hx rfl (hb hby at_22) rfl k) ?_
  show own_Go p e below KK T1 (mkF m 23 #[.val (.int p1), .val (.long p2), .second, .val (.long p3), .second, .val (.int (Int32.ofNat m1)), .val (.int (Int32.ofNat m2)), .val (.ref r1), .unset, .unset, .unset, .unset, .unset] [(.long p3)])
  refine own_at (fun t k => XS.iload X1.here hx rfl (hb hby at_23) rfl k) ?_
  show own_Go p e below KK T1 (mkF m 25 #[.val (.int p1), .val (.long p2), .second, .val (.long p3), .second, .val (.int (Int32.ofNat m1)), .val (.int (Int32.ofNat m2)), .val (.ref r1), .unset, .unset, .unset, .unset, .unset] [(.int (Int32.ofNat m2)), (.long p3)])
  obtain ⟨_, _, ⟨T3, L3, k3, n3⟩, -, X3, ⟨Lc3, hQ3, l3, y3, z3⟩, st3⟩ := Jvm.LawKit.callS X1 hx (y := (⟨"com/example/isimud/isimud/oscore/OscoreOptionOfRequestPinLaw", "make", "(JI)[B"⟩ : MethodName)) hown (mvT hZ (hw _ (List.mem_of_getElem? (i := 0) rfl))) (mvT hZ (hw _ (List.mem_of_getElem? (i := 1) rfl))) (mvT hZ (hw _ (List.mem_of_getElem? (i := 2) rfl))) (mvT hZ (hw _ (List.mem_of_getElem? (i := 3) rfl))) (by decide) (backOf (W := 0) (rm_make l Z a0 hw [] p3 m2 T1.heap n0 Zs1 hm2) hZ (hw _ (List.mem_of_getElem? (i := 3) rfl)) (hw _ (List.mem_of_getElem? (i := 2) rfl)) (by decide) (by decide)) (g := (mkF m 25 #[.val (.int p1), .val (.long p2), .second, .val (.long p3), .second, .val (.int (Int32.ofNat m1)), .val (.int (Int32.ofNat m2)), .val (.ref r1), .unset, .unset, .unset, .unset, .unset] [(.int (Int32.ofNat m2)), (.long p3)])) rfl (by rw [hml]; rfl) (argsL := [(.long p3), (.int (Int32.ofNat m2))]) (rest := []) (lenOf pd__JI__B rfl) rfl (by show 2 * 0 + _ ≤ _; exact Nat.le_of_eq rfl) (hb hby at_25) (fun _ _ => ⟨rfl, rfl, (by decide : 1 + 1 ≤ _), (by decide : 7 + 7 ≤ _)⟩)
  dsimp only [Pt.U, Pt.locs, Pt.cells, Pt.slots] at X3 l3 y3 z3 st3 hQ3
  subst l3 y3 z3
  obtain ⟨r3, rfl, N3q, K3, g_r3, s_r3, Aq3⟩ := hQ3
  have ne_r1_r3 : r1 ≠ r3 := Nat.ne_of_lt (Nat.lt_of_lt_of_le A2_r1.lt s_r3)
  have A2_r1_h3 : own_A Z T3.heap r1 "[B" .byte (own_vals p2 m1) := A2_r1.keep K3 nin0
  have Zs3 : n0 ≤ T3.heap.size := Nat.le_trans Zs1 K3.1
  have A4_r3 : own_A Z T3.heap r3 "[B" .byte (own_vals p3 m2) := Aq3
  have N3 := Fr.app N1 N3q
  refine own_of (fun t k => st3 t k) ?_
  show own_Go p e below KK T3 (mkF m 28 #[.val (.int p1), .val (.long p2), .second, .val (.long p3), .second, .val (.int (Int32.ofNat m1)), .val (.int (Int32.ofNat m2)), .val (.ref r1), .unset, .unset, .unset, .unset, .unset] [(.ref r3)])
  refine own_at (fun t k => XS.astore X3.here hx rfl (hb hby at_28) rfl rfl (l' := #[.val (.int p1), .val (.long p2), .second, .val (.long p3), .second, .val (.int (Int32.ofNat m1)), .val (.int (Int32.ofNat m2)), .val (.ref r1), .val (.ref r3), .unset, .unset, .unset, .unset]) rfl k) ?_
  show own_Go p e below KK T3 (mkF m 30 #[.val (.int p1), .val (.long p2), .second, .val (.long p3), .second, .val (.int (Int32.ofNat m1)), .val (.int (Int32.ofNat m2)), .val (.ref r1), .val (.ref r3), .unset, .unset, .unset, .unset] [])
  refine own_at (fun t k => XS.aload X3.here hx rfl (hb hby at_30) rfl rfl k) ?_
  show own_Go p e below KK T3 (mkF m 32 #[.val (.int p1), .val (.long p2), .second, .val (.long p3), .second, .val (.int (Int32.ofNat m1)), .val (.int (Int32.ofNat m2)), .val (.ref r1), .val (.ref r3), .unset, .unset, .unset, .unset] [(.ref r1)])
  refine own_at (fun t k => XS.aload X3.here hx rfl (hb hby at_32) rfl rfl k) ?_
  show own_Go p e below KK T3 (mkF m 34 #[.val (.int p1), .val (.long p2), .second, .val (.long p3), .second, .val (.int (Int32.ofNat m1)), .val (.int (Int32.ofNat m2)), .val (.ref r1), .val (.ref r3), .unset, .unset, .unset, .unset] [(.ref r3), (.ref r1)])
  obtain ⟨_, _, ⟨T5, L5, k5, n5⟩, -, X5, ⟨Lc5, hQ5, l5, y5, z5⟩, st5⟩ := Jvm.LawKit.callS X3 hx (y := (⟨"com/example/isimud/isimud/oscore/OscoreOption", "ofRequest", "([B[B)Lcom/example/isimud/isimud/oscore/OscoreOption;"⟩ : MethodName)) hown (mvT hZ (hw _ (List.mem_of_getElem? (i := 5) rfl))) (mvT hZ (hw _ (List.mem_of_getElem? (i := 6) rfl))) (mvT hZ (hw _ (List.mem_of_getElem? (i := 7) rfl))) (mvT hZ (hw _ (List.mem_of_getElem? (i := 8) rfl))) (by decide) (backOf (W := 0) (rm_of l Z a0 hw [] r1 r3 (own_vals p2 m1) (own_vals p3 m2) T3.heap n0 Zs3 A2_r1_h3 A4_r3 (by rw [own_vlen]; exact hm1) (by rw [own_vlen]; exact hm2)) hZ (hw _ (List.mem_of_getElem? (i := 8) rfl)) (hw _ (List.mem_of_getElem? (i := 7) rfl)) (by decide) (by decide)) (g := (mkF m 34 #[.val (.int p1), .val (.long p2), .second, .val (.long p3), .second, .val (.int (Int32.ofNat m1)), .val (.int (Int32.ofNat m2)), .val (.ref r1), .val (.ref r3), .unset, .unset, .unset, .unset] [(.ref r3), (.ref r1)])) rfl (by rw [hml]; rfl) (argsL := [(.ref r1), (.ref r3)]) (rest := []) (lenOf pd___B_B_Lcom_example_isimud_isimud_oscore_OscoreOption_ rfl) rfl (by show 2 * 0 + _ ≤ _; exact Nat.le_of_eq rfl) (hb hby at_34) (fun _ _ => ⟨rfl, rfl, (by decide : 2 + 3 ≤ _), (by decide : 14 + 17 ≤ _)⟩)
  dsimp only [Pt.U, Pt.locs, Pt.cells, Pt.slots] at X5 l5 y5 z5 st5 hQ5
  subst l5 y5 z5
  obtain ⟨r5, rx5, ry5, rfl, N5q, K5, g_r5, s_r5, s_rx5, s_ry5, Ex5, Fx5, Fy5, Fz5, Ax5, Ay5⟩ := hQ5
  have ne_r1_r5 : r1 ≠ r5 := Nat.ne_of_lt (Nat.lt_of_lt_of_le A2_r1_h3.lt s_r5)
  have ne_r3_r5 : r3 ≠ r5 := Nat.ne_of_lt (Nat.lt_of_lt_of_le A4_r3.lt s_r5)
  have ne_r1_rx5 : r1 ≠ rx5 := Nat.ne_of_lt (Nat.lt_of_lt_of_le A2_r1_h3.lt s_rx5)
  have ne_r3_rx5 : r3 ≠ rx5 := Nat.ne_of_lt (Nat.lt_of_lt_of_le A4_r3.lt s_rx5)
  have ne_r1_ry5 : r1 ≠ ry5 := Nat.ne_of_lt (Nat.lt_of_lt_of_le A2_r1_h3.lt s_ry5)
  have ne_r3_ry5 : r3 ≠ ry5 := Nat.ne_of_lt (Nat.lt_of_lt_of_le A4_r3.lt s_ry5)
  have A2_r1_h5 : own_A Z T5.heap r1 "[B" .byte (own_vals p2 m1) := A2_r1_h3.keep K5 nin0
  have A4_r3_h5 : own_A Z T5.heap r3 "[B" .byte (own_vals p3 m2) := A4_r3.keep K5 nin0
  have Zs5 : n0 ≤ T5.heap.size := Nat.le_trans Zs3 K5.1
  have E6_r5 : Exa Z T5.heap r5 "com/example/isimud/isimud/oscore/OscoreOption" := Ex5
  have F7_r5 : Fld Z T5.heap r5 "com/example/isimud/isimud/oscore/OscoreOption" "partialIv" "[B" (.ref rx5) := Fx5
  have F8_r5 : Fld Z T5.heap r5 "com/example/isimud/isimud/oscore/OscoreOption" "kidContext" "[B" .null := Fy5
  have F9_r5 : Fld Z T5.heap r5 "com/example/isimud/isimud/oscore/OscoreOption" "kid" "[B" (.ref ry5) := Fz5
  have A10_rx5 : own_A Z T5.heap rx5 "[B" .byte (own_vals p2 m1) := Ax5
  have A11_ry5 : own_A Z T5.heap ry5 "[B" .byte (own_vals p3 m2) := Ay5
  have N5 := Fr.app N3 N5q
  refine own_of (fun t k => st5 t k) ?_
  show own_Go p e below KK T5 (mkF m 37 #[.val (.int p1), .val (.long p2), .second, .val (.long p3), .second, .val (.int (Int32.ofNat m1)), .val (.int (Int32.ofNat m2)), .val (.ref r1), .val (.ref r3), .unset, .unset, .unset, .unset] [(.ref r5)])
  refine own_at (fun t k => XS.astore X5.here hx rfl (hb hby at_37) rfl rfl (l' := #[.val (.int p1), .val (.long p2), .second, .val (.long p3), .second, .val (.int (Int32.ofNat m1)), .val (.int (Int32.ofNat m2)), .val (.ref r1), .val (.ref r3), .val (.ref r5), .unset, .unset, .unset]) rfl k) ?_
  show own_Go p e below KK T5 (mkF m 39 #[.val (.int p1), .val (.long p2), .second, .val (.long p3), .second, .val (.int (Int32.ofNat m1)), .val (.int (Int32.ofNat m2)), .val (.ref r1), .val (.ref r3), .val (.ref r5), .unset, .unset, .unset] [])
  refine own_at (fun t k => XS.aload X5.here hx rfl (hb hby at_39) rfl rfl k) ?_
  show own_Go p e below KK T5 (mkF m 41 #[.val (.int p1), .val (.long p2), .second, .val (.long p3), .second, .val (.int (Int32.ofNat m1)), .val (.int (Int32.ofNat m2)), .val (.ref r1), .val (.ref r3), .val (.ref r5), .unset, .unset, .unset] [(.ref r1)])
  obtain ⟨_, _, ⟨T12, L12, k12, n12⟩, -, X12, ⟨Lc12, hQ12, l12, y12, z12⟩, st12⟩ := Jvm.LawKit.callS X5 hx (y := (⟨"com/example/isimud/isimud/oscore/OscoreOptionOfRequestPinLaw", "flip", "([B)V"⟩ : MethodName)) hown (mvT hZ (hw _ (List.mem_of_getElem? (i := 32) rfl))) (mvT hZ (hw _ (List.mem_of_getElem? (i := 33) rfl))) (mvT hZ (hw _ (List.mem_of_getElem? (i := 2) rfl))) (mvT hZ (hw _ (List.mem_of_getElem? (i := 34) rfl))) (by decide) (backOf (W := 0) (rm_flip l Z a0 hw [] r1 p2 m1 T5.heap n0 Zs5 hm1 A2_r1_h5 g_r1) hZ (hw _ (List.mem_of_getElem? (i := 34) rfl)) (hw _ (List.mem_of_getElem? (i := 2) rfl)) (by decide) (by decide)) (g := (mkF m 41 #[.val (.int p1), .val (.long p2), .second, .val (.long p3), .second, .val (.int (Int32.ofNat m1)), .val (.int (Int32.ofNat m2)), .val (.ref r1), .val (.ref r3), .val (.ref r5), .unset, .unset, .unset] [(.ref r1)])) rfl (by rw [hml]; rfl) (argsL := [(.ref r1)]) (rest := []) (lenOf pd___B_V rfl) rfl (by show 2 * 0 + _ ≤ _; exact Nat.le_of_eq rfl) (hb hby at_41) (fun _ _ => ⟨rfl, rfl, (by decide : 5 + 0 ≤ _), (by decide : 31 + 0 ≤ _)⟩)
  dsimp only [Pt.U, Pt.locs, Pt.cells, Pt.slots] at X12 l12 y12 z12 st12 hQ12
  subst l12 y12 z12
  obtain ⟨rfl, N12q, K12⟩ := hQ12
  have A4_r3_h12 : own_A Z T12.heap r3 "[B" .byte (own_vals p3 m2) := A4_r3_h5.keep K12 (ninS ne_r1_r3.symm nin0)
  have E6_r5_h12 : Exa Z T12.heap r5 "com/example/isimud/isimud/oscore/OscoreOption" := E6_r5.keep K12
  have F7_r5_h12 : Fld Z T12.heap r5 "com/example/isimud/isimud/oscore/OscoreOption" "partialIv" "[B" (.ref rx5) := F7_r5.keep K12 (ninS ne_r1_r5.symm nin0)
  have F8_r5_h12 : Fld Z T12.heap r5 "com/example/isimud/isimud/oscore/OscoreOption" "kidContext" "[B" .null := F8_r5.keep K12 (ninS ne_r1_r5.symm nin0)
  have F9_r5_h12 : Fld Z T12.heap r5 "com/example/isimud/isimud/oscore/OscoreOption" "kid" "[B" (.ref ry5) := F9_r5.keep K12 (ninS ne_r1_r5.symm nin0)
  have A10_rx5_h12 : own_A Z T12.heap rx5 "[B" .byte (own_vals p2 m1) := A10_rx5.keep K12 (ninS ne_r1_rx5.symm nin0)
  have A11_ry5_h12 : own_A Z T12.heap ry5 "[B" .byte (own_vals p3 m2) := A11_ry5.keep K12 (ninS ne_r1_ry5.symm nin0)
  have Zs12 : n0 ≤ T12.heap.size := Nat.le_trans Zs5 K12.1
  have N12 := Fr.app N5 N12q
  refine own_of (fun t k => st12 t k) ?_
  show own_Go p e below KK T12 (mkF m 44 #[.val (.int p1), .val (.long p2), .second, .val (.long p3), .second, .val (.int (Int32.ofNat m1)), .val (.int (Int32.ofNat m2)), .val (.ref r1), .val (.ref r3), .val (.ref r5), .unset, .unset, .unset] [])
  refine own_at (fun t k => XS.aload X12.here hx rfl (hb hby at_44) rfl rfl k) ?_
  show own_Go p e below KK T12 (mkF m 46 #[.val (.int p1), .val (.long p2), .second, .val (.long p3), .second, .val (.int (Int32.ofNat m1)), .val (.int (Int32.ofNat m2)), .val (.ref r1), .val (.ref r3), .val (.ref r5), .unset, .unset, .unset] [(.ref r3)])
  obtain ⟨_, _, ⟨T13, L13, k13, n13⟩, -, X13, ⟨Lc13, hQ13, l13, y13, z13⟩, st13⟩ := Jvm.LawKit.callS X12 hx (y := (⟨"com/example/isimud/isimud/oscore/OscoreOptionOfRequestPinLaw", "flip", "([B)V"⟩ : MethodName)) hown (mvT hZ (hw _ (List.mem_of_getElem? (i := 32) rfl))) (mvT hZ (hw _ (List.mem_of_getElem? (i := 33) rfl))) (mvT hZ (hw _ (List.mem_of_getElem? (i := 2) rfl))) (mvT hZ (hw _ (List.mem_of_getElem? (i := 34) rfl))) (by decide) (backOf (W := 0) (rm_flip l Z a0 hw [] r3 p3 m2 T12.heap n0 Zs12 hm2 A4_r3_h12 g_r3) hZ (hw _ (List.mem_of_getElem? (i := 34) rfl)) (hw _ (List.mem_of_getElem? (i := 2) rfl)) (by decide) (by decide)) (g := (mkF m 46 #[.val (.int p1), .val (.long p2), .second, .val (.long p3), .second, .val (.int (Int32.ofNat m1)), .val (.int (Int32.ofNat m2)), .val (.ref r1), .val (.ref r3), .val (.ref r5), .unset, .unset, .unset] [(.ref r3)])) rfl (by rw [hml]; rfl) (argsL := [(.ref r3)]) (rest := []) (lenOf pd___B_V rfl) rfl (by show 2 * 0 + _ ≤ _; exact Nat.le_of_eq rfl) (hb hby at_46) (fun _ _ => ⟨rfl, rfl, (by decide : 5 + 0 ≤ _), (by decide : 31 + 0 ≤ _)⟩)
  dsimp only [Pt.U, Pt.locs, Pt.cells, Pt.slots] at X13 l13 y13 z13 st13 hQ13
  subst l13 y13 z13
  obtain ⟨rfl, N13q, K13⟩ := hQ13
  have E6_r5_h13 : Exa Z T13.heap r5 "com/example/isimud/isimud/oscore/OscoreOption" := E6_r5_h12.keep K13
  have F7_r5_h13 : Fld Z T13.heap r5 "com/example/isimud/isimud/oscore/OscoreOption" "partialIv" "[B" (.ref rx5) := F7_r5_h12.keep K13 (ninS ne_r3_r5.symm nin0)
  have F8_r5_h13 : Fld Z T13.heap r5 "com/example/isimud/isimud/oscore/OscoreOption" "kidContext" "[B" .null := F8_r5_h12.keep K13 (ninS ne_r3_r5.symm nin0)
  have F9_r5_h13 : Fld Z T13.heap r5 "com/example/isimud/isimud/oscore/OscoreOption" "kid" "[B" (.ref ry5) := F9_r5_h12.keep K13 (ninS ne_r3_r5.symm nin0)
  have A10_rx5_h13 : own_A Z T13.heap rx5 "[B" .byte (own_vals p2 m1) := A10_rx5_h12.keep K13 (ninS ne_r3_rx5.symm nin0)
  have A11_ry5_h13 : own_A Z T13.heap ry5 "[B" .byte (own_vals p3 m2) := A11_ry5_h12.keep K13 (ninS ne_r3_ry5.symm nin0)
  have Zs13 : n0 ≤ T13.heap.size := Nat.le_trans Zs12 K13.1
  have N13 := Fr.app N12 N13q
  refine own_of (fun t k => st13 t k) ?_
  show own_Go p e below KK T13 (mkF m 49 #[.val (.int p1), .val (.long p2), .second, .val (.long p3), .second, .val (.int (Int32.ofNat m1)), .val (.int (Int32.ofNat m2)), .val (.ref r1), .val (.ref r3), .val (.ref r5), .unset, .unset, .unset] [])
  refine own_at (fun t k => XS.aload X13.here hx rfl (hb hby at_49) rfl rfl k) ?_
  show own_Go p e below KK T13 (mkF m 51 #[.val (.int p1), .val (.long p2), .second, .val (.long p3), .second, .val (.int (Int32.ofNat m1)), .val (.int (Int32.ofNat m2)), .val (.ref r1), .val (.ref r3), .val (.ref r5), .unset, .unset, .unset] [(.ref r5)])
  obtain ⟨cq14, kq14, q14a, q14b, q14c⟩ := isOf hZ rfl E6_r5_h13
  obtain ⟨_, _, ⟨T14, L14, k14, n14⟩, -, X14, ⟨Lc14, hQ14, l14, y14, z14⟩, st14⟩ := X13.virtualBack hx (y := (⟨"com/example/isimud/isimud/oscore/OscoreOption", "partialIv", "()[B"⟩ : MethodName)) (z := (⟨"com/example/isimud/isimud/oscore/OscoreOption", "partialIv", "()[B"⟩ : MethodName)) hown (mvT hZ (hw _ (List.mem_of_getElem? (i := 35) rfl))) (mvT hZ (hw _ (List.mem_of_getElem? (i := 36) rfl))) (notFace_of_selects (args := #[]) (mvT hZ (hw _ (List.mem_of_getElem? (i := 38) rfl)))) (mvT hZ (hw _ (List.mem_of_getElem? (i := 38) rfl))) (mvT hZ (hw _ (List.mem_of_getElem? (i := 37) rfl))) (by decide) (backOf (W := 0) (rm_partialIv l Z a0 hw [] r5  rx5 (own_vals p2 m1) T13.heap n0 Zs13 F7_r5_h13 A10_rx5_h13 (by rw [own_vlen]; exact hm1)) hZ (hw _ (List.mem_of_getElem? (i := 39) rfl)) (hw _ (List.mem_of_getElem? (i := 7) rfl)) (by decide) (by decide)) q14a q14c (g := (mkF m 51 #[.val (.int p1), .val (.long p2), .second, .val (.long p3), .second, .val (.int (Int32.ofNat m1)), .val (.int (Int32.ofNat m2)), .val (.ref r1), .val (.ref r3), .val (.ref r5), .unset, .unset, .unset] [(.ref r5)])) rfl (by rw [hml]; rfl) (Steps.refl _) (argsL := []) (rest := []) (lenOf pd____B rfl) rfl (by show 2 * 0 + _ ≤ _; exact Nat.le_of_eq rfl) (hb hby at_51) (fun _ _ => ⟨rfl, rfl, (by decide : 5 + 1 ≤ _), (by decide : 31 + 7 ≤ _)⟩)
  dsimp only [Pt.U, Pt.locs, Pt.cells, Pt.slots] at X14 l14 y14 z14 st14 hQ14
  subst l14 y14 z14
  obtain ⟨r14, rfl, N14q, K14, g_r14, s_r14, Aq14⟩ := hQ14
  have ne_r5_r14 : r5 ≠ r14 := Nat.ne_of_lt (Nat.lt_of_lt_of_le E6_r5_h13.lt s_r14)
  have ne_rx5_r14 : rx5 ≠ r14 := Nat.ne_of_lt (Nat.lt_of_lt_of_le A10_rx5_h13.lt s_r14)
  have ne_ry5_r14 : ry5 ≠ r14 := Nat.ne_of_lt (Nat.lt_of_lt_of_le A11_ry5_h13.lt s_r14)
  have E6_r5_h14 : Exa Z T14.heap r5 "com/example/isimud/isimud/oscore/OscoreOption" := E6_r5_h13.keep K14
  have F7_r5_h14 : Fld Z T14.heap r5 "com/example/isimud/isimud/oscore/OscoreOption" "partialIv" "[B" (.ref rx5) := F7_r5_h13.keep K14 nin0
  have F8_r5_h14 : Fld Z T14.heap r5 "com/example/isimud/isimud/oscore/OscoreOption" "kidContext" "[B" .null := F8_r5_h13.keep K14 nin0
  have F9_r5_h14 : Fld Z T14.heap r5 "com/example/isimud/isimud/oscore/OscoreOption" "kid" "[B" (.ref ry5) := F9_r5_h13.keep K14 nin0
  have A10_rx5_h14 : own_A Z T14.heap rx5 "[B" .byte (own_vals p2 m1) := A10_rx5_h13.keep K14 nin0
  have A11_ry5_h14 : own_A Z T14.heap ry5 "[B" .byte (own_vals p3 m2) := A11_ry5_h13.keep K14 nin0
  have Zs14 : n0 ≤ T14.heap.size := Nat.le_trans Zs13 K14.1
  have A15_r14 : own_A Z T14.heap r14 "[B" .byte (own_vals p2 m1) := Aq14
  have N14 := Fr.app N13 N14q
  refine own_of (fun t k => st14.trans k) ?_
  show own_Go p e below KK T14 (mkF m 54 #[.val (.int p1), .val (.long p2), .second, .val (.long p3), .second, .val (.int (Int32.ofNat m1)), .val (.int (Int32.ofNat m2)), .val (.ref r1), .val (.ref r3), .val (.ref r5), .unset, .unset, .unset] [(.ref r14)])
  refine own_at (fun t k => XS.astore X14.here hx rfl (hb hby at_54) rfl rfl (l' := #[.val (.int p1), .val (.long p2), .second, .val (.long p3), .second, .val (.int (Int32.ofNat m1)), .val (.int (Int32.ofNat m2)), .val (.ref r1), .val (.ref r3), .val (.ref r5), .val (.ref r14), .unset, .unset]) rfl k) ?_
  show own_Go p e below KK T14 (mkF m 56 #[.val (.int p1), .val (.long p2), .second, .val (.long p3), .second, .val (.int (Int32.ofNat m1)), .val (.int (Int32.ofNat m2)), .val (.ref r1), .val (.ref r3), .val (.ref r5), .val (.ref r14), .unset, .unset] [])
  refine own_at (fun t k => XS.aload X14.here hx rfl (hb hby at_56) rfl rfl k) ?_
  show own_Go p e below KK T14 (mkF m 58 #[.val (.int p1), .val (.long p2), .second, .val (.long p3), .second, .val (.int (Int32.ofNat m1)), .val (.int (Int32.ofNat m2)), .val (.ref r1), .val (.ref r3), .val (.ref r5), .val (.ref r14), .unset, .unset] [(.ref r5)])
  obtain ⟨cq16, kq16, q16a, q16b, q16c⟩ := isOf hZ rfl E6_r5_h14
  obtain ⟨_, _, ⟨T16, L16, k16, n16⟩, -, X16, ⟨Lc16, hQ16, l16, y16, z16⟩, st16⟩ := X14.virtualBack hx (y := (⟨"com/example/isimud/isimud/oscore/OscoreOption", "kidContext", "()[B"⟩ : MethodName)) (z := (⟨"com/example/isimud/isimud/oscore/OscoreOption", "kidContext", "()[B"⟩ : MethodName)) hown (mvT hZ (hw _ (List.mem_of_getElem? (i := 40) rfl))) (mvT hZ (hw _ (List.mem_of_getElem? (i := 41) rfl))) (notFace_of_selects (args := #[]) (mvT hZ (hw _ (List.mem_of_getElem? (i := 43) rfl)))) (mvT hZ (hw _ (List.mem_of_getElem? (i := 43) rfl))) (mvT hZ (hw _ (List.mem_of_getElem? (i := 42) rfl))) (by decide) (backOf (W := 0) (rm_kidContext0 l Z a0 hw [] r5   T14.heap n0 Zs14 F8_r5_h14) hZ (hw _ (List.mem_of_getElem? (i := 44) rfl)) (hw _ (List.mem_of_getElem? (i := 7) rfl)) (by decide) (by decide)) q16a q16c (g := (mkF m 58 #[.val (.int p1), .val (.long p2), .second, .val (.long p3), .second, .val (.int (Int32.ofNat m1)), .val (.int (Int32.ofNat m2)), .val (.ref r1), .val (.ref r3), .val (.ref r5), .val (.ref r14), .unset, .unset] [(.ref r5)])) rfl (by rw [hml]; rfl) (Steps.refl _) (argsL := []) (rest := []) (lenOf pd____B rfl) rfl (by show 2 * 0 + _ ≤ _; exact Nat.le_of_eq rfl) (hb hby at_58) (fun _ _ => ⟨rfl, rfl, (by decide : 6 + 0 ≤ _), (by decide : 38 + 0 ≤ _)⟩)
  dsimp only [Pt.U, Pt.locs, Pt.cells, Pt.slots] at X16 l16 y16 z16 st16 hQ16
  subst l16 y16 z16
  obtain ⟨rfl, N16q, e16⟩ := hQ16
  have N16 := Fr.app N14 N16q
  refine own_of (fun t k => st16.trans k) ?_
  show own_Go p e below KK T16 (mkF m 61 #[.val (.int p1), .val (.long p2), .second, .val (.long p3), .second, .val (.int (Int32.ofNat m1)), .val (.int (Int32.ofNat m2)), .val (.ref r1), .val (.ref r3), .val (.ref r5), .val (.ref r14), .unset, .unset] [.null])
  refine own_at (fun t k => XS.astore X16.here hx rfl (hb hby at_61) rfl rfl (l' := #[.val (.int p1), .val (.long p2), .second, .val (.long p3), .second, .val (.int (Int32.ofNat m1)), .val (.int (Int32.ofNat m2)), .val (.ref r1), .val (.ref r3), .val (.ref r5), .val (.ref r14), .val .null, .unset]) rfl k) ?_
  show own_Go p e below KK T16 (mkF m 63 #[.val (.int p1), .val (.long p2), .second, .val (.long p3), .second, .val (.int (Int32.ofNat m1)), .val (.int (Int32.ofNat m2)), .val (.ref r1), .val (.ref r3), .val (.ref r5), .val (.ref r14), .val .null, .unset] [])
  refine own_at (fun t k => XS.aload X16.here hx rfl (hb hby at_63) rfl rfl k) ?_
  show own_Go p e below KK T16 (mkF m 65 #[.val (.int p1), .val (.long p2), .second, .val (.long p3), .second, .val (.int (Int32.ofNat m1)), .val (.int (Int32.ofNat m2)), .val (.ref r1), .val (.ref r3), .val (.ref r5), .val (.ref r14), .val .null, .unset] [(.ref r5)])
  obtain ⟨cq17, kq17, q17a, q17b, q17c⟩ := isOf hZ e16 E6_r5_h14
  obtain ⟨_, _, ⟨T17, L17, k17, n17⟩, -, X17, ⟨Lc17, hQ17, l17, y17, z17⟩, st17⟩ := X16.virtualBack hx (y := (⟨"com/example/isimud/isimud/oscore/OscoreOption", "kid", "()[B"⟩ : MethodName)) (z := (⟨"com/example/isimud/isimud/oscore/OscoreOption", "kid", "()[B"⟩ : MethodName)) hown (mvT hZ (hw _ (List.mem_of_getElem? (i := 45) rfl))) (mvT hZ (hw _ (List.mem_of_getElem? (i := 46) rfl))) (notFace_of_selects (args := #[]) (mvT hZ (hw _ (List.mem_of_getElem? (i := 48) rfl)))) (mvT hZ (hw _ (List.mem_of_getElem? (i := 48) rfl))) (mvT hZ (hw _ (List.mem_of_getElem? (i := 47) rfl))) (by decide) (backOf (W := 0) (rm_kid l Z a0 hw [] r5  ry5 (own_vals p3 m2) T14.heap n0 Zs14 F9_r5_h14 A11_ry5_h14 (by rw [own_vlen]; exact hm2)) hZ (hw _ (List.mem_of_getElem? (i := 49) rfl)) (hw _ (List.mem_of_getElem? (i := 7) rfl)) (by decide) (by decide)) q17a q17c (g := (mkF m 65 #[.val (.int p1), .val (.long p2), .second, .val (.long p3), .second, .val (.int (Int32.ofNat m1)), .val (.int (Int32.ofNat m2)), .val (.ref r1), .val (.ref r3), .val (.ref r5), .val (.ref r14), .val .null, .unset] [(.ref r5)])) rfl (by rw [hml]; rfl) (Steps.refl _) (argsL := []) (rest := []) (lenOf pd____B rfl) rfl (by show 2 * 0 + _ ≤ _; exact Nat.le_of_eq rfl) (hb hby at_65) (fun _ _ => ⟨rfl, e16, (by decide : 6 + 1 ≤ _), (by decide : 38 + 7 ≤ _)⟩)
  dsimp only [Pt.U, Pt.locs, Pt.cells, Pt.slots] at X17 l17 y17 z17 st17 hQ17
  subst l17 y17 z17
  obtain ⟨r17, rfl, N17q, K17, g_r17, s_r17, Aq17⟩ := hQ17
  have ne_r14_r17 : r14 ≠ r17 := Nat.ne_of_lt (Nat.lt_of_lt_of_le A15_r14.lt s_r17)
  have ne_r5_r17 : r5 ≠ r17 := Nat.ne_of_lt (Nat.lt_of_lt_of_le E6_r5_h14.lt s_r17)
  have ne_rx5_r17 : rx5 ≠ r17 := Nat.ne_of_lt (Nat.lt_of_lt_of_le A10_rx5_h14.lt s_r17)
  have ne_ry5_r17 : ry5 ≠ r17 := Nat.ne_of_lt (Nat.lt_of_lt_of_le A11_ry5_h14.lt s_r17)
  have E6_r5_h17 : Exa Z T17.heap r5 "com/example/isimud/isimud/oscore/OscoreOption" := E6_r5_h14.keep K17
  have F7_r5_h17 : Fld Z T17.heap r5 "com/example/isimud/isimud/oscore/OscoreOption" "partialIv" "[B" (.ref rx5) := F7_r5_h14.keep K17 nin0
  have F8_r5_h17 : Fld Z T17.heap r5 "com/example/isimud/isimud/oscore/OscoreOption" "kidContext" "[B" .null := F8_r5_h14.keep K17 nin0
  have F9_r5_h17 : Fld Z T17.heap r5 "com/example/isimud/isimud/oscore/OscoreOption" "kid" "[B" (.ref ry5) := F9_r5_h14.keep K17 nin0
  have A10_rx5_h17 : own_A Z T17.heap rx5 "[B" .byte (own_vals p2 m1) := A10_rx5_h14.keep K17 nin0
  have A11_ry5_h17 : own_A Z T17.heap ry5 "[B" .byte (own_vals p3 m2) := A11_ry5_h14.keep K17 nin0
  have A15_r14_h17 : own_A Z T17.heap r14 "[B" .byte (own_vals p2 m1) := A15_r14.keep K17 nin0
  have Zs17 : n0 ≤ T17.heap.size := Nat.le_trans Zs14 K17.1
  have A18_r17 : own_A Z T17.heap r17 "[B" .byte (own_vals p3 m2) := Aq17
  have N17 := Fr.app N16 N17q
  refine own_of (fun t k => st17.trans k) ?_
  show own_Go p e below KK T17 (mkF m 68 #[.val (.int p1), .val (.long p2), .second, .val (.long p3), .second, .val (.int (Int32.ofNat m1)), .val (.int (Int32.ofNat m2)), .val (.ref r1), .val (.ref r3), .val (.ref r5), .val (.ref r14), .val .null, .unset] [(.ref r17)])
  refine own_at (fun t k => XS.astore X17.here hx rfl (hb hby at_68) rfl rfl (l' := #[.val (.int p1), .val (.long p2), .second, .val (.long p3), .second, .val (.int (Int32.ofNat m1)), .val (.int (Int32.ofNat m2)), .val (.ref r1), .val (.ref r3), .val (.ref r5), .val (.ref r14), .val .null, .val (.ref r17)]) rfl k) ?_
  show own_Go p e below KK T17 (mkF m 70 #[.val (.int p1), .val (.long p2), .second, .val (.long p3), .second, .val (.int (Int32.ofNat m1)), .val (.int (Int32.ofNat m2)), .val (.ref r1), .val (.ref r3), .val (.ref r5), .val (.ref r14), .val .null, .val (.ref r17)] [])
  refine own_at (fun t k => XS.aload X17.here hx rfl (hb hby at_70) rfl rfl k) ?_
  show own_Go p e below KK T17 (mkF m 72 #[.val (.int p1), .val (.long p2), .second, .val (.long p3), .second, .val (.int (Int32.ofNat m1)), .val (.int (Int32.ofNat m2)), .val (.ref r1), .val (.ref r3), .val (.ref r5), .val (.ref r14), .val .null, .val (.ref r17)] [(.ref r14)])
  refine own_at (fun t k => XS.lloadN X17.here hx rfl (hb hby at_72) rfl k) ?_
  show own_Go p e below KK T17 (mkF m 73 #[.val (.int p1), .val (.long p2), .second, .val (.long p3), .second, .val (.int (Int32.ofNat m1)), .val (.int (Int32.ofNat m2)), .val (.ref r1), .val (.ref r3), .val (.ref r5), .val (.ref r14), .val .null, .val (.ref r17)] [(.long p2), (.ref r14)])
  refine own_at (fun t k => XS.iload X17.here hx rfl (hb hby at_73) rfl k) ?_
  show own_Go p e below KK T17 (mkF m 75 #[.val (.int p1), .val (.long p2), .second, .val (.long p3), .second, .val (.int (Int32.ofNat m1)), .val (.int (Int32.ofNat m2)), .val (.ref r1), .val (.ref r3), .val (.ref r5), .val (.ref r14), .val .null, .val (.ref r17)] [(.int (Int32.ofNat m1)), (.long p2), (.ref r14)])
  obtain ⟨_, _, ⟨T19, L19, k19, n19⟩, -, X19, ⟨Lc19, hQ19, l19, y19, z19⟩, st19⟩ := Jvm.LawKit.callS X17 hx (y := (⟨"com/example/isimud/isimud/oscore/OscoreOptionOfRequestPinLaw", "same", "([BJI)Z"⟩ : MethodName)) hown (mvT hZ (hw _ (List.mem_of_getElem? (i := 50) rfl))) (mvT hZ (hw _ (List.mem_of_getElem? (i := 51) rfl))) (mvT hZ (hw _ (List.mem_of_getElem? (i := 2) rfl))) (mvT hZ (hw _ (List.mem_of_getElem? (i := 52) rfl))) (by decide) (backOf (W := 0) (rm_same l Z a0 hw [] r14 p2 m1 T17.heap n0 Zs17 hm1 A15_r14_h17) hZ (hw _ (List.mem_of_getElem? (i := 52) rfl)) (hw _ (List.mem_of_getElem? (i := 2) rfl)) (by decide) (by decide)) (g := (mkF m 75 #[.val (.int p1), .val (.long p2), .second, .val (.long p3), .second, .val (.int (Int32.ofNat m1)), .val (.int (Int32.ofNat m2)), .val (.ref r1), .val (.ref r3), .val (.ref r5), .val (.ref r14), .val .null, .val (.ref r17)] [(.int (Int32.ofNat m1)), (.long p2), (.ref r14)])) rfl (by rw [hml]; rfl) (argsL := [(.ref r14), (.long p2), (.int (Int32.ofNat m1))]) (rest := []) (lenOf pd___BJI_Z rfl) rfl (by show 2 * 0 + _ ≤ _; exact Nat.le_of_eq rfl) (hb hby at_75) (fun _ _ => ⟨rfl, rfl, (by decide : 7 + 0 ≤ _), (by decide : 45 + 0 ≤ _)⟩)
  dsimp only [Pt.U, Pt.locs, Pt.cells, Pt.slots] at X19 l19 y19 z19 st19 hQ19
  subst l19 y19 z19
  obtain ⟨rfl, N19q, e19⟩ := hQ19
  have N19 := Fr.app N17 N19q
  refine own_of (fun t k => st19 t k) ?_
  show own_Go p e below KK T19 (mkF m 78 #[.val (.int p1), .val (.long p2), .second, .val (.long p3), .second, .val (.int (Int32.ofNat m1)), .val (.int (Int32.ofNat m2)), .val (.ref r1), .val (.ref r3), .val (.ref r5), .val (.ref r14), .val .null, .val (.ref r17)] [(.int 1)])
  have hc78 : ¬ ((1 : Int32) = (0 : Int32)) := by decide
  refine own_at (fun t k => XS.ifNo X19.here hx rfl (hb hby at_78) rfl (Jvm.Free.XT.i0_eq_f hc78) k) ?_
  show own_Go p e below KK T19 (mkF m 81 #[.val (.int p1), .val (.long p2), .second, .val (.long p3), .second, .val (.int (Int32.ofNat m1)), .val (.int (Int32.ofNat m2)), .val (.ref r1), .val (.ref r3), .val (.ref r5), .val (.ref r14), .val .null, .val (.ref r17)] [])
  refine own_at (fun t k => XS.aload X19.here hx rfl (hb hby at_81) rfl rfl k) ?_
  show own_Go p e below KK T19 (mkF m 83 #[.val (.int p1), .val (.long p2), .second, .val (.long p3), .second, .val (.int (Int32.ofNat m1)), .val (.int (Int32.ofNat m2)), .val (.ref r1), .val (.ref r3), .val (.ref r5), .val (.ref r14), .val .null, .val (.ref r17)] [.null])
  refine own_at (fun t k => XS.ifnonnullNo X19.here hx rfl (hb hby at_83) rfl k) ?_
  show own_Go p e below KK T19 (mkF m 86 #[.val (.int p1), .val (.long p2), .second, .val (.long p3), .second, .val (.int (Int32.ofNat m1)), .val (.int (Int32.ofNat m2)), .val (.ref r1), .val (.ref r3), .val (.ref r5), .val (.ref r14), .val .null, .val (.ref r17)] [])
  refine own_at (fun t k => XS.aload X19.here hx rfl (hb hby at_86) rfl rfl k) ?_
  show own_Go p e below KK T19 (mkF m 88 #[.val (.int p1), .val (.long p2), .second, .val (.long p3), .second, .val (.int (Int32.ofNat m1)), .val (.int (Int32.ofNat m2)), .val (.ref r1), .val (.ref r3), .val (.ref r5), .val (.ref r14), .val .null, .val (.ref r17)] [(.ref r17)])
  refine own_at (fun t k => XS.lloadN X19.here hx rfl (hb hby at_88) rfl k) ?_
  show own_Go p e below KK T19 (mkF m 89 #[.val (.int p1), .val (.long p2), .second, .val (.long p3), .second, .val (.int (Int32.ofNat m1)), .val (.int (Int32.ofNat m2)), .val (.ref r1), .val (.ref r3), .val (.ref r5), .val (.ref r14), .val .null, .val (.ref r17)] [(.long p3), (.ref r17)])
  refine own_at (fun t k => XS.iload X19.here hx rfl (hb hby at_89) rfl k) ?_
  show own_Go p e below KK T19 (mkF m 91 #[.val (.int p1), .val (.long p2), .second, .val (.long p3), .second, .val (.int (Int32.ofNat m1)), .val (.int (Int32.ofNat m2)), .val (.ref r1), .val (.ref r3), .val (.ref r5), .val (.ref r14), .val .null, .val (.ref r17)] [(.int (Int32.ofNat m2)), (.long p3), (.ref r17)])
  obtain ⟨_, _, ⟨T20, L20, k20, n20⟩, -, X20, ⟨Lc20, hQ20, l20, y20, z20⟩, st20⟩ := Jvm.LawKit.callS X19 hx (y := (⟨"com/example/isimud/isimud/oscore/OscoreOptionOfRequestPinLaw", "same", "([BJI)Z"⟩ : MethodName)) hown (mvT hZ (hw _ (List.mem_of_getElem? (i := 50) rfl))) (mvT hZ (hw _ (List.mem_of_getElem? (i := 51) rfl))) (mvT hZ (hw _ (List.mem_of_getElem? (i := 2) rfl))) (mvT hZ (hw _ (List.mem_of_getElem? (i := 52) rfl))) (by decide) (backOf (W := 0) (rm_same l Z a0 hw [] r17 p3 m2 T17.heap n0 Zs17 hm2 A18_r17) hZ (hw _ (List.mem_of_getElem? (i := 52) rfl)) (hw _ (List.mem_of_getElem? (i := 2) rfl)) (by decide) (by decide)) (g := (mkF m 91 #[.val (.int p1), .val (.long p2), .second, .val (.long p3), .second, .val (.int (Int32.ofNat m1)), .val (.int (Int32.ofNat m2)), .val (.ref r1), .val (.ref r3), .val (.ref r5), .val (.ref r14), .val .null, .val (.ref r17)] [(.int (Int32.ofNat m2)), (.long p3), (.ref r17)])) rfl (by rw [hml]; rfl) (argsL := [(.ref r17), (.long p3), (.int (Int32.ofNat m2))]) (rest := []) (lenOf pd___BJI_Z rfl) rfl (by show 2 * 0 + _ ≤ _; exact Nat.le_of_eq rfl) (hb hby at_91) (fun _ _ => ⟨rfl, e19, (by decide : 7 + 0 ≤ _), (by decide : 45 + 0 ≤ _)⟩)
  dsimp only [Pt.U, Pt.locs, Pt.cells, Pt.slots] at X20 l20 y20 z20 st20 hQ20
  subst l20 y20 z20
  obtain ⟨rfl, N20q, e20⟩ := hQ20
  have N20 := Fr.app N19 N20q
  refine own_of (fun t k => st20 t k) ?_
  show own_Go p e below KK T20 (mkF m 94 #[.val (.int p1), .val (.long p2), .second, .val (.long p3), .second, .val (.int (Int32.ofNat m1)), .val (.int (Int32.ofNat m2)), .val (.ref r1), .val (.ref r3), .val (.ref r5), .val (.ref r14), .val .null, .val (.ref r17)] [(.int 1)])
  have hc94 : ¬ ((1 : Int32) = (0 : Int32)) := by decide
  refine own_at (fun t k => XS.ifNo X20.here hx rfl (hb hby at_94) rfl (Jvm.Free.XT.i0_eq_f hc94) k) ?_
  show own_Go p e below KK T20 (mkF m 97 #[.val (.int p1), .val (.long p2), .second, .val (.long p3), .second, .val (.int (Int32.ofNat m1)), .val (.int (Int32.ofNat m2)), .val (.ref r1), .val (.ref r3), .val (.ref r5), .val (.ref r14), .val .null, .val (.ref r17)] [])
  refine own_at (fun t k => XS.iconst X20.here hx rfl (hb hby at_97) k) ?_
  show own_Go p e below KK T20 (mkF m 98 #[.val (.int p1), .val (.long p2), .second, .val (.long p3), .second, .val (.int (Int32.ofNat m1)), .val (.int (Int32.ofNat m2)), .val (.ref r1), .val (.ref r3), .val (.ref r5), .val (.ref r14), .val .null, .val (.ref r17)] [(.int 1)])
  refine own_at (fun t k => XS.goto X20.here hx rfl (pc0 := 98) (pc' := 102) rfl (hb hby at_98) (by decide) (by decide) k) ?_
  show own_Go p e below KK T20 (mkF m 102 #[.val (.int p1), .val (.long p2), .second, .val (.long p3), .second, .val (.int (Int32.ofNat m1)), .val (.int (Int32.ofNat m2)), .val (.ref r1), .val (.ref r3), .val (.ref r5), .val (.ref r14), .val .null, .val (.ref r17)] [(.int 1)])
  subst hKK
  exact own_retN X20 hx hlk (t := .boolean) Bd.returns (by simp) (hb hby at_102) (w := (1 : Int32)) (show nar .boolean (1 : Int32) = 1 from by decide) ⟨rfl, N20⟩ (Nat.le_of_ble_eq_true rfl) (Nat.le_of_ble_eq_true rfl)
set_option maxRecDepth 65536 in
set_option maxHeartbeats 40000000 in
theorem comes_1 {Post : Tables → Env → Array Value → State → Outcome → State → Prop} (hpost : ∀ tb e args s v u, (limb_1_1.after args s (.returned v) u = true ∧ limb_1_2.after args s (.returned v) u = true ∧ True) → FrameEnd s (.returned v) u (Jvm.fieldLocs frame_1_writes args s ++ Jvm.arrayLocs frame_1_arrays args s ++ Jvm.staticLocs frame_1_statics s) 24 192 → Post tb e args s (.returned v) u) :
    ArmFor flags0 classFile x code maxLocals ret World_1 tables_1 room_1 Calls_1 rest_1 Pre_1 Post := by
  intro l hfl _ _ p e ha hc hk s m args below hf hA hF happ hP
  obtain ⟨hcalls, hrest, hpre⟩ := hP
  obtain ⟨-, -, -, hnamed, -, -, -, hat⟩ := (Spec.applies_iff hf).mp happ
  obtain ⟨hg, hn⟩ := and_e (Cond.before_iff.mp (show (Jvm.Cond.and given_1 narrow_1).before args s = true from hpre))
  obtain ⟨gc, g0⟩ := and_e hg
  obtain ⟨u0, g1⟩ := and_e g0
  obtain ⟨u1, g2⟩ := and_e g1
  obtain ⟨w0, w1, w2, rfl⟩ : ∃ w0 w1 w2 : Value, args = #[w0, w1, w2] := by
    have hs : args.size = 3 := by simpa [Cond.value, given_1] using gc
    obtain ⟨L⟩ := args
    match L, hs with
    | [w0, w1, w2], _ => exact ⟨w0, w1, w2, rfl⟩
  have hw := fun d (hd : d ∈ tables_1) => atoms_spec (ws := Jvm.Cond.code x code maxLocals ret :: tables_1) hat d (List.mem_cons_of_mem _ hd)
  obtain ⟨i0, ei0⟩ := is_v u0
  obtain rfl : w0 = (.int i0) := Option.some.inj ei0
  obtain ⟨i1, ei1⟩ := isL_v u1
  obtain rfl : w1 = (.long i1) := Option.some.inj ei1
  obtain ⟨i2, ei2⟩ := isL_v g2
  obtain rfl : w2 = (.long i2) := Option.some.inj ei2
  obtain ⟨n, o, h1, h2, h3, _, L, rfl, ⟨rfl, N⟩, hq⟩ := rm_law l s _ hw tables_1 i0 i1 i2 s.heap s.heap.size (Nat.le_refl _) p e ha hc hk s m _ below hf ((Spec.applies_iff_loose hf).mp happ).1 ⟨rfl, State.Warmed39.refl s, rfl⟩ trivial
  refine ⟨n, _, h1, h2, h3, hpost _ _ _ _ _ _ ⟨Cond.after_iff.mpr rfl, Cond.after_iff.mpr (eq_i res_at (Term.int_eval (1)) rfl), trivial⟩ ⟨hq.1, hq.2.1, (hq.2.2.sift fun y hy => Or.inr (N y hy)).mono (by decide) (by decide)⟩⟩
theorem main_1_1 : Claimed_1_1 := comes_1 fun _ _ _ _ _ _ h hF => ⟨h.1, hF⟩
theorem main_1_2 : Claimed_1_2 := comes_1 fun _ _ _ _ _ _ h hF => ⟨h.2.1, hF⟩
end Jvm.Pilot.@@N@@
namespace Jvm.Pilot.@@N@@
open Jvm Jvm.ClassFile Sem Op Lib Jvm.Free Jvm.Stand Jvm.Pilot.@@N@@.Jvm.D
/-! MADE BY PROGRAM (witnessworld.py) out of the Statement's table words and the real class files: 9 classes; the members and pool entries that the words name. The judged class is class 1, her method 1. -/
namespace start1
open Jvm.ClassFile
def u (s : String) : CpInfo := .utf8 (stringToUtf16 s)
/-- a pool by its gaps: so many unusable entries, then the entry; so many at the end -/
def gap : Nat → List CpInfo → List CpInfo
  | 0, r => r
  | n + 1, r => .unusable :: gap n r
def poolList (es : List (Nat × CpInfo)) (last : Nat) : List CpInfo := es.foldr (fun e r => gap e.1 (e.2 :: r)) (gap last [])
def pool (es : List (Nat × CpInfo)) (last : Nat) : Array CpInfo := ⟨poolList es last⟩
def fileOf (pool : Array CpInfo) (this : Nat) (attrs : Array Attribute := #[]) (ms : Array MethodInfo := #[]) (fl : Nat := 33) (sup : Nat := 0) (ifs : Array Nat := #[]) (fds : Array FieldInfo := #[]) : ClassFile where
  minorVersion := 0
  majorVersion := 65
  constantPool := pool
  accessFlags := fl
  thisClass := this
  superClass := sup
  interfaces := ifs
  fields := fds
  methods := ms
  attributes := attrs
def plain (name : String) (sup : Option ClassId) : Class where
  name := name
  kind := .ordinary
  loader := none
  accessFlags := 33
  super := sup
  interfaces := #[]
  cf := none
  fields := #[]
  methods := #[]
  instanceTypes := #[]
  staticTypes := #[]
  resolved := #[]
  callSites := []
  init := .initialized
  statics := none
  mirror := none

def pool0 : Array CpInfo := pool [(5, u "<init>"), (0, u "()V"), (1, .class_ 10), (1, u "java/lang/Object"), (85, u "clone"), (0, u "()Ljava/lang/Object;")] 26

def k0c0 : Code := { maxStack := 0, maxLocals := 1, code := object_method_1_code, exceptionTable := #[], attributes := #[] }
def k0m0 : Method := { name := "<init>", desc := "()V", sig := { parameters := [], returnType := none }, accessFlags := 1, code := some k0c0 }
def k0m1 : Method := { name := "clone", desc := "()Ljava/lang/Object;", sig := { parameters := [], returnType := some (.object "java/lang/Object") }, accessFlags := 260, code := none }
/-- java/lang/Object -/
def k0 : Class := { plain "java/lang/Object" none with
  accessFlags := 33
  interfaces := #[]
  cf := some (fileOf pool0 8 #[] #[{ accessFlags := 1, nameIndex := 5, descriptorIndex := 6, attributes := #[] }, { accessFlags := 260, nameIndex := 96, descriptorIndex := 97, attributes := #[] }] 33 0 #[] #[])
  fields := #[]
  methods := #[k0m0, k0m1]
  instanceTypes := #[]
  staticTypes := #[]
  resolved := Array.replicate 124 none
  statics := none }

def pool1 : Array CpInfo := pool [(2, .class_ 4), (1, u "java/lang/Object"), (0, u "<init>"), (0, u "()V"), (0, .methodref 8 9), (0, .class_ 10), (0, .nameAndType 11 12), (0, u "com/example/isimud/isimud/oscore/OscoreOptionOfRequestPinLaw"), (0, u "make"), (0, u "(JI)[B"), (0, .methodref 14 15), (0, .class_ 16), (0, .nameAndType 17 18), (0, u "com/example/isimud/isimud/oscore/OscoreOption"), (0, u "ofRequest"), (0, u "([B[B)Lcom/example/isimud/isimud/oscore/OscoreOption;"), (0, .methodref 8 20), (0, .nameAndType 21 22), (0, u "flip"), (0, u "([B)V"), (0, .methodref 14 24), (0, .nameAndType 25 26), (0, u "partialIv"), (0, u "()[B"), (0, .methodref 14 28), (0, .nameAndType 29 26), (0, u "kidContext"), (0, .methodref 14 31), (0, .nameAndType 32 26), (0, u "kid"), (0, .methodref 8 34), (0, .nameAndType 35 36), (0, u "same"), (0, u "([BJI)Z"), (0, .methodref 8 38), (0, .nameAndType 39 40), (0, u "b"), (0, u "(JI)B"), (2, u "law"), (0, u "(IJJ)Z")] 5

def k1m0 : Method := { name := "<init>", desc := "()V", sig := { parameters := [], returnType := none }, accessFlags := 1, code := none }
def k1c1 : Code := { maxStack := 4, maxLocals := 13, code := code, exceptionTable := #[], attributes := #[] }
def k1m1 : Method := { name := "law", desc := "(IJJ)Z", sig := { parameters := [.int, .long, .long], returnType := some .boolean }, accessFlags := 9, code := some k1c1 }
def k1c2 : Code := { maxStack := 4, maxLocals := 3, code := method_3_code, exceptionTable := #[], attributes := #[] }
def k1m2 : Method := { name := "b", desc := "(JI)B", sig := { parameters := [.long, .int], returnType := some .byte }, accessFlags := 10, code := some k1c2 }
def k1c3 : Code := { maxStack := 5, maxLocals := 4, code := method_4_code, exceptionTable := #[], attributes := #[] }
def k1m3 : Method := { name := "make", desc := "(JI)[B", sig := { parameters := [.long, .int], returnType := some (.array .byte) }, accessFlags := 10, code := some k1c3 }
def k1c4 : Code := { maxStack := 4, maxLocals := 1, code := method_5_code, exceptionTable := #[], attributes := #[] }
def k1m4 : Method := { name := "flip", desc := "([B)V", sig := { parameters := [(.array .byte)], returnType := none }, accessFlags := 10, code := some k1c4 }
def k1c5 : Code := { maxStack := 4, maxLocals := 4, code := method_6_code, exceptionTable := #[], attributes := #[] }
def k1m5 : Method := { name := "same", desc := "([BJI)Z", sig := { parameters := [(.array .byte), .long, .int], returnType := some .boolean }, accessFlags := 10, code := some k1c5 }
/-- com/example/isimud/isimud/oscore/OscoreOptionOfRequestPinLaw -/
def k1 : Class := { plain "com/example/isimud/isimud/oscore/OscoreOptionOfRequestPinLaw" (some 0) with
  accessFlags := 49
  interfaces := #[]
  cf := some (fileOf pool1 8 #[] #[{ accessFlags := 1, nameIndex := 5, descriptorIndex := 6, attributes := #[] }, { accessFlags := 9, nameIndex := 43, descriptorIndex := 44, attributes := #[] }, { accessFlags := 10, nameIndex := 39, descriptorIndex := 40, attributes := #[] }, { accessFlags := 10, nameIndex := 11, descriptorIndex := 12, attributes := #[] }, { accessFlags := 10, nameIndex := 21, descriptorIndex := 22, attributes := #[] }, { accessFlags := 10, nameIndex := 35, descriptorIndex := 36, attributes := #[] }] 49 2 #[] #[])
  fields := #[]
  methods := #[k1m0, k1m1, k1m2, k1m3, k1m4, k1m5]
  instanceTypes := #[]
  staticTypes := #[]
  resolved := Array.replicate 50 none
  statics := none }

def pool2 : Array CpInfo := pool [(1, .methodref 2 3), (0, .class_ 4), (0, .nameAndType 5 6), (0, u "java/lang/Object"), (0, u "<init>"), (0, u "()V"), (0, .fieldref 8 9), (0, .class_ 10), (0, .nameAndType 11 12), (0, u "com/example/isimud/isimud/oscore/OscoreOption"), (0, u "partialIv"), (0, u "[B"), (0, .fieldref 8 14), (0, .nameAndType 15 12), (0, u "kidContext"), (0, .fieldref 8 17), (0, .nameAndType 18 12), (0, u "kid"), (0, .methodref 20 21), (0, .class_ 12), (0, .nameAndType 22 23), (0, u "clone"), (0, u "()Ljava/lang/Object;"), (0, .methodref 8 25), (0, .nameAndType 5 26), (0, u "([B[B[B)V"), (47, u "PARTIAL_IV_LENGTH"), (0, u "I"), (2, u "HAS_KID"), (1, u "HAS_KID_CONTEXT"), (1, u "RESERVED"), (1, u "MAX_PARTIAL_IV_BYTES"), (3, u "ofRequest"), (0, u "([B[B)Lcom/example/isimud/isimud/oscore/OscoreOption;"), (3, u "()[B")] 20

def k2c0 : Code := { maxStack := 2, maxLocals := 4, code := prog_18_method_1_code, exceptionTable := #[], attributes := #[] }
def k2m0 : Method := { name := "<init>", desc := "([B[B[B)V", sig := { parameters := [(.array .byte), (.array .byte), (.array .byte)], returnType := none }, accessFlags := 2, code := some k2c0 }
def k2c1 : Code := { maxStack := 5, maxLocals := 2, code := prog_18_method_2_code, exceptionTable := #[], attributes := #[] }
def k2m1 : Method := { name := "ofRequest", desc := "([B[B)Lcom/example/isimud/isimud/oscore/OscoreOption;", sig := { parameters := [(.array .byte), (.array .byte)], returnType := some (.object "com/example/isimud/isimud/oscore/OscoreOption") }, accessFlags := 8, code := some k2c1 }
def k2c2 : Code := { maxStack := 1, maxLocals := 1, code := prog_18_method_5_code, exceptionTable := #[], attributes := #[] }
def k2m2 : Method := { name := "partialIv", desc := "()[B", sig := { parameters := [], returnType := some (.array .byte) }, accessFlags := 0, code := some k2c2 }
def k2c3 : Code := { maxStack := 1, maxLocals := 1, code := prog_18_method_6_code, exceptionTable := #[], attributes := #[] }
def k2m3 : Method := { name := "kidContext", desc := "()[B", sig := { parameters := [], returnType := some (.array .byte) }, accessFlags := 0, code := some k2c3 }
def k2c4 : Code := { maxStack := 1, maxLocals := 1, code := prog_18_method_7_code, exceptionTable := #[], attributes := #[] }
def k2m4 : Method := { name := "kid", desc := "()[B", sig := { parameters := [], returnType := some (.array .byte) }, accessFlags := 0, code := some k2c4 }
/-- com/example/isimud/isimud/oscore/OscoreOption -/
def k2 : Class := { plain "com/example/isimud/isimud/oscore/OscoreOption" (some 0) with
  accessFlags := 48
  interfaces := #[]
  cf := some (fileOf pool2 8 #[] #[{ accessFlags := 2, nameIndex := 5, descriptorIndex := 26, attributes := #[] }, { accessFlags := 8, nameIndex := 88, descriptorIndex := 89, attributes := #[] }, { accessFlags := 0, nameIndex := 11, descriptorIndex := 93, attributes := #[] }, { accessFlags := 0, nameIndex := 15, descriptorIndex := 93, attributes := #[] }, { accessFlags := 0, nameIndex := 18, descriptorIndex := 93, attributes := #[] }] 48 2 #[] #[{ accessFlags := 26, nameIndex := 74, descriptorIndex := 75, attributes := #[] }, { accessFlags := 26, nameIndex := 78, descriptorIndex := 75, attributes := #[] }, { accessFlags := 26, nameIndex := 80, descriptorIndex := 75, attributes := #[] }, { accessFlags := 26, nameIndex := 82, descriptorIndex := 75, attributes := #[] }, { accessFlags := 26, nameIndex := 84, descriptorIndex := 75, attributes := #[] }, { accessFlags := 18, nameIndex := 11, descriptorIndex := 12, attributes := #[] }, { accessFlags := 18, nameIndex := 15, descriptorIndex := 12, attributes := #[] }, { accessFlags := 18, nameIndex := 18, descriptorIndex := 12, attributes := #[] }])
  fields := #[{ name := "PARTIAL_IV_LENGTH", type := .int, accessFlags := 26, slot := 0, constantValue := 0 }, { name := "HAS_KID", type := .int, accessFlags := 26, slot := 1, constantValue := 0 }, { name := "HAS_KID_CONTEXT", type := .int, accessFlags := 26, slot := 2, constantValue := 0 }, { name := "RESERVED", type := .int, accessFlags := 26, slot := 3, constantValue := 0 }, { name := "MAX_PARTIAL_IV_BYTES", type := .int, accessFlags := 26, slot := 4, constantValue := 0 }, { name := "partialIv", type := (.array .byte), accessFlags := 18, slot := 0, constantValue := 0 }, { name := "kidContext", type := (.array .byte), accessFlags := 18, slot := 1, constantValue := 0 }, { name := "kid", type := (.array .byte), accessFlags := 18, slot := 2, constantValue := 0 }]
  methods := #[k2m0, k2m1, k2m2, k2m3, k2m4]
  instanceTypes := #[(.array .byte), (.array .byte), (.array .byte)]
  staticTypes := #[.int, .int, .int, .int, .int]
  resolved := Array.replicate 114 none
  statics := none }

def pool3 : Array CpInfo := pool [(1, .class_ 2), (0, u "java/lang/Cloneable"), (0, .class_ 4), (0, u "java/lang/Object")] 2

/-- java/lang/Cloneable -/
def k3 : Class := { plain "java/lang/Cloneable" (some 0) with
  accessFlags := 1537
  interfaces := #[]
  cf := some (fileOf pool3 1 #[] #[] 1537 3 #[] #[])
  fields := #[]
  methods := #[]
  instanceTypes := #[]
  staticTypes := #[]
  resolved := Array.replicate 7 none
  statics := none }

def pool4 : Array CpInfo := pool [(1, u "java/io/Serializable"), (0, .class_ 1), (0, u "java/lang/Object"), (0, .class_ 3)] 3

/-- java/io/Serializable -/
def k4 : Class := { plain "java/io/Serializable" (some 0) with
  accessFlags := 1537
  interfaces := #[]
  cf := some (fileOf pool4 2 #[] #[] 1537 4 #[] #[])
  fields := #[]
  methods := #[]
  instanceTypes := #[]
  staticTypes := #[]
  resolved := Array.replicate 8 none
  statics := none }

/-- the primitive byte -/
def k5 : Class := { plain "byte" none with kind := .primitive 'B', accessFlags := 0x411 }
/-- [B -/
def k6 : Class := { plain "[B" (some 0) with kind := .array 5 .byte, interfaces := #[3, 4], accessFlags := 1041 }

/-- the primitive int -/
def k7 : Class := { plain "int" none with kind := .primitive 'I', accessFlags := 0x411 }
/-- [I -/
def k8 : Class := { plain "[I" (some 0) with kind := .array 7 .int, interfaces := #[3, 4], accessFlags := 1041 }

def heap : Heap := #[]
def classes : Array Class := #[k0, k1, k2, k3, k4, k5, k6, k7, k8]
def interned : List (Array UInt16 × Addr) := []
def slotsUsed : Nat := 0
def theMethod : MethodId := ⟨1, 1⟩
def args0 : Array Value := #[.int 5, .long 6, .long 7]
def aboutOver (below : List Frame) : State where
  vm := { classes := classes, interned := interned.toArray }
  heap := heap
  slotsUsed := slotsUsed
  threads := #[{ frames := .invoking theMethod args0 :: below }]
def below0 : List Frame := [.native { method := ⟨0, 0⟩, args := #[] }]
def about1 : State := aboutOver below0
def p0 : Program := .bare "" "" ""
def e0 : Env := launch0.env 0 0 0
theorem w_frames : about1.frames = Frame.invoking theMethod args0 :: below0 := rfl
set_option maxRecDepth 65536 in
theorem w_args : argsFit about1.vm theMethod args0 = true := by decide +kernel
set_option maxRecDepth 65536 in
theorem w_heap : heapFits about1 = true := by decide +kernel
set_option maxRecDepth 65536 in
theorem w_runnable : about1.curStatus? = some .runnable := by decide +kernel
set_option maxRecDepth 65536 in
theorem w_alone : about1.alone = true := by decide +kernel
set_option maxRecDepth 65536 in
theorem w_named : about1.methodNamed? x = some theMethod := by decide +kernel
set_option maxRecDepth 65536 in
theorem w_hears : about1.hears theMethod below0 = true := by decide +kernel
set_option maxRecDepth 65536 in
theorem w_ripe : about1.ripe theMethod args0 below0 = true := by decide +kernel
theorem w_running : about1.status = .running := rfl
set_option maxRecDepth 65536 in
theorem w_room : about1.hasRoom e0.platform room_1 = true :=
  launch0.hasRoom_least _ room_1 (by decide +kernel) (by decide +kernel) (by decide +kernel) (by decide +kernel) (by decide +kernel) (by decide +kernel)
theorem allAtoms_all (ts : List Jvm.Cond) (a : Array Jvm.Value) (st : Jvm.State) : (allAtoms ts).before a st = ts.all (fun c => c.before a st) := by
  induction ts with
  | nil => rfl
  | cons c t ih =>
    show (Jvm.Cond.and c (allAtoms t)).before a st = _
    rw [Jvm.Cond.before_and, ih, List.all_cons]
def words1 : List Jvm.Cond := Jvm.Cond.code x code maxLocals ret :: tables_1
/-- a 'code' word, met by the world's own term for the bytes: nothing is compared byte by byte -/
theorem code_word {y : MethodName} {bytes : ByteArray} {mx : Nat} {rt : Option FieldType} {a : Array Value} {s : State} {m : MethodId} {meth : Method} {c : Code} (h1 : s.methodNamed? y = some m) (h2 : s.vm.method? m = some meth) (h3 : meth.code = some c) (h4 : c.code = bytes)
    (h5 : (c.maxLocals == mx && c.exceptionTable.isEmpty && decide (c.maxStack ≤ mostOperands) && decide (meth.sig.returnType = rt) && !meth.locks && decide (parseMethodDescriptor y.desc = some meth.sig)) = true) : (Jvm.Cond.code y bytes mx rt).before a s = true := by
  simp only [Bool.and_eq_true, beq_iff_eq, Bool.not_eq_true', decide_eq_true_eq] at h5
  obtain ⟨⟨⟨⟨⟨g1, g2⟩, g3⟩, g4⟩, g5⟩, g6⟩ := h5
  simp [Cond.before, Cond.holds, Cond.value, h1, h2, h3, h4, g1, g2, g3, g4, g5, g6]
def isCode : Jvm.Cond → Bool
  | .code _ _ _ _ => true
  | _ => false
theorem all_split {L : List Jvm.Cond} {P : Jvm.Cond → Bool} (h1 : L.all (fun c => isCode c || P c) = true) (h2 : ∀ c ∈ L.filter isCode, P c = true) : L.all P = true := by
  refine List.all_eq_true.mpr fun c hc => ?_
  have h := List.all_eq_true.mp h1 c hc
  rcases Bool.eq_false_or_eq_true (isCode c) with hi | hi
  · exact h2 c (List.mem_filter.mpr ⟨hc, hi⟩)
  · simpa [hi] using h
set_option maxRecDepth 65536 in
theorem w_c0 : (Jvm.Cond.code x code maxLocals ret).before args0 about1 = true := code_word (m := ⟨1, 1⟩) (meth := k1m1) (c := k1c1) (by decide +kernel) rfl rfl rfl (by decide +kernel)
set_option maxRecDepth 65536 in
theorem w_c1 : (Jvm.Cond.code ({ cls := "com/example/isimud/isimud/oscore/OscoreOptionOfRequestPinLaw", name := "make", desc := "(JI)[B" } : Jvm.MethodName) method_4_code (4 : Nat) (Option.some (Jvm.ClassFile.FieldType.array Jvm.ClassFile.FieldType.byte))).before args0 about1 = true := code_word (m := ⟨1, 3⟩) (meth := k1m3) (c := k1c3) (by decide +kernel) rfl rfl rfl (by decide +kernel)
set_option maxRecDepth 65536 in
theorem w_c2 : (Jvm.Cond.code ({ cls := "com/example/isimud/isimud/oscore/OscoreOption", name := "ofRequest", desc := "([B[B)Lcom/example/isimud/isimud/oscore/OscoreOption;" } : Jvm.MethodName) prog_18_method_2_code (2 : Nat) (Option.some (Jvm.ClassFile.FieldType.object "com/example/isimud/isimud/oscore/OscoreOption"))).before args0 about1 = true := code_word (m := ⟨2, 1⟩) (meth := k2m1) (c := k2c1) (by decide +kernel) rfl rfl rfl (by decide +kernel)
set_option maxRecDepth 65536 in
theorem w_c3 : (Jvm.Cond.code ({ cls := "com/example/isimud/isimud/oscore/OscoreOption", name := "<init>", desc := "([B[B[B)V" } : Jvm.MethodName) prog_18_method_1_code (4 : Nat) (Option.none : Option Jvm.ClassFile.FieldType)).before args0 about1 = true := code_word (m := ⟨2, 0⟩) (meth := k2m0) (c := k2c0) (by decide +kernel) rfl rfl rfl (by decide +kernel)
set_option maxRecDepth 65536 in
theorem w_c4 : (Jvm.Cond.code ({ cls := "java/lang/Object", name := "<init>", desc := "()V" } : Jvm.MethodName) object_method_1_code (1 : Nat) (Option.none : Option Jvm.ClassFile.FieldType)).before args0 about1 = true := code_word (m := ⟨0, 0⟩) (meth := k0m0) (c := k0c0) (by decide +kernel) rfl rfl rfl (by decide +kernel)
set_option maxRecDepth 65536 in
theorem w_c5 : (Jvm.Cond.code ({ cls := "com/example/isimud/isimud/oscore/OscoreOptionOfRequestPinLaw", name := "flip", desc := "([B)V" } : Jvm.MethodName) method_5_code (1 : Nat) (Option.none : Option Jvm.ClassFile.FieldType)).before args0 about1 = true := code_word (m := ⟨1, 4⟩) (meth := k1m4) (c := k1c4) (by decide +kernel) rfl rfl rfl (by decide +kernel)
set_option maxRecDepth 65536 in
theorem w_c6 : (Jvm.Cond.code ({ cls := "com/example/isimud/isimud/oscore/OscoreOption", name := "partialIv", desc := "()[B" } : Jvm.MethodName) prog_18_method_5_code (1 : Nat) (Option.some (Jvm.ClassFile.FieldType.array Jvm.ClassFile.FieldType.byte))).before args0 about1 = true := code_word (m := ⟨2, 2⟩) (meth := k2m2) (c := k2c2) (by decide +kernel) rfl rfl rfl (by decide +kernel)
set_option maxRecDepth 65536 in
theorem w_c7 : (Jvm.Cond.code ({ cls := "com/example/isimud/isimud/oscore/OscoreOption", name := "kidContext", desc := "()[B" } : Jvm.MethodName) prog_18_method_6_code (1 : Nat) (Option.some (Jvm.ClassFile.FieldType.array Jvm.ClassFile.FieldType.byte))).before args0 about1 = true := code_word (m := ⟨2, 3⟩) (meth := k2m3) (c := k2c3) (by decide +kernel) rfl rfl rfl (by decide +kernel)
set_option maxRecDepth 65536 in
theorem w_c8 : (Jvm.Cond.code ({ cls := "com/example/isimud/isimud/oscore/OscoreOption", name := "kid", desc := "()[B" } : Jvm.MethodName) prog_18_method_7_code (1 : Nat) (Option.some (Jvm.ClassFile.FieldType.array Jvm.ClassFile.FieldType.byte))).before args0 about1 = true := code_word (m := ⟨2, 4⟩) (meth := k2m4) (c := k2c4) (by decide +kernel) rfl rfl rfl (by decide +kernel)
set_option maxRecDepth 65536 in
theorem w_c9 : (Jvm.Cond.code ({ cls := "com/example/isimud/isimud/oscore/OscoreOptionOfRequestPinLaw", name := "same", desc := "([BJI)Z" } : Jvm.MethodName) method_6_code (4 : Nat) (Option.some Jvm.ClassFile.FieldType.boolean)).before args0 about1 = true := code_word (m := ⟨1, 5⟩) (meth := k1m5) (c := k1c5) (by decide +kernel) rfl rfl rfl (by decide +kernel)
set_option maxRecDepth 65536 in
theorem w_c10 : (Jvm.Cond.code ({ cls := "com/example/isimud/isimud/oscore/OscoreOptionOfRequestPinLaw", name := "b", desc := "(JI)B" } : Jvm.MethodName) method_3_code (3 : Nat) (Option.some Jvm.ClassFile.FieldType.byte)).before args0 about1 = true := code_word (m := ⟨1, 2⟩) (meth := k1m2) (c := k1c2) (by decide +kernel) rfl rfl rfl (by decide +kernel)
def codes1 : List Jvm.Cond := [Jvm.Cond.code x code maxLocals ret, Jvm.Cond.code ({ cls := "com/example/isimud/isimud/oscore/OscoreOptionOfRequestPinLaw", name := "make", desc := "(JI)[B" } : Jvm.MethodName) method_4_code (4 : Nat) (Option.some (Jvm.ClassFile.FieldType.array Jvm.ClassFile.FieldType.byte)), Jvm.Cond.code ({ cls := "com/example/isimud/isimud/oscore/OscoreOption", name := "ofRequest", desc := "([B[B)Lcom/example/isimud/isimud/oscore/OscoreOption;" } : Jvm.MethodName) prog_18_method_2_code (2 : Nat) (Option.some (Jvm.ClassFile.FieldType.object "com/example/isimud/isimud/oscore/OscoreOption")), Jvm.Cond.code ({ cls := "com/example/isimud/isimud/oscore/OscoreOption", name := "<init>", desc := "([B[B[B)V" } : Jvm.MethodName) prog_18_method_1_code (4 : Nat) (Option.none : Option Jvm.ClassFile.FieldType), Jvm.Cond.code ({ cls := "java/lang/Object", name := "<init>", desc := "()V" } : Jvm.MethodName) object_method_1_code (1 : Nat) (Option.none : Option Jvm.ClassFile.FieldType), Jvm.Cond.code ({ cls := "com/example/isimud/isimud/oscore/OscoreOptionOfRequestPinLaw", name := "flip", desc := "([B)V" } : Jvm.MethodName) method_5_code (1 : Nat) (Option.none : Option Jvm.ClassFile.FieldType), Jvm.Cond.code ({ cls := "com/example/isimud/isimud/oscore/OscoreOption", name := "partialIv", desc := "()[B" } : Jvm.MethodName) prog_18_method_5_code (1 : Nat) (Option.some (Jvm.ClassFile.FieldType.array Jvm.ClassFile.FieldType.byte)), Jvm.Cond.code ({ cls := "com/example/isimud/isimud/oscore/OscoreOption", name := "kidContext", desc := "()[B" } : Jvm.MethodName) prog_18_method_6_code (1 : Nat) (Option.some (Jvm.ClassFile.FieldType.array Jvm.ClassFile.FieldType.byte)), Jvm.Cond.code ({ cls := "com/example/isimud/isimud/oscore/OscoreOption", name := "kid", desc := "()[B" } : Jvm.MethodName) prog_18_method_7_code (1 : Nat) (Option.some (Jvm.ClassFile.FieldType.array Jvm.ClassFile.FieldType.byte)), Jvm.Cond.code ({ cls := "com/example/isimud/isimud/oscore/OscoreOptionOfRequestPinLaw", name := "same", desc := "([BJI)Z" } : Jvm.MethodName) method_6_code (4 : Nat) (Option.some Jvm.ClassFile.FieldType.boolean), Jvm.Cond.code ({ cls := "com/example/isimud/isimud/oscore/OscoreOptionOfRequestPinLaw", name := "b", desc := "(JI)B" } : Jvm.MethodName) method_3_code (3 : Nat) (Option.some Jvm.ClassFile.FieldType.byte)]
set_option maxRecDepth 65536 in
theorem codes_eq : words1.filter isCode = codes1 := rfl
theorem w_codes : ∀ c ∈ words1.filter isCode, c.before args0 about1 = true := by
  rw [codes_eq]
  intro c hc
  simp only [codes1, List.mem_cons, List.not_mem_nil, or_false] at hc
  rcases hc with rfl | rfl | rfl | rfl | rfl | rfl | rfl | rfl | rfl | rfl | rfl
  · exact w_c0
  · exact w_c1
  · exact w_c2
  · exact w_c3
  · exact w_c4
  · exact w_c5
  · exact w_c6
  · exact w_c7
  · exact w_c8
  · exact w_c9
  · exact w_c10
set_option maxRecDepth 65536 in
theorem w_t1 : (words1.take 24).all (fun c => isCode c || c.before args0 about1) = true := by decide +kernel
set_option maxRecDepth 65536 in
theorem w_t2 : ((words1.drop 24).take 24).all (fun c => isCode c || c.before args0 about1) = true := by decide +kernel
set_option maxRecDepth 65536 in
theorem w_t3 : ((words1.drop 24).drop 24).all (fun c => isCode c || c.before args0 about1) = true := by decide +kernel
theorem w_tables : (allAtoms (Jvm.Cond.code x code maxLocals ret :: tables_1)).before args0 about1 = true := by
  rw [allAtoms_all]
  show words1.all (fun c => c.before args0 about1) = true
  refine all_split ?_ w_codes
  rw [← List.take_append_drop 24 words1, List.all_append, w_t1, ← List.take_append_drop 24 (words1.drop 24), List.all_append, w_t2, w_t3]
  rfl
set_option maxRecDepth 65536 in
theorem w_case : (Jvm.Cond.and given_1 narrow_1).before args0 about1 = true := by decide +kernel
theorem w_applies : (headSpec (Jvm.Cond.code x code maxLocals ret :: tables_1) room_1).applies x e0.platform about1 = true :=
  (Spec.applies_iff w_frames).mpr ⟨w_running, w_runnable, w_alone, w_named, w_hears, w_ripe, w_room, w_tables⟩
theorem atStart : AtStart classFile x code maxLocals ret World_1 tables_1 room_1 Calls_1 rest_1 Pre_1 launch0 p0 e0 about1 theMethod args0 below0 :=
  ⟨lists_1, trivial, launch0.admits_env _ _ _, launch0.least_env, fairChoices_fair.cas, fairChoices_fair.clock, w_frames, w_args, w_heap, w_applies, trivial, trivial, w_case⟩
end start1
theorem witness_1 : WitnessClaimed_1 := ⟨start1.p0, start1.e0, start1.about1, start1.theMethod, start1.args0, start1.below0, start1.atStart⟩
end Jvm.Pilot.@@N@@
