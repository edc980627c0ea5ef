import JvmDerived
import JvmDerived.Pilot.@@N@@Statement
import JvmDerived.Pilot.@@N@@Code
set_option linter.unusedVariables false
set_option linter.unusedSimpArgs false
namespace Jvm.Pilot.@@N@@
open Jvm Jvm.ClassFile Sem Op Lib Jvm.Free Jvm.Stand Jvm.LawKit Jvm.RoadKit Bundle Jvm.Pilot.@@N@@.Jvm.D
section OwnKit
/-- from the frame f at T the run comes to an end that K takes -/
def own_Go (p : Program) (e : Env) (below : List Frame) (K : Outcome → State → Prop) (T : State) (f : JFrame) : Prop :=
  ∃ s₂ o, Steps p.tables e below (T.setTop f) s₂ ∧ s₂.status = .running ∧ Ended s₂ below o ∧ K o s₂
def own_K (s : State) (Q : Option Value → Heap → List Loc → Prop) (cc ss : Nat) (o : Outcome) (U : State) : Prop :=
  ∃ v L, o = .returned v ∧ Q v U.heap L ∧ FrameEnd s o U L cc ss
variable {p : Program} {l : Launch} {e : Env} {R : Room} {s : State} {m : MethodId} {args : Array Value} {below : List Frame} {meth : Method} {c : Code} {T T' : State} {locs : List Loc} {cells slots : Nat} {K : Outcome → State → Prop} {Q : Option Value → Heap → List Loc → Prop} {cc ss : Nat} {f f' : JFrame}
theorem own_of (h : ∀ t, Steps p.tables e below (T'.setTop f') t → Steps p.tables e below (T.setTop f) t) (k : own_Go p e below K T' f') : own_Go p e below K T f := by
  obtain ⟨s2, o, h1, r⟩ := k
  exact ⟨s2, o, h _ h1, r⟩
theorem own_at (h : ∀ t, Steps p.tables e below (T.setTop f') t → Steps p.tables e below (T.setTop f) t) (k : own_Go p e below K T f') : own_Go p e below K T f := own_of h k
theorem own_cast (q : f = f') (k : own_Go p e below K T f') : own_Go p e below K T f := q ▸ k
theorem own_end (X : Stand p l e R s m args below meth c T locs cells slots) (hlk : meth.locks = false) {v : Option Value} (hv : meth.sig.returnType = none → v = none) (hq : Q v T.heap locs) (h1 : cells ≤ cc) (h2 : slots ≤ ss)
    (hs : ∀ fs, (∀ (f : JFrame) (acts : List Action), f.method = m → f.locked = none → f.entered = [] → (doReturn e (T.setTop f) acts v).1 = T.setFrames fs) → Steps p.tables e below (T.setTop f) (T.setFrames fs)) : own_Go p e below (own_K s Q cc ss) T f := by
  obtain ⟨fs, hr, hrun, hended, hW, hsame⟩ := X.leave (v := v) hv hlk
  exact ⟨_, _, hs fs hr, hrun, hended, _, _, rfl, hq, ⟨_, rfl⟩, hW, hsame.mono h1 h2⟩
theorem own_retN (X : Stand p l e R s m args below meth c T locs cells slots) (hx : p.tables.exec = Jvm.exec) (hlk : meth.locks = false) {pc : Nat} {Ls : Array Slot} {z w : Int32} {t : FieldType} {rest : List Value} (hret : meth.sig.returnType = some t) (ht : t = .boolean ∨ t = .byte ∨ t = .char ∨ t = .short)
    (hd : decode c.code pc = .ok (.ireturn, 1)) (hw : nar t z = w) (hq : Q (some (.int w)) T.heap locs) (h1 : cells ≤ cc) (h2 : slots ≤ ss) : own_Go p e below (own_K s Q cc ss) T (mkF m pc Ls (.int z :: rest)) := by
  subst hw
  exact own_end X hlk (fun h => by rw [hret] at h; cases h) hq h1 h2 fun fs hr => retN X hx hret ht hd hr
theorem own_retI (X : Stand p l e R s m args below meth c T locs cells slots) (hx : p.tables.exec = Jvm.exec) (hlk : meth.locks = false) {pc : Nat} {Ls : Array Slot} {z w : Int32} {rest : List Value} (hret : meth.sig.returnType = some .int)
    (hd : decode c.code pc = .ok (.ireturn, 1)) (hw : z = w) (hq : Q (some (.int w)) T.heap locs) (h1 : cells ≤ cc) (h2 : slots ≤ ss) : own_Go p e below (own_K s Q cc ss) T (mkF m pc Ls (.int z :: rest)) := by
  subst hw
  refine own_end X hlk (fun h => by rw [hret] at h; cases h) hq h1 h2 fun fs hr => ?_
  have hm' : T.vm.method? m = some meth := X.method'
  have hn : narrow .int (.int z) = .int z := rfl
  show Steps p.tables e below (T.setTop { method := m, pc := pc, locals := Ls, stack := _ :: rest, locked := none }) _
  jvm_step X.here [X.here.top, hx, hd, hm', hret, hn]
  first | (intro acts; rw [hr _ acts rfl rfl rfl]) | rw [hr _ _ rfl rfl rfl]
  exact Steps.refl _
theorem own_retJ (X : Stand p l e R s m args below meth c T locs cells slots) (hx : p.tables.exec = Jvm.exec) (hlk : meth.locks = false) {pc : Nat} {Ls : Array Slot} {z w : Int64} (hret : meth.sig.returnType = some .long)
    (hd : decode c.code pc = .ok (.lreturn, 1)) (hw : z = w) (hq : Q (some (.long w)) T.heap locs) (h1 : cells ≤ cc) (h2 : slots ≤ ss) : own_Go p e below (own_K s Q cc ss) T (mkF m pc Ls [.long z]) := by
  subst hw
  exact own_end X hlk (fun h => by rw [hret] at h; cases h) hq h1 h2 fun fs hr => X.lreturnOut hx hret hd hr
theorem own_retA (X : Stand p l e R s m args below meth c T locs cells slots) (hx : p.tables.exec = Jvm.exec) (hlk : meth.locks = false) {pc : Nat} {Ls : Array Slot} {z : Value} {ty : FieldType} {rest : List Value} (hz : z.isRef = true) (hret : meth.sig.returnType = some ty) (hty : ty.isReference = true)
    (hd : decode c.code pc = .ok (.areturn, 1)) (hq : Q (some z) T.heap locs) (h1 : cells ≤ cc) (h2 : slots ≤ ss) : own_Go p e below (own_K s Q cc ss) T (mkF m pc Ls (z :: rest)) := by
  refine own_end X hlk (fun h => by rw [hret] at h; cases h) hq h1 h2 fun fs hr => ?_
  have hm' : T.vm.method? m = some meth := X.method'
  show Steps p.tables e below (T.setTop { method := m, pc := pc, locals := Ls, stack := _ :: rest, locked := none }) _
  jvm_step X.here [X.here.top, hx, hd, hm', hret, hz, hty]
  first | (intro acts; rw [hr _ acts rfl rfl rfl]) | rw [hr _ _ rfl rfl rfl]
  exact Steps.refl _
theorem own_retV (X : Stand p l e R s m args below meth c T locs cells slots) (hx : p.tables.exec = Jvm.exec) (hlk : meth.locks = false) {pc : Nat} {Ls : Array Slot} (hret : meth.sig.returnType = none)
    (hd : decode c.code pc = .ok (.return_, 1)) (hq : Q none T.heap locs) (h1 : cells ≤ cc) (h2 : slots ≤ ss) : own_Go p e below (own_K s Q cc ss) T (mkF m pc Ls []) :=
  own_end X hlk (fun _ => rfl) hq h1 h2 fun fs hr => X.returnOut hx hret hd hr
theorem own_ne {i k : Int32} {z : Int} (hz : k.toInt = z) (h : ¬ i = k) : ¬ (z = i.toInt) := fun q => h (Int32.toInt_inj.mp (q.symm.trans hz.symm))
theorem own_lsw {tb : Tables} [Ours tb] {target : State} {g : JFrame} (h : At T m c below) (hx : tb.exec = Jvm.exec) (hg : g.method = m) {dflt o : Int} {prs : Array (Int × Int)} {len pc0 pc' : Nat} (hpc : g.pc = pc0) (hd : decode c.code g.pc = .ok (.lookupswitch dflt prs, len)) {i : Int32} {rest : List Value} (hs : g.stack = .int i :: rest)
    (hso : (prs.toList.zip (prs.toList.drop 1)).all (fun (a, next) => a.1 < next.1) = true) (hof : lookupswitch.offset prs.toList dflt i.toInt = o) (ho : 0 ≤ (pc0 : Int) + o) (hp : ((pc0 : Int) + o).toNat = pc')
    (hr : Steps tb e below (T.setTop { g with pc := pc', stack := rest }) target) : Steps tb e below (T.setTop g) target := by
  subst hg hpc hp hof
  jvm_step h [h.top, hx, hd, hs, ho, lookupswitch.wp_chain]
  exact ⟨by simpa using hso, hr⟩
theorem own_nar01 {z : Int32} (h : z = 0 ∨ z = 1) : nar .boolean z = z := by rcases h with rfl | rfl <;> decide
theorem own_narB (x : Int32) : nar .byte x.toInt8.toInt32 = x.toInt8.toInt32 := Value.int.inj (Jvm.Free.XT.narrow_b x)
theorem own_narC (x : Int32) : nar .char x.toUInt32.toUInt16.toUInt32.toInt32 = x.toUInt32.toUInt16.toUInt32.toInt32 := Value.int.inj (Jvm.Free.XT.narrow_c x)
end OwnKit
/-- a body that writes nothing and returns w -/
def own_P (w : Value) (h0 : Heap) (n0 : Nat) (v : Option Value) (h : Heap) (L : List Loc) : Prop := v = some w ∧ Fr n0 L ∧ h = h0
section OwnArr
/-- an array by its class's name, its components' kind, and what it holds -/
def own_A (Z : State) (h : Heap) (a : Addr) (d : String) (ty : FieldType) (vs : List Value) : Prop :=
  ∃ c : Cell, Arr Z h a c ty ∧ Z.vm.findClass d = some c.cls ∧ c.slots = vs.toArray ∧ ∀ v ∈ vs, fits ty v = true
variable {p : Program} {l : Launch} {e : Env} {R : Room} {s : State} {m : MethodId} {args : Array Value} {below : List Frame} {meth : Method} {c : Code} {T : State} {locs : List Loc} {cells slots : Nat} {Z : State} {a0 : Array Value} {h h' : Heap} {a b : Addr} {d : String} {ty : FieldType} {vs : List Value} {sl : Nat} {v w : Value} {ws : List Addr}
theorem own_A.lt (F : own_A Z h a d ty vs) : a < h.size := by obtain ⟨c, A, -⟩ := F; exact A.lt
theorem own_A.ext (F : own_A Z h a d ty vs) (E : Ext h h') : own_A Z h' a d ty vs := by obtain ⟨c, A, r⟩ := F; exact ⟨c, A.ext E, r⟩
theorem own_A.other (F : own_A Z h b d ty vs) (W : Wr h h' a sl v) (q : b ≠ a) : own_A Z h' b d ty vs := by obtain ⟨c, A, r⟩ := F; exact ⟨c, A.other W q, r⟩
theorem own_A.keep (F : own_A Z h a d ty vs) (K : Keep h h' ws) (q : a ∉ ws) : own_A Z h' a d ty vs := by obtain ⟨c, A, r⟩ := F; exact ⟨c, ⟨K.2.1 a c A.1 q, A.2⟩, r⟩
theorem own_A.set (F : own_A Z h a d ty vs) {i : Nat} (W : Wr h h' a i v) (hv : fits ty v = true) : own_A Z h' a d ty (vs.set i v) := by
  obtain ⟨c, A, q, S, G⟩ := F
  refine ⟨_, A.same W, q, ?_, fun x hx => ?_⟩
  · simp [Cell.setSlot, S]
  · rcases List.mem_or_eq_of_mem_set hx with h1 | h1
    · exact G x h1
    · exact h1 ▸ hv
theorem own_A.exa (F : own_A Z h a d ty vs) : Exa Z h a d := by
  obtain ⟨c, A, q, -⟩ := F
  obtain ⟨-, k, hk, comp, hkind⟩ := A.2.1
  exact ⟨c, k, A.1, q, hk, A.plain, fun z => by rw [hkind] at z; cases z⟩
theorem own_A.fit (F : own_A Z h a d ty vs) : ∃ c : Cell, Arr Z h a c ty ∧ Z.vm.findClass d = some c.cls ∧ c.slots = vs.toArray ∧ (∀ v ∈ vs, fits ty v = true) ∧ FitC Z c := by
  obtain ⟨c, A, q, S, G⟩ := F
  refine ⟨c, A, q, S, G, fun i v hv => ?_⟩
  obtain ⟨-, k, hk, comp, hkind⟩ := A.2.1
  rw [S] at hv
  have hm : v ∈ vs := List.mem_of_getElem? (by simpa using hv)
  simp [State.fitsSlot, State.slotType?, hk, hkind, G v hm]
theorem own_inb {c : Cell} {j : Int32} {i : Nat} (S : c.slots = vs.toArray) (h0 : ¬ j < 0) (hj : j.toNatClampNeg = i) (hi : i < vs.length) : ¬ (j < 0 ∨ c.slots.size ≤ j.toNatClampNeg) := by
  rw [S, hj]; simp only [List.size_toArray]; exact fun q => q.elim h0 (fun q => absurd hi (Nat.not_lt.mpr q))
theorem own_newA (X : Stand p l e R s m args below meth c T locs cells slots) (hx : p.tables.exec = Jvm.exec) (hZ : Z.Warmed39 s.vm) {aty : ArrayType} (w : (Cond.arrayClass (newarray.typeOf aty)).before a0 Z = true) (eT : T.heap = h) {g : JFrame} (hg : g.method = m) (hd : decode c.code g.pc = .ok (.newarray aty, 2)) {n : Int32} {rest : List Value} (hs : g.stack = .int n :: rest)
    (hn : ¬ n < 0) {N cap : Nat} (hN : n.toNatClampNeg = N) (hcap : N ≤ cap) (hb : cap * 8 ≤ 536870912) (hc : cells + 1 ≤ R.cells) (hl : slots + cap ≤ R.slots) {d : String} (hdd : "[" ++ (newarray.typeOf aty).toString = d) {vs : List Value} (hvs : vs = List.replicate N (defaultValue (newarray.typeOf aty))) :
    ∃ T' h', Stand p l e R s m args below meth c T' locs (cells + 1) (slots + cap) ∧ T'.heap = h' ∧ Ext h h' ∧ own_A Z h' h.size d (newarray.typeOf aty) vs ∧
      ∀ target, Steps p.tables e below (T'.setTop { g with pc := g.pc + 2, stack := .ref h.size :: rest }) target → Steps p.tables e below (T.setTop g) target := by
  subst hN hdd hvs
  have hcb : componentBytes (newarray.typeOf aty) ≤ 8 := by cases aty <;> decide
  obtain ⟨cA, kA, comp, h1, h2, h3, X', st⟩ := X.newarrayPrim hx (mvA hZ w) hg hd hs hn (Nat.le_trans (Nat.mul_le_mul hcap hcb) hb) hc (by omega)
  subst eT
  rw [hZ.alike.findClass] at h1
  obtain ⟨kZ, z1, -⟩ := Vm.findClass_spec h1
  obtain ⟨k', z2, z3⟩ := hZ.alike.2.2 _ _ z1
  cases h2.symm.trans z2
  refine ⟨_, _, X'.more (Nat.le_refl _) (by omega), rfl, ⟨by show T.heap.size ≤ (T.heap.push _).size; simp, fun a c h => ?_⟩, ⟨{ cls := cA, slots := Array.replicate n.toNatClampNeg (defaultValue (newarray.typeOf aty)), vm := .none }, ⟨by show (T.heap.push _)[T.heap.size]? = _; simp, ⟨by simp, kZ, z1, comp, by rw [← h3, z3]⟩, by simp⟩, h1, by simp, fun v hv => ?_⟩, st⟩
  · have hlt := (Array.getElem?_eq_some_iff.mp h).1
    show (T.heap.push _)[a]? = _
    rw [Array.getElem?_push, if_neg (Nat.ne_of_lt hlt)]
    exact h
  · rw [List.eq_of_mem_replicate hv]; cases aty <;> rfl
theorem own_ldI (X : Stand p l e R s m args below meth c T locs cells slots) (hx : p.tables.exec = Jvm.exec) (hZ : Z.Warmed39 s.vm) (eT : T.heap = h) (V : own_A Z h a d .int vs) {j : Int32} {i : Nat} (h0 : ¬ j < 0) (hj : j.toNatClampNeg = i) (hv : vs[i]? = some v) {g : JFrame} (hg : g.method = m) {rest : List Value} (hs : g.stack = .int j :: .ref a :: rest) (hd : decode c.code g.pc = .ok (.iaload, 1)) :
    ∀ target, Steps p.tables e below (T.setTop { g with pc := g.pc + 1, stack := v :: rest }) target → Steps p.tables e below (T.setTop g) target := by
  obtain ⟨cl, A, q, S, G⟩ := V
  have hi : i < vs.length := (List.getElem?_eq_some_iff.mp hv).1
  exact X.iaload hx (by rw [eT]; exact A.1) (State.isArrayOf_alike hZ.alike A.2.1) A.2.2 (own_inb S h0 hj hi) (by rw [S, hj]; simpa using hv) hg hs hd
theorem own_ldJ (X : Stand p l e R s m args below meth c T locs cells slots) (hx : p.tables.exec = Jvm.exec) (hZ : Z.Warmed39 s.vm) (eT : T.heap = h) (V : own_A Z h a d .long vs) {j : Int32} {i : Nat} (h0 : ¬ j < 0) (hj : j.toNatClampNeg = i) (hv : vs[i]? = some v) {g : JFrame} (hg : g.method = m) {rest : List Value} (hs : g.stack = .int j :: .ref a :: rest) (hd : decode c.code g.pc = .ok (.laload, 1)) :
    ∀ target, Steps p.tables e below (T.setTop { g with pc := g.pc + 1, stack := v :: rest }) target → Steps p.tables e below (T.setTop g) target := by
  obtain ⟨cl, A, q, S, G⟩ := V
  have hi : i < vs.length := (List.getElem?_eq_some_iff.mp hv).1
  exact X.laload hx (by rw [eT]; exact A.1) (State.isArrayOf_alike hZ.alike A.2.1) A.2.2 (own_inb S h0 hj hi) (by rw [S, hj]; simpa using hv) hg hs hd
theorem own_ldC (X : Stand p l e R s m args below meth c T locs cells slots) (hx : p.tables.exec = Jvm.exec) (hZ : Z.Warmed39 s.vm) (eT : T.heap = h) (V : own_A Z h a d .char vs) {j : Int32} {i : Nat} (h0 : ¬ j < 0) (hj : j.toNatClampNeg = i) (hv : vs[i]? = some v) {g : JFrame} (hg : g.method = m) {rest : List Value} (hs : g.stack = .int j :: .ref a :: rest) (hd : decode c.code g.pc = .ok (.caload, 1)) :
    ∀ target, Steps p.tables e below (T.setTop { g with pc := g.pc + 1, stack := v :: rest }) target → Steps p.tables e below (T.setTop g) target := by
  obtain ⟨cl, A, q, S, G⟩ := V
  have hi : i < vs.length := (List.getElem?_eq_some_iff.mp hv).1
  exact X.caload hx (by rw [eT]; exact A.1) (State.isArrayOf_alike hZ.alike A.2.1) A.2.2 (own_inb S h0 hj hi) (by rw [S, hj]; simpa using hv) hg hs hd
theorem own_ldB (X : Stand p l e R s m args below meth c T locs cells slots) (hx : p.tables.exec = Jvm.exec) (hZ : Z.Warmed39 s.vm) (eT : T.heap = h) (V : own_A Z h a d .byte vs) {j : Int32} {i : Nat} (h0 : ¬ j < 0) (hj : j.toNatClampNeg = i) (hv : vs[i]? = some v) {g : JFrame} (hg : g.method = m) {rest : List Value} (hs : g.stack = .int j :: .ref a :: rest) (hd : decode c.code g.pc = .ok (.baload, 1)) :
    ∀ target, Steps p.tables e below (T.setTop { g with pc := g.pc + 1, stack := v :: rest }) target → Steps p.tables e below (T.setTop g) target := by
  obtain ⟨cl, A, q, S, G⟩ := V
  have hi : i < vs.length := (List.getElem?_eq_some_iff.mp hv).1
  exact X.baloadBytes hx (by rw [eT]; exact A.1) (State.isArrayOf_alike hZ.alike A.2.1) A.2.2 (own_inb S h0 hj hi) (by rw [S, hj]; simpa using hv) hg hs hd
theorem own_len (X : Stand p l e R s m args below meth c T locs cells slots) (hx : p.tables.exec = Jvm.exec) (hZ : Z.Warmed39 s.vm) (eT : T.heap = h) (V : own_A Z h a d ty vs) {N : Int32} (hN : vs.length.toInt32 = N) {g : JFrame} (hg : g.method = m) {rest : List Value} (hs : g.stack = .ref a :: rest) (hd : decode c.code g.pc = .ok (.arraylength, 1)) :
    ∀ target, Steps p.tables e below (T.setTop { g with pc := g.pc + 1, stack := .int N :: rest }) target → Steps p.tables e below (T.setTop g) target := by
  obtain ⟨cl, A, q, S, G⟩ := V
  have e1 : cl.slots.size.toInt32 = N := by rw [S]; simpa using hN
  have st := X.arraylength hx (by rw [eT]; exact A.1) (State.isArrayOf_alike hZ.alike A.2.1) hg hs hd
  rw [e1] at st
  exact st
theorem own_stI (X : Stand p l e R s m args below meth c T locs cells slots) (hx : p.tables.exec = Jvm.exec) (hZ : Z.Warmed39 s.vm) (eT : T.heap = h) (V : own_A Z h a d .int vs) {j x : Int32} {i : Nat} (h0 : ¬ j < 0) (hj : j.toNatClampNeg = i) (hi : i < vs.length) {g : JFrame} (hg : g.method = m) {rest : List Value} (hs : g.stack = .int x :: .int j :: .ref a :: rest) (hd : decode c.code g.pc = .ok (.iastore, 1)) :
    ∃ T' h', Stand p l e R s m args below meth c T' (locs ++ [⟨a, i⟩]) cells slots ∧ T'.heap = h' ∧ Wr h h' a i (.int x) ∧ own_A Z h' a d .int (vs.set i (.int x)) ∧ ∀ target, Steps p.tables e below (T'.setTop { g with pc := g.pc + 1, stack := rest }) target → Steps p.tables e below (T.setTop g) target := by
  obtain ⟨cl, A, q, S, G⟩ := id V
  subst hj
  obtain ⟨T', h', X', e', W, st⟩ := stI X hx hZ eT A (own_inb S h0 rfl hi) hg hs hd
  exact ⟨T', h', X', e', W, V.set W rfl, st⟩
theorem own_stJ (X : Stand p l e R s m args below meth c T locs cells slots) (hx : p.tables.exec = Jvm.exec) (hZ : Z.Warmed39 s.vm) (eT : T.heap = h) (V : own_A Z h a d .long vs) {j : Int32} {x : Int64} {i : Nat} (h0 : ¬ j < 0) (hj : j.toNatClampNeg = i) (hi : i < vs.length) {g : JFrame} (hg : g.method = m) {rest : List Value} (hs : g.stack = .long x :: .int j :: .ref a :: rest) (hd : decode c.code g.pc = .ok (.lastore, 1)) :
    ∃ T' h', Stand p l e R s m args below meth c T' (locs ++ [⟨a, i⟩]) cells slots ∧ T'.heap = h' ∧ Wr h h' a i (.long x) ∧ own_A Z h' a d .long (vs.set i (.long x)) ∧ ∀ target, Steps p.tables e below (T'.setTop { g with pc := g.pc + 1, stack := rest }) target → Steps p.tables e below (T.setTop g) target := by
  obtain ⟨cl, A, q, S, G⟩ := id V
  subst hj
  obtain ⟨T', h', X', e', W, st⟩ := stJ X hx hZ eT A (own_inb S h0 rfl hi) hg hs hd
  exact ⟨T', h', X', e', W, V.set W rfl, st⟩
theorem own_stB (X : Stand p l e R s m args below meth c T locs cells slots) (hx : p.tables.exec = Jvm.exec) (hZ : Z.Warmed39 s.vm) (eT : T.heap = h) (V : own_A Z h a d .byte vs) {j x y : Int32} {i : Nat} (hy : nar .byte x = y) (h0 : ¬ j < 0) (hj : j.toNatClampNeg = i) (hi : i < vs.length) {g : JFrame} (hg : g.method = m) {rest : List Value} (hs : g.stack = .int x :: .int j :: .ref a :: rest) (hd : decode c.code g.pc = .ok (.bastore, 1)) :
    ∃ T' h', Stand p l e R s m args below meth c T' (locs ++ [⟨a, i⟩]) cells slots ∧ T'.heap = h' ∧ Wr h h' a i (.int y) ∧ own_A Z h' a d .byte (vs.set i (.int y)) ∧ ∀ target, Steps p.tables e below (T'.setTop { g with pc := g.pc + 1, stack := rest }) target → Steps p.tables e below (T.setTop g) target := by
  obtain ⟨cl, A, q, S, G⟩ := id V
  subst hj hy
  obtain ⟨T', h', X', e', W, st⟩ := stB X hx hZ eT A (own_inb S h0 rfl hi) hg hs hd
  exact ⟨T', h', X', e', W, V.set W (fits_nar_byte x), st⟩
theorem own_stC (X : Stand p l e R s m args below meth c T locs cells slots) (hx : p.tables.exec = Jvm.exec) (hZ : Z.Warmed39 s.vm) (eT : T.heap = h) (V : own_A Z h a d .char vs) {j x y : Int32} {i : Nat} (hy : nar .char x = y) (h0 : ¬ j < 0) (hj : j.toNatClampNeg = i) (hi : i < vs.length) {g : JFrame} (hg : g.method = m) {rest : List Value} (hs : g.stack = .int x :: .int j :: .ref a :: rest) (hd : decode c.code g.pc = .ok (.castore, 1)) :
    ∃ T' h', Stand p l e R s m args below meth c T' (locs ++ [⟨a, i⟩]) cells slots ∧ T'.heap = h' ∧ Wr h h' a i (.int y) ∧ own_A Z h' a d .char (vs.set i (.int y)) ∧ ∀ target, Steps p.tables e below (T'.setTop { g with pc := g.pc + 1, stack := rest }) target → Steps p.tables e below (T.setTop g) target := by
  obtain ⟨cl, A, q, S, G⟩ := id V
  subst hj hy
  obtain ⟨T', h', X', e', W, st⟩ := stC X hx hZ eT A (own_inb S h0 rfl hi) hg hs hd
  exact ⟨T', h', X', e', W, V.set W (fits_nar_char x), st⟩
theorem own_clone (X : Stand p l e R s m args below meth c T locs cells slots) (hx : p.tables.exec = Jvm.exec) (hZ : Z.Warmed39 s.vm) {own : String} {index : Nat} (hown : s.vm.findClass own = some m.cls)
    (w1 : (Cond.methodLink own index ⟨d, "clone", "()Ljava/lang/Object;"⟩).before a0 Z = true) (w2 : (Cond.sameMethod d "java/lang/Object" "clone" "()Ljava/lang/Object;").before a0 Z = true) (w3 : (Cond.native ⟨"java/lang/Object", "clone", "()Ljava/lang/Object;"⟩).before a0 Z = true)
    (w4 : (Cond.instanceMethod ⟨"java/lang/Object", "clone", "()Ljava/lang/Object;"⟩).before a0 Z = true) (w5 : (Cond.selects d ⟨d, "clone", "()Ljava/lang/Object;"⟩ ⟨"java/lang/Object", "clone", "()Ljava/lang/Object;"⟩).before a0 Z = true) (w6 : (Cond.castable d "java/lang/Cloneable").before a0 Z = true)
    (eT : T.heap = h) (V : own_A Z h a d ty vs) {g : JFrame} (hg : g.method = m) (hsize : g.locals.size = c.maxLocals) {rest : List Value} (hs : g.stack = .ref a :: rest) (hd : decode c.code g.pc = .ok (.invokevirtual index, 3))
    (hf : 1 ≤ R.frames) {W cap : Nat} (hW : 2 * g.monitorRoom + (rest.map fun v => v.category).sum ≤ W) (hl : W + 14 ≤ R.locals) (hcap : vs.length ≤ cap) (hc : cells + 1 ≤ R.cells) (hsl : slots + cap ≤ R.slots) :
    ∃ T' h', Stand p l e R s m args below meth c T' locs (cells + 1) (slots + cap) ∧ T'.heap = h' ∧ Ext h h' ∧ own_A Z h' h.size d ty vs ∧
      ∀ target, Steps p.tables e below (T'.setTop { g with pc := g.pc + 3, stack := .ref h.size :: rest }) target → Steps p.tables e below (T.setTop g) target := by
  have Ex := V.exa
  obtain ⟨cl, A, q, S, G, F⟩ := V.fit
  obtain ⟨T', h', X', e', E, A', -, st⟩ := cloneA X hx hZ hown w1 w2 w3 w4 w5 w6 eT A Ex F hg hsize hs hd hf hW hl (cap := cap) (by rw [S]; simpa using hcap) hc hsl
  exact ⟨T', h', X', e', E, ⟨_, A', q, S, G⟩, st⟩
theorem own_nA (hv : v.isRef = true) : narrow (.array ty) v = v ∧ fits (.array ty) v = true := by cases v <;> simp_all [Value.isRef, narrow, fits]
end OwnArr

def own_Qf (Z : State) (vs : List Value) (h0 : Heap) (n0 : Nat) (v : Option Value) (h : Heap) (L : List Loc) : Prop := ∃ b : Addr, v = some (.ref b) ∧ Fr n0 L ∧ Keep h0 h [] ∧ n0 ≤ b ∧ h0.size ≤ b ∧ own_A Z h b "[B" .byte vs
theorem pn_com_example_wirecall_wirecall_wire_Fnv1aHash64PinLaw : plainName "com/example/wirecall/wirecall/wire/Fnv1aHash64PinLaw" = true := by first | (simp [plainName, overriddenIn]; done) | decide +kernel
theorem ef_method_2 (m : MethodId) (x0 : Int32) (x1 : Int32) (x2 : Int32) (x3 : Int32) (x4 : Int32) : entryFrame m #[(.int x0), (.int x1), (.int x2), (.int x3), (.int x4)] 6 = mkF m 0 #[.val (.int x0), .val (.int x1), .val (.int x2), .val (.int x3), .val (.int x4), .unset] [] := by first | (simp [entryFrame, mkF, argsToLocals, Value.category]; done) | rfl
theorem d_method_2_0 : decode method_2_code 0 = .ok (.iload_n 0, 1) := by decide +kernel
theorem d_method_2_1 : decode method_2_code 1 = .ok (.newarray .byte, 2) := by decide +kernel
theorem d_method_2_3 : decode method_2_code 3 = .ok (.astore 5, 2) := by decide +kernel
theorem d_method_2_5 : decode method_2_code 5 = .ok (.iload_n 0, 1) := by decide +kernel
theorem d_method_2_6 : decode method_2_code 6 = .ok (.ifCond .le 9, 3) := by decide +kernel
theorem d_method_2_15 : decode method_2_code 15 = .ok (.iload_n 0, 1) := by decide +kernel
theorem d_method_2_16 : decode method_2_code 16 = .ok (.iconst 1, 1) := by decide +kernel
theorem d_method_2_17 : decode method_2_code 17 = .ok (.if_icmp .le 9, 3) := by decide +kernel
theorem d_method_2_26 : decode method_2_code 26 = .ok (.iload_n 0, 1) := by decide +kernel
theorem d_method_2_27 : decode method_2_code 27 = .ok (.iconst 2, 1) := by decide +kernel
theorem d_method_2_28 : decode method_2_code 28 = .ok (.if_icmp .le 9, 3) := by decide +kernel
theorem d_method_2_37 : decode method_2_code 37 = .ok (.iload_n 0, 1) := by decide +kernel
theorem d_method_2_38 : decode method_2_code 38 = .ok (.iconst 3, 1) := by decide +kernel
theorem d_method_2_39 : decode method_2_code 39 = .ok (.if_icmp .le 10, 3) := by decide +kernel
theorem d_method_2_49 : decode method_2_code 49 = .ok (.aload 5, 2) := by decide +kernel
theorem d_method_2_51 : decode method_2_code 51 = .ok (.areturn, 1) := by decide +kernel
set_option maxRecDepth 65536 in
set_option maxHeartbeats 40000000 in
theorem rm_fill0 (l : Launch) (Z : State) (a0 : Array Value) (hw : ∀ d ∈ tables_1, d.before a0 Z = true) (ws : List Jvm.Cond) (q2 : Int32) (q3 : Int32) (q4 : Int32) (q5 : Int32)  (h0 : Heap) (n0 : Nat) (Z0 : n0 ≤ h0.size)  :
    MetFree l (⟨"com/example/wirecall/wirecall/wire/Fnv1aHash64PinLaw", "fill", "(IIIII)[B"⟩ : MethodName) (head1 (Jvm.Cond.code (⟨"com/example/wirecall/wirecall/wire/Fnv1aHash64PinLaw", "fill", "(IIIII)[B"⟩ : MethodName) method_2_code 6 (some (.array .byte)) :: ws) ({ frames := 0, cells := 1, slots := 0, locals := 0 } : Room)) (fun a U => a = #[(.int 0), (.int q2), (.int q3), (.int q4), (.int q5)] ∧ Z.Warmed39 U.vm ∧ U.heap = h0) (fun _ _ _ _ _ => True) (fun _ U o U' => ∃ v L, o = .returned v ∧ own_Qf Z [] h0 n0 v U'.heap L ∧ FrameEnd U o U' L ({ frames := 0, cells := 1, slots := 0, locals := 0 } : Room).cells ({ frames := 0, cells := 1, slots := 0, locals := 0 } : Room).slots) := by
  refine MetFree.of_bodySF (plainFor_of_name pn_com_example_wirecall_wirecall_wire_Fnv1aHash64PinLaw) hisR ?_
  intro p e s m args below meth c s₁ Bd hml0 hP hK
  obtain ⟨rfl, hZ, hh⟩ := hP
  have hx := Bd.exec
  have hby := Bd.bytes
  have hlk : meth.locks = false := BodyLoose.notSynchronized Bd
  have hml : c.maxLocals = 6 := hml0
  have hown : s.vm.findClass "com/example/wirecall/wirecall/wire/Fnv1aHash64PinLaw" = some m.cls := findClass_of_methodNamed Bd.named
  have hnm := (name_of_methodNamed Bd.named Bd.method).1
  have X0 : Stand p l e ({ frames := 0, cells := 1, slots := 0, locals := 0 } : Room) s m #[(.int 0), (.int q2), (.int q3), (.int q4), (.int q5)] below meth c s₁ [] 0 0 := Stand.of_body Bd
  have e0 : s₁.heap = h0 := by rw [← hh, Bd.state]; rfl
  have N0 := Fr.nil n0
  refine own_cast (K := own_K s (own_Qf Z [] h0 n0) 1 0) (ef_method_2 m (0 : Int32) q2 q3 q4 q5) ?_
  generalize hKK : own_K s (own_Qf Z [] h0 n0) 1 0 = KK
  show own_Go p e below KK s₁ (mkF m 0 #[.val (.int 0), .val (.int q2), .val (.int q3), .val (.int q4), .val (.int q5), .unset] [])
  have Kp0 : Keep h0 h0 [] := Keep.refl _ _
  refine own_at (fun t k => XS.iloadN X0.here hx rfl (hb hby d_method_2_0) rfl k) ?_
  show own_Go p e below KK s₁ (mkF m 1 #[.val (.int 0), .val (.int q2), .val (.int q3), .val (.int q4), .val (.int q5), .unset] [(.int 0)])
  obtain ⟨T1, h1, X1, e1, E1, V1, st1⟩ := own_newA X0 hx hZ (hw _ (List.mem_of_getElem? (i := 0) rfl)) e0 (g := (mkF m 1 #[.val (.int 0), .val (.int q2), .val (.int q3), .val (.int q4), .val (.int q5), .unset] [(.int 0)])) rfl (hb hby d_method_2_1) rfl (by decide) (N := 0) (by decide) (cap := 0) (by decide) (by decide) (by decide) (by decide) (d := "[B") (by first | rfl | decide +kernel) (vs := []) rfl
  obtain ⟨b1, g1⟩ : ∃ z, z = h0.size := ⟨_, rfl⟩
  rw [← g1] at V1 st1
  have g_b1 : n0 ≤ b1 := by rw [g1]; exact Z0
  have sz_b1 : h0.size ≤ b1 := by rw [g1]; exact Kp0.1
  have Zs1 : n0 ≤ h1.size := Nat.le_trans Z0 E1.1
  have Kp1 : Keep h0 h1 [] := Kp0.ext E1
  have A2_b1 : own_A Z h1 b1 "[B" .byte [] := V1
  refine own_of (fun t k => st1 t k) ?_
  show own_Go p e below KK T1 (mkF m 3 #[.val (.int 0), .val (.int q2), .val (.int q3), .val (.int q4), .val (.int q5), .unset] [(.ref b1)])
  refine own_at (fun t k => XS.astore X1.here hx rfl (hb hby d_method_2_3) rfl rfl (l' := #[.val (.int 0), .val (.int q2), .val (.int q3), .val (.int q4), .val (.int q5), .val (.ref b1)]) rfl k) ?_
  show own_Go p e below KK T1 (mkF m 5 #[.val (.int 0), .val (.int q2), .val (.int q3), .val (.int q4), .val (.int q5), .val (.ref b1)] [])
  refine own_at (fun t k => XS.iloadN X1.here hx rfl (hb hby d_method_2_5) rfl k) ?_
  show own_Go p e below KK T1 (mkF m 6 #[.val (.int 0), .val (.int q2), .val (.int q3), .val (.int q4), .val (.int q5), .val (.ref b1)] [(.int 0)])
  have hc6 : ¬ ((0 : Int32) < (0 : Int32)) := by decide
  refine own_at (fun t k => XS.ifYes X1.here hx rfl (pc0 := 6) (pc' := 15) rfl (hb hby d_method_2_6) rfl (Jvm.Free.XT.i0_le_t hc6) (by decide) (by decide) k) ?_
  show own_Go p e below KK T1 (mkF m 15 #[.val (.int 0), .val (.int q2), .val (.int q3), .val (.int q4), .val (.int q5), .val (.ref b1)] [])
  refine own_at (fun t k => XS.iloadN X1.here hx rfl (hb hby d_method_2_15) rfl k) ?_
  show own_Go p e below KK T1 (mkF m 16 #[.val (.int 0), .val (.int q2), .val (.int q3), .val (.int q4), .val (.int q5), .val (.ref b1)] [(.int 0)])
  refine own_at (fun t k => XS.iconst X1.here hx rfl (hb hby d_method_2_16) k) ?_
  show own_Go p e below KK T1 (mkF m 17 #[.val (.int 0), .val (.int q2), .val (.int q3), .val (.int q4), .val (.int q5), .val (.ref b1)] [(.int 1), (.int 0)])
  have hc17 : ¬ ((1 : Int32) < (0 : Int32)) := by decide
  refine own_at (fun t k => XS.icmpYes X1.here hx rfl (pc0 := 17) (pc' := 26) rfl (hb hby d_method_2_17) rfl (Jvm.Free.XT.ii_le_t hc17) (by decide) (by decide) k) ?_
  show own_Go p e below KK T1 (mkF m 26 #[.val (.int 0), .val (.int q2), .val (.int q3), .val (.int q4), .val (.int q5), .val (.ref b1)] [])
  refine own_at (fun t k => XS.iloadN X1.here hx rfl (hb hby d_method_2_26) rfl k) ?_
  show own_Go p e below KK T1 (mkF m 27 #[.val (.int 0), .val (.int q2), .val (.int q3), .val (.int q4), .val (.int q5), .val (.ref b1)] [(.int 0)])
  refine own_at (fun t k => XS.iconst X1.here hx rfl (hb hby d_method_2_27) k) ?_
  show own_Go p e below KK T1 (mkF m 28 #[.val (.int 0), .val (.int q2), .val (.int q3), .val (.int q4), .val (.int q5), .val (.ref b1)] [(.int 2), (.int 0)])
  have hc28 : ¬ ((2 : Int32) < (0 : Int32)) := by decide
  refine own_at (fun t k => XS.icmpYes X1.here hx rfl (pc0 := 28) (pc' := 37) rfl (hb hby d_method_2_28) rfl (Jvm.Free.XT.ii_le_t hc28) (by decide) (by decide) k) ?_
  show own_Go p e below KK T1 (mkF m 37 #[.val (.int 0), .val (.int q2), .val (.int q3), .val (.int q4), .val (.int q5), .val (.ref b1)] [])
  refine own_at (fun t k => XS.iloadN X1.here hx rfl (hb hby d_method_2_37) rfl k) ?_
  show own_Go p e below KK T1 (mkF m 38 #[.val (.int 0), .val (.int q2), .val (.int q3), .val (.int q4), .val (.int q5), .val (.ref b1)] [(.int 0)])
  refine own_at (fun t k => XS.iconst X1.here hx rfl (hb hby d_method_2_38) k) ?_
  show own_Go p e below KK T1 (mkF m 39 #[.val (.int 0), .val (.int q2), .val (.int q3), .val (.int q4), .val (.int q5), .val (.ref b1)] [(.int 3), (.int 0)])
  have hc39 : ¬ ((3 : Int32) < (0 : Int32)) := by decide
  refine own_at (fun t k => XS.icmpYes X1.here hx rfl (pc0 := 39) (pc' := 49) rfl (hb hby d_method_2_39) rfl (Jvm.Free.XT.ii_le_t hc39) (by decide) (by decide) k) ?_
  show own_Go p e below KK T1 (mkF m 49 #[.val (.int 0), .val (.int q2), .val (.int q3), .val (.int q4), .val (.int q5), .val (.ref b1)] [])
  refine own_at (fun t k => XS.aload X1.here hx rfl (hb hby d_method_2_49) rfl rfl k) ?_
  show own_Go p e below KK T1 (mkF m 51 #[.val (.int 0), .val (.int q2), .val (.int q3), .val (.int q4), .val (.int q5), .val (.ref b1)] [(.ref b1)])
  subst hKK
  exact own_retA X1 hx hlk rfl Bd.returns rfl (hb hby d_method_2_51) ⟨b1, rfl, N0, by rw [e1]; exact Kp1, g_b1, sz_b1, by rw [e1]; exact A2_b1⟩ (Nat.le_of_ble_eq_true rfl) (Nat.le_of_ble_eq_true rfl)
theorem d_method_2_9 : decode method_2_code 9 = .ok (.aload 5, 2) := by decide +kernel
theorem d_method_2_11 : decode method_2_code 11 = .ok (.iconst 0, 1) := by decide +kernel
theorem d_method_2_12 : decode method_2_code 12 = .ok (.iload_n 1, 1) := by decide +kernel
theorem d_method_2_13 : decode method_2_code 13 = .ok (.i2b, 1) := by decide +kernel
theorem d_method_2_14 : decode method_2_code 14 = .ok (.bastore, 1) := by decide +kernel
set_option maxRecDepth 65536 in
set_option maxHeartbeats 40000000 in
theorem rm_fill1 (l : Launch) (Z : State) (a0 : Array Value) (hw : ∀ d ∈ tables_1, d.before a0 Z = true) (ws : List Jvm.Cond) (q2 : Int32) (q3 : Int32) (q4 : Int32) (q5 : Int32)  (h0 : Heap) (n0 : Nat) (Z0 : n0 ≤ h0.size)  :
    MetFree l (⟨"com/example/wirecall/wirecall/wire/Fnv1aHash64PinLaw", "fill", "(IIIII)[B"⟩ : MethodName) (head1 (Jvm.Cond.code (⟨"com/example/wirecall/wirecall/wire/Fnv1aHash64PinLaw", "fill", "(IIIII)[B"⟩ : MethodName) method_2_code 6 (some (.array .byte)) :: ws) ({ frames := 0, cells := 1, slots := 1, locals := 0 } : Room)) (fun a U => a = #[(.int 1), (.int q2), (.int q3), (.int q4), (.int q5)] ∧ Z.Warmed39 U.vm ∧ U.heap = h0) (fun _ _ _ _ _ => True) (fun _ U o U' => ∃ v L, o = .returned v ∧ own_Qf Z [(.int (q2.toInt8.toInt32))] h0 n0 v U'.heap L ∧ FrameEnd U o U' L ({ frames := 0, cells := 1, slots := 1, locals := 0 } : Room).cells ({ frames := 0, cells := 1, slots := 1, locals := 0 } : Room).slots) := by
  refine MetFree.of_bodySF (plainFor_of_name pn_com_example_wirecall_wirecall_wire_Fnv1aHash64PinLaw) hisR ?_
  intro p e s m args below meth c s₁ Bd hml0 hP hK
  obtain ⟨rfl, hZ, hh⟩ := hP
  have hx := Bd.exec
  have hby := Bd.bytes
  have hlk : meth.locks = false := BodyLoose.notSynchronized Bd
  have hml : c.maxLocals = 6 := hml0
  have hown : s.vm.findClass "com/example/wirecall/wirecall/wire/Fnv1aHash64PinLaw" = some m.cls := findClass_of_methodNamed Bd.named
  have hnm := (name_of_methodNamed Bd.named Bd.method).1
  have X0 : Stand p l e ({ frames := 0, cells := 1, slots := 1, locals := 0 } : Room) s m #[(.int 1), (.int q2), (.int q3), (.int q4), (.int q5)] below meth c s₁ [] 0 0 := Stand.of_body Bd
  have e0 : s₁.heap = h0 := by rw [← hh, Bd.state]; rfl
  have N0 := Fr.nil n0
  refine own_cast (K := own_K s (own_Qf Z [(.int (q2.toInt8.toInt32))] h0 n0) 1 1) (ef_method_2 m (1 : Int32) q2 q3 q4 q5) ?_
  generalize hKK : own_K s (own_Qf Z [(.int (q2.toInt8.toInt32))] h0 n0) 1 1 = KK
  show own_Go p e below KK s₁ (mkF m 0 #[.val (.int 1), .val (.int q2), .val (.int q3), .val (.int q4), .val (.int q5), .unset] [])
  have Kp0 : Keep h0 h0 [] := Keep.refl _ _
  refine own_at (fun t k => XS.iloadN X0.here hx rfl (hb hby d_method_2_0) rfl k) ?_
  show own_Go p e below KK s₁ (mkF m 1 #[.val (.int 1), .val (.int q2), .val (.int q3), .val (.int q4), .val (.int q5), .unset] [(.int 1)])
  obtain ⟨T1, h1, X1, e1, E1, V1, st1⟩ := own_newA X0 hx hZ (hw _ (List.mem_of_getElem? (i := 0) rfl)) e0 (g := (mkF m 1 #[.val (.int 1), .val (.int q2), .val (.int q3), .val (.int q4), .val (.int q5), .unset] [(.int 1)])) rfl (hb hby d_method_2_1) rfl (by decide) (N := 1) (by decide) (cap := 1) (by decide) (by decide) (by decide) (by decide) (d := "[B") (by first | rfl | decide +kernel) (vs := [(.int 0)]) rfl
  obtain ⟨b1, g1⟩ : ∃ z, z = h0.size := ⟨_, rfl⟩
  rw [← g1] at V1 st1
  have g_b1 : n0 ≤ b1 := by rw [g1]; exact Z0
  have sz_b1 : h0.size ≤ b1 := by rw [g1]; exact Kp0.1
  have Zs1 : n0 ≤ h1.size := Nat.le_trans Z0 E1.1
  have Kp1 : Keep h0 h1 [] := Kp0.ext E1
  have A2_b1 : own_A Z h1 b1 "[B" .byte [(.int 0)] := V1
  refine own_of (fun t k => st1 t k) ?_
  show own_Go p e below KK T1 (mkF m 3 #[.val (.int 1), .val (.int q2), .val (.int q3), .val (.int q4), .val (.int q5), .unset] [(.ref b1)])
  refine own_at (fun t k => XS.astore X1.here hx rfl (hb hby d_method_2_3) rfl rfl (l' := #[.val (.int 1), .val (.int q2), .val (.int q3), .val (.int q4), .val (.int q5), .val (.ref b1)]) rfl k) ?_
  show own_Go p e below KK T1 (mkF m 5 #[.val (.int 1), .val (.int q2), .val (.int q3), .val (.int q4), .val (.int q5), .val (.ref b1)] [])
  refine own_at (fun t k => XS.iloadN X1.here hx rfl (hb hby d_method_2_5) rfl k) ?_
  show own_Go p e below KK T1 (mkF m 6 #[.val (.int 1), .val (.int q2), .val (.int q3), .val (.int q4), .val (.int q5), .val (.ref b1)] [(.int 1)])
  have hc6 : (0 : Int32) < (1 : Int32) := by decide
  refine own_at (fun t k => XS.ifNo X1.here hx rfl (hb hby d_method_2_6) rfl (Jvm.Free.XT.i0_le_f hc6) k) ?_
  show own_Go p e below KK T1 (mkF m 9 #[.val (.int 1), .val (.int q2), .val (.int q3), .val (.int q4), .val (.int q5), .val (.ref b1)] [])
  refine own_at (fun t k => XS.aload X1.here hx rfl (hb hby d_method_2_9) rfl rfl k) ?_
  show own_Go p e below KK T1 (mkF m 11 #[.val (.int 1), .val (.int q2), .val (.int q3), .val (.int q4), .val (.int q5), .val (.ref b1)] [(.ref b1)])
  refine own_at (fun t k => XS.iconst X1.here hx rfl (hb hby d_method_2_11) k) ?_
  show own_Go p e below KK T1 (mkF m 12 #[.val (.int 1), .val (.int q2), .val (.int q3), .val (.int q4), .val (.int q5), .val (.ref b1)] [(.int 0), (.ref b1)])
  refine own_at (fun t k => XS.iloadN X1.here hx rfl (hb hby d_method_2_12) rfl k) ?_
  show own_Go p e below KK T1 (mkF m 13 #[.val (.int 1), .val (.int q2), .val (.int q3), .val (.int q4), .val (.int q5), .val (.ref b1)] [(.int q2), (.int 0), (.ref b1)])
  refine own_at (fun t k => XS.i2b X1.here hx rfl (hb hby d_method_2_13) rfl k) ?_
  show own_Go p e below KK T1 (mkF m 14 #[.val (.int 1), .val (.int q2), .val (.int q3), .val (.int q4), .val (.int q5), .val (.ref b1)] [(.int (q2.toInt8.toInt32)), (.int 0), (.ref b1)])
  obtain ⟨T3, h3, X3, e3, W3, V3, st3⟩ := own_stB X1 hx hZ e1 A2_b1 (j := (0 : Int32)) (y := (q2.toInt8.toInt32)) (own_narB _) (i := 0) (by decide) (by decide) (show (0 : Nat) < 1 from by decide) (g := (mkF m 14 #[.val (.int 1), .val (.int q2), .val (.int q3), .val (.int q4), .val (.int q5), .val (.ref b1)] [(.int (q2.toInt8.toInt32)), (.int 0), (.ref b1)])) rfl rfl (hb hby d_method_2_14)
  have N3 := Fr.snoc X3 N0 g_b1
  have Zs3 : n0 ≤ h3.size := (by rw [W3.size]; exact Zs1)
  have Kp3 : Keep h0 h3 [] := Kp1.wr W3 (Or.inr sz_b1)
  have A4_b1 : own_A Z h3 b1 "[B" .byte [(.int (q2.toInt8.toInt32))] := V3
  refine own_of (fun t k => st3 t k) ?_
  show own_Go p e below KK T3 (mkF m 15 #[.val (.int 1), .val (.int q2), .val (.int q3), .val (.int q4), .val (.int q5), .val (.ref b1)] [])
  refine own_at (fun t k => XS.iloadN X3.here hx rfl (hb hby d_method_2_15) rfl k) ?_
  show own_Go p e below KK T3 (mkF m 16 #[.val (.int 1), .val (.int q2), .val (.int q3), .val (.int q4), .val (.int q5), .val (.ref b1)] [(.int 1)])
  refine own_at (fun t k => XS.iconst X3.here hx rfl (hb hby d_method_2_16) k) ?_
  show own_Go p e below KK T3 (mkF m 17 #[.val (.int 1), .val (.int q2), .val (.int q3), .val (.int q4), .val (.int q5), .val (.ref b1)] [(.int 1), (.int 1)])
  have hc17 : ¬ ((1 : Int32) < (1 : Int32)) := by decide
  refine own_at (fun t k => XS.icmpYes X3.here hx rfl (pc0 := 17) (pc' := 26) rfl (hb hby d_method_2_17) rfl (Jvm.Free.XT.ii_le_t hc17) (by decide) (by decide) k) ?_
  show own_Go p e below KK T3 (mkF m 26 #[.val (.int 1), .val (.int q2), .val (.int q3), .val (.int q4), .val (.int q5), .val (.ref b1)] [])
  refine own_at (fun t k => XS.iloadN X3.here hx rfl (hb hby d_method_2_26) rfl k) ?_
  show own_Go p e below KK T3 (mkF m 27 #[.val (.int 1), .val (.int q2), .val (.int q3), .val (.int q4), .val (.int q5), .val (.ref b1)] [(.int 1)])
  refine own_at (fun t k => XS.iconst X3.here hx rfl (hb hby d_method_2_27) k) ?_
  show own_Go p e below KK T3 (mkF m 28 #[.val (.int 1), .val (.int q2), .val (.int q3), .val (.int q4), .val (.int q5), .val (.ref b1)] [(.int 2), (.int 1)])
  have hc28 : ¬ ((2 : Int32) < (1 : Int32)) := by decide
  refine own_at (fun t k => XS.icmpYes X3.here hx rfl (pc0 := 28) (pc' := 37) rfl (hb hby d_method_2_28) rfl (Jvm.Free.XT.ii_le_t hc28) (by decide) (by decide) k) ?_
  show own_Go p e below KK T3 (mkF m 37 #[.val (.int 1), .val (.int q2), .val (.int q3), .val (.int q4), .val (.int q5), .val (.ref b1)] [])
  refine own_at (fun t k => XS.iloadN X3.here hx rfl (hb hby d_method_2_37) rfl k) ?_
  show own_Go p e below KK T3 (mkF m 38 #[.val (.int 1), .val (.int q2), .val (.int q3), .val (.int q4), .val (.int q5), .val (.ref b1)] [(.int 1)])
  refine own_at (fun t k => XS.iconst X3.here hx rfl (hb hby d_method_2_38) k) ?_
  show own_Go p e below KK T3 (mkF m 39 #[.val (.int 1), .val (.int q2), .val (.int q3), .val (.int q4), .val (.int q5), .val (.ref b1)] [(.int 3), (.int 1)])
  have hc39 : ¬ ((3 : Int32) < (1 : Int32)) := by decide
  refine own_at (fun t k => XS.icmpYes X3.here hx rfl (pc0 := 39) (pc' := 49) rfl (hb hby d_method_2_39) rfl (Jvm.Free.XT.ii_le_t hc39) (by decide) (by decide) k) ?_
  show own_Go p e below KK T3 (mkF m 49 #[.val (.int 1), .val (.int q2), .val (.int q3), .val (.int q4), .val (.int q5), .val (.ref b1)] [])
  refine own_at (fun t k => XS.aload X3.here hx rfl (hb hby d_method_2_49) rfl rfl k) ?_
  show own_Go p e below KK T3 (mkF m 51 #[.val (.int 1), .val (.int q2), .val (.int q3), .val (.int q4), .val (.int q5), .val (.ref b1)] [(.ref b1)])
  subst hKK
  exact own_retA X3 hx hlk rfl Bd.returns rfl (hb hby d_method_2_51) ⟨b1, rfl, N3, by rw [e3]; exact Kp3, g_b1, sz_b1, by rw [e3]; exact A4_b1⟩ (Nat.le_of_ble_eq_true rfl) (Nat.le_of_ble_eq_true rfl)
theorem d_method_2_20 : decode method_2_code 20 = .ok (.aload 5, 2) := by decide +kernel
theorem d_method_2_22 : decode method_2_code 22 = .ok (.iconst 1, 1) := by decide +kernel
theorem d_method_2_23 : decode method_2_code 23 = .ok (.iload_n 2, 1) := by decide +kernel
theorem d_method_2_24 : decode method_2_code 24 = .ok (.i2b, 1) := by decide +kernel
theorem d_method_2_25 : decode method_2_code 25 = .ok (.bastore, 1) := by decide +kernel
set_option maxRecDepth 65536 in
set_option maxHeartbeats 40000000 in
theorem rm_fill2 (l : Launch) (Z : State) (a0 : Array Value) (hw : ∀ d ∈ tables_1, d.before a0 Z = true) (ws : List Jvm.Cond) (q2 : Int32) (q3 : Int32) (q4 : Int32) (q5 : Int32)  (h0 : Heap) (n0 : Nat) (Z0 : n0 ≤ h0.size)  :
    MetFree l (⟨"com/example/wirecall/wirecall/wire/Fnv1aHash64PinLaw", "fill", "(IIIII)[B"⟩ : MethodName) (head1 (Jvm.Cond.code (⟨"com/example/wirecall/wirecall/wire/Fnv1aHash64PinLaw", "fill", "(IIIII)[B"⟩ : MethodName) method_2_code 6 (some (.array .byte)) :: ws) ({ frames := 0, cells := 1, slots := 2, locals := 0 } : Room)) (fun a U => a = #[(.int 2), (.int q2), (.int q3), (.int q4), (.int q5)] ∧ Z.Warmed39 U.vm ∧ U.heap = h0) (fun _ _ _ _ _ => True) (fun _ U o U' => ∃ v L, o = .returned v ∧ own_Qf Z [(.int (q2.toInt8.toInt32)), (.int (q3.toInt8.toInt32))] h0 n0 v U'.heap L ∧ FrameEnd U o U' L ({ frames := 0, cells := 1, slots := 2, locals := 0 } : Room).cells ({ frames := 0, cells := 1, slots := 2, locals := 0 } : Room).slots) := by
  refine MetFree.of_bodySF (plainFor_of_name pn_com_example_wirecall_wirecall_wire_Fnv1aHash64PinLaw) hisR ?_
  intro p e s m args below meth c s₁ Bd hml0 hP hK
  obtain ⟨rfl, hZ, hh⟩ := hP
  have hx := Bd.exec
  have hby := Bd.bytes
  have hlk : meth.locks = false := BodyLoose.notSynchronized Bd
  have hml : c.maxLocals = 6 := hml0
  have hown : s.vm.findClass "com/example/wirecall/wirecall/wire/Fnv1aHash64PinLaw" = some m.cls := findClass_of_methodNamed Bd.named
  have hnm := (name_of_methodNamed Bd.named Bd.method).1
  have X0 : Stand p l e ({ frames := 0, cells := 1, slots := 2, locals := 0 } : Room) s m #[(.int 2), (.int q2), (.int q3), (.int q4), (.int q5)] below meth c s₁ [] 0 0 := Stand.of_body Bd
  have e0 : s₁.heap = h0 := by rw [← hh, Bd.state]; rfl
  have N0 := Fr.nil n0
  refine own_cast (K := own_K s (own_Qf Z [(.int (q2.toInt8.toInt32)), (.int (q3.toInt8.toInt32))] h0 n0) 1 2) (ef_method_2 m (2 : Int32) q2 q3 q4 q5) ?_
  generalize hKK : own_K s (own_Qf Z [(.int (q2.toInt8.toInt32)), (.int (q3.toInt8.toInt32))] h0 n0) 1 2 = KK
  show own_Go p e below KK s₁ (mkF m 0 #[.val (.int 2), .val (.int q2), .val (.int q3), .val (.int q4), .val (.int q5), .unset] [])
  have Kp0 : Keep h0 h0 [] := Keep.refl _ _
  refine own_at (fun t k => XS.iloadN X0.here hx rfl (hb hby d_method_2_0) rfl k) ?_
  show own_Go p e below KK s₁ (mkF m 1 #[.val (.int 2), .val (.int q2), .val (.int q3), .val (.int q4), .val (.int q5), .unset] [(.int 2)])
  obtain ⟨T1, h1, X1, e1, E1, V1, st1⟩ := own_newA X0 hx hZ (hw _ (List.mem_of_getElem? (i := 0) rfl)) e0 (g := (mkF m 1 #[.val (.int 2), .val (.int q2), .val (.int q3), .val (.int q4), .val (.int q5), .unset] [(.int 2)])) rfl (hb hby d_method_2_1) rfl (by decide) (N := 2) (by decide) (cap := 2) (by decide) (by decide) (by decide) (by decide) (d := "[B") (by first | rfl | decide +kernel) (vs := [(.int 0), (.int 0)]) rfl
  obtain ⟨b1, g1⟩ : ∃ z, z = h0.size := ⟨_, rfl⟩
  rw [← g1] at V1 st1
  have g_b1 : n0 ≤ b1 := by rw [g1]; exact Z0
  have sz_b1 : h0.size ≤ b1 := by rw [g1]; exact Kp0.1
  have Zs1 : n0 ≤ h1.size := Nat.le_trans Z0 E1.1
  have Kp1 : Keep h0 h1 [] := Kp0.ext E1
  have A2_b1 : own_A Z h1 b1 "[B" .byte [(.int 0), (.int 0)] := V1
  refine own_of (fun t k => st1 t k) ?_
  show own_Go p e below KK T1 (mkF m 3 #[.val (.int 2), .val (.int q2), .val (.int q3), .val (.int q4), .val (.int q5), .unset] [(.ref b1)])
  refine own_at (fun t k => XS.astore X1.here hx rfl (hb hby d_method_2_3) rfl rfl (l' := #[.val (.int 2), .val (.int q2), .val (.int q3), .val (.int q4), .val (.int q5), .val (.ref b1)]) rfl k) ?_
  show own_Go p e below KK T1 (mkF m 5 #[.val (.int 2), .val (.int q2), .val (.int q3), .val (.int q4), .val (.int q5), .val (.ref b1)] [])
  refine own_at (fun t k => XS.iloadN X1.here hx rfl (hb hby d_method_2_5) rfl k) ?_
  show own_Go p e below KK T1 (mkF m 6 #[.val (.int 2), .val (.int q2), .val (.int q3), .val (.int q4), .val (.int q5), .val (.ref b1)] [(.int 2)])
  have hc6 : (0 : Int32) < (2 : Int32) := by decide
  refine own_at (fun t k => XS.ifNo X1.here hx rfl (hb hby d_method_2_6) rfl (Jvm.Free.XT.i0_le_f hc6) k) ?_
  show own_Go p e below KK T1 (mkF m 9 #[.val (.int 2), .val (.int q2), .val (.int q3), .val (.int q4), .val (.int q5), .val (.ref b1)] [])
  refine own_at (fun t k => XS.aload X1.here hx rfl (hb hby d_method_2_9) rfl rfl k) ?_
  show own_Go p e below KK T1 (mkF m 11 #[.val (.int 2), .val (.int q2), .val (.int q3), .val (.int q4), .val (.int q5), .val (.ref b1)] [(.ref b1)])
  refine own_at (fun t k => XS.iconst X1.here hx rfl (hb hby d_method_2_11) k) ?_
  show own_Go p e below KK T1 (mkF m 12 #[.val (.int 2), .val (.int q2), .val (.int q3), .val (.int q4), .val (.int q5), .val (.ref b1)] [(.int 0), (.ref b1)])
  refine own_at (fun t k => XS.iloadN X1.here hx rfl (hb hby d_method_2_12) rfl k) ?_
  show own_Go p e below KK T1 (mkF m 13 #[.val (.int 2), .val (.int q2), .val (.int q3), .val (.int q4), .val (.int q5), .val (.ref b1)] [(.int q2), (.int 0), (.ref b1)])
  refine own_at (fun t k => XS.i2b X1.here hx rfl (hb hby d_method_2_13) rfl k) ?_
  show own_Go p e below KK T1 (mkF m 14 #[.val (.int 2), .val (.int q2), .val (.int q3), .val (.int q4), .val (.int q5), .val (.ref b1)] [(.int (q2.toInt8.toInt32)), (.int 0), (.ref b1)])
  obtain ⟨T3, h3, X3, e3, W3, V3, st3⟩ := own_stB X1 hx hZ e1 A2_b1 (j := (0 : Int32)) (y := (q2.toInt8.toInt32)) (own_narB _) (i := 0) (by decide) (by decide) (show (0 : Nat) < 2 from by decide) (g := (mkF m 14 #[.val (.int 2), .val (.int q2), .val (.int q3), .val (.int q4), .val (.int q5), .val (.ref b1)] [(.int (q2.toInt8.toInt32)), (.int 0), (.ref b1)])) rfl rfl (hb hby d_method_2_14)
  have N3 := Fr.snoc X3 N0 g_b1
  have Zs3 : n0 ≤ h3.size := (by rw [W3.size]; exact Zs1)
  have Kp3 : Keep h0 h3 [] := Kp1.wr W3 (Or.inr sz_b1)
  have A4_b1 : own_A Z h3 b1 "[B" .byte [(.int (q2.toInt8.toInt32)), (.int 0)] := V3
  refine own_of (fun t k => st3 t k) ?_
  show own_Go p e below KK T3 (mkF m 15 #[.val (.int 2), .val (.int q2), .val (.int q3), .val (.int q4), .val (.int q5), .val (.ref b1)] [])
  refine own_at (fun t k => XS.iloadN X3.here hx rfl (hb hby d_method_2_15) rfl k) ?_
  show own_Go p e below KK T3 (mkF m 16 #[.val (.int 2), .val (.int q2), .val (.int q3), .val (.int q4), .val (.int q5), .val (.ref b1)] [(.int 2)])
  refine own_at (fun t k => XS.iconst X3.here hx rfl (hb hby d_method_2_16) k) ?_
  show own_Go p e below KK T3 (mkF m 17 #[.val (.int 2), .val (.int q2), .val (.int q3), .val (.int q4), .val (.int q5), .val (.ref b1)] [(.int 1), (.int 2)])
  have hc17 : (1 : Int32) < (2 : Int32) := by decide
  refine own_at (fun t k => XS.icmpNo X3.here hx rfl (hb hby d_method_2_17) rfl (Jvm.Free.XT.ii_le_f hc17) k) ?_
  show own_Go p e below KK T3 (mkF m 20 #[.val (.int 2), .val (.int q2), .val (.int q3), .val (.int q4), .val (.int q5), .val (.ref b1)] [])
  refine own_at (fun t k => XS.aload X3.here hx rfl (hb hby d_method_2_20) rfl rfl k) ?_
  show own_Go p e below KK T3 (mkF m 22 #[.val (.int 2), .val (.int q2), .val (.int q3), .val (.int q4), .val (.int q5), .val (.ref b1)] [(.ref b1)])
  refine own_at (fun t k => XS.iconst X3.here hx rfl (hb hby d_method_2_22) k) ?_
  show own_Go p e below KK T3 (mkF m 23 #[.val (.int 2), .val (.int q2), .val (.int q3), .val (.int q4), .val (.int q5), .val (.ref b1)] [(.int 1), (.ref b1)])
  refine own_at (fun t k => XS.iloadN X3.here hx rfl (hb hby d_method_2_23) rfl k) ?_
  show own_Go p e below KK T3 (mkF m 24 #[.val (.int 2), .val (.int q2), .val (.int q3), .val (.int q4), .val (.int q5), .val (.ref b1)] [(.int q3), (.int 1), (.ref b1)])
  refine own_at (fun t k => XS.i2b X3.here hx rfl (hb hby d_method_2_24) rfl k) ?_
  show own_Go p e below KK T3 (mkF m 25 #[.val (.int 2), .val (.int q2), .val (.int q3), .val (.int q4), .val (.int q5), .val (.ref b1)] [(.int (q3.toInt8.toInt32)), (.int 1), (.ref b1)])
  obtain ⟨T5, h5, X5, e5, W5, V5, st5⟩ := own_stB X3 hx hZ e3 A4_b1 (j := (1 : Int32)) (y := (q3.toInt8.toInt32)) (own_narB _) (i := 1) (by decide) (by decide) (show (1 : Nat) < 2 from by decide) (g := (mkF m 25 #[.val (.int 2), .val (.int q2), .val (.int q3), .val (.int q4), .val (.int q5), .val (.ref b1)] [(.int (q3.toInt8.toInt32)), (.int 1), (.ref b1)])) rfl rfl (hb hby d_method_2_25)
  have N5 := Fr.snoc X5 N3 g_b1
  have Zs5 : n0 ≤ h5.size := (by rw [W5.size]; exact Zs3)
  have Kp5 : Keep h0 h5 [] := Kp3.wr W5 (Or.inr sz_b1)
  have A6_b1 : own_A Z h5 b1 "[B" .byte [(.int (q2.toInt8.toInt32)), (.int (q3.toInt8.toInt32))] := V5
  refine own_of (fun t k => st5 t k) ?_
  show own_Go p e below KK T5 (mkF m 26 #[.val (.int 2), .val (.int q2), .val (.int q3), .val (.int q4), .val (.int q5), .val (.ref b1)] [])
  refine own_at (fun t k => XS.iloadN X5.here hx rfl (hb hby d_method_2_26) rfl k) ?_
  show own_Go p e below KK T5 (mkF m 27 #[.val (.int 2), .val (.int q2), .val (.int q3), .val (.int q4), .val (.int q5), .val (.ref b1)] [(.int 2)])
  refine own_at (fun t k => XS.iconst X5.here hx rfl (hb hby d_method_2_27) k) ?_
  show own_Go p e below KK T5 (mkF m 28 #[.val (.int 2), .val (.int q2), .val (.int q3), .val (.int q4), .val (.int q5), .val (.ref b1)] [(.int 2), (.int 2)])
  have hc28 : ¬ ((2 : Int32) < (2 : Int32)) := by decide
  refine own_at (fun t k => XS.icmpYes X5.here hx rfl (pc0 := 28) (pc' := 37) rfl (hb hby d_method_2_28) rfl (Jvm.Free.XT.ii_le_t hc28) (by decide) (by decide) k) ?_
  show own_Go p e below KK T5 (mkF m 37 #[.val (.int 2), .val (.int q2), .val (.int q3), .val (.int q4), .val (.int q5), .val (.ref b1)] [])
  refine own_at (fun t k => XS.iloadN X5.here hx rfl (hb hby d_method_2_37) rfl k) ?_
  show own_Go p e below KK T5 (mkF m 38 #[.val (.int 2), .val (.int q2), .val (.int q3), .val (.int q4), .val (.int q5), .val (.ref b1)] [(.int 2)])
  refine own_at (fun t k => XS.iconst X5.here hx rfl (hb hby d_method_2_38) k) ?_
  show own_Go p e below KK T5 (mkF m 39 #[.val (.int 2), .val (.int q2), .val (.int q3), .val (.int q4), .val (.int q5), .val (.ref b1)] [(.int 3), (.int 2)])
  have hc39 : ¬ ((3 : Int32) < (2 : Int32)) := by decide
  refine own_at (fun t k => XS.icmpYes X5.here hx rfl (pc0 := 39) (pc' := 49) rfl (hb hby d_method_2_39) rfl (Jvm.Free.XT.ii_le_t hc39) (by decide) (by decide) k) ?_
  show own_Go p e below KK T5 (mkF m 49 #[.val (.int 2), .val (.int q2), .val (.int q3), .val (.int q4), .val (.int q5), .val (.ref b1)] [])
  refine own_at (fun t k => XS.aload X5.here hx rfl (hb hby d_method_2_49) rfl rfl k) ?_
  show own_Go p e below KK T5 (mkF m 51 #[.val (.int 2), .val (.int q2), .val (.int q3), .val (.int q4), .val (.int q5), .val (.ref b1)] [(.ref b1)])
  subst hKK
  exact own_retA X5 hx hlk rfl Bd.returns rfl (hb hby d_method_2_51) ⟨b1, rfl, N5, by rw [e5]; exact Kp5, g_b1, sz_b1, by rw [e5]; exact A6_b1⟩ (Nat.le_of_ble_eq_true rfl) (Nat.le_of_ble_eq_true rfl)
theorem d_method_2_31 : decode method_2_code 31 = .ok (.aload 5, 2) := by decide +kernel
theorem d_method_2_33 : decode method_2_code 33 = .ok (.iconst 2, 1) := by decide +kernel
theorem d_method_2_34 : decode method_2_code 34 = .ok (.iload_n 3, 1) := by decide +kernel
theorem d_method_2_35 : decode method_2_code 35 = .ok (.i2b, 1) := by decide +kernel
theorem d_method_2_36 : decode method_2_code 36 = .ok (.bastore, 1) := by decide +kernel
set_option maxRecDepth 65536 in
set_option maxHeartbeats 40000000 in
theorem rm_fill3 (l : Launch) (Z : State) (a0 : Array Value) (hw : ∀ d ∈ tables_1, d.before a0 Z = true) (ws : List Jvm.Cond) (q2 : Int32) (q3 : Int32) (q4 : Int32) (q5 : Int32)  (h0 : Heap) (n0 : Nat) (Z0 : n0 ≤ h0.size)  :
    MetFree l (⟨"com/example/wirecall/wirecall/wire/Fnv1aHash64PinLaw", "fill", "(IIIII)[B"⟩ : MethodName) (head1 (Jvm.Cond.code (⟨"com/example/wirecall/wirecall/wire/Fnv1aHash64PinLaw", "fill", "(IIIII)[B"⟩ : MethodName) method_2_code 6 (some (.array .byte)) :: ws) ({ frames := 0, cells := 1, slots := 3, locals := 0 } : Room)) (fun a U => a = #[(.int 3), (.int q2), (.int q3), (.int q4), (.int q5)] ∧ Z.Warmed39 U.vm ∧ U.heap = h0) (fun _ _ _ _ _ => True) (fun _ U o U' => ∃ v L, o = .returned v ∧ own_Qf Z [(.int (q2.toInt8.toInt32)), (.int (q3.toInt8.toInt32)), (.int (q4.toInt8.toInt32))] h0 n0 v U'.heap L ∧ FrameEnd U o U' L ({ frames := 0, cells := 1, slots := 3, locals := 0 } : Room).cells ({ frames := 0, cells := 1, slots := 3, locals := 0 } : Room).slots) := by
  refine MetFree.of_bodySF (plainFor_of_name pn_com_example_wirecall_wirecall_wire_Fnv1aHash64PinLaw) hisR ?_
  intro p e s m args below meth c s₁ Bd hml0 hP hK
  obtain ⟨rfl, hZ, hh⟩ := hP
  have hx := Bd.exec
  have hby := Bd.bytes
  have hlk : meth.locks = false := BodyLoose.notSynchronized Bd
  have hml : c.maxLocals = 6 := hml0
  have hown : s.vm.findClass "com/example/wirecall/wirecall/wire/Fnv1aHash64PinLaw" = some m.cls := findClass_of_methodNamed Bd.named
  have hnm := (name_of_methodNamed Bd.named Bd.method).1
  have X0 : Stand p l e ({ frames := 0, cells := 1, slots := 3, locals := 0 } : Room) s m #[(.int 3), (.int q2), (.int q3), (.int q4), (.int q5)] below meth c s₁ [] 0 0 := Stand.of_body Bd
  have e0 : s₁.heap = h0 := by rw [← hh, Bd.state]; rfl
  have N0 := Fr.nil n0
  refine own_cast (K := own_K s (own_Qf Z [(.int (q2.toInt8.toInt32)), (.int (q3.toInt8.toInt32)), (.int (q4.toInt8.toInt32))] h0 n0) 1 3) (ef_method_2 m (3 : Int32) q2 q3 q4 q5) ?_
  generalize hKK : own_K s (own_Qf Z [(.int (q2.toInt8.toInt32)), (.int (q3.toInt8.toInt32)), (.int (q4.toInt8.toInt32))] h0 n0) 1 3 = KK
  show own_Go p e below KK s₁ (mkF m 0 #[.val (.int 3), .val (.int q2), .val (.int q3), .val (.int q4), .val (.int q5), .unset] [])
  have Kp0 : Keep h0 h0 [] := Keep.refl _ _
  refine own_at (fun t k => XS.iloadN X0.here hx rfl (hb hby d_method_2_0) rfl k) ?_
  show own_Go p e below KK s₁ (mkF m 1 #[.val (.int 3), .val (.int q2), .val (.int q3), .val (.int q4), .val (.int q5), .unset] [(.int 3)])
  obtain ⟨T1, h1, X1, e1, E1, V1, st1⟩ := own_newA X0 hx hZ (hw _ (List.mem_of_getElem? (i := 0) rfl)) e0 (g := (mkF m 1 #[.val (.int 3), .val (.int q2), .val (.int q3), .val (.int q4), .val (.int q5), .unset] [(.int 3)])) rfl (hb hby d_method_2_1) rfl (by decide) (N := 3) (by decide) (cap := 3) (by decide) (by decide) (by decide) (by decide) (d := "[B") (by first | rfl | decide +kernel) (vs := [(.int 0), (.int 0), (.int 0)]) rfl
  obtain ⟨b1, g1⟩ : ∃ z, z = h0.size := ⟨_, rfl⟩
  rw [← g1] at V1 st1
  have g_b1 : n0 ≤ b1 := by rw [g1]; exact Z0
  have sz_b1 : h0.size ≤ b1 := by rw [g1]; exact Kp0.1
  have Zs1 : n0 ≤ h1.size := Nat.le_trans Z0 E1.1
  have Kp1 : Keep h0 h1 [] := Kp0.ext E1
  have A2_b1 : own_A Z h1 b1 "[B" .byte [(.int 0), (.int 0), (.int 0)] := V1
  refine own_of (fun t k => st1 t k) ?_
  show own_Go p e below KK T1 (mkF m 3 #[.val (.int 3), .val (.int q2), .val (.int q3), .val (.int q4), .val (.int q5), .unset] [(.ref b1)])
  refine own_at (fun t k => XS.astore X1.here hx rfl (hb hby d_method_2_3) rfl rfl (l' := #[.val (.int 3), .val (.int q2), .val (.int q3), .val (.int q4), .val (.int q5), .val (.ref b1)]) rfl k) ?_
  show own_Go p e below KK T1 (mkF m 5 #[.val (.int 3), .val (.int q2), .val (.int q3), .val (.int q4), .val (.int q5), .val (.ref b1)] [])
  refine own_at (fun t k => XS.iloadN X1.here hx rfl (hb hby d_method_2_5) rfl k) ?_
  show own_Go p e below KK T1 (mkF m 6 #[.val (.int 3), .val (.int q2), .val (.int q3), .val (.int q4), .val (.int q5), .val (.ref b1)] [(.int 3)])
  have hc6 : (0 : Int32) < (3 : Int32) := by decide
  refine own_at (fun t k => XS.ifNo X1.here hx rfl (hb hby d_method_2_6) rfl (Jvm.Free.XT.i0_le_f hc6) k) ?_
  show own_Go p e below KK T1 (mkF m 9 #[.val (.int 3), .val (.int q2), .val (.int q3), .val (.int q4), .val (.int q5), .val (.ref b1)] [])
  refine own_at (fun t k => XS.aload X1.here hx rfl (hb hby d_method_2_9) rfl rfl k) ?_
  show own_Go p e below KK T1 (mkF m 11 #[.val (.int 3), .val (.int q2), .val (.int q3), .val (.int q4), .val (.int q5), .val (.ref b1)] [(.ref b1)])
  refine own_at (fun t k => XS.iconst X1.here hx rfl (hb hby d_method_2_11) k) ?_
  show own_Go p e below KK T1 (mkF m 12 #[.val (.int 3), .val (.int q2), .val (.int q3), .val (.int q4), .val (.int q5), .val (.ref b1)] [(.int 0), (.ref b1)])
  refine own_at (fun t k => XS.iloadN X1.here hx rfl (hb hby d_method_2_12) rfl k) ?_
  show own_Go p e below KK T1 (mkF m 13 #[.val (.int 3), .val (.int q2), .val (.int q3), .val (.int q4), .val (.int q5), .val (.ref b1)] [(.int q2), (.int 0), (.ref b1)])
  refine own_at (fun t k => XS.i2b X1.here hx rfl (hb hby d_method_2_13) rfl k) ?_
  show own_Go p e below KK T1 (mkF m 14 #[.val (.int 3), .val (.int q2), .val (.int q3), .val (.int q4), .val (.int q5), .val (.ref b1)] [(.int (q2.toInt8.toInt32)), (.int 0), (.ref b1)])
  obtain ⟨T3, h3, X3, e3, W3, V3, st3⟩ := own_stB X1 hx hZ e1 A2_b1 (j := (0 : Int32)) (y := (q2.toInt8.toInt32)) (own_narB _) (i := 0) (by decide) (by decide) (show (0 : Nat) < 3 from by decide) (g := (mkF m 14 #[.val (.int 3), .val (.int q2), .val (.int q3), .val (.int q4), .val (.int q5), .val (.ref b1)] [(.int (q2.toInt8.toInt32)), (.int 0), (.ref b1)])) rfl rfl (hb hby d_method_2_14)
  have N3 := Fr.snoc X3 N0 g_b1
  have Zs3 : n0 ≤ h3.size := (by rw [W3.size]; exact Zs1)
  have Kp3 : Keep h0 h3 [] := Kp1.wr W3 (Or.inr sz_b1)
  have A4_b1 : own_A Z h3 b1 "[B" .byte [(.int (q2.toInt8.toInt32)), (.int 0), (.int 0)] := V3
  refine own_of (fun t k => st3 t k) ?_
  show own_Go p e below KK T3 (mkF m 15 #[.val (.int 3), .val (.int q2), .val (.int q3), .val (.int q4), .val (.int q5), .val (.ref b1)] [])
  refine own_at (fun t k => XS.iloadN X3.here hx rfl (hb hby d_method_2_15) rfl k) ?_
  show own_Go p e below KK T3 (mkF m 16 #[.val (.int 3), .val (.int q2), .val (.int q3), .val (.int q4), .val (.int q5), .val (.ref b1)] [(.int 3)])
  refine own_at (fun t k => XS.iconst X3.here hx rfl (hb hby d_method_2_16) k) ?_
  show own_Go p e below KK T3 (mkF m 17 #[.val (.int 3), .val (.int q2), .val (.int q3), .val (.int q4), .val (.int q5), .val (.ref b1)] [(.int 1), (.int 3)])
  have hc17 : (1 : Int32) < (3 : Int32) := by decide
  refine own_at (fun t k => XS.icmpNo X3.here hx rfl (hb hby d_method_2_17) rfl (Jvm.Free.XT.ii_le_f hc17) k) ?_
  show own_Go p e below KK T3 (mkF m 20 #[.val (.int 3), .val (.int q2), .val (.int q3), .val (.int q4), .val (.int q5), .val (.ref b1)] [])
  refine own_at (fun t k => XS.aload X3.here hx rfl (hb hby d_method_2_20) rfl rfl k) ?_
  show own_Go p e below KK T3 (mkF m 22 #[.val (.int 3), .val (.int q2), .val (.int q3), .val (.int q4), .val (.int q5), .val (.ref b1)] [(.ref b1)])
  refine own_at (fun t k => XS.iconst X3.here hx rfl (hb hby d_method_2_22) k) ?_
  show own_Go p e below KK T3 (mkF m 23 #[.val (.int 3), .val (.int q2), .val (.int q3), .val (.int q4), .val (.int q5), .val (.ref b1)] [(.int 1), (.ref b1)])
  refine own_at (fun t k => XS.iloadN X3.here hx rfl (hb hby d_method_2_23) rfl k) ?_
  show own_Go p e below KK T3 (mkF m 24 #[.val (.int 3), .val (.int q2), .val (.int q3), .val (.int q4), .val (.int q5), .val (.ref b1)] [(.int q3), (.int 1), (.ref b1)])
  refine own_at (fun t k => XS.i2b X3.here hx rfl (hb hby d_method_2_24) rfl k) ?_
  show own_Go p e below KK T3 (mkF m 25 #[.val (.int 3), .val (.int q2), .val (.int q3), .val (.int q4), .val (.int q5), .val (.ref b1)] [(.int (q3.toInt8.toInt32)), (.int 1), (.ref b1)])
  obtain ⟨T5, h5, X5, e5, W5, V5, st5⟩ := own_stB X3 hx hZ e3 A4_b1 (j := (1 : Int32)) (y := (q3.toInt8.toInt32)) (own_narB _) (i := 1) (by decide) (by decide) (show (1 : Nat) < 3 from by decide) (g := (mkF m 25 #[.val (.int 3), .val (.int q2), .val (.int q3), .val (.int q4), .val (.int q5), .val (.ref b1)] [(.int (q3.toInt8.toInt32)), (.int 1), (.ref b1)])) rfl rfl (hb hby d_method_2_25)
  have N5 := Fr.snoc X5 N3 g_b1
  have Zs5 : n0 ≤ h5.size := (by rw [W5.size]; exact Zs3)
  have Kp5 : Keep h0 h5 [] := Kp3.wr W5 (Or.inr sz_b1)
  have A6_b1 : own_A Z h5 b1 "[B" .byte [(.int (q2.toInt8.toInt32)), (.int (q3.toInt8.toInt32)), (.int 0)] := V5
  refine own_of (fun t k => st5 t k) ?_
  show own_Go p e below KK T5 (mkF m 26 #[.val (.int 3), .val (.int q2), .val (.int q3), .val (.int q4), .val (.int q5), .val (.ref b1)] [])
  refine own_at (fun t k => XS.iloadN X5.here hx rfl (hb hby d_method_2_26) rfl k) ?_
  show own_Go p e below KK T5 (mkF m 27 #[.val (.int 3), .val (.int q2), .val (.int q3), .val (.int q4), .val (.int q5), .val (.ref b1)] [(.int 3)])
  refine own_at (fun t k => XS.iconst X5.here hx rfl (hb hby d_method_2_27) k) ?_
  show own_Go p e below KK T5 (mkF m 28 #[.val (.int 3), .val (.int q2), .val (.int q3), .val (.int q4), .val (.int q5), .val (.ref b1)] [(.int 2), (.int 3)])
  have hc28 : (2 : Int32) < (3 : Int32) := by decide
  refine own_at (fun t k => XS.icmpNo X5.here hx rfl (hb hby d_method_2_28) rfl (Jvm.Free.XT.ii_le_f hc28) k) ?_
  show own_Go p e below KK T5 (mkF m 31 #[.val (.int 3), .val (.int q2), .val (.int q3), .val (.int q4), .val (.int q5), .val (.ref b1)] [])
  refine own_at (fun t k => XS.aload X5.here hx rfl (hb hby d_method_2_31) rfl rfl k) ?_
  show own_Go p e below KK T5 (mkF m 33 #[.val (.int 3), .val (.int q2), .val (.int q3), .val (.int q4), .val (.int q5), .val (.ref b1)] [(.ref b1)])
  refine own_at (fun t k => XS.iconst X5.here hx rfl (hb hby d_method_2_33) k) ?_
  show own_Go p e below KK T5 (mkF m 34 #[.val (.int 3), .val (.int q2), .val (.int q3), .val (.int q4), .val (.int q5), .val (.ref b1)] [(.int 2), (.ref b1)])
  refine own_at (fun t k => XS.iloadN X5.here hx rfl (hb hby d_method_2_34) rfl k) ?_
  show own_Go p e below KK T5 (mkF m 35 #[.val (.int 3), .val (.int q2), .val (.int q3), .val (.int q4), .val (.int q5), .val (.ref b1)] [(.int q4), (.int 2), (.ref b1)])
  refine own_at (fun t k => XS.i2b X5.here hx rfl (hb hby d_method_2_35) rfl k) ?_
  show own_Go p e below KK T5 (mkF m 36 #[.val (.int 3), .val (.int q2), .val (.int q3), .val (.int q4), .val (.int q5), .val (.ref b1)] [(.int (q4.toInt8.toInt32)), (.int 2), (.ref b1)])
  obtain ⟨T7, h7, X7, e7, W7, V7, st7⟩ := own_stB X5 hx hZ e5 A6_b1 (j := (2 : Int32)) (y := (q4.toInt8.toInt32)) (own_narB _) (i := 2) (by decide) (by decide) (show (2 : Nat) < 3 from by decide) (g := (mkF m 36 #[.val (.int 3), .val (.int q2), .val (.int q3), .val (.int q4), .val (.int q5), .val (.ref b1)] [(.int (q4.toInt8.toInt32)), (.int 2), (.ref b1)])) rfl rfl (hb hby d_method_2_36)
  have N7 := Fr.snoc X7 N5 g_b1
  have Zs7 : n0 ≤ h7.size := (by rw [W7.size]; exact Zs5)
  have Kp7 : Keep h0 h7 [] := Kp5.wr W7 (Or.inr sz_b1)
  have A8_b1 : own_A Z h7 b1 "[B" .byte [(.int (q2.toInt8.toInt32)), (.int (q3.toInt8.toInt32)), (.int (q4.toInt8.toInt32))] := V7
  refine own_of (fun t k => st7 t k) ?_
  show own_Go p e below KK T7 (mkF m 37 #[.val (.int 3), .val (.int q2), .val (.int q3), .val (.int q4), .val (.int q5), .val (.ref b1)] [])
  refine own_at (fun t k => XS.iloadN X7.here hx rfl (hb hby d_method_2_37) rfl k) ?_
  show own_Go p e below KK T7 (mkF m 38 #[.val (.int 3), .val (.int q2), .val (.int q3), .val (.int q4), .val (.int q5), .val (.ref b1)] [(.int 3)])
  refine own_at (fun t k => XS.iconst X7.here hx rfl (hb hby d_method_2_38) k) ?_
  show own_Go p e below KK T7 (mkF m 39 #[.val (.int 3), .val (.int q2), .val (.int q3), .val (.int q4), .val (.int q5), .val (.ref b1)] [(.int 3), (.int 3)])
  have hc39 : ¬ ((3 : Int32) < (3 : Int32)) := by decide
  refine own_at (fun t k => XS.icmpYes X7.here hx rfl (pc0 := 39) (pc' := 49) rfl (hb hby d_method_2_39) rfl (Jvm.Free.XT.ii_le_t hc39) (by decide) (by decide) k) ?_
  show own_Go p e below KK T7 (mkF m 49 #[.val (.int 3), .val (.int q2), .val (.int q3), .val (.int q4), .val (.int q5), .val (.ref b1)] [])
  refine own_at (fun t k => XS.aload X7.here hx rfl (hb hby d_method_2_49) rfl rfl k) ?_
  show own_Go p e below KK T7 (mkF m 51 #[.val (.int 3), .val (.int q2), .val (.int q3), .val (.int q4), .val (.int q5), .val (.ref b1)] [(.ref b1)])
  subst hKK
  exact own_retA X7 hx hlk rfl Bd.returns rfl (hb hby d_method_2_51) ⟨b1, rfl, N7, by rw [e7]; exact Kp7, g_b1, sz_b1, by rw [e7]; exact A8_b1⟩ (Nat.le_of_ble_eq_true rfl) (Nat.le_of_ble_eq_true rfl)
theorem d_method_2_42 : decode method_2_code 42 = .ok (.aload 5, 2) := by decide +kernel
theorem d_method_2_44 : decode method_2_code 44 = .ok (.iconst 3, 1) := by decide +kernel
theorem d_method_2_45 : decode method_2_code 45 = .ok (.iload 4, 2) := by decide +kernel
theorem d_method_2_47 : decode method_2_code 47 = .ok (.i2b, 1) := by decide +kernel
theorem d_method_2_48 : decode method_2_code 48 = .ok (.bastore, 1) := by decide +kernel
set_option maxRecDepth 65536 in
set_option maxHeartbeats 40000000 in
theorem rm_fill4 (l : Launch) (Z : State) (a0 : Array Value) (hw : ∀ d ∈ tables_1, d.before a0 Z = true) (ws : List Jvm.Cond) (q2 : Int32) (q3 : Int32) (q4 : Int32) (q5 : Int32)  (h0 : Heap) (n0 : Nat) (Z0 : n0 ≤ h0.size)  :
    MetFree l (⟨"com/example/wirecall/wirecall/wire/Fnv1aHash64PinLaw", "fill", "(IIIII)[B"⟩ : MethodName) (head1 (Jvm.Cond.code (⟨"com/example/wirecall/wirecall/wire/Fnv1aHash64PinLaw", "fill", "(IIIII)[B"⟩ : MethodName) method_2_code 6 (some (.array .byte)) :: ws) ({ frames := 0, cells := 1, slots := 4, locals := 0 } : Room)) (fun a U => a = #[(.int 4), (.int q2), (.int q3), (.int q4), (.int q5)] ∧ Z.Warmed39 U.vm ∧ U.heap = h0) (fun _ _ _ _ _ => True) (fun _ U o U' => ∃ v L, o = .returned v ∧ own_Qf Z [(.int (q2.toInt8.toInt32)), (.int (q3.toInt8.toInt32)), (.int (q4.toInt8.toInt32)), (.int (q5.toInt8.toInt32))] h0 n0 v U'.heap L ∧ FrameEnd U o U' L ({ frames := 0, cells := 1, slots := 4, locals := 0 } : Room).cells ({ frames := 0, cells := 1, slots := 4, locals := 0 } : Room).slots) := by
  refine MetFree.of_bodySF (plainFor_of_name pn_com_example_wirecall_wirecall_wire_Fnv1aHash64PinLaw) hisR ?_
  intro p e s m args below meth c s₁ Bd hml0 hP hK
  obtain ⟨rfl, hZ, hh⟩ := hP
  have hx := Bd.exec
  have hby := Bd.bytes
  have hlk : meth.locks = false := BodyLoose.notSynchronized Bd
  have hml : c.maxLocals = 6 := hml0
  have hown : s.vm.findClass "com/example/wirecall/wirecall/wire/Fnv1aHash64PinLaw" = some m.cls := findClass_of_methodNamed Bd.named
  have hnm := (name_of_methodNamed Bd.named Bd.method).1
  have X0 : Stand p l e ({ frames := 0, cells := 1, slots := 4, locals := 0 } : Room) s m #[(.int 4), (.int q2), (.int q3), (.int q4), (.int q5)] below meth c s₁ [] 0 0 := Stand.of_body Bd
  have e0 : s₁.heap = h0 := by rw [← hh, Bd.state]; rfl
  have N0 := Fr.nil n0
  refine own_cast (K := own_K s (own_Qf Z [(.int (q2.toInt8.toInt32)), (.int (q3.toInt8.toInt32)), (.int (q4.toInt8.toInt32)), (.int (q5.toInt8.toInt32))] h0 n0) 1 4) (ef_method_2 m (4 : Int32) q2 q3 q4 q5) ?_
  generalize hKK : own_K s (own_Qf Z [(.int (q2.toInt8.toInt32)), (.int (q3.toInt8.toInt32)), (.int (q4.toInt8.toInt32)), (.int (q5.toInt8.toInt32))] h0 n0) 1 4 = KK
  show own_Go p e below KK s₁ (mkF m 0 #[.val (.int 4), .val (.int q2), .val (.int q3), .val (.int q4), .val (.int q5), .unset] [])
  have Kp0 : Keep h0 h0 [] := Keep.refl _ _
  refine own_at (fun t k => XS.iloadN X0.here hx rfl (hb hby d_method_2_0) rfl k) ?_
  show own_Go p e below KK s₁ (mkF m 1 #[.val (.int 4), .val (.int q2), .val (.int q3), .val (.int q4), .val (.int q5), .unset] [(.int 4)])
  obtain ⟨T1, h1, X1, e1, E1, V1, st1⟩ := own_newA X0 hx hZ (hw _ (List.mem_of_getElem? (i := 0) rfl)) e0 (g := (mkF m 1 #[.val (.int 4), .val (.int q2), .val (.int q3), .val (.int q4), .val (.int q5), .unset] [(.int 4)])) rfl (hb hby d_method_2_1) rfl (by decide) (N := 4) (by decide) (cap := 4) (by decide) (by decide) (by decide) (by decide) (d := "[B") (by first | rfl | decide +kernel) (vs := [(.int 0), (.int 0), (.int 0), (.int 0)]) rfl
  obtain ⟨b1, g1⟩ : ∃ z, z = h0.size := ⟨_, rfl⟩
  rw [← g1] at V1 st1
  have g_b1 : n0 ≤ b1 := by rw [g1]; exact Z0
  have sz_b1 : h0.size ≤ b1 := by rw [g1]; exact Kp0.1
  have Zs1 : n0 ≤ h1.size := Nat.le_trans Z0 E1.1
  have Kp1 : Keep h0 h1 [] := Kp0.ext E1
  have A2_b1 : own_A Z h1 b1 "[B" .byte [(.int 0), (.int 0), (.int 0), (.int 0)] := V1
  refine own_of (fun t k => st1 t k) ?_
  show own_Go p e below KK T1 (mkF m 3 #[.val (.int 4), .val (.int q2), .val (.int q3), .val (.int q4), .val (.int q5), .unset] [(.ref b1)])
  refine own_at (fun t k => XS.astore X1.here hx rfl (hb hby d_method_2_3) rfl rfl (l' := #[.val (.int 4), .val (.int q2), .val (.int q3), .val (.int q4), .val (.int q5), .val (.ref b1)]) rfl k) ?_
  show own_Go p e below KK T1 (mkF m 5 #[.val (.int 4), .val (.int q2), .val (.int q3), .val (.int q4), .val (.int q5), .val (.ref b1)] [])
  refine own_at (fun t k => XS.iloadN X1.here hx rfl (hb hby d_method_2_5) rfl k) ?_
  show own_Go p e below KK T1 (mkF m 6 #[.val (.int 4), .val (.int q2), .val (.int q3), .val (.int q4), .val (.int q5), .val (.ref b1)] [(.int 4)])
  have hc6 : (0 : Int32) < (4 : Int32) := by decide
  refine own_at (fun t k => XS.ifNo X1.here hx rfl (hb hby d_method_2_6) rfl (Jvm.Free.XT.i0_le_f hc6) k) ?_
  show own_Go p e below KK T1 (mkF m 9 #[.val (.int 4), .val (.int q2), .val (.int q3), .val (.int q4), .val (.int q5), .val (.ref b1)] [])
  refine own_at (fun t k => XS.aload X1.here hx rfl (hb hby d_method_2_9) rfl rfl k) ?_
  show own_Go p e below KK T1 (mkF m 11 #[.val (.int 4), .val (.int q2), .val (.int q3), .val (.int q4), .val (.int q5), .val (.ref b1)] [(.ref b1)])
  refine own_at (fun t k => XS.iconst X1.here hx rfl (hb hby d_method_2_11) k) ?_
  show own_Go p e below KK T1 (mkF m 12 #[.val (.int 4), .val (.int q2), .val (.int q3), .val (.int q4), .val (.int q5), .val (.ref b1)] [(.int 0), (.ref b1)])
  refine own_at (fun t k => XS.iloadN X1.here hx rfl (hb hby d_method_2_12) rfl k) ?_
  show own_Go p e below KK T1 (mkF m 13 #[.val (.int 4), .val (.int q2), .val (.int q3), .val (.int q4), .val (.int q5), .val (.ref b1)] [(.int q2), (.int 0), (.ref b1)])
  refine own_at (fun t k => XS.i2b X1.here hx rfl (hb hby d_method_2_13) rfl k) ?_
  show own_Go p e below KK T1 (mkF m 14 #[.val (.int 4), .val (.int q2), .val (.int q3), .val (.int q4), .val (.int q5), .val (.ref b1)] [(.int (q2.toInt8.toInt32)), (.int 0), (.ref b1)])
  obtain ⟨T3, h3, X3, e3, W3, V3, st3⟩ := own_stB X1 hx hZ e1 A2_b1 (j := (0 : Int32)) (y := (q2.toInt8.toInt32)) (own_narB _) (i := 0) (by decide) (by decide) (show (0 : Nat) < 4 from by decide) (g := (mkF m 14 #[.val (.int 4), .val (.int q2), .val (.int q3), .val (.int q4), .val (.int q5), .val (.ref b1)] [(.int (q2.toInt8.toInt32)), (.int 0), (.ref b1)])) rfl rfl (hb hby d_method_2_14)
  have N3 := Fr.snoc X3 N0 g_b1
  have Zs3 : n0 ≤ h3.size := (by rw [W3.size]; exact Zs1)
  have Kp3 : Keep h0 h3 [] := Kp1.wr W3 (Or.inr sz_b1)
  have A4_b1 : own_A Z h3 b1 "[B" .byte [(.int (q2.toInt8.toInt32)), (.int 0), (.int 0), (.int 0)] := V3
  refine own_of (fun t k => st3 t k) ?_
  show own_Go p e below KK T3 (mkF m 15 #[.val (.int 4), .val (.int q2), .val (.int q3), .val (.int q4), .val (.int q5), .val (.ref b1)] [])
  refine own_at (fun t k => XS.iloadN X3.here hx rfl (hb hby d_method_2_15) rfl k) ?_
  show own_Go p e below KK T3 (mkF m 16 #[.val (.int 4), .val (.int q2), .val (.int q3), .val (.int q4), .val (.int q5), .val (.ref b1)] [(.int 4)])
  refine own_at (fun t k => XS.iconst X3.here hx rfl (hb hby d_method_2_16) k) ?_
  show own_Go p e below KK T3 (mkF m 17 #[.val (.int 4), .val (.int q2), .val (.int q3), .val (.int q4), .val (.int q5), .val (.ref b1)] [(.int 1), (.int 4)])
  have hc17 : (1 : Int32) < (4 : Int32) := by decide
  refine own_at (fun t k => XS.icmpNo X3.here hx rfl (hb hby d_method_2_17) rfl (Jvm.Free.XT.ii_le_f hc17) k) ?_
  show own_Go p e below KK T3 (mkF m 20 #[.val (.int 4), .val (.int q2), .val (.int q3), .val (.int q4), .val (.int q5), .val (.ref b1)] [])
  refine own_at (fun t k => XS.aload X3.here hx rfl (hb hby d_method_2_20) rfl rfl k) ?_
  show own_Go p e below KK T3 (mkF m 22 #[.val (.int 4), .val (.int q2), .val (.int q3), .val (.int q4), .val (.int q5), .val (.ref b1)] [(.ref b1)])
  refine own_at (fun t k => XS.iconst X3.here hx rfl (hb hby d_method_2_22) k) ?_
  show own_Go p e below KK T3 (mkF m 23 #[.val (.int 4), .val (.int q2), .val (.int q3), .val (.int q4), .val (.int q5), .val (.ref b1)] [(.int 1), (.ref b1)])
  refine own_at (fun t k => XS.iloadN X3.here hx rfl (hb hby d_method_2_23) rfl k) ?_
  show own_Go p e below KK T3 (mkF m 24 #[.val (.int 4), .val (.int q2), .val (.int q3), .val (.int q4), .val (.int q5), .val (.ref b1)] [(.int q3), (.int 1), (.ref b1)])
  refine own_at (fun t k => XS.i2b X3.here hx rfl (hb hby d_method_2_24) rfl k) ?_
  show own_Go p e below KK T3 (mkF m 25 #[.val (.int 4), .val (.int q2), .val (.int q3), .val (.int q4), .val (.int q5), .val (.ref b1)] [(.int (q3.toInt8.toInt32)), (.int 1), (.ref b1)])
  obtain ⟨T5, h5, X5, e5, W5, V5, st5⟩ := own_stB X3 hx hZ e3 A4_b1 (j := (1 : Int32)) (y := (q3.toInt8.toInt32)) (own_narB _) (i := 1) (by decide) (by decide) (show (1 : Nat) < 4 from by decide) (g := (mkF m 25 #[.val (.int 4), .val (.int q2), .val (.int q3), .val (.int q4), .val (.int q5), .val (.ref b1)] [(.int (q3.toInt8.toInt32)), (.int 1), (.ref b1)])) rfl rfl (hb hby d_method_2_25)
  have N5 := Fr.snoc X5 N3 g_b1
  have Zs5 : n0 ≤ h5.size := (by rw [W5.size]; exact Zs3)
  have Kp5 : Keep h0 h5 [] := Kp3.wr W5 (Or.inr sz_b1)
  have A6_b1 : own_A Z h5 b1 "[B" .byte [(.int (q2.toInt8.toInt32)), (.int (q3.toInt8.toInt32)), (.int 0), (.int 0)] := V5
  refine own_of (fun t k => st5 t k) ?_
  show own_Go p e below KK T5 (mkF m 26 #[.val (.int 4), .val (.int q2), .val (.int q3), .val (.int q4), .val (.int q5), .val (.ref b1)] [])
  refine own_at (fun t k => XS.iloadN X5.here hx rfl (hb hby d_method_2_26) rfl k) ?_
  show own_Go p e below KK T5 (mkF m 27 #[.val (.int 4), .val (.int q2), .val (.int q3), .val (.int q4), .val (.int q5), .val (.ref b1)] [(.int 4)])
  refine own_at (fun t k => XS.iconst X5.here hx rfl (hb hby d_method_2_27) k) ?_
  show own_Go p e below KK T5 (mkF m 28 #[.val (.int 4), .val (.int q2), .val (.int q3), .val (.int q4), .val (.int q5), .val (.ref b1)] [(.int 2), (.int 4)])
  have hc28 : (2 : Int32) < (4 : Int32) := by decide
  refine own_at (fun t k => XS.icmpNo X5.here hx rfl (hb hby d_method_2_28) rfl (Jvm.Free.XT.ii_le_f hc28) k) ?_
  show own_Go p e below KK T5 (mkF m 31 #[.val (.int 4), .val (.int q2), .val (.int q3), .val (.int q4), .val (.int q5), .val (.ref b1)] [])
  refine own_at (fun t k => XS.aload X5.here hx rfl (hb hby d_method_2_31) rfl rfl k) ?_
  show own_Go p e below KK T5 (mkF m 33 #[.val (.int 4), .val (.int q2), .val (.int q3), .val (.int q4), .val (.int q5), .val (.ref b1)] [(.ref b1)])
  refine own_at (fun t k => XS.iconst X5.here hx rfl (hb hby d_method_2_33) k) ?_
  show own_Go p e below KK T5 (mkF m 34 #[.val (.int 4), .val (.int q2), .val (.int q3), .val (.int q4), .val (.int q5), .val (.ref b1)] [(.int 2), (.ref b1)])
  refine own_at (fun t k => XS.iloadN X5.here hx rfl (hb hby d_method_2_34) rfl k) ?_
  show own_Go p e below KK T5 (mkF m 35 #[.val (.int 4), .val (.int q2), .val (.int q3), .val (.int q4), .val (.int q5), .val (.ref b1)] [(.int q4), (.int 2), (.ref b1)])
  refine own_at (fun t k => XS.i2b X5.here hx rfl (hb hby d_method_2_35) rfl k) ?_
  show own_Go p e below KK T5 (mkF m 36 #[.val (.int 4), .val (.int q2), .val (.int q3), .val (.int q4), .val (.int q5), .val (.ref b1)] [(.int (q4.toInt8.toInt32)), (.int 2), (.ref b1)])
  obtain ⟨T7, h7, X7, e7, W7, V7, st7⟩ := own_stB X5 hx hZ e5 A6_b1 (j := (2 : Int32)) (y := (q4.toInt8.toInt32)) (own_narB _) (i := 2) (by decide) (by decide) (show (2 : Nat) < 4 from by decide) (g := (mkF m 36 #[.val (.int 4), .val (.int q2), .val (.int q3), .val (.int q4), .val (.int q5), .val (.ref b1)] [(.int (q4.toInt8.toInt32)), (.int 2), (.ref b1)])) rfl rfl (hb hby d_method_2_36)
  have N7 := Fr.snoc X7 N5 g_b1
  have Zs7 : n0 ≤ h7.size := (by rw [W7.size]; exact Zs5)
  have Kp7 : Keep h0 h7 [] := Kp5.wr W7 (Or.inr sz_b1)
  have A8_b1 : own_A Z h7 b1 "[B" .byte [(.int (q2.toInt8.toInt32)), (.int (q3.toInt8.toInt32)), (.int (q4.toInt8.toInt32)), (.int 0)] := V7
  refine own_of (fun t k => st7 t k) ?_
  show own_Go p e below KK T7 (mkF m 37 #[.val (.int 4), .val (.int q2), .val (.int q3), .val (.int q4), .val (.int q5), .val (.ref b1)] [])
  refine own_at (fun t k => XS.iloadN X7.here hx rfl (hb hby d_method_2_37) rfl k) ?_
  show own_Go p e below KK T7 (mkF m 38 #[.val (.int 4), .val (.int q2), .val (.int q3), .val (.int q4), .val (.int q5), .val (.ref b1)] [(.int 4)])
  refine own_at (fun t k => XS.iconst X7.here hx rfl (hb hby d_method_2_38) k) ?_
  show own_Go p e below KK T7 (mkF m 39 #[.val (.int 4), .val (.int q2), .val (.int q3), .val (.int q4), .val (.int q5), .val (.ref b1)] [(.int 3), (.int 4)])
  have hc39 : (3 : Int32) < (4 : Int32) := by decide
  refine own_at (fun t k => XS.icmpNo X7.here hx rfl (hb hby d_method_2_39) rfl (Jvm.Free.XT.ii_le_f hc39) k) ?_
  show own_Go p e below KK T7 (mkF m 42 #[.val (.int 4), .val (.int q2), .val (.int q3), .val (.int q4), .val (.int q5), .val (.ref b1)] [])
  refine own_at (fun t k => XS.aload X7.here hx rfl (hb hby d_method_2_42) rfl rfl k) ?_
  show own_Go p e below KK T7 (mkF m 44 #[.val (.int 4), .val (.int q2), .val (.int q3), .val (.int q4), .val (.int q5), .val (.ref b1)] [(.ref b1)])
  refine own_at (fun t k => XS.iconst X7.here hx rfl (hb hby d_method_2_44) k) ?_
  show own_Go p e below KK T7 (mkF m 45 #[.val (.int 4), .val (.int q2), .val (.int q3), .val (.int q4), .val (.int q5), .val (.ref b1)] [(.int 3), (.ref b1)])
  refine own_at (fun t k => XS.iload X7.here hx rfl (hb hby d_method_2_45) rfl k) ?_
  show own_Go p e below KK T7 (mkF m 47 #[.val (.int 4), .val (.int q2), .val (.int q3), .val (.int q4), .val (.int q5), .val (.ref b1)] [(.int q5), (.int 3), (.ref b1)])
  refine own_at (fun t k => XS.i2b X7.here hx rfl (hb hby d_method_2_47) rfl k) ?_
  show own_Go p e below KK T7 (mkF m 48 #[.val (.int 4), .val (.int q2), .val (.int q3), .val (.int q4), .val (.int q5), .val (.ref b1)] [(.int (q5.toInt8.toInt32)), (.int 3), (.ref b1)])
  obtain ⟨T9, h9, X9, e9, W9, V9, st9⟩ := own_stB X7 hx hZ e7 A8_b1 (j := (3 : Int32)) (y := (q5.toInt8.toInt32)) (own_narB _) (i := 3) (by decide) (by decide) (show (3 : Nat) < 4 from by decide) (g := (mkF m 48 #[.val (.int 4), .val (.int q2), .val (.int q3), .val (.int q4), .val (.int q5), .val (.ref b1)] [(.int (q5.toInt8.toInt32)), (.int 3), (.ref b1)])) rfl rfl (hb hby d_method_2_48)
  have N9 := Fr.snoc X9 N7 g_b1
  have Zs9 : n0 ≤ h9.size := (by rw [W9.size]; exact Zs7)
  have Kp9 : Keep h0 h9 [] := Kp7.wr W9 (Or.inr sz_b1)
  have A10_b1 : own_A Z h9 b1 "[B" .byte [(.int (q2.toInt8.toInt32)), (.int (q3.toInt8.toInt32)), (.int (q4.toInt8.toInt32)), (.int (q5.toInt8.toInt32))] := V9
  refine own_of (fun t k => st9 t k) ?_
  show own_Go p e below KK T9 (mkF m 49 #[.val (.int 4), .val (.int q2), .val (.int q3), .val (.int q4), .val (.int q5), .val (.ref b1)] [])
  refine own_at (fun t k => XS.aload X9.here hx rfl (hb hby d_method_2_49) rfl rfl k) ?_
  show own_Go p e below KK T9 (mkF m 51 #[.val (.int 4), .val (.int q2), .val (.int q3), .val (.int q4), .val (.int q5), .val (.ref b1)] [(.ref b1)])
  subst hKK
  exact own_retA X9 hx hlk rfl Bd.returns rfl (hb hby d_method_2_51) ⟨b1, rfl, N9, by rw [e9]; exact Kp9, g_b1, sz_b1, by rw [e9]; exact A10_b1⟩ (Nat.le_of_ble_eq_true rfl) (Nat.le_of_ble_eq_true rfl)
def own_h (ws : List Int32) : Int64 := ws.foldl (fun acc w => (acc ^^^ ((w.toInt64) &&& (255 : Int64))) * (1099511628211 : Int64)) (-3750763034362895579 : Int64)
theorem pn_com_example_wirecall_wirecall_wire_Fnv1a : plainName "com/example/wirecall/wirecall/wire/Fnv1a" = true := by first | (simp [plainName, overriddenIn]; done) | decide +kernel
theorem ef_prog_61_2 (m : MethodId) (x0 : Addr) : entryFrame m #[(.ref x0)] 7 = mkF m 0 #[.val (.ref x0), .unset, .unset, .unset, .unset, .unset, .unset] [] := by first | (simp [entryFrame, mkF, argsToLocals, Value.category]; done) | rfl
theorem d_prog_61_2_0 : decode prog_61_method_2_code 0 = .ok (.ldc2_w 9, 3) := by decide +kernel
theorem d_prog_61_2_3 : decode prog_61_method_2_code 3 = .ok (.lstore_n 1, 1) := by decide +kernel
theorem d_prog_61_2_4 : decode prog_61_method_2_code 4 = .ok (.aload_n 0, 1) := by decide +kernel
theorem d_prog_61_2_5 : decode prog_61_method_2_code 5 = .ok (.astore_n 3, 1) := by decide +kernel
theorem d_prog_61_2_6 : decode prog_61_method_2_code 6 = .ok (.aload_n 3, 1) := by decide +kernel
theorem d_prog_61_2_7 : decode prog_61_method_2_code 7 = .ok (.arraylength, 1) := by decide +kernel
theorem d_prog_61_2_8 : decode prog_61_method_2_code 8 = .ok (.istore 4, 2) := by decide +kernel
theorem d_prog_61_2_10 : decode prog_61_method_2_code 10 = .ok (.iconst 0, 1) := by decide +kernel
theorem d_prog_61_2_11 : decode prog_61_method_2_code 11 = .ok (.istore 5, 2) := by decide +kernel
theorem d_prog_61_2_13 : decode prog_61_method_2_code 13 = .ok (.iload 5, 2) := by decide +kernel
theorem d_prog_61_2_15 : decode prog_61_method_2_code 15 = .ok (.iload 4, 2) := by decide +kernel
theorem d_prog_61_2_17 : decode prog_61_method_2_code 17 = .ok (.if_icmp .ge 29, 3) := by decide +kernel
theorem d_prog_61_2_46 : decode prog_61_method_2_code 46 = .ok (.lload_n 1, 1) := by decide +kernel
theorem d_prog_61_2_47 : decode prog_61_method_2_code 47 = .ok (.lreturn, 1) := by decide +kernel
set_option maxRecDepth 65536 in
set_option maxHeartbeats 40000000 in
theorem rm_hash0 (l : Launch) (Z : State) (a0 : Array Value) (hw : ∀ d ∈ tables_1, d.before a0 Z = true) (ws : List Jvm.Cond) (q1 : Addr)  (h0 : Heap) (n0 : Nat) (Z0 : n0 ≤ h0.size) (Aq : own_A Z h0 q1 "[B" .byte []) :
    MetFree l (⟨"com/example/wirecall/wirecall/wire/Fnv1a", "hash64", "([B)J"⟩ : MethodName) (head1 (Jvm.Cond.code (⟨"com/example/wirecall/wirecall/wire/Fnv1a", "hash64", "([B)J"⟩ : MethodName) prog_61_method_2_code 7 (some .long) :: ws) ({ frames := 0, cells := 0, slots := 0, locals := 0 } : Room)) (fun a U => a = #[(.ref q1)] ∧ Z.Warmed39 U.vm ∧ U.heap = h0) (fun _ _ _ _ _ => True) (fun _ U o U' => ∃ v L, o = .returned v ∧ own_P (.long (own_h [])) h0 n0 v U'.heap L ∧ FrameEnd U o U' L ({ frames := 0, cells := 0, slots := 0, locals := 0 } : Room).cells ({ frames := 0, cells := 0, slots := 0, locals := 0 } : Room).slots) := by
  refine MetFree.of_bodySF (plainFor_of_name pn_com_example_wirecall_wirecall_wire_Fnv1a) hisR ?_
  intro p e s m args below meth c s₁ Bd hml0 hP hK
  obtain ⟨rfl, hZ, hh⟩ := hP
  have hx := Bd.exec
  have hby := Bd.bytes
  have hlk : meth.locks = false := BodyLoose.notSynchronized Bd
  have hml : c.maxLocals = 7 := hml0
  have hown : s.vm.findClass "com/example/wirecall/wirecall/wire/Fnv1a" = some m.cls := findClass_of_methodNamed Bd.named
  have hnm := (name_of_methodNamed Bd.named Bd.method).1
  have X0 : Stand p l e ({ frames := 0, cells := 0, slots := 0, locals := 0 } : Room) s m #[(.ref q1)] below meth c s₁ [] 0 0 := Stand.of_body Bd
  have e0 : s₁.heap = h0 := by rw [← hh, Bd.state]; rfl
  have N0 := Fr.nil n0
  refine own_cast (K := own_K s (own_P (.long (own_h [])) h0 n0) 0 0) (ef_prog_61_2 m q1) ?_
  generalize hKK : own_K s (own_P (.long (own_h [])) h0 n0) 0 0 = KK
  show own_Go p e below KK s₁ (mkF m 0 #[.val (.ref q1), .unset, .unset, .unset, .unset, .unset, .unset] [])
  refine own_at (fun t k => X0.ldc2Long hx hown (mvT hZ (hw _ (List.mem_of_getElem? (i := 10) rfl))) (g := (mkF m 0 #[.val (.ref q1), .unset, .unset, .unset, .unset, .unset, .unset] [])) rfl (hb hby d_prog_61_2_0) t k) ?_
  show own_Go p e below KK s₁ (mkF m 3 #[.val (.ref q1), .unset, .unset, .unset, .unset, .unset, .unset] [(.long (-3750763034362895579 : Int64))])
  refine own_at (fun t k => XS.lstoreN X0.here hx rfl (hb hby d_prog_61_2_3) rfl (l' := #[.val (.ref q1), .val (.long (-3750763034362895579 : Int64)), .second, .unset, .unset, .unset, .unset]) rfl k) ?_
  show own_Go p e below KK s₁ (mkF m 4 #[.val (.ref q1), .val (.long (-3750763034362895579 : Int64)), .second, .unset, .unset, .unset, .unset] [])
  refine own_at (fun t k => XS.aloadN X0.here hx rfl (hb hby d_prog_61_2_4) rfl rfl k) ?_
  show own_Go p e below KK s₁ (mkF m 5 #[.val (.ref q1), .val (.long (-3750763034362895579 : Int64)), .second, .unset, .unset, .unset, .unset] [(.ref q1)])
  refine own_at (fun t k => XS.astoreN X0.here hx rfl (hb hby d_prog_61_2_5) rfl rfl (l' := #[.val (.ref q1), .val (.long (-3750763034362895579 : Int64)), .second, .val (.ref q1), .unset, .unset, .unset]) rfl k) ?_
  show own_Go p e below KK s₁ (mkF m 6 #[.val (.ref q1), .val (.long (-3750763034362895579 : Int64)), .second, .val (.ref q1), .unset, .unset, .unset] [])
  refine own_at (fun t k => XS.aloadN X0.here hx rfl (hb hby d_prog_61_2_6) rfl rfl k) ?_
  show own_Go p e below KK s₁ (mkF m 7 #[.val (.ref q1), .val (.long (-3750763034362895579 : Int64)), .second, .val (.ref q1), .unset, .unset, .unset] [(.ref q1)])
  refine own_at (fun t k => own_len X0 hx hZ e0 Aq (N := (0 : Int32)) (show (0 : Nat).toInt32 = (0 : Int32) from by decide) (g := (mkF m 7 #[.val (.ref q1), .val (.long (-3750763034362895579 : Int64)), .second, .val (.ref q1), .unset, .unset, .unset] [(.ref q1)])) rfl rfl (hb hby d_prog_61_2_7) t k) ?_
  show own_Go p e below KK s₁ (mkF m 8 #[.val (.ref q1), .val (.long (-3750763034362895579 : Int64)), .second, .val (.ref q1), .unset, .unset, .unset] [(.int 0)])
  refine own_at (fun t k => XS.istore X0.here hx rfl (hb hby d_prog_61_2_8) rfl (l' := #[.val (.ref q1), .val (.long (-3750763034362895579 : Int64)), .second, .val (.ref q1), .val (.int 0), .unset, .unset]) rfl k) ?_
  show own_Go p e below KK s₁ (mkF m 10 #[.val (.ref q1), .val (.long (-3750763034362895579 : Int64)), .second, .val (.ref q1), .val (.int 0), .unset, .unset] [])
  refine own_at (fun t k => XS.iconst X0.here hx rfl (hb hby d_prog_61_2_10) k) ?_
  show own_Go p e below KK s₁ (mkF m 11 #[.val (.ref q1), .val (.long (-3750763034362895579 : Int64)), .second, .val (.ref q1), .val (.int 0), .unset, .unset] [(.int 0)])
  refine own_at (fun t k => XS.istore X0.here hx rfl (hb hby d_prog_61_2_11) rfl (l' := #[.val (.ref q1), .val (.long (-3750763034362895579 : Int64)), .second, .val (.ref q1), .val (.int 0), .val (.int 0), .unset]) rfl k) ?_
  show own_Go p e below KK s₁ (mkF m 13 #[.val (.ref q1), .val (.long (-3750763034362895579 : Int64)), .second, .val (.ref q1), .val (.int 0), .val (.int 0), .unset] [])
  refine own_at (fun t k => XS.iload X0.here hx rfl (hb hby d_prog_61_2_13) rfl k) ?_
  show own_Go p e below KK s₁ (mkF m 15 #[.val (.ref q1), .val (.long (-3750763034362895579 : Int64)), .second, .val (.ref q1), .val (.int 0), .val (.int 0), .unset] [(.int 0)])
  refine own_at (fun t k => XS.iload X0.here hx rfl (hb hby d_prog_61_2_15) rfl k) ?_
  show own_Go p e below KK s₁ (mkF m 17 #[.val (.ref q1), .val (.long (-3750763034362895579 : Int64)), .second, .val (.ref q1), .val (.int 0), .val (.int 0), .unset] [(.int 0), (.int 0)])
  have hc17 : ¬ ((0 : Int32) < (0 : Int32)) := by decide
  refine own_at (fun t k => XS.icmpYes X0.here hx rfl (pc0 := 17) (pc' := 46) rfl (hb hby d_prog_61_2_17) rfl (Jvm.Free.XT.ii_ge_t hc17) (by decide) (by decide) k) ?_
  show own_Go p e below KK s₁ (mkF m 46 #[.val (.ref q1), .val (.long (-3750763034362895579 : Int64)), .second, .val (.ref q1), .val (.int 0), .val (.int 0), .unset] [])
  refine own_at (fun t k => XS.lloadN X0.here hx rfl (hb hby d_prog_61_2_46) rfl k) ?_
  show own_Go p e below KK s₁ (mkF m 47 #[.val (.ref q1), .val (.long (-3750763034362895579 : Int64)), .second, .val (.ref q1), .val (.int 0), .val (.int 0), .unset] [(.long (-3750763034362895579 : Int64))])
  subst hKK
  exact own_retJ X0 hx hlk Bd.returns (hb hby d_prog_61_2_47) (w := (own_h [])) (show (-3750763034362895579 : Int64) = (own_h []) from rfl) ⟨rfl, N0, e0⟩ (Nat.le_of_ble_eq_true rfl) (Nat.le_of_ble_eq_true rfl)
theorem d_prog_61_2_20 : decode prog_61_method_2_code 20 = .ok (.aload_n 3, 1) := by decide +kernel
theorem d_prog_61_2_21 : decode prog_61_method_2_code 21 = .ok (.iload 5, 2) := by decide +kernel
theorem d_prog_61_2_23 : decode prog_61_method_2_code 23 = .ok (.baload, 1) := by decide +kernel
theorem d_prog_61_2_24 : decode prog_61_method_2_code 24 = .ok (.istore 6, 2) := by decide +kernel
theorem d_prog_61_2_26 : decode prog_61_method_2_code 26 = .ok (.lload_n 1, 1) := by decide +kernel
theorem d_prog_61_2_27 : decode prog_61_method_2_code 27 = .ok (.iload 6, 2) := by decide +kernel
theorem d_prog_61_2_29 : decode prog_61_method_2_code 29 = .ok (.i2l, 1) := by decide +kernel
theorem d_prog_61_2_30 : decode prog_61_method_2_code 30 = .ok (.ldc2_w 11, 3) := by decide +kernel
theorem d_prog_61_2_33 : decode prog_61_method_2_code 33 = .ok (.land, 1) := by decide +kernel
theorem d_prog_61_2_34 : decode prog_61_method_2_code 34 = .ok (.lxor, 1) := by decide +kernel
theorem d_prog_61_2_35 : decode prog_61_method_2_code 35 = .ok (.ldc2_w 13, 3) := by decide +kernel
theorem d_prog_61_2_38 : decode prog_61_method_2_code 38 = .ok (.lmul, 1) := by decide +kernel
theorem d_prog_61_2_39 : decode prog_61_method_2_code 39 = .ok (.lstore_n 1, 1) := by decide +kernel
theorem d_prog_61_2_40 : decode prog_61_method_2_code 40 = .ok (.iinc 5 1, 3) := by decide +kernel
theorem d_prog_61_2_43 : decode prog_61_method_2_code 43 = .ok (.goto (-30), 3) := by decide +kernel
set_option maxRecDepth 65536 in
set_option maxHeartbeats 40000000 in
theorem rm_hash1 (l : Launch) (Z : State) (a0 : Array Value) (hw : ∀ d ∈ tables_1, d.before a0 Z = true) (ws : List Jvm.Cond) (q1 : Addr) (w0 : Int32) (h0 : Heap) (n0 : Nat) (Z0 : n0 ≤ h0.size) (Aq : own_A Z h0 q1 "[B" .byte [(.int w0)]) :
    MetFree l (⟨"com/example/wirecall/wirecall/wire/Fnv1a", "hash64", "([B)J"⟩ : MethodName) (head1 (Jvm.Cond.code (⟨"com/example/wirecall/wirecall/wire/Fnv1a", "hash64", "([B)J"⟩ : MethodName) prog_61_method_2_code 7 (some .long) :: ws) ({ frames := 0, cells := 0, slots := 0, locals := 0 } : Room)) (fun a U => a = #[(.ref q1)] ∧ Z.Warmed39 U.vm ∧ U.heap = h0) (fun _ _ _ _ _ => True) (fun _ U o U' => ∃ v L, o = .returned v ∧ own_P (.long (own_h [w0])) h0 n0 v U'.heap L ∧ FrameEnd U o U' L ({ frames := 0, cells := 0, slots := 0, locals := 0 } : Room).cells ({ frames := 0, cells := 0, slots := 0, locals := 0 } : Room).slots) := by
  refine MetFree.of_bodySF (plainFor_of_name pn_com_example_wirecall_wirecall_wire_Fnv1a) hisR ?_
  intro p e s m args below meth c s₁ Bd hml0 hP hK
  obtain ⟨rfl, hZ, hh⟩ := hP
  have hx := Bd.exec
  have hby := Bd.bytes
  have hlk : meth.locks = false := BodyLoose.notSynchronized Bd
  have hml : c.maxLocals = 7 := hml0
  have hown : s.vm.findClass "com/example/wirecall/wirecall/wire/Fnv1a" = some m.cls := findClass_of_methodNamed Bd.named
  have hnm := (name_of_methodNamed Bd.named Bd.method).1
  have X0 : Stand p l e ({ frames := 0, cells := 0, slots := 0, locals := 0 } : Room) s m #[(.ref q1)] below meth c s₁ [] 0 0 := Stand.of_body Bd
  have e0 : s₁.heap = h0 := by rw [← hh, Bd.state]; rfl
  have N0 := Fr.nil n0
  refine own_cast (K := own_K s (own_P (.long (own_h [w0])) h0 n0) 0 0) (ef_prog_61_2 m q1) ?_
  generalize hKK : own_K s (own_P (.long (own_h [w0])) h0 n0) 0 0 = KK
  show own_Go p e below KK s₁ (mkF m 0 #[.val (.ref q1), .unset, .unset, .unset, .unset, .unset, .unset] [])
  refine own_at (fun t k => X0.ldc2Long hx hown (mvT hZ (hw _ (List.mem_of_getElem? (i := 10) rfl))) (g := (mkF m 0 #[.val (.ref q1), .unset, .unset, .unset, .unset, .unset, .unset] [])) rfl (hb hby d_prog_61_2_0) t k) ?_
  show own_Go p e below KK s₁ (mkF m 3 #[.val (.ref q1), .unset, .unset, .unset, .unset, .unset, .unset] [(.long (-3750763034362895579 : Int64))])
  refine own_at (fun t k => XS.lstoreN X0.here hx rfl (hb hby d_prog_61_2_3) rfl (l' := #[.val (.ref q1), .val (.long (-3750763034362895579 : Int64)), .second, .unset, .unset, .unset, .unset]) rfl k) ?_
  show own_Go p e below KK s₁ (mkF m 4 #[.val (.ref q1), .val (.long (-3750763034362895579 : Int64)), .second, .unset, .unset, .unset, .unset] [])
  refine own_at (fun t k => XS.aloadN X0.here hx rfl (hb hby d_prog_61_2_4) rfl rfl k) ?_
  show own_Go p e below KK s₁ (mkF m 5 #[.val (.ref q1), .val (.long (-3750763034362895579 : Int64)), .second, .unset, .unset, .unset, .unset] [(.ref q1)])
  refine own_at (fun t k => XS.astoreN X0.here hx rfl (hb hby d_prog_61_2_5) rfl rfl (l' := #[.val (.ref q1), .val (.long (-3750763034362895579 : Int64)), .second, .val (.ref q1), .unset, .unset, .unset]) rfl k) ?_
  show own_Go p e below KK s₁ (mkF m 6 #[.val (.ref q1), .val (.long (-3750763034362895579 : Int64)), .second, .val (.ref q1), .unset, .unset, .unset] [])
  refine own_at (fun t k => XS.aloadN X0.here hx rfl (hb hby d_prog_61_2_6) rfl rfl k) ?_
  show own_Go p e below KK s₁ (mkF m 7 #[.val (.ref q1), .val (.long (-3750763034362895579 : Int64)), .second, .val (.ref q1), .unset, .unset, .unset] [(.ref q1)])
  refine own_at (fun t k => own_len X0 hx hZ e0 Aq (N := (1 : Int32)) (show (1 : Nat).toInt32 = (1 : Int32) from by decide) (g := (mkF m 7 #[.val (.ref q1), .val (.long (-3750763034362895579 : Int64)), .second, .val (.ref q1), .unset, .unset, .unset] [(.ref q1)])) rfl rfl (hb hby d_prog_61_2_7) t k) ?_
  show own_Go p e below KK s₁ (mkF m 8 #[.val (.ref q1), .val (.long (-3750763034362895579 : Int64)), .second, .val (.ref q1), .unset, .unset, .unset] [(.int 1)])
  refine own_at (fun t k => XS.istore X0.here hx rfl (hb hby d_prog_61_2_8) rfl (l' := #[.val (.ref q1), .val (.long (-3750763034362895579 : Int64)), .second, .val (.ref q1), .val (.int 1), .unset, .unset]) rfl k) ?_
  show own_Go p e below KK s₁ (mkF m 10 #[.val (.ref q1), .val (.long (-3750763034362895579 : Int64)), .second, .val (.ref q1), .val (.int 1), .unset, .unset] [])
  refine own_at (fun t k => XS.iconst X0.here hx rfl (hb hby d_prog_61_2_10) k) ?_
  show own_Go p e below KK s₁ (mkF m 11 #[.val (.ref q1), .val (.long (-3750763034362895579 : Int64)), .second, .val (.ref q1), .val (.int 1), .unset, .unset] [(.int 0)])
  refine own_at (fun t k => XS.istore X0.here hx rfl (hb hby d_prog_61_2_11) rfl (l' := #[.val (.ref q1), .val (.long (-3750763034362895579 : Int64)), .second, .val (.ref q1), .val (.int 1), .val (.int 0), .unset]) rfl k) ?_
  show own_Go p e below KK s₁ (mkF m 13 #[.val (.ref q1), .val (.long (-3750763034362895579 : Int64)), .second, .val (.ref q1), .val (.int 1), .val (.int 0), .unset] [])
  refine own_at (fun t k => XS.iload X0.here hx rfl (hb hby d_prog_61_2_13) rfl k) ?_
  show own_Go p e below KK s₁ (mkF m 15 #[.val (.ref q1), .val (.long (-3750763034362895579 : Int64)), .second, .val (.ref q1), .val (.int 1), .val (.int 0), .unset] [(.int 0)])
  refine own_at (fun t k => XS.iload X0.here hx rfl (hb hby d_prog_61_2_15) rfl k) ?_
  show own_Go p e below KK s₁ (mkF m 17 #[.val (.ref q1), .val (.long (-3750763034362895579 : Int64)), .second, .val (.ref q1), .val (.int 1), .val (.int 0), .unset] [(.int 1), (.int 0)])
  have hc17 : (0 : Int32) < (1 : Int32) := by decide
  refine own_at (fun t k => XS.icmpNo X0.here hx rfl (hb hby d_prog_61_2_17) rfl (Jvm.Free.XT.ii_ge_f hc17) k) ?_
  show own_Go p e below KK s₁ (mkF m 20 #[.val (.ref q1), .val (.long (-3750763034362895579 : Int64)), .second, .val (.ref q1), .val (.int 1), .val (.int 0), .unset] [])
  refine own_at (fun t k => XS.aloadN X0.here hx rfl (hb hby d_prog_61_2_20) rfl rfl k) ?_
  show own_Go p e below KK s₁ (mkF m 21 #[.val (.ref q1), .val (.long (-3750763034362895579 : Int64)), .second, .val (.ref q1), .val (.int 1), .val (.int 0), .unset] [(.ref q1)])
  refine own_at (fun t k => XS.iload X0.here hx rfl (hb hby d_prog_61_2_21) rfl k) ?_
  show own_Go p e below KK s₁ (mkF m 23 #[.val (.ref q1), .val (.long (-3750763034362895579 : Int64)), .second, .val (.ref q1), .val (.int 1), .val (.int 0), .unset] [(.int 0), (.ref q1)])
  refine own_at (fun t k => own_ldB X0 hx hZ e0 Aq (j := (0 : Int32)) (i := 0) (v := (.int w0)) (by decide) (by decide) rfl (g := (mkF m 23 #[.val (.ref q1), .val (.long (-3750763034362895579 : Int64)), .second, .val (.ref q1), .val (.int 1), .val (.int 0), .unset] [(.int 0), (.ref q1)])) rfl rfl (hb hby d_prog_61_2_23) t k) ?_
  show own_Go p e below KK s₁ (mkF m 24 #[.val (.ref q1), .val (.long (-3750763034362895579 : Int64)), .second, .val (.ref q1), .val (.int 1), .val (.int 0), .unset] [(.int w0)])
  refine own_at (fun t k => XS.istore X0.here hx rfl (hb hby d_prog_61_2_24) rfl (l' := #[.val (.ref q1), .val (.long (-3750763034362895579 : Int64)), .second, .val (.ref q1), .val (.int 1), .val (.int 0), .val (.int w0)]) rfl k) ?_
  show own_Go p e below KK s₁ (mkF m 26 #[.val (.ref q1), .val (.long (-3750763034362895579 : Int64)), .second, .val (.ref q1), .val (.int 1), .val (.int 0), .val (.int w0)] [])
  refine own_at (fun t k => XS.lloadN X0.here hx rfl (hb hby d_prog_61_2_26) rfl k) ?_
  show own_Go p e below KK s₁ (mkF m 27 #[.val (.ref q1), .val (.long (-3750763034362895579 : Int64)), .second, .val (.ref q1), .val (.int 1), .val (.int 0), .val (.int w0)] [(.long (-3750763034362895579 : Int64))])
  refine own_at (fun t k => XS.iload X0.here hx rfl (hb hby d_prog_61_2_27) rfl k) ?_
  show own_Go p e below KK s₁ (mkF m 29 #[.val (.ref q1), .val (.long (-3750763034362895579 : Int64)), .second, .val (.ref q1), .val (.int 1), .val (.int 0), .val (.int w0)] [(.int w0), (.long (-3750763034362895579 : Int64))])
  refine own_at (fun t k => XS.i2l X0.here hx rfl (hb hby d_prog_61_2_29) rfl k) ?_
  show own_Go p e below KK s₁ (mkF m 30 #[.val (.ref q1), .val (.long (-3750763034362895579 : Int64)), .second, .val (.ref q1), .val (.int 1), .val (.int 0), .val (.int w0)] [(.long (w0.toInt64)), (.long (-3750763034362895579 : Int64))])
  refine own_at (fun t k => X0.ldc2Long hx hown (mvT hZ (hw _ (List.mem_of_getElem? (i := 11) rfl))) (g := (mkF m 30 #[.val (.ref q1), .val (.long (-3750763034362895579 : Int64)), .second, .val (.ref q1), .val (.int 1), .val (.int 0), .val (.int w0)] [(.long (w0.toInt64)), (.long (-3750763034362895579 : Int64))])) rfl (hb hby d_prog_61_2_30) t k) ?_
  show own_Go p e below KK s₁ (mkF m 33 #[.val (.ref q1), .val (.long (-3750763034362895579 : Int64)), .second, .val (.ref q1), .val (.int 1), .val (.int 0), .val (.int w0)] [(.long 255), (.long (w0.toInt64)), (.long (-3750763034362895579 : Int64))])
  refine own_at (fun t k => XS.land X0.here hx rfl (hb hby d_prog_61_2_33) rfl k) ?_
  show own_Go p e below KK s₁ (mkF m 34 #[.val (.ref q1), .val (.long (-3750763034362895579 : Int64)), .second, .val (.ref q1), .val (.int 1), .val (.int 0), .val (.int w0)] [(.long ((w0.toInt64) &&& (255 : Int64))), (.long (-3750763034362895579 : Int64))])
  refine own_at (fun t k => XS.lxor X0.here hx rfl (hb hby d_prog_61_2_34) rfl k) ?_
  show own_Go p e below KK s₁ (mkF m 35 #[.val (.ref q1), .val (.long (-3750763034362895579 : Int64)), .second, .val (.ref q1), .val (.int 1), .val (.int 0), .val (.int w0)] [(.long ((-3750763034362895579 : Int64) ^^^ ((w0.toInt64) &&& (255 : Int64))))])
  refine own_at (fun t k => X0.ldc2Long hx hown (mvT hZ (hw _ (List.mem_of_getElem? (i := 12) rfl))) (g := (mkF m 35 #[.val (.ref q1), .val (.long (-3750763034362895579 : Int64)), .second, .val (.ref q1), .val (.int 1), .val (.int 0), .val (.int w0)] [(.long ((-3750763034362895579 : Int64) ^^^ ((w0.toInt64) &&& (255 : Int64))))])) rfl (hb hby d_prog_61_2_35) t k) ?_
  show own_Go p e below KK s₁ (mkF m 38 #[.val (.ref q1), .val (.long (-3750763034362895579 : Int64)), .second, .val (.ref q1), .val (.int 1), .val (.int 0), .val (.int w0)] [(.long 1099511628211), (.long ((-3750763034362895579 : Int64) ^^^ ((w0.toInt64) &&& (255 : Int64))))])
  refine own_at (fun t k => XS.lmul X0.here hx rfl (hb hby d_prog_61_2_38) rfl k) ?_
  show own_Go p e below KK s₁ (mkF m 39 #[.val (.ref q1), .val (.long (-3750763034362895579 : Int64)), .second, .val (.ref q1), .val (.int 1), .val (.int 0), .val (.int w0)] [(.long (((-3750763034362895579 : Int64) ^^^ ((w0.toInt64) &&& (255 : Int64))) * (1099511628211 : Int64)))])
  refine own_at (fun t k => XS.lstoreN X0.here hx rfl (hb hby d_prog_61_2_39) rfl (l' := #[.val (.ref q1), .val (.long (((-3750763034362895579 : Int64) ^^^ ((w0.toInt64) &&& (255 : Int64))) * (1099511628211 : Int64))), .second, .val (.ref q1), .val (.int 1), .val (.int 0), .val (.int w0)]) rfl k) ?_
  show own_Go p e below KK s₁ (mkF m 40 #[.val (.ref q1), .val (.long (((-3750763034362895579 : Int64) ^^^ ((w0.toInt64) &&& (255 : Int64))) * (1099511628211 : Int64))), .second, .val (.ref q1), .val (.int 1), .val (.int 0), .val (.int w0)] [])
  refine own_at (fun t k => XS.iinc X0.here hx rfl (hb hby d_prog_61_2_40) rfl (l' := #[.val (.ref q1), .val (.long (((-3750763034362895579 : Int64) ^^^ ((w0.toInt64) &&& (255 : Int64))) * (1099511628211 : Int64))), .second, .val (.ref q1), .val (.int 1), .val (.int ((0 : Int32) + (1 : Int32))), .val (.int w0)]) rfl k) ?_
  show own_Go p e below KK s₁ (mkF m 43 #[.val (.ref q1), .val (.long (((-3750763034362895579 : Int64) ^^^ ((w0.toInt64) &&& (255 : Int64))) * (1099511628211 : Int64))), .second, .val (.ref q1), .val (.int 1), .val (.int ((0 : Int32) + (1 : Int32))), .val (.int w0)] [])
  rw [show ((0 : Int32) + (1 : Int32)) = (1 : Int32) from by decide]
  show own_Go p e below KK s₁ (mkF m 43 #[.val (.ref q1), .val (.long (((-3750763034362895579 : Int64) ^^^ ((w0.toInt64) &&& (255 : Int64))) * (1099511628211 : Int64))), .second, .val (.ref q1), .val (.int 1), .val (.int 1), .val (.int w0)] [])
  refine own_at (fun t k => XS.goto X0.here hx rfl (pc0 := 43) (pc' := 13) rfl (hb hby d_prog_61_2_43) (by decide) (by decide) k) ?_
  show own_Go p e below KK s₁ (mkF m 13 #[.val (.ref q1), .val (.long (((-3750763034362895579 : Int64) ^^^ ((w0.toInt64) &&& (255 : Int64))) * (1099511628211 : Int64))), .second, .val (.ref q1), .val (.int 1), .val (.int 1), .val (.int w0)] [])
  refine own_at (fun t k => XS.iload X0.here hx rfl (hb hby d_prog_61_2_13) rfl k) ?_
  show own_Go p e below KK s₁ (mkF m 15 #[.val (.ref q1), .val (.long (((-3750763034362895579 : Int64) ^^^ ((w0.toInt64) &&& (255 : Int64))) * (1099511628211 : Int64))), .second, .val (.ref q1), .val (.int 1), .val (.int 1), .val (.int w0)] [(.int 1)])
  refine own_at (fun t k => XS.iload X0.here hx rfl (hb hby d_prog_61_2_15) rfl k) ?_
  show own_Go p e below KK s₁ (mkF m 17 #[.val (.ref q1), .val (.long (((-3750763034362895579 : Int64) ^^^ ((w0.toInt64) &&& (255 : Int64))) * (1099511628211 : Int64))), .second, .val (.ref q1), .val (.int 1), .val (.int 1), .val (.int w0)] [(.int 1), (.int 1)])
  have hc17_1 : ¬ ((1 : Int32) < (1 : Int32)) := by decide
  refine own_at (fun t k => XS.icmpYes X0.here hx rfl (pc0 := 17) (pc' := 46) rfl (hb hby d_prog_61_2_17) rfl (Jvm.Free.XT.ii_ge_t hc17_1) (by decide) (by decide) k) ?_
  show own_Go p e below KK s₁ (mkF m 46 #[.val (.ref q1), .val (.long (((-3750763034362895579 : Int64) ^^^ ((w0.toInt64) &&& (255 : Int64))) * (1099511628211 : Int64))), .second, .val (.ref q1), .val (.int 1), .val (.int 1), .val (.int w0)] [])
  refine own_at (fun t k => XS.lloadN X0.here hx rfl (hb hby d_prog_61_2_46) rfl k) ?_
  show own_Go p e below KK s₁ (mkF m 47 #[.val (.ref q1), .val (.long (((-3750763034362895579 : Int64) ^^^ ((w0.toInt64) &&& (255 : Int64))) * (1099511628211 : Int64))), .second, .val (.ref q1), .val (.int 1), .val (.int 1), .val (.int w0)] [(.long (((-3750763034362895579 : Int64) ^^^ ((w0.toInt64) &&& (255 : Int64))) * (1099511628211 : Int64)))])
  subst hKK
  exact own_retJ X0 hx hlk Bd.returns (hb hby d_prog_61_2_47) (w := (own_h [w0])) (show (((-3750763034362895579 : Int64) ^^^ ((w0.toInt64) &&& (255 : Int64))) * (1099511628211 : Int64)) = (own_h [w0]) from rfl) ⟨rfl, N0, e0⟩ (Nat.le_of_ble_eq_true rfl) (Nat.le_of_ble_eq_true rfl)
set_option maxRecDepth 65536 in
set_option maxHeartbeats 40000000 in
theorem rm_hash2 (l : Launch) (Z : State) (a0 : Array Value) (hw : ∀ d ∈ tables_1, d.before a0 Z = true) (ws : List Jvm.Cond) (q1 : Addr) (w0 : Int32) (w1 : Int32) (h0 : Heap) (n0 : Nat) (Z0 : n0 ≤ h0.size) (Aq : own_A Z h0 q1 "[B" .byte [(.int w0), (.int w1)]) :
    MetFree l (⟨"com/example/wirecall/wirecall/wire/Fnv1a", "hash64", "([B)J"⟩ : MethodName) (head1 (Jvm.Cond.code (⟨"com/example/wirecall/wirecall/wire/Fnv1a", "hash64", "([B)J"⟩ : MethodName) prog_61_method_2_code 7 (some .long) :: ws) ({ frames := 0, cells := 0, slots := 0, locals := 0 } : Room)) (fun a U => a = #[(.ref q1)] ∧ Z.Warmed39 U.vm ∧ U.heap = h0) (fun _ _ _ _ _ => True) (fun _ U o U' => ∃ v L, o = .returned v ∧ own_P (.long (own_h [w0, w1])) h0 n0 v U'.heap L ∧ FrameEnd U o U' L ({ frames := 0, cells := 0, slots := 0, locals := 0 } : Room).cells ({ frames := 0, cells := 0, slots := 0, locals := 0 } : Room).slots) := by
  refine MetFree.of_bodySF (plainFor_of_name pn_com_example_wirecall_wirecall_wire_Fnv1a) hisR ?_
  intro p e s m args below meth c s₁ Bd hml0 hP hK
  obtain ⟨rfl, hZ, hh⟩ := hP
  have hx := Bd.exec
  have hby := Bd.bytes
  have hlk : meth.locks = false := BodyLoose.notSynchronized Bd
  have hml : c.maxLocals = 7 := hml0
  have hown : s.vm.findClass "com/example/wirecall/wirecall/wire/Fnv1a" = some m.cls := findClass_of_methodNamed Bd.named
  have hnm := (name_of_methodNamed Bd.named Bd.method).1
  have X0 : Stand p l e ({ frames := 0, cells := 0, slots := 0, locals := 0 } : Room) s m #[(.ref q1)] below meth c s₁ [] 0 0 := Stand.of_body Bd
  have e0 : s₁.heap = h0 := by rw [← hh, Bd.state]; rfl
  have N0 := Fr.nil n0
  refine own_cast (K := own_K s (own_P (.long (own_h [w0, w1])) h0 n0) 0 0) (ef_prog_61_2 m q1) ?_
  generalize hKK : own_K s (own_P (.long (own_h [w0, w1])) h0 n0) 0 0 = KK
  show own_Go p e below KK s₁ (mkF m 0 #[.val (.ref q1), .unset, .unset, .unset, .unset, .unset, .unset] [])
  refine own_at (fun t k => X0.ldc2Long hx hown (mvT hZ (hw _ (List.mem_of_getElem? (i := 10) rfl))) (g := (mkF m 0 #[.val (.ref q1), .unset, .unset, .unset, .unset, .unset, .unset] [])) rfl (hb hby d_prog_61_2_0) t k) ?_
  show own_Go p e below KK s₁ (mkF m 3 #[.val (.ref q1), .unset, .unset, .unset, .unset, .unset, .unset] [(.long (-3750763034362895579 : Int64))])
  refine own_at (fun t k => XS.lstoreN X0.here hx rfl (hb hby d_prog_61_2_3) rfl (l' := #[.val (.ref q1), .val (.long (-3750763034362895579 : Int64)), .second, .unset, .unset, .unset, .unset]) rfl k) ?_
  show own_Go p e below KK s₁ (mkF m 4 #[.val (.ref q1), .val (.long (-3750763034362895579 : Int64)), .second, .unset, .unset, .unset, .unset] [])
  refine own_at (fun t k => XS.aloadN X0.here hx rfl (hb hby d_prog_61_2_4) rfl rfl k) ?_
  show own_Go p e below KK s₁ (mkF m 5 #[.val (.ref q1), .val (.long (-3750763034362895579 : Int64)), .second, .unset, .unset, .unset, .unset] [(.ref q1)])
  refine own_at (fun t k => XS.astoreN X0.here hx rfl (hb hby d_prog_61_2_5) rfl rfl (l' := #[.val (.ref q1), .val (.long (-3750763034362895579 : Int64)), .second, .val (.ref q1), .unset, .unset, .unset]) rfl k) ?_
  show own_Go p e below KK s₁ (mkF m 6 #[.val (.ref q1), .val (.long (-3750763034362895579 : Int64)), .second, .val (.ref q1), .unset, .unset, .unset] [])
  refine own_at (fun t k => XS.aloadN X0.here hx rfl (hb hby d_prog_61_2_6) rfl rfl k) ?_
  show own_Go p e below KK s₁ (mkF m 7 #[.val (.ref q1), .val (.long (-3750763034362895579 : Int64)), .second, .val (.ref q1), .unset, .unset, .unset] [(.ref q1)])
  refine own_at (fun t k => own_len X0 hx hZ e0 Aq (N := (2 : Int32)) (show (2 : Nat).toInt32 = (2 : Int32) from by decide) (g := (mkF m 7 #[.val (.ref q1), .val (.long (-3750763034362895579 : Int64)), .second, .val (.ref q1), .unset, .unset, .unset] [(.ref q1)])) rfl rfl (hb hby d_prog_61_2_7) t k) ?_
  show own_Go p e below KK s₁ (mkF m 8 #[.val (.ref q1), .val (.long (-3750763034362895579 : Int64)), .second, .val (.ref q1), .unset, .unset, .unset] [(.int 2)])
  refine own_at (fun t k => XS.istore X0.here hx rfl (hb hby d_prog_61_2_8) rfl (l' := #[.val (.ref q1), .val (.long (-3750763034362895579 : Int64)), .second, .val (.ref q1), .val (.int 2), .unset, .unset]) rfl k) ?_
  show own_Go p e below KK s₁ (mkF m 10 #[.val (.ref q1), .val (.long (-3750763034362895579 : Int64)), .second, .val (.ref q1), .val (.int 2), .unset, .unset] [])
  refine own_at (fun t k => XS.iconst X0.here hx rfl (hb hby d_prog_61_2_10) k) ?_
  show own_Go p e below KK s₁ (mkF m 11 #[.val (.ref q1), .val (.long (-3750763034362895579 : Int64)), .second, .val (.ref q1), .val (.int 2), .unset, .unset] [(.int 0)])
  refine own_at (fun t k => XS.istore X0.here hx rfl (hb hby d_prog_61_2_11) rfl (l' := #[.val (.ref q1), .val (.long (-3750763034362895579 : Int64)), .second, .val (.ref q1), .val (.int 2), .val (.int 0), .unset]) rfl k) ?_
  show own_Go p e below KK s₁ (mkF m 13 #[.val (.ref q1), .val (.long (-3750763034362895579 : Int64)), .second, .val (.ref q1), .val (.int 2), .val (.int 0), .unset] [])
  refine own_at (fun t k => XS.iload X0.here hx rfl (hb hby d_prog_61_2_13) rfl k) ?_
  show own_Go p e below KK s₁ (mkF m 15 #[.val (.ref q1), .val (.long (-3750763034362895579 : Int64)), .second, .val (.ref q1), .val (.int 2), .val (.int 0), .unset] [(.int 0)])
  refine own_at (fun t k => XS.iload X0.here hx rfl (hb hby d_prog_61_2_15) rfl k) ?_
  show own_Go p e below KK s₁ (mkF m 17 #[.val (.ref q1), .val (.long (-3750763034362895579 : Int64)), .second, .val (.ref q1), .val (.int 2), .val (.int 0), .unset] [(.int 2), (.int 0)])
  have hc17 : (0 : Int32) < (2 : Int32) := by decide
  refine own_at (fun t k => XS.icmpNo X0.here hx rfl (hb hby d_prog_61_2_17) rfl (Jvm.Free.XT.ii_ge_f hc17) k) ?_
  show own_Go p e below KK s₁ (mkF m 20 #[.val (.ref q1), .val (.long (-3750763034362895579 : Int64)), .second, .val (.ref q1), .val (.int 2), .val (.int 0), .unset] [])
  refine own_at (fun t k => XS.aloadN X0.here hx rfl (hb hby d_prog_61_2_20) rfl rfl k) ?_
  show own_Go p e below KK s₁ (mkF m 21 #[.val (.ref q1), .val (.long (-3750763034362895579 : Int64)), .second, .val (.ref q1), .val (.int 2), .val (.int 0), .unset] [(.ref q1)])
  refine own_at (fun t k => XS.iload X0.here hx rfl (hb hby d_prog_61_2_21) rfl k) ?_
  show own_Go p e below KK s₁ (mkF m 23 #[.val (.ref q1), .val (.long (-3750763034362895579 : Int64)), .second, .val (.ref q1), .val (.int 2), .val (.int 0), .unset] [(.int 0), (.ref q1)])
  refine own_at (fun t k => own_ldB X0 hx hZ e0 Aq (j := (0 : Int32)) (i := 0) (v := (.int w0)) (by decide) (by decide) rfl (g := (mkF m 23 #[.val (.ref q1), .val (.long (-3750763034362895579 : Int64)), .second, .val (.ref q1), .val (.int 2), .val (.int 0), .unset] [(.int 0), (.ref q1)])) rfl rfl (hb hby d_prog_61_2_23) t k) ?_
  show own_Go p e below KK s₁ (mkF m 24 #[.val (.ref q1), .val (.long (-3750763034362895579 : Int64)), .second, .val (.ref q1), .val (.int 2), .val (.int 0), .unset] [(.int w0)])
  refine own_at (fun t k => XS.istore X0.here hx rfl (hb hby d_prog_61_2_24) rfl (l' := #[.val (.ref q1), .val (.long (-3750763034362895579 : Int64)), .second, .val (.ref q1), .val (.int 2), .val (.int 0), .val (.int w0)]) rfl k) ?_
  show own_Go p e below KK s₁ (mkF m 26 #[.val (.ref q1), .val (.long (-3750763034362895579 : Int64)), .second, .val (.ref q1), .val (.int 2), .val (.int 0), .val (.int w0)] [])
  refine own_at (fun t k => XS.lloadN X0.here hx rfl (hb hby d_prog_61_2_26) rfl k) ?_
  show own_Go p e below KK s₁ (mkF m 27 #[.val (.ref q1), .val (.long (-3750763034362895579 : Int64)), .second, .val (.ref q1), .val (.int 2), .val (.int 0), .val (.int w0)] [(.long (-3750763034362895579 : Int64))])
  refine own_at (fun t k => XS.iload X0.here hx rfl (hb hby d_prog_61_2_27) rfl k) ?_
  show own_Go p e below KK s₁ (mkF m 29 #[.val (.ref q1), .val (.long (-3750763034362895579 : Int64)), .second, .val (.ref q1), .val (.int 2), .val (.int 0), .val (.int w0)] [(.int w0), (.long (-3750763034362895579 : Int64))])
  refine own_at (fun t k => XS.i2l X0.here hx rfl (hb hby d_prog_61_2_29) rfl k) ?_
  show own_Go p e below KK s₁ (mkF m 30 #[.val (.ref q1), .val (.long (-3750763034362895579 : Int64)), .second, .val (.ref q1), .val (.int 2), .val (.int 0), .val (.int w0)] [(.long (w0.toInt64)), (.long (-3750763034362895579 : Int64))])
  refine own_at (fun t k => X0.ldc2Long hx hown (mvT hZ (hw _ (List.mem_of_getElem? (i := 11) rfl))) (g := (mkF m 30 #[.val (.ref q1), .val (.long (-3750763034362895579 : Int64)), .second, .val (.ref q1), .val (.int 2), .val (.int 0), .val (.int w0)] [(.long (w0.toInt64)), (.long (-3750763034362895579 : Int64))])) rfl (hb hby d_prog_61_2_30) t k) ?_
  show own_Go p e below KK s₁ (mkF m 33 #[.val (.ref q1), .val (.long (-3750763034362895579 : Int64)), .second, .val (.ref q1), .val (.int 2), .val (.int 0), .val (.int w0)] [(.long 255), (.long (w0.toInt64)), (.long (-3750763034362895579 : Int64))])
  refine own_at (fun t k => XS.land X0.here hx rfl (hb hby d_prog_61_2_33) rfl k) ?_
  show own_Go p e below KK s₁ (mkF m 34 #[.val (.ref q1), .val (.long (-3750763034362895579 : Int64)), .second, .val (.ref q1), .val (.int 2), .val (.int 0), .val (.int w0)] [(.long ((w0.toInt64) &&& (255 : Int64))), (.long (-3750763034362895579 : Int64))])
  refine own_at (fun t k => XS.lxor X0.here hx rfl (hb hby d_prog_61_2_34) rfl k) ?_
  show own_Go p e below KK s₁ (mkF m 35 #[.val (.ref q1), .val (.long (-3750763034362895579 : Int64)), .second, .val (.ref q1), .val (.int 2), .val (.int 0), .val (.int w0)] [(.long ((-3750763034362895579 : Int64) ^^^ ((w0.toInt64) &&& (255 : Int64))))])
  refine own_at (fun t k => X0.ldc2Long hx hown (mvT hZ (hw _ (List.mem_of_getElem? (i := 12) rfl))) (g := (mkF m 35 #[.val (.ref q1), .val (.long (-3750763034362895579 : Int64)), .second, .val (.ref q1), .val (.int 2), .val (.int 0), .val (.int w0)] [(.long ((-3750763034362895579 : Int64) ^^^ ((w0.toInt64) &&& (255 : Int64))))])) rfl (hb hby d_prog_61_2_35) t k) ?_
  show own_Go p e below KK s₁ (mkF m 38 #[.val (.ref q1), .val (.long (-3750763034362895579 : Int64)), .second, .val (.ref q1), .val (.int 2), .val (.int 0), .val (.int w0)] [(.long 1099511628211), (.long ((-3750763034362895579 : Int64) ^^^ ((w0.toInt64) &&& (255 : Int64))))])
  refine own_at (fun t k => XS.lmul X0.here hx rfl (hb hby d_prog_61_2_38) rfl k) ?_
  show own_Go p e below KK s₁ (mkF m 39 #[.val (.ref q1), .val (.long (-3750763034362895579 : Int64)), .second, .val (.ref q1), .val (.int 2), .val (.int 0), .val (.int w0)] [(.long (((-3750763034362895579 : Int64) ^^^ ((w0.toInt64) &&& (255 : Int64))) * (1099511628211 : Int64)))])
  refine own_at (fun t k => XS.lstoreN X0.here hx rfl (hb hby d_prog_61_2_39) rfl (l' := #[.val (.ref q1), .val (.long (((-3750763034362895579 : Int64) ^^^ ((w0.toInt64) &&& (255 : Int64))) * (1099511628211 : Int64))), .second, .val (.ref q1), .val (.int 2), .val (.int 0), .val (.int w0)]) rfl k) ?_
  show own_Go p e below KK s₁ (mkF m 40 #[.val (.ref q1), .val (.long (((-3750763034362895579 : Int64) ^^^ ((w0.toInt64) &&& (255 : Int64))) * (1099511628211 : Int64))), .second, .val (.ref q1), .val (.int 2), .val (.int 0), .val (.int w0)] [])
  refine own_at (fun t k => XS.iinc X0.here hx rfl (hb hby d_prog_61_2_40) rfl (l' := #[.val (.ref q1), .val (.long (((-3750763034362895579 : Int64) ^^^ ((w0.toInt64) &&& (255 : Int64))) * (1099511628211 : Int64))), .second, .val (.ref q1), .val (.int 2), .val (.int ((0 : Int32) + (1 : Int32))), .val (.int w0)]) rfl k) ?_
  show own_Go p e below KK s₁ (mkF m 43 #[.val (.ref q1), .val (.long (((-3750763034362895579 : Int64) ^^^ ((w0.toInt64) &&& (255 : Int64))) * (1099511628211 : Int64))), .second, .val (.ref q1), .val (.int 2), .val (.int ((0 : Int32) + (1 : Int32))), .val (.int w0)] [])
  rw [show ((0 : Int32) + (1 : Int32)) = (1 : Int32) from by decide]
  show own_Go p e below KK s₁ (mkF m 43 #[.val (.ref q1), .val (.long (((-3750763034362895579 : Int64) ^^^ ((w0.toInt64) &&& (255 : Int64))) * (1099511628211 : Int64))), .second, .val (.ref q1), .val (.int 2), .val (.int 1), .val (.int w0)] [])
  refine own_at (fun t k => XS.goto X0.here hx rfl (pc0 := 43) (pc' := 13) rfl (hb hby d_prog_61_2_43) (by decide) (by decide) k) ?_
  show own_Go p e below KK s₁ (mkF m 13 #[.val (.ref q1), .val (.long (((-3750763034362895579 : Int64) ^^^ ((w0.toInt64) &&& (255 : Int64))) * (1099511628211 : Int64))), .second, .val (.ref q1), .val (.int 2), .val (.int 1), .val (.int w0)] [])
  refine own_at (fun t k => XS.iload X0.here hx rfl (hb hby d_prog_61_2_13) rfl k) ?_
  show own_Go p e below KK s₁ (mkF m 15 #[.val (.ref q1), .val (.long (((-3750763034362895579 : Int64) ^^^ ((w0.toInt64) &&& (255 : Int64))) * (1099511628211 : Int64))), .second, .val (.ref q1), .val (.int 2), .val (.int 1), .val (.int w0)] [(.int 1)])
  refine own_at (fun t k => XS.iload X0.here hx rfl (hb hby d_prog_61_2_15) rfl k) ?_
  show own_Go p e below KK s₁ (mkF m 17 #[.val (.ref q1), .val (.long (((-3750763034362895579 : Int64) ^^^ ((w0.toInt64) &&& (255 : Int64))) * (1099511628211 : Int64))), .second, .val (.ref q1), .val (.int 2), .val (.int 1), .val (.int w0)] [(.int 2), (.int 1)])
  have hc17_1 : (1 : Int32) < (2 : Int32) := by decide
  refine own_at (fun t k => XS.icmpNo X0.here hx rfl (hb hby d_prog_61_2_17) rfl (Jvm.Free.XT.ii_ge_f hc17_1) k) ?_
  show own_Go p e below KK s₁ (mkF m 20 #[.val (.ref q1), .val (.long (((-3750763034362895579 : Int64) ^^^ ((w0.toInt64) &&& (255 : Int64))) * (1099511628211 : Int64))), .second, .val (.ref q1), .val (.int 2), .val (.int 1), .val (.int w0)] [])
  refine own_at (fun t k => XS.aloadN X0.here hx rfl (hb hby d_prog_61_2_20) rfl rfl k) ?_
  show own_Go p e below KK s₁ (mkF m 21 #[.val (.ref q1), .val (.long (((-3750763034362895579 : Int64) ^^^ ((w0.toInt64) &&& (255 : Int64))) * (1099511628211 : Int64))), .second, .val (.ref q1), .val (.int 2), .val (.int 1), .val (.int w0)] [(.ref q1)])
  refine own_at (fun t k => XS.iload X0.here hx rfl (hb hby d_prog_61_2_21) rfl k) ?_
  show own_Go p e below KK s₁ (mkF m 23 #[.val (.ref q1), .val (.long (((-3750763034362895579 : Int64) ^^^ ((w0.toInt64) &&& (255 : Int64))) * (1099511628211 : Int64))), .second, .val (.ref q1), .val (.int 2), .val (.int 1), .val (.int w0)] [(.int 1), (.ref q1)])
  refine own_at (fun t k => own_ldB X0 hx hZ e0 Aq (j := (1 : Int32)) (i := 1) (v := (.int w1)) (by decide) (by decide) rfl (g := (mkF m 23 #[.val (.ref q1), .val (.long (((-3750763034362895579 : Int64) ^^^ ((w0.toInt64) &&& (255 : Int64))) * (1099511628211 : Int64))), .second, .val (.ref q1), .val (.int 2), .val (.int 1), .val (.int w0)] [(.int 1), (.ref q1)])) rfl rfl (hb hby d_prog_61_2_23) t k) ?_
  show own_Go p e below KK s₁ (mkF m 24 #[.val (.ref q1), .val (.long (((-3750763034362895579 : Int64) ^^^ ((w0.toInt64) &&& (255 : Int64))) * (1099511628211 : Int64))), .second, .val (.ref q1), .val (.int 2), .val (.int 1), .val (.int w0)] [(.int w1)])
  refine own_at (fun t k => XS.istore X0.here hx rfl (hb hby d_prog_61_2_24) rfl (l' := #[.val (.ref q1), .val (.long (((-3750763034362895579 : Int64) ^^^ ((w0.toInt64) &&& (255 : Int64))) * (1099511628211 : Int64))), .second, .val (.ref q1), .val (.int 2), .val (.int 1), .val (.int w1)]) rfl k) ?_
  show own_Go p e below KK s₁ (mkF m 26 #[.val (.ref q1), .val (.long (((-3750763034362895579 : Int64) ^^^ ((w0.toInt64) &&& (255 : Int64))) * (1099511628211 : Int64))), .second, .val (.ref q1), .val (.int 2), .val (.int 1), .val (.int w1)] [])
  refine own_at (fun t k => XS.lloadN X0.here hx rfl (hb hby d_prog_61_2_26) rfl k) ?_
  show own_Go p e below KK s₁ (mkF m 27 #[.val (.ref q1), .val (.long (((-3750763034362895579 : Int64) ^^^ ((w0.toInt64) &&& (255 : Int64))) * (1099511628211 : Int64))), .second, .val (.ref q1), .val (.int 2), .val (.int 1), .val (.int w1)] [(.long (((-3750763034362895579 : Int64) ^^^ ((w0.toInt64) &&& (255 : Int64))) * (1099511628211 : Int64)))])
  refine own_at (fun t k => XS.iload X0.here hx rfl (hb hby d_prog_61_2_27) rfl k) ?_
  show own_Go p e below KK s₁ (mkF m 29 #[.val (.ref q1), .val (.long (((-3750763034362895579 : Int64) ^^^ ((w0.toInt64) &&& (255 : Int64))) * (1099511628211 : Int64))), .second, .val (.ref q1), .val (.int 2), .val (.int 1), .val (.int w1)] [(.int w1), (.long (((-3750763034362895579 : Int64) ^^^ ((w0.toInt64) &&& (255 : Int64))) * (1099511628211 : Int64)))])
  refine own_at (fun t k => XS.i2l X0.here hx rfl (hb hby d_prog_61_2_29) rfl k) ?_
  show own_Go p e below KK s₁ (mkF m 30 #[.val (.ref q1), .val (.long (((-3750763034362895579 : Int64) ^^^ ((w0.toInt64) &&& (255 : Int64))) * (1099511628211 : Int64))), .second, .val (.ref q1), .val (.int 2), .val (.int 1), .val (.int w1)] [(.long (w1.toInt64)), (.long (((-3750763034362895579 : Int64) ^^^ ((w0.toInt64) &&& (255 : Int64))) * (1099511628211 : Int64)))])
  refine own_at (fun t k => X0.ldc2Long hx hown (mvT hZ (hw _ (List.mem_of_getElem? (i := 11) rfl))) (g := (mkF m 30 #[.val (.ref q1), .val (.long (((-3750763034362895579 : Int64) ^^^ ((w0.toInt64) &&& (255 : Int64))) * (1099511628211 : Int64))), .second, .val (.ref q1), .val (.int 2), .val (.int 1), .val (.int w1)] [(.long (w1.toInt64)), (.long (((-3750763034362895579 : Int64) ^^^ ((w0.toInt64) &&& (255 : Int64))) * (1099511628211 : Int64)))])) rfl (hb hby d_prog_61_2_30) t k) ?_
  show own_Go p e below KK s₁ (mkF m 33 #[.val (.ref q1), .val (.long (((-3750763034362895579 : Int64) ^^^ ((w0.toInt64) &&& (255 : Int64))) * (1099511628211 : Int64))), .second, .val (.ref q1), .val (.int 2), .val (.int 1), .val (.int w1)] [(.long 255), (.long (w1.toInt64)), (.long (((-3750763034362895579 : Int64) ^^^ ((w0.toInt64) &&& (255 : Int64))) * (1099511628211 : Int64)))])
  refine own_at (fun t k => XS.land X0.here hx rfl (hb hby d_prog_61_2_33) rfl k) ?_
  show own_Go p e below KK s₁ (mkF m 34 #[.val (.ref q1), .val (.long (((-3750763034362895579 : Int64) ^^^ ((w0.toInt64) &&& (255 : Int64))) * (1099511628211 : Int64))), .second, .val (.ref q1), .val (.int 2), .val (.int 1), .val (.int w1)] [(.long ((w1.toInt64) &&& (255 : Int64))), (.long (((-3750763034362895579 : Int64) ^^^ ((w0.toInt64) &&& (255 : Int64))) * (1099511628211 : Int64)))])
  refine own_at (fun t k => XS.lxor X0.here hx rfl (hb hby d_prog_61_2_34) rfl k) ?_
  show own_Go p e below KK s₁ (mkF m 35 #[.val (.ref q1), .val (.long (((-3750763034362895579 : Int64) ^^^ ((w0.toInt64) &&& (255 : Int64))) * (1099511628211 : Int64))), .second, .val (.ref q1), .val (.int 2), .val (.int 1), .val (.int w1)] [(.long ((((-3750763034362895579 : Int64) ^^^ ((w0.toInt64) &&& (255 : Int64))) * (1099511628211 : Int64)) ^^^ ((w1.toInt64) &&& (255 : Int64))))])
  refine own_at (fun t k => X0.ldc2Long hx hown (mvT hZ (hw _ (List.mem_of_getElem? (i := 12) rfl))) (g := (mkF m 35 #[.val (.ref q1), .val (.long (((-3750763034362895579 : Int64) ^^^ ((w0.toInt64) &&& (255 : Int64))) * (1099511628211 : Int64))), .second, .val (.ref q1), .val (.int 2), .val (.int 1), .val (.int w1)] [(.long ((((-3750763034362895579 : Int64) ^^^ ((w0.toInt64) &&& (255 : Int64))) * (1099511628211 : Int64)) ^^^ ((w1.toInt64) &&& (255 : Int64))))])) rfl (hb hby d_prog_61_2_35) t k) ?_
  show own_Go p e below KK s₁ (mkF m 38 #[.val (.ref q1), .val (.long (((-3750763034362895579 : Int64) ^^^ ((w0.toInt64) &&& (255 : Int64))) * (1099511628211 : Int64))), .second, .val (.ref q1), .val (.int 2), .val (.int 1), .val (.int w1)] [(.long 1099511628211), (.long ((((-3750763034362895579 : Int64) ^^^ ((w0.toInt64) &&& (255 : Int64))) * (1099511628211 : Int64)) ^^^ ((w1.toInt64) &&& (255 : Int64))))])
  refine own_at (fun t k => XS.lmul X0.here hx rfl (hb hby d_prog_61_2_38) rfl k) ?_
  show own_Go p e below KK s₁ (mkF m 39 #[.val (.ref q1), .val (.long (((-3750763034362895579 : Int64) ^^^ ((w0.toInt64) &&& (255 : Int64))) * (1099511628211 : Int64))), .second, .val (.ref q1), .val (.int 2), .val (.int 1), .val (.int w1)] [(.long (((((-3750763034362895579 : Int64) ^^^ ((w0.toInt64) &&& (255 : Int64))) * (1099511628211 : Int64)) ^^^ ((w1.toInt64) &&& (255 : Int64))) * (1099511628211 : Int64)))])
  refine own_at (fun t k => XS.lstoreN X0.here hx rfl (hb hby d_prog_61_2_39) rfl (l' := #[.val (.ref q1), .val (.long (((((-3750763034362895579 : Int64) ^^^ ((w0.toInt64) &&& (255 : Int64))) * (1099511628211 : Int64)) ^^^ ((w1.toInt64) &&& (255 : Int64))) * (1099511628211 : Int64))), .second, .val (.ref q1), .val (.int 2), .val (.int 1), .val (.int w1)]) rfl k) ?_
  show own_Go p e below KK s₁ (mkF m 40 #[.val (.ref q1), .val (.long (((((-3750763034362895579 : Int64) ^^^ ((w0.toInt64) &&& (255 : Int64))) * (1099511628211 : Int64)) ^^^ ((w1.toInt64) &&& (255 : Int64))) * (1099511628211 : Int64))), .second, .val (.ref q1), .val (.int 2), .val (.int 1), .val (.int w1)] [])
  refine own_at (fun t k => XS.iinc X0.here hx rfl (hb hby d_prog_61_2_40) rfl (l' := #[.val (.ref q1), .val (.long (((((-3750763034362895579 : Int64) ^^^ ((w0.toInt64) &&& (255 : Int64))) * (1099511628211 : Int64)) ^^^ ((w1.toInt64) &&& (255 : Int64))) * (1099511628211 : Int64))), .second, .val (.ref q1), .val (.int 2), .val (.int ((1 : Int32) + (1 : Int32))), .val (.int w1)]) rfl k) ?_
  show own_Go p e below KK s₁ (mkF m 43 #[.val (.ref q1), .val (.long (((((-3750763034362895579 : Int64) ^^^ ((w0.toInt64) &&& (255 : Int64))) * (1099511628211 : Int64)) ^^^ ((w1.toInt64) &&& (255 : Int64))) * (1099511628211 : Int64))), .second, .val (.ref q1), .val (.int 2), .val (.int ((1 : Int32) + (1 : Int32))), .val (.int w1)] [])
  rw [show ((1 : Int32) + (1 : Int32)) = (2 : Int32) from by decide]
  show own_Go p e below KK s₁ (mkF m 43 #[.val (.ref q1), .val (.long (((((-3750763034362895579 : Int64) ^^^ ((w0.toInt64) &&& (255 : Int64))) * (1099511628211 : Int64)) ^^^ ((w1.toInt64) &&& (255 : Int64))) * (1099511628211 : Int64))), .second, .val (.ref q1), .val (.int 2), .val (.int 2), .val (.int w1)] [])
  refine own_at (fun t k => XS.goto X0.here hx rfl (pc0 := 43) (pc' := 13) rfl (hb hby d_prog_61_2_43) (by decide) (by decide) k) ?_
  show own_Go p e below KK s₁ (mkF m 13 #[.val (.ref q1), .val (.long (((((-3750763034362895579 : Int64) ^^^ ((w0.toInt64) &&& (255 : Int64))) * (1099511628211 : Int64)) ^^^ ((w1.toInt64) &&& (255 : Int64))) * (1099511628211 : Int64))), .second, .val (.ref q1), .val (.int 2), .val (.int 2), .val (.int w1)] [])
  refine own_at (fun t k => XS.iload X0.here hx rfl (hb hby d_prog_61_2_13) rfl k) ?_
  show own_Go p e below KK s₁ (mkF m 15 #[.val (.ref q1), .val (.long (((((-3750763034362895579 : Int64) ^^^ ((w0.toInt64) &&& (255 : Int64))) * (1099511628211 : Int64)) ^^^ ((w1.toInt64) &&& (255 : Int64))) * (1099511628211 : Int64))), .second, .val (.ref q1), .val (.int 2), .val (.int 2), .val (.int w1)] [(.int 2)])
  refine own_at (fun t k => XS.iload X0.here hx rfl (hb hby d_prog_61_2_15) rfl k) ?_
  show own_Go p e below KK s₁ (mkF m 17 #[.val (.ref q1), .val (.long (((((-3750763034362895579 : Int64) ^^^ ((w0.toInt64) &&& (255 : Int64))) * (1099511628211 : Int64)) ^^^ ((w1.toInt64) &&& (255 : Int64))) * (1099511628211 : Int64))), .second, .val (.ref q1), .val (.int 2), .val (.int 2), .val (.int w1)] [(.int 2), (.int 2)])
  have hc17_2 : ¬ ((2 : Int32) < (2 : Int32)) := by decide
  refine own_at (fun t k => XS.icmpYes X0.here hx rfl (pc0 := 17) (pc' := 46) rfl (hb hby d_prog_61_2_17) rfl (Jvm.Free.XT.ii_ge_t hc17_2) (by decide) (by decide) k) ?_
  show own_Go p e below KK s₁ (mkF m 46 #[.val (.ref q1), .val (.long (((((-3750763034362895579 : Int64) ^^^ ((w0.toInt64) &&& (255 : Int64))) * (1099511628211 : Int64)) ^^^ ((w1.toInt64) &&& (255 : Int64))) * (1099511628211 : Int64))), .second, .val (.ref q1), .val (.int 2), .val (.int 2), .val (.int w1)] [])
  refine own_at (fun t k => XS.lloadN X0.here hx rfl (hb hby d_prog_61_2_46) rfl k) ?_
  show own_Go p e below KK s₁ (mkF m 47 #[.val (.ref q1), .val (.long (((((-3750763034362895579 : Int64) ^^^ ((w0.toInt64) &&& (255 : Int64))) * (1099511628211 : Int64)) ^^^ ((w1.toInt64) &&& (255 : Int64))) * (1099511628211 : Int64))), .second, .val (.ref q1), .val (.int 2), .val (.int 2), .val (.int w1)] [(.long (((((-3750763034362895579 : Int64) ^^^ ((w0.toInt64) &&& (255 : Int64))) * (1099511628211 : Int64)) ^^^ ((w1.toInt64) &&& (255 : Int64))) * (1099511628211 : Int64)))])
  subst hKK
  exact own_retJ X0 hx hlk Bd.returns (hb hby d_prog_61_2_47) (w := (own_h [w0, w1])) (show (((((-3750763034362895579 : Int64) ^^^ ((w0.toInt64) &&& (255 : Int64))) * (1099511628211 : Int64)) ^^^ ((w1.toInt64) &&& (255 : Int64))) * (1099511628211 : Int64)) = (own_h [w0, w1]) from rfl) ⟨rfl, N0, e0⟩ (Nat.le_of_ble_eq_true rfl) (Nat.le_of_ble_eq_true rfl)
set_option maxRecDepth 65536 in
set_option maxHeartbeats 40000000 in
theorem rm_hash3 (l : Launch) (Z : State) (a0 : Array Value) (hw : ∀ d ∈ tables_1, d.before a0 Z = true) (ws : List Jvm.Cond) (q1 : Addr) (w0 : Int32) (w1 : Int32) (w2 : Int32) (h0 : Heap) (n0 : Nat) (Z0 : n0 ≤ h0.size) (Aq : own_A Z h0 q1 "[B" .byte [(.int w0), (.int w1), (.int w2)]) :
    MetFree l (⟨"com/example/wirecall/wirecall/wire/Fnv1a", "hash64", "([B)J"⟩ : MethodName) (head1 (Jvm.Cond.code (⟨"com/example/wirecall/wirecall/wire/Fnv1a", "hash64", "([B)J"⟩ : MethodName) prog_61_method_2_code 7 (some .long) :: ws) ({ frames := 0, cells := 0, slots := 0, locals := 0 } : Room)) (fun a U => a = #[(.ref q1)] ∧ Z.Warmed39 U.vm ∧ U.heap = h0) (fun _ _ _ _ _ => True) (fun _ U o U' => ∃ v L, o = .returned v ∧ own_P (.long (own_h [w0, w1, w2])) h0 n0 v U'.heap L ∧ FrameEnd U o U' L ({ frames := 0, cells := 0, slots := 0, locals := 0 } : Room).cells ({ frames := 0, cells := 0, slots := 0, locals := 0 } : Room).slots) := by
  refine MetFree.of_bodySF (plainFor_of_name pn_com_example_wirecall_wirecall_wire_Fnv1a) hisR ?_
  intro p e s m args below meth c s₁ Bd hml0 hP hK
  obtain ⟨rfl, hZ, hh⟩ := hP
  have hx := Bd.exec
  have hby := Bd.bytes
  have hlk : meth.locks = false := BodyLoose.notSynchronized Bd
  have hml : c.maxLocals = 7 := hml0
  have hown : s.vm.findClass "com/example/wirecall/wirecall/wire/Fnv1a" = some m.cls := findClass_of_methodNamed Bd.named
  have hnm := (name_of_methodNamed Bd.named Bd.method).1
  have X0 : Stand p l e ({ frames := 0, cells := 0, slots := 0, locals := 0 } : Room) s m #[(.ref q1)] below meth c s₁ [] 0 0 := Stand.of_body Bd
  have e0 : s₁.heap = h0 := by rw [← hh, Bd.state]; rfl
  have N0 := Fr.nil n0
  refine own_cast (K := own_K s (own_P (.long (own_h [w0, w1, w2])) h0 n0) 0 0) (ef_prog_61_2 m q1) ?_
  generalize hKK : own_K s (own_P (.long (own_h [w0, w1, w2])) h0 n0) 0 0 = KK
  show own_Go p e below KK s₁ (mkF m 0 #[.val (.ref q1), .unset, .unset, .unset, .unset, .unset, .unset] [])
  refine own_at (fun t k => X0.ldc2Long hx hown (mvT hZ (hw _ (List.mem_of_getElem? (i := 10) rfl))) (g := (mkF m 0 #[.val (.ref q1), .unset, .unset, .unset, .unset, .unset, .unset] [])) rfl (hb hby d_prog_61_2_0) t k) ?_
  show own_Go p e below KK s₁ (mkF m 3 #[.val (.ref q1), .unset, .unset, .unset, .unset, .unset, .unset] [(.long (-3750763034362895579 : Int64))])
  refine own_at (fun t k => XS.lstoreN X0.here hx rfl (hb hby d_prog_61_2_3) rfl (l' := #[.val (.ref q1), .val (.long (-3750763034362895579 : Int64)), .second, .unset, .unset, .unset, .unset]) rfl k) ?_
  show own_Go p e below KK s₁ (mkF m 4 #[.val (.ref q1), .val (.long (-3750763034362895579 : Int64)), .second, .unset, .unset, .unset, .unset] [])
  refine own_at (fun t k => XS.aloadN X0.here hx rfl (hb hby d_prog_61_2_4) rfl rfl k) ?_
  show own_Go p e below KK s₁ (mkF m 5 #[.val (.ref q1), .val (.long (-3750763034362895579 : Int64)), .second, .unset, .unset, .unset, .unset] [(.ref q1)])
  refine own_at (fun t k => XS.astoreN X0.here hx rfl (hb hby d_prog_61_2_5) rfl rfl (l' := #[.val (.ref q1), .val (.long (-3750763034362895579 : Int64)), .second, .val (.ref q1), .unset, .unset, .unset]) rfl k) ?_
  show own_Go p e below KK s₁ (mkF m 6 #[.val (.ref q1), .val (.long (-3750763034362895579 : Int64)), .second, .val (.ref q1), .unset, .unset, .unset] [])
  refine own_at (fun t k => XS.aloadN X0.here hx rfl (hb hby d_prog_61_2_6) rfl rfl k) ?_
  show own_Go p e below KK s₁ (mkF m 7 #[.val (.ref q1), .val (.long (-3750763034362895579 : Int64)), .second, .val (.ref q1), .unset, .unset, .unset] [(.ref q1)])
  refine own_at (fun t k => own_len X0 hx hZ e0 Aq (N := (3 : Int32)) (show (3 : Nat).toInt32 = (3 : Int32) from by decide) (g := (mkF m 7 #[.val (.ref q1), .val (.long (-3750763034362895579 : Int64)), .second, .val (.ref q1), .unset, .unset, .unset] [(.ref q1)])) rfl rfl (hb hby d_prog_61_2_7) t k) ?_
  show own_Go p e below KK s₁ (mkF m 8 #[.val (.ref q1), .val (.long (-3750763034362895579 : Int64)), .second, .val (.ref q1), .unset, .unset, .unset] [(.int 3)])
  refine own_at (fun t k => XS.istore X0.here hx rfl (hb hby d_prog_61_2_8) rfl (l' := #[.val (.ref q1), .val (.long (-3750763034362895579 : Int64)), .second, .val (.ref q1), .val (.int 3), .unset, .unset]) rfl k) ?_
  show own_Go p e below KK s₁ (mkF m 10 #[.val (.ref q1), .val (.long (-3750763034362895579 : Int64)), .second, .val (.ref q1), .val (.int 3), .unset, .unset] [])
  refine own_at (fun t k => XS.iconst X0.here hx rfl (hb hby d_prog_61_2_10) k) ?_
  show own_Go p e below KK s₁ (mkF m 11 #[.val (.ref q1), .val (.long (-3750763034362895579 : Int64)), .second, .val (.ref q1), .val (.int 3), .unset, .unset] [(.int 0)])
  refine own_at (fun t k => XS.istore X0.here hx rfl (hb hby d_prog_61_2_11) rfl (l' := #[.val (.ref q1), .val (.long (-3750763034362895579 : Int64)), .second, .val (.ref q1), .val (.int 3), .val (.int 0), .unset]) rfl k) ?_
  show own_Go p e below KK s₁ (mkF m 13 #[.val (.ref q1), .val (.long (-3750763034362895579 : Int64)), .second, .val (.ref q1), .val (.int 3), .val (.int 0), .unset] [])
  refine own_at (fun t k => XS.iload X0.here hx rfl (hb hby d_prog_61_2_13) rfl k) ?_
  show own_Go p e below KK s₁ (mkF m 15 #[.val (.ref q1), .val (.long (-3750763034362895579 : Int64)), .second, .val (.ref q1), .val (.int 3), .val (.int 0), .unset] [(.int 0)])
  refine own_at (fun t k => XS.iload X0.here hx rfl (hb hby d_prog_61_2_15) rfl k) ?_
  show own_Go p e below KK s₁ (mkF m 17 #[.val (.ref q1), .val (.long (-3750763034362895579 : Int64)), .second, .val (.ref q1), .val (.int 3), .val (.int 0), .unset] [(.int 3), (.int 0)])
  have hc17 : (0 : Int32) < (3 : Int32) := by decide
  refine own_at (fun t k => XS.icmpNo X0.here hx rfl (hb hby d_prog_61_2_17) rfl (Jvm.Free.XT.ii_ge_f hc17) k) ?_
  show own_Go p e below KK s₁ (mkF m 20 #[.val (.ref q1), .val (.long (-3750763034362895579 : Int64)), .second, .val (.ref q1), .val (.int 3), .val (.int 0), .unset] [])
  refine own_at (fun t k => XS.aloadN X0.here hx rfl (hb hby d_prog_61_2_20) rfl rfl k) ?_
  show own_Go p e below KK s₁ (mkF m 21 #[.val (.ref q1), .val (.long (-3750763034362895579 : Int64)), .second, .val (.ref q1), .val (.int 3), .val (.int 0), .unset] [(.ref q1)])
  refine own_at (fun t k => XS.iload X0.here hx rfl (hb hby d_prog_61_2_21) rfl k) ?_
  show own_Go p e below KK s₁ (mkF m 23 #[.val (.ref q1), .val (.long (-3750763034362895579 : Int64)), .second, .val (.ref q1), .val (.int 3), .val (.int 0), .unset] [(.int 0), (.ref q1)])
  refine own_at (fun t k => own_ldB X0 hx hZ e0 Aq (j := (0 : Int32)) (i := 0) (v := (.int w0)) (by decide) (by decide) rfl (g := (mkF m 23 #[.val (.ref q1), .val (.long (-3750763034362895579 : Int64)), .second, .val (.ref q1), .val (.int 3), .val (.int 0), .unset] [(.int 0), (.ref q1)])) rfl rfl (hb hby d_prog_61_2_23) t k) ?_
  show own_Go p e below KK s₁ (mkF m 24 #[.val (.ref q1), .val (.long (-3750763034362895579 : Int64)), .second, .val (.ref q1), .val (.int 3), .val (.int 0), .unset] [(.int w0)])
  refine own_at (fun t k => XS.istore X0.here hx rfl (hb hby d_prog_61_2_24) rfl (l' := #[.val (.ref q1), .val (.long (-3750763034362895579 : Int64)), .second, .val (.ref q1), .val (.int 3), .val (.int 0), .val (.int w0)]) rfl k) ?_
  show own_Go p e below KK s₁ (mkF m 26 #[.val (.ref q1), .val (.long (-3750763034362895579 : Int64)), .second, .val (.ref q1), .val (.int 3), .val (.int 0), .val (.int w0)] [])
  refine own_at (fun t k => XS.lloadN X0.here hx rfl (hb hby d_prog_61_2_26) rfl k) ?_
  show own_Go p e below KK s₁ (mkF m 27 #[.val (.ref q1), .val (.long (-3750763034362895579 : Int64)), .second, .val (.ref q1), .val (.int 3), .val (.int 0), .val (.int w0)] [(.long (-3750763034362895579 : Int64))])
  refine own_at (fun t k => XS.iload X0.here hx rfl (hb hby d_prog_61_2_27) rfl k) ?_
  show own_Go p e below KK s₁ (mkF m 29 #[.val (.ref q1), .val (.long (-3750763034362895579 : Int64)), .second, .val (.ref q1), .val (.int 3), .val (.int 0), .val (.int w0)] [(.int w0), (.long (-3750763034362895579 : Int64))])
  refine own_at (fun t k => XS.i2l X0.here hx rfl (hb hby d_prog_61_2_29) rfl k) ?_
  show own_Go p e below KK s₁ (mkF m 30 #[.val (.ref q1), .val (.long (-3750763034362895579 : Int64)), .second, .val (.ref q1), .val (.int 3), .val (.int 0), .val (.int w0)] [(.long (w0.toInt64)), (.long (-3750763034362895579 : Int64))])
  refine own_at (fun t k => X0.ldc2Long hx hown (mvT hZ (hw _ (List.mem_of_getElem? (i := 11) rfl))) (g := (mkF m 30 #[.val (.ref q1), .val (.long (-3750763034362895579 : Int64)), .second, .val (.ref q1), .val (.int 3), .val (.int 0), .val (.int w0)] [(.long (w0.toInt64)), (.long (-3750763034362895579 : Int64))])) rfl (hb hby d_prog_61_2_30) t k) ?_
  show own_Go p e below KK s₁ (mkF m 33 #[.val (.ref q1), .val (.long (-3750763034362895579 : Int64)), .second, .val (.ref q1), .val (.int 3), .val (.int 0), .val (.int w0)] [(.long 255), (.long (w0.toInt64)), (.long (-3750763034362895579 : Int64))])
  refine own_at (fun t k => XS.land X0.here hx rfl (hb hby d_prog_61_2_33) rfl k) ?_
  show own_Go p e below KK s₁ (mkF m 34 #[.val (.ref q1), .val (.long (-3750763034362895579 : Int64)), .second, .val (.ref q1), .val (.int 3), .val (.int 0), .val (.int w0)] [(.long ((w0.toInt64) &&& (255 : Int64))), (.long (-3750763034362895579 : Int64))])
  refine own_at (fun t k => XS.lxor X0.here hx rfl (hb hby d_prog_61_2_34) rfl k) ?_
  show own_Go p e below KK s₁ (mkF m 35 #[.val (.ref q1), .val (.long (-3750763034362895579 : Int64)), .second, .val (.ref q1), .val (.int 3), .val (.int 0), .val (.int w0)] [(.long ((-3750763034362895579 : Int64) ^^^ ((w0.toInt64) &&& (255 : Int64))))])
  refine own_at (fun t k => X0.ldc2Long hx hown (mvT hZ (hw _ (List.mem_of_getElem? (i := 12) rfl))) (g := (mkF m 35 #[.val (.ref q1), .val (.long (-3750763034362895579 : Int64)), .second, .val (.ref q1), .val (.int 3), .val (.int 0), .val (.int w0)] [(.long ((-3750763034362895579 : Int64) ^^^ ((w0.toInt64) &&& (255 : Int64))))])) rfl (hb hby d_prog_61_2_35) t k) ?_
  show own_Go p e below KK s₁ (mkF m 38 #[.val (.ref q1), .val (.long (-3750763034362895579 : Int64)), .second, .val (.ref q1), .val (.int 3), .val (.int 0), .val (.int w0)] [(.long 1099511628211), (.long ((-3750763034362895579 : Int64) ^^^ ((w0.toInt64) &&& (255 : Int64))))])
  refine own_at (fun t k => XS.lmul X0.here hx rfl (hb hby d_prog_61_2_38) rfl k) ?_
  show own_Go p e below KK s₁ (mkF m 39 #[.val (.ref q1), .val (.long (-3750763034362895579 : Int64)), .second, .val (.ref q1), .val (.int 3), .val (.int 0), .val (.int w0)] [(.long (((-3750763034362895579 : Int64) ^^^ ((w0.toInt64) &&& (255 : Int64))) * (1099511628211 : Int64)))])
  refine own_at (fun t k => XS.lstoreN X0.here hx rfl (hb hby d_prog_61_2_39) rfl (l' := #[.val (.ref q1), .val (.long (((-3750763034362895579 : Int64) ^^^ ((w0.toInt64) &&& (255 : Int64))) * (1099511628211 : Int64))), .second, .val (.ref q1), .val (.int 3), .val (.int 0), .val (.int w0)]) rfl k) ?_
  show own_Go p e below KK s₁ (mkF m 40 #[.val (.ref q1), .val (.long (((-3750763034362895579 : Int64) ^^^ ((w0.toInt64) &&& (255 : Int64))) * (1099511628211 : Int64))), .second, .val (.ref q1), .val (.int 3), .val (.int 0), .val (.int w0)] [])
  refine own_at (fun t k => XS.iinc X0.here hx rfl (hb hby d_prog_61_2_40) rfl (l' := #[.val (.ref q1), .val (.long (((-3750763034362895579 : Int64) ^^^ ((w0.toInt64) &&& (255 : Int64))) * (1099511628211 : Int64))), .second, .val (.ref q1), .val (.int 3), .val (.int ((0 : Int32) + (1 : Int32))), .val (.int w0)]) rfl k) ?_
  show own_Go p e below KK s₁ (mkF m 43 #[.val (.ref q1), .val (.long (((-3750763034362895579 : Int64) ^^^ ((w0.toInt64) &&& (255 : Int64))) * (1099511628211 : Int64))), .second, .val (.ref q1), .val (.int 3), .val (.int ((0 : Int32) + (1 : Int32))), .val (.int w0)] [])
  rw [show ((0 : Int32) + (1 : Int32)) = (1 : Int32) from by decide]
  show own_Go p e below KK s₁ (mkF m 43 #[.val (.ref q1), .val (.long (((-3750763034362895579 : Int64) ^^^ ((w0.toInt64) &&& (255 : Int64))) * (1099511628211 : Int64))), .second, .val (.ref q1), .val (.int 3), .val (.int 1), .val (.int w0)] [])
  refine own_at (fun t k => XS.goto X0.here hx rfl (pc0 := 43) (pc' := 13) rfl (hb hby d_prog_61_2_43) (by decide) (by decide) k) ?_
  show own_Go p e below KK s₁ (mkF m 13 #[.val (.ref q1), .val (.long (((-3750763034362895579 : Int64) ^^^ ((w0.toInt64) &&& (255 : Int64))) * (1099511628211 : Int64))), .second, .val (.ref q1), .val (.int 3), .val (.int 1), .val (.int w0)] [])
  refine own_at (fun t k => XS.iload X0.here hx rfl (hb hby d_prog_61_2_13) rfl k) ?_
  show own_Go p e below KK s₁ (mkF m 15 #[.val (.ref q1), .val (.long (((-3750763034362895579 : Int64) ^^^ ((w0.toInt64) &&& (255 : Int64))) * (1099511628211 : Int64))), .second, .val (.ref q1), .val (.int 3), .val (.int 1), .val (.int w0)] [(.int 1)])
  refine own_at (fun t k => XS.iload X0.here hx rfl (hb hby d_prog_61_2_15) rfl k) ?_
  show own_Go p e below KK s₁ (mkF m 17 #[.val (.ref q1), .val (.long (((-3750763034362895579 : Int64) ^^^ ((w0.toInt64) &&& (255 : Int64))) * (1099511628211 : Int64))), .second, .val (.ref q1), .val (.int 3), .val (.int 1), .val (.int w0)] [(.int 3), (.int 1)])
  have hc17_1 : (1 : Int32) < (3 : Int32) := by decide
  refine own_at (fun t k => XS.icmpNo X0.here hx rfl (hb hby d_prog_61_2_17) rfl (Jvm.Free.XT.ii_ge_f hc17_1) k) ?_
  show own_Go p e below KK s₁ (mkF m 20 #[.val (.ref q1), .val (.long (((-3750763034362895579 : Int64) ^^^ ((w0.toInt64) &&& (255 : Int64))) * (1099511628211 : Int64))), .second, .val (.ref q1), .val (.int 3), .val (.int 1), .val (.int w0)] [])
  refine own_at (fun t k => XS.aloadN X0.here hx rfl (hb hby d_prog_61_2_20) rfl rfl k) ?_
  show own_Go p e below KK s₁ (mkF m 21 #[.val (.ref q1), .val (.long (((-3750763034362895579 : Int64) ^^^ ((w0.toInt64) &&& (255 : Int64))) * (1099511628211 : Int64))), .second, .val (.ref q1), .val (.int 3), .val (.int 1), .val (.int w0)] [(.ref q1)])
  refine own_at (fun t k => XS.iload X0.here hx rfl (hb hby d_prog_61_2_21) rfl k) ?_
  show own_Go p e below KK s₁ (mkF m 23 #[.val (.ref q1), .val (.long (((-3750763034362895579 : Int64) ^^^ ((w0.toInt64) &&& (255 : Int64))) * (1099511628211 : Int64))), .second, .val (.ref q1), .val (.int 3), .val (.int 1), .val (.int w0)] [(.int 1), (.ref q1)])
  refine own_at (fun t k => own_ldB X0 hx hZ e0 Aq (j := (1 : Int32)) (i := 1) (v := (.int w1)) (by decide) (by decide) rfl (g := (mkF m 23 #[.val (.ref q1), .val (.long (((-3750763034362895579 : Int64) ^^^ ((w0.toInt64) &&& (255 : Int64))) * (1099511628211 : Int64))), .second, .val (.ref q1), .val (.int 3), .val (.int 1), .val (.int w0)] [(.int 1), (.ref q1)])) rfl rfl (hb hby d_prog_61_2_23) t k) ?_
  show own_Go p e below KK s₁ (mkF m 24 #[.val (.ref q1), .val (.long (((-3750763034362895579 : Int64) ^^^ ((w0.toInt64) &&& (255 : Int64))) * (1099511628211 : Int64))), .second, .val (.ref q1), .val (.int 3), .val (.int 1), .val (.int w0)] [(.int w1)])
  refine own_at (fun t k => XS.istore X0.here hx rfl (hb hby d_prog_61_2_24) rfl (l' := #[.val (.ref q1), .val (.long (((-3750763034362895579 : Int64) ^^^ ((w0.toInt64) &&& (255 : Int64))) * (1099511628211 : Int64))), .second, .val (.ref q1), .val (.int 3), .val (.int 1), .val (.int w1)]) rfl k) ?_
  show own_Go p e below KK s₁ (mkF m 26 #[.val (.ref q1), .val (.long (((-3750763034362895579 : Int64) ^^^ ((w0.toInt64) &&& (255 : Int64))) * (1099511628211 : Int64))), .second, .val (.ref q1), .val (.int 3), .val (.int 1), .val (.int w1)] [])
  refine own_at (fun t k => XS.lloadN X0.here hx rfl (hb hby d_prog_61_2_26) rfl k) ?_
  show own_Go p e below KK s₁ (mkF m 27 #[.val (.ref q1), .val (.long (((-3750763034362895579 : Int64) ^^^ ((w0.toInt64) &&& (255 : Int64))) * (1099511628211 : Int64))), .second, .val (.ref q1), .val (.int 3), .val (.int 1), .val (.int w1)] [(.long (((-3750763034362895579 : Int64) ^^^ ((w0.toInt64) &&& (255 : Int64))) * (1099511628211 : Int64)))])
  refine own_at (fun t k => XS.iload X0.here hx rfl (hb hby d_prog_61_2_27) rfl k) ?_
  show own_Go p e below KK s₁ (mkF m 29 #[.val (.ref q1), .val (.long (((-3750763034362895579 : Int64) ^^^ ((w0.toInt64) &&& (255 : Int64))) * (1099511628211 : Int64))), .second, .val (.ref q1), .val (.int 3), .val (.int 1), .val (.int w1)] [(.int w1), (.long (((-3750763034362895579 : Int64) ^^^ ((w0.toInt64) &&& (255 : Int64))) * (1099511628211 : Int64)))])
  refine own_at (fun t k => XS.i2l X0.here hx rfl (hb hby d_prog_61_2_29) rfl k) ?_
  show own_Go p e below KK s₁ (mkF m 30 #[.val (.ref q1), .val (.long (((-3750763034362895579 : Int64) ^^^ ((w0.toInt64) &&& (255 : Int64))) * (1099511628211 : Int64))), .second, .val (.ref q1), .val (.int 3), .val (.int 1), .val (.int w1)] [(.long (w1.toInt64)), (.long (((-3750763034362895579 : Int64) ^^^ ((w0.toInt64) &&& (255 : Int64))) * (1099511628211 : Int64)))])
  refine own_at (fun t k => X0.ldc2Long hx hown (mvT hZ (hw _ (List.mem_of_getElem? (i := 11) rfl))) (g := (mkF m 30 #[.val (.ref q1), .val (.long (((-3750763034362895579 : Int64) ^^^ ((w0.toInt64) &&& (255 : Int64))) * (1099511628211 : Int64))), .second, .val (.ref q1), .val (.int 3), .val (.int 1), .val (.int w1)] [(.long (w1.toInt64)), (.long (((-3750763034362895579 : Int64) ^^^ ((w0.toInt64) &&& (255 : Int64))) * (1099511628211 : Int64)))])) rfl (hb hby d_prog_61_2_30) t k) ?_
  show own_Go p e below KK s₁ (mkF m 33 #[.val (.ref q1), .val (.long (((-3750763034362895579 : Int64) ^^^ ((w0.toInt64) &&& (255 : Int64))) * (1099511628211 : Int64))), .second, .val (.ref q1), .val (.int 3), .val (.int 1), .val (.int w1)] [(.long 255), (.long (w1.toInt64)), (.long (((-3750763034362895579 : Int64) ^^^ ((w0.toInt64) &&& (255 : Int64))) * (1099511628211 : Int64)))])
  refine own_at (fun t k => XS.land X0.here hx rfl (hb hby d_prog_61_2_33) rfl k) ?_
  show own_Go p e below KK s₁ (mkF m 34 #[.val (.ref q1), .val (.long (((-3750763034362895579 : Int64) ^^^ ((w0.toInt64) &&& (255 : Int64))) * (1099511628211 : Int64))), .second, .val (.ref q1), .val (.int 3), .val (.int 1), .val (.int w1)] [(.long ((w1.toInt64) &&& (255 : Int64))), (.long (((-3750763034362895579 : Int64) ^^^ ((w0.toInt64) &&& (255 : Int64))) * (1099511628211 : Int64)))])
  refine own_at (fun t k => XS.lxor X0.here hx rfl (hb hby d_prog_61_2_34) rfl k) ?_
  show own_Go p e below KK s₁ (mkF m 35 #[.val (.ref q1), .val (.long (((-3750763034362895579 : Int64) ^^^ ((w0.toInt64) &&& (255 : Int64))) * (1099511628211 : Int64))), .second, .val (.ref q1), .val (.int 3), .val (.int 1), .val (.int w1)] [(.long ((((-3750763034362895579 : Int64) ^^^ ((w0.toInt64) &&& (255 : Int64))) * (1099511628211 : Int64)) ^^^ ((w1.toInt64) &&& (255 : Int64))))])
  refine own_at (fun t k => X0.ldc2Long hx hown (mvT hZ (hw _ (List.mem_of_getElem? (i := 12) rfl))) (g := (mkF m 35 #[.val (.ref q1), .val (.long (((-3750763034362895579 : Int64) ^^^ ((w0.toInt64) &&& (255 : Int64))) * (1099511628211 : Int64))), .second, .val (.ref q1), .val (.int 3), .val (.int 1), .val (.int w1)] [(.long ((((-3750763034362895579 : Int64) ^^^ ((w0.toInt64) &&& (255 : Int64))) * (1099511628211 : Int64)) ^^^ ((w1.toInt64) &&& (255 : Int64))))])) rfl (hb hby d_prog_61_2_35) t k) ?_
  show own_Go p e below KK s₁ (mkF m 38 #[.val (.ref q1), .val (.long (((-3750763034362895579 : Int64) ^^^ ((w0.toInt64) &&& (255 : Int64))) * (1099511628211 : Int64))), .second, .val (.ref q1), .val (.int 3), .val (.int 1), .val (.int w1)] [(.long 1099511628211), (.long ((((-3750763034362895579 : Int64) ^^^ ((w0.toInt64) &&& (255 : Int64))) * (1099511628211 : Int64)) ^^^ ((w1.toInt64) &&& (255 : Int64))))])
  refine own_at (fun t k => XS.lmul X0.here hx rfl (hb hby d_prog_61_2_38) rfl k) ?_
  show own_Go p e below KK s₁ (mkF m 39 #[.val (.ref q1), .val (.long (((-3750763034362895579 : Int64) ^^^ ((w0.toInt64) &&& (255 : Int64))) * (1099511628211 : Int64))), .second, .val (.ref q1), .val (.int 3), .val (.int 1), .val (.int w1)] [(.long (((((-3750763034362895579 : Int64) ^^^ ((w0.toInt64) &&& (255 : Int64))) * (1099511628211 : Int64)) ^^^ ((w1.toInt64) &&& (255 : Int64))) * (1099511628211 : Int64)))])
  refine own_at (fun t k => XS.lstoreN X0.here hx rfl (hb hby d_prog_61_2_39) rfl (l' := #[.val (.ref q1), .val (.long (((((-3750763034362895579 : Int64) ^^^ ((w0.toInt64) &&& (255 : Int64))) * (1099511628211 : Int64)) ^^^ ((w1.toInt64) &&& (255 : Int64))) * (1099511628211 : Int64))), .second, .val (.ref q1), .val (.int 3), .val (.int 1), .val (.int w1)]) rfl k) ?_
  show own_Go p e below KK s₁ (mkF m 40 #[.val (.ref q1), .val (.long (((((-3750763034362895579 : Int64) ^^^ ((w0.toInt64) &&& (255 : Int64))) * (1099511628211 : Int64)) ^^^ ((w1.toInt64) &&& (255 : Int64))) * (1099511628211 : Int64))), .second, .val (.ref q1), .val (.int 3), .val (.int 1), .val (.int w1)] [])
  refine own_at (fun t k => XS.iinc X0.here hx rfl (hb hby d_prog_61_2_40) rfl (l' := #[.val (.ref q1), .val (.long (((((-3750763034362895579 : Int64) ^^^ ((w0.toInt64) &&& (255 : Int64))) * (1099511628211 : Int64)) ^^^ ((w1.toInt64) &&& (255 : Int64))) * (1099511628211 : Int64))), .second, .val (.ref q1), .val (.int 3), .val (.int ((1 : Int32) + (1 : Int32))), .val (.int w1)]) rfl k) ?_
  show own_Go p e below KK s₁ (mkF m 43 #[.val (.ref q1), .val (.long (((((-3750763034362895579 : Int64) ^^^ ((w0.toInt64) &&& (255 : Int64))) * (1099511628211 : Int64)) ^^^ ((w1.toInt64) &&& (255 : Int64))) * (1099511628211 : Int64))), .second, .val (.ref q1), .val (.int 3), .val (.int ((1 : Int32) + (1 : Int32))), .val (.int w1)] [])
  rw [show ((1 : Int32) + (1 : Int32)) = (2 : Int32) from by decide]
  show own_Go p e below KK s₁ (mkF m 43 #[.val (.ref q1), .val (.long (((((-3750763034362895579 : Int64) ^^^ ((w0.toInt64) &&& (255 : Int64))) * (1099511628211 : Int64)) ^^^ ((w1.toInt64) &&& (255 : Int64))) * (1099511628211 : Int64))), .second, .val (.ref q1), .val (.int 3), .val (.int 2), .val (.int w1)] [])
  refine own_at (fun t k => XS.goto X0.here hx rfl (pc0 := 43) (pc' := 13) rfl (hb hby d_prog_61_2_43) (by decide) (by decide) k) ?_
  show own_Go p e below KK s₁ (mkF m 13 #[.val (.ref q1), .val (.long (((((-3750763034362895579 : Int64) ^^^ ((w0.toInt64) &&& (255 : Int64))) * (1099511628211 : Int64)) ^^^ ((w1.toInt64) &&& (255 : Int64))) * (1099511628211 : Int64))), .second, .val (.ref q1), .val (.int 3), .val (.int 2), .val (.int w1)] [])
  refine own_at (fun t k => XS.iload X0.here hx rfl (hb hby d_prog_61_2_13) rfl k) ?_
  show own_Go p e below KK s₁ (mkF m 15 #[.val (.ref q1), .val (.long (((((-3750763034362895579 : Int64) ^^^ ((w0.toInt64) &&& (255 : Int64))) * (1099511628211 : Int64)) ^^^ ((w1.toInt64) &&& (255 : Int64))) * (1099511628211 : Int64))), .second, .val (.ref q1), .val (.int 3), .val (.int 2), .val (.int w1)] [(.int 2)])
  refine own_at (fun t k => XS.iload X0.here hx rfl (hb hby d_prog_61_2_15) rfl k) ?_
  show own_Go p e below KK s₁ (mkF m 17 #[.val (.ref q1), .val (.long (((((-3750763034362895579 : Int64) ^^^ ((w0.toInt64) &&& (255 : Int64))) * (1099511628211 : Int64)) ^^^ ((w1.toInt64) &&& (255 : Int64))) * (1099511628211 : Int64))), .second, .val (.ref q1), .val (.int 3), .val (.int 2), .val (.int w1)] [(.int 3), (.int 2)])
  have hc17_2 : (2 : Int32) < (3 : Int32) := by decide
  refine own_at (fun t k => XS.icmpNo X0.here hx rfl (hb hby d_prog_61_2_17) rfl (Jvm.Free.XT.ii_ge_f hc17_2) k) ?_
  show own_Go p e below KK s₁ (mkF m 20 #[.val (.ref q1), .val (.long (((((-3750763034362895579 : Int64) ^^^ ((w0.toInt64) &&& (255 : Int64))) * (1099511628211 : Int64)) ^^^ ((w1.toInt64) &&& (255 : Int64))) * (1099511628211 : Int64))), .second, .val (.ref q1), .val (.int 3), .val (.int 2), .val (.int w1)] [])
  refine own_at (fun t k => XS.aloadN X0.here hx rfl (hb hby d_prog_61_2_20) rfl rfl k) ?_
  show own_Go p e below KK s₁ (mkF m 21 #[.val (.ref q1), .val (.long (((((-3750763034362895579 : Int64) ^^^ ((w0.toInt64) &&& (255 : Int64))) * (1099511628211 : Int64)) ^^^ ((w1.toInt64) &&& (255 : Int64))) * (1099511628211 : Int64))), .second, .val (.ref q1), .val (.int 3), .val (.int 2), .val (.int w1)] [(.ref q1)])
  refine own_at (fun t k => XS.iload X0.here hx rfl (hb hby d_prog_61_2_21) rfl k) ?_
  show own_Go p e below KK s₁ (mkF m 23 #[.val (.ref q1), .val (.long (((((-3750763034362895579 : Int64) ^^^ ((w0.toInt64) &&& (255 : Int64))) * (1099511628211 : Int64)) ^^^ ((w1.toInt64) &&& (255 : Int64))) * (1099511628211 : Int64))), .second, .val (.ref q1), .val (.int 3), .val (.int 2), .val (.int w1)] [(.int 2), (.ref q1)])
  refine own_at (fun t k => own_ldB X0 hx hZ e0 Aq (j := (2 : Int32)) (i := 2) (v := (.int w2)) (by decide) (by decide) rfl (g := (mkF m 23 #[.val (.ref q1), .val (.long (((((-3750763034362895579 : Int64) ^^^ ((w0.toInt64) &&& (255 : Int64))) * (1099511628211 : Int64)) ^^^ ((w1.toInt64) &&& (255 : Int64))) * (1099511628211 : Int64))), .second, .val (.ref q1), .val (.int 3), .val (.int 2), .val (.int w1)] [(.int 2), (.ref q1)])) rfl rfl (hb hby d_prog_61_2_23) t k) ?_
  show own_Go p e below KK s₁ (mkF m 24 #[.val (.ref q1), .val (.long (((((-3750763034362895579 : Int64) ^^^ ((w0.toInt64) &&& (255 : Int64))) * (1099511628211 : Int64)) ^^^ ((w1.toInt64) &&& (255 : Int64))) * (1099511628211 : Int64))), .second, .val (.ref q1), .val (.int 3), .val (.int 2), .val (.int w1)] [(.int w2)])
  refine own_at (fun t k => XS.istore X0.here hx rfl (hb hby d_prog_61_2_24) rfl (l' := #[.val (.ref q1), .val (.long (((((-3750763034362895579 : Int64) ^^^ ((w0.toInt64) &&& (255 : Int64))) * (1099511628211 : Int64)) ^^^ ((w1.toInt64) &&& (255 : Int64))) * (1099511628211 : Int64))), .second, .val (.ref q1), .val (.int 3), .val (.int 2), .val (.int w2)]) rfl k) ?_
  show own_Go p e below KK s₁ (mkF m 26 #[.val (.ref q1), .val (.long (((((-3750763034362895579 : Int64) ^^^ ((w0.toInt64) &&& (255 : Int64))) * (1099511628211 : Int64)) ^^^ ((w1.toInt64) &&& (255 : Int64))) * (1099511628211 : Int64))), .second, .val (.ref q1), .val (.int 3), .val (.int 2), .val (.int w2)] [])
  refine own_at (fun t k => XS.lloadN X0.here hx rfl (hb hby d_prog_61_2_26) rfl k) ?_
  show own_Go p e below KK s₁ (mkF m 27 #[.val (.ref q1), .val (.long (((((-3750763034362895579 : Int64) ^^^ ((w0.toInt64) &&& (255 : Int64))) * (1099511628211 : Int64)) ^^^ ((w1.toInt64) &&& (255 : Int64))) * (1099511628211 : Int64))), .second, .val (.ref q1), .val (.int 3), .val (.int 2), .val (.int w2)] [(.long (((((-3750763034362895579 : Int64) ^^^ ((w0.toInt64) &&& (255 : Int64))) * (1099511628211 : Int64)) ^^^ ((w1.toInt64) &&& (255 : Int64))) * (1099511628211 : Int64)))])
  refine own_at (fun t k => XS.iload X0.here hx rfl (hb hby d_prog_61_2_27) rfl k) ?_
  show own_Go p e below KK s₁ (mkF m 29 #[.val (.ref q1), .val (.long (((((-3750763034362895579 : Int64) ^^^ ((w0.toInt64) &&& (255 : Int64))) * (1099511628211 : Int64)) ^^^ ((w1.toInt64) &&& (255 : Int64))) * (1099511628211 : Int64))), .second, .val (.ref q1), .val (.int 3), .val (.int 2), .val (.int w2)] [(.int w2), (.long (((((-3750763034362895579 : Int64) ^^^ ((w0.toInt64) &&& (255 : Int64))) * (1099511628211 : Int64)) ^^^ ((w1.toInt64) &&& (255 : Int64))) * (1099511628211 : Int64)))])
  refine own_at (fun t k => XS.i2l X0.here hx rfl (hb hby d_prog_61_2_29) rfl k) ?_
  show own_Go p e below KK s₁ (mkF m 30 #[.val (.ref q1), .val (.long (((((-3750763034362895579 : Int64) ^^^ ((w0.toInt64) &&& (255 : Int64))) * (1099511628211 : Int64)) ^^^ ((w1.toInt64) &&& (255 : Int64))) * (1099511628211 : Int64))), .second, .val (.ref q1), .val (.int 3), .val (.int 2), .val (.int w2)] [(.long (w2.toInt64)), (.long (((((-3750763034362895579 : Int64) ^^^ ((w0.toInt64) &&& (255 : Int64))) * (1099511628211 : Int64)) ^^^ ((w1.toInt64) &&& (255 : Int64))) * (1099511628211 : Int64)))])
  refine own_at (fun t k => X0.ldc2Long hx hown (mvT hZ (hw _ (List.mem_of_getElem? (i := 11) rfl))) (g := (mkF m 30 #[.val (.ref q1), .val (.long (((((-3750763034362895579 : Int64) ^^^ ((w0.toInt64) &&& (255 : Int64))) * (1099511628211 : Int64)) ^^^ ((w1.toInt64) &&& (255 : Int64))) * (1099511628211 : Int64))), .second, .val (.ref q1), .val (.int 3), .val (.int 2), .val (.int w2)] [(.long (w2.toInt64)), (.long (((((-3750763034362895579 : Int64) ^^^ ((w0.toInt64) &&& (255 : Int64))) * (1099511628211 : Int64)) ^^^ ((w1.toInt64) &&& (255 : Int64))) * (1099511628211 : Int64)))])) rfl (hb hby d_prog_61_2_30) t k) ?_
  show own_Go p e below KK s₁ (mkF m 33 #[.val (.ref q1), .val (.long (((((-3750763034362895579 : Int64) ^^^ ((w0.toInt64) &&& (255 : Int64))) * (1099511628211 : Int64)) ^^^ ((w1.toInt64) &&& (255 : Int64))) * (1099511628211 : Int64))), .second, .val (.ref q1), .val (.int 3), .val (.int 2), .val (.int w2)] [(.long 255), (.long (w2.toInt64)), (.long (((((-3750763034362895579 : Int64) ^^^ ((w0.toInt64) &&& (255 : Int64))) * (1099511628211 : Int64)) ^^^ ((w1.toInt64) &&& (255 : Int64))) * (1099511628211 : Int64)))])
  refine own_at (fun t k => XS.land X0.here hx rfl (hb hby d_prog_61_2_33) rfl k) ?_
  show own_Go p e below KK s₁ (mkF m 34 #[.val (.ref q1), .val (.long (((((-3750763034362895579 : Int64) ^^^ ((w0.toInt64) &&& (255 : Int64))) * (1099511628211 : Int64)) ^^^ ((w1.toInt64) &&& (255 : Int64))) * (1099511628211 : Int64))), .second, .val (.ref q1), .val (.int 3), .val (.int 2), .val (.int w2)] [(.long ((w2.toInt64) &&& (255 : Int64))), (.long (((((-3750763034362895579 : Int64) ^^^ ((w0.toInt64) &&& (255 : Int64))) * (1099511628211 : Int64)) ^^^ ((w1.toInt64) &&& (255 : Int64))) * (1099511628211 : Int64)))])
  refine own_at (fun t k => XS.lxor X0.here hx rfl (hb hby d_prog_61_2_34) rfl k) ?_
  show own_Go p e below KK s₁ (mkF m 35 #[.val (.ref q1), .val (.long (((((-3750763034362895579 : Int64) ^^^ ((w0.toInt64) &&& (255 : Int64))) * (1099511628211 : Int64)) ^^^ ((w1.toInt64) &&& (255 : Int64))) * (1099511628211 : Int64))), .second, .val (.ref q1), .val (.int 3), .val (.int 2), .val (.int w2)] [(.long ((((((-3750763034362895579 : Int64) ^^^ ((w0.toInt64) &&& (255 : Int64))) * (1099511628211 : Int64)) ^^^ ((w1.toInt64) &&& (255 : Int64))) * (1099511628211 : Int64)) ^^^ ((w2.toInt64) &&& (255 : Int64))))])
  refine own_at (fun t k => X0.ldc2Long hx hown (mvT hZ (hw _ (List.mem_of_getElem? (i := 12) rfl))) (g := (mkF m 35 #[.val (.ref q1), .val (.long (((((-3750763034362895579 : Int64) ^^^ ((w0.toInt64) &&& (255 : Int64))) * (1099511628211 : Int64)) ^^^ ((w1.toInt64) &&& (255 : Int64))) * (1099511628211 : Int64))), .second, .val (.ref q1), .val (.int 3), .val (.int 2), .val (.int w2)] [(.long ((((((-3750763034362895579 : Int64) ^^^ ((w0.toInt64) &&& (255 : Int64))) * (1099511628211 : Int64)) ^^^ ((w1.toInt64) &&& (255 : Int64))) * (1099511628211 : Int64)) ^^^ ((w2.toInt64) &&& (255 : Int64))))])) rfl (hb hby d_prog_61_2_35) t k) ?_
  show own_Go p e below KK s₁ (mkF m 38 #[.val (.ref q1), .val (.long (((((-3750763034362895579 : Int64) ^^^ ((w0.toInt64) &&& (255 : Int64))) * (1099511628211 : Int64)) ^^^ ((w1.toInt64) &&& (255 : Int64))) * (1099511628211 : Int64))), .second, .val (.ref q1), .val (.int 3), .val (.int 2), .val (.int w2)] [(.long 1099511628211), (.long ((((((-3750763034362895579 : Int64) ^^^ ((w0.toInt64) &&& (255 : Int64))) * (1099511628211 : Int64)) ^^^ ((w1.toInt64) &&& (255 : Int64))) * (1099511628211 : Int64)) ^^^ ((w2.toInt64) &&& (255 : Int64))))])
  refine own_at (fun t k => XS.lmul X0.here hx rfl (hb hby d_prog_61_2_38) rfl k) ?_
  show own_Go p e below KK s₁ (mkF m 39 #[.val (.ref q1), .val (.long (((((-3750763034362895579 : Int64) ^^^ ((w0.toInt64) &&& (255 : Int64))) * (1099511628211 : Int64)) ^^^ ((w1.toInt64) &&& (255 : Int64))) * (1099511628211 : Int64))), .second, .val (.ref q1), .val (.int 3), .val (.int 2), .val (.int w2)] [(.long (((((((-3750763034362895579 : Int64) ^^^ ((w0.toInt64) &&& (255 : Int64))) * (1099511628211 : Int64)) ^^^ ((w1.toInt64) &&& (255 : Int64))) * (1099511628211 : Int64)) ^^^ ((w2.toInt64) &&& (255 : Int64))) * (1099511628211 : Int64)))])
  refine own_at (fun t k => XS.lstoreN X0.here hx rfl (hb hby d_prog_61_2_39) rfl (l' := #[.val (.ref q1), .val (.long (((((((-3750763034362895579 : Int64) ^^^ ((w0.toInt64) &&& (255 : Int64))) * (1099511628211 : Int64)) ^^^ ((w1.toInt64) &&& (255 : Int64))) * (1099511628211 : Int64)) ^^^ ((w2.toInt64) &&& (255 : Int64))) * (1099511628211 : Int64))), .second, .val (.ref q1), .val (.int 3), .val (.int 2), .val (.int w2)]) rfl k) ?_
  show own_Go p e below KK s₁ (mkF m 40 #[.val (.ref q1), .val (.long (((((((-3750763034362895579 : Int64) ^^^ ((w0.toInt64) &&& (255 : Int64))) * (1099511628211 : Int64)) ^^^ ((w1.toInt64) &&& (255 : Int64))) * (1099511628211 : Int64)) ^^^ ((w2.toInt64) &&& (255 : Int64))) * (1099511628211 : Int64))), .second, .val (.ref q1), .val (.int 3), .val (.int 2), .val (.int w2)] [])
  refine own_at (fun t k => XS.iinc X0.here hx rfl (hb hby d_prog_61_2_40) rfl (l' := #[.val (.ref q1), .val (.long (((((((-3750763034362895579 : Int64) ^^^ ((w0.toInt64) &&& (255 : Int64))) * (1099511628211 : Int64)) ^^^ ((w1.toInt64) &&& (255 : Int64))) * (1099511628211 : Int64)) ^^^ ((w2.toInt64) &&& (255 : Int64))) * (1099511628211 : Int64))), .second, .val (.ref q1), .val (.int 3), .val (.int ((2 : Int32) + (1 : Int32))), .val (.int w2)]) rfl k) ?_
  show own_Go p e below KK s₁ (mkF m 43 #[.val (.ref q1), .val (.long (((((((-3750763034362895579 : Int64) ^^^ ((w0.toInt64) &&& (255 : Int64))) * (1099511628211 : Int64)) ^^^ ((w1.toInt64) &&& (255 : Int64))) * (1099511628211 : Int64)) ^^^ ((w2.toInt64) &&& (255 : Int64))) * (1099511628211 : Int64))), .second, .val (.ref q1), .val (.int 3), .val (.int ((2 : Int32) + (1 : Int32))), .val (.int w2)] [])
  rw [show ((2 : Int32) + (1 : Int32)) = (3 : Int32) from by decide]
  show own_Go p e below KK s₁ (mkF m 43 #[.val (.ref q1), .val (.long (((((((-3750763034362895579 : Int64) ^^^ ((w0.toInt64) &&& (255 : Int64))) * (1099511628211 : Int64)) ^^^ ((w1.toInt64) &&& (255 : Int64))) * (1099511628211 : Int64)) ^^^ ((w2.toInt64) &&& (255 : Int64))) * (1099511628211 : Int64))), .second, .val (.ref q1), .val (.int 3), .val (.int 3), .val (.int w2)] [])
  refine own_at (fun t k => XS.goto X0.here hx rfl (pc0 := 43) (pc' := 13) rfl (hb hby d_prog_61_2_43) (by decide) (by decide) k) ?_
  show own_Go p e below KK s₁ (mkF m 13 #[.val (.ref q1), .val (.long (((((((-3750763034362895579 : Int64) ^^^ ((w0.toInt64) &&& (255 : Int64))) * (1099511628211 : Int64)) ^^^ ((w1.toInt64) &&& (255 : Int64))) * (1099511628211 : Int64)) ^^^ ((w2.toInt64) &&& (255 : Int64))) * (1099511628211 : Int64))), .second, .val (.ref q1), .val (.int 3), .val (.int 3), .val (.int w2)] [])
  refine own_at (fun t k => XS.iload X0.here hx rfl (hb hby d_prog_61_2_13) rfl k) ?_
  show own_Go p e below KK s₁ (mkF m 15 #[.val (.ref q1), .val (.long (((((((-3750763034362895579 : Int64) ^^^ ((w0.toInt64) &&& (255 : Int64))) * (1099511628211 : Int64)) ^^^ ((w1.toInt64) &&& (255 : Int64))) * (1099511628211 : Int64)) ^^^ ((w2.toInt64) &&& (255 : Int64))) * (1099511628211 : Int64))), .second, .val (.ref q1), .val (.int 3), .val (.int 3), .val (.int w2)] [(.int 3)])
  refine own_at (fun t k => XS.iload X0.here hx rfl (hb hby d_prog_61_2_15) rfl k) ?_
  show own_Go p e below KK s₁ (mkF m 17 #[.val (.ref q1), .val (.long (((((((-3750763034362895579 : Int64) ^^^ ((w0.toInt64) &&& (255 : Int64))) * (1099511628211 : Int64)) ^^^ ((w1.toInt64) &&& (255 : Int64))) * (1099511628211 : Int64)) ^^^ ((w2.toInt64) &&& (255 : Int64))) * (1099511628211 : Int64))), .second, .val (.ref q1), .val (.int 3), .val (.int 3), .val (.int w2)] [(.int 3), (.int 3)])
  have hc17_3 : ¬ ((3 : Int32) < (3 : Int32)) := by decide
  refine own_at (fun t k => XS.icmpYes X0.here hx rfl (pc0 := 17) (pc' := 46) rfl (hb hby d_prog_61_2_17) rfl (Jvm.Free.XT.ii_ge_t hc17_3) (by decide) (by decide) k) ?_
  show own_Go p e below KK s₁ (mkF m 46 #[.val (.ref q1), .val (.long (((((((-3750763034362895579 : Int64) ^^^ ((w0.toInt64) &&& (255 : Int64))) * (1099511628211 : Int64)) ^^^ ((w1.toInt64) &&& (255 : Int64))) * (1099511628211 : Int64)) ^^^ ((w2.toInt64) &&& (255 : Int64))) * (1099511628211 : Int64))), .second, .val (.ref q1), .val (.int 3), .val (.int 3), .val (.int w2)] [])
  refine own_at (fun t k => XS.lloadN X0.here hx rfl (hb hby d_prog_61_2_46) rfl k) ?_
  show own_Go p e below KK s₁ (mkF m 47 #[.val (.ref q1), .val (.long (((((((-3750763034362895579 : Int64) ^^^ ((w0.toInt64) &&& (255 : Int64))) * (1099511628211 : Int64)) ^^^ ((w1.toInt64) &&& (255 : Int64))) * (1099511628211 : Int64)) ^^^ ((w2.toInt64) &&& (255 : Int64))) * (1099511628211 : Int64))), .second, .val (.ref q1), .val (.int 3), .val (.int 3), .val (.int w2)] [(.long (((((((-3750763034362895579 : Int64) ^^^ ((w0.toInt64) &&& (255 : Int64))) * (1099511628211 : Int64)) ^^^ ((w1.toInt64) &&& (255 : Int64))) * (1099511628211 : Int64)) ^^^ ((w2.toInt64) &&& (255 : Int64))) * (1099511628211 : Int64)))])
  subst hKK
  exact own_retJ X0 hx hlk Bd.returns (hb hby d_prog_61_2_47) (w := (own_h [w0, w1, w2])) (show (((((((-3750763034362895579 : Int64) ^^^ ((w0.toInt64) &&& (255 : Int64))) * (1099511628211 : Int64)) ^^^ ((w1.toInt64) &&& (255 : Int64))) * (1099511628211 : Int64)) ^^^ ((w2.toInt64) &&& (255 : Int64))) * (1099511628211 : Int64)) = (own_h [w0, w1, w2]) from rfl) ⟨rfl, N0, e0⟩ (Nat.le_of_ble_eq_true rfl) (Nat.le_of_ble_eq_true rfl)
set_option maxRecDepth 65536 in
set_option maxHeartbeats 40000000 in
theorem rm_hash4 (l : Launch) (Z : State) (a0 : Array Value) (hw : ∀ d ∈ tables_1, d.before a0 Z = true) (ws : List Jvm.Cond) (q1 : Addr) (w0 : Int32) (w1 : Int32) (w2 : Int32) (w3 : Int32) (h0 : Heap) (n0 : Nat) (Z0 : n0 ≤ h0.size) (Aq : own_A Z h0 q1 "[B" .byte [(.int w0), (.int w1), (.int w2), (.int w3)]) :
    MetFree l (⟨"com/example/wirecall/wirecall/wire/Fnv1a", "hash64", "([B)J"⟩ : MethodName) (head1 (Jvm.Cond.code (⟨"com/example/wirecall/wirecall/wire/Fnv1a", "hash64", "([B)J"⟩ : MethodName) prog_61_method_2_code 7 (some .long) :: ws) ({ frames := 0, cells := 0, slots := 0, locals := 0 } : Room)) (fun a U => a = #[(.ref q1)] ∧ Z.Warmed39 U.vm ∧ U.heap = h0) (fun _ _ _ _ _ => True) (fun _ U o U' => ∃ v L, o = .returned v ∧ own_P (.long (own_h [w0, w1, w2, w3])) h0 n0 v U'.heap L ∧ FrameEnd U o U' L ({ frames := 0, cells := 0, slots := 0, locals := 0 } : Room).cells ({ frames := 0, cells := 0, slots := 0, locals := 0 } : Room).slots) := by
  refine MetFree.of_bodySF (plainFor_of_name pn_com_example_wirecall_wirecall_wire_Fnv1a) hisR ?_
  intro p e s m args below meth c s₁ Bd hml0 hP hK
  obtain ⟨rfl, hZ, hh⟩ := hP
  have hx := Bd.exec
  have hby := Bd.bytes
  have hlk : meth.locks = false := BodyLoose.notSynchronized Bd
  have hml : c.maxLocals = 7 := hml0
  have hown : s.vm.findClass "com/example/wirecall/wirecall/wire/Fnv1a" = some m.cls := findClass_of_methodNamed Bd.named
  have hnm := (name_of_methodNamed Bd.named Bd.method).1
  have X0 : Stand p l e ({ frames := 0, cells := 0, slots := 0, locals := 0 } : Room) s m #[(.ref q1)] below meth c s₁ [] 0 0 := Stand.of_body Bd
  have e0 : s₁.heap = h0 := by rw [← hh, Bd.state]; rfl
  have N0 := Fr.nil n0
  refine own_cast (K := own_K s (own_P (.long (own_h [w0, w1, w2, w3])) h0 n0) 0 0) (ef_prog_61_2 m q1) ?_
  generalize hKK : own_K s (own_P (.long (own_h [w0, w1, w2, w3])) h0 n0) 0 0 = KK
  show own_Go p e below KK s₁ (mkF m 0 #[.val (.ref q1), .unset, .unset, .unset, .unset, .unset, .unset] [])
  refine own_at (fun t k => X0.ldc2Long hx hown (mvT hZ (hw _ (List.mem_of_getElem? (i := 10) rfl))) (g := (mkF m 0 #[.val (.ref q1), .unset, .unset, .unset, .unset, .unset, .unset] [])) rfl (hb hby d_prog_61_2_0) t k) ?_
  show own_Go p e below KK s₁ (mkF m 3 #[.val (.ref q1), .unset, .unset, .unset, .unset, .unset, .unset] [(.long (-3750763034362895579 : Int64))])
  refine own_at (fun t k => XS.lstoreN X0.here hx rfl (hb hby d_prog_61_2_3) rfl (l' := #[.val (.ref q1), .val (.long (-3750763034362895579 : Int64)), .second, .unset, .unset, .unset, .unset]) rfl k) ?_
  show own_Go p e below KK s₁ (mkF m 4 #[.val (.ref q1), .val (.long (-3750763034362895579 : Int64)), .second, .unset, .unset, .unset, .unset] [])
  refine own_at (fun t k => XS.aloadN X0.here hx rfl (hb hby d_prog_61_2_4) rfl rfl k) ?_
  show own_Go p e below KK s₁ (mkF m 5 #[.val (.ref q1), .val (.long (-3750763034362895579 : Int64)), .second, .unset, .unset, .unset, .unset] [(.ref q1)])
  refine own_at (fun t k => XS.astoreN X0.here hx rfl (hb hby d_prog_61_2_5) rfl rfl (l' := #[.val (.ref q1), .val (.long (-3750763034362895579 : Int64)), .second, .val (.ref q1), .unset, .unset, .unset]) rfl k) ?_
  show own_Go p e below KK s₁ (mkF m 6 #[.val (.ref q1), .val (.long (-3750763034362895579 : Int64)), .second, .val (.ref q1), .unset, .unset, .unset] [])
  refine own_at (fun t k => XS.aloadN X0.here hx rfl (hb hby d_prog_61_2_6) rfl rfl k) ?_
  show own_Go p e below KK s₁ (mkF m 7 #[.val (.ref q1), .val (.long (-3750763034362895579 : Int64)), .second, .val (.ref q1), .unset, .unset, .unset] [(.ref q1)])
  refine own_at (fun t k => own_len X0 hx hZ e0 Aq (N := (4 : Int32)) (show (4 : Nat).toInt32 = (4 : Int32) from by decide) (g := (mkF m 7 #[.val (.ref q1), .val (.long (-3750763034362895579 : Int64)), .second, .val (.ref q1), .unset, .unset, .unset] [(.ref q1)])) rfl rfl (hb hby d_prog_61_2_7) t k) ?_
  show own_Go p e below KK s₁ (mkF m 8 #[.val (.ref q1), .val (.long (-3750763034362895579 : Int64)), .second, .val (.ref q1), .unset, .unset, .unset] [(.int 4)])
  refine own_at (fun t k => XS.istore X0.here hx rfl (hb hby d_prog_61_2_8) rfl (l' := #[.val (.ref q1), .val (.long (-3750763034362895579 : Int64)), .second, .val (.ref q1), .val (.int 4), .unset, .unset]) rfl k) ?_
  show own_Go p e below KK s₁ (mkF m 10 #[.val (.ref q1), .val (.long (-3750763034362895579 : Int64)), .second, .val (.ref q1), .val (.int 4), .unset, .unset] [])
  refine own_at (fun t k => XS.iconst X0.here hx rfl (hb hby d_prog_61_2_10) k) ?_
  show own_Go p e below KK s₁ (mkF m 11 #[.val (.ref q1), .val (.long (-3750763034362895579 : Int64)), .second, .val (.ref q1), .val (.int 4), .unset, .unset] [(.int 0)])
  refine own_at (fun t k => XS.istore X0.here hx rfl (hb hby d_prog_61_2_11) rfl (l' := #[.val (.ref q1), .val (.long (-3750763034362895579 : Int64)), .second, .val (.ref q1), .val (.int 4), .val (.int 0), .unset]) rfl k) ?_
  show own_Go p e below KK s₁ (mkF m 13 #[.val (.ref q1), .val (.long (-3750763034362895579 : Int64)), .second, .val (.ref q1), .val (.int 4), .val (.int 0), .unset] [])
  refine own_at (fun t k => XS.iload X0.here hx rfl (hb hby d_prog_61_2_13) rfl k) ?_
  show own_Go p e below KK s₁ (mkF m 15 #[.val (.ref q1), .val (.long (-3750763034362895579 : Int64)), .second, .val (.ref q1), .val (.int 4), .val (.int 0), .unset] [(.int 0)])
  refine own_at (fun t k => XS.iload X0.here hx rfl (hb hby d_prog_61_2_15) rfl k) ?_
  show own_Go p e below KK s₁ (mkF m 17 #[.val (.ref q1), .val (.long (-3750763034362895579 : Int64)), .second, .val (.ref q1), .val (.int 4), .val (.int 0), .unset] [(.int 4), (.int 0)])
  have hc17 : (0 : Int32) < (4 : Int32) := by decide
  refine own_at (fun t k => XS.icmpNo X0.here hx rfl (hb hby d_prog_61_2_17) rfl (Jvm.Free.XT.ii_ge_f hc17) k) ?_
  show own_Go p e below KK s₁ (mkF m 20 #[.val (.ref q1), .val (.long (-3750763034362895579 : Int64)), .second, .val (.ref q1), .val (.int 4), .val (.int 0), .unset] [])
  refine own_at (fun t k => XS.aloadN X0.here hx rfl (hb hby d_prog_61_2_20) rfl rfl k) ?_
  show own_Go p e below KK s₁ (mkF m 21 #[.val (.ref q1), .val (.long (-3750763034362895579 : Int64)), .second, .val (.ref q1), .val (.int 4), .val (.int 0), .unset] [(.ref q1)])
  refine own_at (fun t k => XS.iload X0.here hx rfl (hb hby d_prog_61_2_21) rfl k) ?_
  show own_Go p e below KK s₁ (mkF m 23 #[.val (.ref q1), .val (.long (-3750763034362895579 : Int64)), .second, .val (.ref q1), .val (.int 4), .val (.int 0), .unset] [(.int 0), (.ref q1)])
  refine own_at (fun t k => own_ldB X0 hx hZ e0 Aq (j := (0 : Int32)) (i := 0) (v := (.int w0)) (by decide) (by decide) rfl (g := (mkF m 23 #[.val (.ref q1), .val (.long (-3750763034362895579 : Int64)), .second, .val (.ref q1), .val (.int 4), .val (.int 0), .unset] [(.int 0), (.ref q1)])) rfl rfl (hb hby d_prog_61_2_23) t k) ?_
  show own_Go p e below KK s₁ (mkF m 24 #[.val (.ref q1), .val (.long (-3750763034362895579 : Int64)), .second, .val (.ref q1), .val (.int 4), .val (.int 0), .unset] [(.int w0)])
  refine own_at (fun t k => XS.istore X0.here hx rfl (hb hby d_prog_61_2_24) rfl (l' := #[.val (.ref q1), .val (.long (-3750763034362895579 : Int64)), .second, .val (.ref q1), .val (.int 4), .val (.int 0), .val (.int w0)]) rfl k) ?_
  show own_Go p e below KK s₁ (mkF m 26 #[.val (.ref q1), .val (.long (-3750763034362895579 : Int64)), .second, .val (.ref q1), .val (.int 4), .val (.int 0), .val (.int w0)] [])
  refine own_at (fun t k => XS.lloadN X0.here hx rfl (hb hby d_prog_61_2_26) rfl k) ?_
  show own_Go p e below KK s₁ (mkF m 27 #[.val (.ref q1), .val (.long (-3750763034362895579 : Int64)), .second, .val (.ref q1), .val (.int 4), .val (.int 0), .val (.int w0)] [(.long (-3750763034362895579 : Int64))])
  refine own_at (fun t k => XS.iload X0.here hx rfl (hb hby d_prog_61_2_27) rfl k) ?_
  show own_Go p e below KK s₁ (mkF m 29 #[.val (.ref q1), .val (.long (-3750763034362895579 : Int64)), .second, .val (.ref q1), .val (.int 4), .val (.int 0), .val (.int w0)] [(.int w0), (.long (-3750763034362895579 : Int64))])
  refine own_at (fun t k => XS.i2l X0.here hx rfl (hb hby d_prog_61_2_29) rfl k) ?_
  show own_Go p e below KK s₁ (mkF m 30 #[.val (.ref q1), .val (.long (-3750763034362895579 : Int64)), .second, .val (.ref q1), .val (.int 4), .val (.int 0), .val (.int w0)] [(.long (w0.toInt64)), (.long (-3750763034362895579 : Int64))])
  refine own_at (fun t k => X0.ldc2Long hx hown (mvT hZ (hw _ (List.mem_of_getElem? (i := 11) rfl))) (g := (mkF m 30 #[.val (.ref q1), .val (.long (-3750763034362895579 : Int64)), .second, .val (.ref q1), .val (.int 4), .val (.int 0), .val (.int w0)] [(.long (w0.toInt64)), (.long (-3750763034362895579 : Int64))])) rfl (hb hby d_prog_61_2_30) t k) ?_
  show own_Go p e below KK s₁ (mkF m 33 #[.val (.ref q1), .val (.long (-3750763034362895579 : Int64)), .second, .val (.ref q1), .val (.int 4), .val (.int 0), .val (.int w0)] [(.long 255), (.long (w0.toInt64)), (.long (-3750763034362895579 : Int64))])
  refine own_at (fun t k => XS.land X0.here hx rfl (hb hby d_prog_61_2_33) rfl k) ?_
  show own_Go p e below KK s₁ (mkF m 34 #[.val (.ref q1), .val (.long (-3750763034362895579 : Int64)), .second, .val (.ref q1), .val (.int 4), .val (.int 0), .val (.int w0)] [(.long ((w0.toInt64) &&& (255 : Int64))), (.long (-3750763034362895579 : Int64))])
  refine own_at (fun t k => XS.lxor X0.here hx rfl (hb hby d_prog_61_2_34) rfl k) ?_
  show own_Go p e below KK s₁ (mkF m 35 #[.val (.ref q1), .val (.long (-3750763034362895579 : Int64)), .second, .val (.ref q1), .val (.int 4), .val (.int 0), .val (.int w0)] [(.long ((-3750763034362895579 : Int64) ^^^ ((w0.toInt64) &&& (255 : Int64))))])
  refine own_at (fun t k => X0.ldc2Long hx hown (mvT hZ (hw _ (List.mem_of_getElem? (i := 12) rfl))) (g := (mkF m 35 #[.val (.ref q1), .val (.long (-3750763034362895579 : Int64)), .second, .val (.ref q1), .val (.int 4), .val (.int 0), .val (.int w0)] [(.long ((-3750763034362895579 : Int64) ^^^ ((w0.toInt64) &&& (255 : Int64))))])) rfl (hb hby d_prog_61_2_35) t k) ?_
  show own_Go p e below KK s₁ (mkF m 38 #[.val (.ref q1), .val (.long (-3750763034362895579 : Int64)), .second, .val (.ref q1), .val (.int 4), .val (.int 0), .val (.int w0)] [(.long 1099511628211), (.long ((-3750763034362895579 : Int64) ^^^ ((w0.toInt64) &&& (255 : Int64))))])
  refine own_at (fun t k => XS.lmul X0.here hx rfl (hb hby d_prog_61_2_38) rfl k) ?_
  show own_Go p e below KK s₁ (mkF m 39 #[.val (.ref q1), .val (.long (-3750763034362895579 : Int64)), .second, .val (.ref q1), .val (.int 4), .val (.int 0), .val (.int w0)] [(.long (((-3750763034362895579 : Int64) ^^^ ((w0.toInt64) &&& (255 : Int64))) * (1099511628211 : Int64)))])
  refine own_at (fun t k => XS.lstoreN X0.here hx rfl (hb hby d_prog_61_2_39) rfl (l' := #[.val (.ref q1), .val (.long (((-3750763034362895579 : Int64) ^^^ ((w0.toInt64) &&& (255 : Int64))) * (1099511628211 : Int64))), .second, .val (.ref q1), .val (.int 4), .val (.int 0), .val (.int w0)]) rfl k) ?_
  show own_Go p e below KK s₁ (mkF m 40 #[.val (.ref q1), .val (.long (((-3750763034362895579 : Int64) ^^^ ((w0.toInt64) &&& (255 : Int64))) * (1099511628211 : Int64))), .second, .val (.ref q1), .val (.int 4), .val (.int 0), .val (.int w0)] [])
  refine own_at (fun t k => XS.iinc X0.here hx rfl (hb hby d_prog_61_2_40) rfl (l' := #[.val (.ref q1), .val (.long (((-3750763034362895579 : Int64) ^^^ ((w0.toInt64) &&& (255 : Int64))) * (1099511628211 : Int64))), .second, .val (.ref q1), .val (.int 4), .val (.int ((0 : Int32) + (1 : Int32))), .val (.int w0)]) rfl k) ?_
  show own_Go p e below KK s₁ (mkF m 43 #[.val (.ref q1), .val (.long (((-3750763034362895579 : Int64) ^^^ ((w0.toInt64) &&& (255 : Int64))) * (1099511628211 : Int64))), .second, .val (.ref q1), .val (.int 4), .val (.int ((0 : Int32) + (1 : Int32))), .val (.int w0)] [])
  rw [show ((0 : Int32) + (1 : Int32)) = (1 : Int32) from by decide]
  show own_Go p e below KK s₁ (mkF m 43 #[.val (.ref q1), .val (.long (((-3750763034362895579 : Int64) ^^^ ((w0.toInt64) &&& (255 : Int64))) * (1099511628211 : Int64))), .second, .val (.ref q1), .val (.int 4), .val (.int 1), .val (.int w0)] [])
  refine own_at (fun t k => XS.goto X0.here hx rfl (pc0 := 43) (pc' := 13) rfl (hb hby d_prog_61_2_43) (by decide) (by decide) k) ?_
  show own_Go p e below KK s₁ (mkF m 13 #[.val (.ref q1), .val (.long (((-3750763034362895579 : Int64) ^^^ ((w0.toInt64) &&& (255 : Int64))) * (1099511628211 : Int64))), .second, .val (.ref q1), .val (.int 4), .val (.int 1), .val (.int w0)] [])
  refine own_at (fun t k => XS.iload X0.here hx rfl (hb hby d_prog_61_2_13) rfl k) ?_
  show own_Go p e below KK s₁ (mkF m 15 #[.val (.ref q1), .val (.long (((-3750763034362895579 : Int64) ^^^ ((w0.toInt64) &&& (255 : Int64))) * (1099511628211 : Int64))), .second, .val (.ref q1), .val (.int 4), .val (.int 1), .val (.int w0)] [(.int 1)])
  refine own_at (fun t k => XS.iload X0.here hx rfl (hb hby d_prog_61_2_15) rfl k) ?_
  show own_Go p e below KK s₁ (mkF m 17 #[.val (.ref q1), .val (.long (((-3750763034362895579 : Int64) ^^^ ((w0.toInt64) &&& (255 : Int64))) * (1099511628211 : Int64))), .second, .val (.ref q1), .val (.int 4), .val (.int 1), .val (.int w0)] [(.int 4), (.int 1)])
  have hc17_1 : (1 : Int32) < (4 : Int32) := by decide
  refine own_at (fun t k => XS.icmpNo X0.here hx rfl (hb hby d_prog_61_2_17) rfl (Jvm.Free.XT.ii_ge_f hc17_1) k) ?_
  show own_Go p e below KK s₁ (mkF m 20 #[.val (.ref q1), .val (.long (((-3750763034362895579 : Int64) ^^^ ((w0.toInt64) &&& (255 : Int64))) * (1099511628211 : Int64))), .second, .val (.ref q1), .val (.int 4), .val (.int 1), .val (.int w0)] [])
  refine own_at (fun t k => XS.aloadN X0.here hx rfl (hb hby d_prog_61_2_20) rfl rfl k) ?_
  show own_Go p e below KK s₁ (mkF m 21 #[.val (.ref q1), .val (.long (((-3750763034362895579 : Int64) ^^^ ((w0.toInt64) &&& (255 : Int64))) * (1099511628211 : Int64))), .second, .val (.ref q1), .val (.int 4), .val (.int 1), .val (.int w0)] [(.ref q1)])
  refine own_at (fun t k => XS.iload X0.here hx rfl (hb hby d_prog_61_2_21) rfl k) ?_
  show own_Go p e below KK s₁ (mkF m 23 #[.val (.ref q1), .val (.long (((-3750763034362895579 : Int64) ^^^ ((w0.toInt64) &&& (255 : Int64))) * (1099511628211 : Int64))), .second, .val (.ref q1), .val (.int 4), .val (.int 1), .val (.int w0)] [(.int 1), (.ref q1)])
  refine own_at (fun t k => own_ldB X0 hx hZ e0 Aq (j := (1 : Int32)) (i := 1) (v := (.int w1)) (by decide) (by decide) rfl (g := (mkF m 23 #[.val (.ref q1), .val (.long (((-3750763034362895579 : Int64) ^^^ ((w0.toInt64) &&& (255 : Int64))) * (1099511628211 : Int64))), .second, .val (.ref q1), .val (.int 4), .val (.int 1), .val (.int w0)] [(.int 1), (.ref q1)])) rfl rfl (hb hby d_prog_61_2_23) t k) ?_
  show own_Go p e below KK s₁ (mkF m 24 #[.val (.ref q1), .val (.long (((-3750763034362895579 : Int64) ^^^ ((w0.toInt64) &&& (255 : Int64))) * (1099511628211 : Int64))), .second, .val (.ref q1), .val (.int 4), .val (.int 1), .val (.int w0)] [(.int w1)])
  refine own_at (fun t k => XS.istore X0.here hx rfl (hb hby d_prog_61_2_24) rfl (l' := #[.val (.ref q1), .val (.long (((-3750763034362895579 : Int64) ^^^ ((w0.toInt64) &&& (255 : Int64))) * (1099511628211 : Int64))), .second, .val (.ref q1), .val (.int 4), .val (.int 1), .val (.int w1)]) rfl k) ?_
  show own_Go p e below KK s₁ (mkF m 26 #[.val (.ref q1), .val (.long (((-3750763034362895579 : Int64) ^^^ ((w0.toInt64) &&& (255 : Int64))) * (1099511628211 : Int64))), .second, .val (.ref q1), .val (.int 4), .val (.int 1), .val (.int w1)] [])
  refine own_at (fun t k => XS.lloadN X0.here hx rfl (hb hby d_prog_61_2_26) rfl k) ?_
  show own_Go p e below KK s₁ (mkF m 27 #[.val (.ref q1), .val (.long (((-3750763034362895579 : Int64) ^^^ ((w0.toInt64) &&& (255 : Int64))) * (1099511628211 : Int64))), .second, .val (.ref q1), .val (.int 4), .val (.int 1), .val (.int w1)] [(.long (((-3750763034362895579 : Int64) ^^^ ((w0.toInt64) &&& (255 : Int64))) * (1099511628211 : Int64)))])
  refine own_at (fun t k => XS.iload X0.here hx rfl (hb hby d_prog_61_2_27) rfl k) ?_
  show own_Go p e below KK s₁ (mkF m 29 #[.val (.ref q1), .val (.long (((-3750763034362895579 : Int64) ^^^ ((w0.toInt64) &&& (255 : Int64))) * (1099511628211 : Int64))), .second, .val (.ref q1), .val (.int 4), .val (.int 1), .val (.int w1)] [(.int w1), (.long (((-3750763034362895579 : Int64) ^^^ ((w0.toInt64) &&& (255 : Int64))) * (1099511628211 : Int64)))])
  refine own_at (fun t k => XS.i2l X0.here hx rfl (hb hby d_prog_61_2_29) rfl k) ?_
  show own_Go p e below KK s₁ (mkF m 30 #[.val (.ref q1), .val (.long (((-3750763034362895579 : Int64) ^^^ ((w0.toInt64) &&& (255 : Int64))) * (1099511628211 : Int64))), .second, .val (.ref q1), .val (.int 4), .val (.int 1), .val (.int w1)] [(.long (w1.toInt64)), (.long (((-3750763034362895579 : Int64) ^^^ ((w0.toInt64) &&& (255 : Int64))) * (1099511628211 : Int64)))])
  refine own_at (fun t k => X0.ldc2Long hx hown (mvT hZ (hw _ (List.mem_of_getElem? (i := 11) rfl))) (g := (mkF m 30 #[.val (.ref q1), .val (.long (((-3750763034362895579 : Int64) ^^^ ((w0.toInt64) &&& (255 : Int64))) * (1099511628211 : Int64))), .second, .val (.ref q1), .val (.int 4), .val (.int 1), .val (.int w1)] [(.long (w1.toInt64)), (.long (((-3750763034362895579 : Int64) ^^^ ((w0.toInt64) &&& (255 : Int64))) * (1099511628211 : Int64)))])) rfl (hb hby d_prog_61_2_30) t k) ?_
  show own_Go p e below KK s₁ (mkF m 33 #[.val (.ref q1), .val (.long (((-3750763034362895579 : Int64) ^^^ ((w0.toInt64) &&& (255 : Int64))) * (1099511628211 : Int64))), .second, .val (.ref q1), .val (.int 4), .val (.int 1), .val (.int w1)] [(.long 255), (.long (w1.toInt64)), (.long (((-3750763034362895579 : Int64) ^^^ ((w0.toInt64) &&& (255 : Int64))) * (1099511628211 : Int64)))])
  refine own_at (fun t k => XS.land X0.here hx rfl (hb hby d_prog_61_2_33) rfl k) ?_
  show own_Go p e below KK s₁ (mkF m 34 #[.val (.ref q1), .val (.long (((-3750763034362895579 : Int64) ^^^ ((w0.toInt64) &&& (255 : Int64))) * (1099511628211 : Int64))), .second, .val (.ref q1), .val (.int 4), .val (.int 1), .val (.int w1)] [(.long ((w1.toInt64) &&& (255 : Int64))), (.long (((-3750763034362895579 : Int64) ^^^ ((w0.toInt64) &&& (255 : Int64))) * (1099511628211 : Int64)))])
  refine own_at (fun t k => XS.lxor X0.here hx rfl (hb hby d_prog_61_2_34) rfl k) ?_
  show own_Go p e below KK s₁ (mkF m 35 #[.val (.ref q1), .val (.long (((-3750763034362895579 : Int64) ^^^ ((w0.toInt64) &&& (255 : Int64))) * (1099511628211 : Int64))), .second, .val (.ref q1), .val (.int 4), .val (.int 1), .val (.int w1)] [(.long ((((-3750763034362895579 : Int64) ^^^ ((w0.toInt64) &&& (255 : Int64))) * (1099511628211 : Int64)) ^^^ ((w1.toInt64) &&& (255 : Int64))))])
  refine own_at (fun t k => X0.ldc2Long hx hown (mvT hZ (hw _ (List.mem_of_getElem? (i := 12) rfl))) (g := (mkF m 35 #[.val (.ref q1), .val (.long (((-3750763034362895579 : Int64) ^^^ ((w0.toInt64) &&& (255 : Int64))) * (1099511628211 : Int64))), .second, .val (.ref q1), .val (.int 4), .val (.int 1), .val (.int w1)] [(.long ((((-3750763034362895579 : Int64) ^^^ ((w0.toInt64) &&& (255 : Int64))) * (1099511628211 : Int64)) ^^^ ((w1.toInt64) &&& (255 : Int64))))])) rfl (hb hby d_prog_61_2_35) t k) ?_
  show own_Go p e below KK s₁ (mkF m 38 #[.val (.ref q1), .val (.long (((-3750763034362895579 : Int64) ^^^ ((w0.toInt64) &&& (255 : Int64))) * (1099511628211 : Int64))), .second, .val (.ref q1), .val (.int 4), .val (.int 1), .val (.int w1)] [(.long 1099511628211), (.long ((((-3750763034362895579 : Int64) ^^^ ((w0.toInt64) &&& (255 : Int64))) * (1099511628211 : Int64)) ^^^ ((w1.toInt64) &&& (255 : Int64))))])
  refine own_at (fun t k => XS.lmul X0.here hx rfl (hb hby d_prog_61_2_38) rfl k) ?_
  show own_Go p e below KK s₁ (mkF m 39 #[.val (.ref q1), .val (.long (((-3750763034362895579 : Int64) ^^^ ((w0.toInt64) &&& (255 : Int64))) * (1099511628211 : Int64))), .second, .val (.ref q1), .val (.int 4), .val (.int 1), .val (.int w1)] [(.long (((((-3750763034362895579 : Int64) ^^^ ((w0.toInt64) &&& (255 : Int64))) * (1099511628211 : Int64)) ^^^ ((w1.toInt64) &&& (255 : Int64))) * (1099511628211 : Int64)))])
  refine own_at (fun t k => XS.lstoreN X0.here hx rfl (hb hby d_prog_61_2_39) rfl (l' := #[.val (.ref q1), .val (.long (((((-3750763034362895579 : Int64) ^^^ ((w0.toInt64) &&& (255 : Int64))) * (1099511628211 : Int64)) ^^^ ((w1.toInt64) &&& (255 : Int64))) * (1099511628211 : Int64))), .second, .val (.ref q1), .val (.int 4), .val (.int 1), .val (.int w1)]) rfl k) ?_
  show own_Go p e below KK s₁ (mkF m 40 #[.val (.ref q1), .val (.long (((((-3750763034362895579 : Int64) ^^^ ((w0.toInt64) &&& (255 : Int64))) * (1099511628211 : Int64)) ^^^ ((w1.toInt64) &&& (255 : Int64))) * (1099511628211 : Int64))), .second, .val (.ref q1), .val (.int 4), .val (.int 1), .val (.int w1)] [])
  refine own_at (fun t k => XS.iinc X0.here hx rfl (hb hby d_prog_61_2_40) rfl (l' := #[.val (.ref q1), .val (.long (((((-3750763034362895579 : Int64) ^^^ ((w0.toInt64) &&& (255 : Int64))) * (1099511628211 : Int64)) ^^^ ((w1.toInt64) &&& (255 : Int64))) * (1099511628211 : Int64))), .second, .val (.ref q1), .val (.int 4), .val (.int ((1 : Int32) + (1 : Int32))), .val (.int w1)]) rfl k) ?_
  show own_Go p e below KK s₁ (mkF m 43 #[.val (.ref q1), .val (.long (((((-3750763034362895579 : Int64) ^^^ ((w0.toInt64) &&& (255 : Int64))) * (1099511628211 : Int64)) ^^^ ((w1.toInt64) &&& (255 : Int64))) * (1099511628211 : Int64))), .second, .val (.ref q1), .val (.int 4), .val (.int ((1 : Int32) + (1 : Int32))), .val (.int w1)] [])
  rw [show ((1 : Int32) + (1 : Int32)) = (2 : Int32) from by decide]
  show own_Go p e below KK s₁ (mkF m 43 #[.val (.ref q1), .val (.long (((((-3750763034362895579 : Int64) ^^^ ((w0.toInt64) &&& (255 : Int64))) * (1099511628211 : Int64)) ^^^ ((w1.toInt64) &&& (255 : Int64))) * (1099511628211 : Int64))), .second, .val (.ref q1), .val (.int 4), .val (.int 2), .val (.int w1)] [])
  refine own_at (fun t k => XS.goto X0.here hx rfl (pc0 := 43) (pc' := 13) rfl (hb hby d_prog_61_2_43) (by decide) (by decide) k) ?_
  show own_Go p e below KK s₁ (mkF m 13 #[.val (.ref q1), .val (.long (((((-3750763034362895579 : Int64) ^^^ ((w0.toInt64) &&& (255 : Int64))) * (1099511628211 : Int64)) ^^^ ((w1.toInt64) &&& (255 : Int64))) * (1099511628211 : Int64))), .second, .val (.ref q1), .val (.int 4), .val (.int 2), .val (.int w1)] [])
  refine own_at (fun t k => XS.iload X0.here hx rfl (hb hby d_prog_61_2_13) rfl k) ?_
  show own_Go p e below KK s₁ (mkF m 15 #[.val (.ref q1), .val (.long (((((-3750763034362895579 : Int64) ^^^ ((w0.toInt64) &&& (255 : Int64))) * (1099511628211 : Int64)) ^^^ ((w1.toInt64) &&& (255 : Int64))) * (1099511628211 : Int64))), .second, .val (.ref q1), .val (.int 4), .val (.int 2), .val (.int w1)] [(.int 2)])
  refine own_at (fun t k => XS.iload X0.here hx rfl (hb hby d_prog_61_2_15) rfl k) ?_
  show own_Go p e below KK s₁ (mkF m 17 #[.val (.ref q1), .val (.long (((((-3750763034362895579 : Int64) ^^^ ((w0.toInt64) &&& (255 : Int64))) * (1099511628211 : Int64)) ^^^ ((w1.toInt64) &&& (255 : Int64))) * (1099511628211 : Int64))), .second, .val (.ref q1), .val (.int 4), .val (.int 2), .val (.int w1)] [(.int 4), (.int 2)])
  have hc17_2 : (2 : Int32) < (4 : Int32) := by decide
  refine own_at (fun t k => XS.icmpNo X0.here hx rfl (hb hby d_prog_61_2_17) rfl (Jvm.Free.XT.ii_ge_f hc17_2) k) ?_
  show own_Go p e below KK s₁ (mkF m 20 #[.val (.ref q1), .val (.long (((((-3750763034362895579 : Int64) ^^^ ((w0.toInt64) &&& (255 : Int64))) * (1099511628211 : Int64)) ^^^ ((w1.toInt64) &&& (255 : Int64))) * (1099511628211 : Int64))), .second, .val (.ref q1), .val (.int 4), .val (.int 2), .val (.int w1)] [])
  refine own_at (fun t k => XS.aloadN X0.here hx rfl (hb hby d_prog_61_2_20) rfl rfl k) ?_
  show own_Go p e below KK s₁ (mkF m 21 #[.val (.ref q1), .val (.long (((((-3750763034362895579 : Int64) ^^^ ((w0.toInt64) &&& (255 : Int64))) * (1099511628211 : Int64)) ^^^ ((w1.toInt64) &&& (255 : Int64))) * (1099511628211 : Int64))), .second, .val (.ref q1), .val (.int 4), .val (.int 2), .val (.int w1)] [(.ref q1)])
  refine own_at (fun t k => XS.iload X0.here hx rfl (hb hby d_prog_61_2_21) rfl k) ?_
  show own_Go p e below KK s₁ (mkF m 23 #[.val (.ref q1), .val (.long (((((-3750763034362895579 : Int64) ^^^ ((w0.toInt64) &&& (255 : Int64))) * (1099511628211 : Int64)) ^^^ ((w1.toInt64) &&& (255 : Int64))) * (1099511628211 : Int64))), .second, .val (.ref q1), .val (.int 4), .val (.int 2), .val (.int w1)] [(.int 2), (.ref q1)])
  refine own_at (fun t k => own_ldB X0 hx hZ e0 Aq (j := (2 : Int32)) (i := 2) (v := (.int w2)) (by decide) (by decide) rfl (g := (mkF m 23 #[.val (.ref q1), .val (.long (((((-3750763034362895579 : Int64) ^^^ ((w0.toInt64) &&& (255 : Int64))) * (1099511628211 : Int64)) ^^^ ((w1.toInt64) &&& (255 : Int64))) * (1099511628211 : Int64))), .second, .val (.ref q1), .val (.int 4), .val (.int 2), .val (.int w1)] [(.int 2), (.ref q1)])) rfl rfl (hb hby d_prog_61_2_23) t k) ?_
  show own_Go p e below KK s₁ (mkF m 24 #[.val (.ref q1), .val (.long (((((-3750763034362895579 : Int64) ^^^ ((w0.toInt64) &&& (255 : Int64))) * (1099511628211 : Int64)) ^^^ ((w1.toInt64) &&& (255 : Int64))) * (1099511628211 : Int64))), .second, .val (.ref q1), .val (.int 4), .val (.int 2), .val (.int w1)] [(.int w2)])
  refine own_at (fun t k => XS.istore X0.here hx rfl (hb hby d_prog_61_2_24) rfl (l' := #[.val (.ref q1), .val (.long (((((-3750763034362895579 : Int64) ^^^ ((w0.toInt64) &&& (255 : Int64))) * (1099511628211 : Int64)) ^^^ ((w1.toInt64) &&& (255 : Int64))) * (1099511628211 : Int64))), .second, .val (.ref q1), .val (.int 4), .val (.int 2), .val (.int w2)]) rfl k) ?_
  show own_Go p e below KK s₁ (mkF m 26 #[.val (.ref q1), .val (.long (((((-3750763034362895579 : Int64) ^^^ ((w0.toInt64) &&& (255 : Int64))) * (1099511628211 : Int64)) ^^^ ((w1.toInt64) &&& (255 : Int64))) * (1099511628211 : Int64))), .second, .val (.ref q1), .val (.int 4), .val (.int 2), .val (.int w2)] [])
  refine own_at (fun t k => XS.lloadN X0.here hx rfl (hb hby d_prog_61_2_26) rfl k) ?_
  show own_Go p e below KK s₁ (mkF m 27 #[.val (.ref q1), .val (.long (((((-3750763034362895579 : Int64) ^^^ ((w0.toInt64) &&& (255 : Int64))) * (1099511628211 : Int64)) ^^^ ((w1.toInt64) &&& (255 : Int64))) * (1099511628211 : Int64))), .second, .val (.ref q1), .val (.int 4), .val (.int 2), .val (.int w2)] [(.long (((((-3750763034362895579 : Int64) ^^^ ((w0.toInt64) &&& (255 : Int64))) * (1099511628211 : Int64)) ^^^ ((w1.toInt64) &&& (255 : Int64))) * (1099511628211 : Int64)))])
  refine own_at (fun t k => XS.iload X0.here hx rfl (hb hby d_prog_61_2_27) rfl k) ?_
  show own_Go p e below KK s₁ (mkF m 29 #[.val (.ref q1), .val (.long (((((-3750763034362895579 : Int64) ^^^ ((w0.toInt64) &&& (255 : Int64))) * (1099511628211 : Int64)) ^^^ ((w1.toInt64) &&& (255 : Int64))) * (1099511628211 : Int64))), .second, .val (.ref q1), .val (.int 4), .val (.int 2), .val (.int w2)] [(.int w2), (.long (((((-3750763034362895579 : Int64) ^^^ ((w0.toInt64) &&& (255 : Int64))) * (1099511628211 : Int64)) ^^^ ((w1.toInt64) &&& (255 : Int64))) * (1099511628211 : Int64)))])
  refine own_at (fun t k => XS.i2l X0.here hx rfl (hb hby d_prog_61_2_29) rfl k) ?_
  show own_Go p e below KK s₁ (mkF m 30 #[.val (.ref q1), .val (.long (((((-3750763034362895579 : Int64) ^^^ ((w0.toInt64) &&& (255 : Int64))) * (1099511628211 : Int64)) ^^^ ((w1.toInt64) &&& (255 : Int64))) * (1099511628211 : Int64))), .second, .val (.ref q1), .val (.int 4), .val (.int 2), .val (.int w2)] [(.long (w2.toInt64)), (.long (((((-3750763034362895579 : Int64) ^^^ ((w0.toInt64) &&& (255 : Int64))) * (1099511628211 : Int64)) ^^^ ((w1.toInt64) &&& (255 : Int64))) * (1099511628211 : Int64)))])
  refine own_at (fun t k => X0.ldc2Long hx hown (mvT hZ (hw _ (List.mem_of_getElem? (i := 11) rfl))) (g := (mkF m 30 #[.val (.ref q1), .val (.long (((((-3750763034362895579 : Int64) ^^^ ((w0.toInt64) &&& (255 : Int64))) * (1099511628211 : Int64)) ^^^ ((w1.toInt64) &&& (255 : Int64))) * (1099511628211 : Int64))), .second, .val (.ref q1), .val (.int 4), .val (.int 2), .val (.int w2)] [(.long (w2.toInt64)), (.long (((((-3750763034362895579 : Int64) ^^^ ((w0.toInt64) &&& (255 : Int64))) * (1099511628211 : Int64)) ^^^ ((w1.toInt64) &&& (255 : Int64))) * (1099511628211 : Int64)))])) rfl (hb hby d_prog_61_2_30) t k) ?_
  show own_Go p e below KK s₁ (mkF m 33 #[.val (.ref q1), .val (.long (((((-3750763034362895579 : Int64) ^^^ ((w0.toInt64) &&& (255 : Int64))) * (1099511628211 : Int64)) ^^^ ((w1.toInt64) &&& (255 : Int64))) * (1099511628211 : Int64))), .second, .val (.ref q1), .val (.int 4), .val (.int 2), .val (.int w2)] [(.long 255), (.long (w2.toInt64)), (.long (((((-3750763034362895579 : Int64) ^^^ ((w0.toInt64) &&& (255 : Int64))) * (1099511628211 : Int64)) ^^^ ((w1.toInt64) &&& (255 : Int64))) * (1099511628211 : Int64)))])
  refine own_at (fun t k => XS.land X0.here hx rfl (hb hby d_prog_61_2_33) rfl k) ?_
  show own_Go p e below KK s₁ (mkF m 34 #[.val (.ref q1), .val (.long (((((-3750763034362895579 : Int64) ^^^ ((w0.toInt64) &&& (255 : Int64))) * (1099511628211 : Int64)) ^^^ ((w1.toInt64) &&& (255 : Int64))) * (1099511628211 : Int64))), .second, .val (.ref q1), .val (.int 4), .val (.int 2), .val (.int w2)] [(.long ((w2.toInt64) &&& (255 : Int64))), (.long (((((-3750763034362895579 : Int64) ^^^ ((w0.toInt64) &&& (255 : Int64))) * (1099511628211 : Int64)) ^^^ ((w1.toInt64) &&& (255 : Int64))) * (1099511628211 : Int64)))])
  refine own_at (fun t k => XS.lxor X0.here hx rfl (hb hby d_prog_61_2_34) rfl k) ?_
  show own_Go p e below KK s₁ (mkF m 35 #[.val (.ref q1), .val (.long (((((-3750763034362895579 : Int64) ^^^ ((w0.toInt64) &&& (255 : Int64))) * (1099511628211 : Int64)) ^^^ ((w1.toInt64) &&& (255 : Int64))) * (1099511628211 : Int64))), .second, .val (.ref q1), .val (.int 4), .val (.int 2), .val (.int w2)] [(.long ((((((-3750763034362895579 : Int64) ^^^ ((w0.toInt64) &&& (255 : Int64))) * (1099511628211 : Int64)) ^^^ ((w1.toInt64) &&& (255 : Int64))) * (1099511628211 : Int64)) ^^^ ((w2.toInt64) &&& (255 : Int64))))])
  refine own_at (fun t k => X0.ldc2Long hx hown (mvT hZ (hw _ (List.mem_of_getElem? (i := 12) rfl))) (g := (mkF m 35 #[.val (.ref q1), .val (.long (((((-3750763034362895579 : Int64) ^^^ ((w0.toInt64) &&& (255 : Int64))) * (1099511628211 : Int64)) ^^^ ((w1.toInt64) &&& (255 : Int64))) * (1099511628211 : Int64))), .second, .val (.ref q1), .val (.int 4), .val (.int 2), .val (.int w2)] [(.long ((((((-3750763034362895579 : Int64) ^^^ ((w0.toInt64) &&& (255 : Int64))) * (1099511628211 : Int64)) ^^^ ((w1.toInt64) &&& (255 : Int64))) * (1099511628211 : Int64)) ^^^ ((w2.toInt64) &&& (255 : Int64))))])) rfl (hb hby d_prog_61_2_35) t k) ?_
  show own_Go p e below KK s₁ (mkF m 38 #[.val (.ref q1), .val (.long (((((-3750763034362895579 : Int64) ^^^ ((w0.toInt64) &&& (255 : Int64))) * (1099511628211 : Int64)) ^^^ ((w1.toInt64) &&& (255 : Int64))) * (1099511628211 : Int64))), .second, .val (.ref q1), .val (.int 4), .val (.int 2), .val (.int w2)] [(.long 1099511628211), (.long ((((((-3750763034362895579 : Int64) ^^^ ((w0.toInt64) &&& (255 : Int64))) * (1099511628211 : Int64)) ^^^ ((w1.toInt64) &&& (255 : Int64))) * (1099511628211 : Int64)) ^^^ ((w2.toInt64) &&& (255 : Int64))))])
  refine own_at (fun t k => XS.lmul X0.here hx rfl (hb hby d_prog_61_2_38) rfl k) ?_
  show own_Go p e below KK s₁ (mkF m 39 #[.val (.ref q1), .val (.long (((((-3750763034362895579 : Int64) ^^^ ((w0.toInt64) &&& (255 : Int64))) * (1099511628211 : Int64)) ^^^ ((w1.toInt64) &&& (255 : Int64))) * (1099511628211 : Int64))), .second, .val (.ref q1), .val (.int 4), .val (.int 2), .val (.int w2)] [(.long (((((((-3750763034362895579 : Int64) ^^^ ((w0.toInt64) &&& (255 : Int64))) * (1099511628211 : Int64)) ^^^ ((w1.toInt64) &&& (255 : Int64))) * (1099511628211 : Int64)) ^^^ ((w2.toInt64) &&& (255 : Int64))) * (1099511628211 : Int64)))])
  refine own_at (fun t k => XS.lstoreN X0.here hx rfl (hb hby d_prog_61_2_39) rfl (l' := #[.val (.ref q1), .val (.long (((((((-3750763034362895579 : Int64) ^^^ ((w0.toInt64) &&& (255 : Int64))) * (1099511628211 : Int64)) ^^^ ((w1.toInt64) &&& (255 : Int64))) * (1099511628211 : Int64)) ^^^ ((w2.toInt64) &&& (255 : Int64))) * (1099511628211 : Int64))), .second, .val (.ref q1), .val (.int 4), .val (.int 2), .val (.int w2)]) rfl k) ?_
  show own_Go p e below KK s₁ (mkF m 40 #[.val (.ref q1), .val (.long (((((((-3750763034362895579 : Int64) ^^^ ((w0.toInt64) &&& (255 : Int64))) * (1099511628211 : Int64)) ^^^ ((w1.toInt64) &&& (255 : Int64))) * (1099511628211 : Int64)) ^^^ ((w2.toInt64) &&& (255 : Int64))) * (1099511628211 : Int64))), .second, .val (.ref q1), .val (.int 4), .val (.int 2), .val (.int w2)] [])
  refine own_at (fun t k => XS.iinc X0.here hx rfl (hb hby d_prog_61_2_40) rfl (l' := #[.val (.ref q1), .val (.long (((((((-3750763034362895579 : Int64) ^^^ ((w0.toInt64) &&& (255 : Int64))) * (1099511628211 : Int64)) ^^^ ((w1.toInt64) &&& (255 : Int64))) * (1099511628211 : Int64)) ^^^ ((w2.toInt64) &&& (255 : Int64))) * (1099511628211 : Int64))), .second, .val (.ref q1), .val (.int 4), .val (.int ((2 : Int32) + (1 : Int32))), .val (.int w2)]) rfl k) ?_
  show own_Go p e below KK s₁ (mkF m 43 #[.val (.ref q1), .val (.long (((((((-3750763034362895579 : Int64) ^^^ ((w0.toInt64) &&& (255 : Int64))) * (1099511628211 : Int64)) ^^^ ((w1.toInt64) &&& (255 : Int64))) * (1099511628211 : Int64)) ^^^ ((w2.toInt64) &&& (255 : Int64))) * (1099511628211 : Int64))), .second, .val (.ref q1), .val (.int 4), .val (.int ((2 : Int32) + (1 : Int32))), .val (.int w2)] [])
  rw [show ((2 : Int32) + (1 : Int32)) = (3 : Int32) from by decide]
  show own_Go p e below KK s₁ (mkF m 43 #[.val (.ref q1), .val (.long (((((((-3750763034362895579 : Int64) ^^^ ((w0.toInt64) &&& (255 : Int64))) * (1099511628211 : Int64)) ^^^ ((w1.toInt64) &&& (255 : Int64))) * (1099511628211 : Int64)) ^^^ ((w2.toInt64) &&& (255 : Int64))) * (1099511628211 : Int64))), .second, .val (.ref q1), .val (.int 4), .val (.int 3), .val (.int w2)] [])
  refine own_at (fun t k => XS.goto X0.here hx rfl (pc0 := 43) (pc' := 13) rfl (hb hby d_prog_61_2_43) (by decide) (by decide) k) ?_
  show own_Go p e below KK s₁ (mkF m 13 #[.val (.ref q1), .val (.long (((((((-3750763034362895579 : Int64) ^^^ ((w0.toInt64) &&& (255 : Int64))) * (1099511628211 : Int64)) ^^^ ((w1.toInt64) &&& (255 : Int64))) * (1099511628211 : Int64)) ^^^ ((w2.toInt64) &&& (255 : Int64))) * (1099511628211 : Int64))), .second, .val (.ref q1), .val (.int 4), .val (.int 3), .val (.int w2)] [])
  refine own_at (fun t k => XS.iload X0.here hx rfl (hb hby d_prog_61_2_13) rfl k) ?_
  show own_Go p e below KK s₁ (mkF m 15 #[.val (.ref q1), .val (.long (((((((-3750763034362895579 : Int64) ^^^ ((w0.toInt64) &&& (255 : Int64))) * (1099511628211 : Int64)) ^^^ ((w1.toInt64) &&& (255 : Int64))) * (1099511628211 : Int64)) ^^^ ((w2.toInt64) &&& (255 : Int64))) * (1099511628211 : Int64))), .second, .val (.ref q1), .val (.int 4), .val (.int 3), .val (.int w2)] [(.int 3)])
  refine own_at (fun t k => XS.iload X0.here hx rfl (hb hby d_prog_61_2_15) rfl k) ?_
  show own_Go p e below KK s₁ (mkF m 17 #[.val (.ref q1), .val (.long (((((((-3750763034362895579 : Int64) ^^^ ((w0.toInt64) &&& (255 : Int64))) * (1099511628211 : Int64)) ^^^ ((w1.toInt64) &&& (255 : Int64))) * (1099511628211 : Int64)) ^^^ ((w2.toInt64) &&& (255 : Int64))) * (1099511628211 : Int64))), .second, .val (.ref q1), .val (.int 4), .val (.int 3), .val (.int w2)] [(.int 4), (.int 3)])
  have hc17_3 : (3 : Int32) < (4 : Int32) := by decide
  refine own_at (fun t k => XS.icmpNo X0.here hx rfl (hb hby d_prog_61_2_17) rfl (Jvm.Free.XT.ii_ge_f hc17_3) k) ?_
  show own_Go p e below KK s₁ (mkF m 20 #[.val (.ref q1), .val (.long (((((((-3750763034362895579 : Int64) ^^^ ((w0.toInt64) &&& (255 : Int64))) * (1099511628211 : Int64)) ^^^ ((w1.toInt64) &&& (255 : Int64))) * (1099511628211 : Int64)) ^^^ ((w2.toInt64) &&& (255 : Int64))) * (1099511628211 : Int64))), .second, .val (.ref q1), .val (.int 4), .val (.int 3), .val (.int w2)] [])
  refine own_at (fun t k => XS.aloadN X0.here hx rfl (hb hby d_prog_61_2_20) rfl rfl k) ?_
  show own_Go p e below KK s₁ (mkF m 21 #[.val (.ref q1), .val (.long (((((((-3750763034362895579 : Int64) ^^^ ((w0.toInt64) &&& (255 : Int64))) * (1099511628211 : Int64)) ^^^ ((w1.toInt64) &&& (255 : Int64))) * (1099511628211 : Int64)) ^^^ ((w2.toInt64) &&& (255 : Int64))) * (1099511628211 : Int64))), .second, .val (.ref q1), .val (.int 4), .val (.int 3), .val (.int w2)] [(.ref q1)])
  refine own_at (fun t k => XS.iload X0.here hx rfl (hb hby d_prog_61_2_21) rfl k) ?_
  show own_Go p e below KK s₁ (mkF m 23 #[.val (.ref q1), .val (.long (((((((-3750763034362895579 : Int64) ^^^ ((w0.toInt64) &&& (255 : Int64))) * (1099511628211 : Int64)) ^^^ ((w1.toInt64) &&& (255 : Int64))) * (1099511628211 : Int64)) ^^^ ((w2.toInt64) &&& (255 : Int64))) * (1099511628211 : Int64))), .second, .val (.ref q1), .val (.int 4), .val (.int 3), .val (.int w2)] [(.int 3), (.ref q1)])
  refine own_at (fun t k => own_ldB X0 hx hZ e0 Aq (j := (3 : Int32)) (i := 3) (v := (.int w3)) (by decide) (by decide) rfl (g := (mkF m 23 #[.val (.ref q1), .val (.long (((((((-3750763034362895579 : Int64) ^^^ ((w0.toInt64) &&& (255 : Int64))) * (1099511628211 : Int64)) ^^^ ((w1.toInt64) &&& (255 : Int64))) * (1099511628211 : Int64)) ^^^ ((w2.toInt64) &&& (255 : Int64))) * (1099511628211 : Int64))), .second, .val (.ref q1), .val (.int 4), .val (.int 3), .val (.int w2)] [(.int 3), (.ref q1)])) rfl rfl (hb hby d_prog_61_2_23) t k) ?_
  show own_Go p e below KK s₁ (mkF m 24 #[.val (.ref q1), .val (.long (((((((-3750763034362895579 : Int64) ^^^ ((w0.toInt64) &&& (255 : Int64))) * (1099511628211 : Int64)) ^^^ ((w1.toInt64) &&& (255 : Int64))) * (1099511628211 : Int64)) ^^^ ((w2.toInt64) &&& (255 : Int64))) * (1099511628211 : Int64))), .second, .val (.ref q1), .val (.int 4), .val (.int 3), .val (.int w2)] [(.int w3)])
  refine own_at (fun t k => XS.istore X0.here hx rfl (hb hby d_prog_61_2_24) rfl (l' := #[.val (.ref q1), .val (.long (((((((-3750763034362895579 : Int64) ^^^ ((w0.toInt64) &&& (255 : Int64))) * (1099511628211 : Int64)) ^^^ ((w1.toInt64) &&& (255 : Int64))) * (1099511628211 : Int64)) ^^^ ((w2.toInt64) &&& (255 : Int64))) * (1099511628211 : Int64))), .second, .val (.ref q1), .val (.int 4), .val (.int 3), .val (.int w3)]) rfl k) ?_
  show own_Go p e below KK s₁ (mkF m 26 #[.val (.ref q1), .val (.long (((((((-3750763034362895579 : Int64) ^^^ ((w0.toInt64) &&& (255 : Int64))) * (1099511628211 : Int64)) ^^^ ((w1.toInt64) &&& (255 : Int64))) * (1099511628211 : Int64)) ^^^ ((w2.toInt64) &&& (255 : Int64))) * (1099511628211 : Int64))), .second, .val (.ref q1), .val (.int 4), .val (.int 3), .val (.int w3)] [])
  refine own_at (fun t k => XS.lloadN X0.here hx rfl (hb hby d_prog_61_2_26) rfl k) ?_
  show own_Go p e below KK s₁ (mkF m 27 #[.val (.ref q1), .val (.long (((((((-3750763034362895579 : Int64) ^^^ ((w0.toInt64) &&& (255 : Int64))) * (1099511628211 : Int64)) ^^^ ((w1.toInt64) &&& (255 : Int64))) * (1099511628211 : Int64)) ^^^ ((w2.toInt64) &&& (255 : Int64))) * (1099511628211 : Int64))), .second, .val (.ref q1), .val (.int 4), .val (.int 3), .val (.int w3)] [(.long (((((((-3750763034362895579 : Int64) ^^^ ((w0.toInt64) &&& (255 : Int64))) * (1099511628211 : Int64)) ^^^ ((w1.toInt64) &&& (255 : Int64))) * (1099511628211 : Int64)) ^^^ ((w2.toInt64) &&& (255 : Int64))) * (1099511628211 : Int64)))])
  refine own_at (fun t k => XS.iload X0.here hx rfl (hb hby d_prog_61_2_27) rfl k) ?_
  show own_Go p e below KK s₁ (mkF m 29 #[.val (.ref q1), .val (.long (((((((-3750763034362895579 : Int64) ^^^ ((w0.toInt64) &&& (255 : Int64))) * (1099511628211 : Int64)) ^^^ ((w1.toInt64) &&& (255 : Int64))) * (1099511628211 : Int64)) ^^^ ((w2.toInt64) &&& (255 : Int64))) * (1099511628211 : Int64))), .second, .val (.ref q1), .val (.int 4), .val (.int 3), .val (.int w3)] [(.int w3), (.long (((((((-3750763034362895579 : Int64) ^^^ ((w0.toInt64) &&& (255 : Int64))) * (1099511628211 : Int64)) ^^^ ((w1.toInt64) &&& (255 : Int64))) * (1099511628211 : Int64)) ^^^ ((w2.toInt64) &&& (255 : Int64))) * (1099511628211 : Int64)))])
  refine own_at (fun t k => XS.i2l X0.here hx rfl (hb hby d_prog_61_2_29) rfl k) ?_
  show own_Go p e below KK s₁ (mkF m 30 #[.val (.ref q1), .val (.long (((((((-3750763034362895579 : Int64) ^^^ ((w0.toInt64) &&& (255 : Int64))) * (1099511628211 : Int64)) ^^^ ((w1.toInt64) &&& (255 : Int64))) * (1099511628211 : Int64)) ^^^ ((w2.toInt64) &&& (255 : Int64))) * (1099511628211 : Int64))), .second, .val (.ref q1), .val (.int 4), .val (.int 3), .val (.int w3)] [(.long (w3.toInt64)), (.long (((((((-3750763034362895579 : Int64) ^^^ ((w0.toInt64) &&& (255 : Int64))) * (1099511628211 : Int64)) ^^^ ((w1.toInt64) &&& (255 : Int64))) * (1099511628211 : Int64)) ^^^ ((w2.toInt64) &&& (255 : Int64))) * (1099511628211 : Int64)))])
  refine own_at (fun t k => X0.ldc2Long hx hown (mvT hZ (hw _ (List.mem_of_getElem? (i := 11) rfl))) (g := (mkF m 30 #[.val (.ref q1), .val (.long (((((((-3750763034362895579 : Int64) ^^^ ((w0.toInt64) &&& (255 : Int64))) * (1099511628211 : Int64)) ^^^ ((w1.toInt64) &&& (255 : Int64))) * (1099511628211 : Int64)) ^^^ ((w2.toInt64) &&& (255 : Int64))) * (1099511628211 : Int64))), .second, .val (.ref q1), .val (.int 4), .val (.int 3), .val (.int w3)] [(.long (w3.toInt64)), (.long (((((((-3750763034362895579 : Int64) ^^^ ((w0.toInt64) &&& (255 : Int64))) * (1099511628211 : Int64)) ^^^ ((w1.toInt64) &&& (255 : Int64))) * (1099511628211 : Int64)) ^^^ ((w2.toInt64) &&& (255 : Int64))) * (1099511628211 : Int64)))])) rfl (hb hby d_prog_61_2_30) t k) ?_
  show own_Go p e below KK s₁ (mkF m 33 #[.val (.ref q1), .val (.long (((((((-3750763034362895579 : Int64) ^^^ ((w0.toInt64) &&& (255 : Int64))) * (1099511628211 : Int64)) ^^^ ((w1.toInt64) &&& (255 : Int64))) * (1099511628211 : Int64)) ^^^ ((w2.toInt64) &&& (255 : Int64))) * (1099511628211 : Int64))), .second, .val (.ref q1), .val (.int 4), .val (.int 3), .val (.int w3)] [(.long 255), (.long (w3.toInt64)), (.long (((((((-3750763034362895579 : Int64) ^^^ ((w0.toInt64) &&& (255 : Int64))) * (1099511628211 : Int64)) ^^^ ((w1.toInt64) &&& (255 : Int64))) * (1099511628211 : Int64)) ^^^ ((w2.toInt64) &&& (255 : Int64))) * (1099511628211 : Int64)))])
  refine own_at (fun t k => XS.land X0.here hx rfl (hb hby d_prog_61_2_33) rfl k) ?_
  show own_Go p e below KK s₁ (mkF m 34 #[.val (.ref q1), .val (.long (((((((-3750763034362895579 : Int64) ^^^ ((w0.toInt64) &&& (255 : Int64))) * (1099511628211 : Int64)) ^^^ ((w1.toInt64) &&& (255 : Int64))) * (1099511628211 : Int64)) ^^^ ((w2.toInt64) &&& (255 : Int64))) * (1099511628211 : Int64))), .second, .val (.ref q1), .val (.int 4), .val (.int 3), .val (.int w3)] [(.long ((w3.toInt64) &&& (255 : Int64))), (.long (((((((-3750763034362895579 : Int64) ^^^ ((w0.toInt64) &&& (255 : Int64))) * (1099511628211 : Int64)) ^^^ ((w1.toInt64) &&& (255 : Int64))) * (1099511628211 : Int64)) ^^^ ((w2.toInt64) &&& (255 : Int64))) * (1099511628211 : Int64)))])
  refine own_at (fun t k => XS.lxor X0.here hx rfl (hb hby d_prog_61_2_34) rfl k) ?_
  show own_Go p e below KK s₁ (mkF m 35 #[.val (.ref q1), .val (.long (((((((-3750763034362895579 : Int64) ^^^ ((w0.toInt64) &&& (255 : Int64))) * (1099511628211 : Int64)) ^^^ ((w1.toInt64) &&& (255 : Int64))) * (1099511628211 : Int64)) ^^^ ((w2.toInt64) &&& (255 : Int64))) * (1099511628211 : Int64))), .second, .val (.ref q1), .val (.int 4), .val (.int 3), .val (.int w3)] [(.long ((((((((-3750763034362895579 : Int64) ^^^ ((w0.toInt64) &&& (255 : Int64))) * (1099511628211 : Int64)) ^^^ ((w1.toInt64) &&& (255 : Int64))) * (1099511628211 : Int64)) ^^^ ((w2.toInt64) &&& (255 : Int64))) * (1099511628211 : Int64)) ^^^ ((w3.toInt64) &&& (255 : Int64))))])
  refine own_at (fun t k => X0.ldc2Long hx hown (mvT hZ (hw _ (List.mem_of_getElem? (i := 12) rfl))) (g := (mkF m 35 #[.val (.ref q1), .val (.long (((((((-3750763034362895579 : Int64) ^^^ ((w0.toInt64) &&& (255 : Int64))) * (1099511628211 : Int64)) ^^^ ((w1.toInt64) &&& (255 : Int64))) * (1099511628211 : Int64)) ^^^ ((w2.toInt64) &&& (255 : Int64))) * (1099511628211 : Int64))), .second, .val (.ref q1), .val (.int 4), .val (.int 3), .val (.int w3)] [(.long ((((((((-3750763034362895579 : Int64) ^^^ ((w0.toInt64) &&& (255 : Int64))) * (1099511628211 : Int64)) ^^^ ((w1.toInt64) &&& (255 : Int64))) * (1099511628211 : Int64)) ^^^ ((w2.toInt64) &&& (255 : Int64))) * (1099511628211 : Int64)) ^^^ ((w3.toInt64) &&& (255 : Int64))))])) rfl (hb hby d_prog_61_2_35) t k) ?_
  show own_Go p e below KK s₁ (mkF m 38 #[.val (.ref q1), .val (.long (((((((-3750763034362895579 : Int64) ^^^ ((w0.toInt64) &&& (255 : Int64))) * (1099511628211 : Int64)) ^^^ ((w1.toInt64) &&& (255 : Int64))) * (1099511628211 : Int64)) ^^^ ((w2.toInt64) &&& (255 : Int64))) * (1099511628211 : Int64))), .second, .val (.ref q1), .val (.int 4), .val (.int 3), .val (.int w3)] [(.long 1099511628211), (.long ((((((((-3750763034362895579 : Int64) ^^^ ((w0.toInt64) &&& (255 : Int64))) * (1099511628211 : Int64)) ^^^ ((w1.toInt64) &&& (255 : Int64))) * (1099511628211 : Int64)) ^^^ ((w2.toInt64) &&& (255 : Int64))) * (1099511628211 : Int64)) ^^^ ((w3.toInt64) &&& (255 : Int64))))])
  refine own_at (fun t k => XS.lmul X0.here hx rfl (hb hby d_prog_61_2_38) rfl k) ?_
  show own_Go p e below KK s₁ (mkF m 39 #[.val (.ref q1), .val (.long (((((((-3750763034362895579 : Int64) ^^^ ((w0.toInt64) &&& (255 : Int64))) * (1099511628211 : Int64)) ^^^ ((w1.toInt64) &&& (255 : Int64))) * (1099511628211 : Int64)) ^^^ ((w2.toInt64) &&& (255 : Int64))) * (1099511628211 : Int64))), .second, .val (.ref q1), .val (.int 4), .val (.int 3), .val (.int w3)] [(.long (((((((((-3750763034362895579 : Int64) ^^^ ((w0.toInt64) &&& (255 : Int64))) * (1099511628211 : Int64)) ^^^ ((w1.toInt64) &&& (255 : Int64))) * (1099511628211 : Int64)) ^^^ ((w2.toInt64) &&& (255 : Int64))) * (1099511628211 : Int64)) ^^^ ((w3.toInt64) &&& (255 : Int64))) * (1099511628211 : Int64)))])
  refine own_at (fun t k => XS.lstoreN X0.here hx rfl (hb hby d_prog_61_2_39) rfl (l' := #[.val (.ref q1), .val (.long (((((((((-3750763034362895579 : Int64) ^^^ ((w0.toInt64) &&& (255 : Int64))) * (1099511628211 : Int64)) ^^^ ((w1.toInt64) &&& (255 : Int64))) * (1099511628211 : Int64)) ^^^ ((w2.toInt64) &&& (255 : Int64))) * (1099511628211 : Int64)) ^^^ ((w3.toInt64) &&& (255 : Int64))) * (1099511628211 : Int64))), .second, .val (.ref q1), .val (.int 4), .val (.int 3), .val (.int w3)]) rfl k) ?_
  show own_Go p e below KK s₁ (mkF m 40 #[.val (.ref q1), .val (.long (((((((((-3750763034362895579 : Int64) ^^^ ((w0.toInt64) &&& (255 : Int64))) * (1099511628211 : Int64)) ^^^ ((w1.toInt64) &&& (255 : Int64))) * (1099511628211 : Int64)) ^^^ ((w2.toInt64) &&& (255 : Int64))) * (1099511628211 : Int64)) ^^^ ((w3.toInt64) &&& (255 : Int64))) * (1099511628211 : Int64))), .second, .val (.ref q1), .val (.int 4), .val (.int 3), .val (.int w3)] [])
  refine own_at (fun t k => XS.iinc X0.here hx rfl (hb hby d_prog_61_2_40) rfl (l' := #[.val (.ref q1), .val (.long (((((((((-3750763034362895579 : Int64) ^^^ ((w0.toInt64) &&& (255 : Int64))) * (1099511628211 : Int64)) ^^^ ((w1.toInt64) &&& (255 : Int64))) * (1099511628211 : Int64)) ^^^ ((w2.toInt64) &&& (255 : Int64))) * (1099511628211 : Int64)) ^^^ ((w3.toInt64) &&& (255 : Int64))) * (1099511628211 : Int64))), .second, .val (.ref q1), .val (.int 4), .val (.int ((3 : Int32) + (1 : Int32))), .val (.int w3)]) rfl k) ?_
  show own_Go p e below KK s₁ (mkF m 43 #[.val (.ref q1), .val (.long (((((((((-3750763034362895579 : Int64) ^^^ ((w0.toInt64) &&& (255 : Int64))) * (1099511628211 : Int64)) ^^^ ((w1.toInt64) &&& (255 : Int64))) * (1099511628211 : Int64)) ^^^ ((w2.toInt64) &&& (255 : Int64))) * (1099511628211 : Int64)) ^^^ ((w3.toInt64) &&& (255 : Int64))) * (1099511628211 : Int64))), .second, .val (.ref q1), .val (.int 4), .val (.int ((3 : Int32) + (1 : Int32))), .val (.int w3)] [])
  rw [show ((3 : Int32) + (1 : Int32)) = (4 : Int32) from by decide]
  show own_Go p e below KK s₁ (mkF m 43 #[.val (.ref q1), .val (.long (((((((((-3750763034362895579 : Int64) ^^^ ((w0.toInt64) &&& (255 : Int64))) * (1099511628211 : Int64)) ^^^ ((w1.toInt64) &&& (255 : Int64))) * (1099511628211 : Int64)) ^^^ ((w2.toInt64) &&& (255 : Int64))) * (1099511628211 : Int64)) ^^^ ((w3.toInt64) &&& (255 : Int64))) * (1099511628211 : Int64))), .second, .val (.ref q1), .val (.int 4), .val (.int 4), .val (.int w3)] [])
  refine own_at (fun t k => XS.goto X0.here hx rfl (pc0 := 43) (pc' := 13) rfl (hb hby d_prog_61_2_43) (by decide) (by decide) k) ?_
  show own_Go p e below KK s₁ (mkF m 13 #[.val (.ref q1), .val (.long (((((((((-3750763034362895579 : Int64) ^^^ ((w0.toInt64) &&& (255 : Int64))) * (1099511628211 : Int64)) ^^^ ((w1.toInt64) &&& (255 : Int64))) * (1099511628211 : Int64)) ^^^ ((w2.toInt64) &&& (255 : Int64))) * (1099511628211 : Int64)) ^^^ ((w3.toInt64) &&& (255 : Int64))) * (1099511628211 : Int64))), .second, .val (.ref q1), .val (.int 4), .val (.int 4), .val (.int w3)] [])
  refine own_at (fun t k => XS.iload X0.here hx rfl (hb hby d_prog_61_2_13) rfl k) ?_
  show own_Go p e below KK s₁ (mkF m 15 #[.val (.ref q1), .val (.long (((((((((-3750763034362895579 : Int64) ^^^ ((w0.toInt64) &&& (255 : Int64))) * (1099511628211 : Int64)) ^^^ ((w1.toInt64) &&& (255 : Int64))) * (1099511628211 : Int64)) ^^^ ((w2.toInt64) &&& (255 : Int64))) * (1099511628211 : Int64)) ^^^ ((w3.toInt64) &&& (255 : Int64))) * (1099511628211 : Int64))), .second, .val (.ref q1), .val (.int 4), .val (.int 4), .val (.int w3)] [(.int 4)])
  refine own_at (fun t k => XS.iload X0.here hx rfl (hb hby d_prog_61_2_15) rfl k) ?_
  show own_Go p e below KK s₁ (mkF m 17 #[.val (.ref q1), .val (.long (((((((((-3750763034362895579 : Int64) ^^^ ((w0.toInt64) &&& (255 : Int64))) * (1099511628211 : Int64)) ^^^ ((w1.toInt64) &&& (255 : Int64))) * (1099511628211 : Int64)) ^^^ ((w2.toInt64) &&& (255 : Int64))) * (1099511628211 : Int64)) ^^^ ((w3.toInt64) &&& (255 : Int64))) * (1099511628211 : Int64))), .second, .val (.ref q1), .val (.int 4), .val (.int 4), .val (.int w3)] [(.int 4), (.int 4)])
  have hc17_4 : ¬ ((4 : Int32) < (4 : Int32)) := by decide
  refine own_at (fun t k => XS.icmpYes X0.here hx rfl (pc0 := 17) (pc' := 46) rfl (hb hby d_prog_61_2_17) rfl (Jvm.Free.XT.ii_ge_t hc17_4) (by decide) (by decide) k) ?_
  show own_Go p e below KK s₁ (mkF m 46 #[.val (.ref q1), .val (.long (((((((((-3750763034362895579 : Int64) ^^^ ((w0.toInt64) &&& (255 : Int64))) * (1099511628211 : Int64)) ^^^ ((w1.toInt64) &&& (255 : Int64))) * (1099511628211 : Int64)) ^^^ ((w2.toInt64) &&& (255 : Int64))) * (1099511628211 : Int64)) ^^^ ((w3.toInt64) &&& (255 : Int64))) * (1099511628211 : Int64))), .second, .val (.ref q1), .val (.int 4), .val (.int 4), .val (.int w3)] [])
  refine own_at (fun t k => XS.lloadN X0.here hx rfl (hb hby d_prog_61_2_46) rfl k) ?_
  show own_Go p e below KK s₁ (mkF m 47 #[.val (.ref q1), .val (.long (((((((((-3750763034362895579 : Int64) ^^^ ((w0.toInt64) &&& (255 : Int64))) * (1099511628211 : Int64)) ^^^ ((w1.toInt64) &&& (255 : Int64))) * (1099511628211 : Int64)) ^^^ ((w2.toInt64) &&& (255 : Int64))) * (1099511628211 : Int64)) ^^^ ((w3.toInt64) &&& (255 : Int64))) * (1099511628211 : Int64))), .second, .val (.ref q1), .val (.int 4), .val (.int 4), .val (.int w3)] [(.long (((((((((-3750763034362895579 : Int64) ^^^ ((w0.toInt64) &&& (255 : Int64))) * (1099511628211 : Int64)) ^^^ ((w1.toInt64) &&& (255 : Int64))) * (1099511628211 : Int64)) ^^^ ((w2.toInt64) &&& (255 : Int64))) * (1099511628211 : Int64)) ^^^ ((w3.toInt64) &&& (255 : Int64))) * (1099511628211 : Int64)))])
  subst hKK
  exact own_retJ X0 hx hlk Bd.returns (hb hby d_prog_61_2_47) (w := (own_h [w0, w1, w2, w3])) (show (((((((((-3750763034362895579 : Int64) ^^^ ((w0.toInt64) &&& (255 : Int64))) * (1099511628211 : Int64)) ^^^ ((w1.toInt64) &&& (255 : Int64))) * (1099511628211 : Int64)) ^^^ ((w2.toInt64) &&& (255 : Int64))) * (1099511628211 : Int64)) ^^^ ((w3.toInt64) &&& (255 : Int64))) * (1099511628211 : Int64)) = (own_h [w0, w1, w2, w3]) from rfl) ⟨rfl, N0, e0⟩ (Nat.le_of_ble_eq_true rfl) (Nat.le_of_ble_eq_true rfl)
theorem own_lI0 : (0 : Int32).toInt = 0 := rfl
theorem own_lI1 : (1 : Int32).toInt = 1 := rfl
theorem own_lI2 : (2 : Int32).toInt = 2 := rfl
theorem own_lI3 : (3 : Int32).toInt = 3 := rfl
theorem own_cases {x n : Int32} (h : n = (x &&& (3 : Int32))) : n = (0 : Int32) ∨ n = (1 : Int32) ∨ n = (2 : Int32) ∨ n = (3 : Int32) := by
  have h1 := c_and x 3 (by decide)
  rw [← h] at h1
  simp only [← Int32.toInt_inj, own_lI0, own_lI1, own_lI2, own_lI3] at *
  omega
theorem ef_law (m : MethodId) (x0 : Int32) (x1 : Int32) (x2 : Int32) (x3 : Int32) (x4 : Int32) : entryFrame m #[(.int x0), (.int x1), (.int x2), (.int x3), (.int x4)] maxLocals = mkF m 0 #[.val (.int x0), .val (.int x1), .val (.int x2), .val (.int x3), .val (.int x4), .unset, .unset, .unset, .unset, .unset, .unset, .unset, .unset, .unset, .unset, .unset, .unset, .unset, .unset] [] := by first | (simp [entryFrame, mkF, argsToLocals, Value.category, maxLocals]; done) | rfl
theorem pd__IIIII__B : parseMethodDescriptor "(IIIII)[B" = some ⟨[.int, .int, .int, .int, .int], some (.array .byte)⟩ := by decide +kernel
theorem pd___B_J : parseMethodDescriptor "([B)J" = some ⟨[(.array .byte)], some .long⟩ := by decide +kernel
def own_Q (n0 : Nat) (v : Option Value) (h : Heap) (L : List Loc) : Prop := v = some (.int 1) ∧ Fr n0 L
set_option maxRecDepth 65536 in
set_option maxHeartbeats 40000000 in
theorem rm_law (l : Launch) (Z : State) (a0 : Array Value) (hw : ∀ d ∈ tables_1, d.before a0 Z = true) (ws : List Jvm.Cond) (p1 : Int32) (p2 : Int32) (p3 : Int32) (p4 : Int32) (p5 : Int32)  (h0 : Heap) (n0 : Nat) (Z0 : n0 ≤ h0.size)  :
    MetFree l x (head1 (Jvm.Cond.code x code maxLocals ret :: ws) room_1) (fun a U => a = #[(.int p1), (.int p2), (.int p3), (.int p4), (.int p5)] ∧ Z.Warmed39 U.vm ∧ U.heap = h0) (fun _ _ _ _ _ => True) (fun _ U o U' => ∃ v L, o = .returned v ∧ own_Q n0 v U'.heap L ∧ FrameEnd U o U' L room_1.cells room_1.slots) := by
  refine MetFree.of_bodySF (plainFor_of_name pn_com_example_wirecall_wirecall_wire_Fnv1aHash64PinLaw) hisR ?_
  intro p e s m args below meth c s₁ Bd hml0 hP hK
  obtain ⟨rfl, hZ, hh⟩ := hP
  have hx := Bd.exec
  have hby := Bd.bytes
  have hlk : meth.locks = false := BodyLoose.notSynchronized Bd
  have hml : c.maxLocals = 19 := hml0
  have hown : s.vm.findClass "com/example/wirecall/wirecall/wire/Fnv1aHash64PinLaw" = some m.cls := findClass_of_methodNamed Bd.named
  have hnm := (name_of_methodNamed Bd.named Bd.method).1
  have X0 : Stand p l e room_1 s m #[(.int p1), (.int p2), (.int p3), (.int p4), (.int p5)] below meth c s₁ [] 0 0 := Stand.of_body Bd
  have e0 : s₁.heap = h0 := by rw [← hh, Bd.state]; rfl
  have N0 := Fr.nil n0
  refine own_cast (K := own_K s (own_Q n0) room_1.cells room_1.slots) (ef_law m p1 p2 p3 p4 p5) ?_
  generalize hKK : own_K s (own_Q n0) room_1.cells room_1.slots = KK
  show own_Go p e below KK s₁ (mkF m 0 #[.val (.int p1), .val (.int p2), .val (.int p3), .val (.int p4), .val (.int p5), .unset, .unset, .unset, .unset, .unset, .unset, .unset, .unset, .unset, .unset, .unset, .unset, .unset, .unset] [])
  refine own_at (fun t k => XS.iloadN X0.here hx rfl (hb hby at_0) rfl k) ?_
  show own_Go p e below KK s₁ (mkF m 1 #[.val (.int p1), .val (.int p2), .val (.int p3), .val (.int p4), .val (.int p5), .unset, .unset, .unset, .unset, .unset, .unset, .unset, .unset, .unset, .unset, .unset, .unset, .unset, .unset] [(.int p1)])
  refine own_at (fun t k => XS.iconst X0.here hx rfl (hb hby at_1) k) ?_
  show own_Go p e below KK s₁ (mkF m 2 #[.val (.int p1), .val (.int p2), .val (.int p3), .val (.int p4), .val (.int p5), .unset, .unset, .unset, .unset, .unset, .unset, .unset, .unset, .unset, .unset, .unset, .unset, .unset, .unset] [(.int 3), (.int p1)])
  refine own_at (fun t k => XS.iand X0.here hx rfl (hb hby at_2) rfl k) ?_
  show own_Go p e below KK s₁ (mkF m 3 #[.val (.int p1), .val (.int p2), .val (.int p3), .val (.int p4), .val (.int p5), .unset, .unset, .unset, .unset, .unset, .unset, .unset, .unset, .unset, .unset, .unset, .unset, .unset, .unset] [(.int (p1 &&& (3 : Int32)))])
  obtain ⟨nn, hnn⟩ : ∃ z, z = (p1 &&& (3 : Int32)) := ⟨_, rfl⟩
  rw [← hnn]
  show own_Go p e below KK s₁ (mkF m 3 #[.val (.int p1), .val (.int p2), .val (.int p3), .val (.int p4), .val (.int p5), .unset, .unset, .unset, .unset, .unset, .unset, .unset, .unset, .unset, .unset, .unset, .unset, .unset, .unset] [(.int nn)])
  rcases own_cases hnn with rfl | rfl | rfl | rfl
  · show own_Go p e below KK s₁ (mkF m 3 #[.val (.int p1), .val (.int p2), .val (.int p3), .val (.int p4), .val (.int p5), .unset, .unset, .unset, .unset, .unset, .unset, .unset, .unset, .unset, .unset, .unset, .unset, .unset, .unset] [(.int 0)])
    refine own_at (fun t k => XS.istore X0.here hx rfl (hb hby at_3) rfl (l' := #[.val (.int p1), .val (.int p2), .val (.int p3), .val (.int p4), .val (.int p5), .val (.int 0), .unset, .unset, .unset, .unset, .unset, .unset, .unset, .unset, .unset, .unset, .unset, .unset, .unset]) rfl k) ?_
    show own_Go p e below KK s₁ (mkF m 5 #[.val (.int p1), .val (.int p2), .val (.int p3), .val (.int p4), .val (.int p5), .val (.int 0), .unset, .unset, .unset, .unset, .unset, .unset, .unset, .unset, .unset, .unset, .unset, .unset, .unset] [])
    refine own_at (fun t k => XS.iconst X0.here hx rfl (hb hby at_5) k) ?_
    show own_Go p e below KK s₁ (mkF m 6 #[.val (.int p1), .val (.int p2), .val (.int p3), .val (.int p4), .val (.int p5), .val (.int 0), .unset, .unset, .unset, .unset, .unset, .unset, .unset, .unset, .unset, .unset, .unset, .unset, .unset] [(.int 0)])
    obtain ⟨T1, h1, X1, e1, E1, V1, st1⟩ := own_newA X0 hx hZ (hw _ (List.mem_of_getElem? (i := 0) rfl)) e0 (g := (mkF m 6 #[.val (.int p1), .val (.int p2), .val (.int p3), .val (.int p4), .val (.int p5), .val (.int 0), .unset, .unset, .unset, .unset, .unset, .unset, .unset, .unset, .unset, .unset, .unset, .unset, .unset] [(.int 0)])) rfl (hb hby at_6) rfl (by decide) (N := 0) (by decide) (cap := 0) (by decide) (by decide) (by decide) (by decide) (d := "[B") (by first | rfl | decide +kernel) (vs := []) rfl
    obtain ⟨b1, g1⟩ : ∃ z, z = h0.size := ⟨_, rfl⟩
    rw [← g1] at V1 st1
    have g_b1 : n0 ≤ b1 := by rw [g1]; exact Z0
    have Zs1 : n0 ≤ h1.size := Nat.le_trans Z0 E1.1
    have A2_b1 : own_A Z h1 b1 "[B" .byte [] := V1
    refine own_of (fun t k => st1 t k) ?_
    show own_Go p e below KK T1 (mkF m 8 #[.val (.int p1), .val (.int p2), .val (.int p3), .val (.int p4), .val (.int p5), .val (.int 0), .unset, .unset, .unset, .unset, .unset, .unset, .unset, .unset, .unset, .unset, .unset, .unset, .unset] [(.ref b1)])
    refine own_at (fun t k => XS.astore X1.here hx rfl (hb hby at_8) rfl rfl (l' := #[.val (.int p1), .val (.int p2), .val (.int p3), .val (.int p4), .val (.int p5), .val (.int 0), .val (.ref b1), .unset, .unset, .unset, .unset, .unset, .unset, .unset, .unset, .unset, .unset, .unset, .unset]) rfl k) ?_
    show own_Go p e below KK T1 (mkF m 10 #[.val (.int p1), .val (.int p2), .val (.int p3), .val (.int p4), .val (.int p5), .val (.int 0), .val (.ref b1), .unset, .unset, .unset, .unset, .unset, .unset, .unset, .unset, .unset, .unset, .unset, .unset] [])
    refine own_at (fun t k => XS.iload X1.here hx rfl (hb hby at_10) rfl k) ?_
    show own_Go p e below KK T1 (mkF m 12 #[.val (.int p1), .val (.int p2), .val (.int p3), .val (.int p4), .val (.int p5), .val (.int 0), .val (.ref b1), .unset, .unset, .unset, .unset, .unset, .unset, .unset, .unset, .unset, .unset, .unset, .unset] [(.int 0)])
    refine own_at (fun t k => XS.iloadN X1.here hx rfl (hb hby at_12) rfl k) ?_
    show own_Go p e below KK T1 (mkF m 13 #[.val (.int p1), .val (.int p2), .val (.int p3), .val (.int p4), .val (.int p5), .val (.int 0), .val (.ref b1), .unset, .unset, .unset, .unset, .unset, .unset, .unset, .unset, .unset, .unset, .unset, .unset] [(.int p2), (.int 0)])
    refine own_at (fun t k => XS.iloadN X1.here hx rfl (hb hby at_13) rfl k) ?_
    show own_Go p e below KK T1 (mkF m 14 #[.val (.int p1), .val (.int p2), .val (.int p3), .val (.int p4), .val (.int p5), .val (.int 0), .val (.ref b1), .unset, .unset, .unset, .unset, .unset, .unset, .unset, .unset, .unset, .unset, .unset, .unset] [(.int p3), (.int p2), (.int 0)])
    refine own_at (fun t k => XS.iloadN X1.here hx rfl (hb hby at_14) rfl k) ?_
    show own_Go p e below KK T1 (mkF m 15 #[.val (.int p1), .val (.int p2), .val (.int p3), .val (.int p4), .val (.int p5), .val (.int 0), .val (.ref b1), .unset, .unset, .unset, .unset, .unset, .unset, .unset, .unset, .unset, .unset, .unset, .unset] [(.int p4), (.int p3), (.int p2), (.int 0)])
    refine own_at (fun t k => XS.iload X1.here hx rfl (hb hby at_15) rfl k) ?_
    show own_Go p e below KK T1 (mkF m 17 #[.val (.int p1), .val (.int p2), .val (.int p3), .val (.int p4), .val (.int p5), .val (.int 0), .val (.ref b1), .unset, .unset, .unset, .unset, .unset, .unset, .unset, .unset, .unset, .unset, .unset, .unset] [(.int p5), (.int p4), (.int p3), (.int p2), (.int 0)])
    obtain ⟨_, _, ⟨T3, L3, k3, n3⟩, -, X3, ⟨Lc3, hQ3, l3, y3, z3⟩, st3⟩ := Jvm.LawKit.callS X1 hx (y := (⟨"com/example/wirecall/wirecall/wire/Fnv1aHash64PinLaw", "fill", "(IIIII)[B"⟩ : MethodName)) hown (mvT hZ (hw _ (List.mem_of_getElem? (i := 1) rfl))) (mvT hZ (hw _ (List.mem_of_getElem? (i := 2) rfl))) (mvT hZ (hw _ (List.mem_of_getElem? (i := 3) rfl))) (mvT hZ (hw _ (List.mem_of_getElem? (i := 4) rfl))) (by decide) (backOf (W := 0) (rm_fill0 l Z a0 hw [] p2 p3 p4 p5  h1 n0 Zs1 ) hZ (hw _ (List.mem_of_getElem? (i := 4) rfl)) (hw _ (List.mem_of_getElem? (i := 3) rfl)) (by decide) (by decide)) (g := (mkF m 17 #[.val (.int p1), .val (.int p2), .val (.int p3), .val (.int p4), .val (.int p5), .val (.int 0), .val (.ref b1), .unset, .unset, .unset, .unset, .unset, .unset, .unset, .unset, .unset, .unset, .unset, .unset] [(.int p5), (.int p4), (.int p3), (.int p2), (.int 0)])) rfl (by rw [hml]; rfl) (argsL := [(.int 0), (.int p2), (.int p3), (.int p4), (.int p5)]) (rest := []) (lenOf pd__IIIII__B rfl) rfl (by show 2 * 0 + _ ≤ _; exact Nat.le_of_eq rfl) (hb hby at_17) (fun _ _ => ⟨rfl, e1, (by decide : 1 + 1 ≤ _), (by decide : 0 + 0 ≤ _)⟩)
    dsimp only [Pt.U, Pt.locs, Pt.cells, Pt.slots] at X3 l3 y3 z3 st3 hQ3
    subst l3 y3 z3
    obtain ⟨r3, rfl, N3q, K3, g_r3, s_r3, Aq3⟩ := hQ3
    have ne_b1_r3 : b1 ≠ r3 := Nat.ne_of_lt (Nat.lt_of_lt_of_le A2_b1.lt s_r3)
    have A2_b1_h3 : own_A Z T3.heap b1 "[B" .byte [] := A2_b1.keep K3 nin0
    have Zs3 : n0 ≤ T3.heap.size := Nat.le_trans Zs1 K3.1
    have A4_r3 : own_A Z T3.heap r3 "[B" .byte [] := Aq3
    have N3 := Fr.app N0 N3q
    refine own_of (fun t k => st3 t k) ?_
    show own_Go p e below KK T3 (mkF m 20 #[.val (.int p1), .val (.int p2), .val (.int p3), .val (.int p4), .val (.int p5), .val (.int 0), .val (.ref b1), .unset, .unset, .unset, .unset, .unset, .unset, .unset, .unset, .unset, .unset, .unset, .unset] [(.ref r3)])
    refine own_at (fun t k => XS.astore X3.here hx rfl (hb hby at_20) rfl rfl (l' := #[.val (.int p1), .val (.int p2), .val (.int p3), .val (.int p4), .val (.int p5), .val (.int 0), .val (.ref b1), .val (.ref r3), .unset, .unset, .unset, .unset, .unset, .unset, .unset, .unset, .unset, .unset, .unset]) rfl k) ?_
    show own_Go p e below KK T3 (mkF m 22 #[.val (.int p1), .val (.int p2), .val (.int p3), .val (.int p4), .val (.int p5), .val (.int 0), .val (.ref b1), .val (.ref r3), .unset, .unset, .unset, .unset, .unset, .unset, .unset, .unset, .unset, .unset, .unset] [])
    refine own_at (fun t k => XS.iload X3.here hx rfl (hb hby at_22) rfl k) ?_
    show own_Go p e below KK T3 (mkF m 24 #[.val (.int p1), .val (.int p2), .val (.int p3), .val (.int p4), .val (.int p5), .val (.int 0), .val (.ref b1), .val (.ref r3), .unset, .unset, .unset, .unset, .unset, .unset, .unset, .unset, .unset, .unset, .unset] [(.int 0)])
    refine own_at (fun t k => XS.iconst X3.here hx rfl (hb hby at_24) k) ?_
    show own_Go p e below KK T3 (mkF m 25 #[.val (.int p1), .val (.int p2), .val (.int p3), .val (.int p4), .val (.int p5), .val (.int 0), .val (.ref b1), .val (.ref r3), .unset, .unset, .unset, .unset, .unset, .unset, .unset, .unset, .unset, .unset, .unset] [(.int 1), (.int 0)])
    refine own_at (fun t k => XS.iadd X3.here hx rfl (hb hby at_25) rfl k) ?_
    show own_Go p e below KK T3 (mkF m 26 #[.val (.int p1), .val (.int p2), .val (.int p3), .val (.int p4), .val (.int p5), .val (.int 0), .val (.ref b1), .val (.ref r3), .unset, .unset, .unset, .unset, .unset, .unset, .unset, .unset, .unset, .unset, .unset] [(.int ((0 : Int32) + (1 : Int32)))])
    rw [show ((0 : Int32) + (1 : Int32)) = (1 : Int32) from by decide]
    show own_Go p e below KK T3 (mkF m 26 #[.val (.int p1), .val (.int p2), .val (.int p3), .val (.int p4), .val (.int p5), .val (.int 0), .val (.ref b1), .val (.ref r3), .unset, .unset, .unset, .unset, .unset, .unset, .unset, .unset, .unset, .unset, .unset] [(.int 1)])
    refine own_at (fun t k => XS.iloadN X3.here hx rfl (hb hby at_26) rfl k) ?_
    show own_Go p e below KK T3 (mkF m 27 #[.val (.int p1), .val (.int p2), .val (.int p3), .val (.int p4), .val (.int p5), .val (.int 0), .val (.ref b1), .val (.ref r3), .unset, .unset, .unset, .unset, .unset, .unset, .unset, .unset, .unset, .unset, .unset] [(.int p2), (.int 1)])
    refine own_at (fun t k => XS.iloadN X3.here hx rfl (hb hby at_27) rfl k) ?_
    show own_Go p e below KK T3 (mkF m 28 #[.val (.int p1), .val (.int p2), .val (.int p3), .val (.int p4), .val (.int p5), .val (.int 0), .val (.ref b1), .val (.ref r3), .unset, .unset, .unset, .unset, .unset, .unset, .unset, .unset, .unset, .unset, .unset] [(.int p3), (.int p2), (.int 1)])
    refine own_at (fun t k => XS.iloadN X3.here hx rfl (hb hby at_28) rfl k) ?_
    show own_Go p e below KK T3 (mkF m 29 #[.val (.int p1), .val (.int p2), .val (.int p3), .val (.int p4), .val (.int p5), .val (.int 0), .val (.ref b1), .val (.ref r3), .unset, .unset, .unset, .unset, .unset, .unset, .unset, .unset, .unset, .unset, .unset] [(.int p4), (.int p3), (.int p2), (.int 1)])
    refine own_at (fun t k => XS.iload X3.here hx rfl (hb hby at_29) rfl k) ?_
    show own_Go p e below KK T3 (mkF m 31 #[.val (.int p1), .val (.int p2), .val (.int p3), .val (.int p4), .val (.int p5), .val (.int 0), .val (.ref b1), .val (.ref r3), .unset, .unset, .unset, .unset, .unset, .unset, .unset, .unset, .unset, .unset, .unset] [(.int p5), (.int p4), (.int p3), (.int p2), (.int 1)])
    obtain ⟨_, _, ⟨T5, L5, k5, n5⟩, -, X5, ⟨Lc5, hQ5, l5, y5, z5⟩, st5⟩ := Jvm.LawKit.callS X3 hx (y := (⟨"com/example/wirecall/wirecall/wire/Fnv1aHash64PinLaw", "fill", "(IIIII)[B"⟩ : MethodName)) hown (mvT hZ (hw _ (List.mem_of_getElem? (i := 1) rfl))) (mvT hZ (hw _ (List.mem_of_getElem? (i := 2) rfl))) (mvT hZ (hw _ (List.mem_of_getElem? (i := 3) rfl))) (mvT hZ (hw _ (List.mem_of_getElem? (i := 4) rfl))) (by decide) (backOf (W := 0) (rm_fill1 l Z a0 hw [] p2 p3 p4 p5  T3.heap n0 Zs3 ) hZ (hw _ (List.mem_of_getElem? (i := 4) rfl)) (hw _ (List.mem_of_getElem? (i := 3) rfl)) (by decide) (by decide)) (g := (mkF m 31 #[.val (.int p1), .val (.int p2), .val (.int p3), .val (.int p4), .val (.int p5), .val (.int 0), .val (.ref b1), .val (.ref r3), .unset, .unset, .unset, .unset, .unset, .unset, .unset, .unset, .unset, .unset, .unset] [(.int p5), (.int p4), (.int p3), (.int p2), (.int 1)])) rfl (by rw [hml]; rfl) (argsL := [(.int 1), (.int p2), (.int p3), (.int p4), (.int p5)]) (rest := []) (lenOf pd__IIIII__B rfl) rfl (by show 2 * 0 + _ ≤ _; exact Nat.le_of_eq rfl) (hb hby at_31) (fun _ _ => ⟨rfl, rfl, (by decide : 2 + 1 ≤ _), (by decide : 0 + 1 ≤ _)⟩)
    dsimp only [Pt.U, Pt.locs, Pt.cells, Pt.slots] at X5 l5 y5 z5 st5 hQ5
    subst l5 y5 z5
    obtain ⟨r5, rfl, N5q, K5, g_r5, s_r5, Aq5⟩ := hQ5
    have ne_b1_r5 : b1 ≠ r5 := Nat.ne_of_lt (Nat.lt_of_lt_of_le A2_b1_h3.lt s_r5)
    have ne_r3_r5 : r3 ≠ r5 := Nat.ne_of_lt (Nat.lt_of_lt_of_le A4_r3.lt s_r5)
    have A2_b1_h5 : own_A Z T5.heap b1 "[B" .byte [] := A2_b1_h3.keep K5 nin0
    have A4_r3_h5 : own_A Z T5.heap r3 "[B" .byte [] := A4_r3.keep K5 nin0
    have Zs5 : n0 ≤ T5.heap.size := Nat.le_trans Zs3 K5.1
    have A6_r5 : own_A Z T5.heap r5 "[B" .byte [(.int (p2.toInt8.toInt32))] := Aq5
    have N5 := Fr.app N3 N5q
    refine own_of (fun t k => st5 t k) ?_
    show own_Go p e below KK T5 (mkF m 34 #[.val (.int p1), .val (.int p2), .val (.int p3), .val (.int p4), .val (.int p5), .val (.int 0), .val (.ref b1), .val (.ref r3), .unset, .unset, .unset, .unset, .unset, .unset, .unset, .unset, .unset, .unset, .unset] [(.ref r5)])
    refine own_at (fun t k => XS.astore X5.here hx rfl (hb hby at_34) rfl rfl (l' := #[.val (.int p1), .val (.int p2), .val (.int p3), .val (.int p4), .val (.int p5), .val (.int 0), .val (.ref b1), .val (.ref r3), .val (.ref r5), .unset, .unset, .unset, .unset, .unset, .unset, .unset, .unset, .unset, .unset]) rfl k) ?_
    show own_Go p e below KK T5 (mkF m 36 #[.val (.int p1), .val (.int p2), .val (.int p3), .val (.int p4), .val (.int p5), .val (.int 0), .val (.ref b1), .val (.ref r3), .val (.ref r5), .unset, .unset, .unset, .unset, .unset, .unset, .unset, .unset, .unset, .unset] [])
    refine own_at (fun t k => XS.aload X5.here hx rfl (hb hby at_36) rfl rfl k) ?_
    show own_Go p e below KK T5 (mkF m 38 #[.val (.int p1), .val (.int p2), .val (.int p3), .val (.int p4), .val (.int p5), .val (.int 0), .val (.ref b1), .val (.ref r3), .val (.ref r5), .unset, .unset, .unset, .unset, .unset, .unset, .unset, .unset, .unset, .unset] [(.ref r5)])
    refine own_at (fun t k => XS.iload X5.here hx rfl (hb hby at_38) rfl k) ?_
    show own_Go p e below KK T5 (mkF m 40 #[.val (.int p1), .val (.int p2), .val (.int p3), .val (.int p4), .val (.int p5), .val (.int 0), .val (.ref b1), .val (.ref r3), .val (.ref r5), .unset, .unset, .unset, .unset, .unset, .unset, .unset, .unset, .unset, .unset] [(.int 0), (.ref r5)])
    refine own_at (fun t k => own_ldB X5 hx hZ rfl A6_r5 (j := (0 : Int32)) (i := 0) (v := (.int (p2.toInt8.toInt32))) (by decide) (by decide) rfl (g := (mkF m 40 #[.val (.int p1), .val (.int p2), .val (.int p3), .val (.int p4), .val (.int p5), .val (.int 0), .val (.ref b1), .val (.ref r3), .val (.ref r5), .unset, .unset, .unset, .unset, .unset, .unset, .unset, .unset, .unset, .unset] [(.int 0), (.ref r5)])) rfl rfl (hb hby at_40) t k) ?_
    show own_Go p e below KK T5 (mkF m 41 #[.val (.int p1), .val (.int p2), .val (.int p3), .val (.int p4), .val (.int p5), .val (.int 0), .val (.ref b1), .val (.ref r3), .val (.ref r5), .unset, .unset, .unset, .unset, .unset, .unset, .unset, .unset, .unset, .unset] [(.int (p2.toInt8.toInt32))])
    refine own_at (fun t k => XS.i2l X5.here hx rfl (hb hby at_41) rfl k) ?_
    show own_Go p e below KK T5 (mkF m 42 #[.val (.int p1), .val (.int p2), .val (.int p3), .val (.int p4), .val (.int p5), .val (.int 0), .val (.ref b1), .val (.ref r3), .val (.ref r5), .unset, .unset, .unset, .unset, .unset, .unset, .unset, .unset, .unset, .unset] [(.long ((p2.toInt8.toInt32).toInt64))])
    refine own_at (fun t k => X5.ldc2Long hx hown (mvT hZ (hw _ (List.mem_of_getElem? (i := 5) rfl))) (g := (mkF m 42 #[.val (.int p1), .val (.int p2), .val (.int p3), .val (.int p4), .val (.int p5), .val (.int 0), .val (.ref b1), .val (.ref r3), .val (.ref r5), .unset, .unset, .unset, .unset, .unset, .unset, .unset, .unset, .unset, .unset] [(.long ((p2.toInt8.toInt32).toInt64))])) rfl (hb hby at_42) t k) ?_
    show own_Go p e below KK T5 (mkF m 45 #[.val (.int p1), .val (.int p2), .val (.int p3), .val (.int p4), .val (.int p5), .val (.int 0), .val (.ref b1), .val (.ref r3), .val (.ref r5), .unset, .unset, .unset, .unset, .unset, .unset, .unset, .unset, .unset, .unset] [(.long 255), (.long ((p2.toInt8.toInt32).toInt64))])
    refine own_at (fun t k => XS.land X5.here hx rfl (hb hby at_45) rfl k) ?_
    show own_Go p e below KK T5 (mkF m 46 #[.val (.int p1), .val (.int p2), .val (.int p3), .val (.int p4), .val (.int p5), .val (.int 0), .val (.ref b1), .val (.ref r3), .val (.ref r5), .unset, .unset, .unset, .unset, .unset, .unset, .unset, .unset, .unset, .unset] [(.long (((p2.toInt8.toInt32).toInt64) &&& (255 : Int64)))])
    refine own_at (fun t k => XS.lstore X5.here hx rfl (hb hby at_46) rfl (l' := #[.val (.int p1), .val (.int p2), .val (.int p3), .val (.int p4), .val (.int p5), .val (.int 0), .val (.ref b1), .val (.ref r3), .val (.ref r5), .val (.long (((p2.toInt8.toInt32).toInt64) &&& (255 : Int64))), .second, .unset, .unset, .unset, .unset, .unset, .unset, .unset, .unset]) rfl k) ?_
    show own_Go p e below KK T5 (mkF m 48 #[.val (.int p1), .val (.int p2), .val (.int p3), .val (.int p4), .val (.int p5), .val (.int 0), .val (.ref b1), .val (.ref r3), .val (.ref r5), .val (.long (((p2.toInt8.toInt32).toInt64) &&& (255 : Int64))), .second, .unset, .unset, .unset, .unset, .unset, .unset, .unset, .unset] [])
    refine own_at (fun t k => XS.aload X5.here hx rfl (hb hby at_48) rfl rfl k) ?_
    show own_Go p e below KK T5 (mkF m 50 #[.val (.int p1), .val (.int p2), .val (.int p3), .val (.int p4), .val (.int p5), .val (.int 0), .val (.ref b1), .val (.ref r3), .val (.ref r5), .val (.long (((p2.toInt8.toInt32).toInt64) &&& (255 : Int64))), .second, .unset, .unset, .unset, .unset, .unset, .unset, .unset, .unset] [(.ref b1)])
    obtain ⟨_, _, ⟨T7, L7, k7, n7⟩, -, X7, ⟨Lc7, hQ7, l7, y7, z7⟩, st7⟩ := Jvm.LawKit.callS X5 hx (y := (⟨"com/example/wirecall/wirecall/wire/Fnv1a", "hash64", "([B)J"⟩ : MethodName)) hown (mvT hZ (hw _ (List.mem_of_getElem? (i := 6) rfl))) (mvT hZ (hw _ (List.mem_of_getElem? (i := 7) rfl))) (mvT hZ (hw _ (List.mem_of_getElem? (i := 8) rfl))) (mvT hZ (hw _ (List.mem_of_getElem? (i := 9) rfl))) (by decide) (backOf (W := 0) (rm_hash0 l Z a0 hw [] b1  T5.heap n0 Zs5 A2_b1_h5) hZ (hw _ (List.mem_of_getElem? (i := 9) rfl)) (hw _ (List.mem_of_getElem? (i := 8) rfl)) (by decide) (by decide)) (g := (mkF m 50 #[.val (.int p1), .val (.int p2), .val (.int p3), .val (.int p4), .val (.int p5), .val (.int 0), .val (.ref b1), .val (.ref r3), .val (.ref r5), .val (.long (((p2.toInt8.toInt32).toInt64) &&& (255 : Int64))), .second, .unset, .unset, .unset, .unset, .unset, .unset, .unset, .unset] [(.ref b1)])) rfl (by rw [hml]; rfl) (argsL := [(.ref b1)]) (rest := []) (lenOf pd___B_J rfl) rfl (by show 2 * 0 + _ ≤ _; exact Nat.le_of_eq rfl) (hb hby at_50) (fun _ _ => ⟨rfl, rfl, (by decide : 3 + 0 ≤ _), (by decide : 1 + 0 ≤ _)⟩)
    dsimp only [Pt.U, Pt.locs, Pt.cells, Pt.slots] at X7 l7 y7 z7 st7 hQ7
    subst l7 y7 z7
    obtain ⟨rfl, N7q, e7⟩ := hQ7
    have N7 := Fr.app N5 N7q
    refine own_of (fun t k => st7 t k) ?_
    show own_Go p e below KK T7 (mkF m 53 #[.val (.int p1), .val (.int p2), .val (.int p3), .val (.int p4), .val (.int p5), .val (.int 0), .val (.ref b1), .val (.ref r3), .val (.ref r5), .val (.long (((p2.toInt8.toInt32).toInt64) &&& (255 : Int64))), .second, .unset, .unset, .unset, .unset, .unset, .unset, .unset, .unset] [(.long (own_h []))])
    refine own_at (fun t k => XS.lstore X7.here hx rfl (hb hby at_53) rfl (l' := #[.val (.int p1), .val (.int p2), .val (.int p3), .val (.int p4), .val (.int p5), .val (.int 0), .val (.ref b1), .val (.ref r3), .val (.ref r5), .val (.long (((p2.toInt8.toInt32).toInt64) &&& (255 : Int64))), .second, .val (.long (own_h [])), .second, .unset, .unset, .unset, .unset, .unset, .unset]) rfl k) ?_
    show own_Go p e below KK T7 (mkF m 55 #[.val (.int p1), .val (.int p2), .val (.int p3), .val (.int p4), .val (.int p5), .val (.int 0), .val (.ref b1), .val (.ref r3), .val (.ref r5), .val (.long (((p2.toInt8.toInt32).toInt64) &&& (255 : Int64))), .second, .val (.long (own_h [])), .second, .unset, .unset, .unset, .unset, .unset, .unset] [])
    refine own_at (fun t k => XS.aload X7.here hx rfl (hb hby at_55) rfl rfl k) ?_
    show own_Go p e below KK T7 (mkF m 57 #[.val (.int p1), .val (.int p2), .val (.int p3), .val (.int p4), .val (.int p5), .val (.int 0), .val (.ref b1), .val (.ref r3), .val (.ref r5), .val (.long (((p2.toInt8.toInt32).toInt64) &&& (255 : Int64))), .second, .val (.long (own_h [])), .second, .unset, .unset, .unset, .unset, .unset, .unset] [(.ref r3)])
    obtain ⟨_, _, ⟨T8, L8, k8, n8⟩, -, X8, ⟨Lc8, hQ8, l8, y8, z8⟩, st8⟩ := Jvm.LawKit.callS X7 hx (y := (⟨"com/example/wirecall/wirecall/wire/Fnv1a", "hash64", "([B)J"⟩ : MethodName)) hown (mvT hZ (hw _ (List.mem_of_getElem? (i := 6) rfl))) (mvT hZ (hw _ (List.mem_of_getElem? (i := 7) rfl))) (mvT hZ (hw _ (List.mem_of_getElem? (i := 8) rfl))) (mvT hZ (hw _ (List.mem_of_getElem? (i := 9) rfl))) (by decide) (backOf (W := 0) (rm_hash0 l Z a0 hw [] r3  T5.heap n0 Zs5 A4_r3_h5) hZ (hw _ (List.mem_of_getElem? (i := 9) rfl)) (hw _ (List.mem_of_getElem? (i := 8) rfl)) (by decide) (by decide)) (g := (mkF m 57 #[.val (.int p1), .val (.int p2), .val (.int p3), .val (.int p4), .val (.int p5), .val (.int 0), .val (.ref b1), .val (.ref r3), .val (.ref r5), .val (.long (((p2.toInt8.toInt32).toInt64) &&& (255 : Int64))), .second, .val (.long (own_h [])), .second, .unset, .unset, .unset, .unset, .unset, .unset] [(.ref r3)])) rfl (by rw [hml]; rfl) (argsL := [(.ref r3)]) (rest := []) (lenOf pd___B_J rfl) rfl (by show 2 * 0 + _ ≤ _; exact Nat.le_of_eq rfl) (hb hby at_57) (fun _ _ => ⟨rfl, e7, (by decide : 3 + 0 ≤ _), (by decide : 1 + 0 ≤ _)⟩)
    dsimp only [Pt.U, Pt.locs, Pt.cells, Pt.slots] at X8 l8 y8 z8 st8 hQ8
    subst l8 y8 z8
    obtain ⟨rfl, N8q, e8⟩ := hQ8
    have N8 := Fr.app N7 N8q
    refine own_of (fun t k => st8 t k) ?_
    show own_Go p e below KK T8 (mkF m 60 #[.val (.int p1), .val (.int p2), .val (.int p3), .val (.int p4), .val (.int p5), .val (.int 0), .val (.ref b1), .val (.ref r3), .val (.ref r5), .val (.long (((p2.toInt8.toInt32).toInt64) &&& (255 : Int64))), .second, .val (.long (own_h [])), .second, .unset, .unset, .unset, .unset, .unset, .unset] [(.long (own_h []))])
    refine own_at (fun t k => XS.lstore X8.here hx rfl (hb hby at_60) rfl (l' := #[.val (.int p1), .val (.int p2), .val (.int p3), .val (.int p4), .val (.int p5), .val (.int 0), .val (.ref b1), .val (.ref r3), .val (.ref r5), .val (.long (((p2.toInt8.toInt32).toInt64) &&& (255 : Int64))), .second, .val (.long (own_h [])), .second, .val (.long (own_h [])), .second, .unset, .unset, .unset, .unset]) rfl k) ?_
    show own_Go p e below KK T8 (mkF m 62 #[.val (.int p1), .val (.int p2), .val (.int p3), .val (.int p4), .val (.int p5), .val (.int 0), .val (.ref b1), .val (.ref r3), .val (.ref r5), .val (.long (((p2.toInt8.toInt32).toInt64) &&& (255 : Int64))), .second, .val (.long (own_h [])), .second, .val (.long (own_h [])), .second, .unset, .unset, .unset, .unset] [])
    refine own_at (fun t k => XS.aload X8.here hx rfl (hb hby at_62) rfl rfl k) ?_
    show own_Go p e below KK T8 (mkF m 64 #[.val (.int p1), .val (.int p2), .val (.int p3), .val (.int p4), .val (.int p5), .val (.int 0), .val (.ref b1), .val (.ref r3), .val (.ref r5), .val (.long (((p2.toInt8.toInt32).toInt64) &&& (255 : Int64))), .second, .val (.long (own_h [])), .second, .val (.long (own_h [])), .second, .unset, .unset, .unset, .unset] [(.ref r5)])
    obtain ⟨_, _, ⟨T9, L9, k9, n9⟩, -, X9, ⟨Lc9, hQ9, l9, y9, z9⟩, st9⟩ := Jvm.LawKit.callS X8 hx (y := (⟨"com/example/wirecall/wirecall/wire/Fnv1a", "hash64", "([B)J"⟩ : MethodName)) hown (mvT hZ (hw _ (List.mem_of_getElem? (i := 6) rfl))) (mvT hZ (hw _ (List.mem_of_getElem? (i := 7) rfl))) (mvT hZ (hw _ (List.mem_of_getElem? (i := 8) rfl))) (mvT hZ (hw _ (List.mem_of_getElem? (i := 9) rfl))) (by decide) (backOf (W := 0) (rm_hash1 l Z a0 hw [] r5 (p2.toInt8.toInt32) T5.heap n0 Zs5 A6_r5) hZ (hw _ (List.mem_of_getElem? (i := 9) rfl)) (hw _ (List.mem_of_getElem? (i := 8) rfl)) (by decide) (by decide)) (g := (mkF m 64 #[.val (.int p1), .val (.int p2), .val (.int p3), .val (.int p4), .val (.int p5), .val (.int 0), .val (.ref b1), .val (.ref r3), .val (.ref r5), .val (.long (((p2.toInt8.toInt32).toInt64) &&& (255 : Int64))), .second, .val (.long (own_h [])), .second, .val (.long (own_h [])), .second, .unset, .unset, .unset, .unset] [(.ref r5)])) rfl (by rw [hml]; rfl) (argsL := [(.ref r5)]) (rest := []) (lenOf pd___B_J rfl) rfl (by show 2 * 0 + _ ≤ _; exact Nat.le_of_eq rfl) (hb hby at_64) (fun _ _ => ⟨rfl, e8, (by decide : 3 + 0 ≤ _), (by decide : 1 + 0 ≤ _)⟩)
    dsimp only [Pt.U, Pt.locs, Pt.cells, Pt.slots] at X9 l9 y9 z9 st9 hQ9
    subst l9 y9 z9
    obtain ⟨rfl, N9q, e9⟩ := hQ9
    have N9 := Fr.app N8 N9q
    refine own_of (fun t k => st9 t k) ?_
    show own_Go p e below KK T9 (mkF m 67 #[.val (.int p1), .val (.int p2), .val (.int p3), .val (.int p4), .val (.int p5), .val (.int 0), .val (.ref b1), .val (.ref r3), .val (.ref r5), .val (.long (((p2.toInt8.toInt32).toInt64) &&& (255 : Int64))), .second, .val (.long (own_h [])), .second, .val (.long (own_h [])), .second, .unset, .unset, .unset, .unset] [(.long (own_h [(p2.toInt8.toInt32)]))])
    refine own_at (fun t k => XS.lstore X9.here hx rfl (hb hby at_67) rfl (l' := #[.val (.int p1), .val (.int p2), .val (.int p3), .val (.int p4), .val (.int p5), .val (.int 0), .val (.ref b1), .val (.ref r3), .val (.ref r5), .val (.long (((p2.toInt8.toInt32).toInt64) &&& (255 : Int64))), .second, .val (.long (own_h [])), .second, .val (.long (own_h [])), .second, .val (.long (own_h [(p2.toInt8.toInt32)])), .second, .unset, .unset]) rfl k) ?_
    show own_Go p e below KK T9 (mkF m 69 #[.val (.int p1), .val (.int p2), .val (.int p3), .val (.int p4), .val (.int p5), .val (.int 0), .val (.ref b1), .val (.ref r3), .val (.ref r5), .val (.long (((p2.toInt8.toInt32).toInt64) &&& (255 : Int64))), .second, .val (.long (own_h [])), .second, .val (.long (own_h [])), .second, .val (.long (own_h [(p2.toInt8.toInt32)])), .second, .unset, .unset] [])
    refine own_at (fun t k => XS.lload X9.here hx rfl (hb hby at_69) rfl k) ?_
    show own_Go p e below KK T9 (mkF m 71 #[.val (.int p1), .val (.int p2), .val (.int p3), .val (.int p4), .val (.int p5), .val (.int 0), .val (.ref b1), .val (.ref r3), .val (.ref r5), .val (.long (((p2.toInt8.toInt32).toInt64) &&& (255 : Int64))), .second, .val (.long (own_h [])), .second, .val (.long (own_h [])), .second, .val (.long (own_h [(p2.toInt8.toInt32)])), .second, .unset, .unset] [(.long (own_h []))])
    refine own_at (fun t k => X9.ldc2Long hx hown (mvT hZ (hw _ (List.mem_of_getElem? (i := 13) rfl))) (g := (mkF m 71 #[.val (.int p1), .val (.int p2), .val (.int p3), .val (.int p4), .val (.int p5), .val (.int 0), .val (.ref b1), .val (.ref r3), .val (.ref r5), .val (.long (((p2.toInt8.toInt32).toInt64) &&& (255 : Int64))), .second, .val (.long (own_h [])), .second, .val (.long (own_h [])), .second, .val (.long (own_h [(p2.toInt8.toInt32)])), .second, .unset, .unset] [(.long (own_h []))])) rfl (hb hby at_71) t k) ?_
    show own_Go p e below KK T9 (mkF m 74 #[.val (.int p1), .val (.int p2), .val (.int p3), .val (.int p4), .val (.int p5), .val (.int 0), .val (.ref b1), .val (.ref r3), .val (.ref r5), .val (.long (((p2.toInt8.toInt32).toInt64) &&& (255 : Int64))), .second, .val (.long (own_h [])), .second, .val (.long (own_h [])), .second, .val (.long (own_h [(p2.toInt8.toInt32)])), .second, .unset, .unset] [(.long (-3750763034362895579 : Int64)), (.long (own_h []))])
    refine own_at (fun t k => Jvm.Free.XT.lcmp X9.here hx rfl (hb hby at_74) rfl k) ?_
    show own_Go p e below KK T9 (mkF m 75 #[.val (.int p1), .val (.int p2), .val (.int p3), .val (.int p4), .val (.int p5), .val (.int 0), .val (.ref b1), .val (.ref r3), .val (.ref r5), .val (.long (((p2.toInt8.toInt32).toInt64) &&& (255 : Int64))), .second, .val (.long (own_h [])), .second, .val (.long (own_h [])), .second, .val (.long (own_h [(p2.toInt8.toInt32)])), .second, .unset, .unset] [(.int (Jvm.Free.XT.cmpL (own_h []) (-3750763034362895579 : Int64)))])
    have hc75 : (own_h []) = (-3750763034362895579 : Int64) := rfl
    refine own_at (fun t k => XS.ifNo X9.here hx rfl (hb hby at_75) rfl (Jvm.Free.XT.ll_ne_f hc75) k) ?_
    show own_Go p e below KK T9 (mkF m 78 #[.val (.int p1), .val (.int p2), .val (.int p3), .val (.int p4), .val (.int p5), .val (.int 0), .val (.ref b1), .val (.ref r3), .val (.ref r5), .val (.long (((p2.toInt8.toInt32).toInt64) &&& (255 : Int64))), .second, .val (.long (own_h [])), .second, .val (.long (own_h [])), .second, .val (.long (own_h [(p2.toInt8.toInt32)])), .second, .unset, .unset] [])
    refine own_at (fun t k => XS.iconst X9.here hx rfl (hb hby at_78) k) ?_
    show own_Go p e below KK T9 (mkF m 79 #[.val (.int p1), .val (.int p2), .val (.int p3), .val (.int p4), .val (.int p5), .val (.int 0), .val (.ref b1), .val (.ref r3), .val (.ref r5), .val (.long (((p2.toInt8.toInt32).toInt64) &&& (255 : Int64))), .second, .val (.long (own_h [])), .second, .val (.long (own_h [])), .second, .val (.long (own_h [(p2.toInt8.toInt32)])), .second, .unset, .unset] [(.int 1)])
    refine own_at (fun t k => XS.goto X9.here hx rfl (pc0 := 79) (pc' := 83) rfl (hb hby at_79) (by decide) (by decide) k) ?_
    show own_Go p e below KK T9 (mkF m 83 #[.val (.int p1), .val (.int p2), .val (.int p3), .val (.int p4), .val (.int p5), .val (.int 0), .val (.ref b1), .val (.ref r3), .val (.ref r5), .val (.long (((p2.toInt8.toInt32).toInt64) &&& (255 : Int64))), .second, .val (.long (own_h [])), .second, .val (.long (own_h [])), .second, .val (.long (own_h [(p2.toInt8.toInt32)])), .second, .unset, .unset] [(.int 1)])
    refine own_at (fun t k => XS.istore X9.here hx rfl (hb hby at_83) rfl (l' := #[.val (.int p1), .val (.int p2), .val (.int p3), .val (.int p4), .val (.int p5), .val (.int 0), .val (.ref b1), .val (.ref r3), .val (.ref r5), .val (.long (((p2.toInt8.toInt32).toInt64) &&& (255 : Int64))), .second, .val (.long (own_h [])), .second, .val (.long (own_h [])), .second, .val (.long (own_h [(p2.toInt8.toInt32)])), .second, .val (.int 1), .unset]) rfl k) ?_
    show own_Go p e below KK T9 (mkF m 85 #[.val (.int p1), .val (.int p2), .val (.int p3), .val (.int p4), .val (.int p5), .val (.int 0), .val (.ref b1), .val (.ref r3), .val (.ref r5), .val (.long (((p2.toInt8.toInt32).toInt64) &&& (255 : Int64))), .second, .val (.long (own_h [])), .second, .val (.long (own_h [])), .second, .val (.long (own_h [(p2.toInt8.toInt32)])), .second, .val (.int 1), .unset] [])
    refine own_at (fun t k => XS.lload X9.here hx rfl (hb hby at_85) rfl k) ?_
    show own_Go p e below KK T9 (mkF m 87 #[.val (.int p1), .val (.int p2), .val (.int p3), .val (.int p4), .val (.int p5), .val (.int 0), .val (.ref b1), .val (.ref r3), .val (.ref r5), .val (.long (((p2.toInt8.toInt32).toInt64) &&& (255 : Int64))), .second, .val (.long (own_h [])), .second, .val (.long (own_h [])), .second, .val (.long (own_h [(p2.toInt8.toInt32)])), .second, .val (.int 1), .unset] [(.long (own_h [(p2.toInt8.toInt32)]))])
    refine own_at (fun t k => XS.lload X9.here hx rfl (hb hby at_87) rfl k) ?_
    show own_Go p e below KK T9 (mkF m 89 #[.val (.int p1), .val (.int p2), .val (.int p3), .val (.int p4), .val (.int p5), .val (.int 0), .val (.ref b1), .val (.ref r3), .val (.ref r5), .val (.long (((p2.toInt8.toInt32).toInt64) &&& (255 : Int64))), .second, .val (.long (own_h [])), .second, .val (.long (own_h [])), .second, .val (.long (own_h [(p2.toInt8.toInt32)])), .second, .val (.int 1), .unset] [(.long (own_h [])), (.long (own_h [(p2.toInt8.toInt32)]))])
    refine own_at (fun t k => XS.lload X9.here hx rfl (hb hby at_89) rfl k) ?_
    show own_Go p e below KK T9 (mkF m 91 #[.val (.int p1), .val (.int p2), .val (.int p3), .val (.int p4), .val (.int p5), .val (.int 0), .val (.ref b1), .val (.ref r3), .val (.ref r5), .val (.long (((p2.toInt8.toInt32).toInt64) &&& (255 : Int64))), .second, .val (.long (own_h [])), .second, .val (.long (own_h [])), .second, .val (.long (own_h [(p2.toInt8.toInt32)])), .second, .val (.int 1), .unset] [(.long (((p2.toInt8.toInt32).toInt64) &&& (255 : Int64))), (.long (own_h [])), (.long (own_h [(p2.toInt8.toInt32)]))])
    refine own_at (fun t k => XS.lxor X9.here hx rfl (hb hby at_91) rfl k) ?_
    show own_Go p e below KK T9 (mkF m 92 #[.val (.int p1), .val (.int p2), .val (.int p3), .val (.int p4), .val (.int p5), .val (.int 0), .val (.ref b1), .val (.ref r3), .val (.ref r5), .val (.long (((p2.toInt8.toInt32).toInt64) &&& (255 : Int64))), .second, .val (.long (own_h [])), .second, .val (.long (own_h [])), .second, .val (.long (own_h [(p2.toInt8.toInt32)])), .second, .val (.int 1), .unset] [(.long ((own_h []) ^^^ (((p2.toInt8.toInt32).toInt64) &&& (255 : Int64)))), (.long (own_h [(p2.toInt8.toInt32)]))])
    refine own_at (fun t k => X9.ldc2Long hx hown (mvT hZ (hw _ (List.mem_of_getElem? (i := 14) rfl))) (g := (mkF m 92 #[.val (.int p1), .val (.int p2), .val (.int p3), .val (.int p4), .val (.int p5), .val (.int 0), .val (.ref b1), .val (.ref r3), .val (.ref r5), .val (.long (((p2.toInt8.toInt32).toInt64) &&& (255 : Int64))), .second, .val (.long (own_h [])), .second, .val (.long (own_h [])), .second, .val (.long (own_h [(p2.toInt8.toInt32)])), .second, .val (.int 1), .unset] [(.long ((own_h []) ^^^ (((p2.toInt8.toInt32).toInt64) &&& (255 : Int64)))), (.long (own_h [(p2.toInt8.toInt32)]))])) rfl (hb hby at_92) t k) ?_
    show own_Go p e below KK T9 (mkF m 95 #[.val (.int p1), .val (.int p2), .val (.int p3), .val (.int p4), .val (.int p5), .val (.int 0), .val (.ref b1), .val (.ref r3), .val (.ref r5), .val (.long (((p2.toInt8.toInt32).toInt64) &&& (255 : Int64))), .second, .val (.long (own_h [])), .second, .val (.long (own_h [])), .second, .val (.long (own_h [(p2.toInt8.toInt32)])), .second, .val (.int 1), .unset] [(.long 1099511628211), (.long ((own_h []) ^^^ (((p2.toInt8.toInt32).toInt64) &&& (255 : Int64)))), (.long (own_h [(p2.toInt8.toInt32)]))])
    refine own_at (fun t k => XS.lmul X9.here hx rfl (hb hby at_95) rfl k) ?_
    show own_Go p e below KK T9 (mkF m 96 #[.val (.int p1), .val (.int p2), .val (.int p3), .val (.int p4), .val (.int p5), .val (.int 0), .val (.ref b1), .val (.ref r3), .val (.ref r5), .val (.long (((p2.toInt8.toInt32).toInt64) &&& (255 : Int64))), .second, .val (.long (own_h [])), .second, .val (.long (own_h [])), .second, .val (.long (own_h [(p2.toInt8.toInt32)])), .second, .val (.int 1), .unset] [(.long (((own_h []) ^^^ (((p2.toInt8.toInt32).toInt64) &&& (255 : Int64))) * (1099511628211 : Int64))), (.long (own_h [(p2.toInt8.toInt32)]))])
    refine own_at (fun t k => Jvm.Free.XT.lcmp X9.here hx rfl (hb hby at_96) rfl k) ?_
    show own_Go p e below KK T9 (mkF m 97 #[.val (.int p1), .val (.int p2), .val (.int p3), .val (.int p4), .val (.int p5), .val (.int 0), .val (.ref b1), .val (.ref r3), .val (.ref r5), .val (.long (((p2.toInt8.toInt32).toInt64) &&& (255 : Int64))), .second, .val (.long (own_h [])), .second, .val (.long (own_h [])), .second, .val (.long (own_h [(p2.toInt8.toInt32)])), .second, .val (.int 1), .unset] [(.int (Jvm.Free.XT.cmpL (own_h [(p2.toInt8.toInt32)]) (((own_h []) ^^^ (((p2.toInt8.toInt32).toInt64) &&& (255 : Int64))) * (1099511628211 : Int64))))])
    have hc97 : (own_h [(p2.toInt8.toInt32)]) = (((own_h []) ^^^ (((p2.toInt8.toInt32).toInt64) &&& (255 : Int64))) * (1099511628211 : Int64)) := rfl
    refine own_at (fun t k => XS.ifNo X9.here hx rfl (hb hby at_97) rfl (Jvm.Free.XT.ll_ne_f hc97) k) ?_
    show own_Go p e below KK T9 (mkF m 100 #[.val (.int p1), .val (.int p2), .val (.int p3), .val (.int p4), .val (.int p5), .val (.int 0), .val (.ref b1), .val (.ref r3), .val (.ref r5), .val (.long (((p2.toInt8.toInt32).toInt64) &&& (255 : Int64))), .second, .val (.long (own_h [])), .second, .val (.long (own_h [])), .second, .val (.long (own_h [(p2.toInt8.toInt32)])), .second, .val (.int 1), .unset] [])
    refine own_at (fun t k => XS.iconst X9.here hx rfl (hb hby at_100) k) ?_
    show own_Go p e below KK T9 (mkF m 101 #[.val (.int p1), .val (.int p2), .val (.int p3), .val (.int p4), .val (.int p5), .val (.int 0), .val (.ref b1), .val (.ref r3), .val (.ref r5), .val (.long (((p2.toInt8.toInt32).toInt64) &&& (255 : Int64))), .second, .val (.long (own_h [])), .second, .val (.long (own_h [])), .second, .val (.long (own_h [(p2.toInt8.toInt32)])), .second, .val (.int 1), .unset] [(.int 1)])
    refine own_at (fun t k => XS.goto X9.here hx rfl (pc0 := 101) (pc' := 105) rfl (hb hby at_101) (by decide) (by decide) k) ?_
    show own_Go p e below KK T9 (mkF m 105 #[.val (.int p1), .val (.int p2), .val (.int p3), .val (.int p4), .val (.int p5), .val (.int 0), .val (.ref b1), .val (.ref r3), .val (.ref r5), .val (.long (((p2.toInt8.toInt32).toInt64) &&& (255 : Int64))), .second, .val (.long (own_h [])), .second, .val (.long (own_h [])), .second, .val (.long (own_h [(p2.toInt8.toInt32)])), .second, .val (.int 1), .unset] [(.int 1)])
    refine own_at (fun t k => XS.istore X9.here hx rfl (hb hby at_105) rfl (l' := #[.val (.int p1), .val (.int p2), .val (.int p3), .val (.int p4), .val (.int p5), .val (.int 0), .val (.ref b1), .val (.ref r3), .val (.ref r5), .val (.long (((p2.toInt8.toInt32).toInt64) &&& (255 : Int64))), .second, .val (.long (own_h [])), .second, .val (.long (own_h [])), .second, .val (.long (own_h [(p2.toInt8.toInt32)])), .second, .val (.int 1), .val (.int 1)]) rfl k) ?_
    show own_Go p e below KK T9 (mkF m 107 #[.val (.int p1), .val (.int p2), .val (.int p3), .val (.int p4), .val (.int p5), .val (.int 0), .val (.ref b1), .val (.ref r3), .val (.ref r5), .val (.long (((p2.toInt8.toInt32).toInt64) &&& (255 : Int64))), .second, .val (.long (own_h [])), .second, .val (.long (own_h [])), .second, .val (.long (own_h [(p2.toInt8.toInt32)])), .second, .val (.int 1), .val (.int 1)] [])
    refine own_at (fun t k => XS.iload X9.here hx rfl (hb hby at_107) rfl k) ?_
    show own_Go p e below KK T9 (mkF m 109 #[.val (.int p1), .val (.int p2), .val (.int p3), .val (.int p4), .val (.int p5), .val (.int 0), .val (.ref b1), .val (.ref r3), .val (.ref r5), .val (.long (((p2.toInt8.toInt32).toInt64) &&& (255 : Int64))), .second, .val (.long (own_h [])), .second, .val (.long (own_h [])), .second, .val (.long (own_h [(p2.toInt8.toInt32)])), .second, .val (.int 1), .val (.int 1)] [(.int 1)])
    have hc109 : ¬ ((1 : Int32) = (0 : Int32)) := by decide
    refine own_at (fun t k => XS.ifNo X9.here hx rfl (hb hby at_109) rfl (Jvm.Free.XT.i0_eq_f hc109) k) ?_
    show own_Go p e below KK T9 (mkF m 112 #[.val (.int p1), .val (.int p2), .val (.int p3), .val (.int p4), .val (.int p5), .val (.int 0), .val (.ref b1), .val (.ref r3), .val (.ref r5), .val (.long (((p2.toInt8.toInt32).toInt64) &&& (255 : Int64))), .second, .val (.long (own_h [])), .second, .val (.long (own_h [])), .second, .val (.long (own_h [(p2.toInt8.toInt32)])), .second, .val (.int 1), .val (.int 1)] [])
    refine own_at (fun t k => XS.iload X9.here hx rfl (hb hby at_112) rfl k) ?_
    show own_Go p e below KK T9 (mkF m 114 #[.val (.int p1), .val (.int p2), .val (.int p3), .val (.int p4), .val (.int p5), .val (.int 0), .val (.ref b1), .val (.ref r3), .val (.ref r5), .val (.long (((p2.toInt8.toInt32).toInt64) &&& (255 : Int64))), .second, .val (.long (own_h [])), .second, .val (.long (own_h [])), .second, .val (.long (own_h [(p2.toInt8.toInt32)])), .second, .val (.int 1), .val (.int 1)] [(.int 1)])
    have hc114 : ¬ ((1 : Int32) = (0 : Int32)) := by decide
    refine own_at (fun t k => XS.ifNo X9.here hx rfl (hb hby at_114) rfl (Jvm.Free.XT.i0_eq_f hc114) k) ?_
    show own_Go p e below KK T9 (mkF m 117 #[.val (.int p1), .val (.int p2), .val (.int p3), .val (.int p4), .val (.int p5), .val (.int 0), .val (.ref b1), .val (.ref r3), .val (.ref r5), .val (.long (((p2.toInt8.toInt32).toInt64) &&& (255 : Int64))), .second, .val (.long (own_h [])), .second, .val (.long (own_h [])), .second, .val (.long (own_h [(p2.toInt8.toInt32)])), .second, .val (.int 1), .val (.int 1)] [])
    refine own_at (fun t k => XS.iconst X9.here hx rfl (hb hby at_117) k) ?_
    show own_Go p e below KK T9 (mkF m 118 #[.val (.int p1), .val (.int p2), .val (.int p3), .val (.int p4), .val (.int p5), .val (.int 0), .val (.ref b1), .val (.ref r3), .val (.ref r5), .val (.long (((p2.toInt8.toInt32).toInt64) &&& (255 : Int64))), .second, .val (.long (own_h [])), .second, .val (.long (own_h [])), .second, .val (.long (own_h [(p2.toInt8.toInt32)])), .second, .val (.int 1), .val (.int 1)] [(.int 1)])
    refine own_at (fun t k => XS.goto X9.here hx rfl (pc0 := 118) (pc' := 122) rfl (hb hby at_118) (by decide) (by decide) k) ?_
    show own_Go p e below KK T9 (mkF m 122 #[.val (.int p1), .val (.int p2), .val (.int p3), .val (.int p4), .val (.int p5), .val (.int 0), .val (.ref b1), .val (.ref r3), .val (.ref r5), .val (.long (((p2.toInt8.toInt32).toInt64) &&& (255 : Int64))), .second, .val (.long (own_h [])), .second, .val (.long (own_h [])), .second, .val (.long (own_h [(p2.toInt8.toInt32)])), .second, .val (.int 1), .val (.int 1)] [(.int 1)])
    subst hKK
    exact own_retN X9 hx hlk (t := .boolean) Bd.returns (by simp) (hb hby at_122) (w := (1 : Int32)) (show nar .boolean (1 : Int32) = 1 from by decide) ⟨rfl, N9⟩ (Nat.le_of_ble_eq_true rfl) (Nat.le_of_ble_eq_true rfl)
  · show own_Go p e below KK s₁ (mkF m 3 #[.val (.int p1), .val (.int p2), .val (.int p3), .val (.int p4), .val (.int p5), .unset, .unset, .unset, .unset, .unset, .unset, .unset, .unset, .unset, .unset, .unset, .unset, .unset, .unset] [(.int 1)])
    refine own_at (fun t k => XS.istore X0.here hx rfl (hb hby at_3) rfl (l' := #[.val (.int p1), .val (.int p2), .val (.int p3), .val (.int p4), .val (.int p5), .val (.int 1), .unset, .unset, .unset, .unset, .unset, .unset, .unset, .unset, .unset, .unset, .unset, .unset, .unset]) rfl k) ?_
    show own_Go p e below KK s₁ (mkF m 5 #[.val (.int p1), .val (.int p2), .val (.int p3), .val (.int p4), .val (.int p5), .val (.int 1), .unset, .unset, .unset, .unset, .unset, .unset, .unset, .unset, .unset, .unset, .unset, .unset, .unset] [])
    refine own_at (fun t k => XS.iconst X0.here hx rfl (hb hby at_5) k) ?_
    show own_Go p e below KK s₁ (mkF m 6 #[.val (.int p1), .val (.int p2), .val (.int p3), .val (.int p4), .val (.int p5), .val (.int 1), .unset, .unset, .unset, .unset, .unset, .unset, .unset, .unset, .unset, .unset, .unset, .unset, .unset] [(.int 0)])
    obtain ⟨T10, h10, X10, e10, E10, V10, st10⟩ := own_newA X0 hx hZ (hw _ (List.mem_of_getElem? (i := 0) rfl)) e0 (g := (mkF m 6 #[.val (.int p1), .val (.int p2), .val (.int p3), .val (.int p4), .val (.int p5), .val (.int 1), .unset, .unset, .unset, .unset, .unset, .unset, .unset, .unset, .unset, .unset, .unset, .unset, .unset] [(.int 0)])) rfl (hb hby at_6) rfl (by decide) (N := 0) (by decide) (cap := 0) (by decide) (by decide) (by decide) (by decide) (d := "[B") (by first | rfl | decide +kernel) (vs := []) rfl
    obtain ⟨b10, g10⟩ : ∃ z, z = h0.size := ⟨_, rfl⟩
    rw [← g10] at V10 st10
    have g_b10 : n0 ≤ b10 := by rw [g10]; exact Z0
    have Zs10 : n0 ≤ h10.size := Nat.le_trans Z0 E10.1
    have A11_b10 : own_A Z h10 b10 "[B" .byte [] := V10
    refine own_of (fun t k => st10 t k) ?_
    show own_Go p e below KK T10 (mkF m 8 #[.val (.int p1), .val (.int p2), .val (.int p3), .val (.int p4), .val (.int p5), .val (.int 1), .unset, .unset, .unset, .unset, .unset, .unset, .unset, .unset, .unset, .unset, .unset, .unset, .unset] [(.ref b10)])
    refine own_at (fun t k => XS.astore X10.here hx rfl (hb hby at_8) rfl rfl (l' := #[.val (.int p1), .val (.int p2), .val (.int p3), .val (.int p4), .val (.int p5), .val (.int 1), .val (.ref b10), .unset, .unset, .unset, .unset, .unset, .unset, .unset, .unset, .unset, .unset, .unset, .unset]) rfl k) ?_
    show own_Go p e below KK T10 (mkF m 10 #[.val (.int p1), .val (.int p2), .val (.int p3), .val (.int p4), .val (.int p5), .val (.int 1), .val (.ref b10), .unset, .unset, .unset, .unset, .unset, .unset, .unset, .unset, .unset, .unset, .unset, .unset] [])
    refine own_at (fun t k => XS.iload X10.here hx rfl (hb hby at_10) rfl k) ?_
    show own_Go p e below KK T10 (mkF m 12 #[.val (.int p1), .val (.int p2), .val (.int p3), .val (.int p4), .val (.int p5), .val (.int 1), .val (.ref b10), .unset, .unset, .unset, .unset, .unset, .unset, .unset, .unset, .unset, .unset, .unset, .unset] [(.int 1)])
    refine own_at (fun t k => XS.iloadN X10.here hx rfl (hb hby at_12) rfl k) ?_
    show own_Go p e below KK T10 (mkF m 13 #[.val (.int p1), .val (.int p2), .val (.int p3), .val (.int p4), .val (.int p5), .val (.int 1), .val (.ref b10), .unset, .unset, .unset, .unset, .unset, .unset, .unset, .unset, .unset, .unset, .unset, .unset] [(.int p2), (.int 1)])
    refine own_at (fun t k => XS.iloadN X10.here hx rfl (hb hby at_13) rfl k) ?_
    show own_Go p e below KK T10 (mkF m 14 #[.val (.int p1), .val (.int p2), .val (.int p3), .val (.int p4), .val (.int p5), .val (.int 1), .val (.ref b10), .unset, .unset, .unset, .unset, .unset, .unset, .unset, .unset, .unset, .unset, .unset, .unset] [(.int p3), (.int p2), (.int 1)])
    refine own_at (fun t k => XS.iloadN X10.here hx rfl (hb hby at_14) rfl k) ?_
    show own_Go p e below KK T10 (mkF m 15 #[.val (.int p1), .val (.int p2), .val (.int p3), .val (.int p4), .val (.int p5), .val (.int 1), .val (.ref b10), .unset, .unset, .unset, .unset, .unset, .unset, .unset, .unset, .unset, .unset, .unset, .unset] [(.int p4), (.int p3), (.int p2), (.int 1)])
    refine own_at (fun t k => XS.iload X10.here hx rfl (hb hby at_15) rfl k) ?_
    show own_Go p e below KK T10 (mkF m 17 #[.val (.int p1), .val (.int p2), .val (.int p3), .val (.int p4), .val (.int p5), .val (.int 1), .val (.ref b10), .unset, .unset, .unset, .unset, .unset, .unset, .unset, .unset, .unset, .unset, .unset, .unset] [(.int p5), (.int p4), (.int p3), (.int p2), (.int 1)])
    obtain ⟨_, _, ⟨T12, L12, k12, n12⟩, -, X12, ⟨Lc12, hQ12, l12, y12, z12⟩, st12⟩ := Jvm.LawKit.callS X10 hx (y := (⟨"com/example/wirecall/wirecall/wire/Fnv1aHash64PinLaw", "fill", "(IIIII)[B"⟩ : MethodName)) hown (mvT hZ (hw _ (List.mem_of_getElem? (i := 1) rfl))) (mvT hZ (hw _ (List.mem_of_getElem? (i := 2) rfl))) (mvT hZ (hw _ (List.mem_of_getElem? (i := 3) rfl))) (mvT hZ (hw _ (List.mem_of_getElem? (i := 4) rfl))) (by decide) (backOf (W := 0) (rm_fill1 l Z a0 hw [] p2 p3 p4 p5  h10 n0 Zs10 ) hZ (hw _ (List.mem_of_getElem? (i := 4) rfl)) (hw _ (List.mem_of_getElem? (i := 3) rfl)) (by decide) (by decide)) (g := (mkF m 17 #[.val (.int p1), .val (.int p2), .val (.int p3), .val (.int p4), .val (.int p5), .val (.int 1), .val (.ref b10), .unset, .unset, .unset, .unset, .unset, .unset, .unset, .unset, .unset, .unset, .unset, .unset] [(.int p5), (.int p4), (.int p3), (.int p2), (.int 1)])) rfl (by rw [hml]; rfl) (argsL := [(.int 1), (.int p2), (.int p3), (.int p4), (.int p5)]) (rest := []) (lenOf pd__IIIII__B rfl) rfl (by show 2 * 0 + _ ≤ _; exact Nat.le_of_eq rfl) (hb hby at_17) (fun _ _ => ⟨rfl, e10, (by decide : 1 + 1 ≤ _), (by decide : 0 + 1 ≤ _)⟩)
    dsimp only [Pt.U, Pt.locs, Pt.cells, Pt.slots] at X12 l12 y12 z12 st12 hQ12
    subst l12 y12 z12
    obtain ⟨r12, rfl, N12q, K12, g_r12, s_r12, Aq12⟩ := hQ12
    have ne_b10_r12 : b10 ≠ r12 := Nat.ne_of_lt (Nat.lt_of_lt_of_le A11_b10.lt s_r12)
    have A11_b10_h12 : own_A Z T12.heap b10 "[B" .byte [] := A11_b10.keep K12 nin0
    have Zs12 : n0 ≤ T12.heap.size := Nat.le_trans Zs10 K12.1
    have A13_r12 : own_A Z T12.heap r12 "[B" .byte [(.int (p2.toInt8.toInt32))] := Aq12
    have N12 := Fr.app N0 N12q
    refine own_of (fun t k => st12 t k) ?_
    show own_Go p e below KK T12 (mkF m 20 #[.val (.int p1), .val (.int p2), .val (.int p3), .val (.int p4), .val (.int p5), .val (.int 1), .val (.ref b10), .unset, .unset, .unset, .unset, .unset, .unset, .unset, .unset, .unset, .unset, .unset, .unset] [(.ref r12)])
    refine own_at (fun t k => XS.astore X12.here hx rfl (hb hby at_20) rfl rfl (l' := #[.val (.int p1), .val (.int p2), .val (.int p3), .val (.int p4), .val (.int p5), .val (.int 1), .val (.ref b10), .val (.ref r12), .unset, .unset, .unset, .unset, .unset, .unset, .unset, .unset, .unset, .unset, .unset]) rfl k) ?_
    show own_Go p e below KK T12 (mkF m 22 #[.val (.int p1), .val (.int p2), .val (.int p3), .val (.int p4), .val (.int p5), .val (.int 1), .val (.ref b10), .val (.ref r12), .unset, .unset, .unset, .unset, .unset, .unset, .unset, .unset, .unset, .unset, .unset] [])
    refine own_at (fun t k => XS.iload X12.here hx rfl (hb hby at_22) rfl k) ?_
    show own_Go p e below KK T12 (mkF m 24 #[.val (.int p1), .val (.int p2), .val (.int p3), .val (.int p4), .val (.int p5), .val (.int 1), .val (.ref b10), .val (.ref r12), .unset, .unset, .unset, .unset, .unset, .unset, .unset, .unset, .unset, .unset, .unset] [(.int 1)])
    refine own_at (fun t k => XS.iconst X12.here hx rfl (hb hby at_24) k) ?_
    show own_Go p e below KK T12 (mkF m 25 #[.val (.int p1), .val (.int p2), .val (.int p3), .val (.int p4), .val (.int p5), .val (.int 1), .val (.ref b10), .val (.ref r12), .unset, .unset, .unset, .unset, .unset, .unset, .unset, .unset, .unset, .unset, .unset] [(.int 1), (.int 1)])
    refine own_at (fun t k => XS.iadd X12.here hx rfl (hb hby at_25) rfl k) ?_
    show own_Go p e below KK T12 (mkF m 26 #[.val (.int p1), .val (.int p2), .val (.int p3), .val (.int p4), .val (.int p5), .val (.int 1), .val (.ref b10), .val (.ref r12), .unset, .unset, .unset, .unset, .unset, .unset, .unset, .unset, .unset, .unset, .unset] [(.int ((1 : Int32) + (1 : Int32)))])
    rw [show ((1 : Int32) + (1 : Int32)) = (2 : Int32) from by decide]
    show own_Go p e below KK T12 (mkF m 26 #[.val (.int p1), .val (.int p2), .val (.int p3), .val (.int p4), .val (.int p5), .val (.int 1), .val (.ref b10), .val (.ref r12), .unset, .unset, .unset, .unset, .unset, .unset, .unset, .unset, .unset, .unset, .unset] [(.int 2)])
    refine own_at (fun t k => XS.iloadN X12.here hx rfl (hb hby at_26) rfl k) ?_
    show own_Go p e below KK T12 (mkF m 27 #[.val (.int p1), .val (.int p2), .val (.int p3), .val (.int p4), .val (.int p5), .val (.int 1), .val (.ref b10), .val (.ref r12), .unset, .unset, .unset, .unset, .unset, .unset, .unset, .unset, .unset, .unset, .unset] [(.int p2), (.int 2)])
    refine own_at (fun t k => XS.iloadN X12.here hx rfl (hb hby at_27) rfl k) ?_
    show own_Go p e below KK T12 (mkF m 28 #[.val (.int p1), .val (.int p2), .val (.int p3), .val (.int p4), .val (.int p5), .val (.int 1), .val (.ref b10), .val (.ref r12), .unset, .unset, .unset, .unset, .unset, .unset, .unset, .unset, .unset, .unset, .unset] [(.int p3), (.int p2), (.int 2)])
    refine own_at (fun t k => XS.iloadN X12.here hx rfl (hb hby at_28) rfl k) ?_
    show own_Go p e below KK T12 (mkF m 29 #[.val (.int p1), .val (.int p2), .val (.int p3), .val (.int p4), .val (.int p5), .val (.int 1), .val (.ref b10), .val (.ref r12), .unset, .unset, .unset, .unset, .unset, .unset, .unset, .unset, .unset, .unset, .unset] [(.int p4), (.int p3), (.int p2), (.int 2)])
    refine own_at (fun t k => XS.iload X12.here hx rfl (hb hby at_29) rfl k) ?_
    show own_Go p e below KK T12 (mkF m 31 #[.val (.int p1), .val (.int p2), .val (.int p3), .val (.int p4), .val (.int p5), .val (.int 1), .val (.ref b10), .val (.ref r12), .unset, .unset, .unset, .unset, .unset, .unset, .unset, .unset, .unset, .unset, .unset] [(.int p5), (.int p4), (.int p3), (.int p2), (.int 2)])
    obtain ⟨_, _, ⟨T14, L14, k14, n14⟩, -, X14, ⟨Lc14, hQ14, l14, y14, z14⟩, st14⟩ := Jvm.LawKit.callS X12 hx (y := (⟨"com/example/wirecall/wirecall/wire/Fnv1aHash64PinLaw", "fill", "(IIIII)[B"⟩ : MethodName)) hown (mvT hZ (hw _ (List.mem_of_getElem? (i := 1) rfl))) (mvT hZ (hw _ (List.mem_of_getElem? (i := 2) rfl))) (mvT hZ (hw _ (List.mem_of_getElem? (i := 3) rfl))) (mvT hZ (hw _ (List.mem_of_getElem? (i := 4) rfl))) (by decide) (backOf (W := 0) (rm_fill2 l Z a0 hw [] p2 p3 p4 p5  T12.heap n0 Zs12 ) hZ (hw _ (List.mem_of_getElem? (i := 4) rfl)) (hw _ (List.mem_of_getElem? (i := 3) rfl)) (by decide) (by decide)) (g := (mkF m 31 #[.val (.int p1), .val (.int p2), .val (.int p3), .val (.int p4), .val (.int p5), .val (.int 1), .val (.ref b10), .val (.ref r12), .unset, .unset, .unset, .unset, .unset, .unset, .unset, .unset, .unset, .unset, .unset] [(.int p5), (.int p4), (.int p3), (.int p2), (.int 2)])) rfl (by rw [hml]; rfl) (argsL := [(.int 2), (.int p2), (.int p3), (.int p4), (.int p5)]) (rest := []) (lenOf pd__IIIII__B rfl) rfl (by show 2 * 0 + _ ≤ _; exact Nat.le_of_eq rfl) (hb hby at_31) (fun _ _ => ⟨rfl, rfl, (by decide : 2 + 1 ≤ _), (by decide : 1 + 2 ≤ _)⟩)
    dsimp only [Pt.U, Pt.locs, Pt.cells, Pt.slots] at X14 l14 y14 z14 st14 hQ14
    subst l14 y14 z14
    obtain ⟨r14, rfl, N14q, K14, g_r14, s_r14, Aq14⟩ := hQ14
    have ne_b10_r14 : b10 ≠ r14 := Nat.ne_of_lt (Nat.lt_of_lt_of_le A11_b10_h12.lt s_r14)
    have ne_r12_r14 : r12 ≠ r14 := Nat.ne_of_lt (Nat.lt_of_lt_of_le A13_r12.lt s_r14)
    have A11_b10_h14 : own_A Z T14.heap b10 "[B" .byte [] := A11_b10_h12.keep K14 nin0
    have A13_r12_h14 : own_A Z T14.heap r12 "[B" .byte [(.int (p2.toInt8.toInt32))] := A13_r12.keep K14 nin0
    have Zs14 : n0 ≤ T14.heap.size := Nat.le_trans Zs12 K14.1
    have A15_r14 : own_A Z T14.heap r14 "[B" .byte [(.int (p2.toInt8.toInt32)), (.int (p3.toInt8.toInt32))] := Aq14
    have N14 := Fr.app N12 N14q
    refine own_of (fun t k => st14 t k) ?_
    show own_Go p e below KK T14 (mkF m 34 #[.val (.int p1), .val (.int p2), .val (.int p3), .val (.int p4), .val (.int p5), .val (.int 1), .val (.ref b10), .val (.ref r12), .unset, .unset, .unset, .unset, .unset, .unset, .unset, .unset, .unset, .unset, .unset] [(.ref r14)])
    refine own_at (fun t k => XS.astore X14.here hx rfl (hb hby at_34) rfl rfl (l' := #[.val (.int p1), .val (.int p2), .val (.int p3), .val (.int p4), .val (.int p5), .val (.int 1), .val (.ref b10), .val (.ref r12), .val (.ref r14), .unset, .unset, .unset, .unset, .unset, .unset, .unset, .unset, .unset, .unset]) rfl k) ?_
    show own_Go p e below KK T14 (mkF m 36 #[.val (.int p1), .val (.int p2), .val (.int p3), .val (.int p4), .val (.int p5), .val (.int 1), .val (.ref b10), .val (.ref r12), .val (.ref r14), .unset, .unset, .unset, .unset, .unset, .unset, .unset, .unset, .unset, .unset] [])
    refine own_at (fun t k => XS.aload X14.here hx rfl (hb hby at_36) rfl rfl k) ?_
    show own_Go p e below KK T14 (mkF m 38 #[.val (.int p1), .val (.int p2), .val (.int p3), .val (.int p4), .val (.int p5), .val (.int 1), .val (.ref b10), .val (.ref r12), .val (.ref r14), .unset, .unset, .unset, .unset, .unset, .unset, .unset, .unset, .unset, .unset] [(.ref r14)])
    refine own_at (fun t k => XS.iload X14.here hx rfl (hb hby at_38) rfl k) ?_
    show own_Go p e below KK T14 (mkF m 40 #[.val (.int p1), .val (.int p2), .val (.int p3), .val (.int p4), .val (.int p5), .val (.int 1), .val (.ref b10), .val (.ref r12), .val (.ref r14), .unset, .unset, .unset, .unset, .unset, .unset, .unset, .unset, .unset, .unset] [(.int 1), (.ref r14)])
    refine own_at (fun t k => own_ldB X14 hx hZ rfl A15_r14 (j := (1 : Int32)) (i := 1) (v := (.int (p3.toInt8.toInt32))) (by decide) (by decide) rfl (g := (mkF m 40 #[.val (.int p1), .val (.int p2), .val (.int p3), .val (.int p4), .val (.int p5), .val (.int 1), .val (.ref b10), .val (.ref r12), .val (.ref r14), .unset, .unset, .unset, .unset, .unset, .unset, .unset, .unset, .unset, .unset] [(.int 1), (.ref r14)])) rfl rfl (hb hby at_40) t k) ?_
    show own_Go p e below KK T14 (mkF m 41 #[.val (.int p1), .val (.int p2), .val (.int p3), .val (.int p4), .val (.int p5), .val (.int 1), .val (.ref b10), .val (.ref r12), .val (.ref r14), .unset, .unset, .unset, .unset, .unset, .unset, .unset, .unset, .unset, .unset] [(.int (p3.toInt8.toInt32))])
    refine own_at (fun t k => XS.i2l X14.here hx rfl (hb hby at_41) rfl k) ?_
    show own_Go p e below KK T14 (mkF m 42 #[.val (.int p1), .val (.int p2), .val (.int p3), .val (.int p4), .val (.int p5), .val (.int 1), .val (.ref b10), .val (.ref r12), .val (.ref r14), .unset, .unset, .unset, .unset, .unset, .unset, .unset, .unset, .unset, .unset] [(.long ((p3.toInt8.toInt32).toInt64))])
    refine own_at (fun t k => X14.ldc2Long hx hown (mvT hZ (hw _ (List.mem_of_getElem? (i := 5) rfl))) (g := (mkF m 42 #[.val (.int p1), .val (.int p2), .val (.int p3), .val (.int p4), .val (.int p5), .val (.int 1), .val (.ref b10), .val (.ref r12), .val (.ref r14), .unset, .unset, .unset, .unset, .unset, .unset, .unset, .unset, .unset, .unset] [(.long ((p3.toInt8.toInt32).toInt64))])) rfl (hb hby at_42) t k) ?_
    show own_Go p e below KK T14 (mkF m 45 #[.val (.int p1), .val (.int p2), .val (.int p3), .val (.int p4), .val (.int p5), .val (.int 1), .val (.ref b10), .val (.ref r12), .val (.ref r14), .unset, .unset, .unset, .unset, .unset, .unset, .unset, .unset, .unset, .unset] [(.long 255), (.long ((p3.toInt8.toInt32).toInt64))])
    refine own_at (fun t k => XS.land X14.here hx rfl (hb hby at_45) rfl k) ?_
    show own_Go p e below KK T14 (mkF m 46 #[.val (.int p1), .val (.int p2), .val (.int p3), .val (.int p4), .val (.int p5), .val (.int 1), .val (.ref b10), .val (.ref r12), .val (.ref r14), .unset, .unset, .unset, .unset, .unset, .unset, .unset, .unset, .unset, .unset] [(.long (((p3.toInt8.toInt32).toInt64) &&& (255 : Int64)))])
    refine own_at (fun t k => XS.lstore X14.here hx rfl (hb hby at_46) rfl (l' := #[.val (.int p1), .val (.int p2), .val (.int p3), .val (.int p4), .val (.int p5), .val (.int 1), .val (.ref b10), .val (.ref r12), .val (.ref r14), .val (.long (((p3.toInt8.toInt32).toInt64) &&& (255 : Int64))), .second, .unset, .unset, .unset, .unset, .unset, .unset, .unset, .unset]) rfl k) ?_
    show own_Go p e below KK T14 (mkF m 48 #[.val (.int p1), .val (.int p2), .val (.int p3), .val (.int p4), .val (.int p5), .val (.int 1), .val (.ref b10), .val (.ref r12), .val (.ref r14), .val (.long (((p3.toInt8.toInt32).toInt64) &&& (255 : Int64))), .second, .unset, .unset, .unset, .unset, .unset, .unset, .unset, .unset] [])
    refine own_at (fun t k => XS.aload X14.here hx rfl (hb hby at_48) rfl rfl k) ?_
    show own_Go p e below KK T14 (mkF m 50 #[.val (.int p1), .val (.int p2), .val (.int p3), .val (.int p4), .val (.int p5), .val (.int 1), .val (.ref b10), .val (.ref r12), .val (.ref r14), .val (.long (((p3.toInt8.toInt32).toInt64) &&& (255 : Int64))), .second, .unset, .unset, .unset, .unset, .unset, .unset, .unset, .unset] [(.ref b10)])
    obtain ⟨_, _, ⟨T16, L16, k16, n16⟩, -, X16, ⟨Lc16, hQ16, l16, y16, z16⟩, st16⟩ := Jvm.LawKit.callS X14 hx (y := (⟨"com/example/wirecall/wirecall/wire/Fnv1a", "hash64", "([B)J"⟩ : MethodName)) hown (mvT hZ (hw _ (List.mem_of_getElem? (i := 6) rfl))) (mvT hZ (hw _ (List.mem_of_getElem? (i := 7) rfl))) (mvT hZ (hw _ (List.mem_of_getElem? (i := 8) rfl))) (mvT hZ (hw _ (List.mem_of_getElem? (i := 9) rfl))) (by decide) (backOf (W := 0) (rm_hash0 l Z a0 hw [] b10  T14.heap n0 Zs14 A11_b10_h14) hZ (hw _ (List.mem_of_getElem? (i := 9) rfl)) (hw _ (List.mem_of_getElem? (i := 8) rfl)) (by decide) (by decide)) (g := (mkF m 50 #[.val (.int p1), .val (.int p2), .val (.int p3), .val (.int p4), .val (.int p5), .val (.int 1), .val (.ref b10), .val (.ref r12), .val (.ref r14), .val (.long (((p3.toInt8.toInt32).toInt64) &&& (255 : Int64))), .second, .unset, .unset, .unset, .unset, .unset, .unset, .unset, .unset] [(.ref b10)])) rfl (by rw [hml]; rfl) (argsL := [(.ref b10)]) (rest := []) (lenOf pd___B_J rfl) rfl (by show 2 * 0 + _ ≤ _; exact Nat.le_of_eq rfl) (hb hby at_50) (fun _ _ => ⟨rfl, rfl, (by decide : 3 + 0 ≤ _), (by decide : 3 + 0 ≤ _)⟩)
    dsimp only [Pt.U, Pt.locs, Pt.cells, Pt.slots] at X16 l16 y16 z16 st16 hQ16
    subst l16 y16 z16
    obtain ⟨rfl, N16q, e16⟩ := hQ16
    have N16 := Fr.app N14 N16q
    refine own_of (fun t k => st16 t k) ?_
    show own_Go p e below KK T16 (mkF m 53 #[.val (.int p1), .val (.int p2), .val (.int p3), .val (.int p4), .val (.int p5), .val (.int 1), .val (.ref b10), .val (.ref r12), .val (.ref r14), .val (.long (((p3.toInt8.toInt32).toInt64) &&& (255 : Int64))), .second, .unset, .unset, .unset, .unset, .unset, .unset, .unset, .unset] [(.long (own_h []))])
    refine own_at (fun t k => XS.lstore X16.here hx rfl (hb hby at_53) rfl (l' := #[.val (.int p1), .val (.int p2), .val (.int p3), .val (.int p4), .val (.int p5), .val (.int 1), .val (.ref b10), .val (.ref r12), .val (.ref r14), .val (.long (((p3.toInt8.toInt32).toInt64) &&& (255 : Int64))), .second, .val (.long (own_h [])), .second, .unset, .unset, .unset, .unset, .unset, .unset]) rfl k) ?_
    show own_Go p e below KK T16 (mkF m 55 #[.val (.int p1), .val (.int p2), .val (.int p3), .val (.int p4), .val (.int p5), .val (.int 1), .val (.ref b10), .val (.ref r12), .val (.ref r14), .val (.long (((p3.toInt8.toInt32).toInt64) &&& (255 : Int64))), .second, .val (.long (own_h [])), .second, .unset, .unset, .unset, .unset, .unset, .unset] [])
    refine own_at (fun t k => XS.aload X16.here hx rfl (hb hby at_55) rfl rfl k) ?_
    show own_Go p e below KK T16 (mkF m 57 #[.val (.int p1), .val (.int p2), .val (.int p3), .val (.int p4), .val (.int p5), .val (.int 1), .val (.ref b10), .val (.ref r12), .val (.ref r14), .val (.long (((p3.toInt8.toInt32).toInt64) &&& (255 : Int64))), .second, .val (.long (own_h [])), .second, .unset, .unset, .unset, .unset, .unset, .unset] [(.ref r12)])
    obtain ⟨_, _, ⟨T17, L17, k17, n17⟩, -, X17, ⟨Lc17, hQ17, l17, y17, z17⟩, st17⟩ := Jvm.LawKit.callS X16 hx (y := (⟨"com/example/wirecall/wirecall/wire/Fnv1a", "hash64", "([B)J"⟩ : MethodName)) hown (mvT hZ (hw _ (List.mem_of_getElem? (i := 6) rfl))) (mvT hZ (hw _ (List.mem_of_getElem? (i := 7) rfl))) (mvT hZ (hw _ (List.mem_of_getElem? (i := 8) rfl))) (mvT hZ (hw _ (List.mem_of_getElem? (i := 9) rfl))) (by decide) (backOf (W := 0) (rm_hash1 l Z a0 hw [] r12 (p2.toInt8.toInt32) T14.heap n0 Zs14 A13_r12_h14) hZ (hw _ (List.mem_of_getElem? (i := 9) rfl)) (hw _ (List.mem_of_getElem? (i := 8) rfl)) (by decide) (by decide)) (g := (mkF m 57 #[.val (.int p1), .val (.int p2), .val (.int p3), .val (.int p4), .val (.int p5), .val (.int 1), .val (.ref b10), .val (.ref r12), .val (.ref r14), .val (.long (((p3.toInt8.toInt32).toInt64) &&& (255 : Int64))), .second, .val (.long (own_h [])), .second, .unset, .unset, .unset, .unset, .unset, .unset] [(.ref r12)])) rfl (by rw [hml]; rfl) (argsL := [(.ref r12)]) (rest := []) (lenOf pd___B_J rfl) rfl (by show 2 * 0 + _ ≤ _; exact Nat.le_of_eq rfl) (hb hby at_57) (fun _ _ => ⟨rfl, e16, (by decide : 3 + 0 ≤ _), (by decide : 3 + 0 ≤ _)⟩)
    dsimp only [Pt.U, Pt.locs, Pt.cells, Pt.slots] at X17 l17 y17 z17 st17 hQ17
    subst l17 y17 z17
    obtain ⟨rfl, N17q, e17⟩ := hQ17
    have N17 := Fr.app N16 N17q
    refine own_of (fun t k => st17 t k) ?_
    show own_Go p e below KK T17 (mkF m 60 #[.val (.int p1), .val (.int p2), .val (.int p3), .val (.int p4), .val (.int p5), .val (.int 1), .val (.ref b10), .val (.ref r12), .val (.ref r14), .val (.long (((p3.toInt8.toInt32).toInt64) &&& (255 : Int64))), .second, .val (.long (own_h [])), .second, .unset, .unset, .unset, .unset, .unset, .unset] [(.long (own_h [(p2.toInt8.toInt32)]))])
    refine own_at (fun t k => XS.lstore X17.here hx rfl (hb hby at_60) rfl (l' := #[.val (.int p1), .val (.int p2), .val (.int p3), .val (.int p4), .val (.int p5), .val (.int 1), .val (.ref b10), .val (.ref r12), .val (.ref r14), .val (.long (((p3.toInt8.toInt32).toInt64) &&& (255 : Int64))), .second, .val (.long (own_h [])), .second, .val (.long (own_h [(p2.toInt8.toInt32)])), .second, .unset, .unset, .unset, .unset]) rfl k) ?_
    show own_Go p e below KK T17 (mkF m 62 #[.val (.int p1), .val (.int p2), .val (.int p3), .val (.int p4), .val (.int p5), .val (.int 1), .val (.ref b10), .val (.ref r12), .val (.ref r14), .val (.long (((p3.toInt8.toInt32).toInt64) &&& (255 : Int64))), .second, .val (.long (own_h [])), .second, .val (.long (own_h [(p2.toInt8.toInt32)])), .second, .unset, .unset, .unset, .unset] [])
    refine own_at (fun t k => XS.aload X17.here hx rfl (hb hby at_62) rfl rfl k) ?_
    show own_Go p e below KK T17 (mkF m 64 #[.val (.int p1), .val (.int p2), .val (.int p3), .val (.int p4), .val (.int p5), .val (.int 1), .val (.ref b10), .val (.ref r12), .val (.ref r14), .val (.long (((p3.toInt8.toInt32).toInt64) &&& (255 : Int64))), .second, .val (.long (own_h [])), .second, .val (.long (own_h [(p2.toInt8.toInt32)])), .second, .unset, .unset, .unset, .unset] [(.ref r14)])
    obtain ⟨_, _, ⟨T18, L18, k18, n18⟩, -, X18, ⟨Lc18, hQ18, l18, y18, z18⟩, st18⟩ := Jvm.LawKit.callS X17 hx (y := (⟨"com/example/wirecall/wirecall/wire/Fnv1a", "hash64", "([B)J"⟩ : MethodName)) hown (mvT hZ (hw _ (List.mem_of_getElem? (i := 6) rfl))) (mvT hZ (hw _ (List.mem_of_getElem? (i := 7) rfl))) (mvT hZ (hw _ (List.mem_of_getElem? (i := 8) rfl))) (mvT hZ (hw _ (List.mem_of_getElem? (i := 9) rfl))) (by decide) (backOf (W := 0) (rm_hash2 l Z a0 hw [] r14 (p2.toInt8.toInt32) (p3.toInt8.toInt32) T14.heap n0 Zs14 A15_r14) hZ (hw _ (List.mem_of_getElem? (i := 9) rfl)) (hw _ (List.mem_of_getElem? (i := 8) rfl)) (by decide) (by decide)) (g := (mkF m 64 #[.val (.int p1), .val (.int p2), .val (.int p3), .val (.int p4), .val (.int p5), .val (.int 1), .val (.ref b10), .val (.ref r12), .val (.ref r14), .val (.long (((p3.toInt8.toInt32).toInt64) &&& (255 : Int64))), .second, .val (.long (own_h [])), .second, .val (.long (own_h [(p2.toInt8.toInt32)])), .second, .unset, .unset, .unset, .unset] [(.ref r14)])) rfl (by rw [hml]; rfl) (argsL := [(.ref r14)]) (rest := []) (lenOf pd___B_J rfl) rfl (by show 2 * 0 + _ ≤ _; exact Nat.le_of_eq rfl) (hb hby at_64) (fun _ _ => ⟨rfl, e17, (by decide : 3 + 0 ≤ _), (by decide : 3 + 0 ≤ _)⟩)
    dsimp only [Pt.U, Pt.locs, Pt.cells, Pt.slots] at X18 l18 y18 z18 st18 hQ18
    subst l18 y18 z18
    obtain ⟨rfl, N18q, e18⟩ := hQ18
    have N18 := Fr.app N17 N18q
    refine own_of (fun t k => st18 t k) ?_
    show own_Go p e below KK T18 (mkF m 67 #[.val (.int p1), .val (.int p2), .val (.int p3), .val (.int p4), .val (.int p5), .val (.int 1), .val (.ref b10), .val (.ref r12), .val (.ref r14), .val (.long (((p3.toInt8.toInt32).toInt64) &&& (255 : Int64))), .second, .val (.long (own_h [])), .second, .val (.long (own_h [(p2.toInt8.toInt32)])), .second, .unset, .unset, .unset, .unset] [(.long (own_h [(p2.toInt8.toInt32), (p3.toInt8.toInt32)]))])
    refine own_at (fun t k => XS.lstore X18.here hx rfl (hb hby at_67) rfl (l' := #[.val (.int p1), .val (.int p2), .val (.int p3), .val (.int p4), .val (.int p5), .val (.int 1), .val (.ref b10), .val (.ref r12), .val (.ref r14), .val (.long (((p3.toInt8.toInt32).toInt64) &&& (255 : Int64))), .second, .val (.long (own_h [])), .second, .val (.long (own_h [(p2.toInt8.toInt32)])), .second, .val (.long (own_h [(p2.toInt8.toInt32), (p3.toInt8.toInt32)])), .second, .unset, .unset]) rfl k) ?_
    show own_Go p e below KK T18 (mkF m 69 #[.val (.int p1), .val (.int p2), .val (.int p3), .val (.int p4), .val (.int p5), .val (.int 1), .val (.ref b10), .val (.ref r12), .val (.ref r14), .val (.long (((p3.toInt8.toInt32).toInt64) &&& (255 : Int64))), .second, .val (.long (own_h [])), .second, .val (.long (own_h [(p2.toInt8.toInt32)])), .second, .val (.long (own_h [(p2.toInt8.toInt32), (p3.toInt8.toInt32)])), .second, .unset, .unset] [])
    refine own_at (fun t k => XS.lload X18.here hx rfl (hb hby at_69) rfl k) ?_
    show own_Go p e below KK T18 (mkF m 71 #[.val (.int p1), .val (.int p2), .val (.int p3), .val (.int p4), .val (.int p5), .val (.int 1), .val (.ref b10), .val (.ref r12), .val (.ref r14), .val (.long (((p3.toInt8.toInt32).toInt64) &&& (255 : Int64))), .second, .val (.long (own_h [])), .second, .val (.long (own_h [(p2.toInt8.toInt32)])), .second, .val (.long (own_h [(p2.toInt8.toInt32), (p3.toInt8.toInt32)])), .second, .unset, .unset] [(.long (own_h []))])
    refine own_at (fun t k => X18.ldc2Long hx hown (mvT hZ (hw _ (List.mem_of_getElem? (i := 13) rfl))) (g := (mkF m 71 #[.val (.int p1), .val (.int p2), .val (.int p3), .val (.int p4), .val (.int p5), .val (.int 1), .val (.ref b10), .val (.ref r12), .val (.ref r14), .val (.long (((p3.toInt8.toInt32).toInt64) &&& (255 : Int64))), .second, .val (.long (own_h [])), .second, .val (.long (own_h [(p2.toInt8.toInt32)])), .second, .val (.long (own_h [(p2.toInt8.toInt32), (p3.toInt8.toInt32)])), .second, .unset, .unset] [(.long (own_h []))])) rfl (hb hby at_71) t k) ?_
    show own_Go p e below KK T18 (mkF m 74 #[.val (.int p1), .val (.int p2), .val (.int p3), .val (.int p4), .val (.int p5), .val (.int 1), .val (.ref b10), .val (.ref r12), .val (.ref r14), .val (.long (((p3.toInt8.toInt32).toInt64) &&& (255 : Int64))), .second, .val (.long (own_h [])), .second, .val (.long (own_h [(p2.toInt8.toInt32)])), .second, .val (.long (own_h [(p2.toInt8.toInt32), (p3.toInt8.toInt32)])), .second, .unset, .unset] [(.long (-3750763034362895579 : Int64)), (.long (own_h []))])
    refine own_at (fun t k => Jvm.Free.XT.lcmp X18.here hx rfl (hb hby at_74) rfl k) ?_
    show own_Go p e below KK T18 (mkF m 75 #[.val (.int p1), .val (.int p2), .val (.int p3), .val (.int p4), .val (.int p5), .val (.int 1), .val (.ref b10), .val (.ref r12), .val (.ref r14), .val (.long (((p3.toInt8.toInt32).toInt64) &&& (255 : Int64))), .second, .val (.long (own_h [])), .second, .val (.long (own_h [(p2.toInt8.toInt32)])), .second, .val (.long (own_h [(p2.toInt8.toInt32), (p3.toInt8.toInt32)])), .second, .unset, .unset] [(.int (Jvm.Free.XT.cmpL (own_h []) (-3750763034362895579 : Int64)))])
    have hc75 : (own_h []) = (-3750763034362895579 : Int64) := rfl
    refine own_at (fun t k => XS.ifNo X18.here hx rfl (hb hby at_75) rfl (Jvm.Free.XT.ll_ne_f hc75) k) ?_
    show own_Go p e below KK T18 (mkF m 78 #[.val (.int p1), .val (.int p2), .val (.int p3), .val (.int p4), .val (.int p5), .val (.int 1), .val (.ref b10), .val (.ref r12), .val (.ref r14), .val (.long (((p3.toInt8.toInt32).toInt64) &&& (255 : Int64))), .second, .val (.long (own_h [])), .second, .val (.long (own_h [(p2.toInt8.toInt32)])), .second, .val (.long (own_h [(p2.toInt8.toInt32), (p3.toInt8.toInt32)])), .second, .unset, .unset] [])
    refine own_at (fun t k => XS.iconst X18.here hx rfl (hb hby at_78) k) ?_
    show own_Go p e below KK T18 (mkF m 79 #[.val (.int p1), .val (.int p2), .val (.int p3), .val (.int p4), .val (.int p5), .val (.int 1), .val (.ref b10), .val (.ref r12), .val (.ref r14), .val (.long (((p3.toInt8.toInt32).toInt64) &&& (255 : Int64))), .second, .val (.long (own_h [])), .second, .val (.long (own_h [(p2.toInt8.toInt32)])), .second, .val (.long (own_h [(p2.toInt8.toInt32), (p3.toInt8.toInt32)])), .second, .unset, .unset] [(.int 1)])
    refine own_at (fun t k => XS.goto X18.here hx rfl (pc0 := 79) (pc' := 83) rfl (hb hby at_79) (by decide) (by decide) k) ?_
    show own_Go p e below KK T18 (mkF m 83 #[.val (.int p1), .val (.int p2), .val (.int p3), .val (.int p4), .val (.int p5), .val (.int 1), .val (.ref b10), .val (.ref r12), .val (.ref r14), .val (.long (((p3.toInt8.toInt32).toInt64) &&& (255 : Int64))), .second, .val (.long (own_h [])), .second, .val (.long (own_h [(p2.toInt8.toInt32)])), .second, .val (.long (own_h [(p2.toInt8.toInt32), (p3.toInt8.toInt32)])), .second, .unset, .unset] [(.int 1)])
    refine own_at (fun t k => XS.istore X18.here hx rfl (hb hby at_83) rfl (l' := #[.val (.int p1), .val (.int p2), .val (.int p3), .val (.int p4), .val (.int p5), .val (.int 1), .val (.ref b10), .val (.ref r12), .val (.ref r14), .val (.long (((p3.toInt8.toInt32).toInt64) &&& (255 : Int64))), .second, .val (.long (own_h [])), .second, .val (.long (own_h [(p2.toInt8.toInt32)])), .second, .val (.long (own_h [(p2.toInt8.toInt32), (p3.toInt8.toInt32)])), .second, .val (.int 1), .unset]) rfl k) ?_
    show own_Go p e below KK T18 (mkF m 85 #[.val (.int p1), .val (.int p2), .val (.int p3), .val (.int p4), .val (.int p5), .val (.int 1), .val (.ref b10), .val (.ref r12), .val (.ref r14), .val (.long (((p3.toInt8.toInt32).toInt64) &&& (255 : Int64))), .second, .val (.long (own_h [])), .second, .val (.long (own_h [(p2.toInt8.toInt32)])), .second, .val (.long (own_h [(p2.toInt8.toInt32), (p3.toInt8.toInt32)])), .second, .val (.int 1), .unset] [])
    refine own_at (fun t k => XS.lload X18.here hx rfl (hb hby at_85) rfl k) ?_
    show own_Go p e below KK T18 (mkF m 87 #[.val (.int p1), .val (.int p2), .val (.int p3), .val (.int p4), .val (.int p5), .val (.int 1), .val (.ref b10), .val (.ref r12), .val (.ref r14), .val (.long (((p3.toInt8.toInt32).toInt64) &&& (255 : Int64))), .second, .val (.long (own_h [])), .second, .val (.long (own_h [(p2.toInt8.toInt32)])), .second, .val (.long (own_h [(p2.toInt8.toInt32), (p3.toInt8.toInt32)])), .second, .val (.int 1), .unset] [(.long (own_h [(p2.toInt8.toInt32), (p3.toInt8.toInt32)]))])
    refine own_at (fun t k => XS.lload X18.here hx rfl (hb hby at_87) rfl k) ?_
    show own_Go p e below KK T18 (mkF m 89 #[.val (.int p1), .val (.int p2), .val (.int p3), .val (.int p4), .val (.int p5), .val (.int 1), .val (.ref b10), .val (.ref r12), .val (.ref r14), .val (.long (((p3.toInt8.toInt32).toInt64) &&& (255 : Int64))), .second, .val (.long (own_h [])), .second, .val (.long (own_h [(p2.toInt8.toInt32)])), .second, .val (.long (own_h [(p2.toInt8.toInt32), (p3.toInt8.toInt32)])), .second, .val (.int 1), .unset] [(.long (own_h [(p2.toInt8.toInt32)])), (.long (own_h [(p2.toInt8.toInt32), (p3.toInt8.toInt32)]))])
    refine own_at (fun t k => XS.lload X18.here hx rfl (hb hby at_89) rfl k) ?_
    show own_Go p e below KK T18 (mkF m 91 #[.val (.int p1), .val (.int p2), .val (.int p3), .val (.int p4), .val (.int p5), .val (.int 1), .val (.ref b10), .val (.ref r12), .val (.ref r14), .val (.long (((p3.toInt8.toInt32).toInt64) &&& (255 : Int64))), .second, .val (.long (own_h [])), .second, .val (.long (own_h [(p2.toInt8.toInt32)])), .second, .val (.long (own_h [(p2.toInt8.toInt32), (p3.toInt8.toInt32)])), .second, .val (.int 1), .unset] [(.long (((p3.toInt8.toInt32).toInt64) &&& (255 : Int64))), (.long (own_h [(p2.toInt8.toInt32)])), (.long (own_h [(p2.toInt8.toInt32), (p3.toInt8.toInt32)]))])
    refine own_at (fun t k => XS.lxor X18.here hx rfl (hb hby at_91) rfl k) ?_
    show own_Go p e below KK T18 (mkF m 92 #[.val (.int p1), .val (.int p2), .val (.int p3), .val (.int p4), .val (.int p5), .val (.int 1), .val (.ref b10), .val (.ref r12), .val (.ref r14), .val (.long (((p3.toInt8.toInt32).toInt64) &&& (255 : Int64))), .second, .val (.long (own_h [])), .second, .val (.long (own_h [(p2.toInt8.toInt32)])), .second, .val (.long (own_h [(p2.toInt8.toInt32), (p3.toInt8.toInt32)])), .second, .val (.int 1), .unset] [(.long ((own_h [(p2.toInt8.toInt32)]) ^^^ (((p3.toInt8.toInt32).toInt64) &&& (255 : Int64)))), (.long (own_h [(p2.toInt8.toInt32), (p3.toInt8.toInt32)]))])
    refine own_at (fun t k => X18.ldc2Long hx hown (mvT hZ (hw _ (List.mem_of_getElem? (i := 14) rfl))) (g := (mkF m 92 #[.val (.int p1), .val (.int p2), .val (.int p3), .val (.int p4), .val (.int p5), .val (.int 1), .val (.ref b10), .val (.ref r12), .val (.ref r14), .val (.long (((p3.toInt8.toInt32).toInt64) &&& (255 : Int64))), .second, .val (.long (own_h [])), .second, .val (.long (own_h [(p2.toInt8.toInt32)])), .second, .val (.long (own_h [(p2.toInt8.toInt32), (p3.toInt8.toInt32)])), .second, .val (.int 1), .unset] [(.long ((own_h [(p2.toInt8.toInt32)]) ^^^ (((p3.toInt8.toInt32).toInt64) &&& (255 : Int64)))), (.long (own_h [(p2.toInt8.toInt32), (p3.toInt8.toInt32)]))])) rfl (hb hby at_92) t k) ?_
    show own_Go p e below KK T18 (mkF m 95 #[.val (.int p1), .val (.int p2), .val (.int p3), .val (.int p4), .val (.int p5), .val (.int 1), .val (.ref b10), .val (.ref r12), .val (.ref r14), .val (.long (((p3.toInt8.toInt32).toInt64) &&& (255 : Int64))), .second, .val (.long (own_h [])), .second, .val (.long (own_h [(p2.toInt8.toInt32)])), .second, .val (.long (own_h [(p2.toInt8.toInt32), (p3.toInt8.toInt32)])), .second, .val (.int 1), .unset] [(.long 1099511628211), (.long ((own_h [(p2.toInt8.toInt32)]) ^^^ (((p3.toInt8.toInt32).toInt64) &&& (255 : Int64)))), (.long (own_h [(p2.toInt8.toInt32), (p3.toInt8.toInt32)]))])
    refine own_at (fun t k => XS.lmul X18.here hx rfl (hb hby at_95) rfl k) ?_
    show own_Go p e below KK T18 (mkF m 96 #[.val (.int p1), .val (.int p2), .val (.int p3), .val (.int p4), .val (.int p5), .val (.int 1), .val (.ref b10), .val (.ref r12), .val (.ref r14), .val (.long (((p3.toInt8.toInt32).toInt64) &&& (255 : Int64))), .second, .val (.long (own_h [])), .second, .val (.long (own_h [(p2.toInt8.toInt32)])), .second, .val (.long (own_h [(p2.toInt8.toInt32), (p3.toInt8.toInt32)])), .second, .val (.int 1), .unset] [(.long (((own_h [(p2.toInt8.toInt32)]) ^^^ (((p3.toInt8.toInt32).toInt64) &&& (255 : Int64))) * (1099511628211 : Int64))), (.long (own_h [(p2.toInt8.toInt32), (p3.toInt8.toInt32)]))])
    refine own_at (fun t k => Jvm.Free.XT.lcmp X18.here hx rfl (hb hby at_96) rfl k) ?_
    show own_Go p e below KK T18 (mkF m 97 #[.val (.int p1), .val (.int p2), .val (.int p3), .val (.int p4), .val (.int p5), .val (.int 1), .val (.ref b10), .val (.ref r12), .val (.ref r14), .val (.long (((p3.toInt8.toInt32).toInt64) &&& (255 : Int64))), .second, .val (.long (own_h [])), .second, .val (.long (own_h [(p2.toInt8.toInt32)])), .second, .val (.long (own_h [(p2.toInt8.toInt32), (p3.toInt8.toInt32)])), .second, .val (.int 1), .unset] [(.int (Jvm.Free.XT.cmpL (own_h [(p2.toInt8.toInt32), (p3.toInt8.toInt32)]) (((own_h [(p2.toInt8.toInt32)]) ^^^ (((p3.toInt8.toInt32).toInt64) &&& (255 : Int64))) * (1099511628211 : Int64))))])
    have hc97 : (own_h [(p2.toInt8.toInt32), (p3.toInt8.toInt32)]) = (((own_h [(p2.toInt8.toInt32)]) ^^^ (((p3.toInt8.toInt32).toInt64) &&& (255 : Int64))) * (1099511628211 : Int64)) := rfl
    refine own_at (fun t k => XS.ifNo X18.here hx rfl (hb hby at_97) rfl (Jvm.Free.XT.ll_ne_f hc97) k) ?_
    show own_Go p e below KK T18 (mkF m 100 #[.val (.int p1), .val (.int p2), .val (.int p3), .val (.int p4), .val (.int p5), .val (.int 1), .val (.ref b10), .val (.ref r12), .val (.ref r14), .val (.long (((p3.toInt8.toInt32).toInt64) &&& (255 : Int64))), .second, .val (.long (own_h [])), .second, .val (.long (own_h [(p2.toInt8.toInt32)])), .second, .val (.long (own_h [(p2.toInt8.toInt32), (p3.toInt8.toInt32)])), .second, .val (.int 1), .unset] [])
    refine own_at (fun t k => XS.iconst X18.here hx rfl (hb hby at_100) k) ?_
    show own_Go p e below KK T18 (mkF m 101 #[.val (.int p1), .val (.int p2), .val (.int p3), .val (.int p4), .val (.int p5), .val (.int 1), .val (.ref b10), .val (.ref r12), .val (.ref r14), .val (.long (((p3.toInt8.toInt32).toInt64) &&& (255 : Int64))), .second, .val (.long (own_h [])), .second, .val (.long (own_h [(p2.toInt8.toInt32)])), .second, .val (.long (own_h [(p2.toInt8.toInt32), (p3.toInt8.toInt32)])), .second, .val (.int 1), .unset] [(.int 1)])
    refine own_at (fun t k => XS.goto X18.here hx rfl (pc0 := 101) (pc' := 105) rfl (hb hby at_101) (by decide) (by decide) k) ?_
    show own_Go p e below KK T18 (mkF m 105 #[.val (.int p1), .val (.int p2), .val (.int p3), .val (.int p4), .val (.int p5), .val (.int 1), .val (.ref b10), .val (.ref r12), .val (.ref r14), .val (.long (((p3.toInt8.toInt32).toInt64) &&& (255 : Int64))), .second, .val (.long (own_h [])), .second, .val (.long (own_h [(p2.toInt8.toInt32)])), .second, .val (.long (own_h [(p2.toInt8.toInt32), (p3.toInt8.toInt32)])), .second, .val (.int 1), .unset] [(.int 1)])
    refine own_at (fun t k => XS.istore X18.here hx rfl (hb hby at_105) rfl (l' := #[.val (.int p1), .val (.int p2), .val (.int p3), .val (.int p4), .val (.int p5), .val (.int 1), .val (.ref b10), .val (.ref r12), .val (.ref r14), .val (.long (((p3.toInt8.toInt32).toInt64) &&& (255 : Int64))), .second, .val (.long (own_h [])), .second, .val (.long (own_h [(p2.toInt8.toInt32)])), .second, .val (.long (own_h [(p2.toInt8.toInt32), (p3.toInt8.toInt32)])), .second, .val (.int 1), .val (.int 1)]) rfl k) ?_
    show own_Go p e below KK T18 (mkF m 107 #[.val (.int p1), .val (.int p2), .val (.int p3), .val (.int p4), .val (.int p5), .val (.int 1), .val (.ref b10), .val (.ref r12), .val (.ref r14), .val (.long (((p3.toInt8.toInt32).toInt64) &&& (255 : Int64))), .second, .val (.long (own_h [])), .second, .val (.long (own_h [(p2.toInt8.toInt32)])), .second, .val (.long (own_h [(p2.toInt8.toInt32), (p3.toInt8.toInt32)])), .second, .val (.int 1), .val (.int 1)] [])
    refine own_at (fun t k => XS.iload X18.here hx rfl (hb hby at_107) rfl k) ?_
    show own_Go p e below KK T18 (mkF m 109 #[.val (.int p1), .val (.int p2), .val (.int p3), .val (.int p4), .val (.int p5), .val (.int 1), .val (.ref b10), .val (.ref r12), .val (.ref r14), .val (.long (((p3.toInt8.toInt32).toInt64) &&& (255 : Int64))), .second, .val (.long (own_h [])), .second, .val (.long (own_h [(p2.toInt8.toInt32)])), .second, .val (.long (own_h [(p2.toInt8.toInt32), (p3.toInt8.toInt32)])), .second, .val (.int 1), .val (.int 1)] [(.int 1)])
    have hc109 : ¬ ((1 : Int32) = (0 : Int32)) := by decide
    refine own_at (fun t k => XS.ifNo X18.here hx rfl (hb hby at_109) rfl (Jvm.Free.XT.i0_eq_f hc109) k) ?_
    show own_Go p e below KK T18 (mkF m 112 #[.val (.int p1), .val (.int p2), .val (.int p3), .val (.int p4), .val (.int p5), .val (.int 1), .val (.ref b10), .val (.ref r12), .val (.ref r14), .val (.long (((p3.toInt8.toInt32).toInt64) &&& (255 : Int64))), .second, .val (.long (own_h [])), .second, .val (.long (own_h [(p2.toInt8.toInt32)])), .second, .val (.long (own_h [(p2.toInt8.toInt32), (p3.toInt8.toInt32)])), .second, .val (.int 1), .val (.int 1)] [])
    refine own_at (fun t k => XS.iload X18.here hx rfl (hb hby at_112) rfl k) ?_
    show own_Go p e below KK T18 (mkF m 114 #[.val (.int p1), .val (.int p2), .val (.int p3), .val (.int p4), .val (.int p5), .val (.int 1), .val (.ref b10), .val (.ref r12), .val (.ref r14), .val (.long (((p3.toInt8.toInt32).toInt64) &&& (255 : Int64))), .second, .val (.long (own_h [])), .second, .val (.long (own_h [(p2.toInt8.toInt32)])), .second, .val (.long (own_h [(p2.toInt8.toInt32), (p3.toInt8.toInt32)])), .second, .val (.int 1), .val (.int 1)] [(.int 1)])
    have hc114 : ¬ ((1 : Int32) = (0 : Int32)) := by decide
    refine own_at (fun t k => XS.ifNo X18.here hx rfl (hb hby at_114) rfl (Jvm.Free.XT.i0_eq_f hc114) k) ?_
    show own_Go p e below KK T18 (mkF m 117 #[.val (.int p1), .val (.int p2), .val (.int p3), .val (.int p4), .val (.int p5), .val (.int 1), .val (.ref b10), .val (.ref r12), .val (.ref r14), .val (.long (((p3.toInt8.toInt32).toInt64) &&& (255 : Int64))), .second, .val (.long (own_h [])), .second, .val (.long (own_h [(p2.toInt8.toInt32)])), .second, .val (.long (own_h [(p2.toInt8.toInt32), (p3.toInt8.toInt32)])), .second, .val (.int 1), .val (.int 1)] [])
    refine own_at (fun t k => XS.iconst X18.here hx rfl (hb hby at_117) k) ?_
    show own_Go p e below KK T18 (mkF m 118 #[.val (.int p1), .val (.int p2), .val (.int p3), .val (.int p4), .val (.int p5), .val (.int 1), .val (.ref b10), .val (.ref r12), .val (.ref r14), .val (.long (((p3.toInt8.toInt32).toInt64) &&& (255 : Int64))), .second, .val (.long (own_h [])), .second, .val (.long (own_h [(p2.toInt8.toInt32)])), .second, .val (.long (own_h [(p2.toInt8.toInt32), (p3.toInt8.toInt32)])), .second, .val (.int 1), .val (.int 1)] [(.int 1)])
    refine own_at (fun t k => XS.goto X18.here hx rfl (pc0 := 118) (pc' := 122) rfl (hb hby at_118) (by decide) (by decide) k) ?_
    show own_Go p e below KK T18 (mkF m 122 #[.val (.int p1), .val (.int p2), .val (.int p3), .val (.int p4), .val (.int p5), .val (.int 1), .val (.ref b10), .val (.ref r12), .val (.ref r14), .val (.long (((p3.toInt8.toInt32).toInt64) &&& (255 : Int64))), .second, .val (.long (own_h [])), .second, .val (.long (own_h [(p2.toInt8.toInt32)])), .second, .val (.long (own_h [(p2.toInt8.toInt32), (p3.toInt8.toInt32)])), .second, .val (.int 1), .val (.int 1)] [(.int 1)])
    subst hKK
    exact own_retN X18 hx hlk (t := .boolean) Bd.returns (by simp) (hb hby at_122) (w := (1 : Int32)) (show nar .boolean (1 : Int32) = 1 from by decide) ⟨rfl, N18⟩ (Nat.le_of_ble_eq_true rfl) (Nat.le_of_ble_eq_true rfl)
  · show own_Go p e below KK s₁ (mkF m 3 #[.val (.int p1), .val (.int p2), .val (.int p3), .val (.int p4), .val (.int p5), .unset, .unset, .unset, .unset, .unset, .unset, .unset, .unset, .unset, .unset, .unset, .unset, .unset, .unset] [(.int 2)])
    refine own_at (fun t k => XS.istore X0.here hx rfl (hb hby at_3) rfl (l' := #[.val (.int p1), .val (.int p2), .val (.int p3), .val (.int p4), .val (.int p5), .val (.int 2), .unset, .unset, .unset, .unset, .unset, .unset, .unset, .unset, .unset, .unset, .unset, .unset, .unset]) rfl k) ?_
    show own_Go p e below KK s₁ (mkF m 5 #[.val (.int p1), .val (.int p2), .val (.int p3), .val (.int p4), .val (.int p5), .val (.int 2), .unset, .unset, .unset, .unset, .unset, .unset, .unset, .unset, .unset, .unset, .unset, .unset, .unset] [])
    refine own_at (fun t k => XS.iconst X0.here hx rfl (hb hby at_5) k) ?_
    show own_Go p e below KK s₁ (mkF m 6 #[.val (.int p1), .val (.int p2), .val (.int p3), .val (.int p4), .val (.int p5), .val (.int 2), .unset, .unset, .unset, .unset, .unset, .unset, .unset, .unset, .unset, .unset, .unset, .unset, .unset] [(.int 0)])
    obtain ⟨T19, h19, X19, e19, E19, V19, st19⟩ := own_newA X0 hx hZ (hw _ (List.mem_of_getElem? (i := 0) rfl)) e0 (g := (mkF m 6 #[.val (.int p1), .val (.int p2), .val (.int p3), .val (.int p4), .val (.int p5), .val (.int 2), .unset, .unset, .unset, .unset, .unset, .unset, .unset, .unset, .unset, .unset, .unset, .unset, .unset] [(.int 0)])) rfl (hb hby at_6) rfl (by decide) (N := 0) (by decide) (cap := 0) (by decide) (by decide) (by decide) (by decide) (d := "[B") (by first | rfl | decide +kernel) (vs := []) rfl
    obtain ⟨b19, g19⟩ : ∃ z, z = h0.size := ⟨_, rfl⟩
    rw [← g19] at V19 st19
    have g_b19 : n0 ≤ b19 := by rw [g19]; exact Z0
    have Zs19 : n0 ≤ h19.size := Nat.le_trans Z0 E19.1
    have A20_b19 : own_A Z h19 b19 "[B" .byte [] := V19
    refine own_of (fun t k => st19 t k) ?_
    show own_Go p e below KK T19 (mkF m 8 #[.val (.int p1), .val (.int p2), .val (.int p3), .val (.int p4), .val (.int p5), .val (.int 2), .unset, .unset, .unset, .unset, .unset, .unset, .unset, .unset, .unset, .unset, .unset, .unset, .unset] [(.ref b19)])
    refine own_at (fun t k => XS.astore X19.here hx rfl (hb hby at_8) rfl rfl (l' := #[.val (.int p1), .val (.int p2), .val (.int p3), .val (.int p4), .val (.int p5), .val (.int 2), .val (.ref b19), .unset, .unset, .unset, .unset, .unset, .unset, .unset, .unset, .unset, .unset, .unset, .unset]) rfl k) ?_
    show own_Go p e below KK T19 (mkF m 10 #[.val (.int p1), .val (.int p2), .val (.int p3), .val (.int p4), .val (.int p5), .val (.int 2), .val (.ref b19), .unset, .unset, .unset, .unset, .unset, .unset, .unset, .unset, .unset, .unset, .unset, .unset] [])
    refine own_at (fun t k => XS.iload X19.here hx rfl (hb hby at_10) rfl k) ?_
    show own_Go p e below KK T19 (mkF m 12 #[.val (.int p1), .val (.int p2), .val (.int p3), .val (.int p4), .val (.int p5), .val (.int 2), .val (.ref b19), .unset, .unset, .unset, .unset, .unset, .unset, .unset, .unset, .unset, .unset, .unset, .unset] [(.int 2)])
    refine own_at (fun t k => XS.iloadN X19.here hx rfl (hb hby at_12) rfl k) ?_
    show own_Go p e below KK T19 (mkF m 13 #[.val (.int p1), .val (.int p2), .val (.int p3), .val (.int p4), .val (.int p5), .val (.int 2), .val (.ref b19), .unset, .unset, .unset, .unset, .unset, .unset, .unset, .unset, .unset, .unset, .unset, .unset] [(.int p2), (.int 2)])
    refine own_at (fun t k => XS.iloadN X19.here hx rfl (hb hby at_13) rfl k) ?_
    show own_Go p e below KK T19 (mkF m 14 #[.val (.int p1), .val (.int p2), .val (.int p3), .val (.int p4), .val (.int p5), .val (.int 2), .val (.ref b19), .unset, .unset, .unset, .unset, .unset, .unset, .unset, .unset, .unset, .unset, .unset, .unset] [(.int p3), (.int p2), (.int 2)])
    refine own_at (fun t k => XS.iloadN X19.here hx rfl (hb hby at_14) rfl k) ?_
    show own_Go p e below KK T19 (mkF m 15 #[.val (.int p1), .val (.int p2), .val (.int p3), .val (.int p4), .val (.int p5), .val (.int 2), .val (.ref b19), .unset, .unset, .unset, .unset, .unset, .unset, .unset, .unset, .unset, .unset, .unset, .unset] [(.int p4), (.int p3), (.int p2), (.int 2)])
    refine own_at (fun t k => XS.iload X19.here hx rfl (hb hby at_15) rfl k) ?_
    show own_Go p e below KK T19 (mkF m 17 #[.val (.int p1), .val (.int p2), .val (.int p3), .val (.int p4), .val (.int p5), .val (.int 2), .val (.ref b19), .unset, .unset, .unset, .unset, .unset, .unset, .unset, .unset, .unset, .unset, .unset, .unset] [(.int p5), (.int p4), (.int p3), (.int p2), (.int 2)])
    obtain ⟨_, _, ⟨T21, L21, k21, n21⟩, -, X21, ⟨Lc21, hQ21, l21, y21, z21⟩, st21⟩ := Jvm.LawKit.callS X19 hx (y := (⟨"com/example/wirecall/wirecall/wire/Fnv1aHash64PinLaw", "fill", "(IIIII)[B"⟩ : MethodName)) hown (mvT hZ (hw _ (List.mem_of_getElem? (i := 1) rfl))) (mvT hZ (hw _ (List.mem_of_getElem? (i := 2) rfl))) (mvT hZ (hw _ (List.mem_of_getElem? (i := 3) rfl))) (mvT hZ (hw _ (List.mem_of_getElem? (i := 4) rfl))) (by decide) (backOf (W := 0) (rm_fill2 l Z a0 hw [] p2 p3 p4 p5  h19 n0 Zs19 ) hZ (hw _ (List.mem_of_getElem? (i := 4) rfl)) (hw _ (List.mem_of_getElem? (i := 3) rfl)) (by decide) (by decide)) (g := (mkF m 17 #[.val (.int p1), .val (.int p2), .val (.int p3), .val (.int p4), .val (.int p5), .val (.int 2), .val (.ref b19), .unset, .unset, .unset, .unset, .unset, .unset, .unset, .unset, .unset, .unset, .unset, .unset] [(.int p5), (.int p4), (.int p3), (.int p2), (.int 2)])) rfl (by rw [hml]; rfl) (argsL := [(.int 2), (.int p2), (.int p3), (.int p4), (.int p5)]) (rest := []) (lenOf pd__IIIII__B rfl) rfl (by show 2 * 0 + _ ≤ _; exact Nat.le_of_eq rfl) (hb hby at_17) (fun _ _ => ⟨rfl, e19, (by decide : 1 + 1 ≤ _), (by decide : 0 + 2 ≤ _)⟩)
    dsimp only [Pt.U, Pt.locs, Pt.cells, Pt.slots] at X21 l21 y21 z21 st21 hQ21
    subst l21 y21 z21
    obtain ⟨r21, rfl, N21q, K21, g_r21, s_r21, Aq21⟩ := hQ21
    have ne_b19_r21 : b19 ≠ r21 := Nat.ne_of_lt (Nat.lt_of_lt_of_le A20_b19.lt s_r21)
    have A20_b19_h21 : own_A Z T21.heap b19 "[B" .byte [] := A20_b19.keep K21 nin0
    have Zs21 : n0 ≤ T21.heap.size := Nat.le_trans Zs19 K21.1
    have A22_r21 : own_A Z T21.heap r21 "[B" .byte [(.int (p2.toInt8.toInt32)), (.int (p3.toInt8.toInt32))] := Aq21
    have N21 := Fr.app N0 N21q
    refine own_of (fun t k => st21 t k) ?_
    show own_Go p e below KK T21 (mkF m 20 #[.val (.int p1), .val (.int p2), .val (.int p3), .val (.int p4), .val (.int p5), .val (.int 2), .val (.ref b19), .unset, .unset, .unset, .unset, .unset, .unset, .unset, .unset, .unset, .unset, .unset, .unset] [(.ref r21)])
    refine own_at (fun t k => XS.astore X21.here hx rfl (hb hby at_20) rfl rfl (l' := #[.val (.int p1), .val (.int p2), .val (.int p3), .val (.int p4), .val (.int p5), .val (.int 2), .val (.ref b19), .val (.ref r21), .unset, .unset, .unset, .unset, .unset, .unset, .unset, .unset, .unset, .unset, .unset]) rfl k) ?_
    show own_Go p e below KK T21 (mkF m 22 #[.val (.int p1), .val (.int p2), .val (.int p3), .val (.int p4), .val (.int p5), .val (.int 2), .val (.ref b19), .val (.ref r21), .unset, .unset, .unset, .unset, .unset, .unset, .unset, .unset, .unset, .unset, .unset] [])
    refine own_at (fun t k => XS.iload X21.here hx rfl (hb hby at_22) rfl k) ?_
    show own_Go p e below KK T21 (mkF m 24 #[.val (.int p1), .val (.int p2), .val (.int p3), .val (.int p4), .val (.int p5), .val (.int 2), .val (.ref b19), .val (.ref r21), .unset, .unset, .unset, .unset, .unset, .unset, .unset, .unset, .unset, .unset, .unset] [(.int 2)])
    refine own_at (fun t k => XS.iconst X21.here hx rfl (hb hby at_24) k) ?_
    show own_Go p e below KK T21 (mkF m 25 #[.val (.int p1), .val (.int p2), .val (.int p3), .val (.int p4), .val (.int p5), .val (.int 2), .val (.ref b19), .val (.ref r21), .unset, .unset, .unset, .unset, .unset, .unset, .unset, .unset, .unset, .unset, .unset] [(.int 1), (.int 2)])
    refine own_at (fun t k => XS.iadd X21.here hx rfl (hb hby at_25) rfl k) ?_
    show own_Go p e below KK T21 (mkF m 26 #[.val (.int p1), .val (.int p2), .val (.int p3), .val (.int p4), .val (.int p5), .val (.int 2), .val (.ref b19), .val (.ref r21), .unset, .unset, .unset, .unset, .unset, .unset, .unset, .unset, .unset, .unset, .unset] [(.int ((2 : Int32) + (1 : Int32)))])
    rw [show ((2 : Int32) + (1 : Int32)) = (3 : Int32) from by decide]
    show own_Go p e below KK T21 (mkF m 26 #[.val (.int p1), .val (.int p2), .val (.int p3), .val (.int p4), .val (.int p5), .val (.int 2), .val (.ref b19), .val (.ref r21), .unset, .unset, .unset, .unset, .unset, .unset, .unset, .unset, .unset, .unset, .unset] [(.int 3)])
    refine own_at (fun t k => XS.iloadN X21.here hx rfl (hb hby at_26) rfl k) ?_
    show own_Go p e below KK T21 (mkF m 27 #[.val (.int p1), .val (.int p2), .val (.int p3), .val (.int p4), .val (.int p5), .val (.int 2), .val (.ref b19), .val (.ref r21), .unset, .unset, .unset, .unset, .unset, .unset, .unset, .unset, .unset, .unset, .unset] [(.int p2), (.int 3)])
    refine own_at (fun t k => XS.iloadN X21.here hx rfl (hb hby at_27) rfl k) ?_
    show own_Go p e below KK T21 (mkF m 28 #[.val (.int p1), .val (.int p2), .val (.int p3), .val (.int p4), .val (.int p5), .val (.int 2), .val (.ref b19), .val (.ref r21), .unset, .unset, .unset, .unset, .unset, .unset, .unset, .unset, .unset, .unset, .unset] [(.int p3), (.int p2), (.int 3)])
    refine own_at (fun t k => XS.iloadN X21.here hx rfl (hb hby at_28) rfl k) ?_
    show own_Go p e below KK T21 (mkF m 29 #[.val (.int p1), .val (.int p2), .val (.int p3), .val (.int p4), .val (.int p5), .val (.int 2), .val (.ref b19), .val (.ref r21), .unset, .unset, .unset, .unset, .unset, .unset, .unset, .unset, .unset, .unset, .unset] [(.int p4), (.int p3), (.int p2), (.int 3)])
    refine own_at (fun t k => XS.iload X21.here hx rfl (hb hby at_29) rfl k) ?_
    show own_Go p e below KK T21 (mkF m 31 #[.val (.int p1), .val (.int p2), .val (.int p3), .val (.int p4), .val (.int p5), .val (.int 2), .val (.ref b19), .val (.ref r21), .unset, .unset, .unset, .unset, .unset, .unset, .unset, .unset, .unset, .unset, .unset] [(.int p5), (.int p4), (.int p3), (.int p2), (.int 3)])
    obtain ⟨_, _, ⟨T23, L23, k23, n23⟩, -, X23, ⟨Lc23, hQ23, l23, y23, z23⟩, st23⟩ := Jvm.LawKit.callS X21 hx (y := (⟨"com/example/wirecall/wirecall/wire/Fnv1aHash64PinLaw", "fill", "(IIIII)[B"⟩ : MethodName)) hown (mvT hZ (hw _ (List.mem_of_getElem? (i := 1) rfl))) (mvT hZ (hw _ (List.mem_of_getElem? (i := 2) rfl))) (mvT hZ (hw _ (List.mem_of_getElem? (i := 3) rfl))) (mvT hZ (hw _ (List.mem_of_getElem? (i := 4) rfl))) (by decide) (backOf (W := 0) (rm_fill3 l Z a0 hw [] p2 p3 p4 p5  T21.heap n0 Zs21 ) hZ (hw _ (List.mem_of_getElem? (i := 4) rfl)) (hw _ (List.mem_of_getElem? (i := 3) rfl)) (by decide) (by decide)) (g := (mkF m 31 #[.val (.int p1), .val (.int p2), .val (.int p3), .val (.int p4), .val (.int p5), .val (.int 2), .val (.ref b19), .val (.ref r21), .unset, .unset, .unset, .unset, .unset, .unset, .unset, .unset, .unset, .unset, .unset] [(.int p5), (.int p4), (.int p3), (.int p2), (.int 3)])) rfl (by rw [hml]; rfl) (argsL := [(.int 3), (.int p2), (.int p3), (.int p4), (.int p5)]) (rest := []) (lenOf pd__IIIII__B rfl) rfl (by show 2 * 0 + _ ≤ _; exact Nat.le_of_eq rfl) (hb hby at_31) (fun _ _ => ⟨rfl, rfl, (by decide : 2 + 1 ≤ _), (by decide : 2 + 3 ≤ _)⟩)
    dsimp only [Pt.U, Pt.locs, Pt.cells, Pt.slots] at X23 l23 y23 z23 st23 hQ23
    subst l23 y23 z23
    obtain ⟨r23, rfl, N23q, K23, g_r23, s_r23, Aq23⟩ := hQ23
    have ne_b19_r23 : b19 ≠ r23 := Nat.ne_of_lt (Nat.lt_of_lt_of_le A20_b19_h21.lt s_r23)
    have ne_r21_r23 : r21 ≠ r23 := Nat.ne_of_lt (Nat.lt_of_lt_of_le A22_r21.lt s_r23)
    have A20_b19_h23 : own_A Z T23.heap b19 "[B" .byte [] := A20_b19_h21.keep K23 nin0
    have A22_r21_h23 : own_A Z T23.heap r21 "[B" .byte [(.int (p2.toInt8.toInt32)), (.int (p3.toInt8.toInt32))] := A22_r21.keep K23 nin0
    have Zs23 : n0 ≤ T23.heap.size := Nat.le_trans Zs21 K23.1
    have A24_r23 : own_A Z T23.heap r23 "[B" .byte [(.int (p2.toInt8.toInt32)), (.int (p3.toInt8.toInt32)), (.int (p4.toInt8.toInt32))] := Aq23
    have N23 := Fr.app N21 N23q
    refine own_of (fun t k => st23 t k) ?_
    show own_Go p e below KK T23 (mkF m 34 #[.val (.int p1), .val (.int p2), .val (.int p3), .val (.int p4), .val (.int p5), .val (.int 2), .val (.ref b19), .val (.ref r21), .unset, .unset, .unset, .unset, .unset, .unset, .unset, .unset, .unset, .unset, .unset] [(.ref r23)])
    refine own_at (fun t k => XS.astore X23.here hx rfl (hb hby at_34) rfl rfl (l' := #[.val (.int p1), .val (.int p2), .val (.int p3), .val (.int p4), .val (.int p5), .val (.int 2), .val (.ref b19), .val (.ref r21), .val (.ref r23), .unset, .unset, .unset, .unset, .unset, .unset, .unset, .unset, .unset, .unset]) rfl k) ?_
    show own_Go p e below KK T23 (mkF m 36 #[.val (.int p1), .val (.int p2), .val (.int p3), .val (.int p4), .val (.int p5), .val (.int 2), .val (.ref b19), .val (.ref r21), .val (.ref r23), .unset, .unset, .unset, .unset, .unset, .unset, .unset, .unset, .unset, .unset] [])
    refine own_at (fun t k => XS.aload X23.here hx rfl (hb hby at_36) rfl rfl k) ?_
    show own_Go p e below KK T23 (mkF m 38 #[.val (.int p1), .val (.int p2), .val (.int p3), .val (.int p4), .val (.int p5), .val (.int 2), .val (.ref b19), .val (.ref r21), .val (.ref r23), .unset, .unset, .unset, .unset, .unset, .unset, .unset, .unset, .unset, .unset] [(.ref r23)])
    refine own_at (fun t k => XS.iload X23.here hx rfl (hb hby at_38) rfl k) ?_
    show own_Go p e below KK T23 (mkF m 40 #[.val (.int p1), .val (.int p2), .val (.int p3), .val (.int p4), .val (.int p5), .val (.int 2), .val (.ref b19), .val (.ref r21), .val (.ref r23), .unset, .unset, .unset, .unset, .unset, .unset, .unset, .unset, .unset, .unset] [(.int 2), (.ref r23)])
    refine own_at (fun t k => own_ldB X23 hx hZ rfl A24_r23 (j := (2 : Int32)) (i := 2) (v := (.int (p4.toInt8.toInt32))) (by decide) (by decide) rfl (g := (mkF m 40 #[.val (.int p1), .val (.int p2), .val (.int p3), .val (.int p4), .val (.int p5), .val (.int 2), .val (.ref b19), .val (.ref r21), .val (.ref r23), .unset, .unset, .unset, .unset, .unset, .unset, .unset, .unset, .unset, .unset] [(.int 2), (.ref r23)])) rfl rfl (hb hby at_40) t k) ?_
    show own_Go p e below KK T23 (mkF m 41 #[.val (.int p1), .val (.int p2), .val (.int p3), .val (.int p4), .val (.int p5), .val (.int 2), .val (.ref b19), .val (.ref r21), .val (.ref r23), .unset, .unset, .unset, .unset, .unset, .unset, .unset, .unset, .unset, .unset] [(.int (p4.toInt8.toInt32))])
    refine own_at (fun t k => XS.i2l X23.here hx rfl (hb hby at_41) rfl k) ?_
    show own_Go p e below KK T23 (mkF m 42 #[.val (.int p1), .val (.int p2), .val (.int p3), .val (.int p4), .val (.int p5), .val (.int 2), .val (.ref b19), .val (.ref r21), .val (.ref r23), .unset, .unset, .unset, .unset, .unset, .unset, .unset, .unset, .unset, .unset] [(.long ((p4.toInt8.toInt32).toInt64))])
    refine own_at (fun t k => X23.ldc2Long hx hown (mvT hZ (hw _ (List.mem_of_getElem? (i := 5) rfl))) (g := (mkF m 42 #[.val (.int p1), .val (.int p2), .val (.int p3), .val (.int p4), .val (.int p5), .val (.int 2), .val (.ref b19), .val (.ref r21), .val (.ref r23), .unset, .unset, .unset, .unset, .unset, .unset, .unset, .unset, .unset, .unset] [(.long ((p4.toInt8.toInt32).toInt64))])) rfl (hb hby at_42) t k) ?_
    show own_Go p e below KK T23 (mkF m 45 #[.val (.int p1), .val (.int p2), .val (.int p3), .val (.int p4), .val (.int p5), .val (.int 2), .val (.ref b19), .val (.ref r21), .val (.ref r23), .unset, .unset, .unset, .unset, .unset, .unset, .unset, .unset, .unset, .unset] [(.long 255), (.long ((p4.toInt8.toInt32).toInt64))])
    refine own_at (fun t k => XS.land X23.here hx rfl (hb hby at_45) rfl k) ?_
    show own_Go p e below KK T23 (mkF m 46 #[.val (.int p1), .val (.int p2), .val (.int p3), .val (.int p4), .val (.int p5), .val (.int 2), .val (.ref b19), .val (.ref r21), .val (.ref r23), .unset, .unset, .unset, .unset, .unset, .unset, .unset, .unset, .unset, .unset] [(.long (((p4.toInt8.toInt32).toInt64) &&& (255 : Int64)))])
    refine own_at (fun t k => XS.lstore X23.here hx rfl (hb hby at_46) rfl (l' := #[.val (.int p1), .val (.int p2), .val (.int p3), .val (.int p4), .val (.int p5), .val (.int 2), .val (.ref b19), .val (.ref r21), .val (.ref r23), .val (.long (((p4.toInt8.toInt32).toInt64) &&& (255 : Int64))), .second, .unset, .unset, .unset, .unset, .unset, .unset, .unset, .unset]) rfl k) ?_
    show own_Go p e below KK T23 (mkF m 48 #[.val (.int p1), .val (.int p2), .val (.int p3), .val (.int p4), .val (.int p5), .val (.int 2), .val (.ref b19), .val (.ref r21), .val (.ref r23), .val (.long (((p4.toInt8.toInt32).toInt64) &&& (255 : Int64))), .second, .unset, .unset, .unset, .unset, .unset, .unset, .unset, .unset] [])
    refine own_at (fun t k => XS.aload X23.here hx rfl (hb hby at_48) rfl rfl k) ?_
    show own_Go p e below KK T23 (mkF m 50 #[.val (.int p1), .val (.int p2), .val (.int p3), .val (.int p4), .val (.int p5), .val (.int 2), .val (.ref b19), .val (.ref r21), .val (.ref r23), .val (.long (((p4.toInt8.toInt32).toInt64) &&& (255 : Int64))), .second, .unset, .unset, .unset, .unset, .unset, .unset, .unset, .unset] [(.ref b19)])
    obtain ⟨_, _, ⟨T25, L25, k25, n25⟩, -, X25, ⟨Lc25, hQ25, l25, y25, z25⟩, st25⟩ := Jvm.LawKit.callS X23 hx (y := (⟨"com/example/wirecall/wirecall/wire/Fnv1a", "hash64", "([B)J"⟩ : MethodName)) hown (mvT hZ (hw _ (List.mem_of_getElem? (i := 6) rfl))) (mvT hZ (hw _ (List.mem_of_getElem? (i := 7) rfl))) (mvT hZ (hw _ (List.mem_of_getElem? (i := 8) rfl))) (mvT hZ (hw _ (List.mem_of_getElem? (i := 9) rfl))) (by decide) (backOf (W := 0) (rm_hash0 l Z a0 hw [] b19  T23.heap n0 Zs23 A20_b19_h23) hZ (hw _ (List.mem_of_getElem? (i := 9) rfl)) (hw _ (List.mem_of_getElem? (i := 8) rfl)) (by decide) (by decide)) (g := (mkF m 50 #[.val (.int p1), .val (.int p2), .val (.int p3), .val (.int p4), .val (.int p5), .val (.int 2), .val (.ref b19), .val (.ref r21), .val (.ref r23), .val (.long (((p4.toInt8.toInt32).toInt64) &&& (255 : Int64))), .second, .unset, .unset, .unset, .unset, .unset, .unset, .unset, .unset] [(.ref b19)])) rfl (by rw [hml]; rfl) (argsL := [(.ref b19)]) (rest := []) (lenOf pd___B_J rfl) rfl (by show 2 * 0 + _ ≤ _; exact Nat.le_of_eq rfl) (hb hby at_50) (fun _ _ => ⟨rfl, rfl, (by decide : 3 + 0 ≤ _), (by decide : 5 + 0 ≤ _)⟩)
    dsimp only [Pt.U, Pt.locs, Pt.cells, Pt.slots] at X25 l25 y25 z25 st25 hQ25
    subst l25 y25 z25
    obtain ⟨rfl, N25q, e25⟩ := hQ25
    have N25 := Fr.app N23 N25q
    refine own_of (fun t k => st25 t k) ?_
    show own_Go p e below KK T25 (mkF m 53 #[.val (.int p1), .val (.int p2), .val (.int p3), .val (.int p4), .val (.int p5), .val (.int 2), .val (.ref b19), .val (.ref r21), .val (.ref r23), .val (.long (((p4.toInt8.toInt32).toInt64) &&& (255 : Int64))), .second, .unset, .unset, .unset, .unset, .unset, .unset, .unset, .unset] [(.long (own_h []))])
    refine own_at (fun t k => XS.lstore X25.here hx rfl (hb hby at_53) rfl (l' := #[.val (.int p1), .val (.int p2), .val (.int p3), .val (.int p4), .val (.int p5), .val (.int 2), .val (.ref b19), .val (.ref r21), .val (.ref r23), .val (.long (((p4.toInt8.toInt32).toInt64) &&& (255 : Int64))), .second, .val (.long (own_h [])), .second, .unset, .unset, .unset, .unset, .unset, .unset]) rfl k) ?_
    show own_Go p e below KK T25 (mkF m 55 #[.val (.int p1), .val (.int p2), .val (.int p3), .val (.int p4), .val (.int p5), .val (.int 2), .val (.ref b19), .val (.ref r21), .val (.ref r23), .val (.long (((p4.toInt8.toInt32).toInt64) &&& (255 : Int64))), .second, .val (.long (own_h [])), .second, .unset, .unset, .unset, .unset, .unset, .unset] [])
    refine own_at (fun t k => XS.aload X25.here hx rfl (hb hby at_55) rfl rfl k) ?_
    show own_Go p e below KK T25 (mkF m 57 #[.val (.int p1), .val (.int p2), .val (.int p3), .val (.int p4), .val (.int p5), .val (.int 2), .val (.ref b19), .val (.ref r21), .val (.ref r23), .val (.long (((p4.toInt8.toInt32).toInt64) &&& (255 : Int64))), .second, .val (.long (own_h [])), .second, .unset, .unset, .unset, .unset, .unset, .unset] [(.ref r21)])
    obtain ⟨_, _, ⟨T26, L26, k26, n26⟩, -, X26, ⟨Lc26, hQ26, l26, y26, z26⟩, st26⟩ := Jvm.LawKit.callS X25 hx (y := (⟨"com/example/wirecall/wirecall/wire/Fnv1a", "hash64", "([B)J"⟩ : MethodName)) hown (mvT hZ (hw _ (List.mem_of_getElem? (i := 6) rfl))) (mvT hZ (hw _ (List.mem_of_getElem? (i := 7) rfl))) (mvT hZ (hw _ (List.mem_of_getElem? (i := 8) rfl))) (mvT hZ (hw _ (List.mem_of_getElem? (i := 9) rfl))) (by decide) (backOf (W := 0) (rm_hash2 l Z a0 hw [] r21 (p2.toInt8.toInt32) (p3.toInt8.toInt32) T23.heap n0 Zs23 A22_r21_h23) hZ (hw _ (List.mem_of_getElem? (i := 9) rfl)) (hw _ (List.mem_of_getElem? (i := 8) rfl)) (by decide) (by decide)) (g := (mkF m 57 #[.val (.int p1), .val (.int p2), .val (.int p3), .val (.int p4), .val (.int p5), .val (.int 2), .val (.ref b19), .val (.ref r21), .val (.ref r23), .val (.long (((p4.toInt8.toInt32).toInt64) &&& (255 : Int64))), .second, .val (.long (own_h [])), .second, .unset, .unset, .unset, .unset, .unset, .unset] [(.ref r21)])) rfl (by rw [hml]; rfl) (argsL := [(.ref r21)]) (rest := []) (lenOf pd___B_J rfl) rfl (by show 2 * 0 + _ ≤ _; exact Nat.le_of_eq rfl) (hb hby at_57) (fun _ _ => ⟨rfl, e25, (by decide : 3 + 0 ≤ _), (by decide : 5 + 0 ≤ _)⟩)
    dsimp only [Pt.U, Pt.locs, Pt.cells, Pt.slots] at X26 l26 y26 z26 st26 hQ26
    subst l26 y26 z26
    obtain ⟨rfl, N26q, e26⟩ := hQ26
    have N26 := Fr.app N25 N26q
    refine own_of (fun t k => st26 t k) ?_
    show own_Go p e below KK T26 (mkF m 60 #[.val (.int p1), .val (.int p2), .val (.int p3), .val (.int p4), .val (.int p5), .val (.int 2), .val (.ref b19), .val (.ref r21), .val (.ref r23), .val (.long (((p4.toInt8.toInt32).toInt64) &&& (255 : Int64))), .second, .val (.long (own_h [])), .second, .unset, .unset, .unset, .unset, .unset, .unset] [(.long (own_h [(p2.toInt8.toInt32), (p3.toInt8.toInt32)]))])
    refine own_at (fun t k => XS.lstore X26.here hx rfl (hb hby at_60) rfl (l' := #[.val (.int p1), .val (.int p2), .val (.int p3), .val (.int p4), .val (.int p5), .val (.int 2), .val (.ref b19), .val (.ref r21), .val (.ref r23), .val (.long (((p4.toInt8.toInt32).toInt64) &&& (255 : Int64))), .second, .val (.long (own_h [])), .second, .val (.long (own_h [(p2.toInt8.toInt32), (p3.toInt8.toInt32)])), .second, .unset, .unset, .unset, .unset]) rfl k) ?_
    show own_Go p e below KK T26 (mkF m 62 #[.val (.int p1), .val (.int p2), .val (.int p3), .val (.int p4), .val (.int p5), .val (.int 2), .val (.ref b19), .val (.ref r21), .val (.ref r23), .val (.long (((p4.toInt8.toInt32).toInt64) &&& (255 : Int64))), .second, .val (.long (own_h [])), .second, .val (.long (own_h [(p2.toInt8.toInt32), (p3.toInt8.toInt32)])), .second, .unset, .unset, .unset, .unset] [])
    refine own_at (fun t k => XS.aload X26.here hx rfl (hb hby at_62) rfl rfl k) ?_
    show own_Go p e below KK T26 (mkF m 64 #[.val (.int p1), .val (.int p2), .val (.int p3), .val (.int p4), .val (.int p5), .val (.int 2), .val (.ref b19), .val (.ref r21), .val (.ref r23), .val (.long (((p4.toInt8.toInt32).toInt64) &&& (255 : Int64))), .second, .val (.long (own_h [])), .second, .val (.long (own_h [(p2.toInt8.toInt32), (p3.toInt8.toInt32)])), .second, .unset, .unset, .unset, .unset] [(.ref r23)])
    obtain ⟨_, _, ⟨T27, L27, k27, n27⟩, -, X27, ⟨Lc27, hQ27, l27, y27, z27⟩, st27⟩ := Jvm.LawKit.callS X26 hx (y := (⟨"com/example/wirecall/wirecall/wire/Fnv1a", "hash64", "([B)J"⟩ : MethodName)) hown (mvT hZ (hw _ (List.mem_of_getElem? (i := 6) rfl))) (mvT hZ (hw _ (List.mem_of_getElem? (i := 7) rfl))) (mvT hZ (hw _ (List.mem_of_getElem? (i := 8) rfl))) (mvT hZ (hw _ (List.mem_of_getElem? (i := 9) rfl))) (by decide) (backOf (W := 0) (rm_hash3 l Z a0 hw [] r23 (p2.toInt8.toInt32) (p3.toInt8.toInt32) (p4.toInt8.toInt32) T23.heap n0 Zs23 A24_r23) hZ (hw _ (List.mem_of_getElem? (i := 9) rfl)) (hw _ (List.mem_of_getElem? (i := 8) rfl)) (by decide) (by decide)) (g := (mkF m 64 #[.val (.int p1), .val (.int p2), .val (.int p3), .val (.int p4), .val (.int p5), .val (.int 2), .val (.ref b19), .val (.ref r21), .val (.ref r23), .val (.long (((p4.toInt8.toInt32).toInt64) &&& (255 : Int64))), .second, .val (.long (own_h [])), .second, .val (.long (own_h [(p2.toInt8.toInt32), (p3.toInt8.toInt32)])), .second, .unset, .unset, .unset, .unset] [(.ref r23)])) rfl (by rw [hml]; rfl) (argsL := [(.ref r23)]) (rest := []) (lenOf pd___B_J rfl) rfl (by show 2 * 0 + _ ≤ _; exact Nat.le_of_eq rfl) (hb hby at_64) (fun _ _ => ⟨rfl, e26, (by decide : 3 + 0 ≤ _), (by decide : 5 + 0 ≤ _)⟩)
    dsimp only [Pt.U, Pt.locs, Pt.cells, Pt.slots] at X27 l27 y27 z27 st27 hQ27
    subst l27 y27 z27
    obtain ⟨rfl, N27q, e27⟩ := hQ27
    have N27 := Fr.app N26 N27q
    refine own_of (fun t k => st27 t k) ?_
    show own_Go p e below KK T27 (mkF m 67 #[.val (.int p1), .val (.int p2), .val (.int p3), .val (.int p4), .val (.int p5), .val (.int 2), .val (.ref b19), .val (.ref r21), .val (.ref r23), .val (.long (((p4.toInt8.toInt32).toInt64) &&& (255 : Int64))), .second, .val (.long (own_h [])), .second, .val (.long (own_h [(p2.toInt8.toInt32), (p3.toInt8.toInt32)])), .second, .unset, .unset, .unset, .unset] [(.long (own_h [(p2.toInt8.toInt32), (p3.toInt8.toInt32), (p4.toInt8.toInt32)]))])
    refine own_at (fun t k => XS.lstore X27.here hx rfl (hb hby at_67) rfl (l' := #[.val (.int p1), .val (.int p2), .val (.int p3), .val (.int p4), .val (.int p5), .val (.int 2), .val (.ref b19), .val (.ref r21), .val (.ref r23), .val (.long (((p4.toInt8.toInt32).toInt64) &&& (255 : Int64))), .second, .val (.long (own_h [])), .second, .val (.long (own_h [(p2.toInt8.toInt32), (p3.toInt8.toInt32)])), .second, .val (.long (own_h [(p2.toInt8.toInt32), (p3.toInt8.toInt32), (p4.toInt8.toInt32)])), .second, .unset, .unset]) rfl k) ?_
    show own_Go p e below KK T27 (mkF m 69 #[.val (.int p1), .val (.int p2), .val (.int p3), .val (.int p4), .val (.int p5), .val (.int 2), .val (.ref b19), .val (.ref r21), .val (.ref r23), .val (.long (((p4.toInt8.toInt32).toInt64) &&& (255 : Int64))), .second, .val (.long (own_h [])), .second, .val (.long (own_h [(p2.toInt8.toInt32), (p3.toInt8.toInt32)])), .second, .val (.long (own_h [(p2.toInt8.toInt32), (p3.toInt8.toInt32), (p4.toInt8.toInt32)])), .second, .unset, .unset] [])
    refine own_at (fun t k => XS.lload X27.here hx rfl (hb hby at_69) rfl k) ?_
    show own_Go p e below KK T27 (mkF m 71 #[.val (.int p1), .val (.int p2), .val (.int p3), .val (.int p4), .val (.int p5), .val (.int 2), .val (.ref b19), .val (.ref r21), .val (.ref r23), .val (.long (((p4.toInt8.toInt32).toInt64) &&& (255 : Int64))), .second, .val (.long (own_h [])), .second, .val (.long (own_h [(p2.toInt8.toInt32), (p3.toInt8.toInt32)])), .second, .val (.long (own_h [(p2.toInt8.toInt32), (p3.toInt8.toInt32), (p4.toInt8.toInt32)])), .second, .unset, .unset] [(.long (own_h []))])
    refine own_at (fun t k => X27.ldc2Long hx hown (mvT hZ (hw _ (List.mem_of_getElem? (i := 13) rfl))) (g := (mkF m 71 #[.val (.int p1), .val (.int p2), .val (.int p3), .val (.int p4), .val (.int p5), .val (.int 2), .val (.ref b19), .val (.ref r21), .val (.ref r23), .val (.long (((p4.toInt8.toInt32).toInt64) &&& (255 : Int64))), .second, .val (.long (own_h [])), .second, .val (.long (own_h [(p2.toInt8.toInt32), (p3.toInt8.toInt32)])), .second, .val (.long (own_h [(p2.toInt8.toInt32), (p3.toInt8.toInt32), (p4.toInt8.toInt32)])), .second, .unset, .unset] [(.long (own_h []))])) rfl (hb hby at_71) t k) ?_
    show own_Go p e below KK T27 (mkF m 74 #[.val (.int p1), .val (.int p2), .val (.int p3), .val (.int p4), .val (.int p5), .val (.int 2), .val (.ref b19), .val (.ref r21), .val (.ref r23), .val (.long (((p4.toInt8.toInt32).toInt64) &&& (255 : Int64))), .second, .val (.long (own_h [])), .second, .val (.long (own_h [(p2.toInt8.toInt32), (p3.toInt8.toInt32)])), .second, .val (.long (own_h [(p2.toInt8.toInt32), (p3.toInt8.toInt32), (p4.toInt8.toInt32)])), .second, .unset, .unset] [(.long (-3750763034362895579 : Int64)), (.long (own_h []))])
    refine own_at (fun t k => Jvm.Free.XT.lcmp X27.here hx rfl (hb hby at_74) rfl k) ?_
    show own_Go p e below KK T27 (mkF m 75 #[.val (.int p1), .val (.int p2), .val (.int p3), .val (.int p4), .val (.int p5), .val (.int 2), .val (.ref b19), .val (.ref r21), .val (.ref r23), .val (.long (((p4.toInt8.toInt32).toInt64) &&& (255 : Int64))), .second, .val (.long (own_h [])), .second, .val (.long (own_h [(p2.toInt8.toInt32), (p3.toInt8.toInt32)])), .second, .val (.long (own_h [(p2.toInt8.toInt32), (p3.toInt8.toInt32), (p4.toInt8.toInt32)])), .second, .unset, .unset] [(.int (Jvm.Free.XT.cmpL (own_h []) (-3750763034362895579 : Int64)))])
    have hc75 : (own_h []) = (-3750763034362895579 : Int64) := rfl
    refine own_at (fun t k => XS.ifNo X27.here hx rfl (hb hby at_75) rfl (Jvm.Free.XT.ll_ne_f hc75) k) ?_
    show own_Go p e below KK T27 (mkF m 78 #[.val (.int p1), .val (.int p2), .val (.int p3), .val (.int p4), .val (.int p5), .val (.int 2), .val (.ref b19), .val (.ref r21), .val (.ref r23), .val (.long (((p4.toInt8.toInt32).toInt64) &&& (255 : Int64))), .second, .val (.long (own_h [])), .second, .val (.long (own_h [(p2.toInt8.toInt32), (p3.toInt8.toInt32)])), .second, .val (.long (own_h [(p2.toInt8.toInt32), (p3.toInt8.toInt32), (p4.toInt8.toInt32)])), .second, .unset, .unset] [])
    refine own_at (fun t k => XS.iconst X27.here hx rfl (hb hby at_78) k) ?_
    show own_Go p e below KK T27 (mkF m 79 #[.val (.int p1), .val (.int p2), .val (.int p3), .val (.int p4), .val (.int p5), .val (.int 2), .val (.ref b19), .val (.ref r21), .val (.ref r23), .val (.long (((p4.toInt8.toInt32).toInt64) &&& (255 : Int64))), .second, .val (.long (own_h [])), .second, .val (.long (own_h [(p2.toInt8.toInt32), (p3.toInt8.toInt32)])), .second, .val (.long (own_h [(p2.toInt8.toInt32), (p3.toInt8.toInt32), (p4.toInt8.toInt32)])), .second, .unset, .unset] [(.int 1)])
    refine own_at (fun t k => XS.goto X27.here hx rfl (pc0 := 79) (pc' := 83) rfl (hb hby at_79) (by decide) (by decide) k) ?_
    show own_Go p e below KK T27 (mkF m 83 #[.val (.int p1), .val (.int p2), .val (.int p3), .val (.int p4), .val (.int p5), .val (.int 2), .val (.ref b19), .val (.ref r21), .val (.ref r23), .val (.long (((p4.toInt8.toInt32).toInt64) &&& (255 : Int64))), .second, .val (.long (own_h [])), .second, .val (.long (own_h [(p2.toInt8.toInt32), (p3.toInt8.toInt32)])), .second, .val (.long (own_h [(p2.toInt8.toInt32), (p3.toInt8.toInt32), (p4.toInt8.toInt32)])), .second, .unset, .unset] [(.int 1)])
    refine own_at (fun t k => XS.istore X27.here hx rfl (hb hby at_83) rfl (l' := #[.val (.int p1), .val (.int p2), .val (.int p3), .val (.int p4), .val (.int p5), .val (.int 2), .val (.ref b19), .val (.ref r21), .val (.ref r23), .val (.long (((p4.toInt8.toInt32).toInt64) &&& (255 : Int64))), .second, .val (.long (own_h [])), .second, .val (.long (own_h [(p2.toInt8.toInt32), (p3.toInt8.toInt32)])), .second, .val (.long (own_h [(p2.toInt8.toInt32), (p3.toInt8.toInt32), (p4.toInt8.toInt32)])), .second, .val (.int 1), .unset]) rfl k) ?_
    show own_Go p e below KK T27 (mkF m 85 #[.val (.int p1), .val (.int p2), .val (.int p3), .val (.int p4), .val (.int p5), .val (.int 2), .val (.ref b19), .val (.ref r21), .val (.ref r23), .val (.long (((p4.toInt8.toInt32).toInt64) &&& (255 : Int64))), .second, .val (.long (own_h [])), .second, .val (.long (own_h [(p2.toInt8.toInt32), (p3.toInt8.toInt32)])), .second, .val (.long (own_h [(p2.toInt8.toInt32), (p3.toInt8.toInt32), (p4.toInt8.toInt32)])), .second, .val (.int 1), .unset] [])
    refine own_at (fun t k => XS.lload X27.here hx rfl (hb hby at_85) rfl k) ?_
    show own_Go p e below KK T27 (mkF m 87 #[.val (.int p1), .val (.int p2), .val (.int p3), .val (.int p4), .val (.int p5), .val (.int 2), .val (.ref b19), .val (.ref r21), .val (.ref r23), .val (.long (((p4.toInt8.toInt32).toInt64) &&& (255 : Int64))), .second, .val (.long (own_h [])), .second, .val (.long (own_h [(p2.toInt8.toInt32), (p3.toInt8.toInt32)])), .second, .val (.long (own_h [(p2.toInt8.toInt32), (p3.toInt8.toInt32), (p4.toInt8.toInt32)])), .second, .val (.int 1), .unset] [(.long (own_h [(p2.toInt8.toInt32), (p3.toInt8.toInt32), (p4.toInt8.toInt32)]))])
    refine own_at (fun t k => XS.lload X27.here hx rfl (hb hby at_87) rfl k) ?_
    show own_Go p e below KK T27 (mkF m 89 #[.val (.int p1), .val (.int p2), .val (.int p3), .val (.int p4), .val (.int p5), .val (.int 2), .val (.ref b19), .val (.ref r21), .val (.ref r23), .val (.long (((p4.toInt8.toInt32).toInt64) &&& (255 : Int64))), .second, .val (.long (own_h [])), .second, .val (.long (own_h [(p2.toInt8.toInt32), (p3.toInt8.toInt32)])), .second, .val (.long (own_h [(p2.toInt8.toInt32), (p3.toInt8.toInt32), (p4.toInt8.toInt32)])), .second, .val (.int 1), .unset] [(.long (own_h [(p2.toInt8.toInt32), (p3.toInt8.toInt32)])), (.long (own_h [(p2.toInt8.toInt32), (p3.toInt8.toInt32), (p4.toInt8.toInt32)]))])
    refine own_at (fun t k => XS.lload X27.here hx rfl (hb hby at_89) rfl k) ?_
    show own_Go p e below KK T27 (mkF m 91 #[.val (.int p1), .val (.int p2), .val (.int p3), .val (.int p4), .val (.int p5), .val (.int 2), .val (.ref b19), .val (.ref r21), .val (.ref r23), .val (.long (((p4.toInt8.toInt32).toInt64) &&& (255 : Int64))), .second, .val (.long (own_h [])), .second, .val (.long (own_h [(p2.toInt8.toInt32), (p3.toInt8.toInt32)])), .second, .val (.long (own_h [(p2.toInt8.toInt32), (p3.toInt8.toInt32), (p4.toInt8.toInt32)])), .second, .val (.int 1), .unset] [(.long (((p4.toInt8.toInt32).toInt64) &&& (255 : Int64))), (.long (own_h [(p2.toInt8.toInt32), (p3.toInt8.toInt32)])), (.long (own_h [(p2.toInt8.toInt32), (p3.toInt8.toInt32), (p4.toInt8.toInt32)]))])
    refine own_at (fun t k => XS.lxor X27.here hx rfl (hb hby at_91) rfl k) ?_
    show own_Go p e below KK T27 (mkF m 92 #[.val (.int p1), .val (.int p2), .val (.int p3), .val (.int p4), .val (.int p5), .val (.int 2), .val (.ref b19), .val (.ref r21), .val (.ref r23), .val (.long (((p4.toInt8.toInt32).toInt64) &&& (255 : Int64))), .second, .val (.long (own_h [])), .second, .val (.long (own_h [(p2.toInt8.toInt32), (p3.toInt8.toInt32)])), .second, .val (.long (own_h [(p2.toInt8.toInt32), (p3.toInt8.toInt32), (p4.toInt8.toInt32)])), .second, .val (.int 1), .unset] [(.long ((own_h [(p2.toInt8.toInt32), (p3.toInt8.toInt32)]) ^^^ (((p4.toInt8.toInt32).toInt64) &&& (255 : Int64)))), (.long (own_h [(p2.toInt8.toInt32), (p3.toInt8.toInt32), (p4.toInt8.toInt32)]))])
    refine own_at (fun t k => X27.ldc2Long hx hown (mvT hZ (hw _ (List.mem_of_getElem? (i := 14) rfl))) (g := (mkF m 92 #[.val (.int p1), .val (.int p2), .val (.int p3), .val (.int p4), .val (.int p5), .val (.int 2), .val (.ref b19), .val (.ref r21), .val (.ref r23), .val (.long (((p4.toInt8.toInt32).toInt64) &&& (255 : Int64))), .second, .val (.long (own_h [])), .second, .val (.long (own_h [(p2.toInt8.toInt32), (p3.toInt8.toInt32)])), .second, .val (.long (own_h [(p2.toInt8.toInt32), (p3.toInt8.toInt32), (p4.toInt8.toInt32)])), .second, .val (.int 1), .unset] [(.long ((own_h [(p2.toInt8.toInt32), (p3.toInt8.toInt32)]) ^^^ (((p4.toInt8.toInt32).toInt64) &&& (255 : Int64)))), (.long (own_h [(p2.toInt8.toInt32), (p3.toInt8.toInt32), (p4.toInt8.toInt32)]))])) rfl (hb hby at_92) t k) ?_
    show own_Go p e below KK T27 (mkF m 95 #[.val (.int p1), .val (.int p2), .val (.int p3), .val (.int p4), .val (.int p5), .val (.int 2), .val (.ref b19), .val (.ref r21), .val (.ref r23), .val (.long (((p4.toInt8.toInt32).toInt64) &&& (255 : Int64))), .second, .val (.long (own_h [])), .second, .val (.long (own_h [(p2.toInt8.toInt32), (p3.toInt8.toInt32)])), .second, .val (.long (own_h [(p2.toInt8.toInt32), (p3.toInt8.toInt32), (p4.toInt8.toInt32)])), .second, .val (.int 1), .unset] [(.long 1099511628211), (.long ((own_h [(p2.toInt8.toInt32), (p3.toInt8.toInt32)]) ^^^ (((p4.toInt8.toInt32).toInt64) &&& (255 : Int64)))), (.long (own_h [(p2.toInt8.toInt32), (p3.toInt8.toInt32), (p4.toInt8.toInt32)]))])
    refine own_at (fun t k => XS.lmul X27.here hx rfl (hb hby at_95) rfl k) ?_
    show own_Go p e below KK T27 (mkF m 96 #[.val (.int p1), .val (.int p2), .val (.int p3), .val (.int p4), .val (.int p5), .val (.int 2), .val (.ref b19), .val (.ref r21), .val (.ref r23), .val (.long (((p4.toInt8.toInt32).toInt64) &&& (255 : Int64))), .second, .val (.long (own_h [])), .second, .val (.long (own_h [(p2.toInt8.toInt32), (p3.toInt8.toInt32)])), .second, .val (.long (own_h [(p2.toInt8.toInt32), (p3.toInt8.toInt32), (p4.toInt8.toInt32)])), .second, .val (.int 1), .unset] [(.long (((own_h [(p2.toInt8.toInt32), (p3.toInt8.toInt32)]) ^^^ (((p4.toInt8.toInt32).toInt64) &&& (255 : Int64))) * (1099511628211 : Int64))), (.long (own_h [(p2.toInt8.toInt32), (p3.toInt8.toInt32), (p4.toInt8.toInt32)]))])
    refine own_at (fun t k => Jvm.Free.XT.lcmp X27.here hx rfl (hb hby at_96) rfl k) ?_
    show own_Go p e below KK T27 (mkF m 97 #[.val (.int p1), .val (.int p2), .val (.int p3), .val (.int p4), .val (.int p5), .val (.int 2), .val (.ref b19), .val (.ref r21), .val (.ref r23), .val (.long (((p4.toInt8.toInt32).toInt64) &&& (255 : Int64))), .second, .val (.long (own_h [])), .second, .val (.long (own_h [(p2.toInt8.toInt32), (p3.toInt8.toInt32)])), .second, .val (.long (own_h [(p2.toInt8.toInt32), (p3.toInt8.toInt32), (p4.toInt8.toInt32)])), .second, .val (.int 1), .unset] [(.int (Jvm.Free.XT.cmpL (own_h [(p2.toInt8.toInt32), (p3.toInt8.toInt32), (p4.toInt8.toInt32)]) (((own_h [(p2.toInt8.toInt32), (p3.toInt8.toInt32)]) ^^^ (((p4.toInt8.toInt32).toInt64) &&& (255 : Int64))) * (1099511628211 : Int64))))])
    have hc97 : (own_h [(p2.toInt8.toInt32), (p3.toInt8.toInt32), (p4.toInt8.toInt32)]) = (((own_h [(p2.toInt8.toInt32), (p3.toInt8.toInt32)]) ^^^ (((p4.toInt8.toInt32).toInt64) &&& (255 : Int64))) * (1099511628211 : Int64)) := rfl
    refine own_at (fun t k => XS.ifNo X27.here hx rfl (hb hby at_97) rfl (Jvm.Free.XT.ll_ne_f hc97) k) ?_
    show own_Go p e below KK T27 (mkF m 100 #[.val (.int p1), .val (.int p2), .val (.int p3), .val (.int p4), .val (.int p5), .val (.int 2), .val (.ref b19), .val (.ref r21), .val (.ref r23), .val (.long (((p4.toInt8.toInt32).toInt64) &&& (255 : Int64))), .second, .val (.long (own_h [])), .second, .val (.long (own_h [(p2.toInt8.toInt32), (p3.toInt8.toInt32)])), .second, .val (.long (own_h [(p2.toInt8.toInt32), (p3.toInt8.toInt32), (p4.toInt8.toInt32)])), .second, .val (.int 1), .unset] [])
    refine own_at (fun t k => XS.iconst X27.here hx rfl (hb hby at_100) k) ?_
    show own_Go p e below KK T27 (mkF m 101 #[.val (.int p1), .val (.int p2), .val (.int p3), .val (.int p4), .val (.int p5), .val (.int 2), .val (.ref b19), .val (.ref r21), .val (.ref r23), .val (.long (((p4.toInt8.toInt32).toInt64) &&& (255 : Int64))), .second, .val (.long (own_h [])), .second, .val (.long (own_h [(p2.toInt8.toInt32), (p3.toInt8.toInt32)])), .second, .val (.long (own_h [(p2.toInt8.toInt32), (p3.toInt8.toInt32), (p4.toInt8.toInt32)])), .second, .val (.int 1), .unset] [(.int 1)])
    refine own_at (fun t k => XS.goto X27.here hx rfl (pc0 := 101) (pc' := 105) rfl (hb hby at_101) (by decide) (by decide) k) ?_
    show own_Go p e below KK T27 (mkF m 105 #[.val (.int p1), .val (.int p2), .val (.int p3), .val (.int p4), .val (.int p5), .val (.int 2), .val (.ref b19), .val (.ref r21), .val (.ref r23), .val (.long (((p4.toInt8.toInt32).toInt64) &&& (255 : Int64))), .second, .val (.long (own_h [])), .second, .val (.long (own_h [(p2.toInt8.toInt32), (p3.toInt8.toInt32)])), .second, .val (.long (own_h [(p2.toInt8.toInt32), (p3.toInt8.toInt32), (p4.toInt8.toInt32)])), .second, .val (.int 1), .unset] [(.int 1)])
    refine own_at (fun t k => XS.istore X27.here hx rfl (hb hby at_105) rfl (l' := #[.val (.int p1), .val (.int p2), .val (.int p3), .val (.int p4), .val (.int p5), .val (.int 2), .val (.ref b19), .val (.ref r21), .val (.ref r23), .val (.long (((p4.toInt8.toInt32).toInt64) &&& (255 : Int64))), .second, .val (.long (own_h [])), .second, .val (.long (own_h [(p2.toInt8.toInt32), (p3.toInt8.toInt32)])), .second, .val (.long (own_h [(p2.toInt8.toInt32), (p3.toInt8.toInt32), (p4.toInt8.toInt32)])), .second, .val (.int 1), .val (.int 1)]) rfl k) ?_
    show own_Go p e below KK T27 (mkF m 107 #[.val (.int p1), .val (.int p2), .val (.int p3), .val (.int p4), .val (.int p5), .val (.int 2), .val (.ref b19), .val (.ref r21), .val (.ref r23), .val (.long (((p4.toInt8.toInt32).toInt64) &&& (255 : Int64))), .second, .val (.long (own_h [])), .second, .val (.long (own_h [(p2.toInt8.toInt32), (p3.toInt8.toInt32)])), .second, .val (.long (own_h [(p2.toInt8.toInt32), (p3.toInt8.toInt32), (p4.toInt8.toInt32)])), .second, .val (.int 1), .val (.int 1)] [])
    refine own_at (fun t k => XS.iload X27.here hx rfl (hb hby at_107) rfl k) ?_
    show own_Go p e below KK T27 (mkF m 109 #[.val (.int p1), .val (.int p2), .val (.int p3), .val (.int p4), .val (.int p5), .val (.int 2), .val (.ref b19), .val (.ref r21), .val (.ref r23), .val (.long (((p4.toInt8.toInt32).toInt64) &&& (255 : Int64))), .second, .val (.long (own_h [])), .second, .val (.long (own_h [(p2.toInt8.toInt32), (p3.toInt8.toInt32)])), .second, .val (.long (own_h [(p2.toInt8.toInt32), (p3.toInt8.toInt32), (p4.toInt8.toInt32)])), .second, .val (.int 1), .val (.int 1)] [(.int 1)])
    have hc109 : ¬ ((1 : Int32) = (0 : Int32)) := by decide
    refine own_at (fun t k => XS.ifNo X27.here hx rfl (hb hby at_109) rfl (Jvm.Free.XT.i0_eq_f hc109) k) ?_
    show own_Go p e below KK T27 (mkF m 112 #[.val (.int p1), .val (.int p2), .val (.int p3), .val (.int p4), .val (.int p5), .val (.int 2), .val (.ref b19), .val (.ref r21), .val (.ref r23), .val (.long (((p4.toInt8.toInt32).toInt64) &&& (255 : Int64))), .second, .val (.long (own_h [])), .second, .val (.long (own_h [(p2.toInt8.toInt32), (p3.toInt8.toInt32)])), .second, .val (.long (own_h [(p2.toInt8.toInt32), (p3.toInt8.toInt32), (p4.toInt8.toInt32)])), .second, .val (.int 1), .val (.int 1)] [])
    refine own_at (fun t k => XS.iload X27.here hx rfl (hb hby at_112) rfl k) ?_
    show own_Go p e below KK T27 (mkF m 114 #[.val (.int p1), .val (.int p2), .val (.int p3), .val (.int p4), .val (.int p5), .val (.int 2), .val (.ref b19), .val (.ref r21), .val (.ref r23), .val (.long (((p4.toInt8.toInt32).toInt64) &&& (255 : Int64))), .second, .val (.long (own_h [])), .second, .val (.long (own_h [(p2.toInt8.toInt32), (p3.toInt8.toInt32)])), .second, .val (.long (own_h [(p2.toInt8.toInt32), (p3.toInt8.toInt32), (p4.toInt8.toInt32)])), .second, .val (.int 1), .val (.int 1)] [(.int 1)])
    have hc114 : ¬ ((1 : Int32) = (0 : Int32)) := by decide
    refine own_at (fun t k => XS.ifNo X27.here hx rfl (hb hby at_114) rfl (Jvm.Free.XT.i0_eq_f hc114) k) ?_
    show own_Go p e below KK T27 (mkF m 117 #[.val (.int p1), .val (.int p2), .val (.int p3), .val (.int p4), .val (.int p5), .val (.int 2), .val (.ref b19), .val (.ref r21), .val (.ref r23), .val (.long (((p4.toInt8.toInt32).toInt64) &&& (255 : Int64))), .second, .val (.long (own_h [])), .second, .val (.long (own_h [(p2.toInt8.toInt32), (p3.toInt8.toInt32)])), .second, .val (.long (own_h [(p2.toInt8.toInt32), (p3.toInt8.toInt32), (p4.toInt8.toInt32)])), .second, .val (.int 1), .val (.int 1)] [])
    refine own_at (fun t k => XS.iconst X27.here hx rfl (hb hby at_117) k) ?_
    show own_Go p e below KK T27 (mkF m 118 #[.val (.int p1), .val (.int p2), .val (.int p3), .val (.int p4), .val (.int p5), .val (.int 2), .val (.ref b19), .val (.ref r21), .val (.ref r23), .val (.long (((p4.toInt8.toInt32).toInt64) &&& (255 : Int64))), .second, .val (.long (own_h [])), .second, .val (.long (own_h [(p2.toInt8.toInt32), (p3.toInt8.toInt32)])), .second, .val (.long (own_h [(p2.toInt8.toInt32), (p3.toInt8.toInt32), (p4.toInt8.toInt32)])), .second, .val (.int 1), .val (.int 1)] [(.int 1)])
    refine own_at (fun t k => XS.goto X27.here hx rfl (pc0 := 118) (pc' := 122) rfl (hb hby at_118) (by decide) (by decide) k) ?_
    show own_Go p e below KK T27 (mkF m 122 #[.val (.int p1), .val (.int p2), .val (.int p3), .val (.int p4), .val (.int p5), .val (.int 2), .val (.ref b19), .val (.ref r21), .val (.ref r23), .val (.long (((p4.toInt8.toInt32).toInt64) &&& (255 : Int64))), .second, .val (.long (own_h [])), .second, .val (.long (own_h [(p2.toInt8.toInt32), (p3.toInt8.toInt32)])), .second, .val (.long (own_h [(p2.toInt8.toInt32), (p3.toInt8.toInt32), (p4.toInt8.toInt32)])), .second, .val (.int 1), .val (.int 1)] [(.int 1)])
    subst hKK
    exact own_retN X27 hx hlk (t := .boolean) Bd.returns (by simp) (hb hby at_122) (w := (1 : Int32)) (show nar .boolean (1 : Int32) = 1 from by decide) ⟨rfl, N27⟩ (Nat.le_of_ble_eq_true rfl) (Nat.le_of_ble_eq_true rfl)
  · show own_Go p e below KK s₁ (mkF m 3 #[.val (.int p1), .val (.int p2), .val (.int p3), .val (.int p4), .val (.int p5), .unset, .unset, .unset, .unset, .unset, .unset, .unset, .unset, .unset, .unset, .unset, .unset, .unset, .unset] [(.int 3)])
    refine own_at (fun t k => XS.istore X0.here hx rfl (hb hby at_3) rfl (l' := #[.val (.int p1), .val (.int p2), .val (.int p3), .val (.int p4), .val (.int p5), .val (.int 3), .unset, .unset, .unset, .unset, .unset, .unset, .unset, .unset, .unset, .unset, .unset, .unset, .unset]) rfl k) ?_
    show own_Go p e below KK s₁ (mkF m 5 #[.val (.int p1), .val (.int p2), .val (.int p3), .val (.int p4), .val (.int p5), .val (.int 3), .unset, .unset, .unset, .unset, .unset, .unset, .unset, .unset, .unset, .unset, .unset, .unset, .unset] [])
    refine own_at (fun t k => XS.iconst X0.here hx rfl (hb hby at_5) k) ?_
    show own_Go p e below KK s₁ (mkF m 6 #[.val (.int p1), .val (.int p2), .val (.int p3), .val (.int p4), .val (.int p5), .val (.int 3), .unset, .unset, .unset, .unset, .unset, .unset, .unset, .unset, .unset, .unset, .unset, .unset, .unset] [(.int 0)])
    obtain ⟨T28, h28, X28, e28, E28, V28, st28⟩ := own_newA X0 hx hZ (hw _ (List.mem_of_getElem? (i := 0) rfl)) e0 (g := (mkF m 6 #[.val (.int p1), .val (.int p2), .val (.int p3), .val (.int p4), .val (.int p5), .val (.int 3), .unset, .unset, .unset, .unset, .unset, .unset, .unset, .unset, .unset, .unset, .unset, .unset, .unset] [(.int 0)])) rfl (hb hby at_6) rfl (by decide) (N := 0) (by decide) (cap := 0) (by decide) (by decide) (by decide) (by decide) (d := "[B") (by first | rfl | decide +kernel) (vs := []) rfl
    obtain ⟨b28, g28⟩ : ∃ z, z = h0.size := ⟨_, rfl⟩
    rw [← g28] at V28 st28
    have g_b28 : n0 ≤ b28 := by rw [g28]; exact Z0
    have Zs28 : n0 ≤ h28.size := Nat.le_trans Z0 E28.1
    have A29_b28 : own_A Z h28 b28 "[B" .byte [] := V28
    refine own_of (fun t k => st28 t k) ?_
    show own_Go p e below KK T28 (mkF m 8 #[.val (.int p1), .val (.int p2), .val (.int p3), .val (.int p4), .val (.int p5), .val (.int 3), .unset, .unset, .unset, .unset, .unset, .unset, .unset, .unset, .unset, .unset, .unset, .unset, .unset] [(.ref b28)])
    refine own_at (fun t k => XS.astore X28.here hx rfl (hb hby at_8) rfl rfl (l' := #[.val (.int p1), .val (.int p2), .val (.int p3), .val (.int p4), .val (.int p5), .val (.int 3), .val (.ref b28), .unset, .unset, .unset, .unset, .unset, .unset, .unset, .unset, .unset, .unset, .unset, .unset]) rfl k) ?_
    show own_Go p e below KK T28 (mkF m 10 #[.val (.int p1), .val (.int p2), .val (.int p3), .val (.int p4), .val (.int p5), .val (.int 3), .val (.ref b28), .unset, .unset, .unset, .unset, .unset, .unset, .unset, .unset, .unset, .unset, .unset, .unset] [])
    refine own_at (fun t k => XS.iload X28.here hx rfl (hb hby at_10) rfl k) ?_
    show own_Go p e below KK T28 (mkF m 12 #[.val (.int p1), .val (.int p2), .val (.int p3), .val (.int p4), .val (.int p5), .val (.int 3), .val (.ref b28), .unset, .unset, .unset, .unset, .unset, .unset, .unset, .unset, .unset, .unset, .unset, .unset] [(.int 3)])
    refine own_at (fun t k => XS.iloadN X28.here hx rfl (hb hby at_12) rfl k) ?_
    show own_Go p e below KK T28 (mkF m 13 #[.val (.int p1), .val (.int p2), .val (.int p3), .val (.int p4), .val (.int p5), .val (.int 3), .val (.ref b28), .unset, .unset, .unset, .unset, .unset, .unset, .unset, .unset, .unset, .unset, .unset, .unset] [(.int p2), (.int 3)])
    refine own_at (fun t k => XS.iloadN X28.here hx rfl (hb hby at_13) rfl k) ?_
    show own_Go p e below KK T28 (mkF m 14 #[.val (.int p1), .val (.int p2), .val (.int p3), .val (.int p4), .val (.int p5), .val (.int 3), .val (.ref b28), .unset, .unset, .unset, .unset, .unset, .unset, .unset, .unset, .unset, .unset, .unset, .unset] [(.int p3), (.int p2), (.int 3)])
    refine own_at (fun t k => XS.iloadN X28.here hx rfl (hb hby at_14) rfl k) ?_
    show own_Go p e below KK T28 (mkF m 15 #[.val (.int p1), .val (.int p2), .val (.int p3), .val (.int p4), .val (.int p5), .val (.int 3), .val (.ref b28), .unset, .unset, .unset, .unset, .unset, .unset, .unset, .unset, .unset, .unset, .unset, .unset] [(.int p4), (.int p3), (.int p2), (.int 3)])
    refine own_at (fun t k => XS.iload X28.here hx rfl (hb hby at_15) rfl k) ?_
    show own_Go p e below KK T28 (mkF m 17 #[.val (.int p1), .val (.int p2), .val (.int p3), .val (.int p4), .val (.int p5), .val (.int 3), .val (.ref b28), .unset, .unset, .unset, .unset, .unset, .unset, .unset, .unset, .unset, .unset, .unset, .unset] [(.int p5), (.int p4), (.int p3), (.int p2), (.int 3)])
    obtain ⟨_, _, ⟨T30, L30, k30, n30⟩, -, X30, ⟨Lc30, hQ30, l30, y30, z30⟩, st30⟩ := Jvm.LawKit.callS X28 hx (y := (⟨"com/example/wirecall/wirecall/wire/Fnv1aHash64PinLaw", "fill", "(IIIII)[B"⟩ : MethodName)) hown (mvT hZ (hw _ (List.mem_of_getElem? (i := 1) rfl))) (mvT hZ (hw _ (List.mem_of_getElem? (i := 2) rfl))) (mvT hZ (hw _ (List.mem_of_getElem? (i := 3) rfl))) (mvT hZ (hw _ (List.mem_of_getElem? (i := 4) rfl))) (by decide) (backOf (W := 0) (rm_fill3 l Z a0 hw [] p2 p3 p4 p5  h28 n0 Zs28 ) hZ (hw _ (List.mem_of_getElem? (i := 4) rfl)) (hw _ (List.mem_of_getElem? (i := 3) rfl)) (by decide) (by decide)) (g := (mkF m 17 #[.val (.int p1), .val (.int p2), .val (.int p3), .val (.int p4), .val (.int p5), .val (.int 3), .val (.ref b28), .unset, .unset, .unset, .unset, .unset, .unset, .unset, .unset, .unset, .unset, .unset, .unset] [(.int p5), (.int p4), (.int p3), (.int p2), (.int 3)])) rfl (by rw [hml]; rfl) (argsL := [(.int 3), (.int p2), (.int p3), (.int p4), (.int p5)]) (rest := []) (lenOf pd__IIIII__B rfl) rfl (by show 2 * 0 + _ ≤ _; exact Nat.le_of_eq rfl) (hb hby at_17) (fun _ _ => ⟨rfl, e28, (by decide : 1 + 1 ≤ _), (by decide : 0 + 3 ≤ _)⟩)
    dsimp only [Pt.U, Pt.locs, Pt.cells, Pt.slots] at X30 l30 y30 z30 st30 hQ30
    subst l30 y30 z30
    obtain ⟨r30, rfl, N30q, K30, g_r30, s_r30, Aq30⟩ := hQ30
    have ne_b28_r30 : b28 ≠ r30 := Nat.ne_of_lt (Nat.lt_of_lt_of_le A29_b28.lt s_r30)
    have A29_b28_h30 : own_A Z T30.heap b28 "[B" .byte [] := A29_b28.keep K30 nin0
    have Zs30 : n0 ≤ T30.heap.size := Nat.le_trans Zs28 K30.1
    have A31_r30 : own_A Z T30.heap r30 "[B" .byte [(.int (p2.toInt8.toInt32)), (.int (p3.toInt8.toInt32)), (.int (p4.toInt8.toInt32))] := Aq30
    have N30 := Fr.app N0 N30q
    refine own_of (fun t k => st30 t k) ?_
    show own_Go p e below KK T30 (mkF m 20 #[.val (.int p1), .val (.int p2), .val (.int p3), .val (.int p4), .val (.int p5), .val (.int 3), .val (.ref b28), .unset, .unset, .unset, .unset, .unset, .unset, .unset, .unset, .unset, .unset, .unset, .unset] [(.ref r30)])
    refine own_at (fun t k => XS.astore X30.here hx rfl (hb hby at_20) rfl rfl (l' := #[.val (.int p1), .val (.int p2), .val (.int p3), .val (.int p4), .val (.int p5), .val (.int 3), .val (.ref b28), .val (.ref r30), .unset, .unset, .unset, .unset, .unset, .unset, .unset, .unset, .unset, .unset, .unset]) rfl k) ?_
    show own_Go p e below KK T30 (mkF m 22 #[.val (.int p1), .val (.int p2), .val (.int p3), .val (.int p4), .val (.int p5), .val (.int 3), .val (.ref b28), .val (.ref r30), .unset, .unset, .unset, .unset, .unset, .unset, .unset, .unset, .unset, .unset, .unset] [])
    refine own_at (fun t k => XS.iload X30.here hx rfl (hb hby at_22) rfl k) ?_
    show own_Go p e below KK T30 (mkF m 24 #[.val (.int p1), .val (.int p2), .val (.int p3), .val (.int p4), .val (.int p5), .val (.int 3), .val (.ref b28), .val (.ref r30), .unset, .unset, .unset, .unset, .unset, .unset, .unset, .unset, .unset, .unset, .unset] [(.int 3)])
    refine own_at (fun t k => XS.iconst X30.here hx rfl (hb hby at_24) k) ?_
    show own_Go p e below KK T30 (mkF m 25 #[.val (.int p1), .val (.int p2), .val (.int p3), .val (.int p4), .val (.int p5), .val (.int 3), .val (.ref b28), .val (.ref r30), .unset, .unset, .unset, .unset, .unset, .unset, .unset, .unset, .unset, .unset, .unset] [(.int 1), (.int 3)])
    refine own_at (fun t k => XS.iadd X30.here hx rfl (hb hby at_25) rfl k) ?_
    show own_Go p e below KK T30 (mkF m 26 #[.val (.int p1), .val (.int p2), .val (.int p3), .val (.int p4), .val (.int p5), .val (.int 3), .val (.ref b28), .val (.ref r30), .unset, .unset, .unset, .unset, .unset, .unset, .unset, .unset, .unset, .unset, .unset] [(.int ((3 : Int32) + (1 : Int32)))])
    rw [show ((3 : Int32) + (1 : Int32)) = (4 : Int32) from by decide]
    show own_Go p e below KK T30 (mkF m 26 #[.val (.int p1), .val (.int p2), .val (.int p3), .val (.int p4), .val (.int p5), .val (.int 3), .val (.ref b28), .val (.ref r30), .unset, .unset, .unset, .unset, .unset, .unset, .unset, .unset, .unset, .unset, .unset] [(.int 4)])
    refine own_at (fun t k => XS.iloadN X30.here hx rfl (hb hby at_26) rfl k) ?_
    show own_Go p e below KK T30 (mkF m 27 #[.val (.int p1), .val (.int p2), .val (.int p3), .val (.int p4), .val (.int p5), .val (.int 3), .val (.ref b28), .val (.ref r30), .unset, .unset, .unset, .unset, .unset, .unset, .unset, .unset, .unset, .unset, .unset] [(.int p2), (.int 4)])
    refine own_at (fun t k => XS.iloadN X30.here hx rfl (hb hby at_27) rfl k) ?_
    show own_Go p e below KK T30 (mkF m 28 #[.val (.int p1), .val (.int p2), .val (.int p3), .val (.int p4), .val (.int p5), .val (.int 3), .val (.ref b28), .val (.ref r30), .unset, .unset, .unset, .unset, .unset, .unset, .unset, .unset, .unset, .unset, .unset] [(.int p3), (.int p2), (.int 4)])
    refine own_at (fun t k => XS.iloadN X30.here hx rfl (hb hby at_28) rfl k) ?_
    show own_Go p e below KK T30 (mkF m 29 #[.val (.int p1), .val (.int p2), .val (.int p3), .val (.int p4), .val (.int p5), .val (.int 3), .val (.ref b28), .val (.ref r30), .unset, .unset, .unset, .unset, .unset, .unset, .unset, .unset, .unset, .unset, .unset] [(.int p4), (.int p3), (.int p2), (.int 4)])
    refine own_at (fun t k => XS.iload X30.here hx rfl (hb hby at_29) rfl k) ?_
    show own_Go p e below KK T30 (mkF m 31 #[.val (.int p1), .val (.int p2), .val (.int p3), .val (.int p4), .val (.int p5), .val (.int 3), .val (.ref b28), .val (.ref r30), .unset, .unset, .unset, .unset, .unset, .unset, .unset, .unset, .unset, .unset, .unset] [(.int p5), (.int p4), (.int p3), (.int p2), (.int 4)])
    obtain ⟨_, _, ⟨T32, L32, k32, n32⟩, -, X32, ⟨Lc32, hQ32, l32, y32, z32⟩, st32⟩ := Jvm.LawKit.callS X30 hx (y := (⟨"com/example/wirecall/wirecall/wire/Fnv1aHash64PinLaw", "fill", "(IIIII)[B"⟩ : MethodName)) hown (mvT hZ (hw _ (List.mem_of_getElem? (i := 1) rfl))) (mvT hZ (hw _ (List.mem_of_getElem? (i := 2) rfl))) (mvT hZ (hw _ (List.mem_of_getElem? (i := 3) rfl))) (mvT hZ (hw _ (List.mem_of_getElem? (i := 4) rfl))) (by decide) (backOf (W := 0) (rm_fill4 l Z a0 hw [] p2 p3 p4 p5  T30.heap n0 Zs30 ) hZ (hw _ (List.mem_of_getElem? (i := 4) rfl)) (hw _ (List.mem_of_getElem? (i := 3) rfl)) (by decide) (by decide)) (g := (mkF m 31 #[.val (.int p1), .val (.int p2), .val (.int p3), .val (.int p4), .val (.int p5), .val (.int 3), .val (.ref b28), .val (.ref r30), .unset, .unset, .unset, .unset, .unset, .unset, .unset, .unset, .unset, .unset, .unset] [(.int p5), (.int p4), (.int p3), (.int p2), (.int 4)])) rfl (by rw [hml]; rfl) (argsL := [(.int 4), (.int p2), (.int p3), (.int p4), (.int p5)]) (rest := []) (lenOf pd__IIIII__B rfl) rfl (by show 2 * 0 + _ ≤ _; exact Nat.le_of_eq rfl) (hb hby at_31) (fun _ _ => ⟨rfl, rfl, (by decide : 2 + 1 ≤ _), (by decide : 3 + 4 ≤ _)⟩)
    dsimp only [Pt.U, Pt.locs, Pt.cells, Pt.slots] at X32 l32 y32 z32 st32 hQ32
    subst l32 y32 z32
    obtain ⟨r32, rfl, N32q, K32, g_r32, s_r32, Aq32⟩ := hQ32
    have ne_b28_r32 : b28 ≠ r32 := Nat.ne_of_lt (Nat.lt_of_lt_of_le A29_b28_h30.lt s_r32)
    have ne_r30_r32 : r30 ≠ r32 := Nat.ne_of_lt (Nat.lt_of_lt_of_le A31_r30.lt s_r32)
    have A29_b28_h32 : own_A Z T32.heap b28 "[B" .byte [] := A29_b28_h30.keep K32 nin0
    have A31_r30_h32 : own_A Z T32.heap r30 "[B" .byte [(.int (p2.toInt8.toInt32)), (.int (p3.toInt8.toInt32)), (.int (p4.toInt8.toInt32))] := A31_r30.keep K32 nin0
    have Zs32 : n0 ≤ T32.heap.size := Nat.le_trans Zs30 K32.1
    have A33_r32 : own_A Z T32.heap r32 "[B" .byte [(.int (p2.toInt8.toInt32)), (.int (p3.toInt8.toInt32)), (.int (p4.toInt8.toInt32)), (.int (p5.toInt8.toInt32))] := Aq32
    have N32 := Fr.app N30 N32q
    refine own_of (fun t k => st32 t k) ?_
    show own_Go p e below KK T32 (mkF m 34 #[.val (.int p1), .val (.int p2), .val (.int p3), .val (.int p4), .val (.int p5), .val (.int 3), .val (.ref b28), .val (.ref r30), .unset, .unset, .unset, .unset, .unset, .unset, .unset, .unset, .unset, .unset, .unset] [(.ref r32)])
    refine own_at (fun t k => XS.astore X32.here hx rfl (hb hby at_34) rfl rfl (l' := #[.val (.int p1), .val (.int p2), .val (.int p3), .val (.int p4), .val (.int p5), .val (.int 3), .val (.ref b28), .val (.ref r30), .val (.ref r32), .unset, .unset, .unset, .unset, .unset, .unset, .unset, .unset, .unset, .unset]) rfl k) ?_
    show own_Go p e below KK T32 (mkF m 36 #[.val (.int p1), .val (.int p2), .val (.int p3), .val (.int p4), .val (.int p5), .val (.int 3), .val (.ref b28), .val (.ref r30), .val (.ref r32), .unset, .unset, .unset, .unset, .unset, .unset, .unset, .unset, .unset, .unset] [])
    refine own_at (fun t k => XS.aload X32.here hx rfl (hb hby at_36) rfl rfl k) ?_
    show own_Go p e below KK T32 (mkF m 38 #[.val (.int p1), .val (.int p2), .val (.int p3), .val (.int p4), .val (.int p5), .val (.int 3), .val (.ref b28), .val (.ref r30), .val (.ref r32), .unset, .unset, .unset, .unset, .unset, .unset, .unset, .unset, .unset, .unset] [(.ref r32)])
    refine own_at (fun t k => XS.iload X32.here hx rfl (hb hby at_38) rfl k) ?_
    show own_Go p e below KK T32 (mkF m 40 #[.val (.int p1), .val (.int p2), .val (.int p3), .val (.int p4), .val (.int p5), .val (.int 3), .val (.ref b28), .val (.ref r30), .val (.ref r32), .unset, .unset, .unset, .unset, .unset, .unset, .unset, .unset, .unset, .unset] [(.int 3), (.ref r32)])
    refine own_at (fun t k => own_ldB X32 hx hZ rfl A33_r32 (j := (3 : Int32)) (i := 3) (v := (.int (p5.toInt8.toInt32))) (by decide) (by decide) rfl (g := (mkF m 40 #[.val (.int p1), .val (.int p2), .val (.int p3), .val (.int p4), .val (.int p5), .val (.int 3), .val (.ref b28), .val (.ref r30), .val (.ref r32), .unset, .unset, .unset, .unset, .unset, .unset, .unset, .unset, .unset, .unset] [(.int 3), (.ref r32)])) rfl rfl (hb hby at_40) t k) ?_
    show own_Go p e below KK T32 (mkF m 41 #[.val (.int p1), .val (.int p2), .val (.int p3), .val (.int p4), .val (.int p5), .val (.int 3), .val (.ref b28), .val (.ref r30), .val (.ref r32), .unset, .unset, .unset, .unset, .unset, .unset, .unset, .unset, .unset, .unset] [(.int (p5.toInt8.toInt32))])
    refine own_at (fun t k => XS.i2l X32.here hx rfl (hb hby at_41) rfl k) ?_
    show own_Go p e below KK T32 (mkF m 42 #[.val (.int p1), .val (.int p2), .val (.int p3), .val (.int p4), .val (.int p5), .val (.int 3), .val (.ref b28), .val (.ref r30), .val (.ref r32), .unset, .unset, .unset, .unset, .unset, .unset, .unset, .unset, .unset, .unset] [(.long ((p5.toInt8.toInt32).toInt64))])
    refine own_at (fun t k => X32.ldc2Long hx hown (mvT hZ (hw _ (List.mem_of_getElem? (i := 5) rfl))) (g := (mkF m 42 #[.val (.int p1), .val (.int p2), .val (.int p3), .val (.int p4), .val (.int p5), .val (.int 3), .val (.ref b28), .val (.ref r30), .val (.ref r32), .unset, .unset, .unset, .unset, .unset, .unset, .unset, .unset, .unset, .unset] [(.long ((p5.toInt8.toInt32).toInt64))])) rfl (hb hby at_42) t k) ?_
    show own_Go p e below KK T32 (mkF m 45 #[.val (.int p1), .val (.int p2), .val (.int p3), .val (.int p4), .val (.int p5), .val (.int 3), .val (.ref b28), .val (.ref r30), .val (.ref r32), .unset, .unset, .unset, .unset, .unset, .unset, .unset, .unset, .unset, .unset] [(.long 255), (.long ((p5.toInt8.toInt32).toInt64))])
    refine own_at (fun t k => XS.land X32.here hx rfl (hb hby at_45) rfl k) ?_
    show own_Go p e below KK T32 (mkF m 46 #[.val (.int p1), .val (.int p2), .val (.int p3), .val (.int p4), .val (.int p5), .val (.int 3), .val (.ref b28), .val (.ref r30), .val (.ref r32), .unset, .unset, .unset, .unset, .unset, .unset, .unset, .unset, .unset, .unset] [(.long (((p5.toInt8.toInt32).toInt64) &&& (255 : Int64)))])
    refine own_at (fun t k => XS.lstore X32.here hx rfl (hb hby at_46) rfl (l' := #[.val (.int p1), .val (.int p2), .val (.int p3), .val (.int p4), .val (.int p5), .val (.int 3), .val (.ref b28), .val (.ref r30), .val (.ref r32), .val (.long (((p5.toInt8.toInt32).toInt64) &&& (255 : Int64))), .second, .unset, .unset, .unset, .unset, .unset, .unset, .unset, .unset]) rfl k) ?_
    show own_Go p e below KK T32 (mkF m 48 #[.val (.int p1), .val (.int p2), .val (.int p3), .val (.int p4), .val (.int p5), .val (.int 3), .val (.ref b28), .val (.ref r30), .val (.ref r32), .val (.long (((p5.toInt8.toInt32).toInt64) &&& (255 : Int64))), .second, .unset, .unset, .unset, .unset, .unset, .unset, .unset, .unset] [])
    refine own_at (fun t k => XS.aload X32.here hx rfl (hb hby at_48) rfl rfl k) ?_
    show own_Go p e below KK T32 (mkF m 50 #[.val (.int p1), .val (.int p2), .val (.int p3), .val (.int p4), .val (.int p5), .val (.int 3), .val (.ref b28), .val (.ref r30), .val (.ref r32), .val (.long (((p5.toInt8.toInt32).toInt64) &&& (255 : Int64))), .second, .unset, .unset, .unset, .unset, .unset, .unset, .unset, .unset] [(.ref b28)])
    obtain ⟨_, _, ⟨T34, L34, k34, n34⟩, -, X34, ⟨Lc34, hQ34, l34, y34, z34⟩, st34⟩ := Jvm.LawKit.callS X32 hx (y := (⟨"com/example/wirecall/wirecall/wire/Fnv1a", "hash64", "([B)J"⟩ : MethodName)) hown (mvT hZ (hw _ (List.mem_of_getElem? (i := 6) rfl))) (mvT hZ (hw _ (List.mem_of_getElem? (i := 7) rfl))) (mvT hZ (hw _ (List.mem_of_getElem? (i := 8) rfl))) (mvT hZ (hw _ (List.mem_of_getElem? (i := 9) rfl))) (by decide) (backOf (W := 0) (rm_hash0 l Z a0 hw [] b28  T32.heap n0 Zs32 A29_b28_h32) hZ (hw _ (List.mem_of_getElem? (i := 9) rfl)) (hw _ (List.mem_of_getElem? (i := 8) rfl)) (by decide) (by decide)) (g := (mkF m 50 #[.val (.int p1), .val (.int p2), .val (.int p3), .val (.int p4), .val (.int p5), .val (.int 3), .val (.ref b28), .val (.ref r30), .val (.ref r32), .val (.long (((p5.toInt8.toInt32).toInt64) &&& (255 : Int64))), .second, .unset, .unset, .unset, .unset, .unset, .unset, .unset, .unset] [(.ref b28)])) rfl (by rw [hml]; rfl) (argsL := [(.ref b28)]) (rest := []) (lenOf pd___B_J rfl) rfl (by show 2 * 0 + _ ≤ _; exact Nat.le_of_eq rfl) (hb hby at_50) (fun _ _ => ⟨rfl, rfl, (by decide : 3 + 0 ≤ _), (by decide : 7 + 0 ≤ _)⟩)
    dsimp only [Pt.U, Pt.locs, Pt.cells, Pt.slots] at X34 l34 y34 z34 st34 hQ34
    subst l34 y34 z34
    obtain ⟨rfl, N34q, e34⟩ := hQ34
    have N34 := Fr.app N32 N34q
    refine own_of (fun t k => st34 t k) ?_
    show own_Go p e below KK T34 (mkF m 53 #[.val (.int p1), .val (.int p2), .val (.int p3), .val (.int p4), .val (.int p5), .val (.int 3), .val (.ref b28), .val (.ref r30), .val (.ref r32), .val (.long (((p5.toInt8.toInt32).toInt64) &&& (255 : Int64))), .second, .unset, .unset, .unset, .unset, .unset, .unset, .unset, .unset] [(.long (own_h []))])
    refine own_at (fun t k => XS.lstore X34.here hx rfl (hb hby at_53) rfl (l' := #[.val (.int p1), .val (.int p2), .val (.int p3), .val (.int p4), .val (.int p5), .val (.int 3), .val (.ref b28), .val (.ref r30), .val (.ref r32), .val (.long (((p5.toInt8.toInt32).toInt64) &&& (255 : Int64))), .second, .val (.long (own_h [])), .second, .unset, .unset, .unset, .unset, .unset, .unset]) rfl k) ?_
    show own_Go p e below KK T34 (mkF m 55 #[.val (.int p1), .val (.int p2), .val (.int p3), .val (.int p4), .val (.int p5), .val (.int 3), .val (.ref b28), .val (.ref r30), .val (.ref r32), .val (.long (((p5.toInt8.toInt32).toInt64) &&& (255 : Int64))), .second, .val (.long (own_h [])), .second, .unset, .unset, .unset, .unset, .unset, .unset] [])
    refine own_at (fun t k => XS.aload X34.here hx rfl (hb hby at_55) rfl rfl k) ?_
    show own_Go p e below KK T34 (mkF m 57 #[.val (.int p1), .val (.int p2), .val (.int p3), .val (.int p4), .val (.int p5), .val (.int 3), .val (.ref b28), .val (.ref r30), .val (.ref r32), .val (.long (((p5.toInt8.toInt32).toInt64) &&& (255 : Int64))), .second, .val (.long (own_h [])), .second, .unset, .unset, .unset, .unset, .unset, .unset] [(.ref r30)])
    obtain ⟨_, _, ⟨T35, L35, k35, n35⟩, -, X35, ⟨Lc35, hQ35, l35, y35, z35⟩, st35⟩ := Jvm.LawKit.callS X34 hx (y := (⟨"com/example/wirecall/wirecall/wire/Fnv1a", "hash64", "([B)J"⟩ : MethodName)) hown (mvT hZ (hw _ (List.mem_of_getElem? (i := 6) rfl))) (mvT hZ (hw _ (List.mem_of_getElem? (i := 7) rfl))) (mvT hZ (hw _ (List.mem_of_getElem? (i := 8) rfl))) (mvT hZ (hw _ (List.mem_of_getElem? (i := 9) rfl))) (by decide) (backOf (W := 0) (rm_hash3 l Z a0 hw [] r30 (p2.toInt8.toInt32) (p3.toInt8.toInt32) (p4.toInt8.toInt32) T32.heap n0 Zs32 A31_r30_h32) hZ (hw _ (List.mem_of_getElem? (i := 9) rfl)) (hw _ (List.mem_of_getElem? (i := 8) rfl)) (by decide) (by decide)) (g := (mkF m 57 #[.val (.int p1), .val (.int p2), .val (.int p3), .val (.int p4), .val (.int p5), .val (.int 3), .val (.ref b28), .val (.ref r30), .val (.ref r32), .val (.long (((p5.toInt8.toInt32).toInt64) &&& (255 : Int64))), .second, .val (.long (own_h [])), .second, .unset, .unset, .unset, .unset, .unset, .unset] [(.ref r30)])) rfl (by rw [hml]; rfl) (argsL := [(.ref r30)]) (rest := []) (lenOf pd___B_J rfl) rfl (by show 2 * 0 + _ ≤ _; exact Nat.le_of_eq rfl) (hb hby at_57) (fun _ _ => ⟨rfl, e34, (by decide : 3 + 0 ≤ _), (by decide : 7 + 0 ≤ _)⟩)
    dsimp only [Pt.U, Pt.locs, Pt.cells, Pt.slots] at X35 l35 y35 z35 st35 hQ35
    subst l35 y35 z35
    obtain ⟨rfl, N35q, e35⟩ := hQ35
    have N35 := Fr.app N34 N35q
    refine own_of (fun t k => st35 t k) ?_
    show own_Go p e below KK T35 (mkF m 60 #[.val (.int p1), .val (.int p2), .val (.int p3), .val (.int p4), .val (.int p5), .val (.int 3), .val (.ref b28), .val (.ref r30), .val (.ref r32), .val (.long (((p5.toInt8.toInt32).toInt64) &&& (255 : Int64))), .second, .val (.long (own_h [])), .second, .unset, .unset, .unset, .unset, .unset, .unset] [(.long (own_h [(p2.toInt8.toInt32), (p3.toInt8.toInt32), (p4.toInt8.toInt32)]))])
    refine own_at (fun t k => XS.lstore X35.here hx rfl (hb hby at_60) rfl (l' := #[.val (.int p1), .val (.int p2), .val (.int p3), .val (.int p4), .val (.int p5), .val (.int 3), .val (.ref b28), .val (.ref r30), .val (.ref r32), .val (.long (((p5.toInt8.toInt32).toInt64) &&& (255 : Int64))), .second, .val (.long (own_h [])), .second, .val (.long (own_h [(p2.toInt8.toInt32), (p3.toInt8.toInt32), (p4.toInt8.toInt32)])), .second, .unset, .unset, .unset, .unset]) rfl k) ?_
    show own_Go p e below KK T35 (mkF m 62 #[.val (.int p1), .val (.int p2), .val (.int p3), .val (.int p4), .val (.int p5), .val (.int 3), .val (.ref b28), .val (.ref r30), .val (.ref r32), .val (.long (((p5.toInt8.toInt32).toInt64) &&& (255 : Int64))), .second, .val (.long (own_h [])), .second, .val (.long (own_h [(p2.toInt8.toInt32), (p3.toInt8.toInt32), (p4.toInt8.toInt32)])), .second, .unset, .unset, .unset, .unset] [])
    refine own_at (fun t k => XS.aload X35.here hx rfl (hb hby at_62) rfl rfl k) ?_
    show own_Go p e below KK T35 (mkF m 64 #[.val (.int p1), .val (.int p2), .val (.int p3), .val (.int p4), .val (.int p5), .val (.int 3), .val (.ref b28), .val (.ref r30), .val (.ref r32), .val (.long (((p5.toInt8.toInt32).toInt64) &&& (255 : Int64))), .second, .val (.long (own_h [])), .second, .val (.long (own_h [(p2.toInt8.toInt32), (p3.toInt8.toInt32), (p4.toInt8.toInt32)])), .second, .unset, .unset, .unset, .unset] [(.ref r32)])
    obtain ⟨_, _, ⟨T36, L36, k36, n36⟩, -, X36, ⟨Lc36, hQ36, l36, y36, z36⟩, st36⟩ := Jvm.LawKit.callS X35 hx (y := (⟨"com/example/wirecall/wirecall/wire/Fnv1a", "hash64", "([B)J"⟩ : MethodName)) hown (mvT hZ (hw _ (List.mem_of_getElem? (i := 6) rfl))) (mvT hZ (hw _ (List.mem_of_getElem? (i := 7) rfl))) (mvT hZ (hw _ (List.mem_of_getElem? (i := 8) rfl))) (mvT hZ (hw _ (List.mem_of_getElem? (i := 9) rfl))) (by decide) (backOf (W := 0) (rm_hash4 l Z a0 hw [] r32 (p2.toInt8.toInt32) (p3.toInt8.toInt32) (p4.toInt8.toInt32) (p5.toInt8.toInt32) T32.heap n0 Zs32 A33_r32) hZ (hw _ (List.mem_of_getElem? (i := 9) rfl)) (hw _ (List.mem_of_getElem? (i := 8) rfl)) (by decide) (by decide)) (g := (mkF m 64 #[.val (.int p1), .val (.int p2), .val (.int p3), .val (.int p4), .val (.int p5), .val (.int 3), .val (.ref b28), .val (.ref r30), .val (.ref r32), .val (.long (((p5.toInt8.toInt32).toInt64) &&& (255 : Int64))), .second, .val (.long (own_h [])), .second, .val (.long (own_h [(p2.toInt8.toInt32), (p3.toInt8.toInt32), (p4.toInt8.toInt32)])), .second, .unset, .unset, .unset, .unset] [(.ref r32)])) rfl (by rw [hml]; rfl) (argsL := [(.ref r32)]) (rest := []) (lenOf pd___B_J rfl) rfl (by show 2 * 0 + _ ≤ _; exact Nat.le_of_eq rfl) (hb hby at_64) (fun _ _ => ⟨rfl, e35, (by decide : 3 + 0 ≤ _), (by decide : 7 + 0 ≤ _)⟩)
    dsimp only [Pt.U, Pt.locs, Pt.cells, Pt.slots] at X36 l36 y36 z36 st36 hQ36
    subst l36 y36 z36
    obtain ⟨rfl, N36q, e36⟩ := hQ36
    have N36 := Fr.app N35 N36q
    refine own_of (fun t k => st36 t k) ?_
    show own_Go p e below KK T36 (mkF m 67 #[.val (.int p1), .val (.int p2), .val (.int p3), .val (.int p4), .val (.int p5), .val (.int 3), .val (.ref b28), .val (.ref r30), .val (.ref r32), .val (.long (((p5.toInt8.toInt32).toInt64) &&& (255 : Int64))), .second, .val (.long (own_h [])), .second, .val (.long (own_h [(p2.toInt8.toInt32), (p3.toInt8.toInt32), (p4.toInt8.toInt32)])), .second, .unset, .unset, .unset, .unset] [(.long (own_h [(p2.toInt8.toInt32), (p3.toInt8.toInt32), (p4.toInt8.toInt32), (p5.toInt8.toInt32)]))])
    refine own_at (fun t k => XS.lstore X36.here hx rfl (hb hby at_67) rfl (l' := #[.val (.int p1), .val (.int p2), .val (.int p3), .val (.int p4), .val (.int p5), .val (.int 3), .val (.ref b28), .val (.ref r30), .val (.ref r32), .val (.long (((p5.toInt8.toInt32).toInt64) &&& (255 : Int64))), .second, .val (.long (own_h [])), .second, .val (.long (own_h [(p2.toInt8.toInt32), (p3.toInt8.toInt32), (p4.toInt8.toInt32)])), .second, .val (.long (own_h [(p2.toInt8.toInt32), (p3.toInt8.toInt32), (p4.toInt8.toInt32), (p5.toInt8.toInt32)])), .second, .unset, .unset]) rfl k) ?_
    show own_Go p e below KK T36 (mkF m 69 #[.val (.int p1), .val (.int p2), .val (.int p3), .val (.int p4), .val (.int p5), .val (.int 3), .val (.ref b28), .val (.ref r30), .val (.ref r32), .val (.long (((p5.toInt8.toInt32).toInt64) &&& (255 : Int64))), .second, .val (.long (own_h [])), .second, .val (.long (own_h [(p2.toInt8.toInt32), (p3.toInt8.toInt32), (p4.toInt8.toInt32)])), .second, .val (.long (own_h [(p2.toInt8.toInt32), (p3.toInt8.toInt32), (p4.toInt8.toInt32), (p5.toInt8.toInt32)])), .second, .unset, .unset] [])
    refine own_at (fun t k => XS.lload X36.here hx rfl (hb hby at_69) rfl k) ?_
    show own_Go p e below KK T36 (mkF m 71 #[.val (.int p1), .val (.int p2), .val (.int p3), .val (.int p4), .val (.int p5), .val (.int 3), .val (.ref b28), .val (.ref r30), .val (.ref r32), .val (.long (((p5.toInt8.toInt32).toInt64) &&& (255 : Int64))), .second, .val (.long (own_h [])), .second, .val (.long (own_h [(p2.toInt8.toInt32), (p3.toInt8.toInt32), (p4.toInt8.toInt32)])), .second, .val (.long (own_h [(p2.toInt8.toInt32), (p3.toInt8.toInt32), (p4.toInt8.toInt32), (p5.toInt8.toInt32)])), .second, .unset, .unset] [(.long (own_h []))])
    refine own_at (fun t k => X36.ldc2Long hx hown (mvT hZ (hw _ (List.mem_of_getElem? (i := 13) rfl))) (g := (mkF m 71 #[.val (.int p1), .val (.int p2), .val (.int p3), .val (.int p4), .val (.int p5), .val (.int 3), .val (.ref b28), .val (.ref r30), .val (.ref r32), .val (.long (((p5.toInt8.toInt32).toInt64) &&& (255 : Int64))), .second, .val (.long (own_h [])), .second, .val (.long (own_h [(p2.toInt8.toInt32), (p3.toInt8.toInt32), (p4.toInt8.toInt32)])), .second, .val (.long (own_h [(p2.toInt8.toInt32), (p3.toInt8.toInt32), (p4.toInt8.toInt32), (p5.toInt8.toInt32)])), .second, .unset, .unset] [(.long (own_h []))])) rfl (hb hby at_71) t k) ?_
    show own_Go p e below KK T36 (mkF m 74 #[.val (.int p1), .val (.int p2), .val (.int p3), .val (.int p4), .val (.int p5), .val (.int 3), .val (.ref b28), .val (.ref r30), .val (.ref r32), .val (.long (((p5.toInt8.toInt32).toInt64) &&& (255 : Int64))), .second, .val (.long (own_h [])), .second, .val (.long (own_h [(p2.toInt8.toInt32), (p3.toInt8.toInt32), (p4.toInt8.toInt32)])), .second, .val (.long (own_h [(p2.toInt8.toInt32), (p3.toInt8.toInt32), (p4.toInt8.toInt32), (p5.toInt8.toInt32)])), .second, .unset, .unset] [(.long (-3750763034362895579 : Int64)), (.long (own_h []))])
    refine own_at (fun t k => Jvm.Free.XT.lcmp X36.here hx rfl (hb hby at_74) rfl k) ?_
    show own_Go p e below KK T36 (mkF m 75 #[.val (.int p1), .val (.int p2), .val (.int p3), .val (.int p4), .val (.int p5), .val (.int 3), .val (.ref b28), .val (.ref r30), .val (.ref r32), .val (.long (((p5.toInt8.toInt32).toInt64) &&& (255 : Int64))), .second, .val (.long (own_h [])), .second, .val (.long (own_h [(p2.toInt8.toInt32), (p3.toInt8.toInt32), (p4.toInt8.toInt32)])), .second, .val (.long (own_h [(p2.toInt8.toInt32), (p3.toInt8.toInt32), (p4.toInt8.toInt32), (p5.toInt8.toInt32)])), .second, .unset, .unset] [(.int (Jvm.Free.XT.cmpL (own_h []) (-3750763034362895579 : Int64)))])
    have hc75 : (own_h []) = (-3750763034362895579 : Int64) := rfl
    refine own_at (fun t k => XS.ifNo X36.here hx rfl (hb hby at_75) rfl (Jvm.Free.XT.ll_ne_f hc75) k) ?_
    show own_Go p e below KK T36 (mkF m 78 #[.val (.int p1), .val (.int p2), .val (.int p3), .val (.int p4), .val (.int p5), .val (.int 3), .val (.ref b28), .val (.ref r30), .val (.ref r32), .val (.long (((p5.toInt8.toInt32).toInt64) &&& (255 : Int64))), .second, .val (.long (own_h [])), .second, .val (.long (own_h [(p2.toInt8.toInt32), (p3.toInt8.toInt32), (p4.toInt8.toInt32)])), .second, .val (.long (own_h [(p2.toInt8.toInt32), (p3.toInt8.toInt32), (p4.toInt8.toInt32), (p5.toInt8.toInt32)])), .second, .unset, .unset] [])
    refine own_at (fun t k => XS.iconst X36.here hx rfl (hb hby at_78) k) ?_
    show own_Go p e below KK T36 (mkF m 79 #[.val (.int p1), .val (.int p2), .val (.int p3), .val (.int p4), .val (.int p5), .val (.int 3), .val (.ref b28), .val (.ref r30), .val (.ref r32), .val (.long (((p5.toInt8.toInt32).toInt64) &&& (255 : Int64))), .second, .val (.long (own_h [])), .second, .val (.long (own_h [(p2.toInt8.toInt32), (p3.toInt8.toInt32), (p4.toInt8.toInt32)])), .second, .val (.long (own_h [(p2.toInt8.toInt32), (p3.toInt8.toInt32), (p4.toInt8.toInt32), (p5.toInt8.toInt32)])), .second, .unset, .unset] [(.int 1)])
    refine own_at (fun t k => XS.goto X36.here hx rfl (pc0 := 79) (pc' := 83) rfl (hb hby at_79) (by decide) (by decide) k) ?_
    show own_Go p e below KK T36 (mkF m 83 #[.val (.int p1), .val (.int p2), .val (.int p3), .val (.int p4), .val (.int p5), .val (.int 3), .val (.ref b28), .val (.ref r30), .val (.ref r32), .val (.long (((p5.toInt8.toInt32).toInt64) &&& (255 : Int64))), .second, .val (.long (own_h [])), .second, .val (.long (own_h [(p2.toInt8.toInt32), (p3.toInt8.toInt32), (p4.toInt8.toInt32)])), .second, .val (.long (own_h [(p2.toInt8.toInt32), (p3.toInt8.toInt32), (p4.toInt8.toInt32), (p5.toInt8.toInt32)])), .second, .unset, .unset] [(.int 1)])
    refine own_at (fun t k => XS.istore X36.here hx rfl (hb hby at_83) rfl (l' := #[.val (.int p1), .val (.int p2), .val (.int p3), .val (.int p4), .val (.int p5), .val (.int 3), .val (.ref b28), .val (.ref r30), .val (.ref r32), .val (.long (((p5.toInt8.toInt32).toInt64) &&& (255 : Int64))), .second, .val (.long (own_h [])), .second, .val (.long (own_h [(p2.toInt8.toInt32), (p3.toInt8.toInt32), (p4.toInt8.toInt32)])), .second, .val (.long (own_h [(p2.toInt8.toInt32), (p3.toInt8.toInt32), (p4.toInt8.toInt32), (p5.toInt8.toInt32)])), .second, .val (.int 1), .unset]) rfl k) ?_
    show own_Go p e below KK T36 (mkF m 85 #[.val (.int p1), .val (.int p2), .val (.int p3), .val (.int p4), .val (.int p5), .val (.int 3), .val (.ref b28), .val (.ref r30), .val (.ref r32), .val (.long (((p5.toInt8.toInt32).toInt64) &&& (255 : Int64))), .second, .val (.long (own_h [])), .second, .val (.long (own_h [(p2.toInt8.toInt32), (p3.toInt8.toInt32), (p4.toInt8.toInt32)])), .second, .val (.long (own_h [(p2.toInt8.toInt32), (p3.toInt8.toInt32), (p4.toInt8.toInt32), (p5.toInt8.toInt32)])), .second, .val (.int 1), .unset] [])
    refine own_at (fun t k => XS.lload X36.here hx rfl (hb hby at_85) rfl k) ?_
    show own_Go p e below KK T36 (mkF m 87 #[.val (.int p1), .val (.int p2), .val (.int p3), .val (.int p4), .val (.int p5), .val (.int 3), .val (.ref b28), .val (.ref r30), .val (.ref r32), .val (.long (((p5.toInt8.toInt32).toInt64) &&& (255 : Int64))), .second, .val (.long (own_h [])), .second, .val (.long (own_h [(p2.toInt8.toInt32), (p3.toInt8.toInt32), (p4.toInt8.toInt32)])), .second, .val (.long (own_h [(p2.toInt8.toInt32), (p3.toInt8.toInt32), (p4.toInt8.toInt32), (p5.toInt8.toInt32)])), .second, .val (.int 1), .unset] [(.long (own_h [(p2.toInt8.toInt32), (p3.toInt8.toInt32), (p4.toInt8.toInt32), (p5.toInt8.toInt32)]))])
    refine own_at (fun t k => XS.lload X36.here hx rfl (hb hby at_87) rfl k) ?_
    show own_Go p e below KK T36 (mkF m 89 #[.val (.int p1), .val (.int p2), .val (.int p3), .val (.int p4), .val (.int p5), .val (.int 3), .val (.ref b28), .val (.ref r30), .val (.ref r32), .val (.long (((p5.toInt8.toInt32).toInt64) &&& (255 : Int64))), .second, .val (.long (own_h [])), .second, .val (.long (own_h [(p2.toInt8.toInt32), (p3.toInt8.toInt32), (p4.toInt8.toInt32)])), .second, .val (.long (own_h [(p2.toInt8.toInt32), (p3.toInt8.toInt32), (p4.toInt8.toInt32), (p5.toInt8.toInt32)])), .second, .val (.int 1), .unset] [(.long (own_h [(p2.toInt8.toInt32), (p3.toInt8.toInt32), (p4.toInt8.toInt32)])), (.long (own_h [(p2.toInt8.toInt32), (p3.toInt8.toInt32), (p4.toInt8.toInt32), (p5.toInt8.toInt32)]))])
    refine own_at (fun t k => XS.lload X36.here hx rfl (hb hby at_89) rfl k) ?_
    show own_Go p e below KK T36 (mkF m 91 #[.val (.int p1), .val (.int p2), .val (.int p3), .val (.int p4), .val (.int p5), .val (.int 3), .val (.ref b28), .val (.ref r30), .val (.ref r32), .val (.long (((p5.toInt8.toInt32).toInt64) &&& (255 : Int64))), .second, .val (.long (own_h [])), .second, .val (.long (own_h [(p2.toInt8.toInt32), (p3.toInt8.toInt32), (p4.toInt8.toInt32)])), .second, .val (.long (own_h [(p2.toInt8.toInt32), (p3.toInt8.toInt32), (p4.toInt8.toInt32), (p5.toInt8.toInt32)])), .second, .val (.int 1), .unset] [(.long (((p5.toInt8.toInt32).toInt64) &&& (255 : Int64))), (.long (own_h [(p2.toInt8.toInt32), (p3.toInt8.toInt32), (p4.toInt8.toInt32)])), (.long (own_h [(p2.toInt8.toInt32), (p3.toInt8.toInt32), (p4.toInt8.toInt32), (p5.toInt8.toInt32)]))])
    refine own_at (fun t k => XS.lxor X36.here hx rfl (hb hby at_91) rfl k) ?_
    show own_Go p e below KK T36 (mkF m 92 #[.val (.int p1), .val (.int p2), .val (.int p3), .val (.int p4), .val (.int p5), .val (.int 3), .val (.ref b28), .val (.ref r30), .val (.ref r32), .val (.long (((p5.toInt8.toInt32).toInt64) &&& (255 : Int64))), .second, .val (.long (own_h [])), .second, .val (.long (own_h [(p2.toInt8.toInt32), (p3.toInt8.toInt32), (p4.toInt8.toInt32)])), .second, .val (.long (own_h [(p2.toInt8.toInt32), (p3.toInt8.toInt32), (p4.toInt8.toInt32), (p5.toInt8.toInt32)])), .second, .val (.int 1), .unset] [(.long ((own_h [(p2.toInt8.toInt32), (p3.toInt8.toInt32), (p4.toInt8.toInt32)]) ^^^ (((p5.toInt8.toInt32).toInt64) &&& (255 : Int64)))), (.long (own_h [(p2.toInt8.toInt32), (p3.toInt8.toInt32), (p4.toInt8.toInt32), (p5.toInt8.toInt32)]))])
    refine own_at (fun t k => X36.ldc2Long hx hown (mvT hZ (hw _ (List.mem_of_getElem? (i := 14) rfl))) (g := (mkF m 92 #[.val (.int p1), .val (.int p2), .val (.int p3), .val (.int p4), .val (.int p5), .val (.int 3), .val (.ref b28), .val (.ref r30), .val (.ref r32), .val (.long (((p5.toInt8.toInt32).toInt64) &&& (255 : Int64))), .second, .val (.long (own_h [])), .second, .val (.long (own_h [(p2.toInt8.toInt32), (p3.toInt8.toInt32), (p4.toInt8.toInt32)])), .second, .val (.long (own_h [(p2.toInt8.toInt32), (p3.toInt8.toInt32), (p4.toInt8.toInt32), (p5.toInt8.toInt32)])), .second, .val (.int 1), .unset] [(.long ((own_h [(p2.toInt8.toInt32), (p3.toInt8.toInt32), (p4.toInt8.toInt32)]) ^^^ (((p5.toInt8.toInt32).toInt64) &&& (255 : Int64)))), (.long (own_h [(p2.toInt8.toInt32), (p3.toInt8.toInt32), (p4.toInt8.toInt32), (p5.toInt8.toInt32)]))])) rfl (hb hby at_92) t k) ?_
    show own_Go p e below KK T36 (mkF m 95 #[.val (.int p1), .val (.int p2), .val (.int p3), .val (.int p4), .val (.int p5), .val (.int 3), .val (.ref b28), .val (.ref r30), .val (.ref r32), .val (.long (((p5.toInt8.toInt32).toInt64) &&& (255 : Int64))), .second, .val (.long (own_h [])), .second, .val (.long (own_h [(p2.toInt8.toInt32), (p3.toInt8.toInt32), (p4.toInt8.toInt32)])), .second, .val (.long (own_h [(p2.toInt8.toInt32), (p3.toInt8.toInt32), (p4.toInt8.toInt32), (p5.toInt8.toInt32)])), .second, .val (.int 1), .unset] [(.long 1099511628211), (.long ((own_h [(p2.toInt8.toInt32), (p3.toInt8.toInt32), (p4.toInt8.toInt32)]) ^^^ (((p5.toInt8.toInt32).toInt64) &&& (255 : Int64)))), (.long (own_h [(p2.toInt8.toInt32), (p3.toInt8.toInt32), (p4.toInt8.toInt32), (p5.toInt8.toInt32)]))])
    refine own_at (fun t k => XS.lmul X36.here hx rfl (hb hby at_95) rfl k) ?_
    show own_Go p e below KK T36 (mkF m 96 #[.val (.int p1), .val (.int p2), .val (.int p3), .val (.int p4), .val (.int p5), .val (.int 3), .val (.ref b28), .val (.ref r30), .val (.ref r32), .val (.long (((p5.toInt8.toInt32).toInt64) &&& (255 : Int64))), .second, .val (.long (own_h [])), .second, .val (.long (own_h [(p2.toInt8.toInt32), (p3.toInt8.toInt32), (p4.toInt8.toInt32)])), .second, .val (.long (own_h [(p2.toInt8.toInt32), (p3.toInt8.toInt32), (p4.toInt8.toInt32), (p5.toInt8.toInt32)])), .second, .val (.int 1), .unset] [(.long (((own_h [(p2.toInt8.toInt32), (p3.toInt8.toInt32), (p4.toInt8.toInt32)]) ^^^ (((p5.toInt8.toInt32).toInt64) &&& (255 : Int64))) * (1099511628211 : Int64))), (.long (own_h [(p2.toInt8.toInt32), (p3.toInt8.toInt32), (p4.toInt8.toInt32), (p5.toInt8.toInt32)]))])
    refine own_at (fun t k => Jvm.Free.XT.lcmp X36.here hx rfl (hb hby at_96) rfl k) ?_
    show own_Go p e below KK T36 (mkF m 97 #[.val (.int p1), .val (.int p2), .val (.int p3), .val (.int p4), .val (.int p5), .val (.int 3), .val (.ref b28), .val (.ref r30), .val (.ref r32), .val (.long (((p5.toInt8.toInt32).toInt64) &&& (255 : Int64))), .second, .val (.long (own_h [])), .second, .val (.long (own_h [(p2.toInt8.toInt32), (p3.toInt8.toInt32), (p4.toInt8.toInt32)])), .second, .val (.long (own_h [(p2.toInt8.toInt32), (p3.toInt8.toInt32), (p4.toInt8.toInt32), (p5.toInt8.toInt32)])), .second, .val (.int 1), .unset] [(.int (Jvm.Free.XT.cmpL (own_h [(p2.toInt8.toInt32), (p3.toInt8.toInt32), (p4.toInt8.toInt32), (p5.toInt8.toInt32)]) (((own_h [(p2.toInt8.toInt32), (p3.toInt8.toInt32), (p4.toInt8.toInt32)]) ^^^ (((p5.toInt8.toInt32).toInt64) &&& (255 : Int64))) * (1099511628211 : Int64))))])
    have hc97 : (own_h [(p2.toInt8.toInt32), (p3.toInt8.toInt32), (p4.toInt8.toInt32), (p5.toInt8.toInt32)]) = (((own_h [(p2.toInt8.toInt32), (p3.toInt8.toInt32), (p4.toInt8.toInt32)]) ^^^ (((p5.toInt8.toInt32).toInt64) &&& (255 : Int64))) * (1099511628211 : Int64)) := rfl
    refine own_at (fun t k => XS.ifNo X36.here hx rfl (hb hby at_97) rfl (Jvm.Free.XT.ll_ne_f hc97) k) ?_
    show own_Go p e below KK T36 (mkF m 100 #[.val (.int p1), .val (.int p2), .val (.int p3), .val (.int p4), .val (.int p5), .val (.int 3), .val (.ref b28), .val (.ref r30), .val (.ref r32), .val (.long (((p5.toInt8.toInt32).toInt64) &&& (255 : Int64))), .second, .val (.long (own_h [])), .second, .val (.long (own_h [(p2.toInt8.toInt32), (p3.toInt8.toInt32), (p4.toInt8.toInt32)])), .second, .val (.long (own_h [(p2.toInt8.toInt32), (p3.toInt8.toInt32), (p4.toInt8.toInt32), (p5.toInt8.toInt32)])), .second, .val (.int 1), .unset] [])
    refine own_at (fun t k => XS.iconst X36.here hx rfl (hb hby at_100) k) ?_
    show own_Go p e below KK T36 (mkF m 101 #[.val (.int p1), .val (.int p2), .val (.int p3), .val (.int p4), .val (.int p5), .val (.int 3), .val (.ref b28), .val (.ref r30), .val (.ref r32), .val (.long (((p5.toInt8.toInt32).toInt64) &&& (255 : Int64))), .second, .val (.long (own_h [])), .second, .val (.long (own_h [(p2.toInt8.toInt32), (p3.toInt8.toInt32), (p4.toInt8.toInt32)])), .second, .val (.long (own_h [(p2.toInt8.toInt32), (p3.toInt8.toInt32), (p4.toInt8.toInt32), (p5.toInt8.toInt32)])), .second, .val (.int 1), .unset] [(.int 1)])
    refine own_at (fun t k => XS.goto X36.here hx rfl (pc0 := 101) (pc' := 105) rfl (hb hby at_101) (by decide) (by decide) k) ?_
    show own_Go p e below KK T36 (mkF m 105 #[.val (.int p1), .val (.int p2), .val (.int p3), .val (.int p4), .val (.int p5), .val (.int 3), .val (.ref b28), .val (.ref r30), .val (.ref r32), .val (.long (((p5.toInt8.toInt32).toInt64) &&& (255 : Int64))), .second, .val (.long (own_h [])), .second, .val (.long (own_h [(p2.toInt8.toInt32), (p3.toInt8.toInt32), (p4.toInt8.toInt32)])), .second, .val (.long (own_h [(p2.toInt8.toInt32), (p3.toInt8.toInt32), (p4.toInt8.toInt32), (p5.toInt8.toInt32)])), .second, .val (.int 1), .unset] [(.int 1)])
    refine own_at (fun t k => XS.istore X36.here hx rfl (hb hby at_105) rfl (l' := #[.val (.int p1), .val (.int p2), .val (.int p3), .val (.int p4), .val (.int p5), .val (.int 3), .val (.ref b28), .val (.ref r30), .val (.ref r32), .val (.long (((p5.toInt8.toInt32).toInt64) &&& (255 : Int64))), .second, .val (.long (own_h [])), .second, .val (.long (own_h [(p2.toInt8.toInt32), (p3.toInt8.toInt32), (p4.toInt8.toInt32)])), .second, .val (.long (own_h [(p2.toInt8.toInt32), (p3.toInt8.toInt32), (p4.toInt8.toInt32), (p5.toInt8.toInt32)])), .second, .val (.int 1), .val (.int 1)]) rfl k) ?_
    show own_Go p e below KK T36 (mkF m 107 #[.val (.int p1), .val (.int p2), .val (.int p3), .val (.int p4), .val (.int p5), .val (.int 3), .val (.ref b28), .val (.ref r30), .val (.ref r32), .val (.long (((p5.toInt8.toInt32).toInt64) &&& (255 : Int64))), .second, .val (.long (own_h [])), .second, .val (.long (own_h [(p2.toInt8.toInt32), (p3.toInt8.toInt32), (p4.toInt8.toInt32)])), .second, .val (.long (own_h [(p2.toInt8.toInt32), (p3.toInt8.toInt32), (p4.toInt8.toInt32), (p5.toInt8.toInt32)])), .second, .val (.int 1), .val (.int 1)] [])
    refine own_at (fun t k => XS.iload X36.here hx rfl (hb hby at_107) rfl k) ?_
    show own_Go p e below KK T36 (mkF m 109 #[.val (.int p1), .val (.int p2), .val (.int p3), .val (.int p4), .val (.int p5), .val (.int 3), .val (.ref b28), .val (.ref r30), .val (.ref r32), .val (.long (((p5.toInt8.toInt32).toInt64) &&& (255 : Int64))), .second, .val (.long (own_h [])), .second, .val (.long (own_h [(p2.toInt8.toInt32), (p3.toInt8.toInt32), (p4.toInt8.toInt32)])), .second, .val (.long (own_h [(p2.toInt8.toInt32), (p3.toInt8.toInt32), (p4.toInt8.toInt32), (p5.toInt8.toInt32)])), .second, .val (.int 1), .val (.int 1)] [(.int 1)])
    have hc109 : ¬ ((1 : Int32) = (0 : Int32)) := by decide
    refine own_at (fun t k => XS.ifNo X36.here hx rfl (hb hby at_109) rfl (Jvm.Free.XT.i0_eq_f hc109) k) ?_
    show own_Go p e below KK T36 (mkF m 112 #[.val (.int p1), .val (.int p2), .val (.int p3), .val (.int p4), .val (.int p5), .val (.int 3), .val (.ref b28), .val (.ref r30), .val (.ref r32), .val (.long (((p5.toInt8.toInt32).toInt64) &&& (255 : Int64))), .second, .val (.long (own_h [])), .second, .val (.long (own_h [(p2.toInt8.toInt32), (p3.toInt8.toInt32), (p4.toInt8.toInt32)])), .second, .val (.long (own_h [(p2.toInt8.toInt32), (p3.toInt8.toInt32), (p4.toInt8.toInt32), (p5.toInt8.toInt32)])), .second, .val (.int 1), .val (.int 1)] [])
    refine own_at (fun t k => XS.iload X36.here hx rfl (hb hby at_112) rfl k) ?_
    show own_Go p e below KK T36 (mkF m 114 #[.val (.int p1), .val (.int p2), .val (.int p3), .val (.int p4), .val (.int p5), .val (.int 3), .val (.ref b28), .val (.ref r30), .val (.ref r32), .val (.long (((p5.toInt8.toInt32).toInt64) &&& (255 : Int64))), .second, .val (.long (own_h [])), .second, .val (.long (own_h [(p2.toInt8.toInt32), (p3.toInt8.toInt32), (p4.toInt8.toInt32)])), .second, .val (.long (own_h [(p2.toInt8.toInt32), (p3.toInt8.toInt32), (p4.toInt8.toInt32), (p5.toInt8.toInt32)])), .second, .val (.int 1), .val (.int 1)] [(.int 1)])
    have hc114 : ¬ ((1 : Int32) = (0 : Int32)) := by decide
    refine own_at (fun t k => XS.ifNo X36.here hx rfl (hb hby at_114) rfl (Jvm.Free.XT.i0_eq_f hc114) k) ?_
    show own_Go p e below KK T36 (mkF m 117 #[.val (.int p1), .val (.int p2), .val (.int p3), .val (.int p4), .val (.int p5), .val (.int 3), .val (.ref b28), .val (.ref r30), .val (.ref r32), .val (.long (((p5.toInt8.toInt32).toInt64) &&& (255 : Int64))), .second, .val (.long (own_h [])), .second, .val (.long (own_h [(p2.toInt8.toInt32), (p3.toInt8.toInt32), (p4.toInt8.toInt32)])), .second, .val (.long (own_h [(p2.toInt8.toInt32), (p3.toInt8.toInt32), (p4.toInt8.toInt32), (p5.toInt8.toInt32)])), .second, .val (.int 1), .val (.int 1)] [])
    refine own_at (fun t k => XS.iconst X36.here hx rfl (hb hby at_117) k) ?_
    show own_Go p e below KK T36 (mkF m 118 #[.val (.int p1), .val (.int p2), .val (.int p3), .val (.int p4), .val (.int p5), .val (.int 3), .val (.ref b28), .val (.ref r30), .val (.ref r32), .val (.long (((p5.toInt8.toInt32).toInt64) &&& (255 : Int64))), .second, .val (.long (own_h [])), .second, .val (.long (own_h [(p2.toInt8.toInt32), (p3.toInt8.toInt32), (p4.toInt8.toInt32)])), .second, .val (.long (own_h [(p2.toInt8.toInt32), (p3.toInt8.toInt32), (p4.toInt8.toInt32), (p5.toInt8.toInt32)])), .second, .val (.int 1), .val (.int 1)] [(.int 1)])
    refine own_at (fun t k => XS.goto X36.here hx rfl (pc0 := 118) (pc' := 122) rfl (hb hby at_118) (by decide) (by decide) k) ?_
    show own_Go p e below KK T36 (mkF m 122 #[.val (.int p1), .val (.int p2), .val (.int p3), .val (.int p4), .val (.int p5), .val (.int 3), .val (.ref b28), .val (.ref r30), .val (.ref r32), .val (.long (((p5.toInt8.toInt32).toInt64) &&& (255 : Int64))), .second, .val (.long (own_h [])), .second, .val (.long (own_h [(p2.toInt8.toInt32), (p3.toInt8.toInt32), (p4.toInt8.toInt32)])), .second, .val (.long (own_h [(p2.toInt8.toInt32), (p3.toInt8.toInt32), (p4.toInt8.toInt32), (p5.toInt8.toInt32)])), .second, .val (.int 1), .val (.int 1)] [(.int 1)])
    subst hKK
    exact own_retN X36 hx hlk (t := .boolean) Bd.returns (by simp) (hb hby at_122) (w := (1 : Int32)) (show nar .boolean (1 : Int32) = 1 from by decide) ⟨rfl, N36⟩ (Nat.le_of_ble_eq_true rfl) (Nat.le_of_ble_eq_true rfl)
set_option maxRecDepth 65536 in
set_option maxHeartbeats 40000000 in
theorem comes_1 {Post : Tables → Env → Array Value → State → Outcome → State → Prop} (hpost : ∀ tb e args s v u, (limb_1_1.after args s (.returned v) u = true ∧ limb_1_2.after args s (.returned v) u = true ∧ True) → FrameEnd s (.returned v) u (Jvm.fieldLocs frame_1_writes args s ++ Jvm.arrayLocs frame_1_arrays args s ++ Jvm.staticLocs frame_1_statics s) 16 128 → Post tb e args s (.returned v) u) :
    ArmFor flags0 classFile x code maxLocals ret World_1 tables_1 room_1 Calls_1 rest_1 Pre_1 Post := by
  intro l hfl _ _ p e ha hc hk s m args below hf hA hF happ hP
  obtain ⟨hcalls, hrest, hpre⟩ := hP
  obtain ⟨-, -, -, hnamed, -, -, -, hat⟩ := (Spec.applies_iff hf).mp happ
  obtain ⟨hg, hn⟩ := and_e (Cond.before_iff.mp (show (Jvm.Cond.and given_1 narrow_1).before args s = true from hpre))
  obtain ⟨gc, g0⟩ := and_e hg
  obtain ⟨u0, g1⟩ := and_e g0
  obtain ⟨u1, g2⟩ := and_e g1
  obtain ⟨u2, g3⟩ := and_e g2
  obtain ⟨u3, g4⟩ := and_e g3
  obtain ⟨w0, w1, w2, w3, w4, rfl⟩ : ∃ w0 w1 w2 w3 w4 : Value, args = #[w0, w1, w2, w3, w4] := by
    have hs : args.size = 5 := by simpa [Cond.value, given_1] using gc
    obtain ⟨L⟩ := args
    match L, hs with
    | [w0, w1, w2, w3, w4], _ => exact ⟨w0, w1, w2, w3, w4, rfl⟩
  have hw := fun d (hd : d ∈ tables_1) => atoms_spec (ws := Jvm.Cond.code x code maxLocals ret :: tables_1) hat d (List.mem_cons_of_mem _ hd)
  obtain ⟨i0, ei0⟩ := is_v u0
  obtain rfl : w0 = (.int i0) := Option.some.inj ei0
  obtain ⟨i1, ei1⟩ := is_v u1
  obtain rfl : w1 = (.int i1) := Option.some.inj ei1
  obtain ⟨i2, ei2⟩ := is_v u2
  obtain rfl : w2 = (.int i2) := Option.some.inj ei2
  obtain ⟨i3, ei3⟩ := is_v u3
  obtain rfl : w3 = (.int i3) := Option.some.inj ei3
  obtain ⟨i4, ei4⟩ := is_v g4
  obtain rfl : w4 = (.int i4) := Option.some.inj ei4
  obtain ⟨n, o, h1, h2, h3, _, L, rfl, ⟨rfl, N⟩, hq⟩ := rm_law l s _ hw tables_1 i0 i1 i2 i3 i4 s.heap s.heap.size (Nat.le_refl _) p e ha hc hk s m _ below hf ((Spec.applies_iff_loose hf).mp happ).1 ⟨rfl, State.Warmed39.refl s, rfl⟩ trivial
  refine ⟨n, _, h1, h2, h3, hpost _ _ _ _ _ _ ⟨Cond.after_iff.mpr rfl, Cond.after_iff.mpr (eq_i res_at (Term.int_eval (1)) rfl), trivial⟩ ⟨hq.1, hq.2.1, (hq.2.2.sift fun y hy => Or.inr (N y hy)).mono (by decide) (by decide)⟩⟩
theorem main_1_1 : Claimed_1_1 := comes_1 fun _ _ _ _ _ _ h hF => ⟨h.1, hF⟩
theorem main_1_2 : Claimed_1_2 := comes_1 fun _ _ _ _ _ _ h hF => ⟨h.2.1, hF⟩
end Jvm.Pilot.@@N@@
namespace Jvm.Pilot.@@N@@
open Jvm Jvm.ClassFile Sem Op Lib Jvm.Free Jvm.Stand Jvm.Pilot.@@N@@.Jvm.D
/-! MADE BY PROGRAM (witnessworld.py) out of the Statement's table words and the real class files: 9 classes; the members and pool entries that the words name. The judged class is class 1, her method 2. -/
namespace start1
open Jvm.ClassFile
def u (s : String) : CpInfo := .utf8 (stringToUtf16 s)
/-- a pool by its gaps: so many unusable entries, then the entry; so many at the end -/
def gap : Nat → List CpInfo → List CpInfo
  | 0, r => r
  | n + 1, r => .unusable :: gap n r
def poolList (es : List (Nat × CpInfo)) (last : Nat) : List CpInfo := es.foldr (fun e r => gap e.1 (e.2 :: r)) (gap last [])
def pool (es : List (Nat × CpInfo)) (last : Nat) : Array CpInfo := ⟨poolList es last⟩
def fileOf (pool : Array CpInfo) (this : Nat) (attrs : Array Attribute := #[]) (ms : Array MethodInfo := #[]) (fl : Nat := 33) (sup : Nat := 0) (ifs : Array Nat := #[]) (fds : Array FieldInfo := #[]) : ClassFile where
  minorVersion := 0
  majorVersion := 65
  constantPool := pool
  accessFlags := fl
  thisClass := this
  superClass := sup
  interfaces := ifs
  fields := fds
  methods := ms
  attributes := attrs
def plain (name : String) (sup : Option ClassId) : Class where
  name := name
  kind := .ordinary
  loader := none
  accessFlags := 33
  super := sup
  interfaces := #[]
  cf := none
  fields := #[]
  methods := #[]
  instanceTypes := #[]
  staticTypes := #[]
  resolved := #[]
  callSites := []
  init := .initialized
  statics := none
  mirror := none

def pool0 : Array CpInfo := pool [(5, u "<init>"), (0, u "()V"), (1, .class_ 10), (1, u "java/lang/Object")] 113

def k0m0 : Method := { name := "<init>", desc := "()V", sig := { parameters := [], returnType := none }, accessFlags := 1, code := none }
/-- java/lang/Object -/
def k0 : Class := { plain "java/lang/Object" none with
  accessFlags := 33
  interfaces := #[]
  cf := some (fileOf pool0 8 #[] #[{ accessFlags := 1, nameIndex := 5, descriptorIndex := 6, attributes := #[] }] 33 0 #[] #[])
  fields := #[]
  methods := #[k0m0]
  instanceTypes := #[]
  staticTypes := #[]
  resolved := Array.replicate 124 none
  statics := none }

def pool1 : Array CpInfo := pool [(2, .class_ 4), (1, u "java/lang/Object"), (0, u "<init>"), (0, u "()V"), (0, .methodref 8 9), (0, .class_ 10), (0, .nameAndType 11 12), (0, u "com/example/wirecall/wirecall/wire/Fnv1aHash64PinLaw"), (0, u "fill"), (0, u "(IIIII)[B"), (0, .long 255), (1, .methodref 16 17), (0, .class_ 18), (0, .nameAndType 19 20), (0, u "com/example/wirecall/wirecall/wire/Fnv1a"), (0, u "hash64"), (0, u "([B)J"), (0, .long 14695981039346656037), (1, .long 1099511628211), (6, u "law"), (0, u "(IIIII)Z")] 2

def k1m0 : Method := { name := "<init>", desc := "()V", sig := { parameters := [], returnType := none }, accessFlags := 2, code := none }
def k1c1 : Code := { maxStack := 3, maxLocals := 6, code := method_2_code, exceptionTable := #[], attributes := #[] }
def k1m1 : Method := { name := "fill", desc := "(IIIII)[B", sig := { parameters := [.int, .int, .int, .int, .int], returnType := some (.array .byte) }, accessFlags := 10, code := some k1c1 }
def k1c2 : Code := { maxStack := 6, maxLocals := 19, code := code, exceptionTable := #[], attributes := #[] }
def k1m2 : Method := { name := "law", desc := "(IIIII)Z", sig := { parameters := [.int, .int, .int, .int, .int], returnType := some .boolean }, accessFlags := 9, code := some k1c2 }
/-- com/example/wirecall/wirecall/wire/Fnv1aHash64PinLaw -/
def k1 : Class := { plain "com/example/wirecall/wirecall/wire/Fnv1aHash64PinLaw" (some 0) with
  accessFlags := 49
  interfaces := #[]
  cf := some (fileOf pool1 8 #[] #[{ accessFlags := 2, nameIndex := 5, descriptorIndex := 6, attributes := #[] }, { accessFlags := 10, nameIndex := 11, descriptorIndex := 12, attributes := #[] }, { accessFlags := 9, nameIndex := 30, descriptorIndex := 31, attributes := #[] }] 49 2 #[] #[])
  fields := #[]
  methods := #[k1m0, k1m1, k1m2]
  instanceTypes := #[]
  staticTypes := #[]
  resolved := Array.replicate 34 none
  statics := none }

def pool2 : Array CpInfo := pool [(2, .class_ 4), (1, u "java/lang/Object"), (0, u "<init>"), (0, u "()V"), (0, .class_ 8), (0, u "com/example/wirecall/wirecall/wire/Fnv1a"), (0, .long 14695981039346656037), (1, .long 255), (1, .long 1099511628211), (1, u "OFFSET_BASIS"), (0, u "J"), (1, u "PRIME"), (2, u "hash64"), (0, u "([B)J")] 5

def k2m0 : Method := { name := "<init>", desc := "()V", sig := { parameters := [], returnType := none }, accessFlags := 2, code := none }
def k2c1 : Code := { maxStack := 6, maxLocals := 7, code := prog_61_method_2_code, exceptionTable := #[], attributes := #[] }
def k2m1 : Method := { name := "hash64", desc := "([B)J", sig := { parameters := [(.array .byte)], returnType := some .long }, accessFlags := 9, code := some k2c1 }
/-- com/example/wirecall/wirecall/wire/Fnv1a -/
def k2 : Class := { plain "com/example/wirecall/wirecall/wire/Fnv1a" (some 0) with
  accessFlags := 49
  interfaces := #[]
  cf := some (fileOf pool2 7 #[] #[{ accessFlags := 2, nameIndex := 5, descriptorIndex := 6, attributes := #[] }, { accessFlags := 9, nameIndex := 21, descriptorIndex := 22, attributes := #[] }] 49 2 #[] #[{ accessFlags := 25, nameIndex := 15, descriptorIndex := 16, attributes := #[] }, { accessFlags := 25, nameIndex := 18, descriptorIndex := 16, attributes := #[] }])
  fields := #[{ name := "OFFSET_BASIS", type := .long, accessFlags := 25, slot := 0, constantValue := 0 }, { name := "PRIME", type := .long, accessFlags := 25, slot := 1, constantValue := 0 }]
  methods := #[k2m0, k2m1]
  instanceTypes := #[]
  staticTypes := #[.long, .long]
  resolved := Array.replicate 28 none
  statics := none }

def pool3 : Array CpInfo := pool [(1, u "java/lang/Cloneable"), (0, .class_ 1), (0, u "java/lang/Object"), (0, .class_ 3)] 3

/-- java/lang/Cloneable -/
def k3 : Class := { plain "java/lang/Cloneable" (some 0) with
  accessFlags := 1537
  interfaces := #[]
  cf := some (fileOf pool3 2 #[] #[] 1537 4 #[] #[])
  fields := #[]
  methods := #[]
  instanceTypes := #[]
  staticTypes := #[]
  resolved := Array.replicate 8 none
  statics := none }

def pool4 : Array CpInfo := pool [(1, u "java/io/Serializable"), (0, .class_ 1), (0, u "java/lang/Object"), (0, .class_ 3)] 3

/-- java/io/Serializable -/
def k4 : Class := { plain "java/io/Serializable" (some 0) with
  accessFlags := 1537
  interfaces := #[]
  cf := some (fileOf pool4 2 #[] #[] 1537 4 #[] #[])
  fields := #[]
  methods := #[]
  instanceTypes := #[]
  staticTypes := #[]
  resolved := Array.replicate 8 none
  statics := none }

/-- the primitive byte -/
def k5 : Class := { plain "byte" none with kind := .primitive 'B', accessFlags := 0x411 }
/-- [B -/
def k6 : Class := { plain "[B" (some 0) with kind := .array 5 .byte, interfaces := #[3, 4], accessFlags := 1041 }

/-- the primitive int -/
def k7 : Class := { plain "int" none with kind := .primitive 'I', accessFlags := 0x411 }
/-- [I -/
def k8 : Class := { plain "[I" (some 0) with kind := .array 7 .int, interfaces := #[3, 4], accessFlags := 1041 }

def heap : Heap := #[]
def classes : Array Class := #[k0, k1, k2, k3, k4, k5, k6, k7, k8]
def interned : List (Array UInt16 × Addr) := []
def slotsUsed : Nat := 0
def theMethod : MethodId := ⟨1, 2⟩
def args0 : Array Value := #[.int 5, .int 1, .int 2, .int 3, .int 4]
def aboutOver (below : List Frame) : State where
  vm := { classes := classes, interned := interned.toArray }
  heap := heap
  slotsUsed := slotsUsed
  threads := #[{ frames := .invoking theMethod args0 :: below }]
def below0 : List Frame := [.native { method := ⟨0, 0⟩, args := #[] }]
def about1 : State := aboutOver below0
def p0 : Program := .bare "" "" ""
def e0 : Env := launch0.env 0 0 0
theorem w_frames : about1.frames = Frame.invoking theMethod args0 :: below0 := rfl
set_option maxRecDepth 65536 in
theorem w_args : argsFit about1.vm theMethod args0 = true := by decide +kernel
set_option maxRecDepth 65536 in
theorem w_heap : heapFits about1 = true := by decide +kernel
set_option maxRecDepth 65536 in
theorem w_runnable : about1.curStatus? = some .runnable := by decide +kernel
set_option maxRecDepth 65536 in
theorem w_alone : about1.alone = true := by decide +kernel
set_option maxRecDepth 65536 in
theorem w_named : about1.methodNamed? x = some theMethod := by decide +kernel
set_option maxRecDepth 65536 in
theorem w_hears : about1.hears theMethod below0 = true := by decide +kernel
set_option maxRecDepth 65536 in
theorem w_ripe : about1.ripe theMethod args0 below0 = true := by decide +kernel
theorem w_running : about1.status = .running := rfl
set_option maxRecDepth 65536 in
theorem w_room : about1.hasRoom e0.platform room_1 = true :=
  launch0.hasRoom_least _ room_1 (by decide +kernel) (by decide +kernel) (by decide +kernel) (by decide +kernel) (by decide +kernel) (by decide +kernel)
theorem allAtoms_all (ts : List Jvm.Cond) (a : Array Jvm.Value) (st : Jvm.State) : (allAtoms ts).before a st = ts.all (fun c => c.before a st) := by
  induction ts with
  | nil => rfl
  | cons c t ih =>
    show (Jvm.Cond.and c (allAtoms t)).before a st = _
    rw [Jvm.Cond.before_and, ih, List.all_cons]
def words1 : List Jvm.Cond := Jvm.Cond.code x code maxLocals ret :: tables_1
/-- a 'code' word, met by the world's own term for the bytes: nothing is compared byte by byte -/
theorem code_word {y : MethodName} {bytes : ByteArray} {mx : Nat} {rt : Option FieldType} {a : Array Value} {s : State} {m : MethodId} {meth : Method} {c : Code} (h1 : s.methodNamed? y = some m) (h2 : s.vm.method? m = some meth) (h3 : meth.code = some c) (h4 : c.code = bytes)
    (h5 : (c.maxLocals == mx && c.exceptionTable.isEmpty && decide (c.maxStack ≤ mostOperands) && decide (meth.sig.returnType = rt) && !meth.locks && decide (parseMethodDescriptor y.desc = some meth.sig)) = true) : (Jvm.Cond.code y bytes mx rt).before a s = true := by
  simp only [Bool.and_eq_true, beq_iff_eq, Bool.not_eq_true', decide_eq_true_eq] at h5
  obtain ⟨⟨⟨⟨⟨g1, g2⟩, g3⟩, g4⟩, g5⟩, g6⟩ := h5
  simp [Cond.before, Cond.holds, Cond.value, h1, h2, h3, h4, g1, g2, g3, g4, g5, g6]
def isCode : Jvm.Cond → Bool
  | .code _ _ _ _ => true
  | _ => false
theorem all_split {L : List Jvm.Cond} {P : Jvm.Cond → Bool} (h1 : L.all (fun c => isCode c || P c) = true) (h2 : ∀ c ∈ L.filter isCode, P c = true) : L.all P = true := by
  refine List.all_eq_true.mpr fun c hc => ?_
  have h := List.all_eq_true.mp h1 c hc
  rcases Bool.eq_false_or_eq_true (isCode c) with hi | hi
  · exact h2 c (List.mem_filter.mpr ⟨hc, hi⟩)
  · simpa [hi] using h
set_option maxRecDepth 65536 in
theorem w_c0 : (Jvm.Cond.code x code maxLocals ret).before args0 about1 = true := code_word (m := ⟨1, 2⟩) (meth := k1m2) (c := k1c2) (by decide +kernel) rfl rfl rfl (by decide +kernel)
set_option maxRecDepth 65536 in
theorem w_c1 : (Jvm.Cond.code ({ cls := "com/example/wirecall/wirecall/wire/Fnv1aHash64PinLaw", name := "fill", desc := "(IIIII)[B" } : Jvm.MethodName) method_2_code (6 : Nat) (Option.some (Jvm.ClassFile.FieldType.array Jvm.ClassFile.FieldType.byte))).before args0 about1 = true := code_word (m := ⟨1, 1⟩) (meth := k1m1) (c := k1c1) (by decide +kernel) rfl rfl rfl (by decide +kernel)
set_option maxRecDepth 65536 in
theorem w_c2 : (Jvm.Cond.code ({ cls := "com/example/wirecall/wirecall/wire/Fnv1a", name := "hash64", desc := "([B)J" } : Jvm.MethodName) prog_61_method_2_code (7 : Nat) (Option.some Jvm.ClassFile.FieldType.long)).before args0 about1 = true := code_word (m := ⟨2, 1⟩) (meth := k2m1) (c := k2c1) (by decide +kernel) rfl rfl rfl (by decide +kernel)
def codes1 : List Jvm.Cond := [Jvm.Cond.code x code maxLocals ret, Jvm.Cond.code ({ cls := "com/example/wirecall/wirecall/wire/Fnv1aHash64PinLaw", name := "fill", desc := "(IIIII)[B" } : Jvm.MethodName) method_2_code (6 : Nat) (Option.some (Jvm.ClassFile.FieldType.array Jvm.ClassFile.FieldType.byte)), Jvm.Cond.code ({ cls := "com/example/wirecall/wirecall/wire/Fnv1a", name := "hash64", desc := "([B)J" } : Jvm.MethodName) prog_61_method_2_code (7 : Nat) (Option.some Jvm.ClassFile.FieldType.long)]
set_option maxRecDepth 65536 in
theorem codes_eq : words1.filter isCode = codes1 := rfl
theorem w_codes : ∀ c ∈ words1.filter isCode, c.before args0 about1 = true := by
  rw [codes_eq]
  intro c hc
  simp only [codes1, List.mem_cons, List.not_mem_nil, or_false] at hc
  rcases hc with rfl | rfl | rfl
  · exact w_c0
  · exact w_c1
  · exact w_c2
set_option maxRecDepth 65536 in
theorem w_t1 : words1.all (fun c => isCode c || c.before args0 about1) = true := by decide +kernel
theorem w_tables : (allAtoms (Jvm.Cond.code x code maxLocals ret :: tables_1)).before args0 about1 = true := by
  rw [allAtoms_all]
  show words1.all (fun c => c.before args0 about1) = true
  refine all_split ?_ w_codes
  rw [w_t1]
set_option maxRecDepth 65536 in
theorem w_case : (Jvm.Cond.and given_1 narrow_1).before args0 about1 = true := by decide +kernel
theorem w_applies : (headSpec (Jvm.Cond.code x code maxLocals ret :: tables_1) room_1).applies x e0.platform about1 = true :=
  (Spec.applies_iff w_frames).mpr ⟨w_running, w_runnable, w_alone, w_named, w_hears, w_ripe, w_room, w_tables⟩
theorem atStart : AtStart classFile x code maxLocals ret World_1 tables_1 room_1 Calls_1 rest_1 Pre_1 launch0 p0 e0 about1 theMethod args0 below0 :=
  ⟨lists_1, trivial, launch0.admits_env _ _ _, launch0.least_env, fairChoices_fair.cas, fairChoices_fair.clock, w_frames, w_args, w_heap, w_applies, trivial, trivial, w_case⟩
end start1
theorem witness_1 : WitnessClaimed_1 := ⟨start1.p0, start1.e0, start1.about1, start1.theMethod, start1.args0, start1.below0, start1.atStart⟩
end Jvm.Pilot.@@N@@
