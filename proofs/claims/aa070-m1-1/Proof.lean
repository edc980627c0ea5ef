import JvmDerived
import JvmDerived.Pilot.@@N@@Statement
import JvmDerived.Pilot.@@N@@Code
set_option linter.unusedVariables false
set_option linter.unusedSimpArgs false
namespace Jvm.Pilot.@@N@@
open Jvm Jvm.ClassFile Sem Op Lib Jvm.Free Jvm.Stand Jvm.LawKit Jvm.RoadKit Bundle Jvm.Pilot.@@N@@.Jvm.D
section OwnKit
/-- from the frame f at T the run comes to an end that K takes -/
def own_Go (p : Program) (e : Env) (below : List Frame) (K : Outcome → State → Prop) (T : State) (f : JFrame) : Prop :=
  ∃ s₂ o, Steps p.tables e below (T.setTop f) s₂ ∧ s₂.status = .running ∧ Ended s₂ below o ∧ K o s₂
def own_K (s : State) (Q : Option Value → Heap → List Loc → Prop) (cc ss : Nat) (o : Outcome) (U : State) : Prop :=
  ∃ v L, o = .returned v ∧ Q v U.heap L ∧ FrameEnd s o U L cc ss
variable {p : Program} {l : Launch} {e : Env} {R : Room} {s : State} {m : MethodId} {args : Array Value} {below : List Frame} {meth : Method} {c : Code} {T T' : State} {locs : List Loc} {cells slots : Nat} {K : Outcome → State → Prop} {Q : Option Value → Heap → List Loc → Prop} {cc ss : Nat} {f f' : JFrame}
theorem own_of (h : ∀ t, Steps p.tables e below (T'.setTop f') t → Steps p.tables e below (T.setTop f) t) (k : own_Go p e below K T' f') : own_Go p e below K T f := by
  obtain ⟨s2, o, h1, r⟩ := k
  exact ⟨s2, o, h _ h1, r⟩
theorem own_at (h : ∀ t, Steps p.tables e below (T.setTop f') t → Steps p.tables e below (T.setTop f) t) (k : own_Go p e below K T f') : own_Go p e below K T f := own_of h k
theorem own_cast (q : f = f') (k : own_Go p e below K T f') : own_Go p e below K T f := q ▸ k
theorem own_end (X : Stand p l e R s m args below meth c T locs cells slots) (hlk : meth.locks = false) {v : Option Value} (hv : meth.sig.returnType = none → v = none) (hq : Q v T.heap locs) (h1 : cells ≤ cc) (h2 : slots ≤ ss)
    (hs : ∀ fs, (∀ (f : JFrame) (acts : List Action), f.method = m → f.locked = none → f.entered = [] → (doReturn e (T.setTop f) acts v).1 = T.setFrames fs) → Steps p.tables e below (T.setTop f) (T.setFrames fs)) : own_Go p e below (own_K s Q cc ss) T f := by
  obtain ⟨fs, hr, hrun, hended, hW, hsame⟩ := X.leave (v := v) hv hlk
  exact ⟨_, _, hs fs hr, hrun, hended, _, _, rfl, hq, ⟨_, rfl⟩, hW, hsame.mono h1 h2⟩
theorem own_retN (X : Stand p l e R s m args below meth c T locs cells slots) (hx : p.tables.exec = Jvm.exec) (hlk : meth.locks = false) {pc : Nat} {Ls : Array Slot} {z w : Int32} {t : FieldType} {rest : List Value} (hret : meth.sig.returnType = some t) (ht : t = .boolean ∨ t = .byte ∨ t = .char ∨ t = .short)
    (hd : decode c.code pc = .ok (.ireturn, 1)) (hw : nar t z = w) (hq : Q (some (.int w)) T.heap locs) (h1 : cells ≤ cc) (h2 : slots ≤ ss) : own_Go p e below (own_K s Q cc ss) T (mkF m pc Ls (.int z :: rest)) := by
  subst hw
  exact own_end X hlk (fun h => by rw [hret] at h; cases h) hq h1 h2 fun fs hr => retN X hx hret ht hd hr
theorem own_retI (X : Stand p l e R s m args below meth c T locs cells slots) (hx : p.tables.exec = Jvm.exec) (hlk : meth.locks = false) {pc : Nat} {Ls : Array Slot} {z w : Int32} {rest : List Value} (hret : meth.sig.returnType = some .int)
    (hd : decode c.code pc = .ok (.ireturn, 1)) (hw : z = w) (hq : Q (some (.int w)) T.heap locs) (h1 : cells ≤ cc) (h2 : slots ≤ ss) : own_Go p e below (own_K s Q cc ss) T (mkF m pc Ls (.int z :: rest)) := by
  subst hw
  refine own_end X hlk (fun h => by rw [hret] at h; cases h) hq h1 h2 fun fs hr => ?_
  have hm' : T.vm.method? m = some meth := X.method'
  have hn : narrow .int (.int z) = .int z := rfl
  show Steps p.tables e below (T.setTop { method := m, pc := pc, locals := Ls, stack := _ :: rest, locked := none }) _
  jvm_step X.here [X.here.top, hx, hd, hm', hret, hn]
  first | (intro acts; rw [hr _ acts rfl rfl rfl]) | rw [hr _ _ rfl rfl rfl]
  exact Steps.refl _
theorem own_retJ (X : Stand p l e R s m args below meth c T locs cells slots) (hx : p.tables.exec = Jvm.exec) (hlk : meth.locks = false) {pc : Nat} {Ls : Array Slot} {z w : Int64} (hret : meth.sig.returnType = some .long)
    (hd : decode c.code pc = .ok (.lreturn, 1)) (hw : z = w) (hq : Q (some (.long w)) T.heap locs) (h1 : cells ≤ cc) (h2 : slots ≤ ss) : own_Go p e below (own_K s Q cc ss) T (mkF m pc Ls [.long z]) := by
  subst hw
  exact own_end X hlk (fun h => by rw [hret] at h; cases h) hq h1 h2 fun fs hr => X.lreturnOut hx hret hd hr
theorem own_retA (X : Stand p l e R s m args below meth c T locs cells slots) (hx : p.tables.exec = Jvm.exec) (hlk : meth.locks = false) {pc : Nat} {Ls : Array Slot} {z : Value} {ty : FieldType} {rest : List Value} (hz : z.isRef = true) (hret : meth.sig.returnType = some ty) (hty : ty.isReference = true)
    (hd : decode c.code pc = .ok (.areturn, 1)) (hq : Q (some z) T.heap locs) (h1 : cells ≤ cc) (h2 : slots ≤ ss) : own_Go p e below (own_K s Q cc ss) T (mkF m pc Ls (z :: rest)) := by
  refine own_end X hlk (fun h => by rw [hret] at h; cases h) hq h1 h2 fun fs hr => ?_
  have hm' : T.vm.method? m = some meth := X.method'
  show Steps p.tables e below (T.setTop { method := m, pc := pc, locals := Ls, stack := _ :: rest, locked := none }) _
  jvm_step X.here [X.here.top, hx, hd, hm', hret, hz, hty]
  first | (intro acts; rw [hr _ acts rfl rfl rfl]) | rw [hr _ _ rfl rfl rfl]
  exact Steps.refl _
theorem own_retV (X : Stand p l e R s m args below meth c T locs cells slots) (hx : p.tables.exec = Jvm.exec) (hlk : meth.locks = false) {pc : Nat} {Ls : Array Slot} (hret : meth.sig.returnType = none)
    (hd : decode c.code pc = .ok (.return_, 1)) (hq : Q none T.heap locs) (h1 : cells ≤ cc) (h2 : slots ≤ ss) : own_Go p e below (own_K s Q cc ss) T (mkF m pc Ls []) :=
  own_end X hlk (fun _ => rfl) hq h1 h2 fun fs hr => X.returnOut hx hret hd hr
theorem own_ne {i k : Int32} {z : Int} (hz : k.toInt = z) (h : ¬ i = k) : ¬ (z = i.toInt) := fun q => h (Int32.toInt_inj.mp (q.symm.trans hz.symm))
theorem own_lsw {tb : Tables} [Ours tb] {target : State} {g : JFrame} (h : At T m c below) (hx : tb.exec = Jvm.exec) (hg : g.method = m) {dflt o : Int} {prs : Array (Int × Int)} {len pc0 pc' : Nat} (hpc : g.pc = pc0) (hd : decode c.code g.pc = .ok (.lookupswitch dflt prs, len)) {i : Int32} {rest : List Value} (hs : g.stack = .int i :: rest)
    (hso : (prs.toList.zip (prs.toList.drop 1)).all (fun (a, next) => a.1 < next.1) = true) (hof : lookupswitch.offset prs.toList dflt i.toInt = o) (ho : 0 ≤ (pc0 : Int) + o) (hp : ((pc0 : Int) + o).toNat = pc')
    (hr : Steps tb e below (T.setTop { g with pc := pc', stack := rest }) target) : Steps tb e below (T.setTop g) target := by
  subst hg hpc hp hof
  jvm_step h [h.top, hx, hd, hs, ho, lookupswitch.wp_chain]
  exact ⟨by simpa using hso, hr⟩
theorem own_nar01 {z : Int32} (h : z = 0 ∨ z = 1) : nar .boolean z = z := by rcases h with rfl | rfl <;> decide
theorem own_narB (x : Int32) : nar .byte x.toInt8.toInt32 = x.toInt8.toInt32 := Value.int.inj (Jvm.Free.XT.narrow_b x)
theorem own_narC (x : Int32) : nar .char x.toUInt32.toUInt16.toUInt32.toInt32 = x.toUInt32.toUInt16.toUInt32.toInt32 := Value.int.inj (Jvm.Free.XT.narrow_c x)
end OwnKit
/-- a body that writes nothing and returns w -/
def own_P (w : Value) (h0 : Heap) (n0 : Nat) (v : Option Value) (h : Heap) (L : List Loc) : Prop := v = some w ∧ Fr n0 L ∧ h = h0
section OwnArr
/-- an array by its class's name, its components' kind, and what it holds -/
def own_A (Z : State) (h : Heap) (a : Addr) (d : String) (ty : FieldType) (vs : List Value) : Prop :=
  ∃ c : Cell, Arr Z h a c ty ∧ Z.vm.findClass d = some c.cls ∧ c.slots = vs.toArray ∧ ∀ v ∈ vs, fits ty v = true
variable {p : Program} {l : Launch} {e : Env} {R : Room} {s : State} {m : MethodId} {args : Array Value} {below : List Frame} {meth : Method} {c : Code} {T : State} {locs : List Loc} {cells slots : Nat} {Z : State} {a0 : Array Value} {h h' : Heap} {a b : Addr} {d : String} {ty : FieldType} {vs : List Value} {sl : Nat} {v w : Value} {ws : List Addr}
theorem own_A.lt (F : own_A Z h a d ty vs) : a < h.size := by obtain ⟨c, A, -⟩ := F; exact A.lt
theorem own_A.ext (F : own_A Z h a d ty vs) (E : Ext h h') : own_A Z h' a d ty vs := by obtain ⟨c, A, r⟩ := F; exact ⟨c, A.ext E, r⟩
theorem own_A.other (F : own_A Z h b d ty vs) (W : Wr h h' a sl v) (q : b ≠ a) : own_A Z h' b d ty vs := by obtain ⟨c, A, r⟩ := F; exact ⟨c, A.other W q, r⟩
theorem own_A.keep (F : own_A Z h a d ty vs) (K : Keep h h' ws) (q : a ∉ ws) : own_A Z h' a d ty vs := by obtain ⟨c, A, r⟩ := F; exact ⟨c, ⟨K.2.1 a c A.1 q, A.2⟩, r⟩
theorem own_A.set (F : own_A Z h a d ty vs) {i : Nat} (W : Wr h h' a i v) (hv : fits ty v = true) : own_A Z h' a d ty (vs.set i v) := by
  obtain ⟨c, A, q, S, G⟩ := F
  refine ⟨_, A.same W, q, ?_, fun x hx => ?_⟩
  · simp [Cell.setSlot, S]
  · rcases List.mem_or_eq_of_mem_set hx with h1 | h1
    · exact G x h1
    · exact h1 ▸ hv
theorem own_A.exa (F : own_A Z h a d ty vs) : Exa Z h a d := by
  obtain ⟨c, A, q, -⟩ := F
  obtain ⟨-, k, hk, comp, hkind⟩ := A.2.1
  exact ⟨c, k, A.1, q, hk, A.plain, fun z => by rw [hkind] at z; cases z⟩
theorem own_A.fit (F : own_A Z h a d ty vs) : ∃ c : Cell, Arr Z h a c ty ∧ Z.vm.findClass d = some c.cls ∧ c.slots = vs.toArray ∧ (∀ v ∈ vs, fits ty v = true) ∧ FitC Z c := by
  obtain ⟨c, A, q, S, G⟩ := F
  refine ⟨c, A, q, S, G, fun i v hv => ?_⟩
  obtain ⟨-, k, hk, comp, hkind⟩ := A.2.1
  rw [S] at hv
  have hm : v ∈ vs := List.mem_of_getElem? (by simpa using hv)
  simp [State.fitsSlot, State.slotType?, hk, hkind, G v hm]
theorem own_inb {c : Cell} {j : Int32} {i : Nat} (S : c.slots = vs.toArray) (h0 : ¬ j < 0) (hj : j.toNatClampNeg = i) (hi : i < vs.length) : ¬ (j < 0 ∨ c.slots.size ≤ j.toNatClampNeg) := by
  rw [S, hj]; simp only [List.size_toArray]; exact fun q => q.elim h0 (fun q => absurd hi (Nat.not_lt.mpr q))
theorem own_newA (X : Stand p l e R s m args below meth c T locs cells slots) (hx : p.tables.exec = Jvm.exec) (hZ : Z.Warmed39 s.vm) {aty : ArrayType} (w : (Cond.arrayClass (newarray.typeOf aty)).before a0 Z = true) (eT : T.heap = h) {g : JFrame} (hg : g.method = m) (hd : decode c.code g.pc = .ok (.newarray aty, 2)) {n : Int32} {rest : List Value} (hs : g.stack = .int n :: rest)
    (hn : ¬ n < 0) {N cap : Nat} (hN : n.toNatClampNeg = N) (hcap : N ≤ cap) (hb : cap * 8 ≤ 536870912) (hc : cells + 1 ≤ R.cells) (hl : slots + cap ≤ R.slots) {d : String} (hdd : "[" ++ (newarray.typeOf aty).toString = d) {vs : List Value} (hvs : vs = List.replicate N (defaultValue (newarray.typeOf aty))) :
    ∃ T' h', Stand p l e R s m args below meth c T' locs (cells + 1) (slots + cap) ∧ T'.heap = h' ∧ Ext h h' ∧ own_A Z h' h.size d (newarray.typeOf aty) vs ∧
      ∀ target, Steps p.tables e below (T'.setTop { g with pc := g.pc + 2, stack := .ref h.size :: rest }) target → Steps p.tables e below (T.setTop g) target := by
  subst hN hdd hvs
  have hcb : componentBytes (newarray.typeOf aty) ≤ 8 := by cases aty <;> decide
  obtain ⟨cA, kA, comp, h1, h2, h3, X', st⟩ := X.newarrayPrim hx (mvA hZ w) hg hd hs hn (Nat.le_trans (Nat.mul_le_mul hcap hcb) hb) hc (by omega)
  subst eT
  rw [hZ.alike.findClass] at h1
  obtain ⟨kZ, z1, -⟩ := Vm.findClass_spec h1
  obtain ⟨k', z2, z3⟩ := hZ.alike.2.2 _ _ z1
  cases h2.symm.trans z2
  refine ⟨_, _, X'.more (Nat.le_refl _) (by omega), rfl, ⟨by show T.heap.size ≤ (T.heap.push _).size; simp, fun a c h => ?_⟩, ⟨{ cls := cA, slots := Array.replicate n.toNatClampNeg (defaultValue (newarray.typeOf aty)), vm := .none }, ⟨by show (T.heap.push _)[T.heap.size]? = _; simp, ⟨by simp, kZ, z1, comp, by rw [← h3, z3]⟩, by simp⟩, h1, by simp, fun v hv => ?_⟩, st⟩
  · have hlt := (Array.getElem?_eq_some_iff.mp h).1
    show (T.heap.push _)[a]? = _
    rw [Array.getElem?_push, if_neg (Nat.ne_of_lt hlt)]
    exact h
  · rw [List.eq_of_mem_replicate hv]; cases aty <;> rfl
theorem own_ldI (X : Stand p l e R s m args below meth c T locs cells slots) (hx : p.tables.exec = Jvm.exec) (hZ : Z.Warmed39 s.vm) (eT : T.heap = h) (V : own_A Z h a d .int vs) {j : Int32} {i : Nat} (h0 : ¬ j < 0) (hj : j.toNatClampNeg = i) (hv : vs[i]? = some v) {g : JFrame} (hg : g.method = m) {rest : List Value} (hs : g.stack = .int j :: .ref a :: rest) (hd : decode c.code g.pc = .ok (.iaload, 1)) :
    ∀ target, Steps p.tables e below (T.setTop { g with pc := g.pc + 1, stack := v :: rest }) target → Steps p.tables e below (T.setTop g) target := by
  obtain ⟨cl, A, q, S, G⟩ := V
  have hi : i < vs.length := (List.getElem?_eq_some_iff.mp hv).1
  exact X.iaload hx (by rw [eT]; exact A.1) (State.isArrayOf_alike hZ.alike A.2.1) A.2.2 (own_inb S h0 hj hi) (by rw [S, hj]; simpa using hv) hg hs hd
theorem own_ldJ (X : Stand p l e R s m args below meth c T locs cells slots) (hx : p.tables.exec = Jvm.exec) (hZ : Z.Warmed39 s.vm) (eT : T.heap = h) (V : own_A Z h a d .long vs) {j : Int32} {i : Nat} (h0 : ¬ j < 0) (hj : j.toNatClampNeg = i) (hv : vs[i]? = some v) {g : JFrame} (hg : g.method = m) {rest : List Value} (hs : g.stack = .int j :: .ref a :: rest) (hd : decode c.code g.pc = .ok (.laload, 1)) :
    ∀ target, Steps p.tables e below (T.setTop { g with pc := g.pc + 1, stack := v :: rest }) target → Steps p.tables e below (T.setTop g) target := by
  obtain ⟨cl, A, q, S, G⟩ := V
  have hi : i < vs.length := (List.getElem?_eq_some_iff.mp hv).1
  exact X.laload hx (by rw [eT]; exact A.1) (State.isArrayOf_alike hZ.alike A.2.1) A.2.2 (own_inb S h0 hj hi) (by rw [S, hj]; simpa using hv) hg hs hd
theorem own_ldC (X : Stand p l e R s m args below meth c T locs cells slots) (hx : p.tables.exec = Jvm.exec) (hZ : Z.Warmed39 s.vm) (eT : T.heap = h) (V : own_A Z h a d .char vs) {j : Int32} {i : Nat} (h0 : ¬ j < 0) (hj : j.toNatClampNeg = i) (hv : vs[i]? = some v) {g : JFrame} (hg : g.method = m) {rest : List Value} (hs : g.stack = .int j :: .ref a :: rest) (hd : decode c.code g.pc = .ok (.caload, 1)) :
    ∀ target, Steps p.tables e below (T.setTop { g with pc := g.pc + 1, stack := v :: rest }) target → Steps p.tables e below (T.setTop g) target := by
  obtain ⟨cl, A, q, S, G⟩ := V
  have hi : i < vs.length := (List.getElem?_eq_some_iff.mp hv).1
  exact X.caload hx (by rw [eT]; exact A.1) (State.isArrayOf_alike hZ.alike A.2.1) A.2.2 (own_inb S h0 hj hi) (by rw [S, hj]; simpa using hv) hg hs hd
theorem own_ldB (X : Stand p l e R s m args below meth c T locs cells slots) (hx : p.tables.exec = Jvm.exec) (hZ : Z.Warmed39 s.vm) (eT : T.heap = h) (V : own_A Z h a d .byte vs) {j : Int32} {i : Nat} (h0 : ¬ j < 0) (hj : j.toNatClampNeg = i) (hv : vs[i]? = some v) {g : JFrame} (hg : g.method = m) {rest : List Value} (hs : g.stack = .int j :: .ref a :: rest) (hd : decode c.code g.pc = .ok (.baload, 1)) :
    ∀ target, Steps p.tables e below (T.setTop { g with pc := g.pc + 1, stack := v :: rest }) target → Steps p.tables e below (T.setTop g) target := by
  obtain ⟨cl, A, q, S, G⟩ := V
  have hi : i < vs.length := (List.getElem?_eq_some_iff.mp hv).1
  exact X.baloadBytes hx (by rw [eT]; exact A.1) (State.isArrayOf_alike hZ.alike A.2.1) A.2.2 (own_inb S h0 hj hi) (by rw [S, hj]; simpa using hv) hg hs hd
theorem own_len (X : Stand p l e R s m args below meth c T locs cells slots) (hx : p.tables.exec = Jvm.exec) (hZ : Z.Warmed39 s.vm) (eT : T.heap = h) (V : own_A Z h a d ty vs) {N : Int32} (hN : vs.length.toInt32 = N) {g : JFrame} (hg : g.method = m) {rest : List Value} (hs : g.stack = .ref a :: rest) (hd : decode c.code g.pc = .ok (.arraylength, 1)) :
    ∀ target, Steps p.tables e below (T.setTop { g with pc := g.pc + 1, stack := .int N :: rest }) target → Steps p.tables e below (T.setTop g) target := by
  obtain ⟨cl, A, q, S, G⟩ := V
  have e1 : cl.slots.size.toInt32 = N := by rw [S]; simpa using hN
  have st := X.arraylength hx (by rw [eT]; exact A.1) (State.isArrayOf_alike hZ.alike A.2.1) hg hs hd
  rw [e1] at st
  exact st
theorem own_stI (X : Stand p l e R s m args below meth c T locs cells slots) (hx : p.tables.exec = Jvm.exec) (hZ : Z.Warmed39 s.vm) (eT : T.heap = h) (V : own_A Z h a d .int vs) {j x : Int32} {i : Nat} (h0 : ¬ j < 0) (hj : j.toNatClampNeg = i) (hi : i < vs.length) {g : JFrame} (hg : g.method = m) {rest : List Value} (hs : g.stack = .int x :: .int j :: .ref a :: rest) (hd : decode c.code g.pc = .ok (.iastore, 1)) :
    ∃ T' h', Stand p l e R s m args below meth c T' (locs ++ [⟨a, i⟩]) cells slots ∧ T'.heap = h' ∧ Wr h h' a i (.int x) ∧ own_A Z h' a d .int (vs.set i (.int x)) ∧ ∀ target, Steps p.tables e below (T'.setTop { g with pc := g.pc + 1, stack := rest }) target → Steps p.tables e below (T.setTop g) target := by
  obtain ⟨cl, A, q, S, G⟩ := id V
  subst hj
  obtain ⟨T', h', X', e', W, st⟩ := stI X hx hZ eT A (own_inb S h0 rfl hi) hg hs hd
  exact ⟨T', h', X', e', W, V.set W rfl, st⟩
theorem own_stJ (X : Stand p l e R s m args below meth c T locs cells slots) (hx : p.tables.exec = Jvm.exec) (hZ : Z.Warmed39 s.vm) (eT : T.heap = h) (V : own_A Z h a d .long vs) {j : Int32} {x : Int64} {i : Nat} (h0 : ¬ j < 0) (hj : j.toNatClampNeg = i) (hi : i < vs.length) {g : JFrame} (hg : g.method = m) {rest : List Value} (hs : g.stack = .long x :: .int j :: .ref a :: rest) (hd : decode c.code g.pc = .ok (.lastore, 1)) :
    ∃ T' h', Stand p l e R s m args below meth c T' (locs ++ [⟨a, i⟩]) cells slots ∧ T'.heap = h' ∧ Wr h h' a i (.long x) ∧ own_A Z h' a d .long (vs.set i (.long x)) ∧ ∀ target, Steps p.tables e below (T'.setTop { g with pc := g.pc + 1, stack := rest }) target → Steps p.tables e below (T.setTop g) target := by
  obtain ⟨cl, A, q, S, G⟩ := id V
  subst hj
  obtain ⟨T', h', X', e', W, st⟩ := stJ X hx hZ eT A (own_inb S h0 rfl hi) hg hs hd
  exact ⟨T', h', X', e', W, V.set W rfl, st⟩
theorem own_stB (X : Stand p l e R s m args below meth c T locs cells slots) (hx : p.tables.exec = Jvm.exec) (hZ : Z.Warmed39 s.vm) (eT : T.heap = h) (V : own_A Z h a d .byte vs) {j x y : Int32} {i : Nat} (hy : nar .byte x = y) (h0 : ¬ j < 0) (hj : j.toNatClampNeg = i) (hi : i < vs.length) {g : JFrame} (hg : g.method = m) {rest : List Value} (hs : g.stack = .int x :: .int j :: .ref a :: rest) (hd : decode c.code g.pc = .ok (.bastore, 1)) :
    ∃ T' h', Stand p l e R s m args below meth c T' (locs ++ [⟨a, i⟩]) cells slots ∧ T'.heap = h' ∧ Wr h h' a i (.int y) ∧ own_A Z h' a d .byte (vs.set i (.int y)) ∧ ∀ target, Steps p.tables e below (T'.setTop { g with pc := g.pc + 1, stack := rest }) target → Steps p.tables e below (T.setTop g) target := by
  obtain ⟨cl, A, q, S, G⟩ := id V
  subst hj hy
  obtain ⟨T', h', X', e', W, st⟩ := stB X hx hZ eT A (own_inb S h0 rfl hi) hg hs hd
  exact ⟨T', h', X', e', W, V.set W (fits_nar_byte x), st⟩
theorem own_stC (X : Stand p l e R s m args below meth c T locs cells slots) (hx : p.tables.exec = Jvm.exec) (hZ : Z.Warmed39 s.vm) (eT : T.heap = h) (V : own_A Z h a d .char vs) {j x y : Int32} {i : Nat} (hy : nar .char x = y) (h0 : ¬ j < 0) (hj : j.toNatClampNeg = i) (hi : i < vs.length) {g : JFrame} (hg : g.method = m) {rest : List Value} (hs : g.stack = .int x :: .int j :: .ref a :: rest) (hd : decode c.code g.pc = .ok (.castore, 1)) :
    ∃ T' h', Stand p l e R s m args below meth c T' (locs ++ [⟨a, i⟩]) cells slots ∧ T'.heap = h' ∧ Wr h h' a i (.int y) ∧ own_A Z h' a d .char (vs.set i (.int y)) ∧ ∀ target, Steps p.tables e below (T'.setTop { g with pc := g.pc + 1, stack := rest }) target → Steps p.tables e below (T.setTop g) target := by
  obtain ⟨cl, A, q, S, G⟩ := id V
  subst hj hy
  obtain ⟨T', h', X', e', W, st⟩ := stC X hx hZ eT A (own_inb S h0 rfl hi) hg hs hd
  exact ⟨T', h', X', e', W, V.set W (fits_nar_char x), st⟩
theorem own_clone (X : Stand p l e R s m args below meth c T locs cells slots) (hx : p.tables.exec = Jvm.exec) (hZ : Z.Warmed39 s.vm) {own : String} {index : Nat} (hown : s.vm.findClass own = some m.cls)
    (w1 : (Cond.methodLink own index ⟨d, "clone", "()Ljava/lang/Object;"⟩).before a0 Z = true) (w2 : (Cond.sameMethod d "java/lang/Object" "clone" "()Ljava/lang/Object;").before a0 Z = true) (w3 : (Cond.native ⟨"java/lang/Object", "clone", "()Ljava/lang/Object;"⟩).before a0 Z = true)
    (w4 : (Cond.instanceMethod ⟨"java/lang/Object", "clone", "()Ljava/lang/Object;"⟩).before a0 Z = true) (w5 : (Cond.selects d ⟨d, "clone", "()Ljava/lang/Object;"⟩ ⟨"java/lang/Object", "clone", "()Ljava/lang/Object;"⟩).before a0 Z = true) (w6 : (Cond.castable d "java/lang/Cloneable").before a0 Z = true)
    (eT : T.heap = h) (V : own_A Z h a d ty vs) {g : JFrame} (hg : g.method = m) (hsize : g.locals.size = c.maxLocals) {rest : List Value} (hs : g.stack = .ref a :: rest) (hd : decode c.code g.pc = .ok (.invokevirtual index, 3))
    (hf : 1 ≤ R.frames) {W cap : Nat} (hW : 2 * g.monitorRoom + (rest.map fun v => v.category).sum ≤ W) (hl : W + 14 ≤ R.locals) (hcap : vs.length ≤ cap) (hc : cells + 1 ≤ R.cells) (hsl : slots + cap ≤ R.slots) :
    ∃ T' h', Stand p l e R s m args below meth c T' locs (cells + 1) (slots + cap) ∧ T'.heap = h' ∧ Ext h h' ∧ own_A Z h' h.size d ty vs ∧
      ∀ target, Steps p.tables e below (T'.setTop { g with pc := g.pc + 3, stack := .ref h.size :: rest }) target → Steps p.tables e below (T.setTop g) target := by
  have Ex := V.exa
  obtain ⟨cl, A, q, S, G, F⟩ := V.fit
  obtain ⟨T', h', X', e', E, A', -, st⟩ := cloneA X hx hZ hown w1 w2 w3 w4 w5 w6 eT A Ex F hg hsize hs hd hf hW hl (cap := cap) (by rw [S]; simpa using hcap) hc hsl
  exact ⟨T', h', X', e', E, ⟨_, A', q, S, G⟩, st⟩
theorem own_nA (hv : v.isRef = true) : narrow (.array ty) v = v ∧ fits (.array ty) v = true := by cases v <;> simp_all [Value.isRef, narrow, fits]
end OwnArr

def own_PV (h0 : Heap) (n0 : Nat) (v : Option Value) (h : Heap) (L : List Loc) : Prop := v = none ∧ Fr n0 L ∧ h = h0
theorem pn_java_lang_Record : plainName "java/lang/Record" = true := by first | (simp [plainName, overriddenIn]; done) | decide +kernel
theorem ef_jdk_30_1 (m : MethodId) (x0 : Addr) : entryFrame m #[(.ref x0)] 1 = mkF m 0 #[.val (.ref x0)] [] := by first | (simp [entryFrame, mkF, argsToLocals, Value.category]; done) | rfl
theorem d_jdk_30_1_0 : decode jdk_30_method_1_code 0 = .ok (.aload_n 0, 1) := by decide +kernel
theorem d_jdk_30_1_1 : decode jdk_30_method_1_code 1 = .ok (.invokespecial 1, 3) := by decide +kernel
theorem d_jdk_30_1_4 : decode jdk_30_method_1_code 4 = .ok (.return_, 1) := by decide +kernel
set_option maxRecDepth 65536 in
set_option maxHeartbeats 40000000 in
theorem rm_rec (l : Launch) (Z : State) (a0 : Array Value) (hw : ∀ d ∈ tables_1, d.before a0 Z = true) (ws : List Jvm.Cond) (q1 : Addr)  (h0 : Heap) (n0 : Nat) (Z0 : n0 ≤ h0.size)  :
    MetFree l (⟨"java/lang/Record", "<init>", "()V"⟩ : MethodName) (head1 (Jvm.Cond.code (⟨"java/lang/Record", "<init>", "()V"⟩ : MethodName) jdk_30_method_1_code 1 none :: ws) ({ frames := 1, cells := 0, slots := 0, locals := 12 } : Room)) (fun a U => a = #[(.ref q1)] ∧ Z.Warmed39 U.vm ∧ U.heap = h0) (fun _ _ _ _ _ => True) (fun _ U o U' => ∃ v L, o = .returned v ∧ own_PV h0 n0 v U'.heap L ∧ FrameEnd U o U' L ({ frames := 1, cells := 0, slots := 0, locals := 12 } : Room).cells ({ frames := 1, cells := 0, slots := 0, locals := 12 } : Room).slots) := by
  refine MetFree.of_bodySF (plainFor_of_name pn_java_lang_Record) hisR ?_
  intro p e s m args below meth c s₁ Bd hml0 hP hK
  obtain ⟨rfl, hZ, hh⟩ := hP
  have hx := Bd.exec
  have hby := Bd.bytes
  have hlk : meth.locks = false := BodyLoose.notSynchronized Bd
  have hml : c.maxLocals = 1 := hml0
  have hown : s.vm.findClass "java/lang/Record" = some m.cls := findClass_of_methodNamed Bd.named
  have hnm := (name_of_methodNamed Bd.named Bd.method).1
  have X0 : Stand p l e ({ frames := 1, cells := 0, slots := 0, locals := 12 } : Room) s m #[(.ref q1)] below meth c s₁ [] 0 0 := Stand.of_body Bd
  have e0 : s₁.heap = h0 := by rw [← hh, Bd.state]; rfl
  have N0 := Fr.nil n0
  refine own_cast (K := own_K s (own_PV h0 n0) 0 0) (ef_jdk_30_1 m q1) ?_
  generalize hKK : own_K s (own_PV h0 n0) 0 0 = KK
  show own_Go p e below KK s₁ (mkF m 0 #[.val (.ref q1)] [])
  refine own_at (fun t k => XS.aloadN X0.here hx rfl (hb hby d_jdk_30_1_0) rfl rfl k) ?_
  show own_Go p e below KK s₁ (mkF m 1 #[.val (.ref q1)] [(.ref q1)])
  obtain ⟨T1, X1, e1, st1⟩ := initO X0 hx hZ hown (hw _ (List.mem_of_getElem? (i := 11) rfl)) (hw _ (List.mem_of_getElem? (i := 12) rfl)) (hw _ (List.mem_of_getElem? (i := 13) rfl)) e0 (g := (mkF m 1 #[.val (.ref q1)] [(.ref q1)])) rfl (by rw [hml]; rfl) rfl (hb hby d_jdk_30_1_1) (by decide) (W := 0) (by show 2 * 0 + _ ≤ _; exact Nat.le_of_eq rfl) (by decide)
  refine own_of (fun t k => st1 t k) ?_
  show own_Go p e below KK T1 (mkF m 4 #[.val (.ref q1)] [])
  subst hKK
  exact own_retV X1 hx hlk Bd.returns (hb hby d_jdk_30_1_4) ⟨rfl, N0, e1⟩ (Nat.le_of_ble_eq_true rfl) (Nat.le_of_ble_eq_true rfl)
def own_Qc (Z : State) (q1 : Addr) (q2 q3 : Int32) (h0 : Heap) (n0 : Nat) (v : Option Value) (h : Heap) (L : List Loc) : Prop := v = none ∧ Fr n0 L ∧ Keep h0 h [q1] ∧ Exa Z h q1 "com/example/hold_office/holdoffice/protocol/CreateMode" ∧ Fld Z h q1 "com/example/hold_office/holdoffice/protocol/CreateMode" "ephemeral" "Z" (.int q2) ∧ Fld Z h q1 "com/example/hold_office/holdoffice/protocol/CreateMode" "sequential" "Z" (.int q3)
theorem own_pn {z : Int32} (h : z = 0 ∨ z = 1) : narrow .boolean (.int z) = .int z ∧ fits .boolean (.int z) = true := by rcases h with rfl | rfl <;> decide
theorem pn_com_example_hold_office_holdoffice_protocol_CreateMode : plainName "com/example/hold_office/holdoffice/protocol/CreateMode" = true := by first | (simp [plainName, overriddenIn]; done) | decide +kernel
theorem ef_prog_47_1 (m : MethodId) (x0 : Addr) (x1 : Int32) (x2 : Int32) : entryFrame m #[(.ref x0), (.int x1), (.int x2)] 3 = mkF m 0 #[.val (.ref x0), .val (.int x1), .val (.int x2)] [] := by first | (simp [entryFrame, mkF, argsToLocals, Value.category]; done) | rfl
theorem d_prog_47_1_0 : decode prog_47_method_1_code 0 = .ok (.aload_n 0, 1) := by decide +kernel
theorem d_prog_47_1_1 : decode prog_47_method_1_code 1 = .ok (.invokespecial 3, 3) := by decide +kernel
theorem pd___V : parseMethodDescriptor "()V" = some ⟨[], none⟩ := by decide +kernel
theorem d_prog_47_1_4 : decode prog_47_method_1_code 4 = .ok (.aload_n 0, 1) := by decide +kernel
theorem d_prog_47_1_5 : decode prog_47_method_1_code 5 = .ok (.iload_n 1, 1) := by decide +kernel
theorem d_prog_47_1_6 : decode prog_47_method_1_code 6 = .ok (.putfield 9, 3) := by decide +kernel
theorem d_prog_47_1_9 : decode prog_47_method_1_code 9 = .ok (.aload_n 0, 1) := by decide +kernel
theorem d_prog_47_1_10 : decode prog_47_method_1_code 10 = .ok (.iload_n 2, 1) := by decide +kernel
theorem d_prog_47_1_11 : decode prog_47_method_1_code 11 = .ok (.putfield 13, 3) := by decide +kernel
theorem d_prog_47_1_14 : decode prog_47_method_1_code 14 = .ok (.return_, 1) := by decide +kernel
set_option maxRecDepth 65536 in
set_option maxHeartbeats 40000000 in
theorem rm_ctor (l : Launch) (Z : State) (a0 : Array Value) (hw : ∀ d ∈ tables_1, d.before a0 Z = true) (ws : List Jvm.Cond) (q1 : Addr) (q2 : Int32) (q3 : Int32)  (h0 : Heap) (n0 : Nat) (Z0 : n0 ≤ h0.size) (Fe : Fld Z h0 q1 "com/example/hold_office/holdoffice/protocol/CreateMode" "ephemeral" "Z" (.int 0)) (Fs : Fld Z h0 q1 "com/example/hold_office/holdoffice/protocol/CreateMode" "sequential" "Z" (.int 0)) (Eq : Exa Z h0 q1 "com/example/hold_office/holdoffice/protocol/CreateMode") (gq : n0 ≤ q1) (h2 : q2 = 0 ∨ q2 = 1) (h3 : q3 = 0 ∨ q3 = 1) :
    MetFree l (⟨"com/example/hold_office/holdoffice/protocol/CreateMode", "<init>", "(ZZ)V"⟩ : MethodName) (head1 (Jvm.Cond.code (⟨"com/example/hold_office/holdoffice/protocol/CreateMode", "<init>", "(ZZ)V"⟩ : MethodName) prog_47_method_1_code 3 none :: ws) ({ frames := 2, cells := 0, slots := 0, locals := 24 } : Room)) (fun a U => a = #[(.ref q1), (.int q2), (.int q3)] ∧ Z.Warmed39 U.vm ∧ U.heap = h0) (fun _ _ _ _ _ => True) (fun _ U o U' => ∃ v L, o = .returned v ∧ own_Qc Z q1 q2 q3 h0 n0 v U'.heap L ∧ FrameEnd U o U' L ({ frames := 2, cells := 0, slots := 0, locals := 24 } : Room).cells ({ frames := 2, cells := 0, slots := 0, locals := 24 } : Room).slots) := by
  refine MetFree.of_bodySF (plainFor_of_name pn_com_example_hold_office_holdoffice_protocol_CreateMode) hisR ?_
  intro p e s m args below meth c s₁ Bd hml0 hP hK
  obtain ⟨rfl, hZ, hh⟩ := hP
  have hx := Bd.exec
  have hby := Bd.bytes
  have hlk : meth.locks = false := BodyLoose.notSynchronized Bd
  have hml : c.maxLocals = 3 := hml0
  have hown : s.vm.findClass "com/example/hold_office/holdoffice/protocol/CreateMode" = some m.cls := findClass_of_methodNamed Bd.named
  have hnm := (name_of_methodNamed Bd.named Bd.method).1
  have X0 : Stand p l e ({ frames := 2, cells := 0, slots := 0, locals := 24 } : Room) s m #[(.ref q1), (.int q2), (.int q3)] below meth c s₁ [] 0 0 := Stand.of_body Bd
  have e0 : s₁.heap = h0 := by rw [← hh, Bd.state]; rfl
  have N0 := Fr.nil n0
  refine own_cast (K := own_K s (own_Qc Z q1 q2 q3 h0 n0) 0 0) (ef_prog_47_1 m q1 q2 q3) ?_
  generalize hKK : own_K s (own_Qc Z q1 q2 q3 h0 n0) 0 0 = KK
  show own_Go p e below KK s₁ (mkF m 0 #[.val (.ref q1), .val (.int q2), .val (.int q3)] [])
  have Kp0 : Keep h0 h0 [q1] := Keep.refl _ _
  refine own_at (fun t k => XS.aloadN X0.here hx rfl (hb hby d_prog_47_1_0) rfl rfl k) ?_
  show own_Go p e below KK s₁ (mkF m 1 #[.val (.ref q1), .val (.int q2), .val (.int q3)] [(.ref q1)])
  obtain ⟨_, _, ⟨T1, L1, k1, n1⟩, -, X1, ⟨Lc1, hQ1, l1, y1, z1⟩, st1⟩ := X0.specialBack hx (y := (⟨"java/lang/Record", "<init>", "()V"⟩ : MethodName)) rfl hown (mvT hZ (hw _ (List.mem_of_getElem? (i := 6) rfl))) (mvT hZ (hw _ (List.mem_of_getElem? (i := 7) rfl))) (mvT hZ (hw _ (List.mem_of_getElem? (i := 10) rfl))) (by decide) (backOf (W := 0) (rm_rec l Z a0 hw [] q1   h0 n0 Z0 ) hZ (hw _ (List.mem_of_getElem? (i := 10) rfl)) (hw _ (List.mem_of_getElem? (i := 9) rfl)) (by decide) (by decide)) (g := (mkF m 1 #[.val (.ref q1), .val (.int q2), .val (.int q3)] [(.ref q1)])) rfl (by rw [hml]; rfl) (Steps.refl _) (a := q1) (argsL := []) (rest := []) (lenOf pd___V rfl) rfl (by show 2 * 0 + _ ≤ _; exact Nat.le_of_eq rfl) (hb hby d_prog_47_1_1) (fun _ _ => ⟨rfl, e0, (by decide : 0 + 0 ≤ _), (by decide : 0 + 0 ≤ _)⟩)
  dsimp only [Pt.U, Pt.locs, Pt.cells, Pt.slots] at X1 l1 y1 z1 st1 hQ1
  subst l1 y1 z1
  obtain ⟨rfl, N1q, e1⟩ := hQ1
  have N1 := Fr.app N0 N1q
  refine own_of (fun t k => st1.trans k) ?_
  show own_Go p e below KK T1 (mkF m 4 #[.val (.ref q1), .val (.int q2), .val (.int q3)] [])
  refine own_at (fun t k => XS.aloadN X1.here hx rfl (hb hby d_prog_47_1_4) rfl rfl k) ?_
  show own_Go p e below KK T1 (mkF m 5 #[.val (.ref q1), .val (.int q2), .val (.int q3)] [(.ref q1)])
  refine own_at (fun t k => XS.iloadN X1.here hx rfl (hb hby d_prog_47_1_5) rfl k) ?_
  show own_Go p e below KK T1 (mkF m 6 #[.val (.ref q1), .val (.int q2), .val (.int q3)] [(.int q2), (.ref q1)])
  obtain ⟨T2, h2, X2, e2, W2, st2⟩ := putFN X1 hx hZ hown (hw _ (List.mem_of_getElem? (i := 14) rfl)) Via.refl e1 Fe Eq (Or.inr ⟨(hw _ (List.mem_of_getElem? (i := 15) rfl)), rfl, hnm⟩) (hw _ (List.mem_of_getElem? (i := 1) rfl)) (ty := .boolean) (v' := (.int q2)) (by decide) (own_pn h2).1 (own_pn h2).2 (g := (mkF m 6 #[.val (.ref q1), .val (.int q2), .val (.int q3)] [(.int q2), (.ref q1)])) rfl rfl (hb hby d_prog_47_1_6)
  have N2 := Fr.snoc X2 N1 gq
  have Fs_h2 : Fld Z h2 q1 "com/example/hold_office/holdoffice/protocol/CreateMode" "sequential" "Z" (.int 0) := Fs.other W2 (Or.inr (slot_ne (C := "com/example/hold_office/holdoffice/protocol/CreateMode") (Or.inr (hw _ (List.mem_of_getElem? (i := 17) rfl))) (Or.inr (hw _ (List.mem_of_getElem? (i := 15) rfl))) (by decide) (t := .boolean) (t' := .boolean) (by decide) (by decide)))
  have Eq_h2 : Exa Z h2 q1 "com/example/hold_office/holdoffice/protocol/CreateMode" := Eq.wr W2
  have Zs2 : n0 ≤ h2.size := (by rw [W2.size]; exact Z0)
  have Kp2 : Keep h0 h2 [q1] := Kp0.wr W2 (Or.inl (by simp))
  have F3_q1 : Fld Z h2 q1 "com/example/hold_office/holdoffice/protocol/CreateMode" "ephemeral" "Z" (.int q2) := Fe.same W2
  refine own_of (fun t k => st2 t k) ?_
  show own_Go p e below KK T2 (mkF m 9 #[.val (.ref q1), .val (.int q2), .val (.int q3)] [])
  refine own_at (fun t k => XS.aloadN X2.here hx rfl (hb hby d_prog_47_1_9) rfl rfl k) ?_
  show own_Go p e below KK T2 (mkF m 10 #[.val (.ref q1), .val (.int q2), .val (.int q3)] [(.ref q1)])
  refine own_at (fun t k => XS.iloadN X2.here hx rfl (hb hby d_prog_47_1_10) rfl k) ?_
  show own_Go p e below KK T2 (mkF m 11 #[.val (.ref q1), .val (.int q2), .val (.int q3)] [(.int q3), (.ref q1)])
  obtain ⟨T4, h4, X4, e4, W4, st4⟩ := putFN X2 hx hZ hown (hw _ (List.mem_of_getElem? (i := 16) rfl)) Via.refl e2 Fs_h2 Eq_h2 (Or.inr ⟨(hw _ (List.mem_of_getElem? (i := 17) rfl)), rfl, hnm⟩) (hw _ (List.mem_of_getElem? (i := 1) rfl)) (ty := .boolean) (v' := (.int q3)) (by decide) (own_pn h3).1 (own_pn h3).2 (g := (mkF m 11 #[.val (.ref q1), .val (.int q2), .val (.int q3)] [(.int q3), (.ref q1)])) rfl rfl (hb hby d_prog_47_1_11)
  have N4 := Fr.snoc X4 N2 gq
  have F3_q1_h4 : Fld Z h4 q1 "com/example/hold_office/holdoffice/protocol/CreateMode" "ephemeral" "Z" (.int q2) := F3_q1.other W4 (Or.inr (slot_ne (C := "com/example/hold_office/holdoffice/protocol/CreateMode") (Or.inr (hw _ (List.mem_of_getElem? (i := 15) rfl))) (Or.inr (hw _ (List.mem_of_getElem? (i := 17) rfl))) (by decide) (t := .boolean) (t' := .boolean) (by decide) (by decide)))
  have Eq_h4 : Exa Z h4 q1 "com/example/hold_office/holdoffice/protocol/CreateMode" := Eq_h2.wr W4
  have Zs4 : n0 ≤ h4.size := (by rw [W4.size]; exact Zs2)
  have Kp4 : Keep h0 h4 [q1] := Kp2.wr W4 (Or.inl (by simp))
  have F5_q1 : Fld Z h4 q1 "com/example/hold_office/holdoffice/protocol/CreateMode" "sequential" "Z" (.int q3) := Fs_h2.same W4
  refine own_of (fun t k => st4 t k) ?_
  show own_Go p e below KK T4 (mkF m 14 #[.val (.ref q1), .val (.int q2), .val (.int q3)] [])
  subst hKK
  exact own_retV X4 hx hlk Bd.returns (hb hby d_prog_47_1_14) ⟨rfl, N4, by rw [e4]; exact Kp4, by rw [e4]; exact Eq_h4, by rw [e4]; exact F3_q1_h4, by rw [e4]; exact F5_q1⟩ (Nat.le_of_ble_eq_true rfl) (Nat.le_of_ble_eq_true rfl)
def own_fl (a b : Int32) : Int32 := (if a = (0 : Int32) then (if b = (0 : Int32) then (0 : Int32) else (2 : Int32)) else (if b = (0 : Int32) then (1 : Int32) else (3 : Int32)))
theorem ef_prog_47_3 (m : MethodId) (x0 : Addr) : entryFrame m #[(.ref x0)] 1 = mkF m 0 #[.val (.ref x0)] [] := by first | (simp [entryFrame, mkF, argsToLocals, Value.category]; done) | rfl
theorem d_prog_47_3_0 : decode prog_47_method_3_code 0 = .ok (.aload_n 0, 1) := by decide +kernel
theorem d_prog_47_3_1 : decode prog_47_method_3_code 1 = .ok (.getfield 9, 3) := by decide +kernel
theorem d_prog_47_3_4 : decode prog_47_method_3_code 4 = .ok (.ifCond .eq 7, 3) := by decide +kernel
theorem d_prog_47_3_11 : decode prog_47_method_3_code 11 = .ok (.iconst 0, 1) := by decide +kernel
theorem d_prog_47_3_12 : decode prog_47_method_3_code 12 = .ok (.aload_n 0, 1) := by decide +kernel
theorem d_prog_47_3_13 : decode prog_47_method_3_code 13 = .ok (.getfield 13, 3) := by decide +kernel
theorem d_prog_47_3_16 : decode prog_47_method_3_code 16 = .ok (.ifCond .eq 7, 3) := by decide +kernel
theorem d_prog_47_3_23 : decode prog_47_method_3_code 23 = .ok (.iconst 0, 1) := by decide +kernel
theorem d_prog_47_3_24 : decode prog_47_method_3_code 24 = .ok (.ior, 1) := by decide +kernel
theorem d_prog_47_3_25 : decode prog_47_method_3_code 25 = .ok (.ireturn, 1) := by decide +kernel
theorem d_prog_47_3_19 : decode prog_47_method_3_code 19 = .ok (.iconst 2, 1) := by decide +kernel
theorem d_prog_47_3_20 : decode prog_47_method_3_code 20 = .ok (.goto 4, 3) := by decide +kernel
theorem d_prog_47_3_7 : decode prog_47_method_3_code 7 = .ok (.iconst 1, 1) := by decide +kernel
theorem d_prog_47_3_8 : decode prog_47_method_3_code 8 = .ok (.goto 4, 3) := by decide +kernel
set_option maxRecDepth 65536 in
set_option maxHeartbeats 40000000 in
theorem rm_fl (l : Launch) (Z : State) (a0 : Array Value) (hw : ∀ d ∈ tables_1, d.before a0 Z = true) (ws : List Jvm.Cond) (q1 : Addr) (a b : Int32) (h0 : Heap) (n0 : Nat) (Z0 : n0 ≤ h0.size) (Fe : Fld Z h0 q1 "com/example/hold_office/holdoffice/protocol/CreateMode" "ephemeral" "Z" (.int a)) (Fs : Fld Z h0 q1 "com/example/hold_office/holdoffice/protocol/CreateMode" "sequential" "Z" (.int b)) :
    MetFree l (⟨"com/example/hold_office/holdoffice/protocol/CreateMode", "flags", "()I"⟩ : MethodName) (head1 (Jvm.Cond.code (⟨"com/example/hold_office/holdoffice/protocol/CreateMode", "flags", "()I"⟩ : MethodName) prog_47_method_3_code 1 (some .int) :: ws) ({ frames := 0, cells := 0, slots := 0, locals := 0 } : Room)) (fun a U => a = #[(.ref q1)] ∧ Z.Warmed39 U.vm ∧ U.heap = h0) (fun _ _ _ _ _ => True) (fun _ U o U' => ∃ v L, o = .returned v ∧ own_P (.int (own_fl a b)) h0 n0 v U'.heap L ∧ FrameEnd U o U' L ({ frames := 0, cells := 0, slots := 0, locals := 0 } : Room).cells ({ frames := 0, cells := 0, slots := 0, locals := 0 } : Room).slots) := by
  refine MetFree.of_bodySF (plainFor_of_name pn_com_example_hold_office_holdoffice_protocol_CreateMode) hisR ?_
  intro p e s m args below meth c s₁ Bd hml0 hP hK
  obtain ⟨rfl, hZ, hh⟩ := hP
  have hx := Bd.exec
  have hby := Bd.bytes
  have hlk : meth.locks = false := BodyLoose.notSynchronized Bd
  have hml : c.maxLocals = 1 := hml0
  have hown : s.vm.findClass "com/example/hold_office/holdoffice/protocol/CreateMode" = some m.cls := findClass_of_methodNamed Bd.named
  have hnm := (name_of_methodNamed Bd.named Bd.method).1
  have X0 : Stand p l e ({ frames := 0, cells := 0, slots := 0, locals := 0 } : Room) s m #[(.ref q1)] below meth c s₁ [] 0 0 := Stand.of_body Bd
  have e0 : s₁.heap = h0 := by rw [← hh, Bd.state]; rfl
  have N0 := Fr.nil n0
  refine own_cast (K := own_K s (own_P (.int (own_fl a b)) h0 n0) 0 0) (ef_prog_47_3 m q1) ?_
  generalize hKK : own_K s (own_P (.int (own_fl a b)) h0 n0) 0 0 = KK
  show own_Go p e below KK s₁ (mkF m 0 #[.val (.ref q1)] [])
  refine own_at (fun t k => XS.aloadN X0.here hx rfl (hb hby d_prog_47_3_0) rfl rfl k) ?_
  show own_Go p e below KK s₁ (mkF m 1 #[.val (.ref q1)] [(.ref q1)])
  obtain ⟨T1, X1, e1, st1⟩ := getF X0 hx hZ hown (host := "") (Or.inl (hw _ (List.mem_of_getElem? (i := 14) rfl))) Via.refl e0 Fe (g := (mkF m 1 #[.val (.ref q1)] [(.ref q1)])) rfl rfl (hb hby d_prog_47_3_1)
  refine own_of (fun t k => st1 t k) ?_
  show own_Go p e below KK T1 (mkF m 4 #[.val (.ref q1)] [(.int a)])
  by_cases hc4 : a = (0 : Int32)
  · refine own_at (fun t k => XS.ifYes X1.here hx rfl (pc0 := 4) (pc' := 11) rfl (hb hby d_prog_47_3_4) rfl (Jvm.Free.XT.i0_eq_t hc4) (by decide) (by decide) k) ?_
    show own_Go p e below KK T1 (mkF m 11 #[.val (.ref q1)] [])
    refine own_at (fun t k => XS.iconst X1.here hx rfl (hb hby d_prog_47_3_11) k) ?_
    show own_Go p e below KK T1 (mkF m 12 #[.val (.ref q1)] [(.int 0)])
    refine own_at (fun t k => XS.aloadN X1.here hx rfl (hb hby d_prog_47_3_12) rfl rfl k) ?_
    show own_Go p e below KK T1 (mkF m 13 #[.val (.ref q1)] [(.ref q1), (.int 0)])
    obtain ⟨T2, X2, e2, st2⟩ := getF X1 hx hZ hown (host := "") (Or.inl (hw _ (List.mem_of_getElem? (i := 16) rfl))) Via.refl e1 Fs (g := (mkF m 13 #[.val (.ref q1)] [(.ref q1), (.int 0)])) rfl rfl (hb hby d_prog_47_3_13)
    refine own_of (fun t k => st2 t k) ?_
    show own_Go p e below KK T2 (mkF m 16 #[.val (.ref q1)] [(.int b), (.int 0)])
    by_cases hc16 : b = (0 : Int32)
    · refine own_at (fun t k => XS.ifYes X2.here hx rfl (pc0 := 16) (pc' := 23) rfl (hb hby d_prog_47_3_16) rfl (Jvm.Free.XT.i0_eq_t hc16) (by decide) (by decide) k) ?_
      show own_Go p e below KK T2 (mkF m 23 #[.val (.ref q1)] [(.int 0)])
      refine own_at (fun t k => XS.iconst X2.here hx rfl (hb hby d_prog_47_3_23) k) ?_
      show own_Go p e below KK T2 (mkF m 24 #[.val (.ref q1)] [(.int 0), (.int 0)])
      refine own_at (fun t k => XS.ior X2.here hx rfl (hb hby d_prog_47_3_24) rfl k) ?_
      show own_Go p e below KK T2 (mkF m 25 #[.val (.ref q1)] [(.int ((0 : Int32) ||| (0 : Int32)))])
      rw [show ((0 : Int32) ||| (0 : Int32)) = (0 : Int32) from by decide]
      show own_Go p e below KK T2 (mkF m 25 #[.val (.ref q1)] [(.int 0)])
      subst hKK
      exact own_retI X2 hx hlk Bd.returns (hb hby d_prog_47_3_25) (w := (own_fl a b)) (show (0 : Int32) = own_fl a b from by unfold own_fl; rw [if_pos hc4, if_pos hc16]) ⟨rfl, N0, e2⟩ (Nat.le_of_ble_eq_true rfl) (Nat.le_of_ble_eq_true rfl)
    · refine own_at (fun t k => XS.ifNo X2.here hx rfl (hb hby d_prog_47_3_16) rfl (Jvm.Free.XT.i0_eq_f hc16) k) ?_
      show own_Go p e below KK T2 (mkF m 19 #[.val (.ref q1)] [(.int 0)])
      refine own_at (fun t k => XS.iconst X2.here hx rfl (hb hby d_prog_47_3_19) k) ?_
      show own_Go p e below KK T2 (mkF m 20 #[.val (.ref q1)] [(.int 2), (.int 0)])
      refine own_at (fun t k => XS.goto X2.here hx rfl (pc0 := 20) (pc' := 24) rfl (hb hby d_prog_47_3_20) (by decide) (by decide) k) ?_
      show own_Go p e below KK T2 (mkF m 24 #[.val (.ref q1)] [(.int 2), (.int 0)])
      refine own_at (fun t k => XS.ior X2.here hx rfl (hb hby d_prog_47_3_24) rfl k) ?_
      show own_Go p e below KK T2 (mkF m 25 #[.val (.ref q1)] [(.int ((0 : Int32) ||| (2 : Int32)))])
      rw [show ((0 : Int32) ||| (2 : Int32)) = (2 : Int32) from by decide]
      show own_Go p e below KK T2 (mkF m 25 #[.val (.ref q1)] [(.int 2)])
      subst hKK
      exact own_retI X2 hx hlk Bd.returns (hb hby d_prog_47_3_25) (w := (own_fl a b)) (show (2 : Int32) = own_fl a b from by unfold own_fl; rw [if_pos hc4, if_neg hc16]) ⟨rfl, N0, e2⟩ (Nat.le_of_ble_eq_true rfl) (Nat.le_of_ble_eq_true rfl)
  · refine own_at (fun t k => XS.ifNo X1.here hx rfl (hb hby d_prog_47_3_4) rfl (Jvm.Free.XT.i0_eq_f hc4) k) ?_
    show own_Go p e below KK T1 (mkF m 7 #[.val (.ref q1)] [])
    refine own_at (fun t k => XS.iconst X1.here hx rfl (hb hby d_prog_47_3_7) k) ?_
    show own_Go p e below KK T1 (mkF m 8 #[.val (.ref q1)] [(.int 1)])
    refine own_at (fun t k => XS.goto X1.here hx rfl (pc0 := 8) (pc' := 12) rfl (hb hby d_prog_47_3_8) (by decide) (by decide) k) ?_
    show own_Go p e below KK T1 (mkF m 12 #[.val (.ref q1)] [(.int 1)])
    refine own_at (fun t k => XS.aloadN X1.here hx rfl (hb hby d_prog_47_3_12) rfl rfl k) ?_
    show own_Go p e below KK T1 (mkF m 13 #[.val (.ref q1)] [(.ref q1), (.int 1)])
    obtain ⟨T3, X3, e3, st3⟩ := getF X1 hx hZ hown (host := "") (Or.inl (hw _ (List.mem_of_getElem? (i := 16) rfl))) Via.refl e1 Fs (g := (mkF m 13 #[.val (.ref q1)] [(.ref q1), (.int 1)])) rfl rfl (hb hby d_prog_47_3_13)
    refine own_of (fun t k => st3 t k) ?_
    show own_Go p e below KK T3 (mkF m 16 #[.val (.ref q1)] [(.int b), (.int 1)])
    by_cases hc16 : b = (0 : Int32)
    · refine own_at (fun t k => XS.ifYes X3.here hx rfl (pc0 := 16) (pc' := 23) rfl (hb hby d_prog_47_3_16) rfl (Jvm.Free.XT.i0_eq_t hc16) (by decide) (by decide) k) ?_
      show own_Go p e below KK T3 (mkF m 23 #[.val (.ref q1)] [(.int 1)])
      refine own_at (fun t k => XS.iconst X3.here hx rfl (hb hby d_prog_47_3_23) k) ?_
      show own_Go p e below KK T3 (mkF m 24 #[.val (.ref q1)] [(.int 0), (.int 1)])
      refine own_at (fun t k => XS.ior X3.here hx rfl (hb hby d_prog_47_3_24) rfl k) ?_
      show own_Go p e below KK T3 (mkF m 25 #[.val (.ref q1)] [(.int ((1 : Int32) ||| (0 : Int32)))])
      rw [show ((1 : Int32) ||| (0 : Int32)) = (1 : Int32) from by decide]
      show own_Go p e below KK T3 (mkF m 25 #[.val (.ref q1)] [(.int 1)])
      subst hKK
      exact own_retI X3 hx hlk Bd.returns (hb hby d_prog_47_3_25) (w := (own_fl a b)) (show (1 : Int32) = own_fl a b from by unfold own_fl; rw [if_neg hc4, if_pos hc16]) ⟨rfl, N0, e3⟩ (Nat.le_of_ble_eq_true rfl) (Nat.le_of_ble_eq_true rfl)
    · refine own_at (fun t k => XS.ifNo X3.here hx rfl (hb hby d_prog_47_3_16) rfl (Jvm.Free.XT.i0_eq_f hc16) k) ?_
      show own_Go p e below KK T3 (mkF m 19 #[.val (.ref q1)] [(.int 1)])
      refine own_at (fun t k => XS.iconst X3.here hx rfl (hb hby d_prog_47_3_19) k) ?_
      show own_Go p e below KK T3 (mkF m 20 #[.val (.ref q1)] [(.int 2), (.int 1)])
      refine own_at (fun t k => XS.goto X3.here hx rfl (pc0 := 20) (pc' := 24) rfl (hb hby d_prog_47_3_20) (by decide) (by decide) k) ?_
      show own_Go p e below KK T3 (mkF m 24 #[.val (.ref q1)] [(.int 2), (.int 1)])
      refine own_at (fun t k => XS.ior X3.here hx rfl (hb hby d_prog_47_3_24) rfl k) ?_
      show own_Go p e below KK T3 (mkF m 25 #[.val (.ref q1)] [(.int ((1 : Int32) ||| (2 : Int32)))])
      rw [show ((1 : Int32) ||| (2 : Int32)) = (3 : Int32) from by decide]
      show own_Go p e below KK T3 (mkF m 25 #[.val (.ref q1)] [(.int 3)])
      subst hKK
      exact own_retI X3 hx hlk Bd.returns (hb hby d_prog_47_3_25) (w := (own_fl a b)) (show (3 : Int32) = own_fl a b from by unfold own_fl; rw [if_neg hc4, if_neg hc16]) ⟨rfl, N0, e3⟩ (Nat.le_of_ble_eq_true rfl) (Nat.le_of_ble_eq_true rfl)
theorem own_bit {f k o : Int32} (h : o = if (f &&& k) = (0 : Int32) then (0 : Int32) else (1 : Int32)) : o = 0 ∨ o = 1 := by
  subst h; split
  · exact Or.inl rfl
  · exact Or.inr rfl
theorem pn_com_example_hold_office_holdoffice_protocol_CreateModeFlagsPinLaw : plainName "com/example/hold_office/holdoffice/protocol/CreateModeFlagsPinLaw" = true := by first | (simp [plainName, overriddenIn]; done) | decide +kernel
theorem ef_law (m : MethodId) (x0 : Int32) : entryFrame m #[(.int x0)] maxLocals = mkF m 0 #[.val (.int x0), .unset, .unset, .unset, .unset] [] := by first | (simp [entryFrame, mkF, argsToLocals, Value.category, maxLocals]; done) | rfl
theorem pd__ZZ_V : parseMethodDescriptor "(ZZ)V" = some ⟨[.boolean, .boolean], none⟩ := by decide +kernel
theorem pd___I : parseMethodDescriptor "()I" = some ⟨[], some .int⟩ := by decide +kernel
def own_Q (n0 : Nat) (v : Option Value) (h : Heap) (L : List Loc) : Prop := v = some (.int 1) ∧ Fr n0 L
set_option maxRecDepth 65536 in
set_option maxHeartbeats 40000000 in
theorem rm_law (l : Launch) (Z : State) (a0 : Array Value) (hw : ∀ d ∈ tables_1, d.before a0 Z = true) (ws : List Jvm.Cond) (p1 : Int32)  (h0 : Heap) (n0 : Nat) (Z0 : n0 ≤ h0.size)  :
    MetFree l x (head1 (Jvm.Cond.code x code maxLocals ret :: ws) room_1) (fun a U => a = #[(.int p1)] ∧ Z.Warmed39 U.vm ∧ U.heap = h0) (fun _ _ _ _ _ => True) (fun _ U o U' => ∃ v L, o = .returned v ∧ own_Q n0 v U'.heap L ∧ FrameEnd U o U' L room_1.cells room_1.slots) := by
  refine MetFree.of_bodySF (plainFor_of_name pn_com_example_hold_office_holdoffice_protocol_CreateModeFlagsPinLaw) hisR ?_
  intro p e s m args below meth c s₁ Bd hml0 hP hK
  obtain ⟨rfl, hZ, hh⟩ := hP
  have hx := Bd.exec
  have hby := Bd.bytes
  have hlk : meth.locks = false := BodyLoose.notSynchronized Bd
  have hml : c.maxLocals = 5 := hml0
  have hown : s.vm.findClass "com/example/hold_office/holdoffice/protocol/CreateModeFlagsPinLaw" = some m.cls := findClass_of_methodNamed Bd.named
  have hnm := (name_of_methodNamed Bd.named Bd.method).1
  have X0 : Stand p l e room_1 s m #[(.int p1)] below meth c s₁ [] 0 0 := Stand.of_body Bd
  have e0 : s₁.heap = h0 := by rw [← hh, Bd.state]; rfl
  have N0 := Fr.nil n0
  refine own_cast (K := own_K s (own_Q n0) room_1.cells room_1.slots) (ef_law m p1) ?_
  generalize hKK : own_K s (own_Q n0) room_1.cells room_1.slots = KK
  show own_Go p e below KK s₁ (mkF m 0 #[.val (.int p1), .unset, .unset, .unset, .unset] [])
  refine own_at (fun t k => XS.iloadN X0.here hx rfl (hb hby at_0) rfl k) ?_
  show own_Go p e below KK s₁ (mkF m 1 #[.val (.int p1), .unset, .unset, .unset, .unset] [(.int p1)])
  refine own_at (fun t k => XS.iconst X0.here hx rfl (hb hby at_1) k) ?_
  show own_Go p e below KK s₁ (mkF m 2 #[.val (.int p1), .unset, .unset, .unset, .unset] [(.int 1), (.int p1)])
  refine own_at (fun t k => XS.iand X0.here hx rfl (hb hby at_2) rfl k) ?_
  show own_Go p e below KK s₁ (mkF m 3 #[.val (.int p1), .unset, .unset, .unset, .unset] [(.int (p1 &&& (1 : Int32)))])
  have j3 : own_Go p e below KK s₁ (mkF m 11 #[.val (.int p1), .unset, .unset, .unset, .unset] [(.int (if (p1 &&& (1 : Int32)) = (0 : Int32) then (0 : Int32) else (1 : Int32)))]) → own_Go p e below KK s₁ (mkF m 3 #[.val (.int p1), .unset, .unset, .unset, .unset] [(.int (p1 &&& (1 : Int32)))]) := by
    intro kj
    by_cases hc3 : (p1 &&& (1 : Int32)) = (0 : Int32)
    · rw [if_pos hc3] at kj
      refine own_at (fun t k => XS.ifYes X0.here hx rfl (pc0 := 3) (pc' := 10) rfl (hb hby at_3) rfl (Jvm.Free.XT.i0_eq_t hc3) (by decide) (by decide) k) ?_
      show own_Go p e below KK s₁ (mkF m 10 #[.val (.int p1), .unset, .unset, .unset, .unset] [])
      refine own_at (fun t k => XS.iconst X0.here hx rfl (hb hby at_10) k) ?_
      show own_Go p e below KK s₁ (mkF m 11 #[.val (.int p1), .unset, .unset, .unset, .unset] [(.int 0)])
      exact kj
    · rw [if_neg hc3] at kj
      refine own_at (fun t k => XS.ifNo X0.here hx rfl (hb hby at_3) rfl (Jvm.Free.XT.i0_eq_f hc3) k) ?_
      show own_Go p e below KK s₁ (mkF m 6 #[.val (.int p1), .unset, .unset, .unset, .unset] [])
      refine own_at (fun t k => XS.iconst X0.here hx rfl (hb hby at_6) k) ?_
      show own_Go p e below KK s₁ (mkF m 7 #[.val (.int p1), .unset, .unset, .unset, .unset] [(.int 1)])
      refine own_at (fun t k => XS.goto X0.here hx rfl (pc0 := 7) (pc' := 11) rfl (hb hby at_7) (by decide) (by decide) k) ?_
      show own_Go p e below KK s₁ (mkF m 11 #[.val (.int p1), .unset, .unset, .unset, .unset] [(.int 1)])
      exact kj
  refine j3 ?_
  show own_Go p e below KK s₁ (mkF m 11 #[.val (.int p1), .unset, .unset, .unset, .unset] [(.int (if (p1 &&& (1 : Int32)) = (0 : Int32) then (0 : Int32) else (1 : Int32)))])
  obtain ⟨oe, hoe⟩ : ∃ z, z = (if (p1 &&& (1 : Int32)) = (0 : Int32) then (0 : Int32) else (1 : Int32)) := ⟨_, rfl⟩
  rw [← hoe]
  show own_Go p e below KK s₁ (mkF m 11 #[.val (.int p1), .unset, .unset, .unset, .unset] [(.int oe)])
  refine own_at (fun t k => XS.istoreN X0.here hx rfl (hb hby at_11) rfl (l' := #[.val (.int p1), .val (.int oe), .unset, .unset, .unset]) rfl k) ?_
  show own_Go p e below KK s₁ (mkF m 12 #[.val (.int p1), .val (.int oe), .unset, .unset, .unset] [])
  refine own_at (fun t k => XS.iloadN X0.here hx rfl (hb hby at_12) rfl k) ?_
  show own_Go p e below KK s₁ (mkF m 13 #[.val (.int p1), .val (.int oe), .unset, .unset, .unset] [(.int p1)])
  refine own_at (fun t k => XS.iconst X0.here hx rfl (hb hby at_13) k) ?_
  show own_Go p e below KK s₁ (mkF m 14 #[.val (.int p1), .val (.int oe), .unset, .unset, .unset] [(.int 2), (.int p1)])
  refine own_at (fun t k => XS.iand X0.here hx rfl (hb hby at_14) rfl k) ?_
  show own_Go p e below KK s₁ (mkF m 15 #[.val (.int p1), .val (.int oe), .unset, .unset, .unset] [(.int (p1 &&& (2 : Int32)))])
  have j15 : own_Go p e below KK s₁ (mkF m 23 #[.val (.int p1), .val (.int oe), .unset, .unset, .unset] [(.int (if (p1 &&& (2 : Int32)) = (0 : Int32) then (0 : Int32) else (1 : Int32)))]) → own_Go p e below KK s₁ (mkF m 15 #[.val (.int p1), .val (.int oe), .unset, .unset, .unset] [(.int (p1 &&& (2 : Int32)))]) := by
    intro kj
    by_cases hc15 : (p1 &&& (2 : Int32)) = (0 : Int32)
    · rw [if_pos hc15] at kj
      refine own_at (fun t k => XS.ifYes X0.here hx rfl (pc0 := 15) (pc' := 22) rfl (hb hby at_15) rfl (Jvm.Free.XT.i0_eq_t hc15) (by decide) (by decide) k) ?_
      show own_Go p e below KK s₁ (mkF m 22 #[.val (.int p1), .val (.int oe), .unset, .unset, .unset] [])
      refine own_at (fun t k => XS.iconst X0.here hx rfl (hb hby at_22) k) ?_
      show own_Go p e below KK s₁ (mkF m 23 #[.val (.int p1), .val (.int oe), .unset, .unset, .unset] [(.int 0)])
      exact kj
    · rw [if_neg hc15] at kj
      refine own_at (fun t k => XS.ifNo X0.here hx rfl (hb hby at_15) rfl (Jvm.Free.XT.i0_eq_f hc15) k) ?_
      show own_Go p e below KK s₁ (mkF m 18 #[.val (.int p1), .val (.int oe), .unset, .unset, .unset] [])
      refine own_at (fun t k => XS.iconst X0.here hx rfl (hb hby at_18) k) ?_
      show own_Go p e below KK s₁ (mkF m 19 #[.val (.int p1), .val (.int oe), .unset, .unset, .unset] [(.int 1)])
      refine own_at (fun t k => XS.goto X0.here hx rfl (pc0 := 19) (pc' := 23) rfl (hb hby at_19) (by decide) (by decide) k) ?_
      show own_Go p e below KK s₁ (mkF m 23 #[.val (.int p1), .val (.int oe), .unset, .unset, .unset] [(.int 1)])
      exact kj
  refine j15 ?_
  show own_Go p e below KK s₁ (mkF m 23 #[.val (.int p1), .val (.int oe), .unset, .unset, .unset] [(.int (if (p1 &&& (2 : Int32)) = (0 : Int32) then (0 : Int32) else (1 : Int32)))])
  obtain ⟨os, hos⟩ : ∃ z, z = (if (p1 &&& (2 : Int32)) = (0 : Int32) then (0 : Int32) else (1 : Int32)) := ⟨_, rfl⟩
  rw [← hos]
  show own_Go p e below KK s₁ (mkF m 23 #[.val (.int p1), .val (.int oe), .unset, .unset, .unset] [(.int os)])
  refine own_at (fun t k => XS.istoreN X0.here hx rfl (hb hby at_23) rfl (l' := #[.val (.int p1), .val (.int oe), .val (.int os), .unset, .unset]) rfl k) ?_
  show own_Go p e below KK s₁ (mkF m 24 #[.val (.int p1), .val (.int oe), .val (.int os), .unset, .unset] [])
  obtain ⟨T1, h1, X1, e1, E1, A1, D1, -, st1⟩ := newO X0 hx hZ hown (hw _ (List.mem_of_getElem? (i := 0) rfl)) (hw _ (List.mem_of_getElem? (i := 1) rfl)) (hw _ (List.mem_of_getElem? (i := 2) rfl)) e0 (g := (mkF m 24 #[.val (.int p1), .val (.int oe), .val (.int os), .unset, .unset] [])) rfl (hb hby at_24) (by decide) (by decide)
  obtain ⟨b1, g1⟩ : ∃ z, z = h0.size := ⟨_, rfl⟩
  rw [← g1] at A1 D1 st1
  have g_b1 : n0 ≤ b1 := by rw [g1]; exact Z0
  have Zs1 : n0 ≤ h1.size := Nat.le_trans Z0 E1.1
  have E2_b1 : Exa Z h1 b1 "com/example/hold_office/holdoffice/protocol/CreateMode" := A1
  have F3_b1 : Fld Z h1 b1 "com/example/hold_office/holdoffice/protocol/CreateMode" "ephemeral" "Z" (.int 0) := D1 (Or.inr (hw _ (List.mem_of_getElem? (i := 15) rfl))) (ty := .boolean) (by decide)
  have F4_b1 : Fld Z h1 b1 "com/example/hold_office/holdoffice/protocol/CreateMode" "sequential" "Z" (.int 0) := D1 (Or.inr (hw _ (List.mem_of_getElem? (i := 17) rfl))) (ty := .boolean) (by decide)
  refine own_of (fun t k => st1 t k) ?_
  show own_Go p e below KK T1 (mkF m 27 #[.val (.int p1), .val (.int oe), .val (.int os), .unset, .unset] [(.ref b1)])
  refine own_at (fun t k => XS.dup X1.here hx rfl (hb hby at_27) rfl rfl k) ?_
  show own_Go p e below KK T1 (mkF m 28 #[.val (.int p1), .val (.int oe), .val (.int os), .unset, .unset] [(.ref b1), (.ref b1)])
  refine own_at (fun t k => XS.iloadN X1.here hx rfl (hb hby at_28) rfl k) ?_
  show own_Go p e below KK T1 (mkF m 29 #[.val (.int p1), .val (.int oe), .val (.int os), .unset, .unset] [(.int oe), (.ref b1), (.ref b1)])
  refine own_at (fun t k => XS.iloadN X1.here hx rfl (hb hby at_29) rfl k) ?_
  show own_Go p e below KK T1 (mkF m 30 #[.val (.int p1), .val (.int oe), .val (.int os), .unset, .unset] [(.int os), (.int oe), (.ref b1), (.ref b1)])
  obtain ⟨_, _, ⟨T5, L5, k5, n5⟩, -, X5, ⟨Lc5, hQ5, l5, y5, z5⟩, st5⟩ := X1.specialBack hx (y := (⟨"com/example/hold_office/holdoffice/protocol/CreateMode", "<init>", "(ZZ)V"⟩ : MethodName)) rfl hown (mvT hZ (hw _ (List.mem_of_getElem? (i := 3) rfl))) (mvT hZ (hw _ (List.mem_of_getElem? (i := 4) rfl))) (mvT hZ (hw _ (List.mem_of_getElem? (i := 5) rfl))) (by decide) (backOf (W := 1) (rm_ctor l Z a0 hw [] b1 oe os  h1 n0 Zs1 F3_b1 F4_b1 E2_b1 g_b1 (own_bit hoe) (own_bit hos)) hZ (hw _ (List.mem_of_getElem? (i := 5) rfl)) (hw _ (List.mem_of_getElem? (i := 2) rfl)) (by decide) (by decide)) (g := (mkF m 30 #[.val (.int p1), .val (.int oe), .val (.int os), .unset, .unset] [(.int os), (.int oe), (.ref b1), (.ref b1)])) rfl (by rw [hml]; rfl) (Steps.refl _) (a := b1) (argsL := [(.int oe), (.int os)]) (rest := [(.ref b1)]) (lenOf pd__ZZ_V rfl) rfl (by show 2 * 0 + _ ≤ _; exact Nat.le_of_eq rfl) (hb hby at_30) (fun _ _ => ⟨rfl, e1, (by decide : 1 + 0 ≤ _), (by decide : 2 + 0 ≤ _)⟩)
  dsimp only [Pt.U, Pt.locs, Pt.cells, Pt.slots] at X5 l5 y5 z5 st5 hQ5
  subst l5 y5 z5
  obtain ⟨rfl, N5q, K5, Ex5, Fx5, Fy5⟩ := hQ5
  have Zs5 : n0 ≤ T5.heap.size := Nat.le_trans Zs1 K5.1
  have E6_b1 : Exa Z T5.heap b1 "com/example/hold_office/holdoffice/protocol/CreateMode" := Ex5
  have F7_b1 : Fld Z T5.heap b1 "com/example/hold_office/holdoffice/protocol/CreateMode" "ephemeral" "Z" (.int oe) := Fx5
  have F8_b1 : Fld Z T5.heap b1 "com/example/hold_office/holdoffice/protocol/CreateMode" "sequential" "Z" (.int os) := Fy5
  have N5 := Fr.app N0 N5q
  refine own_of (fun t k => st5.trans k) ?_
  show own_Go p e below KK T5 (mkF m 33 #[.val (.int p1), .val (.int oe), .val (.int os), .unset, .unset] [(.ref b1)])
  refine own_at (fun t k => XS.astoreN X5.here hx rfl (hb hby at_33) rfl rfl (l' := #[.val (.int p1), .val (.int oe), .val (.int os), .val (.ref b1), .unset]) rfl k) ?_
  show own_Go p e below KK T5 (mkF m 34 #[.val (.int p1), .val (.int oe), .val (.int os), .val (.ref b1), .unset] [])
  refine own_at (fun t k => XS.iloadN X5.here hx rfl (hb hby at_34) rfl k) ?_
  show own_Go p e below KK T5 (mkF m 35 #[.val (.int p1), .val (.int oe), .val (.int os), .val (.ref b1), .unset] [(.int oe)])
  by_cases hc35 : oe = (0 : Int32)
  · refine own_at (fun t k => XS.ifYes X5.here hx rfl (pc0 := 35) (pc' := 54) rfl (hb hby at_35) rfl (Jvm.Free.XT.i0_eq_t hc35) (by decide) (by decide) k) ?_
    show own_Go p e below KK T5 (mkF m 54 #[.val (.int p1), .val (.int oe), .val (.int os), .val (.ref b1), .unset] [])
    refine own_at (fun t k => XS.iloadN X5.here hx rfl (hb hby at_54) rfl k) ?_
    show own_Go p e below KK T5 (mkF m 55 #[.val (.int p1), .val (.int oe), .val (.int os), .val (.ref b1), .unset] [(.int os)])
    by_cases hc55 : os = (0 : Int32)
    · refine own_at (fun t k => XS.ifYes X5.here hx rfl (pc0 := 55) (pc' := 64) rfl (hb hby at_55) rfl (Jvm.Free.XT.i0_eq_t hc55) (by decide) (by decide) k) ?_
      show own_Go p e below KK T5 (mkF m 64 #[.val (.int p1), .val (.int oe), .val (.int os), .val (.ref b1), .unset] [])
      refine own_at (fun t k => XS.iconst X5.here hx rfl (hb hby at_64) k) ?_
      show own_Go p e below KK T5 (mkF m 65 #[.val (.int p1), .val (.int oe), .val (.int os), .val (.ref b1), .unset] [(.int 0)])
      refine own_at (fun t k => XS.istore X5.here hx rfl (hb hby at_65) rfl (l' := #[.val (.int p1), .val (.int oe), .val (.int os), .val (.ref b1), .val (.int 0)]) rfl k) ?_
      show own_Go p e below KK T5 (mkF m 67 #[.val (.int p1), .val (.int oe), .val (.int os), .val (.ref b1), .val (.int 0)] [])
      refine own_at (fun t k => XS.aloadN X5.here hx rfl (hb hby at_67) rfl rfl k) ?_
      show own_Go p e below KK T5 (mkF m 68 #[.val (.int p1), .val (.int oe), .val (.int os), .val (.ref b1), .val (.int 0)] [(.ref b1)])
      obtain ⟨cq9, kq9, q9a, q9b, q9c⟩ := isOf hZ rfl E6_b1
      obtain ⟨_, _, ⟨T9, L9, k9, n9⟩, -, X9, ⟨Lc9, hQ9, l9, y9, z9⟩, st9⟩ := X5.virtualBack hx (y := (⟨"com/example/hold_office/holdoffice/protocol/CreateMode", "flags", "()I"⟩ : MethodName)) (z := (⟨"com/example/hold_office/holdoffice/protocol/CreateMode", "flags", "()I"⟩ : MethodName)) hown (mvT hZ (hw _ (List.mem_of_getElem? (i := 18) rfl))) (mvT hZ (hw _ (List.mem_of_getElem? (i := 19) rfl))) (notFace_of_selects (args := #[]) (mvT hZ (hw _ (List.mem_of_getElem? (i := 21) rfl)))) (mvT hZ (hw _ (List.mem_of_getElem? (i := 21) rfl))) (mvT hZ (hw _ (List.mem_of_getElem? (i := 20) rfl))) (by decide) (backOf (W := 0) (rm_fl l Z a0 hw [] b1  oe os T5.heap n0 Zs5 F7_b1 F8_b1) hZ (hw _ (List.mem_of_getElem? (i := 22) rfl)) (hw _ (List.mem_of_getElem? (i := 2) rfl)) (by decide) (by decide)) q9a q9c (g := (mkF m 68 #[.val (.int p1), .val (.int oe), .val (.int os), .val (.ref b1), .val (.int 0)] [(.ref b1)])) rfl (by rw [hml]; rfl) (Steps.refl _) (argsL := []) (rest := []) (lenOf pd___I rfl) rfl (by show 2 * 0 + _ ≤ _; exact Nat.le_of_eq rfl) (hb hby at_68) (fun _ _ => ⟨rfl, rfl, (by decide : 1 + 0 ≤ _), (by decide : 2 + 0 ≤ _)⟩)
      dsimp only [Pt.U, Pt.locs, Pt.cells, Pt.slots] at X9 l9 y9 z9 st9 hQ9
      subst l9 y9 z9
      obtain ⟨rfl, N9q, e9⟩ := hQ9
      have N9 := Fr.app N5 N9q
      refine own_of (fun t k => st9.trans k) ?_
      show own_Go p e below KK T9 (mkF m 71 #[.val (.int p1), .val (.int oe), .val (.int os), .val (.ref b1), .val (.int 0)] [(.int (own_fl oe os))])
      refine own_at (fun t k => XS.iload X9.here hx rfl (hb hby at_71) rfl k) ?_
      show own_Go p e below KK T9 (mkF m 73 #[.val (.int p1), .val (.int oe), .val (.int os), .val (.ref b1), .val (.int 0)] [(.int 0), (.int (own_fl oe os))])
      have hc73 : (own_fl oe os) = (0 : Int32) := by unfold own_fl; rw [if_pos hc35, if_pos hc55]
      refine own_at (fun t k => XS.icmpNo X9.here hx rfl (hb hby at_73) rfl (Jvm.Free.XT.ii_ne_f hc73) k) ?_
      show own_Go p e below KK T9 (mkF m 76 #[.val (.int p1), .val (.int oe), .val (.int os), .val (.ref b1), .val (.int 0)] [])
      refine own_at (fun t k => XS.iconst X9.here hx rfl (hb hby at_76) k) ?_
      show own_Go p e below KK T9 (mkF m 77 #[.val (.int p1), .val (.int oe), .val (.int os), .val (.ref b1), .val (.int 0)] [(.int 1)])
      refine own_at (fun t k => XS.goto X9.here hx rfl (pc0 := 77) (pc' := 81) rfl (hb hby at_77) (by decide) (by decide) k) ?_
      show own_Go p e below KK T9 (mkF m 81 #[.val (.int p1), .val (.int oe), .val (.int os), .val (.ref b1), .val (.int 0)] [(.int 1)])
      subst hKK
      exact own_retN X9 hx hlk (t := .boolean) Bd.returns (by simp) (hb hby at_81) (w := (1 : Int32)) (show nar .boolean (1 : Int32) = 1 from by decide) ⟨rfl, N9⟩ (Nat.le_of_ble_eq_true rfl) (Nat.le_of_ble_eq_true rfl)
    · refine own_at (fun t k => XS.ifNo X5.here hx rfl (hb hby at_55) rfl (Jvm.Free.XT.i0_eq_f hc55) k) ?_
      show own_Go p e below KK T5 (mkF m 58 #[.val (.int p1), .val (.int oe), .val (.int os), .val (.ref b1), .unset] [])
      refine own_at (fun t k => XS.iconst X5.here hx rfl (hb hby at_58) k) ?_
      show own_Go p e below KK T5 (mkF m 59 #[.val (.int p1), .val (.int oe), .val (.int os), .val (.ref b1), .unset] [(.int 2)])
      refine own_at (fun t k => XS.istore X5.here hx rfl (hb hby at_59) rfl (l' := #[.val (.int p1), .val (.int oe), .val (.int os), .val (.ref b1), .val (.int 2)]) rfl k) ?_
      show own_Go p e below KK T5 (mkF m 61 #[.val (.int p1), .val (.int oe), .val (.int os), .val (.ref b1), .val (.int 2)] [])
      refine own_at (fun t k => XS.goto X5.here hx rfl (pc0 := 61) (pc' := 67) rfl (hb hby at_61) (by decide) (by decide) k) ?_
      show own_Go p e below KK T5 (mkF m 67 #[.val (.int p1), .val (.int oe), .val (.int os), .val (.ref b1), .val (.int 2)] [])
      refine own_at (fun t k => XS.aloadN X5.here hx rfl (hb hby at_67) rfl rfl k) ?_
      show own_Go p e below KK T5 (mkF m 68 #[.val (.int p1), .val (.int oe), .val (.int os), .val (.ref b1), .val (.int 2)] [(.ref b1)])
      obtain ⟨cq10, kq10, q10a, q10b, q10c⟩ := isOf hZ rfl E6_b1
      obtain ⟨_, _, ⟨T10, L10, k10, n10⟩, -, X10, ⟨Lc10, hQ10, l10, y10, z10⟩, st10⟩ := X5.virtualBack hx (y := (⟨"com/example/hold_office/holdoffice/protocol/CreateMode", "flags", "()I"⟩ : MethodName)) (z := (⟨"com/example/hold_office/holdoffice/protocol/CreateMode", "flags", "()I"⟩ : MethodName)) hown (mvT hZ (hw _ (List.mem_of_getElem? (i := 18) rfl))) (mvT hZ (hw _ (List.mem_of_getElem? (i := 19) rfl))) (notFace_of_selects (args := #[]) (mvT hZ (hw _ (List.mem_of_getElem? (i := 21) rfl)))) (mvT hZ (hw _ (List.mem_of_getElem? (i := 21) rfl))) (mvT hZ (hw _ (List.mem_of_getElem? (i := 20) rfl))) (by decide) (backOf (W := 0) (rm_fl l Z a0 hw [] b1  oe os T5.heap n0 Zs5 F7_b1 F8_b1) hZ (hw _ (List.mem_of_getElem? (i := 22) rfl)) (hw _ (List.mem_of_getElem? (i := 2) rfl)) (by decide) (by decide)) q10a q10c (g := (mkF m 68 #[.val (.int p1), .val (.int oe), .val (.int os), .val (.ref b1), .val (.int 2)] [(.ref b1)])) rfl (by rw [hml]; rfl) (Steps.refl _) (argsL := []) (rest := []) (lenOf pd___I rfl) rfl (by show 2 * 0 + _ ≤ _; exact Nat.le_of_eq rfl) (hb hby at_68) (fun _ _ => ⟨rfl, rfl, (by decide : 1 + 0 ≤ _), (by decide : 2 + 0 ≤ _)⟩)
      dsimp only [Pt.U, Pt.locs, Pt.cells, Pt.slots] at X10 l10 y10 z10 st10 hQ10
      subst l10 y10 z10
      obtain ⟨rfl, N10q, e10⟩ := hQ10
      have N10 := Fr.app N5 N10q
      refine own_of (fun t k => st10.trans k) ?_
      show own_Go p e below KK T10 (mkF m 71 #[.val (.int p1), .val (.int oe), .val (.int os), .val (.ref b1), .val (.int 2)] [(.int (own_fl oe os))])
      refine own_at (fun t k => XS.iload X10.here hx rfl (hb hby at_71) rfl k) ?_
      show own_Go p e below KK T10 (mkF m 73 #[.val (.int p1), .val (.int oe), .val (.int os), .val (.ref b1), .val (.int 2)] [(.int 2), (.int (own_fl oe os))])
      have hc73 : (own_fl oe os) = (2 : Int32) := by unfold own_fl; rw [if_pos hc35, if_neg hc55]
      refine own_at (fun t k => XS.icmpNo X10.here hx rfl (hb hby at_73) rfl (Jvm.Free.XT.ii_ne_f hc73) k) ?_
      show own_Go p e below KK T10 (mkF m 76 #[.val (.int p1), .val (.int oe), .val (.int os), .val (.ref b1), .val (.int 2)] [])
      refine own_at (fun t k => XS.iconst X10.here hx rfl (hb hby at_76) k) ?_
      show own_Go p e below KK T10 (mkF m 77 #[.val (.int p1), .val (.int oe), .val (.int os), .val (.ref b1), .val (.int 2)] [(.int 1)])
      refine own_at (fun t k => XS.goto X10.here hx rfl (pc0 := 77) (pc' := 81) rfl (hb hby at_77) (by decide) (by decide) k) ?_
      show own_Go p e below KK T10 (mkF m 81 #[.val (.int p1), .val (.int oe), .val (.int os), .val (.ref b1), .val (.int 2)] [(.int 1)])
      subst hKK
      exact own_retN X10 hx hlk (t := .boolean) Bd.returns (by simp) (hb hby at_81) (w := (1 : Int32)) (show nar .boolean (1 : Int32) = 1 from by decide) ⟨rfl, N10⟩ (Nat.le_of_ble_eq_true rfl) (Nat.le_of_ble_eq_true rfl)
  · refine own_at (fun t k => XS.ifNo X5.here hx rfl (hb hby at_35) rfl (Jvm.Free.XT.i0_eq_f hc35) k) ?_
    show own_Go p e below KK T5 (mkF m 38 #[.val (.int p1), .val (.int oe), .val (.int os), .val (.ref b1), .unset] [])
    refine own_at (fun t k => XS.iloadN X5.here hx rfl (hb hby at_38) rfl k) ?_
    show own_Go p e below KK T5 (mkF m 39 #[.val (.int p1), .val (.int oe), .val (.int os), .val (.ref b1), .unset] [(.int os)])
    by_cases hc39 : os = (0 : Int32)
    · refine own_at (fun t k => XS.ifYes X5.here hx rfl (pc0 := 39) (pc' := 48) rfl (hb hby at_39) rfl (Jvm.Free.XT.i0_eq_t hc39) (by decide) (by decide) k) ?_
      show own_Go p e below KK T5 (mkF m 48 #[.val (.int p1), .val (.int oe), .val (.int os), .val (.ref b1), .unset] [])
      refine own_at (fun t k => XS.iconst X5.here hx rfl (hb hby at_48) k) ?_
      show own_Go p e below KK T5 (mkF m 49 #[.val (.int p1), .val (.int oe), .val (.int os), .val (.ref b1), .unset] [(.int 1)])
      refine own_at (fun t k => XS.istore X5.here hx rfl (hb hby at_49) rfl (l' := #[.val (.int p1), .val (.int oe), .val (.int os), .val (.ref b1), .val (.int 1)]) rfl k) ?_
      show own_Go p e below KK T5 (mkF m 51 #[.val (.int p1), .val (.int oe), .val (.int os), .val (.ref b1), .val (.int 1)] [])
      refine own_at (fun t k => XS.goto X5.here hx rfl (pc0 := 51) (pc' := 67) rfl (hb hby at_51) (by decide) (by decide) k) ?_
      show own_Go p e below KK T5 (mkF m 67 #[.val (.int p1), .val (.int oe), .val (.int os), .val (.ref b1), .val (.int 1)] [])
      refine own_at (fun t k => XS.aloadN X5.here hx rfl (hb hby at_67) rfl rfl k) ?_
      show own_Go p e below KK T5 (mkF m 68 #[.val (.int p1), .val (.int oe), .val (.int os), .val (.ref b1), .val (.int 1)] [(.ref b1)])
      obtain ⟨cq11, kq11, q11a, q11b, q11c⟩ := isOf hZ rfl E6_b1
      obtain ⟨_, _, ⟨T11, L11, k11, n11⟩, -, X11, ⟨Lc11, hQ11, l11, y11, z11⟩, st11⟩ := X5.virtualBack hx (y := (⟨"com/example/hold_office/holdoffice/protocol/CreateMode", "flags", "()I"⟩ : MethodName)) (z := (⟨"com/example/hold_office/holdoffice/protocol/CreateMode", "flags", "()I"⟩ : MethodName)) hown (mvT hZ (hw _ (List.mem_of_getElem? (i := 18) rfl))) (mvT hZ (hw _ (List.mem_of_getElem? (i := 19) rfl))) (notFace_of_selects (args := #[]) (mvT hZ (hw _ (List.mem_of_getElem? (i := 21) rfl)))) (mvT hZ (hw _ (List.mem_of_getElem? (i := 21) rfl))) (mvT hZ (hw _ (List.mem_of_getElem? (i := 20) rfl))) (by decide) (backOf (W := 0) (rm_fl l Z a0 hw [] b1  oe os T5.heap n0 Zs5 F7_b1 F8_b1) hZ (hw _ (List.mem_of_getElem? (i := 22) rfl)) (hw _ (List.mem_of_getElem? (i := 2) rfl)) (by decide) (by decide)) q11a q11c (g := (mkF m 68 #[.val (.int p1), .val (.int oe), .val (.int os), .val (.ref b1), .val (.int 1)] [(.ref b1)])) rfl (by rw [hml]; rfl) (Steps.refl _) (argsL := []) (rest := []) (lenOf pd___I rfl) rfl (by show 2 * 0 + _ ≤ _; exact Nat.le_of_eq rfl) (hb hby at_68) (fun _ _ => ⟨rfl, rfl, (by decide : 1 + 0 ≤ _), (by decide : 2 + 0 ≤ _)⟩)
      dsimp only [Pt.U, Pt.locs, Pt.cells, Pt.slots] at X11 l11 y11 z11 st11 hQ11
      subst l11 y11 z11
      obtain ⟨rfl, N11q, e11⟩ := hQ11
      have N11 := Fr.app N5 N11q
      refine own_of (fun t k => st11.trans k) ?_
      show own_Go p e below KK T11 (mkF m 71 #[.val (.int p1), .val (.int oe), .val (.int os), .val (.ref b1), .val (.int 1)] [(.int (own_fl oe os))])
      refine own_at (fun t k => XS.iload X11.here hx rfl (hb hby at_71) rfl k) ?_
      show own_Go p e below KK T11 (mkF m 73 #[.val (.int p1), .val (.int oe), .val (.int os), .val (.ref b1), .val (.int 1)] [(.int 1), (.int (own_fl oe os))])
      have hc73 : (own_fl oe os) = (1 : Int32) := by unfold own_fl; rw [if_neg hc35, if_pos hc39]
      refine own_at (fun t k => XS.icmpNo X11.here hx rfl (hb hby at_73) rfl (Jvm.Free.XT.ii_ne_f hc73) k) ?_
      show own_Go p e below KK T11 (mkF m 76 #[.val (.int p1), .val (.int oe), .val (.int os), .val (.ref b1), .val (.int 1)] [])
      refine own_at (fun t k => XS.iconst X11.here hx rfl (hb hby at_76) k) ?_
      show own_Go p e below KK T11 (mkF m 77 #[.val (.int p1), .val (.int oe), .val (.int os), .val (.ref b1), .val (.int 1)] [(.int 1)])
      refine own_at (fun t k => XS.goto X11.here hx rfl (pc0 := 77) (pc' := 81) rfl (hb hby at_77) (by decide) (by decide) k) ?_
      show own_Go p e below KK T11 (mkF m 81 #[.val (.int p1), .val (.int oe), .val (.int os), .val (.ref b1), .val (.int 1)] [(.int 1)])
      subst hKK
      exact own_retN X11 hx hlk (t := .boolean) Bd.returns (by simp) (hb hby at_81) (w := (1 : Int32)) (show nar .boolean (1 : Int32) = 1 from by decide) ⟨rfl, N11⟩ (Nat.le_of_ble_eq_true rfl) (Nat.le_of_ble_eq_true rfl)
    · refine own_at (fun t k => XS.ifNo X5.here hx rfl (hb hby at_39) rfl (Jvm.Free.XT.i0_eq_f hc39) k) ?_
      show own_Go p e below KK T5 (mkF m 42 #[.val (.int p1), .val (.int oe), .val (.int os), .val (.ref b1), .unset] [])
      refine own_at (fun t k => XS.iconst X5.here hx rfl (hb hby at_42) k) ?_
      show own_Go p e below KK T5 (mkF m 43 #[.val (.int p1), .val (.int oe), .val (.int os), .val (.ref b1), .unset] [(.int 3)])
      refine own_at (fun t k => XS.istore X5.here hx rfl (hb hby at_43) rfl (l' := #[.val (.int p1), .val (.int oe), .val (.int os), .val (.ref b1), .val (.int 3)]) rfl k) ?_
      show own_Go p e below KK T5 (mkF m 45 #[.val (.int p1), .val (.int oe), .val (.int os), .val (.ref b1), .val (.int 3)] [])
      refine own_at (fun t k => XS.goto X5.here hx rfl (pc0 := 45) (pc' := 67) rfl (hb hby at_45) (by decide) (by decide) k) ?_
      show own_Go p e below KK T5 (mkF m 67 #[.val (.int p1), .val (.int oe), .val (.int os), .val (.ref b1), .val (.int 3)] [])
      refine own_at (fun t k => XS.aloadN X5.here hx rfl (hb hby at_67) rfl rfl k) ?_
      show own_Go p e below KK T5 (mkF m 68 #[.val (.int p1), .val (.int oe), .val (.int os), .val (.ref b1), .val (.int 3)] [(.ref b1)])
      obtain ⟨cq12, kq12, q12a, q12b, q12c⟩ := isOf hZ rfl E6_b1
      obtain ⟨_, _, ⟨T12, L12, k12, n12⟩, -, X12, ⟨Lc12, hQ12, l12, y12, z12⟩, st12⟩ := X5.virtualBack hx (y := (⟨"com/example/hold_office/holdoffice/protocol/CreateMode", "flags", "()I"⟩ : MethodName)) (z := (⟨"com/example/hold_office/holdoffice/protocol/CreateMode", "flags", "()I"⟩ : MethodName)) hown (mvT hZ (hw _ (List.mem_of_getElem? (i := 18) rfl))) (mvT hZ (hw _ (List.mem_of_getElem? (i := 19) rfl))) (notFace_of_selects (args := #[]) (mvT hZ (hw _ (List.mem_of_getElem? (i := 21) rfl)))) (mvT hZ (hw _ (List.mem_of_getElem? (i := 21) rfl))) (mvT hZ (hw _ (List.mem_of_getElem? (i := 20) rfl))) (by decide) (backOf (W := 0) (rm_fl l Z a0 hw [] b1  oe os T5.heap n0 Zs5 F7_b1 F8_b1) hZ (hw _ (List.mem_of_getElem? (i := 22) rfl)) (hw _ (List.mem_of_getElem? (i := 2) rfl)) (by decide) (by decide)) q12a q12c (g := (mkF m 68 #[.val (.int p1), .val (.int oe), .val (.int os), .val (.ref b1), .val (.int 3)] [(.ref b1)])) rfl (by rw [hml]; rfl) (Steps.refl _) (argsL := []) (rest := []) (lenOf pd___I rfl) rfl (by show 2 * 0 + _ ≤ _; exact Nat.le_of_eq rfl) (hb hby at_68) (fun _ _ => ⟨rfl, rfl, (by decide : 1 + 0 ≤ _), (by decide : 2 + 0 ≤ _)⟩)
      dsimp only [Pt.U, Pt.locs, Pt.cells, Pt.slots] at X12 l12 y12 z12 st12 hQ12
      subst l12 y12 z12
      obtain ⟨rfl, N12q, e12⟩ := hQ12
      have N12 := Fr.app N5 N12q
      refine own_of (fun t k => st12.trans k) ?_
      show own_Go p e below KK T12 (mkF m 71 #[.val (.int p1), .val (.int oe), .val (.int os), .val (.ref b1), .val (.int 3)] [(.int (own_fl oe os))])
      refine own_at (fun t k => XS.iload X12.here hx rfl (hb hby at_71) rfl k) ?_
      show own_Go p e below KK T12 (mkF m 73 #[.val (.int p1), .val (.int oe), .val (.int os), .val (.ref b1), .val (.int 3)] [(.int 3), (.int (own_fl oe os))])
      have hc73 : (own_fl oe os) = (3 : Int32) := by unfold own_fl; rw [if_neg hc35, if_neg hc39]
      refine own_at (fun t k => XS.icmpNo X12.here hx rfl (hb hby at_73) rfl (Jvm.Free.XT.ii_ne_f hc73) k) ?_
      show own_Go p e below KK T12 (mkF m 76 #[.val (.int p1), .val (.int oe), .val (.int os), .val (.ref b1), .val (.int 3)] [])
      refine own_at (fun t k => XS.iconst X12.here hx rfl (hb hby at_76) k) ?_
      show own_Go p e below KK T12 (mkF m 77 #[.val (.int p1), .val (.int oe), .val (.int os), .val (.ref b1), .val (.int 3)] [(.int 1)])
      refine own_at (fun t k => XS.goto X12.here hx rfl (pc0 := 77) (pc' := 81) rfl (hb hby at_77) (by decide) (by decide) k) ?_
      show own_Go p e below KK T12 (mkF m 81 #[.val (.int p1), .val (.int oe), .val (.int os), .val (.ref b1), .val (.int 3)] [(.int 1)])
      subst hKK
      exact own_retN X12 hx hlk (t := .boolean) Bd.returns (by simp) (hb hby at_81) (w := (1 : Int32)) (show nar .boolean (1 : Int32) = 1 from by decide) ⟨rfl, N12⟩ (Nat.le_of_ble_eq_true rfl) (Nat.le_of_ble_eq_true rfl)
set_option maxRecDepth 65536 in
set_option maxHeartbeats 40000000 in
theorem comes_1 {Post : Tables → Env → Array Value → State → Outcome → State → Prop} (hpost : ∀ tb e args s v u, (limb_1_1.after args s (.returned v) u = true ∧ limb_1_2.after args s (.returned v) u = true ∧ True) → FrameEnd s (.returned v) u (Jvm.fieldLocs frame_1_writes args s ++ Jvm.arrayLocs frame_1_arrays args s ++ Jvm.staticLocs frame_1_statics s) 16 128 → Post tb e args s (.returned v) u) :
    ArmFor flags0 classFile x code maxLocals ret World_1 tables_1 room_1 Calls_1 rest_1 Pre_1 Post := by
  intro l hfl _ _ p e ha hc hk s m args below hf hA hF happ hP
  obtain ⟨hcalls, hrest, hpre⟩ := hP
  obtain ⟨-, -, -, hnamed, -, -, -, hat⟩ := (Spec.applies_iff hf).mp happ
  obtain ⟨hg, hn⟩ := and_e (Cond.before_iff.mp (show (Jvm.Cond.and given_1 narrow_1).before args s = true from hpre))
  obtain ⟨gc, g0⟩ := and_e hg
  obtain ⟨w0, rfl⟩ : ∃ w0 : Value, args = #[w0] := by
    have hs : args.size = 1 := by simpa [Cond.value, given_1] using gc
    obtain ⟨L⟩ := args
    match L, hs with
    | [w0], _ => exact ⟨w0, rfl⟩
  have hw := fun d (hd : d ∈ tables_1) => atoms_spec (ws := Jvm.Cond.code x code maxLocals ret :: tables_1) hat d (List.mem_cons_of_mem _ hd)
  obtain ⟨i0, ei0⟩ := is_v g0
  obtain rfl : w0 = (.int i0) := Option.some.inj ei0
  obtain ⟨n, o, h1, h2, h3, _, L, rfl, ⟨rfl, N⟩, hq⟩ := rm_law l s _ hw tables_1 i0 s.heap s.heap.size (Nat.le_refl _) p e ha hc hk s m _ below hf ((Spec.applies_iff_loose hf).mp happ).1 ⟨rfl, State.Warmed39.refl s, rfl⟩ trivial
  refine ⟨n, _, h1, h2, h3, hpost _ _ _ _ _ _ ⟨Cond.after_iff.mpr rfl, Cond.after_iff.mpr (eq_i res_at (Term.int_eval (1)) rfl), trivial⟩ ⟨hq.1, hq.2.1, (hq.2.2.sift fun y hy => Or.inr (N y hy)).mono (by decide) (by decide)⟩⟩
theorem main_1_1 : Claimed_1_1 := comes_1 fun _ _ _ _ _ _ h hF => ⟨h.1, hF⟩
theorem main_1_2 : Claimed_1_2 := comes_1 fun _ _ _ _ _ _ h hF => ⟨h.2.1, hF⟩
end Jvm.Pilot.@@N@@
namespace Jvm.Pilot.@@N@@
open Jvm Jvm.ClassFile Sem Op Lib Jvm.Free Jvm.Stand Jvm.Pilot.@@N@@.Jvm.D
/-! MADE BY PROGRAM (witnessworld.py) out of the Statement's table words and the real class files: 10 classes; the members and pool entries that the words name. The judged class is class 1, her method 1. -/
namespace start1
open Jvm.ClassFile
def u (s : String) : CpInfo := .utf8 (stringToUtf16 s)
/-- a pool by its gaps: so many unusable entries, then the entry; so many at the end -/
def gap : Nat → List CpInfo → List CpInfo
  | 0, r => r
  | n + 1, r => .unusable :: gap n r
def poolList (es : List (Nat × CpInfo)) (last : Nat) : List CpInfo := es.foldr (fun e r => gap e.1 (e.2 :: r)) (gap last [])
def pool (es : List (Nat × CpInfo)) (last : Nat) : Array CpInfo := ⟨poolList es last⟩
def fileOf (pool : Array CpInfo) (this : Nat) (attrs : Array Attribute := #[]) (ms : Array MethodInfo := #[]) (fl : Nat := 33) (sup : Nat := 0) (ifs : Array Nat := #[]) (fds : Array FieldInfo := #[]) : ClassFile where
  minorVersion := 0
  majorVersion := 65
  constantPool := pool
  accessFlags := fl
  thisClass := this
  superClass := sup
  interfaces := ifs
  fields := fds
  methods := ms
  attributes := attrs
def plain (name : String) (sup : Option ClassId) : Class where
  name := name
  kind := .ordinary
  loader := none
  accessFlags := 33
  super := sup
  interfaces := #[]
  cf := none
  fields := #[]
  methods := #[]
  instanceTypes := #[]
  staticTypes := #[]
  resolved := #[]
  callSites := []
  init := .initialized
  statics := none
  mirror := none

def pool0 : Array CpInfo := pool [(5, u "<init>"), (0, u "()V"), (1, .class_ 10), (1, u "java/lang/Object")] 113

def k0c0 : Code := { maxStack := 0, maxLocals := 1, code := object_method_1_code, exceptionTable := #[], attributes := #[] }
def k0m0 : Method := { name := "<init>", desc := "()V", sig := { parameters := [], returnType := none }, accessFlags := 1, code := some k0c0 }
/-- java/lang/Object -/
def k0 : Class := { plain "java/lang/Object" none with
  accessFlags := 33
  interfaces := #[]
  cf := some (fileOf pool0 8 #[] #[{ accessFlags := 1, nameIndex := 5, descriptorIndex := 6, attributes := #[] }] 33 0 #[] #[])
  fields := #[]
  methods := #[k0m0]
  instanceTypes := #[]
  staticTypes := #[]
  resolved := Array.replicate 124 none
  statics := none }

def pool1 : Array CpInfo := pool [(2, .class_ 4), (1, u "java/lang/Object"), (0, u "<init>"), (0, u "()V"), (0, .class_ 8), (0, u "com/example/hold_office/holdoffice/protocol/CreateMode"), (0, .methodref 7 10), (0, .nameAndType 5 11), (0, u "(ZZ)V"), (0, .methodref 7 13), (0, .nameAndType 14 15), (0, u "flags"), (0, u "()I"), (0, .class_ 17), (0, u "com/example/hold_office/holdoffice/protocol/CreateModeFlagsPinLaw"), (2, u "law"), (0, u "(I)Z")] 3

def k1m0 : Method := { name := "<init>", desc := "()V", sig := { parameters := [], returnType := none }, accessFlags := 2, code := none }
def k1c1 : Code := { maxStack := 4, maxLocals := 5, code := code, exceptionTable := #[], attributes := #[] }
def k1m1 : Method := { name := "law", desc := "(I)Z", sig := { parameters := [.int], returnType := some .boolean }, accessFlags := 9, code := some k1c1 }
/-- com/example/hold_office/holdoffice/protocol/CreateModeFlagsPinLaw -/
def k1 : Class := { plain "com/example/hold_office/holdoffice/protocol/CreateModeFlagsPinLaw" (some 0) with
  accessFlags := 49
  interfaces := #[]
  cf := some (fileOf pool1 16 #[] #[{ accessFlags := 2, nameIndex := 5, descriptorIndex := 6, attributes := #[] }, { accessFlags := 9, nameIndex := 20, descriptorIndex := 21, attributes := #[] }] 49 2 #[] #[])
  fields := #[]
  methods := #[k1m0, k1m1]
  instanceTypes := #[]
  staticTypes := #[]
  resolved := Array.replicate 25 none
  statics := none }

def pool2 : Array CpInfo := pool [(1, .methodref 2 3), (0, .class_ 4), (0, .nameAndType 5 6), (0, u "java/lang/Object"), (0, u "<init>"), (0, u "()V"), (0, .class_ 8), (0, u "java/lang/Record")] 13

def k2c0 : Code := { maxStack := 1, maxLocals := 1, code := jdk_30_method_1_code, exceptionTable := #[], attributes := #[] }
def k2m0 : Method := { name := "<init>", desc := "()V", sig := { parameters := [], returnType := none }, accessFlags := 4, code := some k2c0 }
/-- java/lang/Record -/
def k2 : Class := { plain "java/lang/Record" (some 0) with
  accessFlags := 1057
  interfaces := #[]
  cf := some (fileOf pool2 7 #[] #[{ accessFlags := 4, nameIndex := 5, descriptorIndex := 6, attributes := #[] }] 1057 2 #[] #[])
  fields := #[]
  methods := #[k2m0]
  instanceTypes := #[]
  staticTypes := #[]
  resolved := Array.replicate 22 none
  statics := none }

def pool3 : Array CpInfo := pool [(1, .class_ 2), (0, u "com/example/hold_office/holdoffice/protocol/CreateMode"), (0, .methodref 4 5), (0, .class_ 6), (0, .nameAndType 7 8), (0, u "java/lang/Record"), (0, u "<init>"), (0, u "()V"), (0, .fieldref 1 10), (0, .nameAndType 11 12), (0, u "ephemeral"), (0, u "Z"), (0, .fieldref 1 14), (0, .nameAndType 15 12), (0, u "sequential"), (8, u "(ZZ)V"), (16, u "EPHEMERAL"), (0, u "I"), (2, u "SEQUENTIAL"), (1, u "LAST"), (8, u "flags"), (0, u "()I")] 24

def k3c0 : Code := { maxStack := 2, maxLocals := 3, code := prog_47_method_1_code, exceptionTable := #[], attributes := #[] }
def k3m0 : Method := { name := "<init>", desc := "(ZZ)V", sig := { parameters := [.boolean, .boolean], returnType := none }, accessFlags := 1, code := some k3c0 }
def k3c1 : Code := { maxStack := 2, maxLocals := 1, code := prog_47_method_3_code, exceptionTable := #[], attributes := #[] }
def k3m1 : Method := { name := "flags", desc := "()I", sig := { parameters := [], returnType := some .int }, accessFlags := 1, code := some k3c1 }
/-- com/example/hold_office/holdoffice/protocol/CreateMode -/
def k3 : Class := { plain "com/example/hold_office/holdoffice/protocol/CreateMode" (some 2) with
  accessFlags := 49
  interfaces := #[]
  cf := some (fileOf pool3 1 #[] #[{ accessFlags := 1, nameIndex := 7, descriptorIndex := 24, attributes := #[] }, { accessFlags := 1, nameIndex := 56, descriptorIndex := 57, attributes := #[] }] 49 4 #[] #[{ accessFlags := 18, nameIndex := 11, descriptorIndex := 12, attributes := #[] }, { accessFlags := 18, nameIndex := 15, descriptorIndex := 12, attributes := #[] }, { accessFlags := 26, nameIndex := 41, descriptorIndex := 42, attributes := #[] }, { accessFlags := 26, nameIndex := 45, descriptorIndex := 42, attributes := #[] }, { accessFlags := 26, nameIndex := 47, descriptorIndex := 42, attributes := #[] }])
  fields := #[{ name := "ephemeral", type := .boolean, accessFlags := 18, slot := 0, constantValue := 0 }, { name := "sequential", type := .boolean, accessFlags := 18, slot := 1, constantValue := 0 }, { name := "EPHEMERAL", type := .int, accessFlags := 26, slot := 0, constantValue := 0 }, { name := "SEQUENTIAL", type := .int, accessFlags := 26, slot := 1, constantValue := 0 }, { name := "LAST", type := .int, accessFlags := 26, slot := 2, constantValue := 0 }]
  methods := #[k3m0, k3m1]
  instanceTypes := #[.boolean, .boolean]
  staticTypes := #[.int, .int, .int]
  resolved := Array.replicate 82 none
  statics := none }

def pool4 : Array CpInfo := pool [(1, u "java/lang/Cloneable"), (0, .class_ 1), (0, u "java/lang/Object"), (0, .class_ 3)] 3

/-- java/lang/Cloneable -/
def k4 : Class := { plain "java/lang/Cloneable" (some 0) with
  accessFlags := 1537
  interfaces := #[]
  cf := some (fileOf pool4 2 #[] #[] 1537 4 #[] #[])
  fields := #[]
  methods := #[]
  instanceTypes := #[]
  staticTypes := #[]
  resolved := Array.replicate 8 none
  statics := none }

def pool5 : Array CpInfo := pool [(1, u "java/io/Serializable"), (0, .class_ 1), (0, u "java/lang/Object"), (0, .class_ 3)] 3

/-- java/io/Serializable -/
def k5 : Class := { plain "java/io/Serializable" (some 0) with
  accessFlags := 1537
  interfaces := #[]
  cf := some (fileOf pool5 2 #[] #[] 1537 4 #[] #[])
  fields := #[]
  methods := #[]
  instanceTypes := #[]
  staticTypes := #[]
  resolved := Array.replicate 8 none
  statics := none }

/-- the primitive byte -/
def k6 : Class := { plain "byte" none with kind := .primitive 'B', accessFlags := 0x411 }
/-- [B -/
def k7 : Class := { plain "[B" (some 0) with kind := .array 6 .byte, interfaces := #[4, 5], accessFlags := 1041 }

/-- the primitive int -/
def k8 : Class := { plain "int" none with kind := .primitive 'I', accessFlags := 0x411 }
/-- [I -/
def k9 : Class := { plain "[I" (some 0) with kind := .array 8 .int, interfaces := #[4, 5], accessFlags := 1041 }

def heap : Heap := #[]
def classes : Array Class := #[k0, k1, k2, k3, k4, k5, k6, k7, k8, k9]
def interned : List (Array UInt16 × Addr) := []
def slotsUsed : Nat := 0
def theMethod : MethodId := ⟨1, 1⟩
def args0 : Array Value := #[.int 5]
def aboutOver (below : List Frame) : State where
  vm := { classes := classes, interned := interned.toArray }
  heap := heap
  slotsUsed := slotsUsed
  threads := #[{ frames := .invoking theMethod args0 :: below }]
def below0 : List Frame := [.native { method := ⟨0, 0⟩, args := #[] }]
def about1 : State := aboutOver below0
def p0 : Program := .bare "" "" ""
def e0 : Env := launch0.env 0 0 0
theorem w_frames : about1.frames = Frame.invoking theMethod args0 :: below0 := rfl
set_option maxRecDepth 65536 in
theorem w_args : argsFit about1.vm theMethod args0 = true := by decide +kernel
set_option maxRecDepth 65536 in
theorem w_heap : heapFits about1 = true := by decide +kernel
set_option maxRecDepth 65536 in
theorem w_runnable : about1.curStatus? = some .runnable := by decide +kernel
set_option maxRecDepth 65536 in
theorem w_alone : about1.alone = true := by decide +kernel
set_option maxRecDepth 65536 in
theorem w_named : about1.methodNamed? x = some theMethod := by decide +kernel
set_option maxRecDepth 65536 in
theorem w_hears : about1.hears theMethod below0 = true := by decide +kernel
set_option maxRecDepth 65536 in
theorem w_ripe : about1.ripe theMethod args0 below0 = true := by decide +kernel
theorem w_running : about1.status = .running := rfl
set_option maxRecDepth 65536 in
theorem w_room : about1.hasRoom e0.platform room_1 = true :=
  launch0.hasRoom_least _ room_1 (by decide +kernel) (by decide +kernel) (by decide +kernel) (by decide +kernel) (by decide +kernel) (by decide +kernel)
theorem allAtoms_all (ts : List Jvm.Cond) (a : Array Jvm.Value) (st : Jvm.State) : (allAtoms ts).before a st = ts.all (fun c => c.before a st) := by
  induction ts with
  | nil => rfl
  | cons c t ih =>
    show (Jvm.Cond.and c (allAtoms t)).before a st = _
    rw [Jvm.Cond.before_and, ih, List.all_cons]
def words1 : List Jvm.Cond := Jvm.Cond.code x code maxLocals ret :: tables_1
/-- a 'code' word, met by the world's own term for the bytes: nothing is compared byte by byte -/
theorem code_word {y : MethodName} {bytes : ByteArray} {mx : Nat} {rt : Option FieldType} {a : Array Value} {s : State} {m : MethodId} {meth : Method} {c : Code} (h1 : s.methodNamed? y = some m) (h2 : s.vm.method? m = some meth) (h3 : meth.code = some c) (h4 : c.code = bytes)
    (h5 : (c.maxLocals == mx && c.exceptionTable.isEmpty && decide (c.maxStack ≤ mostOperands) && decide (meth.sig.returnType = rt) && !meth.locks && decide (parseMethodDescriptor y.desc = some meth.sig)) = true) : (Jvm.Cond.code y bytes mx rt).before a s = true := by
  simp only [Bool.and_eq_true, beq_iff_eq, Bool.not_eq_true', decide_eq_true_eq] at h5
  obtain ⟨⟨⟨⟨⟨g1, g2⟩, g3⟩, g4⟩, g5⟩, g6⟩ := h5
  simp [Cond.before, Cond.holds, Cond.value, h1, h2, h3, h4, g1, g2, g3, g4, g5, g6]
def isCode : Jvm.Cond → Bool
  | .code _ _ _ _ => true
  | _ => false
theorem all_split {L : List Jvm.Cond} {P : Jvm.Cond → Bool} (h1 : L.all (fun c => isCode c || P c) = true) (h2 : ∀ c ∈ L.filter isCode, P c = true) : L.all P = true := by
  refine List.all_eq_true.mpr fun c hc => ?_
  have h := List.all_eq_true.mp h1 c hc
  rcases Bool.eq_false_or_eq_true (isCode c) with hi | hi
  · exact h2 c (List.mem_filter.mpr ⟨hc, hi⟩)
  · simpa [hi] using h
set_option maxRecDepth 65536 in
theorem w_c0 : (Jvm.Cond.code x code maxLocals ret).before args0 about1 = true := code_word (m := ⟨1, 1⟩) (meth := k1m1) (c := k1c1) (by decide +kernel) rfl rfl rfl (by decide +kernel)
set_option maxRecDepth 65536 in
theorem w_c1 : (Jvm.Cond.code ({ cls := "com/example/hold_office/holdoffice/protocol/CreateMode", name := "<init>", desc := "(ZZ)V" } : Jvm.MethodName) prog_47_method_1_code (3 : Nat) (Option.none : Option Jvm.ClassFile.FieldType)).before args0 about1 = true := code_word (m := ⟨3, 0⟩) (meth := k3m0) (c := k3c0) (by decide +kernel) rfl rfl rfl (by decide +kernel)
set_option maxRecDepth 65536 in
theorem w_c2 : (Jvm.Cond.code ({ cls := "java/lang/Record", name := "<init>", desc := "()V" } : Jvm.MethodName) jdk_30_method_1_code (1 : Nat) (Option.none : Option Jvm.ClassFile.FieldType)).before args0 about1 = true := code_word (m := ⟨2, 0⟩) (meth := k2m0) (c := k2c0) (by decide +kernel) rfl rfl rfl (by decide +kernel)
set_option maxRecDepth 65536 in
theorem w_c3 : (Jvm.Cond.code ({ cls := "java/lang/Object", name := "<init>", desc := "()V" } : Jvm.MethodName) object_method_1_code (1 : Nat) (Option.none : Option Jvm.ClassFile.FieldType)).before args0 about1 = true := code_word (m := ⟨0, 0⟩) (meth := k0m0) (c := k0c0) (by decide +kernel) rfl rfl rfl (by decide +kernel)
set_option maxRecDepth 65536 in
theorem w_c4 : (Jvm.Cond.code ({ cls := "com/example/hold_office/holdoffice/protocol/CreateMode", name := "flags", desc := "()I" } : Jvm.MethodName) prog_47_method_3_code (1 : Nat) (Option.some Jvm.ClassFile.FieldType.int)).before args0 about1 = true := code_word (m := ⟨3, 1⟩) (meth := k3m1) (c := k3c1) (by decide +kernel) rfl rfl rfl (by decide +kernel)
def codes1 : List Jvm.Cond := [Jvm.Cond.code x code maxLocals ret, Jvm.Cond.code ({ cls := "com/example/hold_office/holdoffice/protocol/CreateMode", name := "<init>", desc := "(ZZ)V" } : Jvm.MethodName) prog_47_method_1_code (3 : Nat) (Option.none : Option Jvm.ClassFile.FieldType), Jvm.Cond.code ({ cls := "java/lang/Record", name := "<init>", desc := "()V" } : Jvm.MethodName) jdk_30_method_1_code (1 : Nat) (Option.none : Option Jvm.ClassFile.FieldType), Jvm.Cond.code ({ cls := "java/lang/Object", name := "<init>", desc := "()V" } : Jvm.MethodName) object_method_1_code (1 : Nat) (Option.none : Option Jvm.ClassFile.FieldType), Jvm.Cond.code ({ cls := "com/example/hold_office/holdoffice/protocol/CreateMode", name := "flags", desc := "()I" } : Jvm.MethodName) prog_47_method_3_code (1 : Nat) (Option.some Jvm.ClassFile.FieldType.int)]
set_option maxRecDepth 65536 in
theorem codes_eq : words1.filter isCode = codes1 := rfl
theorem w_codes : ∀ c ∈ words1.filter isCode, c.before args0 about1 = true := by
  rw [codes_eq]
  intro c hc
  simp only [codes1, List.mem_cons, List.not_mem_nil, or_false] at hc
  rcases hc with rfl | rfl | rfl | rfl | rfl
  · exact w_c0
  · exact w_c1
  · exact w_c2
  · exact w_c3
  · exact w_c4
set_option maxRecDepth 65536 in
theorem w_t1 : words1.all (fun c => isCode c || c.before args0 about1) = true := by decide +kernel
theorem w_tables : (allAtoms (Jvm.Cond.code x code maxLocals ret :: tables_1)).before args0 about1 = true := by
  rw [allAtoms_all]
  show words1.all (fun c => c.before args0 about1) = true
  refine all_split ?_ w_codes
  rw [w_t1]
set_option maxRecDepth 65536 in
theorem w_case : (Jvm.Cond.and given_1 narrow_1).before args0 about1 = true := by decide +kernel
theorem w_applies : (headSpec (Jvm.Cond.code x code maxLocals ret :: tables_1) room_1).applies x e0.platform about1 = true :=
  (Spec.applies_iff w_frames).mpr ⟨w_running, w_runnable, w_alone, w_named, w_hears, w_ripe, w_room, w_tables⟩
theorem atStart : AtStart classFile x code maxLocals ret World_1 tables_1 room_1 Calls_1 rest_1 Pre_1 launch0 p0 e0 about1 theMethod args0 below0 :=
  ⟨lists_1, trivial, launch0.admits_env _ _ _, launch0.least_env, fairChoices_fair.cas, fairChoices_fair.clock, w_frames, w_args, w_heap, w_applies, trivial, trivial, w_case⟩
end start1
theorem witness_1 : WitnessClaimed_1 := ⟨start1.p0, start1.e0, start1.about1, start1.theMethod, start1.args0, start1.below0, start1.atStart⟩
end Jvm.Pilot.@@N@@
