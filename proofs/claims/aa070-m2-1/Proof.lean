import JvmDerived
import JvmDerived.Pilot.@@N@@Statement
import JvmDerived.Pilot.@@N@@Code
set_option linter.unusedVariables false
set_option linter.unusedSimpArgs false
namespace Jvm.Pilot.@@N@@
open Jvm Jvm.ClassFile Sem Op Lib Jvm.Free Jvm.Stand Jvm.LawKit Jvm.RoadKit Bundle Jvm.Pilot.@@N@@.Jvm.D
section OwnKit
/-- from the frame f at T the run comes to an end that K takes -/
def own_Go (p : Program) (e : Env) (below : List Frame) (K : Outcome → State → Prop) (T : State) (f : JFrame) : Prop :=
  ∃ s₂ o, Steps p.tables e below (T.setTop f) s₂ ∧ s₂.status = .running ∧ Ended s₂ below o ∧ K o s₂
def own_K (s : State) (Q : Option Value → Heap → List Loc → Prop) (cc ss : Nat) (o : Outcome) (U : State) : Prop :=
  ∃ v L, o = .returned v ∧ Q v U.heap L ∧ FrameEnd s o U L cc ss
variable {p : Program} {l : Launch} {e : Env} {R : Room} {s : State} {m : MethodId} {args : Array Value} {below : List Frame} {meth : Method} {c : Code} {T T' : State} {locs : List Loc} {cells slots : Nat} {K : Outcome → State → Prop} {Q : Option Value → Heap → List Loc → Prop} {cc ss : Nat} {f f' : JFrame}
theorem own_of (h : ∀ t, Steps p.tables e below (T'.setTop f') t → Steps p.tables e below (T.setTop f) t) (k : own_Go p e below K T' f') : own_Go p e below K T f := by
  obtain ⟨s2, o, h1, r⟩ := k
  exact ⟨s2, o, h _ h1, r⟩
theorem own_at (h : ∀ t, Steps p.tables e below (T.setTop f') t → Steps p.tables e below (T.setTop f) t) (k : own_Go p e below K T f') : own_Go p e below K T f := own_of h k
theorem own_cast (q : f = f') (k : own_Go p e below K T f') : own_Go p e below K T f := q ▸ k
theorem own_end (X : Stand p l e R s m args below meth c T locs cells slots) (hlk : meth.locks = false) {v : Option Value} (hv : meth.sig.returnType = none → v = none) (hq : Q v T.heap locs) (h1 : cells ≤ cc) (h2 : slots ≤ ss)
    (hs : ∀ fs, (∀ (f : JFrame) (acts : List Action), f.method = m → f.locked = none → f.entered = [] → (doReturn e (T.setTop f) acts v).1 = T.setFrames fs) → Steps p.tables e below (T.setTop f) (T.setFrames fs)) : own_Go p e below (own_K s Q cc ss) T f := by
  obtain ⟨fs, hr, hrun, hended, hW, hsame⟩ := X.leave (v := v) hv hlk
  exact ⟨_, _, hs fs hr, hrun, hended, _, _, rfl, hq, ⟨_, rfl⟩, hW, hsame.mono h1 h2⟩
theorem own_retN (X : Stand p l e R s m args below meth c T locs cells slots) (hx : p.tables.exec = Jvm.exec) (hlk : meth.locks = false) {pc : Nat} {Ls : Array Slot} {z w : Int32} {t : FieldType} {rest : List Value} (hret : meth.sig.returnType = some t) (ht : t = .boolean ∨ t = .byte ∨ t = .char ∨ t = .short)
    (hd : decode c.code pc = .ok (.ireturn, 1)) (hw : nar t z = w) (hq : Q (some (.int w)) T.heap locs) (h1 : cells ≤ cc) (h2 : slots ≤ ss) : own_Go p e below (own_K s Q cc ss) T (mkF m pc Ls (.int z :: rest)) := by
  subst hw
  exact own_end X hlk (fun h => by rw [hret] at h; cases h) hq h1 h2 fun fs hr => retN X hx hret ht hd hr
theorem own_retI (X : Stand p l e R s m args below meth c T locs cells slots) (hx : p.tables.exec = Jvm.exec) (hlk : meth.locks = false) {pc : Nat} {Ls : Array Slot} {z w : Int32} {rest : List Value} (hret : meth.sig.returnType = some .int)
    (hd : decode c.code pc = .ok (.ireturn, 1)) (hw : z = w) (hq : Q (some (.int w)) T.heap locs) (h1 : cells ≤ cc) (h2 : slots ≤ ss) : own_Go p e below (own_K s Q cc ss) T (mkF m pc Ls (.int z :: rest)) := by
  subst hw
  refine own_end X hlk (fun h => by rw [hret] at h; cases h) hq h1 h2 fun fs hr => ?_
  have hm' : T.vm.method? m = some meth := X.method'
  have hn : narrow .int (.int z) = .int z := rfl
  show Steps p.tables e below (T.setTop { method := m, pc := pc, locals := Ls, stack := _ :: rest, locked := none }) _
  jvm_step X.here [X.here.top, hx, hd, hm', hret, hn]
  first | (intro acts; rw [hr _ acts rfl rfl rfl]) | rw [hr _ _ rfl rfl rfl]
  exact Steps.refl _
theorem own_retJ (X : Stand p l e R s m args below meth c T locs cells slots) (hx : p.tables.exec = Jvm.exec) (hlk : meth.locks = false) {pc : Nat} {Ls : Array Slot} {z w : Int64} (hret : meth.sig.returnType = some .long)
    (hd : decode c.code pc = .ok (.lreturn, 1)) (hw : z = w) (hq : Q (some (.long w)) T.heap locs) (h1 : cells ≤ cc) (h2 : slots ≤ ss) : own_Go p e below (own_K s Q cc ss) T (mkF m pc Ls [.long z]) := by
  subst hw
  exact own_end X hlk (fun h => by rw [hret] at h; cases h) hq h1 h2 fun fs hr => X.lreturnOut hx hret hd hr
theorem own_retA (X : Stand p l e R s m args below meth c T locs cells slots) (hx : p.tables.exec = Jvm.exec) (hlk : meth.locks = false) {pc : Nat} {Ls : Array Slot} {z : Value} {ty : FieldType} {rest : List Value} (hz : z.isRef = true) (hret : meth.sig.returnType = some ty) (hty : ty.isReference = true)
    (hd : decode c.code pc = .ok (.areturn, 1)) (hq : Q (some z) T.heap locs) (h1 : cells ≤ cc) (h2 : slots ≤ ss) : own_Go p e below (own_K s Q cc ss) T (mkF m pc Ls (z :: rest)) := by
  refine own_end X hlk (fun h => by rw [hret] at h; cases h) hq h1 h2 fun fs hr => ?_
  have hm' : T.vm.method? m = some meth := X.method'
  show Steps p.tables e below (T.setTop { method := m, pc := pc, locals := Ls, stack := _ :: rest, locked := none }) _
  jvm_step X.here [X.here.top, hx, hd, hm', hret, hz, hty]
  first | (intro acts; rw [hr _ acts rfl rfl rfl]) | rw [hr _ _ rfl rfl rfl]
  exact Steps.refl _
theorem own_retV (X : Stand p l e R s m args below meth c T locs cells slots) (hx : p.tables.exec = Jvm.exec) (hlk : meth.locks = false) {pc : Nat} {Ls : Array Slot} (hret : meth.sig.returnType = none)
    (hd : decode c.code pc = .ok (.return_, 1)) (hq : Q none T.heap locs) (h1 : cells ≤ cc) (h2 : slots ≤ ss) : own_Go p e below (own_K s Q cc ss) T (mkF m pc Ls []) :=
  own_end X hlk (fun _ => rfl) hq h1 h2 fun fs hr => X.returnOut hx hret hd hr
theorem own_ne {i k : Int32} {z : Int} (hz : k.toInt = z) (h : ¬ i = k) : ¬ (z = i.toInt) := fun q => h (Int32.toInt_inj.mp (q.symm.trans hz.symm))
theorem own_lsw {tb : Tables} [Ours tb] {target : State} {g : JFrame} (h : At T m c below) (hx : tb.exec = Jvm.exec) (hg : g.method = m) {dflt o : Int} {prs : Array (Int × Int)} {len pc0 pc' : Nat} (hpc : g.pc = pc0) (hd : decode c.code g.pc = .ok (.lookupswitch dflt prs, len)) {i : Int32} {rest : List Value} (hs : g.stack = .int i :: rest)
    (hso : (prs.toList.zip (prs.toList.drop 1)).all (fun (a, next) => a.1 < next.1) = true) (hof : lookupswitch.offset prs.toList dflt i.toInt = o) (ho : 0 ≤ (pc0 : Int) + o) (hp : ((pc0 : Int) + o).toNat = pc')
    (hr : Steps tb e below (T.setTop { g with pc := pc', stack := rest }) target) : Steps tb e below (T.setTop g) target := by
  subst hg hpc hp hof
  jvm_step h [h.top, hx, hd, hs, ho, lookupswitch.wp_chain]
  exact ⟨by simpa using hso, hr⟩
theorem own_nar01 {z : Int32} (h : z = 0 ∨ z = 1) : nar .boolean z = z := by rcases h with rfl | rfl <;> decide
theorem own_narB (x : Int32) : nar .byte x.toInt8.toInt32 = x.toInt8.toInt32 := Value.int.inj (Jvm.Free.XT.narrow_b x)
theorem own_narC (x : Int32) : nar .char x.toUInt32.toUInt16.toUInt32.toInt32 = x.toUInt32.toUInt16.toUInt32.toInt32 := Value.int.inj (Jvm.Free.XT.narrow_c x)
end OwnKit
/-- a body that writes nothing and returns w -/
def own_P (w : Value) (h0 : Heap) (n0 : Nat) (v : Option Value) (h : Heap) (L : List Loc) : Prop := v = some w ∧ Fr n0 L ∧ h = h0
section OwnArr
/-- an array by its class's name, its components' kind, and what it holds -/
def own_A (Z : State) (h : Heap) (a : Addr) (d : String) (ty : FieldType) (vs : List Value) : Prop :=
  ∃ c : Cell, Arr Z h a c ty ∧ Z.vm.findClass d = some c.cls ∧ c.slots = vs.toArray ∧ ∀ v ∈ vs, fits ty v = true
variable {p : Program} {l : Launch} {e : Env} {R : Room} {s : State} {m : MethodId} {args : Array Value} {below : List Frame} {meth : Method} {c : Code} {T : State} {locs : List Loc} {cells slots : Nat} {Z : State} {a0 : Array Value} {h h' : Heap} {a b : Addr} {d : String} {ty : FieldType} {vs : List Value} {sl : Nat} {v w : Value} {ws : List Addr}
theorem own_A.lt (F : own_A Z h a d ty vs) : a < h.size := by obtain ⟨c, A, -⟩ := F; exact A.lt
theorem own_A.ext (F : own_A Z h a d ty vs) (E : Ext h h') : own_A Z h' a d ty vs := by obtain ⟨c, A, r⟩ := F; exact ⟨c, A.ext E, r⟩
theorem own_A.other (F : own_A Z h b d ty vs) (W : Wr h h' a sl v) (q : b ≠ a) : own_A Z h' b d ty vs := by obtain ⟨c, A, r⟩ := F; exact ⟨c, A.other W q, r⟩
theorem own_A.keep (F : own_A Z h a d ty vs) (K : Keep h h' ws) (q : a ∉ ws) : own_A Z h' a d ty vs := by obtain ⟨c, A, r⟩ := F; exact ⟨c, ⟨K.2.1 a c A.1 q, A.2⟩, r⟩
theorem own_A.set (F : own_A Z h a d ty vs) {i : Nat} (W : Wr h h' a i v) (hv : fits ty v = true) : own_A Z h' a d ty (vs.set i v) := by
  obtain ⟨c, A, q, S, G⟩ := F
  refine ⟨_, A.same W, q, ?_, fun x hx => ?_⟩
  · simp [Cell.setSlot, S]
  · rcases List.mem_or_eq_of_mem_set hx with h1 | h1
    · exact G x h1
    · exact h1 ▸ hv
theorem own_A.exa (F : own_A Z h a d ty vs) : Exa Z h a d := by
  obtain ⟨c, A, q, -⟩ := F
  obtain ⟨-, k, hk, comp, hkind⟩ := A.2.1
  exact ⟨c, k, A.1, q, hk, A.plain, fun z => by rw [hkind] at z; cases z⟩
theorem own_A.fit (F : own_A Z h a d ty vs) : ∃ c : Cell, Arr Z h a c ty ∧ Z.vm.findClass d = some c.cls ∧ c.slots = vs.toArray ∧ (∀ v ∈ vs, fits ty v = true) ∧ FitC Z c := by
  obtain ⟨c, A, q, S, G⟩ := F
  refine ⟨c, A, q, S, G, fun i v hv => ?_⟩
  obtain ⟨-, k, hk, comp, hkind⟩ := A.2.1
  rw [S] at hv
  have hm : v ∈ vs := List.mem_of_getElem? (by simpa using hv)
  simp [State.fitsSlot, State.slotType?, hk, hkind, G v hm]
theorem own_inb {c : Cell} {j : Int32} {i : Nat} (S : c.slots = vs.toArray) (h0 : ¬ j < 0) (hj : j.toNatClampNeg = i) (hi : i < vs.length) : ¬ (j < 0 ∨ c.slots.size ≤ j.toNatClampNeg) := by
  rw [S, hj]; simp only [List.size_toArray]; exact fun q => q.elim h0 (fun q => absurd hi (Nat.not_lt.mpr q))
theorem own_newA (X : Stand p l e R s m args below meth c T locs cells slots) (hx : p.tables.exec = Jvm.exec) (hZ : Z.Warmed39 s.vm) {aty : ArrayType} (w : (Cond.arrayClass (newarray.typeOf aty)).before a0 Z = true) (eT : T.heap = h) {g : JFrame} (hg : g.method = m) (hd : decode c.code g.pc = .ok (.newarray aty, 2)) {n : Int32} {rest : List Value} (hs : g.stack = .int n :: rest)
    (hn : ¬ n < 0) {N cap : Nat} (hN : n.toNatClampNeg = N) (hcap : N ≤ cap) (hb : cap * 8 ≤ 536870912) (hc : cells + 1 ≤ R.cells) (hl : slots + cap ≤ R.slots) {d : String} (hdd : "[" ++ (newarray.typeOf aty).toString = d) {vs : List Value} (hvs : vs = List.replicate N (defaultValue (newarray.typeOf aty))) :
    ∃ T' h', Stand p l e R s m args below meth c T' locs (cells + 1) (slots + cap) ∧ T'.heap = h' ∧ Ext h h' ∧ own_A Z h' h.size d (newarray.typeOf aty) vs ∧
      ∀ target, Steps p.tables e below (T'.setTop { g with pc := g.pc + 2, stack := .ref h.size :: rest }) target → Steps p.tables e below (T.setTop g) target := by
  subst hN hdd hvs
  have hcb : componentBytes (newarray.typeOf aty) ≤ 8 := by cases aty <;> decide
  obtain ⟨cA, kA, comp, h1, h2, h3, X', st⟩ := X.newarrayPrim hx (mvA hZ w) hg hd hs hn (Nat.le_trans (Nat.mul_le_mul hcap hcb) hb) hc (by omega)
  subst eT
  rw [hZ.alike.findClass] at h1
  obtain ⟨kZ, z1, -⟩ := Vm.findClass_spec h1
  obtain ⟨k', z2, z3⟩ := hZ.alike.2.2 _ _ z1
  cases h2.symm.trans z2
  refine ⟨_, _, X'.more (Nat.le_refl _) (by omega), rfl, ⟨by show T.heap.size ≤ (T.heap.push _).size; simp, fun a c h => ?_⟩, ⟨{ cls := cA, slots := Array.replicate n.toNatClampNeg (defaultValue (newarray.typeOf aty)), vm := .none }, ⟨by show (T.heap.push _)[T.heap.size]? = _; simp, ⟨by simp, kZ, z1, comp, by rw [← h3, z3]⟩, by simp⟩, h1, by simp, fun v hv => ?_⟩, st⟩
  · have hlt := (Array.getElem?_eq_some_iff.mp h).1
    show (T.heap.push _)[a]? = _
    rw [Array.getElem?_push, if_neg (Nat.ne_of_lt hlt)]
    exact h
  · rw [List.eq_of_mem_replicate hv]; cases aty <;> rfl
theorem own_ldI (X : Stand p l e R s m args below meth c T locs cells slots) (hx : p.tables.exec = Jvm.exec) (hZ : Z.Warmed39 s.vm) (eT : T.heap = h) (V : own_A Z h a d .int vs) {j : Int32} {i : Nat} (h0 : ¬ j < 0) (hj : j.toNatClampNeg = i) (hv : vs[i]? = some v) {g : JFrame} (hg : g.method = m) {rest : List Value} (hs : g.stack = .int j :: .ref a :: rest) (hd : decode c.code g.pc = .ok (.iaload, 1)) :
    ∀ target, Steps p.tables e below (T.setTop { g with pc := g.pc + 1, stack := v :: rest }) target → Steps p.tables e below (T.setTop g) target := by
  obtain ⟨cl, A, q, S, G⟩ := V
  have hi : i < vs.length := (List.getElem?_eq_some_iff.mp hv).1
  exact X.iaload hx (by rw [eT]; exact A.1) (State.isArrayOf_alike hZ.alike A.2.1) A.2.2 (own_inb S h0 hj hi) (by rw [S, hj]; simpa using hv) hg hs hd
theorem own_ldJ (X : Stand p l e R s m args below meth c T locs cells slots) (hx : p.tables.exec = Jvm.exec) (hZ : Z.Warmed39 s.vm) (eT : T.heap = h) (V : own_A Z h a d .long vs) {j : Int32} {i : Nat} (h0 : ¬ j < 0) (hj : j.toNatClampNeg = i) (hv : vs[i]? = some v) {g : JFrame} (hg : g.method = m) {rest : List Value} (hs : g.stack = .int j :: .ref a :: rest) (hd : decode c.code g.pc = .ok (.laload, 1)) :
    ∀ target, Steps p.tables e below (T.setTop { g with pc := g.pc + 1, stack := v :: rest }) target → Steps p.tables e below (T.setTop g) target := by
  obtain ⟨cl, A, q, S, G⟩ := V
  have hi : i < vs.length := (List.getElem?_eq_some_iff.mp hv).1
  exact X.laload hx (by rw [eT]; exact A.1) (State.isArrayOf_alike hZ.alike A.2.1) A.2.2 (own_inb S h0 hj hi) (by rw [S, hj]; simpa using hv) hg hs hd
theorem own_ldC (X : Stand p l e R s m args below meth c T locs cells slots) (hx : p.tables.exec = Jvm.exec) (hZ : Z.Warmed39 s.vm) (eT : T.heap = h) (V : own_A Z h a d .char vs) {j : Int32} {i : Nat} (h0 : ¬ j < 0) (hj : j.toNatClampNeg = i) (hv : vs[i]? = some v) {g : JFrame} (hg : g.method = m) {rest : List Value} (hs : g.stack = .int j :: .ref a :: rest) (hd : decode c.code g.pc = .ok (.caload, 1)) :
    ∀ target, Steps p.tables e below (T.setTop { g with pc := g.pc + 1, stack := v :: rest }) target → Steps p.tables e below (T.setTop g) target := by
  obtain ⟨cl, A, q, S, G⟩ := V
  have hi : i < vs.length := (List.getElem?_eq_some_iff.mp hv).1
  exact X.caload hx (by rw [eT]; exact A.1) (State.isArrayOf_alike hZ.alike A.2.1) A.2.2 (own_inb S h0 hj hi) (by rw [S, hj]; simpa using hv) hg hs hd
theorem own_ldB (X : Stand p l e R s m args below meth c T locs cells slots) (hx : p.tables.exec = Jvm.exec) (hZ : Z.Warmed39 s.vm) (eT : T.heap = h) (V : own_A Z h a d .byte vs) {j : Int32} {i : Nat} (h0 : ¬ j < 0) (hj : j.toNatClampNeg = i) (hv : vs[i]? = some v) {g : JFrame} (hg : g.method = m) {rest : List Value} (hs : g.stack = .int j :: .ref a :: rest) (hd : decode c.code g.pc = .ok (.baload, 1)) :
    ∀ target, Steps p.tables e below (T.setTop { g with pc := g.pc + 1, stack := v :: rest }) target → Steps p.tables e below (T.setTop g) target := by
  obtain ⟨cl, A, q, S, G⟩ := V
  have hi : i < vs.length := (List.getElem?_eq_some_iff.mp hv).1
  exact X.baloadBytes hx (by rw [eT]; exact A.1) (State.isArrayOf_alike hZ.alike A.2.1) A.2.2 (own_inb S h0 hj hi) (by rw [S, hj]; simpa using hv) hg hs hd
theorem own_len (X : Stand p l e R s m args below meth c T locs cells slots) (hx : p.tables.exec = Jvm.exec) (hZ : Z.Warmed39 s.vm) (eT : T.heap = h) (V : own_A Z h a d ty vs) {N : Int32} (hN : vs.length.toInt32 = N) {g : JFrame} (hg : g.method = m) {rest : List Value} (hs : g.stack = .ref a :: rest) (hd : decode c.code g.pc = .ok (.arraylength, 1)) :
    ∀ target, Steps p.tables e below (T.setTop { g with pc := g.pc + 1, stack := .int N :: rest }) target → Steps p.tables e below (T.setTop g) target := by
  obtain ⟨cl, A, q, S, G⟩ := V
  have e1 : cl.slots.size.toInt32 = N := by rw [S]; simpa using hN
  have st := X.arraylength hx (by rw [eT]; exact A.1) (State.isArrayOf_alike hZ.alike A.2.1) hg hs hd
  rw [e1] at st
  exact st
theorem own_stI (X : Stand p l e R s m args below meth c T locs cells slots) (hx : p.tables.exec = Jvm.exec) (hZ : Z.Warmed39 s.vm) (eT : T.heap = h) (V : own_A Z h a d .int vs) {j x : Int32} {i : Nat} (h0 : ¬ j < 0) (hj : j.toNatClampNeg = i) (hi : i < vs.length) {g : JFrame} (hg : g.method = m) {rest : List Value} (hs : g.stack = .int x :: .int j :: .ref a :: rest) (hd : decode c.code g.pc = .ok (.iastore, 1)) :
    ∃ T' h', Stand p l e R s m args below meth c T' (locs ++ [⟨a, i⟩]) cells slots ∧ T'.heap = h' ∧ Wr h h' a i (.int x) ∧ own_A Z h' a d .int (vs.set i (.int x)) ∧ ∀ target, Steps p.tables e below (T'.setTop { g with pc := g.pc + 1, stack := rest }) target → Steps p.tables e below (T.setTop g) target := by
  obtain ⟨cl, A, q, S, G⟩ := id V
  subst hj
  obtain ⟨T', h', X', e', W, st⟩ := stI X hx hZ eT A (own_inb S h0 rfl hi) hg hs hd
  exact ⟨T', h', X', e', W, V.set W rfl, st⟩
theorem own_stJ (X : Stand p l e R s m args below meth c T locs cells slots) (hx : p.tables.exec = Jvm.exec) (hZ : Z.Warmed39 s.vm) (eT : T.heap = h) (V : own_A Z h a d .long vs) {j : Int32} {x : Int64} {i : Nat} (h0 : ¬ j < 0) (hj : j.toNatClampNeg = i) (hi : i < vs.length) {g : JFrame} (hg : g.method = m) {rest : List Value} (hs : g.stack = .long x :: .int j :: .ref a :: rest) (hd : decode c.code g.pc = .ok (.lastore, 1)) :
    ∃ T' h', Stand p l e R s m args below meth c T' (locs ++ [⟨a, i⟩]) cells slots ∧ T'.heap = h' ∧ Wr h h' a i (.long x) ∧ own_A Z h' a d .long (vs.set i (.long x)) ∧ ∀ target, Steps p.tables e below (T'.setTop { g with pc := g.pc + 1, stack := rest }) target → Steps p.tables e below (T.setTop g) target := by
  obtain ⟨cl, A, q, S, G⟩ := id V
  subst hj
  obtain ⟨T', h', X', e', W, st⟩ := stJ X hx hZ eT A (own_inb S h0 rfl hi) hg hs hd
  exact ⟨T', h', X', e', W, V.set W rfl, st⟩
theorem own_stB (X : Stand p l e R s m args below meth c T locs cells slots) (hx : p.tables.exec = Jvm.exec) (hZ : Z.Warmed39 s.vm) (eT : T.heap = h) (V : own_A Z h a d .byte vs) {j x y : Int32} {i : Nat} (hy : nar .byte x = y) (h0 : ¬ j < 0) (hj : j.toNatClampNeg = i) (hi : i < vs.length) {g : JFrame} (hg : g.method = m) {rest : List Value} (hs : g.stack = .int x :: .int j :: .ref a :: rest) (hd : decode c.code g.pc = .ok (.bastore, 1)) :
    ∃ T' h', Stand p l e R s m args below meth c T' (locs ++ [⟨a, i⟩]) cells slots ∧ T'.heap = h' ∧ Wr h h' a i (.int y) ∧ own_A Z h' a d .byte (vs.set i (.int y)) ∧ ∀ target, Steps p.tables e below (T'.setTop { g with pc := g.pc + 1, stack := rest }) target → Steps p.tables e below (T.setTop g) target := by
  obtain ⟨cl, A, q, S, G⟩ := id V
  subst hj hy
  obtain ⟨T', h', X', e', W, st⟩ := stB X hx hZ eT A (own_inb S h0 rfl hi) hg hs hd
  exact ⟨T', h', X', e', W, V.set W (fits_nar_byte x), st⟩
theorem own_stC (X : Stand p l e R s m args below meth c T locs cells slots) (hx : p.tables.exec = Jvm.exec) (hZ : Z.Warmed39 s.vm) (eT : T.heap = h) (V : own_A Z h a d .char vs) {j x y : Int32} {i : Nat} (hy : nar .char x = y) (h0 : ¬ j < 0) (hj : j.toNatClampNeg = i) (hi : i < vs.length) {g : JFrame} (hg : g.method = m) {rest : List Value} (hs : g.stack = .int x :: .int j :: .ref a :: rest) (hd : decode c.code g.pc = .ok (.castore, 1)) :
    ∃ T' h', Stand p l e R s m args below meth c T' (locs ++ [⟨a, i⟩]) cells slots ∧ T'.heap = h' ∧ Wr h h' a i (.int y) ∧ own_A Z h' a d .char (vs.set i (.int y)) ∧ ∀ target, Steps p.tables e below (T'.setTop { g with pc := g.pc + 1, stack := rest }) target → Steps p.tables e below (T.setTop g) target := by
  obtain ⟨cl, A, q, S, G⟩ := id V
  subst hj hy
  obtain ⟨T', h', X', e', W, st⟩ := stC X hx hZ eT A (own_inb S h0 rfl hi) hg hs hd
  exact ⟨T', h', X', e', W, V.set W (fits_nar_char x), st⟩
theorem own_clone (X : Stand p l e R s m args below meth c T locs cells slots) (hx : p.tables.exec = Jvm.exec) (hZ : Z.Warmed39 s.vm) {own : String} {index : Nat} (hown : s.vm.findClass own = some m.cls)
    (w1 : (Cond.methodLink own index ⟨d, "clone", "()Ljava/lang/Object;"⟩).before a0 Z = true) (w2 : (Cond.sameMethod d "java/lang/Object" "clone" "()Ljava/lang/Object;").before a0 Z = true) (w3 : (Cond.native ⟨"java/lang/Object", "clone", "()Ljava/lang/Object;"⟩).before a0 Z = true)
    (w4 : (Cond.instanceMethod ⟨"java/lang/Object", "clone", "()Ljava/lang/Object;"⟩).before a0 Z = true) (w5 : (Cond.selects d ⟨d, "clone", "()Ljava/lang/Object;"⟩ ⟨"java/lang/Object", "clone", "()Ljava/lang/Object;"⟩).before a0 Z = true) (w6 : (Cond.castable d "java/lang/Cloneable").before a0 Z = true)
    (eT : T.heap = h) (V : own_A Z h a d ty vs) {g : JFrame} (hg : g.method = m) (hsize : g.locals.size = c.maxLocals) {rest : List Value} (hs : g.stack = .ref a :: rest) (hd : decode c.code g.pc = .ok (.invokevirtual index, 3))
    (hf : 1 ≤ R.frames) {W cap : Nat} (hW : 2 * g.monitorRoom + (rest.map fun v => v.category).sum ≤ W) (hl : W + 14 ≤ R.locals) (hcap : vs.length ≤ cap) (hc : cells + 1 ≤ R.cells) (hsl : slots + cap ≤ R.slots) :
    ∃ T' h', Stand p l e R s m args below meth c T' locs (cells + 1) (slots + cap) ∧ T'.heap = h' ∧ Ext h h' ∧ own_A Z h' h.size d ty vs ∧
      ∀ target, Steps p.tables e below (T'.setTop { g with pc := g.pc + 3, stack := .ref h.size :: rest }) target → Steps p.tables e below (T.setTop g) target := by
  have Ex := V.exa
  obtain ⟨cl, A, q, S, G, F⟩ := V.fit
  obtain ⟨T', h', X', e', E, A', -, st⟩ := cloneA X hx hZ hown w1 w2 w3 w4 w5 w6 eT A Ex F hg hsize hs hd hf hW hl (cap := cap) (by rw [S]; simpa using hcap) hc hsl
  exact ⟨T', h', X', e', E, ⟨_, A', q, S, G⟩, st⟩
theorem own_nA (hv : v.isRef = true) : narrow (.array ty) v = v ∧ fits (.array ty) v = true := by cases v <;> simp_all [Value.isRef, narrow, fits]
end OwnArr

def own_PV (h0 : Heap) (n0 : Nat) (v : Option Value) (h : Heap) (L : List Loc) : Prop := v = none ∧ Fr n0 L ∧ h = h0
theorem pn_java_lang_Record : plainName "java/lang/Record" = true := by first | (simp [plainName, overriddenIn]; done) | decide +kernel
theorem ef_jdk_30_1 (m : MethodId) (x0 : Addr) : entryFrame m #[(.ref x0)] 1 = mkF m 0 #[.val (.ref x0)] [] := by first | (simp [entryFrame, mkF, argsToLocals, Value.category]; done) | rfl
theorem d_jdk_30_1_0 : decode jdk_30_method_1_code 0 = .ok (.aload_n 0, 1) := by decide +kernel
theorem d_jdk_30_1_1 : decode jdk_30_method_1_code 1 = .ok (.invokespecial 1, 3) := by decide +kernel
theorem d_jdk_30_1_4 : decode jdk_30_method_1_code 4 = .ok (.return_, 1) := by decide +kernel
set_option maxRecDepth 65536 in
set_option maxHeartbeats 40000000 in
theorem rm_rec (l : Launch) (Z : State) (a0 : Array Value) (hw : ∀ d ∈ tables_1, d.before a0 Z = true) (ws : List Jvm.Cond) (q1 : Addr)  (h0 : Heap) (n0 : Nat) (Z0 : n0 ≤ h0.size)  :
    MetFree l (⟨"java/lang/Record", "<init>", "()V"⟩ : MethodName) (head1 (Jvm.Cond.code (⟨"java/lang/Record", "<init>", "()V"⟩ : MethodName) jdk_30_method_1_code 1 none :: ws) ({ frames := 1, cells := 0, slots := 0, locals := 12 } : Room)) (fun a U => a = #[(.ref q1)] ∧ Z.Warmed39 U.vm ∧ U.heap = h0) (fun _ _ _ _ _ => True) (fun _ U o U' => ∃ v L, o = .returned v ∧ own_PV h0 n0 v U'.heap L ∧ FrameEnd U o U' L ({ frames := 1, cells := 0, slots := 0, locals := 12 } : Room).cells ({ frames := 1, cells := 0, slots := 0, locals := 12 } : Room).slots) := by
  refine MetFree.of_bodySF (plainFor_of_name pn_java_lang_Record) hisR ?_
  intro p e s m args below meth c s₁ Bd hml0 hP hK
  obtain ⟨rfl, hZ, hh⟩ := hP
  have hx := Bd.exec
  have hby := Bd.bytes
  have hlk : meth.locks = false := BodyLoose.notSynchronized Bd
  have hml : c.maxLocals = 1 := hml0
  have hown : s.vm.findClass "java/lang/Record" = some m.cls := findClass_of_methodNamed Bd.named
  have hnm := (name_of_methodNamed Bd.named Bd.method).1
  have X0 : Stand p l e ({ frames := 1, cells := 0, slots := 0, locals := 12 } : Room) s m #[(.ref q1)] below meth c s₁ [] 0 0 := Stand.of_body Bd
  have e0 : s₁.heap = h0 := by rw [← hh, Bd.state]; rfl
  have N0 := Fr.nil n0
  refine own_cast (K := own_K s (own_PV h0 n0) 0 0) (ef_jdk_30_1 m q1) ?_
  generalize hKK : own_K s (own_PV h0 n0) 0 0 = KK
  show own_Go p e below KK s₁ (mkF m 0 #[.val (.ref q1)] [])
  refine own_at (fun t k => XS.aloadN X0.here hx rfl (hb hby d_jdk_30_1_0) rfl rfl k) ?_
  show own_Go p e below KK s₁ (mkF m 1 #[.val (.ref q1)] [(.ref q1)])
  obtain ⟨T1, X1, e1, st1⟩ := initO X0 hx hZ hown (hw _ (List.mem_of_getElem? (i := 15) rfl)) (hw _ (List.mem_of_getElem? (i := 16) rfl)) (hw _ (List.mem_of_getElem? (i := 17) rfl)) e0 (g := (mkF m 1 #[.val (.ref q1)] [(.ref q1)])) rfl (by rw [hml]; rfl) rfl (hb hby d_jdk_30_1_1) (by decide) (W := 0) (by show 2 * 0 + _ ≤ _; exact Nat.le_of_eq rfl) (by decide)
  refine own_of (fun t k => st1 t k) ?_
  show own_Go p e below KK T1 (mkF m 4 #[.val (.ref q1)] [])
  subst hKK
  exact own_retV X1 hx hlk Bd.returns (hb hby d_jdk_30_1_4) ⟨rfl, N0, e1⟩ (Nat.le_of_ble_eq_true rfl) (Nat.le_of_ble_eq_true rfl)
def own_Qc (Z : State) (q1 : Addr) (q2 : Int32) (q3 : Int64) (q4 : Addr) (h0 : Heap) (n0 : Nat) (v : Option Value) (h : Heap) (L : List Loc) : Prop := v = none ∧ Fr n0 L ∧ Keep h0 h [q1] ∧ Exa Z h q1 "com/example/hold_office/holdoffice/protocol/ConnectResponse" ∧ Fld Z h q1 "com/example/hold_office/holdoffice/protocol/ConnectResponse" "timeoutMs" "I" (.int q2) ∧ Fld Z h q1 "com/example/hold_office/holdoffice/protocol/ConnectResponse" "sessionId" "J" (.long q3) ∧ Fld Z h q1 "com/example/hold_office/holdoffice/protocol/ConnectResponse" "password" "[B" (.ref q4)
theorem pn_com_example_hold_office_holdoffice_protocol_ConnectResponse : plainName "com/example/hold_office/holdoffice/protocol/ConnectResponse" = true := by first | (simp [plainName, overriddenIn]; done) | decide +kernel
theorem ef_prog_46_1 (m : MethodId) (x0 : Addr) (x1 : Int32) (x2 : Int64) (x3 : Addr) : entryFrame m #[(.ref x0), (.int x1), (.long x2), (.ref x3)] 5 = mkF m 0 #[.val (.ref x0), .val (.int x1), .val (.long x2), .second, .val (.ref x3)] [] := by first | (simp [entryFrame, mkF, argsToLocals, Value.category]; done) | rfl
theorem d_prog_46_1_0 : decode prog_46_method_1_code 0 = .ok (.aload_n 0, 1) := by decide +kernel
theorem d_prog_46_1_1 : decode prog_46_method_1_code 1 = .ok (.invokespecial 1, 3) := by decide +kernel
theorem pd___V : parseMethodDescriptor "()V" = some ⟨[], none⟩ := by decide +kernel
theorem d_prog_46_1_4 : decode prog_46_method_1_code 4 = .ok (.aload_n 0, 1) := by decide +kernel
theorem d_prog_46_1_5 : decode prog_46_method_1_code 5 = .ok (.iload_n 1, 1) := by decide +kernel
theorem d_prog_46_1_6 : decode prog_46_method_1_code 6 = .ok (.putfield 7, 3) := by decide +kernel
theorem d_prog_46_1_9 : decode prog_46_method_1_code 9 = .ok (.aload_n 0, 1) := by decide +kernel
theorem d_prog_46_1_10 : decode prog_46_method_1_code 10 = .ok (.lload_n 2, 1) := by decide +kernel
theorem d_prog_46_1_11 : decode prog_46_method_1_code 11 = .ok (.putfield 13, 3) := by decide +kernel
theorem d_prog_46_1_14 : decode prog_46_method_1_code 14 = .ok (.aload_n 0, 1) := by decide +kernel
theorem d_prog_46_1_15 : decode prog_46_method_1_code 15 = .ok (.aload 4, 2) := by decide +kernel
theorem d_prog_46_1_17 : decode prog_46_method_1_code 17 = .ok (.putfield 17, 3) := by decide +kernel
theorem d_prog_46_1_20 : decode prog_46_method_1_code 20 = .ok (.return_, 1) := by decide +kernel
set_option maxRecDepth 65536 in
set_option maxHeartbeats 40000000 in
theorem rm_ctor (l : Launch) (Z : State) (a0 : Array Value) (hw : ∀ d ∈ tables_1, d.before a0 Z = true) (ws : List Jvm.Cond) (q1 : Addr) (q2 : Int32) (q3 : Int64) (q4 : Addr)  (h0 : Heap) (n0 : Nat) (Z0 : n0 ≤ h0.size) (F1 : Fld Z h0 q1 "com/example/hold_office/holdoffice/protocol/ConnectResponse" "timeoutMs" "I" (.int 0)) (F2 : Fld Z h0 q1 "com/example/hold_office/holdoffice/protocol/ConnectResponse" "sessionId" "J" (.long 0)) (F3 : Fld Z h0 q1 "com/example/hold_office/holdoffice/protocol/ConnectResponse" "password" "[B" .null) (Eq : Exa Z h0 q1 "com/example/hold_office/holdoffice/protocol/ConnectResponse") (gq : n0 ≤ q1) :
    MetFree l (⟨"com/example/hold_office/holdoffice/protocol/ConnectResponse", "<init>", "(IJ[B)V"⟩ : MethodName) (head1 (Jvm.Cond.code (⟨"com/example/hold_office/holdoffice/protocol/ConnectResponse", "<init>", "(IJ[B)V"⟩ : MethodName) prog_46_method_1_code 5 none :: ws) ({ frames := 2, cells := 0, slots := 0, locals := 24 } : Room)) (fun a U => a = #[(.ref q1), (.int q2), (.long q3), (.ref q4)] ∧ Z.Warmed39 U.vm ∧ U.heap = h0) (fun _ _ _ _ _ => True) (fun _ U o U' => ∃ v L, o = .returned v ∧ own_Qc Z q1 q2 q3 q4 h0 n0 v U'.heap L ∧ FrameEnd U o U' L ({ frames := 2, cells := 0, slots := 0, locals := 24 } : Room).cells ({ frames := 2, cells := 0, slots := 0, locals := 24 } : Room).slots) := by
  refine MetFree.of_bodySF (plainFor_of_name pn_com_example_hold_office_holdoffice_protocol_ConnectResponse) hisR ?_
  intro p e s m args below meth c s₁ Bd hml0 hP hK
  obtain ⟨rfl, hZ, hh⟩ := hP
  have hx := Bd.exec
  have hby := Bd.bytes
  have hlk : meth.locks = false := BodyLoose.notSynchronized Bd
  have hml : c.maxLocals = 5 := hml0
  have hown : s.vm.findClass "com/example/hold_office/holdoffice/protocol/ConnectResponse" = some m.cls := findClass_of_methodNamed Bd.named
  have hnm := (name_of_methodNamed Bd.named Bd.method).1
  have X0 : Stand p l e ({ frames := 2, cells := 0, slots := 0, locals := 24 } : Room) s m #[(.ref q1), (.int q2), (.long q3), (.ref q4)] below meth c s₁ [] 0 0 := Stand.of_body Bd
  have e0 : s₁.heap = h0 := by rw [← hh, Bd.state]; rfl
  have N0 := Fr.nil n0
  refine own_cast (K := own_K s (own_Qc Z q1 q2 q3 q4 h0 n0) 0 0) (ef_prog_46_1 m q1 q2 q3 q4) ?_
  generalize hKK : own_K s (own_Qc Z q1 q2 q3 q4 h0 n0) 0 0 = KK
  show own_Go p e below KK s₁ (mkF m 0 #[.val (.ref q1), .val (.int q2), .val (.long q3), .second, .val (.ref q4)] [])
  have Kp0 : Keep h0 h0 [q1] := Keep.refl _ _
  refine own_at (fun t k => XS.aloadN X0.here hx rfl (hb hby d_prog_46_1_0) rfl rfl k) ?_
  show own_Go p e below KK s₁ (mkF m 1 #[.val (.ref q1), .val (.int q2), .val (.long q3), .second, .val (.ref q4)] [(.ref q1)])
  obtain ⟨_, _, ⟨T1, L1, k1, n1⟩, -, X1, ⟨Lc1, hQ1, l1, y1, z1⟩, st1⟩ := X0.specialBack hx (y := (⟨"java/lang/Record", "<init>", "()V"⟩ : MethodName)) rfl hown (mvT hZ (hw _ (List.mem_of_getElem? (i := 10) rfl))) (mvT hZ (hw _ (List.mem_of_getElem? (i := 11) rfl))) (mvT hZ (hw _ (List.mem_of_getElem? (i := 14) rfl))) (by decide) (backOf (W := 0) (rm_rec l Z a0 hw [] q1   h0 n0 Z0 ) hZ (hw _ (List.mem_of_getElem? (i := 14) rfl)) (hw _ (List.mem_of_getElem? (i := 13) rfl)) (by decide) (by decide)) (g := (mkF m 1 #[.val (.ref q1), .val (.int q2), .val (.long q3), .second, .val (.ref q4)] [(.ref q1)])) rfl (by rw [hml]; rfl) (Steps.refl _) (a := q1) (argsL := []) (rest := []) (lenOf pd___V rfl) rfl (by show 2 * 0 + _ ≤ _; exact Nat.le_of_eq rfl) (hb hby d_prog_46_1_1) (fun _ _ => ⟨rfl, e0, (by decide : 0 + 0 ≤ _), (by decide : 0 + 0 ≤ _)⟩)
  dsimp only [Pt.U, Pt.locs, Pt.cells, Pt.slots] at X1 l1 y1 z1 st1 hQ1
  subst l1 y1 z1
  obtain ⟨rfl, N1q, e1⟩ := hQ1
  have N1 := Fr.app N0 N1q
  refine own_of (fun t k => st1.trans k) ?_
  show own_Go p e below KK T1 (mkF m 4 #[.val (.ref q1), .val (.int q2), .val (.long q3), .second, .val (.ref q4)] [])
  refine own_at (fun t k => XS.aloadN X1.here hx rfl (hb hby d_prog_46_1_4) rfl rfl k) ?_
  show own_Go p e below KK T1 (mkF m 5 #[.val (.ref q1), .val (.int q2), .val (.long q3), .second, .val (.ref q4)] [(.ref q1)])
  refine own_at (fun t k => XS.iloadN X1.here hx rfl (hb hby d_prog_46_1_5) rfl k) ?_
  show own_Go p e below KK T1 (mkF m 6 #[.val (.ref q1), .val (.int q2), .val (.long q3), .second, .val (.ref q4)] [(.int q2), (.ref q1)])
  obtain ⟨T2, h2, X2, e2, W2, st2⟩ := putF X1 hx hZ hown (host := "") (Or.inl (hw _ (List.mem_of_getElem? (i := 18) rfl))) Via.refl e1 F1 Eq (Or.inr ⟨(hw _ (List.mem_of_getElem? (i := 19) rfl)), rfl, hnm⟩) (hw _ (List.mem_of_getElem? (i := 5) rfl)) (ty := .int) (by decide) rfl rfl (g := (mkF m 6 #[.val (.ref q1), .val (.int q2), .val (.long q3), .second, .val (.ref q4)] [(.int q2), (.ref q1)])) rfl rfl (hb hby d_prog_46_1_6)
  have N2 := Fr.snoc X2 N1 gq
  have F2_h2 : Fld Z h2 q1 "com/example/hold_office/holdoffice/protocol/ConnectResponse" "sessionId" "J" (.long 0) := F2.other W2 (Or.inr (slot_ne (C := "com/example/hold_office/holdoffice/protocol/ConnectResponse") (Or.inr (hw _ (List.mem_of_getElem? (i := 21) rfl))) (Or.inr (hw _ (List.mem_of_getElem? (i := 19) rfl))) (by decide) (t := .long) (t' := .int) (by decide) (by decide)))
  have F3_h2 : Fld Z h2 q1 "com/example/hold_office/holdoffice/protocol/ConnectResponse" "password" "[B" .null := F3.other W2 (Or.inr (slot_ne (C := "com/example/hold_office/holdoffice/protocol/ConnectResponse") (Or.inr (hw _ (List.mem_of_getElem? (i := 23) rfl))) (Or.inr (hw _ (List.mem_of_getElem? (i := 19) rfl))) (by decide) (t := (.array .byte)) (t' := .int) (by decide) (by decide)))
  have Eq_h2 : Exa Z h2 q1 "com/example/hold_office/holdoffice/protocol/ConnectResponse" := Eq.wr W2
  have Zs2 : n0 ≤ h2.size := (by rw [W2.size]; exact Z0)
  have Kp2 : Keep h0 h2 [q1] := Kp0.wr W2 (Or.inl (by simp))
  have F3_q1 : Fld Z h2 q1 "com/example/hold_office/holdoffice/protocol/ConnectResponse" "timeoutMs" "I" (.int q2) := F1.same W2
  refine own_of (fun t k => st2 t k) ?_
  show own_Go p e below KK T2 (mkF m 9 #[.val (.ref q1), .val (.int q2), .val (.long q3), .second, .val (.ref q4)] [])
  refine own_at (fun t k => XS.aloadN X2.here hx rfl (hb hby d_prog_46_1_9) rfl rfl k) ?_
  show own_Go p e below KK T2 (mkF m 10 #[.val (.ref q1), .val (.int q2), .val (.long q3), .second, .val (.ref q4)] [(.ref q1)])
  refine own_at (fun t k => XS.lloadN X2.here hx rfl (hb hby d_prog_46_1_10) rfl k) ?_
  show own_Go p e below KK T2 (mkF m 11 #[.val (.ref q1), .val (.int q2), .val (.long q3), .second, .val (.ref q4)] [(.long q3), (.ref q1)])
  obtain ⟨T4, h4, X4, e4, W4, st4⟩ := putF X2 hx hZ hown (host := "") (Or.inl (hw _ (List.mem_of_getElem? (i := 20) rfl))) Via.refl e2 F2_h2 Eq_h2 (Or.inr ⟨(hw _ (List.mem_of_getElem? (i := 21) rfl)), rfl, hnm⟩) (hw _ (List.mem_of_getElem? (i := 5) rfl)) (ty := .long) (by decide) rfl rfl (g := (mkF m 11 #[.val (.ref q1), .val (.int q2), .val (.long q3), .second, .val (.ref q4)] [(.long q3), (.ref q1)])) rfl rfl (hb hby d_prog_46_1_11)
  have N4 := Fr.snoc X4 N2 gq
  have F3_q1_h4 : Fld Z h4 q1 "com/example/hold_office/holdoffice/protocol/ConnectResponse" "timeoutMs" "I" (.int q2) := F3_q1.other W4 (Or.inr (slot_ne (C := "com/example/hold_office/holdoffice/protocol/ConnectResponse") (Or.inr (hw _ (List.mem_of_getElem? (i := 19) rfl))) (Or.inr (hw _ (List.mem_of_getElem? (i := 21) rfl))) (by decide) (t := .int) (t' := .long) (by decide) (by decide)))
  have F3_h4 : Fld Z h4 q1 "com/example/hold_office/holdoffice/protocol/ConnectResponse" "password" "[B" .null := F3_h2.other W4 (Or.inr (slot_ne (C := "com/example/hold_office/holdoffice/protocol/ConnectResponse") (Or.inr (hw _ (List.mem_of_getElem? (i := 23) rfl))) (Or.inr (hw _ (List.mem_of_getElem? (i := 21) rfl))) (by decide) (t := (.array .byte)) (t' := .long) (by decide) (by decide)))
  have Eq_h4 : Exa Z h4 q1 "com/example/hold_office/holdoffice/protocol/ConnectResponse" := Eq_h2.wr W4
  have Zs4 : n0 ≤ h4.size := (by rw [W4.size]; exact Zs2)
  have Kp4 : Keep h0 h4 [q1] := Kp2.wr W4 (Or.inl (by simp))
  have F5_q1 : Fld Z h4 q1 "com/example/hold_office/holdoffice/protocol/ConnectResponse" "sessionId" "J" (.long q3) := F2_h2.same W4
  refine own_of (fun t k => st4 t k) ?_
  show own_Go p e below KK T4 (mkF m 14 #[.val (.ref q1), .val (.int q2), .val (.long q3), .second, .val (.ref q4)] [])
  refine own_at (fun t k => XS.aloadN X4.here hx rfl (hb hby d_prog_46_1_14) rfl rfl k) ?_
  show own_Go p e below KK T4 (mkF m 15 #[.val (.ref q1), .val (.int q2), .val (.long q3), .second, .val (.ref q4)] [(.ref q1)])
  refine own_at (fun t k => XS.aload X4.here hx rfl (hb hby d_prog_46_1_15) rfl rfl k) ?_
  show own_Go p e below KK T4 (mkF m 17 #[.val (.ref q1), .val (.int q2), .val (.long q3), .second, .val (.ref q4)] [(.ref q4), (.ref q1)])
  obtain ⟨T6, h6, X6, e6, W6, st6⟩ := putF X4 hx hZ hown (host := "") (Or.inl (hw _ (List.mem_of_getElem? (i := 22) rfl))) Via.refl e4 F3_h4 Eq_h4 (Or.inr ⟨(hw _ (List.mem_of_getElem? (i := 23) rfl)), rfl, hnm⟩) (hw _ (List.mem_of_getElem? (i := 5) rfl)) (ty := (.array .byte)) (by decide) rfl rfl (g := (mkF m 17 #[.val (.ref q1), .val (.int q2), .val (.long q3), .second, .val (.ref q4)] [(.ref q4), (.ref q1)])) rfl rfl (hb hby d_prog_46_1_17)
  have N6 := Fr.snoc X6 N4 gq
  have F3_q1_h6 : Fld Z h6 q1 "com/example/hold_office/holdoffice/protocol/ConnectResponse" "timeoutMs" "I" (.int q2) := F3_q1_h4.other W6 (Or.inr (slot_ne (C := "com/example/hold_office/holdoffice/protocol/ConnectResponse") (Or.inr (hw _ (List.mem_of_getElem? (i := 19) rfl))) (Or.inr (hw _ (List.mem_of_getElem? (i := 23) rfl))) (by decide) (t := .int) (t' := (.array .byte)) (by decide) (by decide)))
  have F5_q1_h6 : Fld Z h6 q1 "com/example/hold_office/holdoffice/protocol/ConnectResponse" "sessionId" "J" (.long q3) := F5_q1.other W6 (Or.inr (slot_ne (C := "com/example/hold_office/holdoffice/protocol/ConnectResponse") (Or.inr (hw _ (List.mem_of_getElem? (i := 21) rfl))) (Or.inr (hw _ (List.mem_of_getElem? (i := 23) rfl))) (by decide) (t := .long) (t' := (.array .byte)) (by decide) (by decide)))
  have Eq_h6 : Exa Z h6 q1 "com/example/hold_office/holdoffice/protocol/ConnectResponse" := Eq_h4.wr W6
  have Zs6 : n0 ≤ h6.size := (by rw [W6.size]; exact Zs4)
  have Kp6 : Keep h0 h6 [q1] := Kp4.wr W6 (Or.inl (by simp))
  have F7_q1 : Fld Z h6 q1 "com/example/hold_office/holdoffice/protocol/ConnectResponse" "password" "[B" (.ref q4) := F3_h4.same W6
  refine own_of (fun t k => st6 t k) ?_
  show own_Go p e below KK T6 (mkF m 20 #[.val (.ref q1), .val (.int q2), .val (.long q3), .second, .val (.ref q4)] [])
  subst hKK
  exact own_retV X6 hx hlk Bd.returns (hb hby d_prog_46_1_20) ⟨rfl, N6, by rw [e6]; exact Kp6, by rw [e6]; exact Eq_h6, by rw [e6]; exact F3_q1_h6, by rw [e6]; exact F5_q1_h6, by rw [e6]; exact F7_q1⟩ (Nat.le_of_ble_eq_true rfl) (Nat.le_of_ble_eq_true rfl)
def own_Qr (Z : State) (h0 : Heap) (n0 : Nat) (v : Option Value) (h : Heap) (L : List Loc) : Prop := ∃ b q : Addr, v = some (.ref b) ∧ Fr n0 L ∧ Keep h0 h [] ∧ n0 ≤ b ∧ n0 ≤ q ∧ h0.size ≤ b ∧ h0.size ≤ q ∧ b ≠ q ∧ Exa Z h b "com/example/hold_office/holdoffice/protocol/ConnectResponse" ∧ Fld Z h b "com/example/hold_office/holdoffice/protocol/ConnectResponse" "timeoutMs" "I" (.int 0) ∧ Fld Z h b "com/example/hold_office/holdoffice/protocol/ConnectResponse" "sessionId" "J" (.long 0) ∧ Fld Z h b "com/example/hold_office/holdoffice/protocol/ConnectResponse" "password" "[B" (.ref q) ∧ own_A Z h q "[B" .byte [(.int 0), (.int 0), (.int 0), (.int 0), (.int 0), (.int 0), (.int 0), (.int 0), (.int 0), (.int 0), (.int 0), (.int 0), (.int 0), (.int 0), (.int 0), (.int 0)]
theorem ef_prog_46_2 (m : MethodId)  : entryFrame m #[] 0 = mkF m 0 #[] [] := by first | (simp [entryFrame, mkF, argsToLocals, Value.category]; done) | rfl
theorem d_prog_46_2_0 : decode prog_46_method_2_code 0 = .ok (.new 8, 3) := by decide +kernel
theorem d_prog_46_2_3 : decode prog_46_method_2_code 3 = .ok (.dup, 1) := by decide +kernel
theorem d_prog_46_2_4 : decode prog_46_method_2_code 4 = .ok (.iconst 0, 1) := by decide +kernel
theorem d_prog_46_2_5 : decode prog_46_method_2_code 5 = .ok (.lconst 0, 1) := by decide +kernel
theorem d_prog_46_2_6 : decode prog_46_method_2_code 6 = .ok (.bipush 16, 2) := by decide +kernel
theorem d_prog_46_2_8 : decode prog_46_method_2_code 8 = .ok (.newarray .byte, 2) := by decide +kernel
theorem d_prog_46_2_10 : decode prog_46_method_2_code 10 = .ok (.invokespecial 21, 3) := by decide +kernel
theorem pd__IJ_B_V : parseMethodDescriptor "(IJ[B)V" = some ⟨[.int, .long, (.array .byte)], none⟩ := by decide +kernel
theorem d_prog_46_2_13 : decode prog_46_method_2_code 13 = .ok (.areturn, 1) := by decide +kernel
set_option maxRecDepth 65536 in
set_option maxHeartbeats 40000000 in
theorem rm_ref (l : Launch) (Z : State) (a0 : Array Value) (hw : ∀ d ∈ tables_1, d.before a0 Z = true) (ws : List Jvm.Cond)   (h0 : Heap) (n0 : Nat) (Z0 : n0 ≤ h0.size)  :
    MetFree l (⟨"com/example/hold_office/holdoffice/protocol/ConnectResponse", "refused", "()Lcom/example/hold_office/holdoffice/protocol/ConnectResponse;"⟩ : MethodName) (head1 (Jvm.Cond.code (⟨"com/example/hold_office/holdoffice/protocol/ConnectResponse", "refused", "()Lcom/example/hold_office/holdoffice/protocol/ConnectResponse;"⟩ : MethodName) prog_46_method_2_code 0 (some (.object "com/example/hold_office/holdoffice/protocol/ConnectResponse")) :: ws) ({ frames := 3, cells := 2, slots := 19, locals := 41 } : Room)) (fun a U => a = #[] ∧ Z.Warmed39 U.vm ∧ U.heap = h0) (fun _ _ _ _ _ => True) (fun _ U o U' => ∃ v L, o = .returned v ∧ own_Qr Z h0 n0 v U'.heap L ∧ FrameEnd U o U' L ({ frames := 3, cells := 2, slots := 19, locals := 41 } : Room).cells ({ frames := 3, cells := 2, slots := 19, locals := 41 } : Room).slots) := by
  refine MetFree.of_bodySF (plainFor_of_name pn_com_example_hold_office_holdoffice_protocol_ConnectResponse) hisR ?_
  intro p e s m args below meth c s₁ Bd hml0 hP hK
  obtain ⟨rfl, hZ, hh⟩ := hP
  have hx := Bd.exec
  have hby := Bd.bytes
  have hlk : meth.locks = false := BodyLoose.notSynchronized Bd
  have hml : c.maxLocals = 0 := hml0
  have hown : s.vm.findClass "com/example/hold_office/holdoffice/protocol/ConnectResponse" = some m.cls := findClass_of_methodNamed Bd.named
  have hnm := (name_of_methodNamed Bd.named Bd.method).1
  have X0 : Stand p l e ({ frames := 3, cells := 2, slots := 19, locals := 41 } : Room) s m #[] below meth c s₁ [] 0 0 := Stand.of_body Bd
  have e0 : s₁.heap = h0 := by rw [← hh, Bd.state]; rfl
  have N0 := Fr.nil n0
  refine own_cast (K := own_K s (own_Qr Z h0 n0) 2 19) (ef_prog_46_2 m ) ?_
  generalize hKK : own_K s (own_Qr Z h0 n0) 2 19 = KK
  show own_Go p e below KK s₁ (mkF m 0 #[] [])
  have Kp0 : Keep h0 h0 [] := Keep.refl _ _
  obtain ⟨T1, h1, X1, e1, E1, A1, D1, -, st1⟩ := newO X0 hx hZ hown (hw _ (List.mem_of_getElem? (i := 4) rfl)) (hw _ (List.mem_of_getElem? (i := 5) rfl)) (hw _ (List.mem_of_getElem? (i := 2) rfl)) e0 (g := (mkF m 0 #[] [])) rfl (hb hby d_prog_46_2_0) (by decide) (by decide)
  obtain ⟨b1, g1⟩ : ∃ z, z = h0.size := ⟨_, rfl⟩
  rw [← g1] at A1 D1 st1
  have g_b1 : n0 ≤ b1 := by rw [g1]; exact Z0
  have sz_b1 : h0.size ≤ b1 := by rw [g1]; exact Kp0.1
  have Zs1 : n0 ≤ h1.size := Nat.le_trans Z0 E1.1
  have Kp1 : Keep h0 h1 [] := Kp0.ext E1
  have E2_b1 : Exa Z h1 b1 "com/example/hold_office/holdoffice/protocol/ConnectResponse" := A1
  have F3_b1 : Fld Z h1 b1 "com/example/hold_office/holdoffice/protocol/ConnectResponse" "timeoutMs" "I" (.int 0) := D1 (Or.inr (hw _ (List.mem_of_getElem? (i := 19) rfl))) (ty := .int) (by decide)
  have F4_b1 : Fld Z h1 b1 "com/example/hold_office/holdoffice/protocol/ConnectResponse" "sessionId" "J" (.long 0) := D1 (Or.inr (hw _ (List.mem_of_getElem? (i := 21) rfl))) (ty := .long) (by decide)
  have F5_b1 : Fld Z h1 b1 "com/example/hold_office/holdoffice/protocol/ConnectResponse" "password" "[B" .null := D1 (Or.inr (hw _ (List.mem_of_getElem? (i := 23) rfl))) (ty := (.array .byte)) (by decide)
  refine own_of (fun t k => st1 t k) ?_
  show own_Go p e below KK T1 (mkF m 3 #[] [(.ref b1)])
  refine own_at (fun t k => XS.dup X1.here hx rfl (hb hby d_prog_46_2_3) rfl rfl k) ?_
  show own_Go p e below KK T1 (mkF m 4 #[] [(.ref b1), (.ref b1)])
  refine own_at (fun t k => XS.iconst X1.here hx rfl (hb hby d_prog_46_2_4) k) ?_
  show own_Go p e below KK T1 (mkF m 5 #[] [(.int 0), (.ref b1), (.ref b1)])
  refine own_at (fun t k => XS.lconst X1.here hx rfl (hb hby d_prog_46_2_5) k) ?_
  show own_Go p e below KK T1 (mkF m 6 #[] [(.long 0), (.int 0), (.ref b1), (.ref b1)])
  refine own_at (fun t k => XS.bipush X1.here hx rfl (hb hby d_prog_46_2_6) k) ?_
  show own_Go p e below KK T1 (mkF m 8 #[] [(.int 16), (.long 0), (.int 0), (.ref b1), (.ref b1)])
  obtain ⟨T6, h6, X6, e6, E6, V6, st6⟩ := own_newA X1 hx hZ (hw _ (List.mem_of_getElem? (i := 6) rfl)) e1 (g := (mkF m 8 #[] [(.int 16), (.long 0), (.int 0), (.ref b1), (.ref b1)])) rfl (hb hby d_prog_46_2_8) rfl (by decide) (N := 16) (by decide) (cap := 16) (by decide) (by decide) (by decide) (by decide) (d := "[B") (by first | rfl | decide +kernel) (vs := [(.int 0), (.int 0), (.int 0), (.int 0), (.int 0), (.int 0), (.int 0), (.int 0), (.int 0), (.int 0), (.int 0), (.int 0), (.int 0), (.int 0), (.int 0), (.int 0)]) rfl
  obtain ⟨b6, g6⟩ : ∃ z, z = h1.size := ⟨_, rfl⟩
  rw [← g6] at V6 st6
  have ne_b1_b6 : b1 ≠ b6 := by rw [g6]; exact Nat.ne_of_lt E2_b1.lt
  have g_b6 : n0 ≤ b6 := by rw [g6]; exact Zs1
  have sz_b6 : h0.size ≤ b6 := by rw [g6]; exact Kp1.1
  have E2_b1_h6 : Exa Z h6 b1 "com/example/hold_office/holdoffice/protocol/ConnectResponse" := E2_b1.ext E6
  have F3_b1_h6 : Fld Z h6 b1 "com/example/hold_office/holdoffice/protocol/ConnectResponse" "timeoutMs" "I" (.int 0) := F3_b1.ext E6
  have F4_b1_h6 : Fld Z h6 b1 "com/example/hold_office/holdoffice/protocol/ConnectResponse" "sessionId" "J" (.long 0) := F4_b1.ext E6
  have F5_b1_h6 : Fld Z h6 b1 "com/example/hold_office/holdoffice/protocol/ConnectResponse" "password" "[B" .null := F5_b1.ext E6
  have Zs6 : n0 ≤ h6.size := Nat.le_trans Zs1 E6.1
  have Kp6 : Keep h0 h6 [] := Kp1.ext E6
  have A7_b6 : own_A Z h6 b6 "[B" .byte [(.int 0), (.int 0), (.int 0), (.int 0), (.int 0), (.int 0), (.int 0), (.int 0), (.int 0), (.int 0), (.int 0), (.int 0), (.int 0), (.int 0), (.int 0), (.int 0)] := V6
  refine own_of (fun t k => st6 t k) ?_
  show own_Go p e below KK T6 (mkF m 10 #[] [(.ref b6), (.long 0), (.int 0), (.ref b1), (.ref b1)])
  obtain ⟨_, _, ⟨T8, L8, k8, n8⟩, -, X8, ⟨Lc8, hQ8, l8, y8, z8⟩, st8⟩ := X6.specialBack hx (y := (⟨"com/example/hold_office/holdoffice/protocol/ConnectResponse", "<init>", "(IJ[B)V"⟩ : MethodName)) rfl hown (mvT hZ (hw _ (List.mem_of_getElem? (i := 7) rfl))) (mvT hZ (hw _ (List.mem_of_getElem? (i := 8) rfl))) (mvT hZ (hw _ (List.mem_of_getElem? (i := 9) rfl))) (by decide) (backOf (W := 1) (rm_ctor l Z a0 hw [] b1 (0 : Int32) (0 : Int64) b6  h6 n0 Zs6 F3_b1_h6 F4_b1_h6 F5_b1_h6 E2_b1_h6 g_b1) hZ (hw _ (List.mem_of_getElem? (i := 9) rfl)) (hw _ (List.mem_of_getElem? (i := 2) rfl)) (by decide) (by decide)) (g := (mkF m 10 #[] [(.ref b6), (.long 0), (.int 0), (.ref b1), (.ref b1)])) rfl (by rw [hml]; rfl) (Steps.refl _) (a := b1) (argsL := [(.int 0), (.long 0), (.ref b6)]) (rest := [(.ref b1)]) (lenOf pd__IJ_B_V rfl) rfl (by show 2 * 0 + _ ≤ _; exact Nat.le_of_eq rfl) (hb hby d_prog_46_2_10) (fun _ _ => ⟨rfl, e6, (by decide : 2 + 0 ≤ _), (by decide : 19 + 0 ≤ _)⟩)
  dsimp only [Pt.U, Pt.locs, Pt.cells, Pt.slots] at X8 l8 y8 z8 st8 hQ8
  subst l8 y8 z8
  obtain ⟨rfl, N8q, K8, Ex8, Fx8, Fy8, Fz8⟩ := hQ8
  have A7_b6_h8 : own_A Z T8.heap b6 "[B" .byte [(.int 0), (.int 0), (.int 0), (.int 0), (.int 0), (.int 0), (.int 0), (.int 0), (.int 0), (.int 0), (.int 0), (.int 0), (.int 0), (.int 0), (.int 0), (.int 0)] := A7_b6.keep K8 (ninS ne_b1_b6.symm nin0)
  have Zs8 : n0 ≤ T8.heap.size := Nat.le_trans Zs6 K8.1
  have Kp8 : Keep h0 T8.heap [] := Kp6.trans K8 (allS (Or.inr sz_b1) all0)
  have E9_b1 : Exa Z T8.heap b1 "com/example/hold_office/holdoffice/protocol/ConnectResponse" := Ex8
  have F10_b1 : Fld Z T8.heap b1 "com/example/hold_office/holdoffice/protocol/ConnectResponse" "timeoutMs" "I" (.int 0) := Fx8
  have F11_b1 : Fld Z T8.heap b1 "com/example/hold_office/holdoffice/protocol/ConnectResponse" "sessionId" "J" (.long 0) := Fy8
  have F12_b1 : Fld Z T8.heap b1 "com/example/hold_office/holdoffice/protocol/ConnectResponse" "password" "[B" (.ref b6) := Fz8
  have N8 := Fr.app N0 N8q
  refine own_of (fun t k => st8.trans k) ?_
  show own_Go p e below KK T8 (mkF m 13 #[] [(.ref b1)])
  subst hKK
  exact own_retA X8 hx hlk rfl Bd.returns rfl (hb hby d_prog_46_2_13) ⟨b1, b6, rfl, N8, Kp8, g_b1, g_b6, sz_b1, sz_b6, ne_b1_b6, E9_b1, F10_b1, F11_b1, F12_b1, A7_b6_h8⟩ (Nat.le_of_ble_eq_true rfl) (Nat.le_of_ble_eq_true rfl)
theorem ef_prog_46_8 (m : MethodId) (x0 : Addr) : entryFrame m #[(.ref x0)] 1 = mkF m 0 #[.val (.ref x0)] [] := by first | (simp [entryFrame, mkF, argsToLocals, Value.category]; done) | rfl
theorem d_prog_46_8_0 : decode prog_46_method_8_code 0 = .ok (.aload_n 0, 1) := by decide +kernel
theorem d_prog_46_8_1 : decode prog_46_method_8_code 1 = .ok (.getfield 7, 3) := by decide +kernel
theorem d_prog_46_8_4 : decode prog_46_method_8_code 4 = .ok (.ireturn, 1) := by decide +kernel
set_option maxRecDepth 65536 in
set_option maxHeartbeats 40000000 in
theorem rm_get_timeoutMs (l : Launch) (Z : State) (a0 : Array Value) (hw : ∀ d ∈ tables_1, d.before a0 Z = true) (ws : List Jvm.Cond) (q1 : Addr) (w : Int32) (h0 : Heap) (n0 : Nat) (Z0 : n0 ≤ h0.size) (Fq : Fld Z h0 q1 "com/example/hold_office/holdoffice/protocol/ConnectResponse" "timeoutMs" "I" (.int w)) :
    MetFree l (⟨"com/example/hold_office/holdoffice/protocol/ConnectResponse", "timeoutMs", "()I"⟩ : MethodName) (head1 (Jvm.Cond.code (⟨"com/example/hold_office/holdoffice/protocol/ConnectResponse", "timeoutMs", "()I"⟩ : MethodName) prog_46_method_8_code 1 (some .int) :: ws) ({ frames := 0, cells := 0, slots := 0, locals := 0 } : Room)) (fun a U => a = #[(.ref q1)] ∧ Z.Warmed39 U.vm ∧ U.heap = h0) (fun _ _ _ _ _ => True) (fun _ U o U' => ∃ v L, o = .returned v ∧ own_P (.int w) h0 n0 v U'.heap L ∧ FrameEnd U o U' L ({ frames := 0, cells := 0, slots := 0, locals := 0 } : Room).cells ({ frames := 0, cells := 0, slots := 0, locals := 0 } : Room).slots) := by
  refine MetFree.of_bodySF (plainFor_of_name pn_com_example_hold_office_holdoffice_protocol_ConnectResponse) hisR ?_
  intro p e s m args below meth c s₁ Bd hml0 hP hK
  obtain ⟨rfl, hZ, hh⟩ := hP
  have hx := Bd.exec
  have hby := Bd.bytes
  have hlk : meth.locks = false := BodyLoose.notSynchronized Bd
  have hml : c.maxLocals = 1 := hml0
  have hown : s.vm.findClass "com/example/hold_office/holdoffice/protocol/ConnectResponse" = some m.cls := findClass_of_methodNamed Bd.named
  have hnm := (name_of_methodNamed Bd.named Bd.method).1
  have X0 : Stand p l e ({ frames := 0, cells := 0, slots := 0, locals := 0 } : Room) s m #[(.ref q1)] below meth c s₁ [] 0 0 := Stand.of_body Bd
  have e0 : s₁.heap = h0 := by rw [← hh, Bd.state]; rfl
  have N0 := Fr.nil n0
  refine own_cast (K := own_K s (own_P (.int w) h0 n0) 0 0) (ef_prog_46_8 m q1) ?_
  generalize hKK : own_K s (own_P (.int w) h0 n0) 0 0 = KK
  show own_Go p e below KK s₁ (mkF m 0 #[.val (.ref q1)] [])
  refine own_at (fun t k => XS.aloadN X0.here hx rfl (hb hby d_prog_46_8_0) rfl rfl k) ?_
  show own_Go p e below KK s₁ (mkF m 1 #[.val (.ref q1)] [(.ref q1)])
  obtain ⟨T1, X1, e1, st1⟩ := getF X0 hx hZ hown (host := "") (Or.inl (hw _ (List.mem_of_getElem? (i := 18) rfl))) Via.refl e0 Fq (g := (mkF m 1 #[.val (.ref q1)] [(.ref q1)])) rfl rfl (hb hby d_prog_46_8_1)
  refine own_of (fun t k => st1 t k) ?_
  show own_Go p e below KK T1 (mkF m 4 #[.val (.ref q1)] [(.int w)])
  subst hKK
  exact own_retI X1 hx hlk Bd.returns (hb hby d_prog_46_8_4) (w := w) rfl ⟨rfl, N0, e1⟩ (Nat.le_of_ble_eq_true rfl) (Nat.le_of_ble_eq_true rfl)
theorem ef_prog_46_9 (m : MethodId) (x0 : Addr) : entryFrame m #[(.ref x0)] 1 = mkF m 0 #[.val (.ref x0)] [] := by first | (simp [entryFrame, mkF, argsToLocals, Value.category]; done) | rfl
theorem d_prog_46_9_0 : decode prog_46_method_9_code 0 = .ok (.aload_n 0, 1) := by decide +kernel
theorem d_prog_46_9_1 : decode prog_46_method_9_code 1 = .ok (.getfield 13, 3) := by decide +kernel
theorem d_prog_46_9_4 : decode prog_46_method_9_code 4 = .ok (.lreturn, 1) := by decide +kernel
set_option maxRecDepth 65536 in
set_option maxHeartbeats 40000000 in
theorem rm_get_sessionId (l : Launch) (Z : State) (a0 : Array Value) (hw : ∀ d ∈ tables_1, d.before a0 Z = true) (ws : List Jvm.Cond) (q1 : Addr) (w : Int64) (h0 : Heap) (n0 : Nat) (Z0 : n0 ≤ h0.size) (Fq : Fld Z h0 q1 "com/example/hold_office/holdoffice/protocol/ConnectResponse" "sessionId" "J" (.long w)) :
    MetFree l (⟨"com/example/hold_office/holdoffice/protocol/ConnectResponse", "sessionId", "()J"⟩ : MethodName) (head1 (Jvm.Cond.code (⟨"com/example/hold_office/holdoffice/protocol/ConnectResponse", "sessionId", "()J"⟩ : MethodName) prog_46_method_9_code 1 (some .long) :: ws) ({ frames := 0, cells := 0, slots := 0, locals := 0 } : Room)) (fun a U => a = #[(.ref q1)] ∧ Z.Warmed39 U.vm ∧ U.heap = h0) (fun _ _ _ _ _ => True) (fun _ U o U' => ∃ v L, o = .returned v ∧ own_P (.long w) h0 n0 v U'.heap L ∧ FrameEnd U o U' L ({ frames := 0, cells := 0, slots := 0, locals := 0 } : Room).cells ({ frames := 0, cells := 0, slots := 0, locals := 0 } : Room).slots) := by
  refine MetFree.of_bodySF (plainFor_of_name pn_com_example_hold_office_holdoffice_protocol_ConnectResponse) hisR ?_
  intro p e s m args below meth c s₁ Bd hml0 hP hK
  obtain ⟨rfl, hZ, hh⟩ := hP
  have hx := Bd.exec
  have hby := Bd.bytes
  have hlk : meth.locks = false := BodyLoose.notSynchronized Bd
  have hml : c.maxLocals = 1 := hml0
  have hown : s.vm.findClass "com/example/hold_office/holdoffice/protocol/ConnectResponse" = some m.cls := findClass_of_methodNamed Bd.named
  have hnm := (name_of_methodNamed Bd.named Bd.method).1
  have X0 : Stand p l e ({ frames := 0, cells := 0, slots := 0, locals := 0 } : Room) s m #[(.ref q1)] below meth c s₁ [] 0 0 := Stand.of_body Bd
  have e0 : s₁.heap = h0 := by rw [← hh, Bd.state]; rfl
  have N0 := Fr.nil n0
  refine own_cast (K := own_K s (own_P (.long w) h0 n0) 0 0) (ef_prog_46_9 m q1) ?_
  generalize hKK : own_K s (own_P (.long w) h0 n0) 0 0 = KK
  show own_Go p e below KK s₁ (mkF m 0 #[.val (.ref q1)] [])
  refine own_at (fun t k => XS.aloadN X0.here hx rfl (hb hby d_prog_46_9_0) rfl rfl k) ?_
  show own_Go p e below KK s₁ (mkF m 1 #[.val (.ref q1)] [(.ref q1)])
  obtain ⟨T1, X1, e1, st1⟩ := getF X0 hx hZ hown (host := "") (Or.inl (hw _ (List.mem_of_getElem? (i := 20) rfl))) Via.refl e0 Fq (g := (mkF m 1 #[.val (.ref q1)] [(.ref q1)])) rfl rfl (hb hby d_prog_46_9_1)
  refine own_of (fun t k => st1 t k) ?_
  show own_Go p e below KK T1 (mkF m 4 #[.val (.ref q1)] [(.long w)])
  subst hKK
  exact own_retJ X1 hx hlk Bd.returns (hb hby d_prog_46_9_4) (w := w) rfl ⟨rfl, N0, e1⟩ (Nat.le_of_ble_eq_true rfl) (Nat.le_of_ble_eq_true rfl)
theorem ef_prog_46_10 (m : MethodId) (x0 : Addr) : entryFrame m #[(.ref x0)] 1 = mkF m 0 #[.val (.ref x0)] [] := by first | (simp [entryFrame, mkF, argsToLocals, Value.category]; done) | rfl
theorem d_prog_46_10_0 : decode prog_46_method_10_code 0 = .ok (.aload_n 0, 1) := by decide +kernel
theorem d_prog_46_10_1 : decode prog_46_method_10_code 1 = .ok (.getfield 17, 3) := by decide +kernel
theorem d_prog_46_10_4 : decode prog_46_method_10_code 4 = .ok (.areturn, 1) := by decide +kernel
set_option maxRecDepth 65536 in
set_option maxHeartbeats 40000000 in
theorem rm_get_password (l : Launch) (Z : State) (a0 : Array Value) (hw : ∀ d ∈ tables_1, d.before a0 Z = true) (ws : List Jvm.Cond) (q1 : Addr) (w : Addr) (h0 : Heap) (n0 : Nat) (Z0 : n0 ≤ h0.size) (Fq : Fld Z h0 q1 "com/example/hold_office/holdoffice/protocol/ConnectResponse" "password" "[B" (.ref w)) :
    MetFree l (⟨"com/example/hold_office/holdoffice/protocol/ConnectResponse", "password", "()[B"⟩ : MethodName) (head1 (Jvm.Cond.code (⟨"com/example/hold_office/holdoffice/protocol/ConnectResponse", "password", "()[B"⟩ : MethodName) prog_46_method_10_code 1 (some (.array .byte)) :: ws) ({ frames := 0, cells := 0, slots := 0, locals := 0 } : Room)) (fun a U => a = #[(.ref q1)] ∧ Z.Warmed39 U.vm ∧ U.heap = h0) (fun _ _ _ _ _ => True) (fun _ U o U' => ∃ v L, o = .returned v ∧ own_P (.ref w) h0 n0 v U'.heap L ∧ FrameEnd U o U' L ({ frames := 0, cells := 0, slots := 0, locals := 0 } : Room).cells ({ frames := 0, cells := 0, slots := 0, locals := 0 } : Room).slots) := by
  refine MetFree.of_bodySF (plainFor_of_name pn_com_example_hold_office_holdoffice_protocol_ConnectResponse) hisR ?_
  intro p e s m args below meth c s₁ Bd hml0 hP hK
  obtain ⟨rfl, hZ, hh⟩ := hP
  have hx := Bd.exec
  have hby := Bd.bytes
  have hlk : meth.locks = false := BodyLoose.notSynchronized Bd
  have hml : c.maxLocals = 1 := hml0
  have hown : s.vm.findClass "com/example/hold_office/holdoffice/protocol/ConnectResponse" = some m.cls := findClass_of_methodNamed Bd.named
  have hnm := (name_of_methodNamed Bd.named Bd.method).1
  have X0 : Stand p l e ({ frames := 0, cells := 0, slots := 0, locals := 0 } : Room) s m #[(.ref q1)] below meth c s₁ [] 0 0 := Stand.of_body Bd
  have e0 : s₁.heap = h0 := by rw [← hh, Bd.state]; rfl
  have N0 := Fr.nil n0
  refine own_cast (K := own_K s (own_P (.ref w) h0 n0) 0 0) (ef_prog_46_10 m q1) ?_
  generalize hKK : own_K s (own_P (.ref w) h0 n0) 0 0 = KK
  show own_Go p e below KK s₁ (mkF m 0 #[.val (.ref q1)] [])
  refine own_at (fun t k => XS.aloadN X0.here hx rfl (hb hby d_prog_46_10_0) rfl rfl k) ?_
  show own_Go p e below KK s₁ (mkF m 1 #[.val (.ref q1)] [(.ref q1)])
  obtain ⟨T1, X1, e1, st1⟩ := getF X0 hx hZ hown (host := "") (Or.inl (hw _ (List.mem_of_getElem? (i := 22) rfl))) Via.refl e0 Fq (g := (mkF m 1 #[.val (.ref q1)] [(.ref q1)])) rfl rfl (hb hby d_prog_46_10_1)
  refine own_of (fun t k => st1 t k) ?_
  show own_Go p e below KK T1 (mkF m 4 #[.val (.ref q1)] [(.ref w)])
  subst hKK
  exact own_retA X1 hx hlk rfl Bd.returns rfl (hb hby d_prog_46_10_4) ⟨rfl, N0, e1⟩ (Nat.le_of_ble_eq_true rfl) (Nat.le_of_ble_eq_true rfl)
theorem own_lI0 : (0 : Int32).toInt = 0 := rfl
theorem own_lI16 : (16 : Int32).toInt = 16 := rfl
theorem own_idx {x k : Int32} (h : k = (x &&& (15 : Int32))) : ¬ k < 0 ∧ k.toNatClampNeg < 16 ∧ ([(.int 0), (.int 0), (.int 0), (.int 0), (.int 0), (.int 0), (.int 0), (.int 0), (.int 0), (.int 0), (.int 0), (.int 0), (.int 0), (.int 0), (.int 0), (.int 0)] : List Value)[k.toNatClampNeg]? = some (.int 0) := by
  have h1 := c_and x 15 (by decide)
  rw [← h, show (15 : Int32).toInt = 15 from rfl] at h1
  have e : k.toNatClampNeg < 16 := by rw [Int32.toNatClampNeg]; omega
  refine ⟨by rw [Int32.lt_iff_toInt_lt, own_lI0]; omega, e, ?_⟩
  show (List.replicate 16 (.int 0) : List Value)[k.toNatClampNeg]? = _
  rw [List.getElem?_replicate, if_pos e]
theorem pn_com_example_hold_office_holdoffice_protocol_ConnectResponseRefusedPinLaw : plainName "com/example/hold_office/holdoffice/protocol/ConnectResponseRefusedPinLaw" = true := by first | (simp [plainName, overriddenIn]; done) | decide +kernel
theorem ef_law (m : MethodId) (x0 : Int32) (x1 : Int32) : entryFrame m #[(.int x0), (.int x1)] maxLocals = mkF m 0 #[.val (.int x0), .val (.int x1), .unset, .unset, .unset, .unset, .unset] [] := by first | (simp [entryFrame, mkF, argsToLocals, Value.category, maxLocals]; done) | rfl
theorem pd___Lcom_example_hold_office_holdoffice_protocol_ConnectResponse_ : parseMethodDescriptor "()Lcom/example/hold_office/holdoffice/protocol/ConnectResponse;" = some ⟨[], some (.object "com/example/hold_office/holdoffice/protocol/ConnectResponse")⟩ := by decide +kernel
theorem pd____B : parseMethodDescriptor "()[B" = some ⟨[], some (.array .byte)⟩ := by decide +kernel
theorem pd___I : parseMethodDescriptor "()I" = some ⟨[], some .int⟩ := by decide +kernel
theorem pd___J : parseMethodDescriptor "()J" = some ⟨[], some .long⟩ := by decide +kernel
def own_Q (n0 : Nat) (v : Option Value) (h : Heap) (L : List Loc) : Prop := v = some (.int 1) ∧ Fr n0 L
set_option maxRecDepth 65536 in
set_option maxHeartbeats 40000000 in
theorem rm_law (l : Launch) (Z : State) (a0 : Array Value) (hw : ∀ d ∈ tables_1, d.before a0 Z = true) (ws : List Jvm.Cond) (p1 : Int32) (p2 : Int32)  (h0 : Heap) (n0 : Nat) (Z0 : n0 ≤ h0.size)  :
    MetFree l x (head1 (Jvm.Cond.code x code maxLocals ret :: ws) room_1) (fun a U => a = #[(.int p1), (.int p2)] ∧ Z.Warmed39 U.vm ∧ U.heap = h0) (fun _ _ _ _ _ => True) (fun _ U o U' => ∃ v L, o = .returned v ∧ own_Q n0 v U'.heap L ∧ FrameEnd U o U' L room_1.cells room_1.slots) := by
  refine MetFree.of_bodySF (plainFor_of_name pn_com_example_hold_office_holdoffice_protocol_ConnectResponseRefusedPinLaw) hisR ?_
  intro p e s m args below meth c s₁ Bd hml0 hP hK
  obtain ⟨rfl, hZ, hh⟩ := hP
  have hx := Bd.exec
  have hby := Bd.bytes
  have hlk : meth.locks = false := BodyLoose.notSynchronized Bd
  have hml : c.maxLocals = 7 := hml0
  have hown : s.vm.findClass "com/example/hold_office/holdoffice/protocol/ConnectResponseRefusedPinLaw" = some m.cls := findClass_of_methodNamed Bd.named
  have hnm := (name_of_methodNamed Bd.named Bd.method).1
  have X0 : Stand p l e room_1 s m #[(.int p1), (.int p2)] below meth c s₁ [] 0 0 := Stand.of_body Bd
  have e0 : s₁.heap = h0 := by rw [← hh, Bd.state]; rfl
  have N0 := Fr.nil n0
  refine own_cast (K := own_K s (own_Q n0) room_1.cells room_1.slots) (ef_law m p1 p2) ?_
  generalize hKK : own_K s (own_Q n0) room_1.cells room_1.slots = KK
  show own_Go p e below KK s₁ (mkF m 0 #[.val (.int p1), .val (.int p2), .unset, .unset, .unset, .unset, .unset] [])
  refine own_at (fun t k => XS.iloadN X0.here hx rfl (hb hby at_0) rfl k) ?_
  show own_Go p e below KK s₁ (mkF m 1 #[.val (.int p1), .val (.int p2), .unset, .unset, .unset, .unset, .unset] [(.int p1)])
  refine own_at (fun t k => XS.bipush X0.here hx rfl (hb hby at_1) k) ?_
  show own_Go p e below KK s₁ (mkF m 3 #[.val (.int p1), .val (.int p2), .unset, .unset, .unset, .unset, .unset] [(.int 15), (.int p1)])
  refine own_at (fun t k => XS.iand X0.here hx rfl (hb hby at_3) rfl k) ?_
  show own_Go p e below KK s₁ (mkF m 4 #[.val (.int p1), .val (.int p2), .unset, .unset, .unset, .unset, .unset] [(.int (p1 &&& (15 : Int32)))])
  obtain ⟨kk, hkk⟩ : ∃ z, z = (p1 &&& (15 : Int32)) := ⟨_, rfl⟩
  rw [← hkk]
  show own_Go p e below KK s₁ (mkF m 4 #[.val (.int p1), .val (.int p2), .unset, .unset, .unset, .unset, .unset] [(.int kk)])
  refine own_at (fun t k => XS.istoreN X0.here hx rfl (hb hby at_4) rfl (l' := #[.val (.int p1), .val (.int p2), .val (.int kk), .unset, .unset, .unset, .unset]) rfl k) ?_
  show own_Go p e below KK s₁ (mkF m 5 #[.val (.int p1), .val (.int p2), .val (.int kk), .unset, .unset, .unset, .unset] [])
  obtain ⟨_, _, ⟨T1, L1, k1, n1⟩, -, X1, ⟨Lc1, hQ1, l1, y1, z1⟩, st1⟩ := Jvm.LawKit.callS X0 hx (y := (⟨"com/example/hold_office/holdoffice/protocol/ConnectResponse", "refused", "()Lcom/example/hold_office/holdoffice/protocol/ConnectResponse;"⟩ : MethodName)) hown (mvT hZ (hw _ (List.mem_of_getElem? (i := 0) rfl))) (mvT hZ (hw _ (List.mem_of_getElem? (i := 1) rfl))) (mvT hZ (hw _ (List.mem_of_getElem? (i := 2) rfl))) (mvT hZ (hw _ (List.mem_of_getElem? (i := 3) rfl))) (by decide) (backOf (W := 0) (rm_ref l Z a0 hw []   h0 n0 Z0 ) hZ (hw _ (List.mem_of_getElem? (i := 3) rfl)) (hw _ (List.mem_of_getElem? (i := 2) rfl)) (by decide) (by decide)) (g := (mkF m 5 #[.val (.int p1), .val (.int p2), .val (.int kk), .unset, .unset, .unset, .unset] [])) rfl (by rw [hml]; rfl) (argsL := []) (rest := []) (lenOf pd___Lcom_example_hold_office_holdoffice_protocol_ConnectResponse_ rfl) rfl (by show 2 * 0 + _ ≤ _; exact Nat.le_of_eq rfl) (hb hby at_5) (fun _ _ => ⟨rfl, e0, (by decide : 0 + 2 ≤ _), (by decide : 0 + 19 ≤ _)⟩)
  dsimp only [Pt.U, Pt.locs, Pt.cells, Pt.slots] at X1 l1 y1 z1 st1 hQ1
  subst l1 y1 z1
  obtain ⟨r1, w1, rfl, N1q, K1, g_r1, g_w1, s_r1, s_w1, ne_r1_w1, Ex1, Fx1, Fy1, Fz1, Aq1⟩ := hQ1
  have Zs1 : n0 ≤ T1.heap.size := Nat.le_trans Z0 K1.1
  have E2_r1 : Exa Z T1.heap r1 "com/example/hold_office/holdoffice/protocol/ConnectResponse" := Ex1
  have F3_r1 : Fld Z T1.heap r1 "com/example/hold_office/holdoffice/protocol/ConnectResponse" "timeoutMs" "I" (.int 0) := Fx1
  have F4_r1 : Fld Z T1.heap r1 "com/example/hold_office/holdoffice/protocol/ConnectResponse" "sessionId" "J" (.long 0) := Fy1
  have F5_r1 : Fld Z T1.heap r1 "com/example/hold_office/holdoffice/protocol/ConnectResponse" "password" "[B" (.ref w1) := Fz1
  have A6_w1 : own_A Z T1.heap w1 "[B" .byte [(.int 0), (.int 0), (.int 0), (.int 0), (.int 0), (.int 0), (.int 0), (.int 0), (.int 0), (.int 0), (.int 0), (.int 0), (.int 0), (.int 0), (.int 0), (.int 0)] := Aq1
  have N1 := Fr.app N0 N1q
  refine own_of (fun t k => st1 t k) ?_
  show own_Go p e below KK T1 (mkF m 8 #[.val (.int p1), .val (.int p2), .val (.int kk), .unset, .unset, .unset, .unset] [(.ref r1)])
  refine own_at (fun t k => XS.astoreN X1.here hx rfl (hb hby at_8) rfl rfl (l' := #[.val (.int p1), .val (.int p2), .val (.int kk), .val (.ref r1), .unset, .unset, .unset]) rfl k) ?_
  show own_Go p e below KK T1 (mkF m 9 #[.val (.int p1), .val (.int p2), .val (.int kk), .val (.ref r1), .unset, .unset, .unset] [])
  refine own_at (fun t k => XS.aloadN X1.here hx rfl (hb hby at_9) rfl rfl k) ?_
  show own_Go p e below KK T1 (mkF m 10 #[.val (.int p1), .val (.int p2), .val (.int kk), .val (.ref r1), .unset, .unset, .unset] [(.ref r1)])
  obtain ⟨cq7, kq7, q7a, q7b, q7c⟩ := isOf hZ rfl E2_r1
  obtain ⟨_, _, ⟨T7, L7, k7, n7⟩, -, X7, ⟨Lc7, hQ7, l7, y7, z7⟩, st7⟩ := X1.virtualBack hx (y := (⟨"com/example/hold_office/holdoffice/protocol/ConnectResponse", "password", "()[B"⟩ : MethodName)) (z := (⟨"com/example/hold_office/holdoffice/protocol/ConnectResponse", "password", "()[B"⟩ : MethodName)) hown (mvT hZ (hw _ (List.mem_of_getElem? (i := 24) rfl))) (mvT hZ (hw _ (List.mem_of_getElem? (i := 25) rfl))) (notFace_of_selects (args := #[]) (mvT hZ (hw _ (List.mem_of_getElem? (i := 27) rfl)))) (mvT hZ (hw _ (List.mem_of_getElem? (i := 27) rfl))) (mvT hZ (hw _ (List.mem_of_getElem? (i := 26) rfl))) (by decide) (backOf (W := 0) (rm_get_password l Z a0 hw [] r1  w1 T1.heap n0 Zs1 F5_r1) hZ (hw _ (List.mem_of_getElem? (i := 28) rfl)) (hw _ (List.mem_of_getElem? (i := 2) rfl)) (by decide) (by decide)) q7a q7c (g := (mkF m 10 #[.val (.int p1), .val (.int p2), .val (.int kk), .val (.ref r1), .unset, .unset, .unset] [(.ref r1)])) rfl (by rw [hml]; rfl) (Steps.refl _) (argsL := []) (rest := []) (lenOf pd____B rfl) rfl (by show 2 * 0 + _ ≤ _; exact Nat.le_of_eq rfl) (hb hby at_10) (fun _ _ => ⟨rfl, rfl, (by decide : 2 + 0 ≤ _), (by decide : 19 + 0 ≤ _)⟩)
  dsimp only [Pt.U, Pt.locs, Pt.cells, Pt.slots] at X7 l7 y7 z7 st7 hQ7
  subst l7 y7 z7
  obtain ⟨rfl, N7q, e7⟩ := hQ7
  have N7 := Fr.app N1 N7q
  refine own_of (fun t k => st7.trans k) ?_
  show own_Go p e below KK T7 (mkF m 13 #[.val (.int p1), .val (.int p2), .val (.int kk), .val (.ref r1), .unset, .unset, .unset] [(.ref w1)])
  refine own_at (fun t k => XS.astore X7.here hx rfl (hb hby at_13) rfl rfl (l' := #[.val (.int p1), .val (.int p2), .val (.int kk), .val (.ref r1), .val (.ref w1), .unset, .unset]) rfl k) ?_
  show own_Go p e below KK T7 (mkF m 15 #[.val (.int p1), .val (.int p2), .val (.int kk), .val (.ref r1), .val (.ref w1), .unset, .unset] [])
  refine own_at (fun t k => XS.aloadN X7.here hx rfl (hb hby at_15) rfl rfl k) ?_
  show own_Go p e below KK T7 (mkF m 16 #[.val (.int p1), .val (.int p2), .val (.int kk), .val (.ref r1), .val (.ref w1), .unset, .unset] [(.ref r1)])
  obtain ⟨cq8, kq8, q8a, q8b, q8c⟩ := isOf hZ e7 E2_r1
  obtain ⟨_, _, ⟨T8, L8, k8, n8⟩, -, X8, ⟨Lc8, hQ8, l8, y8, z8⟩, st8⟩ := X7.virtualBack hx (y := (⟨"com/example/hold_office/holdoffice/protocol/ConnectResponse", "timeoutMs", "()I"⟩ : MethodName)) (z := (⟨"com/example/hold_office/holdoffice/protocol/ConnectResponse", "timeoutMs", "()I"⟩ : MethodName)) hown (mvT hZ (hw _ (List.mem_of_getElem? (i := 29) rfl))) (mvT hZ (hw _ (List.mem_of_getElem? (i := 30) rfl))) (notFace_of_selects (args := #[]) (mvT hZ (hw _ (List.mem_of_getElem? (i := 32) rfl)))) (mvT hZ (hw _ (List.mem_of_getElem? (i := 32) rfl))) (mvT hZ (hw _ (List.mem_of_getElem? (i := 31) rfl))) (by decide) (backOf (W := 0) (rm_get_timeoutMs l Z a0 hw [] r1  (0 : Int32) T1.heap n0 Zs1 F3_r1) hZ (hw _ (List.mem_of_getElem? (i := 33) rfl)) (hw _ (List.mem_of_getElem? (i := 2) rfl)) (by decide) (by decide)) q8a q8c (g := (mkF m 16 #[.val (.int p1), .val (.int p2), .val (.int kk), .val (.ref r1), .val (.ref w1), .unset, .unset] [(.ref r1)])) rfl (by rw [hml]; rfl) (Steps.refl _) (argsL := []) (rest := []) (lenOf pd___I rfl) rfl (by show 2 * 0 + _ ≤ _; exact Nat.le_of_eq rfl) (hb hby at_16) (fun _ _ => ⟨rfl, e7, (by decide : 2 + 0 ≤ _), (by decide : 19 + 0 ≤ _)⟩)
  dsimp only [Pt.U, Pt.locs, Pt.cells, Pt.slots] at X8 l8 y8 z8 st8 hQ8
  subst l8 y8 z8
  obtain ⟨rfl, N8q, e8⟩ := hQ8
  have N8 := Fr.app N7 N8q
  refine own_of (fun t k => st8.trans k) ?_
  show own_Go p e below KK T8 (mkF m 19 #[.val (.int p1), .val (.int p2), .val (.int kk), .val (.ref r1), .val (.ref w1), .unset, .unset] [(.int 0)])
  have hc19 : (0 : Int32) = (0 : Int32) := by decide
  refine own_at (fun t k => XS.ifNo X8.here hx rfl (hb hby at_19) rfl (Jvm.Free.XT.i0_ne_f hc19) k) ?_
  show own_Go p e below KK T8 (mkF m 22 #[.val (.int p1), .val (.int p2), .val (.int kk), .val (.ref r1), .val (.ref w1), .unset, .unset] [])
  refine own_at (fun t k => XS.aloadN X8.here hx rfl (hb hby at_22) rfl rfl k) ?_
  show own_Go p e below KK T8 (mkF m 23 #[.val (.int p1), .val (.int p2), .val (.int kk), .val (.ref r1), .val (.ref w1), .unset, .unset] [(.ref r1)])
  obtain ⟨cq9, kq9, q9a, q9b, q9c⟩ := isOf hZ e8 E2_r1
  obtain ⟨_, _, ⟨T9, L9, k9, n9⟩, -, X9, ⟨Lc9, hQ9, l9, y9, z9⟩, st9⟩ := X8.virtualBack hx (y := (⟨"com/example/hold_office/holdoffice/protocol/ConnectResponse", "sessionId", "()J"⟩ : MethodName)) (z := (⟨"com/example/hold_office/holdoffice/protocol/ConnectResponse", "sessionId", "()J"⟩ : MethodName)) hown (mvT hZ (hw _ (List.mem_of_getElem? (i := 34) rfl))) (mvT hZ (hw _ (List.mem_of_getElem? (i := 35) rfl))) (notFace_of_selects (args := #[]) (mvT hZ (hw _ (List.mem_of_getElem? (i := 37) rfl)))) (mvT hZ (hw _ (List.mem_of_getElem? (i := 37) rfl))) (mvT hZ (hw _ (List.mem_of_getElem? (i := 36) rfl))) (by decide) (backOf (W := 0) (rm_get_sessionId l Z a0 hw [] r1  (0 : Int64) T1.heap n0 Zs1 F4_r1) hZ (hw _ (List.mem_of_getElem? (i := 38) rfl)) (hw _ (List.mem_of_getElem? (i := 2) rfl)) (by decide) (by decide)) q9a q9c (g := (mkF m 23 #[.val (.int p1), .val (.int p2), .val (.int kk), .val (.ref r1), .val (.ref w1), .unset, .unset] [(.ref r1)])) rfl (by rw [hml]; rfl) (Steps.refl _) (argsL := []) (rest := []) (lenOf pd___J rfl) rfl (by show 2 * 0 + _ ≤ _; exact Nat.le_of_eq rfl) (hb hby at_23) (fun _ _ => ⟨rfl, e8, (by decide : 2 + 0 ≤ _), (by decide : 19 + 0 ≤ _)⟩)
  dsimp only [Pt.U, Pt.locs, Pt.cells, Pt.slots] at X9 l9 y9 z9 st9 hQ9
  subst l9 y9 z9
  obtain ⟨rfl, N9q, e9⟩ := hQ9
  have N9 := Fr.app N8 N9q
  refine own_of (fun t k => st9.trans k) ?_
  show own_Go p e below KK T9 (mkF m 26 #[.val (.int p1), .val (.int p2), .val (.int kk), .val (.ref r1), .val (.ref w1), .unset, .unset] [(.long 0)])
  refine own_at (fun t k => XS.lconst X9.here hx rfl (hb hby at_26) k) ?_
  show own_Go p e below KK T9 (mkF m 27 #[.val (.int p1), .val (.int p2), .val (.int kk), .val (.ref r1), .val (.ref w1), .unset, .unset] [(.long 0), (.long 0)])
  refine own_at (fun t k => Jvm.Free.XT.lcmp X9.here hx rfl (hb hby at_27) rfl k) ?_
  show own_Go p e below KK T9 (mkF m 28 #[.val (.int p1), .val (.int p2), .val (.int kk), .val (.ref r1), .val (.ref w1), .unset, .unset] [(.int (Jvm.Free.XT.cmpL (0 : Int64) (0 : Int64)))])
  have hc28 : (0 : Int64) = (0 : Int64) := by decide
  refine own_at (fun t k => XS.ifNo X9.here hx rfl (hb hby at_28) rfl (Jvm.Free.XT.ll_ne_f hc28) k) ?_
  show own_Go p e below KK T9 (mkF m 31 #[.val (.int p1), .val (.int p2), .val (.int kk), .val (.ref r1), .val (.ref w1), .unset, .unset] [])
  refine own_at (fun t k => XS.aload X9.here hx rfl (hb hby at_31) rfl rfl k) ?_
  show own_Go p e below KK T9 (mkF m 33 #[.val (.int p1), .val (.int p2), .val (.int kk), .val (.ref r1), .val (.ref w1), .unset, .unset] [(.ref w1)])
  refine own_at (fun t k => XS.ifnullNo X9.here hx rfl (hb hby at_33) rfl k) ?_
  show own_Go p e below KK T9 (mkF m 36 #[.val (.int p1), .val (.int p2), .val (.int kk), .val (.ref r1), .val (.ref w1), .unset, .unset] [])
  refine own_at (fun t k => XS.aload X9.here hx rfl (hb hby at_36) rfl rfl k) ?_
  show own_Go p e below KK T9 (mkF m 38 #[.val (.int p1), .val (.int p2), .val (.int kk), .val (.ref r1), .val (.ref w1), .unset, .unset] [(.ref w1)])
  refine own_at (fun t k => own_len X9 hx hZ e9 A6_w1 (N := (16 : Int32)) (show (16 : Nat).toInt32 = (16 : Int32) from by decide) (g := (mkF m 38 #[.val (.int p1), .val (.int p2), .val (.int kk), .val (.ref r1), .val (.ref w1), .unset, .unset] [(.ref w1)])) rfl rfl (hb hby at_38) t k) ?_
  show own_Go p e below KK T9 (mkF m 39 #[.val (.int p1), .val (.int p2), .val (.int kk), .val (.ref r1), .val (.ref w1), .unset, .unset] [(.int 16)])
  refine own_at (fun t k => XS.bipush X9.here hx rfl (hb hby at_39) k) ?_
  show own_Go p e below KK T9 (mkF m 41 #[.val (.int p1), .val (.int p2), .val (.int kk), .val (.ref r1), .val (.ref w1), .unset, .unset] [(.int 16), (.int 16)])
  have hc41 : (16 : Int32) = (16 : Int32) := by decide
  refine own_at (fun t k => XS.icmpYes X9.here hx rfl (pc0 := 41) (pc' := 46) rfl (hb hby at_41) rfl (Jvm.Free.XT.ii_eq_t hc41) (by decide) (by decide) k) ?_
  show own_Go p e below KK T9 (mkF m 46 #[.val (.int p1), .val (.int p2), .val (.int kk), .val (.ref r1), .val (.ref w1), .unset, .unset] [])
  refine own_at (fun t k => XS.aload X9.here hx rfl (hb hby at_46) rfl rfl k) ?_
  show own_Go p e below KK T9 (mkF m 48 #[.val (.int p1), .val (.int p2), .val (.int kk), .val (.ref r1), .val (.ref w1), .unset, .unset] [(.ref w1)])
  refine own_at (fun t k => XS.iloadN X9.here hx rfl (hb hby at_48) rfl k) ?_
  show own_Go p e below KK T9 (mkF m 49 #[.val (.int p1), .val (.int p2), .val (.int kk), .val (.ref r1), .val (.ref w1), .unset, .unset] [(.int kk), (.ref w1)])
  refine own_at (fun t k => own_ldB X9 hx hZ e9 A6_w1 (j := kk) (i := kk.toNatClampNeg) (v := (.int 0)) (own_idx hkk).1 rfl (own_idx hkk).2.2 (g := (mkF m 49 #[.val (.int p1), .val (.int p2), .val (.int kk), .val (.ref r1), .val (.ref w1), .unset, .unset] [(.int kk), (.ref w1)])) rfl rfl (hb hby at_49) t k) ?_
  show own_Go p e below KK T9 (mkF m 50 #[.val (.int p1), .val (.int p2), .val (.int kk), .val (.ref r1), .val (.ref w1), .unset, .unset] [(.int 0)])
  have hc50 : (0 : Int32) = (0 : Int32) := by decide
  refine own_at (fun t k => XS.ifYes X9.here hx rfl (pc0 := 50) (pc' := 55) rfl (hb hby at_50) rfl (Jvm.Free.XT.i0_eq_t hc50) (by decide) (by decide) k) ?_
  show own_Go p e below KK T9 (mkF m 55 #[.val (.int p1), .val (.int p2), .val (.int kk), .val (.ref r1), .val (.ref w1), .unset, .unset] [])
  refine own_at (fun t k => XS.aload X9.here hx rfl (hb hby at_55) rfl rfl k) ?_
  show own_Go p e below KK T9 (mkF m 57 #[.val (.int p1), .val (.int p2), .val (.int kk), .val (.ref r1), .val (.ref w1), .unset, .unset] [(.ref w1)])
  refine own_at (fun t k => XS.iloadN X9.here hx rfl (hb hby at_57) rfl k) ?_
  show own_Go p e below KK T9 (mkF m 58 #[.val (.int p1), .val (.int p2), .val (.int kk), .val (.ref r1), .val (.ref w1), .unset, .unset] [(.int kk), (.ref w1)])
  refine own_at (fun t k => XS.iloadN X9.here hx rfl (hb hby at_58) rfl k) ?_
  show own_Go p e below KK T9 (mkF m 59 #[.val (.int p1), .val (.int p2), .val (.int kk), .val (.ref r1), .val (.ref w1), .unset, .unset] [(.int p2), (.int kk), (.ref w1)])
  refine own_at (fun t k => XS.iconst X9.here hx rfl (hb hby at_59) k) ?_
  show own_Go p e below KK T9 (mkF m 60 #[.val (.int p1), .val (.int p2), .val (.int kk), .val (.ref r1), .val (.ref w1), .unset, .unset] [(.int 1), (.int p2), (.int kk), (.ref w1)])
  refine own_at (fun t k => XS.ior X9.here hx rfl (hb hby at_60) rfl k) ?_
  show own_Go p e below KK T9 (mkF m 61 #[.val (.int p1), .val (.int p2), .val (.int kk), .val (.ref r1), .val (.ref w1), .unset, .unset] [(.int (p2 ||| (1 : Int32))), (.int kk), (.ref w1)])
  refine own_at (fun t k => XS.i2b X9.here hx rfl (hb hby at_61) rfl k) ?_
  show own_Go p e below KK T9 (mkF m 62 #[.val (.int p1), .val (.int p2), .val (.int kk), .val (.ref r1), .val (.ref w1), .unset, .unset] [(.int ((p2 ||| (1 : Int32)).toInt8.toInt32)), (.int kk), (.ref w1)])
  obtain ⟨T10, h10, X10, e10, W10, V10, st10⟩ := own_stB X9 hx hZ e9 A6_w1 (j := kk) (y := ((p2 ||| (1 : Int32)).toInt8.toInt32)) (own_narB _) (i := kk.toNatClampNeg) (own_idx hkk).1 rfl (own_idx hkk).2.1 (g := (mkF m 62 #[.val (.int p1), .val (.int p2), .val (.int kk), .val (.ref r1), .val (.ref w1), .unset, .unset] [(.int ((p2 ||| (1 : Int32)).toInt8.toInt32)), (.int kk), (.ref w1)])) rfl rfl (hb hby at_62)
  have N10 := Fr.snoc X10 N9 g_w1
  have E2_r1_h10 : Exa Z h10 r1 "com/example/hold_office/holdoffice/protocol/ConnectResponse" := E2_r1.wr W10
  have F3_r1_h10 : Fld Z h10 r1 "com/example/hold_office/holdoffice/protocol/ConnectResponse" "timeoutMs" "I" (.int 0) := F3_r1.other W10 (Or.inl ne_r1_w1)
  have F4_r1_h10 : Fld Z h10 r1 "com/example/hold_office/holdoffice/protocol/ConnectResponse" "sessionId" "J" (.long 0) := F4_r1.other W10 (Or.inl ne_r1_w1)
  have F5_r1_h10 : Fld Z h10 r1 "com/example/hold_office/holdoffice/protocol/ConnectResponse" "password" "[B" (.ref w1) := F5_r1.other W10 (Or.inl ne_r1_w1)
  have Zs10 : n0 ≤ h10.size := (by rw [W10.size]; exact Zs1)
  have A11_w1 : own_A Z h10 w1 "[B" .byte ([(.int 0), (.int 0), (.int 0), (.int 0), (.int 0), (.int 0), (.int 0), (.int 0), (.int 0), (.int 0), (.int 0), (.int 0), (.int 0), (.int 0), (.int 0), (.int 0)].set kk.toNatClampNeg (.int ((p2 ||| (1 : Int32)).toInt8.toInt32))) := V10
  refine own_of (fun t k => st10 t k) ?_
  show own_Go p e below KK T10 (mkF m 63 #[.val (.int p1), .val (.int p2), .val (.int kk), .val (.ref r1), .val (.ref w1), .unset, .unset] [])
  obtain ⟨_, _, ⟨T12, L12, k12, n12⟩, -, X12, ⟨Lc12, hQ12, l12, y12, z12⟩, st12⟩ := Jvm.LawKit.callS X10 hx (y := (⟨"com/example/hold_office/holdoffice/protocol/ConnectResponse", "refused", "()Lcom/example/hold_office/holdoffice/protocol/ConnectResponse;"⟩ : MethodName)) hown (mvT hZ (hw _ (List.mem_of_getElem? (i := 0) rfl))) (mvT hZ (hw _ (List.mem_of_getElem? (i := 1) rfl))) (mvT hZ (hw _ (List.mem_of_getElem? (i := 2) rfl))) (mvT hZ (hw _ (List.mem_of_getElem? (i := 3) rfl))) (by decide) (backOf (W := 0) (rm_ref l Z a0 hw []   h10 n0 Zs10 ) hZ (hw _ (List.mem_of_getElem? (i := 3) rfl)) (hw _ (List.mem_of_getElem? (i := 2) rfl)) (by decide) (by decide)) (g := (mkF m 63 #[.val (.int p1), .val (.int p2), .val (.int kk), .val (.ref r1), .val (.ref w1), .unset, .unset] [])) rfl (by rw [hml]; rfl) (argsL := []) (rest := []) (lenOf pd___Lcom_example_hold_office_holdoffice_protocol_ConnectResponse_ rfl) rfl (by show 2 * 0 + _ ≤ _; exact Nat.le_of_eq rfl) (hb hby at_63) (fun _ _ => ⟨rfl, e10, (by decide : 2 + 2 ≤ _), (by decide : 19 + 19 ≤ _)⟩)
  dsimp only [Pt.U, Pt.locs, Pt.cells, Pt.slots] at X12 l12 y12 z12 st12 hQ12
  subst l12 y12 z12
  obtain ⟨r12, w12, rfl, N12q, K12, g_r12, g_w12, s_r12, s_w12, ne_r12_w12, Ex12, Fx12, Fy12, Fz12, Aq12⟩ := hQ12
  have ne_r1_r12 : r1 ≠ r12 := Nat.ne_of_lt (Nat.lt_of_lt_of_le E2_r1_h10.lt s_r12)
  have ne_r1_w12 : r1 ≠ w12 := Nat.ne_of_lt (Nat.lt_of_lt_of_le E2_r1_h10.lt s_w12)
  have ne_w1_r12 : w1 ≠ r12 := Nat.ne_of_lt (Nat.lt_of_lt_of_le A11_w1.lt s_r12)
  have ne_w1_w12 : w1 ≠ w12 := Nat.ne_of_lt (Nat.lt_of_lt_of_le A11_w1.lt s_w12)
  have E2_r1_h12 : Exa Z T12.heap r1 "com/example/hold_office/holdoffice/protocol/ConnectResponse" := E2_r1_h10.keep K12
  have F3_r1_h12 : Fld Z T12.heap r1 "com/example/hold_office/holdoffice/protocol/ConnectResponse" "timeoutMs" "I" (.int 0) := F3_r1_h10.keep K12 nin0
  have F4_r1_h12 : Fld Z T12.heap r1 "com/example/hold_office/holdoffice/protocol/ConnectResponse" "sessionId" "J" (.long 0) := F4_r1_h10.keep K12 nin0
  have F5_r1_h12 : Fld Z T12.heap r1 "com/example/hold_office/holdoffice/protocol/ConnectResponse" "password" "[B" (.ref w1) := F5_r1_h10.keep K12 nin0
  have A11_w1_h12 : own_A Z T12.heap w1 "[B" .byte ([(.int 0), (.int 0), (.int 0), (.int 0), (.int 0), (.int 0), (.int 0), (.int 0), (.int 0), (.int 0), (.int 0), (.int 0), (.int 0), (.int 0), (.int 0), (.int 0)].set kk.toNatClampNeg (.int ((p2 ||| (1 : Int32)).toInt8.toInt32))) := A11_w1.keep K12 nin0
  have Zs12 : n0 ≤ T12.heap.size := Nat.le_trans Zs10 K12.1
  have E13_r12 : Exa Z T12.heap r12 "com/example/hold_office/holdoffice/protocol/ConnectResponse" := Ex12
  have F14_r12 : Fld Z T12.heap r12 "com/example/hold_office/holdoffice/protocol/ConnectResponse" "timeoutMs" "I" (.int 0) := Fx12
  have F15_r12 : Fld Z T12.heap r12 "com/example/hold_office/holdoffice/protocol/ConnectResponse" "sessionId" "J" (.long 0) := Fy12
  have F16_r12 : Fld Z T12.heap r12 "com/example/hold_office/holdoffice/protocol/ConnectResponse" "password" "[B" (.ref w12) := Fz12
  have A17_w12 : own_A Z T12.heap w12 "[B" .byte [(.int 0), (.int 0), (.int 0), (.int 0), (.int 0), (.int 0), (.int 0), (.int 0), (.int 0), (.int 0), (.int 0), (.int 0), (.int 0), (.int 0), (.int 0), (.int 0)] := Aq12
  have N12 := Fr.app N10 N12q
  refine own_of (fun t k => st12 t k) ?_
  show own_Go p e below KK T12 (mkF m 66 #[.val (.int p1), .val (.int p2), .val (.int kk), .val (.ref r1), .val (.ref w1), .unset, .unset] [(.ref r12)])
  refine own_at (fun t k => XS.astore X12.here hx rfl (hb hby at_66) rfl rfl (l' := #[.val (.int p1), .val (.int p2), .val (.int kk), .val (.ref r1), .val (.ref w1), .val (.ref r12), .unset]) rfl k) ?_
  show own_Go p e below KK T12 (mkF m 68 #[.val (.int p1), .val (.int p2), .val (.int kk), .val (.ref r1), .val (.ref w1), .val (.ref r12), .unset] [])
  refine own_at (fun t k => XS.aload X12.here hx rfl (hb hby at_68) rfl rfl k) ?_
  show own_Go p e below KK T12 (mkF m 70 #[.val (.int p1), .val (.int p2), .val (.int kk), .val (.ref r1), .val (.ref w1), .val (.ref r12), .unset] [(.ref r12)])
  obtain ⟨cq18, kq18, q18a, q18b, q18c⟩ := isOf hZ rfl E13_r12
  obtain ⟨_, _, ⟨T18, L18, k18, n18⟩, -, X18, ⟨Lc18, hQ18, l18, y18, z18⟩, st18⟩ := X12.virtualBack hx (y := (⟨"com/example/hold_office/holdoffice/protocol/ConnectResponse", "password", "()[B"⟩ : MethodName)) (z := (⟨"com/example/hold_office/holdoffice/protocol/ConnectResponse", "password", "()[B"⟩ : MethodName)) hown (mvT hZ (hw _ (List.mem_of_getElem? (i := 24) rfl))) (mvT hZ (hw _ (List.mem_of_getElem? (i := 25) rfl))) (notFace_of_selects (args := #[]) (mvT hZ (hw _ (List.mem_of_getElem? (i := 27) rfl)))) (mvT hZ (hw _ (List.mem_of_getElem? (i := 27) rfl))) (mvT hZ (hw _ (List.mem_of_getElem? (i := 26) rfl))) (by decide) (backOf (W := 0) (rm_get_password l Z a0 hw [] r12  w12 T12.heap n0 Zs12 F16_r12) hZ (hw _ (List.mem_of_getElem? (i := 28) rfl)) (hw _ (List.mem_of_getElem? (i := 2) rfl)) (by decide) (by decide)) q18a q18c (g := (mkF m 70 #[.val (.int p1), .val (.int p2), .val (.int kk), .val (.ref r1), .val (.ref w1), .val (.ref r12), .unset] [(.ref r12)])) rfl (by rw [hml]; rfl) (Steps.refl _) (argsL := []) (rest := []) (lenOf pd____B rfl) rfl (by show 2 * 0 + _ ≤ _; exact Nat.le_of_eq rfl) (hb hby at_70) (fun _ _ => ⟨rfl, rfl, (by decide : 4 + 0 ≤ _), (by decide : 38 + 0 ≤ _)⟩)
  dsimp only [Pt.U, Pt.locs, Pt.cells, Pt.slots] at X18 l18 y18 z18 st18 hQ18
  subst l18 y18 z18
  obtain ⟨rfl, N18q, e18⟩ := hQ18
  have N18 := Fr.app N12 N18q
  refine own_of (fun t k => st18.trans k) ?_
  show own_Go p e below KK T18 (mkF m 73 #[.val (.int p1), .val (.int p2), .val (.int kk), .val (.ref r1), .val (.ref w1), .val (.ref r12), .unset] [(.ref w12)])
  refine own_at (fun t k => XS.astore X18.here hx rfl (hb hby at_73) rfl rfl (l' := #[.val (.int p1), .val (.int p2), .val (.int kk), .val (.ref r1), .val (.ref w1), .val (.ref r12), .val (.ref w12)]) rfl k) ?_
  show own_Go p e below KK T18 (mkF m 75 #[.val (.int p1), .val (.int p2), .val (.int kk), .val (.ref r1), .val (.ref w1), .val (.ref r12), .val (.ref w12)] [])
  refine own_at (fun t k => XS.aload X18.here hx rfl (hb hby at_75) rfl rfl k) ?_
  show own_Go p e below KK T18 (mkF m 77 #[.val (.int p1), .val (.int p2), .val (.int kk), .val (.ref r1), .val (.ref w1), .val (.ref r12), .val (.ref w12)] [(.ref r12)])
  obtain ⟨cq19, kq19, q19a, q19b, q19c⟩ := isOf hZ e18 E13_r12
  obtain ⟨_, _, ⟨T19, L19, k19, n19⟩, -, X19, ⟨Lc19, hQ19, l19, y19, z19⟩, st19⟩ := X18.virtualBack hx (y := (⟨"com/example/hold_office/holdoffice/protocol/ConnectResponse", "timeoutMs", "()I"⟩ : MethodName)) (z := (⟨"com/example/hold_office/holdoffice/protocol/ConnectResponse", "timeoutMs", "()I"⟩ : MethodName)) hown (mvT hZ (hw _ (List.mem_of_getElem? (i := 29) rfl))) (mvT hZ (hw _ (List.mem_of_getElem? (i := 30) rfl))) (notFace_of_selects (args := #[]) (mvT hZ (hw _ (List.mem_of_getElem? (i := 32) rfl)))) (mvT hZ (hw _ (List.mem_of_getElem? (i := 32) rfl))) (mvT hZ (hw _ (List.mem_of_getElem? (i := 31) rfl))) (by decide) (backOf (W := 0) (rm_get_timeoutMs l Z a0 hw [] r12  (0 : Int32) T12.heap n0 Zs12 F14_r12) hZ (hw _ (List.mem_of_getElem? (i := 33) rfl)) (hw _ (List.mem_of_getElem? (i := 2) rfl)) (by decide) (by decide)) q19a q19c (g := (mkF m 77 #[.val (.int p1), .val (.int p2), .val (.int kk), .val (.ref r1), .val (.ref w1), .val (.ref r12), .val (.ref w12)] [(.ref r12)])) rfl (by rw [hml]; rfl) (Steps.refl _) (argsL := []) (rest := []) (lenOf pd___I rfl) rfl (by show 2 * 0 + _ ≤ _; exact Nat.le_of_eq rfl) (hb hby at_77) (fun _ _ => ⟨rfl, e18, (by decide : 4 + 0 ≤ _), (by decide : 38 + 0 ≤ _)⟩)
  dsimp only [Pt.U, Pt.locs, Pt.cells, Pt.slots] at X19 l19 y19 z19 st19 hQ19
  subst l19 y19 z19
  obtain ⟨rfl, N19q, e19⟩ := hQ19
  have N19 := Fr.app N18 N19q
  refine own_of (fun t k => st19.trans k) ?_
  show own_Go p e below KK T19 (mkF m 80 #[.val (.int p1), .val (.int p2), .val (.int kk), .val (.ref r1), .val (.ref w1), .val (.ref r12), .val (.ref w12)] [(.int 0)])
  have hc80 : (0 : Int32) = (0 : Int32) := by decide
  refine own_at (fun t k => XS.ifNo X19.here hx rfl (hb hby at_80) rfl (Jvm.Free.XT.i0_ne_f hc80) k) ?_
  show own_Go p e below KK T19 (mkF m 83 #[.val (.int p1), .val (.int p2), .val (.int kk), .val (.ref r1), .val (.ref w1), .val (.ref r12), .val (.ref w12)] [])
  refine own_at (fun t k => XS.aload X19.here hx rfl (hb hby at_83) rfl rfl k) ?_
  show own_Go p e below KK T19 (mkF m 85 #[.val (.int p1), .val (.int p2), .val (.int kk), .val (.ref r1), .val (.ref w1), .val (.ref r12), .val (.ref w12)] [(.ref r12)])
  obtain ⟨cq20, kq20, q20a, q20b, q20c⟩ := isOf hZ e19 E13_r12
  obtain ⟨_, _, ⟨T20, L20, k20, n20⟩, -, X20, ⟨Lc20, hQ20, l20, y20, z20⟩, st20⟩ := X19.virtualBack hx (y := (⟨"com/example/hold_office/holdoffice/protocol/ConnectResponse", "sessionId", "()J"⟩ : MethodName)) (z := (⟨"com/example/hold_office/holdoffice/protocol/ConnectResponse", "sessionId", "()J"⟩ : MethodName)) hown (mvT hZ (hw _ (List.mem_of_getElem? (i := 34) rfl))) (mvT hZ (hw _ (List.mem_of_getElem? (i := 35) rfl))) (notFace_of_selects (args := #[]) (mvT hZ (hw _ (List.mem_of_getElem? (i := 37) rfl)))) (mvT hZ (hw _ (List.mem_of_getElem? (i := 37) rfl))) (mvT hZ (hw _ (List.mem_of_getElem? (i := 36) rfl))) (by decide) (backOf (W := 0) (rm_get_sessionId l Z a0 hw [] r12  (0 : Int64) T12.heap n0 Zs12 F15_r12) hZ (hw _ (List.mem_of_getElem? (i := 38) rfl)) (hw _ (List.mem_of_getElem? (i := 2) rfl)) (by decide) (by decide)) q20a q20c (g := (mkF m 85 #[.val (.int p1), .val (.int p2), .val (.int kk), .val (.ref r1), .val (.ref w1), .val (.ref r12), .val (.ref w12)] [(.ref r12)])) rfl (by rw [hml]; rfl) (Steps.refl _) (argsL := []) (rest := []) (lenOf pd___J rfl) rfl (by show 2 * 0 + _ ≤ _; exact Nat.le_of_eq rfl) (hb hby at_85) (fun _ _ => ⟨rfl, e19, (by decide : 4 + 0 ≤ _), (by decide : 38 + 0 ≤ _)⟩)
  dsimp only [Pt.U, Pt.locs, Pt.cells, Pt.slots] at X20 l20 y20 z20 st20 hQ20
  subst l20 y20 z20
  obtain ⟨rfl, N20q, e20⟩ := hQ20
  have N20 := Fr.app N19 N20q
  refine own_of (fun t k => st20.trans k) ?_
  show own_Go p e below KK T20 (mkF m 88 #[.val (.int p1), .val (.int p2), .val (.int kk), .val (.ref r1), .val (.ref w1), .val (.ref r12), .val (.ref w12)] [(.long 0)])
  refine own_at (fun t k => XS.lconst X20.here hx rfl (hb hby at_88) k) ?_
  show own_Go p e below KK T20 (mkF m 89 #[.val (.int p1), .val (.int p2), .val (.int kk), .val (.ref r1), .val (.ref w1), .val (.ref r12), .val (.ref w12)] [(.long 0), (.long 0)])
  refine own_at (fun t k => Jvm.Free.XT.lcmp X20.here hx rfl (hb hby at_89) rfl k) ?_
  show own_Go p e below KK T20 (mkF m 90 #[.val (.int p1), .val (.int p2), .val (.int kk), .val (.ref r1), .val (.ref w1), .val (.ref r12), .val (.ref w12)] [(.int (Jvm.Free.XT.cmpL (0 : Int64) (0 : Int64)))])
  have hc90 : (0 : Int64) = (0 : Int64) := by decide
  refine own_at (fun t k => XS.ifNo X20.here hx rfl (hb hby at_90) rfl (Jvm.Free.XT.ll_ne_f hc90) k) ?_
  show own_Go p e below KK T20 (mkF m 93 #[.val (.int p1), .val (.int p2), .val (.int kk), .val (.ref r1), .val (.ref w1), .val (.ref r12), .val (.ref w12)] [])
  refine own_at (fun t k => XS.aload X20.here hx rfl (hb hby at_93) rfl rfl k) ?_
  show own_Go p e below KK T20 (mkF m 95 #[.val (.int p1), .val (.int p2), .val (.int kk), .val (.ref r1), .val (.ref w1), .val (.ref r12), .val (.ref w12)] [(.ref w12)])
  refine own_at (fun t k => XS.ifnullNo X20.here hx rfl (hb hby at_95) rfl k) ?_
  show own_Go p e below KK T20 (mkF m 98 #[.val (.int p1), .val (.int p2), .val (.int kk), .val (.ref r1), .val (.ref w1), .val (.ref r12), .val (.ref w12)] [])
  refine own_at (fun t k => XS.aload X20.here hx rfl (hb hby at_98) rfl rfl k) ?_
  show own_Go p e below KK T20 (mkF m 100 #[.val (.int p1), .val (.int p2), .val (.int kk), .val (.ref r1), .val (.ref w1), .val (.ref r12), .val (.ref w12)] [(.ref w12)])
  refine own_at (fun t k => own_len X20 hx hZ e20 A17_w12 (N := (16 : Int32)) (show (16 : Nat).toInt32 = (16 : Int32) from by decide) (g := (mkF m 100 #[.val (.int p1), .val (.int p2), .val (.int kk), .val (.ref r1), .val (.ref w1), .val (.ref r12), .val (.ref w12)] [(.ref w12)])) rfl rfl (hb hby at_100) t k) ?_
  show own_Go p e below KK T20 (mkF m 101 #[.val (.int p1), .val (.int p2), .val (.int kk), .val (.ref r1), .val (.ref w1), .val (.ref r12), .val (.ref w12)] [(.int 16)])
  refine own_at (fun t k => XS.bipush X20.here hx rfl (hb hby at_101) k) ?_
  show own_Go p e below KK T20 (mkF m 103 #[.val (.int p1), .val (.int p2), .val (.int kk), .val (.ref r1), .val (.ref w1), .val (.ref r12), .val (.ref w12)] [(.int 16), (.int 16)])
  have hc103 : (16 : Int32) = (16 : Int32) := by decide
  refine own_at (fun t k => XS.icmpYes X20.here hx rfl (pc0 := 103) (pc' := 108) rfl (hb hby at_103) rfl (Jvm.Free.XT.ii_eq_t hc103) (by decide) (by decide) k) ?_
  show own_Go p e below KK T20 (mkF m 108 #[.val (.int p1), .val (.int p2), .val (.int kk), .val (.ref r1), .val (.ref w1), .val (.ref r12), .val (.ref w12)] [])
  refine own_at (fun t k => XS.aload X20.here hx rfl (hb hby at_108) rfl rfl k) ?_
  show own_Go p e below KK T20 (mkF m 110 #[.val (.int p1), .val (.int p2), .val (.int kk), .val (.ref r1), .val (.ref w1), .val (.ref r12), .val (.ref w12)] [(.ref w12)])
  refine own_at (fun t k => XS.iloadN X20.here hx rfl (hb hby at_110) rfl k) ?_
  show own_Go p e below KK T20 (mkF m 111 #[.val (.int p1), .val (.int p2), .val (.int kk), .val (.ref r1), .val (.ref w1), .val (.ref r12), .val (.ref w12)] [(.int kk), (.ref w12)])
  refine own_at (fun t k => own_ldB X20 hx hZ e20 A17_w12 (j := kk) (i := kk.toNatClampNeg) (v := (.int 0)) (own_idx hkk).1 rfl (own_idx hkk).2.2 (g := (mkF m 111 #[.val (.int p1), .val (.int p2), .val (.int kk), .val (.ref r1), .val (.ref w1), .val (.ref r12), .val (.ref w12)] [(.int kk), (.ref w12)])) rfl rfl (hb hby at_111) t k) ?_
  show own_Go p e below KK T20 (mkF m 112 #[.val (.int p1), .val (.int p2), .val (.int kk), .val (.ref r1), .val (.ref w1), .val (.ref r12), .val (.ref w12)] [(.int 0)])
  have hc112 : (0 : Int32) = (0 : Int32) := by decide
  refine own_at (fun t k => XS.ifNo X20.here hx rfl (hb hby at_112) rfl (Jvm.Free.XT.i0_ne_f hc112) k) ?_
  show own_Go p e below KK T20 (mkF m 115 #[.val (.int p1), .val (.int p2), .val (.int kk), .val (.ref r1), .val (.ref w1), .val (.ref r12), .val (.ref w12)] [])
  refine own_at (fun t k => XS.iconst X20.here hx rfl (hb hby at_115) k) ?_
  show own_Go p e below KK T20 (mkF m 116 #[.val (.int p1), .val (.int p2), .val (.int kk), .val (.ref r1), .val (.ref w1), .val (.ref r12), .val (.ref w12)] [(.int 1)])
  refine own_at (fun t k => XS.goto X20.here hx rfl (pc0 := 116) (pc' := 120) rfl (hb hby at_116) (by decide) (by decide) k) ?_
  show own_Go p e below KK T20 (mkF m 120 #[.val (.int p1), .val (.int p2), .val (.int kk), .val (.ref r1), .val (.ref w1), .val (.ref r12), .val (.ref w12)] [(.int 1)])
  subst hKK
  exact own_retN X20 hx hlk (t := .boolean) Bd.returns (by simp) (hb hby at_120) (w := (1 : Int32)) (show nar .boolean (1 : Int32) = 1 from by decide) ⟨rfl, N20⟩ (Nat.le_of_ble_eq_true rfl) (Nat.le_of_ble_eq_true rfl)
set_option maxRecDepth 65536 in
set_option maxHeartbeats 40000000 in
theorem comes_1 {Post : Tables → Env → Array Value → State → Outcome → State → Prop} (hpost : ∀ tb e args s v u, (limb_1_1.after args s (.returned v) u = true ∧ limb_1_2.after args s (.returned v) u = true ∧ True) → FrameEnd s (.returned v) u (Jvm.fieldLocs frame_1_writes args s ++ Jvm.arrayLocs frame_1_arrays args s ++ Jvm.staticLocs frame_1_statics s) 16 192 → Post tb e args s (.returned v) u) :
    ArmFor flags0 classFile x code maxLocals ret World_1 tables_1 room_1 Calls_1 rest_1 Pre_1 Post := by
  intro l hfl _ _ p e ha hc hk s m args below hf hA hF happ hP
  obtain ⟨hcalls, hrest, hpre⟩ := hP
  obtain ⟨-, -, -, hnamed, -, -, -, hat⟩ := (Spec.applies_iff hf).mp happ
  obtain ⟨hg, hn⟩ := and_e (Cond.before_iff.mp (show (Jvm.Cond.and given_1 narrow_1).before args s = true from hpre))
  obtain ⟨gc, g0⟩ := and_e hg
  obtain ⟨u0, g1⟩ := and_e g0
  obtain ⟨w0, w1, rfl⟩ : ∃ w0 w1 : Value, args = #[w0, w1] := by
    have hs : args.size = 2 := by simpa [Cond.value, given_1] using gc
    obtain ⟨L⟩ := args
    match L, hs with
    | [w0, w1], _ => exact ⟨w0, w1, rfl⟩
  have hw := fun d (hd : d ∈ tables_1) => atoms_spec (ws := Jvm.Cond.code x code maxLocals ret :: tables_1) hat d (List.mem_cons_of_mem _ hd)
  obtain ⟨i0, ei0⟩ := is_v u0
  obtain rfl : w0 = (.int i0) := Option.some.inj ei0
  obtain ⟨i1, ei1⟩ := is_v g1
  obtain rfl : w1 = (.int i1) := Option.some.inj ei1
  obtain ⟨n, o, h1, h2, h3, _, L, rfl, ⟨rfl, N⟩, hq⟩ := rm_law l s _ hw tables_1 i0 i1 s.heap s.heap.size (Nat.le_refl _) p e ha hc hk s m _ below hf ((Spec.applies_iff_loose hf).mp happ).1 ⟨rfl, State.Warmed39.refl s, rfl⟩ trivial
  refine ⟨n, _, h1, h2, h3, hpost _ _ _ _ _ _ ⟨Cond.after_iff.mpr rfl, Cond.after_iff.mpr (eq_i res_at (Term.int_eval (1)) rfl), trivial⟩ ⟨hq.1, hq.2.1, (hq.2.2.sift fun y hy => Or.inr (N y hy)).mono (by decide) (by decide)⟩⟩
theorem main_1_1 : Claimed_1_1 := comes_1 fun _ _ _ _ _ _ h hF => ⟨h.1, hF⟩
theorem main_1_2 : Claimed_1_2 := comes_1 fun _ _ _ _ _ _ h hF => ⟨h.2.1, hF⟩
end Jvm.Pilot.@@N@@
namespace Jvm.Pilot.@@N@@
open Jvm Jvm.ClassFile Sem Op Lib Jvm.Free Jvm.Stand Jvm.Pilot.@@N@@.Jvm.D
/-! MADE BY PROGRAM (witnessworld.py) out of the Statement's table words and the real class files: 10 classes; the members and pool entries that the words name. The judged class is class 1, her method 1. -/
namespace start1
open Jvm.ClassFile
def u (s : String) : CpInfo := .utf8 (stringToUtf16 s)
/-- a pool by its gaps: so many unusable entries, then the entry; so many at the end -/
def gap : Nat → List CpInfo → List CpInfo
  | 0, r => r
  | n + 1, r => .unusable :: gap n r
def poolList (es : List (Nat × CpInfo)) (last : Nat) : List CpInfo := es.foldr (fun e r => gap e.1 (e.2 :: r)) (gap last [])
def pool (es : List (Nat × CpInfo)) (last : Nat) : Array CpInfo := ⟨poolList es last⟩
def fileOf (pool : Array CpInfo) (this : Nat) (attrs : Array Attribute := #[]) (ms : Array MethodInfo := #[]) (fl : Nat := 33) (sup : Nat := 0) (ifs : Array Nat := #[]) (fds : Array FieldInfo := #[]) : ClassFile where
  minorVersion := 0
  majorVersion := 65
  constantPool := pool
  accessFlags := fl
  thisClass := this
  superClass := sup
  interfaces := ifs
  fields := fds
  methods := ms
  attributes := attrs
def plain (name : String) (sup : Option ClassId) : Class where
  name := name
  kind := .ordinary
  loader := none
  accessFlags := 33
  super := sup
  interfaces := #[]
  cf := none
  fields := #[]
  methods := #[]
  instanceTypes := #[]
  staticTypes := #[]
  resolved := #[]
  callSites := []
  init := .initialized
  statics := none
  mirror := none

def pool0 : Array CpInfo := pool [(5, u "<init>"), (0, u "()V"), (1, .class_ 10), (1, u "java/lang/Object")] 113

def k0c0 : Code := { maxStack := 0, maxLocals := 1, code := object_method_1_code, exceptionTable := #[], attributes := #[] }
def k0m0 : Method := { name := "<init>", desc := "()V", sig := { parameters := [], returnType := none }, accessFlags := 1, code := some k0c0 }
/-- java/lang/Object -/
def k0 : Class := { plain "java/lang/Object" none with
  accessFlags := 33
  interfaces := #[]
  cf := some (fileOf pool0 8 #[] #[{ accessFlags := 1, nameIndex := 5, descriptorIndex := 6, attributes := #[] }] 33 0 #[] #[])
  fields := #[]
  methods := #[k0m0]
  instanceTypes := #[]
  staticTypes := #[]
  resolved := Array.replicate 124 none
  statics := none }

def pool1 : Array CpInfo := pool [(2, .class_ 4), (1, u "java/lang/Object"), (0, u "<init>"), (0, u "()V"), (0, .methodref 8 9), (0, .class_ 10), (0, .nameAndType 11 12), (0, u "com/example/hold_office/holdoffice/protocol/ConnectResponse"), (0, u "refused"), (0, u "()Lcom/example/hold_office/holdoffice/protocol/ConnectResponse;"), (0, .methodref 8 14), (0, .nameAndType 15 16), (0, u "password"), (0, u "()[B"), (0, .methodref 8 18), (0, .nameAndType 19 20), (0, u "timeoutMs"), (0, u "()I"), (0, .methodref 8 22), (0, .nameAndType 23 24), (0, u "sessionId"), (0, u "()J"), (0, .class_ 26), (0, u "com/example/hold_office/holdoffice/protocol/ConnectResponseRefusedPinLaw"), (2, u "law"), (0, u "(II)Z")] 5

def k1m0 : Method := { name := "<init>", desc := "()V", sig := { parameters := [], returnType := none }, accessFlags := 1, code := none }
def k1c1 : Code := { maxStack := 4, maxLocals := 7, code := code, exceptionTable := #[], attributes := #[] }
def k1m1 : Method := { name := "law", desc := "(II)Z", sig := { parameters := [.int, .int], returnType := some .boolean }, accessFlags := 9, code := some k1c1 }
/-- com/example/hold_office/holdoffice/protocol/ConnectResponseRefusedPinLaw -/
def k1 : Class := { plain "com/example/hold_office/holdoffice/protocol/ConnectResponseRefusedPinLaw" (some 0) with
  accessFlags := 49
  interfaces := #[]
  cf := some (fileOf pool1 25 #[] #[{ accessFlags := 1, nameIndex := 5, descriptorIndex := 6, attributes := #[] }, { accessFlags := 9, nameIndex := 29, descriptorIndex := 30, attributes := #[] }] 49 2 #[] #[])
  fields := #[]
  methods := #[k1m0, k1m1]
  instanceTypes := #[]
  staticTypes := #[]
  resolved := Array.replicate 36 none
  statics := none }

def pool2 : Array CpInfo := pool [(1, .methodref 2 3), (0, .class_ 4), (0, .nameAndType 5 6), (0, u "java/lang/Object"), (0, u "<init>"), (0, u "()V"), (0, .class_ 8), (0, u "java/lang/Record")] 13

def k2c0 : Code := { maxStack := 1, maxLocals := 1, code := jdk_30_method_1_code, exceptionTable := #[], attributes := #[] }
def k2m0 : Method := { name := "<init>", desc := "()V", sig := { parameters := [], returnType := none }, accessFlags := 4, code := some k2c0 }
/-- java/lang/Record -/
def k2 : Class := { plain "java/lang/Record" (some 0) with
  accessFlags := 1057
  interfaces := #[]
  cf := some (fileOf pool2 7 #[] #[{ accessFlags := 4, nameIndex := 5, descriptorIndex := 6, attributes := #[] }] 1057 2 #[] #[])
  fields := #[]
  methods := #[k2m0]
  instanceTypes := #[]
  staticTypes := #[]
  resolved := Array.replicate 22 none
  statics := none }

def pool3 : Array CpInfo := pool [(1, .methodref 2 3), (0, .class_ 4), (0, .nameAndType 5 6), (0, u "java/lang/Record"), (0, u "<init>"), (0, u "()V"), (0, .fieldref 8 9), (0, .class_ 10), (0, .nameAndType 11 12), (0, u "com/example/hold_office/holdoffice/protocol/ConnectResponse"), (0, u "timeoutMs"), (0, u "I"), (0, .fieldref 8 14), (0, .nameAndType 15 16), (0, u "sessionId"), (0, u "J"), (0, .fieldref 8 18), (0, .nameAndType 19 20), (0, u "password"), (0, u "[B"), (0, .methodref 8 22), (0, .nameAndType 5 23), (0, u "(IJ[B)V"), (8, u "()I"), (3, u "()J"), (3, u "()[B"), (34, u "PROTOCOL_VERSION"), (2, u "PASSWORD_LENGTH"), (4, u "refused"), (0, u "()Lcom/example/hold_office/holdoffice/protocol/ConnectResponse;")] 29

def k3c0 : Code := { maxStack := 3, maxLocals := 5, code := prog_46_method_1_code, exceptionTable := #[], attributes := #[] }
def k3m0 : Method := { name := "<init>", desc := "(IJ[B)V", sig := { parameters := [.int, .long, (.array .byte)], returnType := none }, accessFlags := 1, code := some k3c0 }
def k3c1 : Code := { maxStack := 6, maxLocals := 0, code := prog_46_method_2_code, exceptionTable := #[], attributes := #[] }
def k3m1 : Method := { name := "refused", desc := "()Lcom/example/hold_office/holdoffice/protocol/ConnectResponse;", sig := { parameters := [], returnType := some (.object "com/example/hold_office/holdoffice/protocol/ConnectResponse") }, accessFlags := 9, code := some k3c1 }
def k3c2 : Code := { maxStack := 1, maxLocals := 1, code := prog_46_method_8_code, exceptionTable := #[], attributes := #[] }
def k3m2 : Method := { name := "timeoutMs", desc := "()I", sig := { parameters := [], returnType := some .int }, accessFlags := 1, code := some k3c2 }
def k3c3 : Code := { maxStack := 2, maxLocals := 1, code := prog_46_method_9_code, exceptionTable := #[], attributes := #[] }
def k3m3 : Method := { name := "sessionId", desc := "()J", sig := { parameters := [], returnType := some .long }, accessFlags := 1, code := some k3c3 }
def k3c4 : Code := { maxStack := 1, maxLocals := 1, code := prog_46_method_10_code, exceptionTable := #[], attributes := #[] }
def k3m4 : Method := { name := "password", desc := "()[B", sig := { parameters := [], returnType := some (.array .byte) }, accessFlags := 1, code := some k3c4 }
/-- com/example/hold_office/holdoffice/protocol/ConnectResponse -/
def k3 : Class := { plain "com/example/hold_office/holdoffice/protocol/ConnectResponse" (some 2) with
  accessFlags := 49
  interfaces := #[]
  cf := some (fileOf pool3 8 #[] #[{ accessFlags := 1, nameIndex := 5, descriptorIndex := 23, attributes := #[] }, { accessFlags := 9, nameIndex := 83, descriptorIndex := 84, attributes := #[] }, { accessFlags := 1, nameIndex := 11, descriptorIndex := 32, attributes := #[] }, { accessFlags := 1, nameIndex := 15, descriptorIndex := 36, attributes := #[] }, { accessFlags := 1, nameIndex := 19, descriptorIndex := 40, attributes := #[] }] 49 2 #[] #[{ accessFlags := 18, nameIndex := 11, descriptorIndex := 12, attributes := #[] }, { accessFlags := 18, nameIndex := 15, descriptorIndex := 16, attributes := #[] }, { accessFlags := 18, nameIndex := 19, descriptorIndex := 20, attributes := #[] }, { accessFlags := 25, nameIndex := 75, descriptorIndex := 12, attributes := #[] }, { accessFlags := 25, nameIndex := 78, descriptorIndex := 12, attributes := #[] }])
  fields := #[{ name := "timeoutMs", type := .int, accessFlags := 18, slot := 0, constantValue := 0 }, { name := "sessionId", type := .long, accessFlags := 18, slot := 1, constantValue := 0 }, { name := "password", type := (.array .byte), accessFlags := 18, slot := 2, constantValue := 0 }, { name := "PROTOCOL_VERSION", type := .int, accessFlags := 25, slot := 0, constantValue := 0 }, { name := "PASSWORD_LENGTH", type := .int, accessFlags := 25, slot := 1, constantValue := 0 }]
  methods := #[k3m0, k3m1, k3m2, k3m3, k3m4]
  instanceTypes := #[.int, .long, (.array .byte)]
  staticTypes := #[.int, .int]
  resolved := Array.replicate 114 none
  statics := none }

def pool4 : Array CpInfo := pool [(1, u "java/lang/Cloneable"), (0, .class_ 1), (0, u "java/lang/Object"), (0, .class_ 3)] 3

/-- java/lang/Cloneable -/
def k4 : Class := { plain "java/lang/Cloneable" (some 0) with
  accessFlags := 1537
  interfaces := #[]
  cf := some (fileOf pool4 2 #[] #[] 1537 4 #[] #[])
  fields := #[]
  methods := #[]
  instanceTypes := #[]
  staticTypes := #[]
  resolved := Array.replicate 8 none
  statics := none }

def pool5 : Array CpInfo := pool [(1, u "java/io/Serializable"), (0, .class_ 1), (0, u "java/lang/Object"), (0, .class_ 3)] 3

/-- java/io/Serializable -/
def k5 : Class := { plain "java/io/Serializable" (some 0) with
  accessFlags := 1537
  interfaces := #[]
  cf := some (fileOf pool5 2 #[] #[] 1537 4 #[] #[])
  fields := #[]
  methods := #[]
  instanceTypes := #[]
  staticTypes := #[]
  resolved := Array.replicate 8 none
  statics := none }

/-- the primitive byte -/
def k6 : Class := { plain "byte" none with kind := .primitive 'B', accessFlags := 0x411 }
/-- [B -/
def k7 : Class := { plain "[B" (some 0) with kind := .array 6 .byte, interfaces := #[4, 5], accessFlags := 1041 }

/-- the primitive int -/
def k8 : Class := { plain "int" none with kind := .primitive 'I', accessFlags := 0x411 }
/-- [I -/
def k9 : Class := { plain "[I" (some 0) with kind := .array 8 .int, interfaces := #[4, 5], accessFlags := 1041 }

def heap : Heap := #[]
def classes : Array Class := #[k0, k1, k2, k3, k4, k5, k6, k7, k8, k9]
def interned : List (Array UInt16 × Addr) := []
def slotsUsed : Nat := 0
def theMethod : MethodId := ⟨1, 1⟩
def args0 : Array Value := #[.int 5, .int 6]
def aboutOver (below : List Frame) : State where
  vm := { classes := classes, interned := interned.toArray }
  heap := heap
  slotsUsed := slotsUsed
  threads := #[{ frames := .invoking theMethod args0 :: below }]
def below0 : List Frame := [.native { method := ⟨0, 0⟩, args := #[] }]
def about1 : State := aboutOver below0
def p0 : Program := .bare "" "" ""
def e0 : Env := launch0.env 0 0 0
theorem w_frames : about1.frames = Frame.invoking theMethod args0 :: below0 := rfl
set_option maxRecDepth 65536 in
theorem w_args : argsFit about1.vm theMethod args0 = true := by decide +kernel
set_option maxRecDepth 65536 in
theorem w_heap : heapFits about1 = true := by decide +kernel
set_option maxRecDepth 65536 in
theorem w_runnable : about1.curStatus? = some .runnable := by decide +kernel
set_option maxRecDepth 65536 in
theorem w_alone : about1.alone = true := by decide +kernel
set_option maxRecDepth 65536 in
theorem w_named : about1.methodNamed? x = some theMethod := by decide +kernel
set_option maxRecDepth 65536 in
theorem w_hears : about1.hears theMethod below0 = true := by decide +kernel
set_option maxRecDepth 65536 in
theorem w_ripe : about1.ripe theMethod args0 below0 = true := by decide +kernel
theorem w_running : about1.status = .running := rfl
set_option maxRecDepth 65536 in
theorem w_room : about1.hasRoom e0.platform room_1 = true :=
  launch0.hasRoom_least _ room_1 (by decide +kernel) (by decide +kernel) (by decide +kernel) (by decide +kernel) (by decide +kernel) (by decide +kernel)
theorem allAtoms_all (ts : List Jvm.Cond) (a : Array Jvm.Value) (st : Jvm.State) : (allAtoms ts).before a st = ts.all (fun c => c.before a st) := by
  induction ts with
  | nil => rfl
  | cons c t ih =>
    show (Jvm.Cond.and c (allAtoms t)).before a st = _
    rw [Jvm.Cond.before_and, ih, List.all_cons]
def words1 : List Jvm.Cond := Jvm.Cond.code x code maxLocals ret :: tables_1
/-- a 'code' word, met by the world's own term for the bytes: nothing is compared byte by byte -/
theorem code_word {y : MethodName} {bytes : ByteArray} {mx : Nat} {rt : Option FieldType} {a : Array Value} {s : State} {m : MethodId} {meth : Method} {c : Code} (h1 : s.methodNamed? y = some m) (h2 : s.vm.method? m = some meth) (h3 : meth.code = some c) (h4 : c.code = bytes)
    (h5 : (c.maxLocals == mx && c.exceptionTable.isEmpty && decide (c.maxStack ≤ mostOperands) && decide (meth.sig.returnType = rt) && !meth.locks && decide (parseMethodDescriptor y.desc = some meth.sig)) = true) : (Jvm.Cond.code y bytes mx rt).before a s = true := by
  simp only [Bool.and_eq_true, beq_iff_eq, Bool.not_eq_true', decide_eq_true_eq] at h5
  obtain ⟨⟨⟨⟨⟨g1, g2⟩, g3⟩, g4⟩, g5⟩, g6⟩ := h5
  simp [Cond.before, Cond.holds, Cond.value, h1, h2, h3, h4, g1, g2, g3, g4, g5, g6]
def isCode : Jvm.Cond → Bool
  | .code _ _ _ _ => true
  | _ => false
theorem all_split {L : List Jvm.Cond} {P : Jvm.Cond → Bool} (h1 : L.all (fun c => isCode c || P c) = true) (h2 : ∀ c ∈ L.filter isCode, P c = true) : L.all P = true := by
  refine List.all_eq_true.mpr fun c hc => ?_
  have h := List.all_eq_true.mp h1 c hc
  rcases Bool.eq_false_or_eq_true (isCode c) with hi | hi
  · exact h2 c (List.mem_filter.mpr ⟨hc, hi⟩)
  · simpa [hi] using h
set_option maxRecDepth 65536 in
theorem w_c0 : (Jvm.Cond.code x code maxLocals ret).before args0 about1 = true := code_word (m := ⟨1, 1⟩) (meth := k1m1) (c := k1c1) (by decide +kernel) rfl rfl rfl (by decide +kernel)
set_option maxRecDepth 65536 in
theorem w_c1 : (Jvm.Cond.code ({ cls := "com/example/hold_office/holdoffice/protocol/ConnectResponse", name := "refused", desc := "()Lcom/example/hold_office/holdoffice/protocol/ConnectResponse;" } : Jvm.MethodName) prog_46_method_2_code (0 : Nat) (Option.some (Jvm.ClassFile.FieldType.object "com/example/hold_office/holdoffice/protocol/ConnectResponse"))).before args0 about1 = true := code_word (m := ⟨3, 1⟩) (meth := k3m1) (c := k3c1) (by decide +kernel) rfl rfl rfl (by decide +kernel)
set_option maxRecDepth 65536 in
theorem w_c2 : (Jvm.Cond.code ({ cls := "com/example/hold_office/holdoffice/protocol/ConnectResponse", name := "<init>", desc := "(IJ[B)V" } : Jvm.MethodName) prog_46_method_1_code (5 : Nat) (Option.none : Option Jvm.ClassFile.FieldType)).before args0 about1 = true := code_word (m := ⟨3, 0⟩) (meth := k3m0) (c := k3c0) (by decide +kernel) rfl rfl rfl (by decide +kernel)
set_option maxRecDepth 65536 in
theorem w_c3 : (Jvm.Cond.code ({ cls := "java/lang/Record", name := "<init>", desc := "()V" } : Jvm.MethodName) jdk_30_method_1_code (1 : Nat) (Option.none : Option Jvm.ClassFile.FieldType)).before args0 about1 = true := code_word (m := ⟨2, 0⟩) (meth := k2m0) (c := k2c0) (by decide +kernel) rfl rfl rfl (by decide +kernel)
set_option maxRecDepth 65536 in
theorem w_c4 : (Jvm.Cond.code ({ cls := "java/lang/Object", name := "<init>", desc := "()V" } : Jvm.MethodName) object_method_1_code (1 : Nat) (Option.none : Option Jvm.ClassFile.FieldType)).before args0 about1 = true := code_word (m := ⟨0, 0⟩) (meth := k0m0) (c := k0c0) (by decide +kernel) rfl rfl rfl (by decide +kernel)
set_option maxRecDepth 65536 in
theorem w_c5 : (Jvm.Cond.code ({ cls := "com/example/hold_office/holdoffice/protocol/ConnectResponse", name := "password", desc := "()[B" } : Jvm.MethodName) prog_46_method_10_code (1 : Nat) (Option.some (Jvm.ClassFile.FieldType.array Jvm.ClassFile.FieldType.byte))).before args0 about1 = true := code_word (m := ⟨3, 4⟩) (meth := k3m4) (c := k3c4) (by decide +kernel) rfl rfl rfl (by decide +kernel)
set_option maxRecDepth 65536 in
theorem w_c6 : (Jvm.Cond.code ({ cls := "com/example/hold_office/holdoffice/protocol/ConnectResponse", name := "timeoutMs", desc := "()I" } : Jvm.MethodName) prog_46_method_8_code (1 : Nat) (Option.some Jvm.ClassFile.FieldType.int)).before args0 about1 = true := code_word (m := ⟨3, 2⟩) (meth := k3m2) (c := k3c2) (by decide +kernel) rfl rfl rfl (by decide +kernel)
set_option maxRecDepth 65536 in
theorem w_c7 : (Jvm.Cond.code ({ cls := "com/example/hold_office/holdoffice/protocol/ConnectResponse", name := "sessionId", desc := "()J" } : Jvm.MethodName) prog_46_method_9_code (1 : Nat) (Option.some Jvm.ClassFile.FieldType.long)).before args0 about1 = true := code_word (m := ⟨3, 3⟩) (meth := k3m3) (c := k3c3) (by decide +kernel) rfl rfl rfl (by decide +kernel)
def codes1 : List Jvm.Cond := [Jvm.Cond.code x code maxLocals ret, Jvm.Cond.code ({ cls := "com/example/hold_office/holdoffice/protocol/ConnectResponse", name := "refused", desc := "()Lcom/example/hold_office/holdoffice/protocol/ConnectResponse;" } : Jvm.MethodName) prog_46_method_2_code (0 : Nat) (Option.some (Jvm.ClassFile.FieldType.object "com/example/hold_office/holdoffice/protocol/ConnectResponse")), Jvm.Cond.code ({ cls := "com/example/hold_office/holdoffice/protocol/ConnectResponse", name := "<init>", desc := "(IJ[B)V" } : Jvm.MethodName) prog_46_method_1_code (5 : Nat) (Option.none : Option Jvm.ClassFile.FieldType), Jvm.Cond.code ({ cls := "java/lang/Record", name := "<init>", desc := "()V" } : Jvm.MethodName) jdk_30_method_1_code (1 : Nat) (Option.none : Option Jvm.ClassFile.FieldType), Jvm.Cond.code ({ cls := "java/lang/Object", name := "<init>", desc := "()V" } : Jvm.MethodName) object_method_1_code (1 : Nat) (Option.none : Option Jvm.ClassFile.FieldType), Jvm.Cond.code ({ cls := "com/example/hold_office/holdoffice/protocol/ConnectResponse", name := "password", desc := "()[B" } : Jvm.MethodName) prog_46_method_10_code (1 : Nat) (Option.some (Jvm.ClassFile.FieldType.array Jvm.ClassFile.FieldType.byte)), Jvm.Cond.code ({ cls := "com/example/hold_office/holdoffice/protocol/ConnectResponse", name := "timeoutMs", desc := "()I" } : Jvm.MethodName) prog_46_method_8_code (1 : Nat) (Option.some Jvm.ClassFile.FieldType.int), Jvm.Cond.code ({ cls := "com/example/hold_office/holdoffice/protocol/ConnectResponse", name := "sessionId", desc := "()J" } : Jvm.MethodName) prog_46_method_9_code (1 : Nat) (Option.some Jvm.ClassFile.FieldType.long)]
set_option maxRecDepth 65536 in
theorem codes_eq : words1.filter isCode = codes1 := rfl
theorem w_codes : ∀ c ∈ words1.filter isCode, c.before args0 about1 = true := by
  rw [codes_eq]
  intro c hc
  simp only [codes1, List.mem_cons, List.not_mem_nil, or_false] at hc
  rcases hc with rfl | rfl | rfl | rfl | rfl | rfl | rfl | rfl
  · exact w_c0
  · exact w_c1
  · exact w_c2
  · exact w_c3
  · exact w_c4
  · exact w_c5
  · exact w_c6
  · exact w_c7
set_option maxRecDepth 65536 in
theorem w_t1 : (words1.take 24).all (fun c => isCode c || c.before args0 about1) = true := by decide +kernel
set_option maxRecDepth 65536 in
theorem w_t2 : (words1.drop 24).all (fun c => isCode c || c.before args0 about1) = true := by decide +kernel
theorem w_tables : (allAtoms (Jvm.Cond.code x code maxLocals ret :: tables_1)).before args0 about1 = true := by
  rw [allAtoms_all]
  show words1.all (fun c => c.before args0 about1) = true
  refine all_split ?_ w_codes
  rw [← List.take_append_drop 24 words1, List.all_append, w_t1, w_t2]
  rfl
set_option maxRecDepth 65536 in
theorem w_case : (Jvm.Cond.and given_1 narrow_1).before args0 about1 = true := by decide +kernel
theorem w_applies : (headSpec (Jvm.Cond.code x code maxLocals ret :: tables_1) room_1).applies x e0.platform about1 = true :=
  (Spec.applies_iff w_frames).mpr ⟨w_running, w_runnable, w_alone, w_named, w_hears, w_ripe, w_room, w_tables⟩
theorem atStart : AtStart classFile x code maxLocals ret World_1 tables_1 room_1 Calls_1 rest_1 Pre_1 launch0 p0 e0 about1 theMethod args0 below0 :=
  ⟨lists_1, trivial, launch0.admits_env _ _ _, launch0.least_env, fairChoices_fair.cas, fairChoices_fair.clock, w_frames, w_args, w_heap, w_applies, trivial, trivial, w_case⟩
end start1
theorem witness_1 : WitnessClaimed_1 := ⟨start1.p0, start1.e0, start1.about1, start1.theMethod, start1.args0, start1.below0, start1.atStart⟩
end Jvm.Pilot.@@N@@
