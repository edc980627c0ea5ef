import JvmDerived
import JvmDerived.Pilot.@@N@@Statement
import JvmDerived.Pilot.@@N@@Code
set_option linter.unusedVariables false
set_option linter.unusedSimpArgs false
namespace Jvm.Pilot.@@N@@
open Jvm Jvm.ClassFile Sem Op Lib Jvm.Free Jvm.Stand Jvm.LawKit Jvm.RoadKit Bundle Jvm.Pilot.@@N@@.Jvm.D
section OwnKit
/-- from the frame f at T the run comes to an end that K takes -/
def own_Go (p : Program) (e : Env) (below : List Frame) (K : Outcome → State → Prop) (T : State) (f : JFrame) : Prop :=
  ∃ s₂ o, Steps p.tables e below (T.setTop f) s₂ ∧ s₂.status = .running ∧ Ended s₂ below o ∧ K o s₂
def own_K (s : State) (Q : Option Value → Heap → List Loc → Prop) (cc ss : Nat) (o : Outcome) (U : State) : Prop :=
  ∃ v L, o = .returned v ∧ Q v U.heap L ∧ FrameEnd s o U L cc ss
variable {p : Program} {l : Launch} {e : Env} {R : Room} {s : State} {m : MethodId} {args : Array Value} {below : List Frame} {meth : Method} {c : Code} {T T' : State} {locs : List Loc} {cells slots : Nat} {K : Outcome → State → Prop} {Q : Option Value → Heap → List Loc → Prop} {cc ss : Nat} {f f' : JFrame}
theorem own_of (h : ∀ t, Steps p.tables e below (T'.setTop f') t → Steps p.tables e below (T.setTop f) t) (k : own_Go p e below K T' f') : own_Go p e below K T f := by
  obtain ⟨s2, o, h1, r⟩ := k
  exact ⟨s2, o, h _ h1, r⟩
theorem own_at (h : ∀ t, Steps p.tables e below (T.setTop f') t → Steps p.tables e below (T.setTop f) t) (k : own_Go p e below K T f') : own_Go p e below K T f := own_of h k
theorem own_cast (q : f = f') (k : own_Go p e below K T f') : own_Go p e below K T f := q ▸ k
theorem own_end (X : Stand p l e R s m args below meth c T locs cells slots) (hlk : meth.locks = false) {v : Option Value} (hv : meth.sig.returnType = none → v = none) (hq : Q v T.heap locs) (h1 : cells ≤ cc) (h2 : slots ≤ ss)
    (hs : ∀ fs, (∀ (f : JFrame) (acts : List Action), f.method = m → f.locked = none → f.entered = [] → (doReturn e (T.setTop f) acts v).1 = T.setFrames fs) → Steps p.tables e below (T.setTop f) (T.setFrames fs)) : own_Go p e below (own_K s Q cc ss) T f := by
  obtain ⟨fs, hr, hrun, hended, hW, hsame⟩ := X.leave (v := v) hv hlk
  exact ⟨_, _, hs fs hr, hrun, hended, _, _, rfl, hq, ⟨_, rfl⟩, hW, hsame.mono h1 h2⟩
theorem own_retN (X : Stand p l e R s m args below meth c T locs cells slots) (hx : p.tables.exec = Jvm.exec) (hlk : meth.locks = false) {pc : Nat} {Ls : Array Slot} {z w : Int32} {t : FieldType} {rest : List Value} (hret : meth.sig.returnType = some t) (ht : t = .boolean ∨ t = .byte ∨ t = .char ∨ t = .short)
    (hd : decode c.code pc = .ok (.ireturn, 1)) (hw : nar t z = w) (hq : Q (some (.int w)) T.heap locs) (h1 : cells ≤ cc) (h2 : slots ≤ ss) : own_Go p e below (own_K s Q cc ss) T (mkF m pc Ls (.int z :: rest)) := by
  subst hw
  exact own_end X hlk (fun h => by rw [hret] at h; cases h) hq h1 h2 fun fs hr => retN X hx hret ht hd hr
theorem own_retI (X : Stand p l e R s m args below meth c T locs cells slots) (hx : p.tables.exec = Jvm.exec) (hlk : meth.locks = false) {pc : Nat} {Ls : Array Slot} {z w : Int32} {rest : List Value} (hret : meth.sig.returnType = some .int)
    (hd : decode c.code pc = .ok (.ireturn, 1)) (hw : z = w) (hq : Q (some (.int w)) T.heap locs) (h1 : cells ≤ cc) (h2 : slots ≤ ss) : own_Go p e below (own_K s Q cc ss) T (mkF m pc Ls (.int z :: rest)) := by
  subst hw
  refine own_end X hlk (fun h => by rw [hret] at h; cases h) hq h1 h2 fun fs hr => ?_
  have hm' : T.vm.method? m = some meth := X.method'
  have hn : narrow .int (.int z) = .int z := rfl
  show Steps p.tables e below (T.setTop { method := m, pc := pc, locals := Ls, stack := _ :: rest, locked := none }) _
  jvm_step X.here [X.here.top, hx, hd, hm', hret, hn]
  first | (intro acts; rw [hr _ acts rfl rfl rfl]) | rw [hr _ _ rfl rfl rfl]
  exact Steps.refl _
theorem own_retJ (X : Stand p l e R s m args below meth c T locs cells slots) (hx : p.tables.exec = Jvm.exec) (hlk : meth.locks = false) {pc : Nat} {Ls : Array Slot} {z w : Int64} (hret : meth.sig.returnType = some .long)
    (hd : decode c.code pc = .ok (.lreturn, 1)) (hw : z = w) (hq : Q (some (.long w)) T.heap locs) (h1 : cells ≤ cc) (h2 : slots ≤ ss) : own_Go p e below (own_K s Q cc ss) T (mkF m pc Ls [.long z]) := by
  subst hw
  exact own_end X hlk (fun h => by rw [hret] at h; cases h) hq h1 h2 fun fs hr => X.lreturnOut hx hret hd hr
theorem own_retA (X : Stand p l e R s m args below meth c T locs cells slots) (hx : p.tables.exec = Jvm.exec) (hlk : meth.locks = false) {pc : Nat} {Ls : Array Slot} {z : Value} {ty : FieldType} {rest : List Value} (hz : z.isRef = true) (hret : meth.sig.returnType = some ty) (hty : ty.isReference = true)
    (hd : decode c.code pc = .ok (.areturn, 1)) (hq : Q (some z) T.heap locs) (h1 : cells ≤ cc) (h2 : slots ≤ ss) : own_Go p e below (own_K s Q cc ss) T (mkF m pc Ls (z :: rest)) := by
  refine own_end X hlk (fun h => by rw [hret] at h; cases h) hq h1 h2 fun fs hr => ?_
  have hm' : T.vm.method? m = some meth := X.method'
  show Steps p.tables e below (T.setTop { method := m, pc := pc, locals := Ls, stack := _ :: rest, locked := none }) _
  jvm_step X.here [X.here.top, hx, hd, hm', hret, hz, hty]
  first | (intro acts; rw [hr _ acts rfl rfl rfl]) | rw [hr _ _ rfl rfl rfl]
  exact Steps.refl _
theorem own_retV (X : Stand p l e R s m args below meth c T locs cells slots) (hx : p.tables.exec = Jvm.exec) (hlk : meth.locks = false) {pc : Nat} {Ls : Array Slot} (hret : meth.sig.returnType = none)
    (hd : decode c.code pc = .ok (.return_, 1)) (hq : Q none T.heap locs) (h1 : cells ≤ cc) (h2 : slots ≤ ss) : own_Go p e below (own_K s Q cc ss) T (mkF m pc Ls []) :=
  own_end X hlk (fun _ => rfl) hq h1 h2 fun fs hr => X.returnOut hx hret hd hr
theorem own_ne {i k : Int32} {z : Int} (hz : k.toInt = z) (h : ¬ i = k) : ¬ (z = i.toInt) := fun q => h (Int32.toInt_inj.mp (q.symm.trans hz.symm))
theorem own_lsw {tb : Tables} [Ours tb] {target : State} {g : JFrame} (h : At T m c below) (hx : tb.exec = Jvm.exec) (hg : g.method = m) {dflt o : Int} {prs : Array (Int × Int)} {len pc0 pc' : Nat} (hpc : g.pc = pc0) (hd : decode c.code g.pc = .ok (.lookupswitch dflt prs, len)) {i : Int32} {rest : List Value} (hs : g.stack = .int i :: rest)
    (hso : (prs.toList.zip (prs.toList.drop 1)).all (fun (a, next) => a.1 < next.1) = true) (hof : lookupswitch.offset prs.toList dflt i.toInt = o) (ho : 0 ≤ (pc0 : Int) + o) (hp : ((pc0 : Int) + o).toNat = pc')
    (hr : Steps tb e below (T.setTop { g with pc := pc', stack := rest }) target) : Steps tb e below (T.setTop g) target := by
  subst hg hpc hp hof
  jvm_step h [h.top, hx, hd, hs, ho, lookupswitch.wp_chain]
  exact ⟨by simpa using hso, hr⟩
theorem own_nar01 {z : Int32} (h : z = 0 ∨ z = 1) : nar .boolean z = z := by rcases h with rfl | rfl <;> decide
theorem own_narB (x : Int32) : nar .byte x.toInt8.toInt32 = x.toInt8.toInt32 := Value.int.inj (Jvm.Free.XT.narrow_b x)
theorem own_narC (x : Int32) : nar .char x.toUInt32.toUInt16.toUInt32.toInt32 = x.toUInt32.toUInt16.toUInt32.toInt32 := Value.int.inj (Jvm.Free.XT.narrow_c x)
end OwnKit
/-- a body that writes nothing and returns w -/
def own_P (w : Value) (h0 : Heap) (n0 : Nat) (v : Option Value) (h : Heap) (L : List Loc) : Prop := v = some w ∧ Fr n0 L ∧ h = h0
section OwnArr
/-- an array by its class's name, its components' kind, and what it holds -/
def own_A (Z : State) (h : Heap) (a : Addr) (d : String) (ty : FieldType) (vs : List Value) : Prop :=
  ∃ c : Cell, Arr Z h a c ty ∧ Z.vm.findClass d = some c.cls ∧ c.slots = vs.toArray ∧ ∀ v ∈ vs, fits ty v = true
variable {p : Program} {l : Launch} {e : Env} {R : Room} {s : State} {m : MethodId} {args : Array Value} {below : List Frame} {meth : Method} {c : Code} {T : State} {locs : List Loc} {cells slots : Nat} {Z : State} {a0 : Array Value} {h h' : Heap} {a b : Addr} {d : String} {ty : FieldType} {vs : List Value} {sl : Nat} {v w : Value} {ws : List Addr}
theorem own_A.lt (F : own_A Z h a d ty vs) : a < h.size := by obtain ⟨c, A, -⟩ := F; exact A.lt
theorem own_A.ext (F : own_A Z h a d ty vs) (E : Ext h h') : own_A Z h' a d ty vs := by obtain ⟨c, A, r⟩ := F; exact ⟨c, A.ext E, r⟩
theorem own_A.other (F : own_A Z h b d ty vs) (W : Wr h h' a sl v) (q : b ≠ a) : own_A Z h' b d ty vs := by obtain ⟨c, A, r⟩ := F; exact ⟨c, A.other W q, r⟩
theorem own_A.keep (F : own_A Z h a d ty vs) (K : Keep h h' ws) (q : a ∉ ws) : own_A Z h' a d ty vs := by obtain ⟨c, A, r⟩ := F; exact ⟨c, ⟨K.2.1 a c A.1 q, A.2⟩, r⟩
theorem own_A.set (F : own_A Z h a d ty vs) {i : Nat} (W : Wr h h' a i v) (hv : fits ty v = true) : own_A Z h' a d ty (vs.set i v) := by
  obtain ⟨c, A, q, S, G⟩ := F
  refine ⟨_, A.same W, q, ?_, fun x hx => ?_⟩
  · simp [Cell.setSlot, S]
  · rcases List.mem_or_eq_of_mem_set hx with h1 | h1
    · exact G x h1
    · exact h1 ▸ hv
theorem own_A.exa (F : own_A Z h a d ty vs) : Exa Z h a d := by
  obtain ⟨c, A, q, -⟩ := F
  obtain ⟨-, k, hk, comp, hkind⟩ := A.2.1
  exact ⟨c, k, A.1, q, hk, A.plain, fun z => by rw [hkind] at z; cases z⟩
theorem own_A.fit (F : own_A Z h a d ty vs) : ∃ c : Cell, Arr Z h a c ty ∧ Z.vm.findClass d = some c.cls ∧ c.slots = vs.toArray ∧ (∀ v ∈ vs, fits ty v = true) ∧ FitC Z c := by
  obtain ⟨c, A, q, S, G⟩ := F
  refine ⟨c, A, q, S, G, fun i v hv => ?_⟩
  obtain ⟨-, k, hk, comp, hkind⟩ := A.2.1
  rw [S] at hv
  have hm : v ∈ vs := List.mem_of_getElem? (by simpa using hv)
  simp [State.fitsSlot, State.slotType?, hk, hkind, G v hm]
theorem own_inb {c : Cell} {j : Int32} {i : Nat} (S : c.slots = vs.toArray) (h0 : ¬ j < 0) (hj : j.toNatClampNeg = i) (hi : i < vs.length) : ¬ (j < 0 ∨ c.slots.size ≤ j.toNatClampNeg) := by
  rw [S, hj]; simp only [List.size_toArray]; exact fun q => q.elim h0 (fun q => absurd hi (Nat.not_lt.mpr q))
theorem own_newA (X : Stand p l e R s m args below meth c T locs cells slots) (hx : p.tables.exec = Jvm.exec) (hZ : Z.Warmed39 s.vm) {aty : ArrayType} (w : (Cond.arrayClass (newarray.typeOf aty)).before a0 Z = true) (eT : T.heap = h) {g : JFrame} (hg : g.method = m) (hd : decode c.code g.pc = .ok (.newarray aty, 2)) {n : Int32} {rest : List Value} (hs : g.stack = .int n :: rest)
    (hn : ¬ n < 0) {N cap : Nat} (hN : n.toNatClampNeg = N) (hcap : N ≤ cap) (hb : cap * 8 ≤ 536870912) (hc : cells + 1 ≤ R.cells) (hl : slots + cap ≤ R.slots) {d : String} (hdd : "[" ++ (newarray.typeOf aty).toString = d) {vs : List Value} (hvs : vs = List.replicate N (defaultValue (newarray.typeOf aty))) :
    ∃ T' h', Stand p l e R s m args below meth c T' locs (cells + 1) (slots + cap) ∧ T'.heap = h' ∧ Ext h h' ∧ own_A Z h' h.size d (newarray.typeOf aty) vs ∧
      ∀ target, Steps p.tables e below (T'.setTop { g with pc := g.pc + 2, stack := .ref h.size :: rest }) target → Steps p.tables e below (T.setTop g) target := by
  subst hN hdd hvs
  have hcb : componentBytes (newarray.typeOf aty) ≤ 8 := by cases aty <;> decide
  obtain ⟨cA, kA, comp, h1, h2, h3, X', st⟩ := X.newarrayPrim hx (mvA hZ w) hg hd hs hn (Nat.le_trans (Nat.mul_le_mul hcap hcb) hb) hc (by omega)
  subst eT
  rw [hZ.alike.findClass] at h1
  obtain ⟨kZ, z1, -⟩ := Vm.findClass_spec h1
  obtain ⟨k', z2, z3⟩ := hZ.alike.2.2 _ _ z1
  cases h2.symm.trans z2
  refine ⟨_, _, X'.more (Nat.le_refl _) (by omega), rfl, ⟨by show T.heap.size ≤ (T.heap.push _).size; simp, fun a c h => ?_⟩, ⟨{ cls := cA, slots := Array.replicate n.toNatClampNeg (defaultValue (newarray.typeOf aty)), vm := .none }, ⟨by show (T.heap.push _)[T.heap.size]? = _; simp, ⟨by simp, kZ, z1, comp, by rw [← h3, z3]⟩, by simp⟩, h1, by simp, fun v hv => ?_⟩, st⟩
  · have hlt := (Array.getElem?_eq_some_iff.mp h).1
    show (T.heap.push _)[a]? = _
    rw [Array.getElem?_push, if_neg (Nat.ne_of_lt hlt)]
    exact h
  · rw [List.eq_of_mem_replicate hv]; cases aty <;> rfl
theorem own_ldI (X : Stand p l e R s m args below meth c T locs cells slots) (hx : p.tables.exec = Jvm.exec) (hZ : Z.Warmed39 s.vm) (eT : T.heap = h) (V : own_A Z h a d .int vs) {j : Int32} {i : Nat} (h0 : ¬ j < 0) (hj : j.toNatClampNeg = i) (hv : vs[i]? = some v) {g : JFrame} (hg : g.method = m) {rest : List Value} (hs : g.stack = .int j :: .ref a :: rest) (hd : decode c.code g.pc = .ok (.iaload, 1)) :
    ∀ target, Steps p.tables e below (T.setTop { g with pc := g.pc + 1, stack := v :: rest }) target → Steps p.tables e below (T.setTop g) target := by
  obtain ⟨cl, A, q, S, G⟩ := V
  have hi : i < vs.length := (List.getElem?_eq_some_iff.mp hv).1
  exact X.iaload hx (by rw [eT]; exact A.1) (State.isArrayOf_alike hZ.alike A.2.1) A.2.2 (own_inb S h0 hj hi) (by rw [S, hj]; simpa using hv) hg hs hd
theorem own_ldJ (X : Stand p l e R s m args below meth c T locs cells slots) (hx : p.tables.exec = Jvm.exec) (hZ : Z.Warmed39 s.vm) (eT : T.heap = h) (V : own_A Z h a d .long vs) {j : Int32} {i : Nat} (h0 : ¬ j < 0) (hj : j.toNatClampNeg = i) (hv : vs[i]? = some v) {g : JFrame} (hg : g.method = m) {rest : List Value} (hs : g.stack = .int j :: .ref a :: rest) (hd : decode c.code g.pc = .ok (.laload, 1)) :
    ∀ target, Steps p.tables e below (T.setTop { g with pc := g.pc + 1, stack := v :: rest }) target → Steps p.tables e below (T.setTop g) target := by
  obtain ⟨cl, A, q, S, G⟩ := V
  have hi : i < vs.length := (List.getElem?_eq_some_iff.mp hv).1
  exact X.laload hx (by rw [eT]; exact A.1) (State.isArrayOf_alike hZ.alike A.2.1) A.2.2 (own_inb S h0 hj hi) (by rw [S, hj]; simpa using hv) hg hs hd
theorem own_ldC (X : Stand p l e R s m args below meth c T locs cells slots) (hx : p.tables.exec = Jvm.exec) (hZ : Z.Warmed39 s.vm) (eT : T.heap = h) (V : own_A Z h a d .char vs) {j : Int32} {i : Nat} (h0 : ¬ j < 0) (hj : j.toNatClampNeg = i) (hv : vs[i]? = some v) {g : JFrame} (hg : g.method = m) {rest : List Value} (hs : g.stack = .int j :: .ref a :: rest) (hd : decode c.code g.pc = .ok (.caload, 1)) :
    ∀ target, Steps p.tables e below (T.setTop { g with pc := g.pc + 1, stack := v :: rest }) target → Steps p.tables e below (T.setTop g) target := by
  obtain ⟨cl, A, q, S, G⟩ := V
  have hi : i < vs.length := (List.getElem?_eq_some_iff.mp hv).1
  exact X.caload hx (by rw [eT]; exact A.1) (State.isArrayOf_alike hZ.alike A.2.1) A.2.2 (own_inb S h0 hj hi) (by rw [S, hj]; simpa using hv) hg hs hd
theorem own_ldB (X : Stand p l e R s m args below meth c T locs cells slots) (hx : p.tables.exec = Jvm.exec) (hZ : Z.Warmed39 s.vm) (eT : T.heap = h) (V : own_A Z h a d .byte vs) {j : Int32} {i : Nat} (h0 : ¬ j < 0) (hj : j.toNatClampNeg = i) (hv : vs[i]? = some v) {g : JFrame} (hg : g.method = m) {rest : List Value} (hs : g.stack = .int j :: .ref a :: rest) (hd : decode c.code g.pc = .ok (.baload, 1)) :
    ∀ target, Steps p.tables e below (T.setTop { g with pc := g.pc + 1, stack := v :: rest }) target → Steps p.tables e below (T.setTop g) target := by
  obtain ⟨cl, A, q, S, G⟩ := V
  have hi : i < vs.length := (List.getElem?_eq_some_iff.mp hv).1
  exact X.baloadBytes hx (by rw [eT]; exact A.1) (State.isArrayOf_alike hZ.alike A.2.1) A.2.2 (own_inb S h0 hj hi) (by rw [S, hj]; simpa using hv) hg hs hd
theorem own_len (X : Stand p l e R s m args below meth c T locs cells slots) (hx : p.tables.exec = Jvm.exec) (hZ : Z.Warmed39 s.vm) (eT : T.heap = h) (V : own_A Z h a d ty vs) {N : Int32} (hN : vs.length.toInt32 = N) {g : JFrame} (hg : g.method = m) {rest : List Value} (hs : g.stack = .ref a :: rest) (hd : decode c.code g.pc = .ok (.arraylength, 1)) :
    ∀ target, Steps p.tables e below (T.setTop { g with pc := g.pc + 1, stack := .int N :: rest }) target → Steps p.tables e below (T.setTop g) target := by
  obtain ⟨cl, A, q, S, G⟩ := V
  have e1 : cl.slots.size.toInt32 = N := by rw [S]; simpa using hN
  have st := X.arraylength hx (by rw [eT]; exact A.1) (State.isArrayOf_alike hZ.alike A.2.1) hg hs hd
  rw [e1] at st
  exact st
theorem own_stI (X : Stand p l e R s m args below meth c T locs cells slots) (hx : p.tables.exec = Jvm.exec) (hZ : Z.Warmed39 s.vm) (eT : T.heap = h) (V : own_A Z h a d .int vs) {j x : Int32} {i : Nat} (h0 : ¬ j < 0) (hj : j.toNatClampNeg = i) (hi : i < vs.length) {g : JFrame} (hg : g.method = m) {rest : List Value} (hs : g.stack = .int x :: .int j :: .ref a :: rest) (hd : decode c.code g.pc = .ok (.iastore, 1)) :
    ∃ T' h', Stand p l e R s m args below meth c T' (locs ++ [⟨a, i⟩]) cells slots ∧ T'.heap = h' ∧ Wr h h' a i (.int x) ∧ own_A Z h' a d .int (vs.set i (.int x)) ∧ ∀ target, Steps p.tables e below (T'.setTop { g with pc := g.pc + 1, stack := rest }) target → Steps p.tables e below (T.setTop g) target := by
  obtain ⟨cl, A, q, S, G⟩ := id V
  subst hj
  obtain ⟨T', h', X', e', W, st⟩ := stI X hx hZ eT A (own_inb S h0 rfl hi) hg hs hd
  exact ⟨T', h', X', e', W, V.set W rfl, st⟩
theorem own_stJ (X : Stand p l e R s m args below meth c T locs cells slots) (hx : p.tables.exec = Jvm.exec) (hZ : Z.Warmed39 s.vm) (eT : T.heap = h) (V : own_A Z h a d .long vs) {j : Int32} {x : Int64} {i : Nat} (h0 : ¬ j < 0) (hj : j.toNatClampNeg = i) (hi : i < vs.length) {g : JFrame} (hg : g.method = m) {rest : List Value} (hs : g.stack = .long x :: .int j :: .ref a :: rest) (hd : decode c.code g.pc = .ok (.lastore, 1)) :
    ∃ T' h', Stand p l e R s m args below meth c T' (locs ++ [⟨a, i⟩]) cells slots ∧ T'.heap = h' ∧ Wr h h' a i (.long x) ∧ own_A Z h' a d .long (vs.set i (.long x)) ∧ ∀ target, Steps p.tables e below (T'.setTop { g with pc := g.pc + 1, stack := rest }) target → Steps p.tables e below (T.setTop g) target := by
  obtain ⟨cl, A, q, S, G⟩ := id V
  subst hj
  obtain ⟨T', h', X', e', W, st⟩ := stJ X hx hZ eT A (own_inb S h0 rfl hi) hg hs hd
  exact ⟨T', h', X', e', W, V.set W rfl, st⟩
theorem own_stB (X : Stand p l e R s m args below meth c T locs cells slots) (hx : p.tables.exec = Jvm.exec) (hZ : Z.Warmed39 s.vm) (eT : T.heap = h) (V : own_A Z h a d .byte vs) {j x y : Int32} {i : Nat} (hy : nar .byte x = y) (h0 : ¬ j < 0) (hj : j.toNatClampNeg = i) (hi : i < vs.length) {g : JFrame} (hg : g.method = m) {rest : List Value} (hs : g.stack = .int x :: .int j :: .ref a :: rest) (hd : decode c.code g.pc = .ok (.bastore, 1)) :
    ∃ T' h', Stand p l e R s m args below meth c T' (locs ++ [⟨a, i⟩]) cells slots ∧ T'.heap = h' ∧ Wr h h' a i (.int y) ∧ own_A Z h' a d .byte (vs.set i (.int y)) ∧ ∀ target, Steps p.tables e below (T'.setTop { g with pc := g.pc + 1, stack := rest }) target → Steps p.tables e below (T.setTop g) target := by
  obtain ⟨cl, A, q, S, G⟩ := id V
  subst hj hy
  obtain ⟨T', h', X', e', W, st⟩ := stB X hx hZ eT A (own_inb S h0 rfl hi) hg hs hd
  exact ⟨T', h', X', e', W, V.set W (fits_nar_byte x), st⟩
theorem own_stC (X : Stand p l e R s m args below meth c T locs cells slots) (hx : p.tables.exec = Jvm.exec) (hZ : Z.Warmed39 s.vm) (eT : T.heap = h) (V : own_A Z h a d .char vs) {j x y : Int32} {i : Nat} (hy : nar .char x = y) (h0 : ¬ j < 0) (hj : j.toNatClampNeg = i) (hi : i < vs.length) {g : JFrame} (hg : g.method = m) {rest : List Value} (hs : g.stack = .int x :: .int j :: .ref a :: rest) (hd : decode c.code g.pc = .ok (.castore, 1)) :
    ∃ T' h', Stand p l e R s m args below meth c T' (locs ++ [⟨a, i⟩]) cells slots ∧ T'.heap = h' ∧ Wr h h' a i (.int y) ∧ own_A Z h' a d .char (vs.set i (.int y)) ∧ ∀ target, Steps p.tables e below (T'.setTop { g with pc := g.pc + 1, stack := rest }) target → Steps p.tables e below (T.setTop g) target := by
  obtain ⟨cl, A, q, S, G⟩ := id V
  subst hj hy
  obtain ⟨T', h', X', e', W, st⟩ := stC X hx hZ eT A (own_inb S h0 rfl hi) hg hs hd
  exact ⟨T', h', X', e', W, V.set W (fits_nar_char x), st⟩
theorem own_clone (X : Stand p l e R s m args below meth c T locs cells slots) (hx : p.tables.exec = Jvm.exec) (hZ : Z.Warmed39 s.vm) {own : String} {index : Nat} (hown : s.vm.findClass own = some m.cls)
    (w1 : (Cond.methodLink own index ⟨d, "clone", "()Ljava/lang/Object;"⟩).before a0 Z = true) (w2 : (Cond.sameMethod d "java/lang/Object" "clone" "()Ljava/lang/Object;").before a0 Z = true) (w3 : (Cond.native ⟨"java/lang/Object", "clone", "()Ljava/lang/Object;"⟩).before a0 Z = true)
    (w4 : (Cond.instanceMethod ⟨"java/lang/Object", "clone", "()Ljava/lang/Object;"⟩).before a0 Z = true) (w5 : (Cond.selects d ⟨d, "clone", "()Ljava/lang/Object;"⟩ ⟨"java/lang/Object", "clone", "()Ljava/lang/Object;"⟩).before a0 Z = true) (w6 : (Cond.castable d "java/lang/Cloneable").before a0 Z = true)
    (eT : T.heap = h) (V : own_A Z h a d ty vs) {g : JFrame} (hg : g.method = m) (hsize : g.locals.size = c.maxLocals) {rest : List Value} (hs : g.stack = .ref a :: rest) (hd : decode c.code g.pc = .ok (.invokevirtual index, 3))
    (hf : 1 ≤ R.frames) {W cap : Nat} (hW : 2 * g.monitorRoom + (rest.map fun v => v.category).sum ≤ W) (hl : W + 14 ≤ R.locals) (hcap : vs.length ≤ cap) (hc : cells + 1 ≤ R.cells) (hsl : slots + cap ≤ R.slots) :
    ∃ T' h', Stand p l e R s m args below meth c T' locs (cells + 1) (slots + cap) ∧ T'.heap = h' ∧ Ext h h' ∧ own_A Z h' h.size d ty vs ∧
      ∀ target, Steps p.tables e below (T'.setTop { g with pc := g.pc + 3, stack := .ref h.size :: rest }) target → Steps p.tables e below (T.setTop g) target := by
  have Ex := V.exa
  obtain ⟨cl, A, q, S, G, F⟩ := V.fit
  obtain ⟨T', h', X', e', E, A', -, st⟩ := cloneA X hx hZ hown w1 w2 w3 w4 w5 w6 eT A Ex F hg hsize hs hd hf hW hl (cap := cap) (by rw [S]; simpa using hcap) hc hsl
  exact ⟨T', h', X', e', E, ⟨_, A', q, S, G⟩, st⟩
theorem own_nA (hv : v.isRef = true) : narrow (.array ty) v = v ∧ fits (.array ty) v = true := by cases v <;> simp_all [Value.isRef, narrow, fits]
end OwnArr

theorem pn_com_example_inscribe_inscribe_core_XmlWhiteSpace : plainName "com/example/inscribe/inscribe/core/XmlWhiteSpace" = true := by first | (simp [plainName, overriddenIn]; done) | decide +kernel
theorem ef_prog_39_9 (m : MethodId) (x0 : Int32) : entryFrame m #[(.int x0)] 1 = mkF m 0 #[.val (.int x0)] [] := by first | (simp [entryFrame, mkF, argsToLocals, Value.category]; done) | rfl
theorem d_prog_39_9_0 : decode prog_39_method_9_code 0 = .ok (.iload_n 0, 1) := by decide +kernel
theorem d_prog_39_9_1 : decode prog_39_method_9_code 1 = .ok (.bipush 13, 2) := by decide +kernel
theorem d_prog_39_9_3 : decode prog_39_method_9_code 3 = .ok (.if_icmp .eq 9, 3) := by decide +kernel
theorem d_prog_39_9_12 : decode prog_39_method_9_code 12 = .ok (.iconst 1, 1) := by decide +kernel
theorem d_prog_39_9_13 : decode prog_39_method_9_code 13 = .ok (.goto 4, 3) := by decide +kernel
theorem d_prog_39_9_17 : decode prog_39_method_9_code 17 = .ok (.ireturn, 1) := by decide +kernel
theorem d_prog_39_9_6 : decode prog_39_method_9_code 6 = .ok (.iload_n 0, 1) := by decide +kernel
theorem d_prog_39_9_7 : decode prog_39_method_9_code 7 = .ok (.bipush 10, 2) := by decide +kernel
theorem d_prog_39_9_9 : decode prog_39_method_9_code 9 = .ok (.if_icmp .ne 7, 3) := by decide +kernel
theorem d_prog_39_9_16 : decode prog_39_method_9_code 16 = .ok (.iconst 0, 1) := by decide +kernel
def own_F_prog_39_9 (q1 : Int32) : Int32 := (if q1 = (13 : Int32) then (1 : Int32) else (if q1 = (10 : Int32) then (1 : Int32) else (0 : Int32)))
set_option maxRecDepth 65536 in
set_option maxHeartbeats 40000000 in
theorem rm_prog_39_9 (l : Launch) (Z : State) (a0 : Array Value) (hw : ∀ d ∈ tables_1, d.before a0 Z = true) (ws : List Jvm.Cond) (q1 : Int32)  (h0 : Heap) (n0 : Nat) (Z0 : n0 ≤ h0.size)  :
    MetFree l (⟨"com/example/inscribe/inscribe/core/XmlWhiteSpace", "isLineBreak", "(C)Z"⟩ : MethodName) (head1 (Jvm.Cond.code (⟨"com/example/inscribe/inscribe/core/XmlWhiteSpace", "isLineBreak", "(C)Z"⟩ : MethodName) prog_39_method_9_code 1 (some .boolean) :: ws) ({ frames := 0, cells := 0, slots := 0, locals := 0 } : Room)) (fun a U => a = #[(.int q1)] ∧ Z.Warmed39 U.vm ∧ U.heap = h0) (fun _ _ _ _ _ => True) (fun _ U o U' => ∃ v L, o = .returned v ∧ own_P (.int (own_F_prog_39_9 q1)) h0 n0 v U'.heap L ∧ FrameEnd U o U' L ({ frames := 0, cells := 0, slots := 0, locals := 0 } : Room).cells ({ frames := 0, cells := 0, slots := 0, locals := 0 } : Room).slots) := by
  refine MetFree.of_bodySF (plainFor_of_name pn_com_example_inscribe_inscribe_core_XmlWhiteSpace) hisR ?_
  intro p e s m args below meth c s₁ Bd hml0 hP hK
  obtain ⟨rfl, hZ, hh⟩ := hP
  have hx := Bd.exec
  have hby := Bd.bytes
  have hlk : meth.locks = false := BodyLoose.notSynchronized Bd
  have hml : c.maxLocals = 1 := hml0
  have hown : s.vm.findClass "com/example/inscribe/inscribe/core/XmlWhiteSpace" = some m.cls := findClass_of_methodNamed Bd.named
  have hnm := (name_of_methodNamed Bd.named Bd.method).1
  have X0 : Stand p l e ({ frames := 0, cells := 0, slots := 0, locals := 0 } : Room) s m #[(.int q1)] below meth c s₁ [] 0 0 := Stand.of_body Bd
  have e0 : s₁.heap = h0 := by rw [← hh, Bd.state]; rfl
  have N0 := Fr.nil n0
  refine own_cast (K := own_K s (own_P (.int (own_F_prog_39_9 q1)) h0 n0) 0 0) (ef_prog_39_9 m q1) ?_
  generalize hKK : own_K s (own_P (.int (own_F_prog_39_9 q1)) h0 n0) 0 0 = KK
  show own_Go p e below KK s₁ (mkF m 0 #[.val (.int q1)] [])
  refine own_at (fun t k => XS.iloadN X0.here hx rfl (hb hby d_prog_39_9_0) rfl k) ?_
  show own_Go p e below KK s₁ (mkF m 1 #[.val (.int q1)] [(.int q1)])
  refine own_at (fun t k => XS.bipush X0.here hx rfl (hb hby d_prog_39_9_1) k) ?_
  show own_Go p e below KK s₁ (mkF m 3 #[.val (.int q1)] [(.int 13), (.int q1)])
  by_cases hc3 : q1 = (13 : Int32)
  · refine own_at (fun t k => XS.icmpYes X0.here hx rfl (pc0 := 3) (pc' := 12) rfl (hb hby d_prog_39_9_3) rfl (Jvm.Free.XT.ii_eq_t hc3) (by decide) (by decide) k) ?_
    show own_Go p e below KK s₁ (mkF m 12 #[.val (.int q1)] [])
    refine own_at (fun t k => XS.iconst X0.here hx rfl (hb hby d_prog_39_9_12) k) ?_
    show own_Go p e below KK s₁ (mkF m 13 #[.val (.int q1)] [(.int 1)])
    refine own_at (fun t k => XS.goto X0.here hx rfl (pc0 := 13) (pc' := 17) rfl (hb hby d_prog_39_9_13) (by decide) (by decide) k) ?_
    show own_Go p e below KK s₁ (mkF m 17 #[.val (.int q1)] [(.int 1)])
    subst hKK
    exact own_retN X0 hx hlk (t := .boolean) Bd.returns (by simp) (hb hby d_prog_39_9_17) (w := (own_F_prog_39_9 q1)) ((show nar .boolean (1 : Int32) = (1 : Int32) from by decide).trans (show (1 : Int32) = (own_F_prog_39_9 q1) from by unfold own_F_prog_39_9; rw [if_pos hc3])) ⟨rfl, N0, e0⟩ (Nat.le_of_ble_eq_true rfl) (Nat.le_of_ble_eq_true rfl)
  · refine own_at (fun t k => XS.icmpNo X0.here hx rfl (hb hby d_prog_39_9_3) rfl (Jvm.Free.XT.ii_eq_f hc3) k) ?_
    show own_Go p e below KK s₁ (mkF m 6 #[.val (.int q1)] [])
    refine own_at (fun t k => XS.iloadN X0.here hx rfl (hb hby d_prog_39_9_6) rfl k) ?_
    show own_Go p e below KK s₁ (mkF m 7 #[.val (.int q1)] [(.int q1)])
    refine own_at (fun t k => XS.bipush X0.here hx rfl (hb hby d_prog_39_9_7) k) ?_
    show own_Go p e below KK s₁ (mkF m 9 #[.val (.int q1)] [(.int 10), (.int q1)])
    by_cases hc9 : q1 = (10 : Int32)
    · refine own_at (fun t k => XS.icmpNo X0.here hx rfl (hb hby d_prog_39_9_9) rfl (Jvm.Free.XT.ii_ne_f hc9) k) ?_
      show own_Go p e below KK s₁ (mkF m 12 #[.val (.int q1)] [])
      refine own_at (fun t k => XS.iconst X0.here hx rfl (hb hby d_prog_39_9_12) k) ?_
      show own_Go p e below KK s₁ (mkF m 13 #[.val (.int q1)] [(.int 1)])
      refine own_at (fun t k => XS.goto X0.here hx rfl (pc0 := 13) (pc' := 17) rfl (hb hby d_prog_39_9_13) (by decide) (by decide) k) ?_
      show own_Go p e below KK s₁ (mkF m 17 #[.val (.int q1)] [(.int 1)])
      subst hKK
      exact own_retN X0 hx hlk (t := .boolean) Bd.returns (by simp) (hb hby d_prog_39_9_17) (w := (own_F_prog_39_9 q1)) ((show nar .boolean (1 : Int32) = (1 : Int32) from by decide).trans (show (1 : Int32) = (own_F_prog_39_9 q1) from by unfold own_F_prog_39_9; rw [if_neg hc3, if_pos hc9])) ⟨rfl, N0, e0⟩ (Nat.le_of_ble_eq_true rfl) (Nat.le_of_ble_eq_true rfl)
    · refine own_at (fun t k => XS.icmpYes X0.here hx rfl (pc0 := 9) (pc' := 16) rfl (hb hby d_prog_39_9_9) rfl (Jvm.Free.XT.ii_ne_t hc9) (by decide) (by decide) k) ?_
      show own_Go p e below KK s₁ (mkF m 16 #[.val (.int q1)] [])
      refine own_at (fun t k => XS.iconst X0.here hx rfl (hb hby d_prog_39_9_16) k) ?_
      show own_Go p e below KK s₁ (mkF m 17 #[.val (.int q1)] [(.int 0)])
      subst hKK
      exact own_retN X0 hx hlk (t := .boolean) Bd.returns (by simp) (hb hby d_prog_39_9_17) (w := (own_F_prog_39_9 q1)) ((show nar .boolean (0 : Int32) = (0 : Int32) from by decide).trans (show (0 : Int32) = (own_F_prog_39_9 q1) from by unfold own_F_prog_39_9; rw [if_neg hc3, if_neg hc9])) ⟨rfl, N0, e0⟩ (Nat.le_of_ble_eq_true rfl) (Nat.le_of_ble_eq_true rfl)
theorem ef_prog_39_2 (m : MethodId) (x0 : Int32) : entryFrame m #[(.int x0)] 1 = mkF m 0 #[.val (.int x0)] [] := by first | (simp [entryFrame, mkF, argsToLocals, Value.category]; done) | rfl
theorem d_prog_39_2_0 : decode prog_39_method_2_code 0 = .ok (.iload_n 0, 1) := by decide +kernel
theorem d_prog_39_2_1 : decode prog_39_method_2_code 1 = .ok (.bipush 32, 2) := by decide +kernel
theorem d_prog_39_2_3 : decode prog_39_method_2_code 3 = .ok (.if_icmp .eq 16, 3) := by decide +kernel
theorem d_prog_39_2_19 : decode prog_39_method_2_code 19 = .ok (.iconst 1, 1) := by decide +kernel
theorem d_prog_39_2_20 : decode prog_39_method_2_code 20 = .ok (.goto 4, 3) := by decide +kernel
theorem d_prog_39_2_24 : decode prog_39_method_2_code 24 = .ok (.ireturn, 1) := by decide +kernel
theorem d_prog_39_2_6 : decode prog_39_method_2_code 6 = .ok (.iload_n 0, 1) := by decide +kernel
theorem d_prog_39_2_7 : decode prog_39_method_2_code 7 = .ok (.bipush 9, 2) := by decide +kernel
theorem d_prog_39_2_9 : decode prog_39_method_2_code 9 = .ok (.if_icmp .eq 10, 3) := by decide +kernel
theorem d_prog_39_2_12 : decode prog_39_method_2_code 12 = .ok (.iload_n 0, 1) := by decide +kernel
theorem d_prog_39_2_13 : decode prog_39_method_2_code 13 = .ok (.invokestatic 7, 3) := by decide +kernel
theorem pd__C_Z : parseMethodDescriptor "(C)Z" = some ⟨[.char], some .boolean⟩ := by decide +kernel
theorem d_prog_39_2_16 : decode prog_39_method_2_code 16 = .ok (.ifCond .eq 7, 3) := by decide +kernel
theorem d_prog_39_2_23 : decode prog_39_method_2_code 23 = .ok (.iconst 0, 1) := by decide +kernel
def own_F_prog_39_2 (q1 : Int32) : Int32 := (if q1 = (32 : Int32) then (1 : Int32) else (if q1 = (9 : Int32) then (1 : Int32) else (if (own_F_prog_39_9 q1) = (0 : Int32) then (0 : Int32) else (1 : Int32))))
set_option maxRecDepth 65536 in
set_option maxHeartbeats 40000000 in
theorem rm_prog_39_2 (l : Launch) (Z : State) (a0 : Array Value) (hw : ∀ d ∈ tables_1, d.before a0 Z = true) (ws : List Jvm.Cond) (q1 : Int32)  (h0 : Heap) (n0 : Nat) (Z0 : n0 ≤ h0.size)  :
    MetFree l (⟨"com/example/inscribe/inscribe/core/XmlWhiteSpace", "isWhiteSpace", "(C)Z"⟩ : MethodName) (head1 (Jvm.Cond.code (⟨"com/example/inscribe/inscribe/core/XmlWhiteSpace", "isWhiteSpace", "(C)Z"⟩ : MethodName) prog_39_method_2_code 1 (some .boolean) :: ws) ({ frames := 1, cells := 0, slots := 0, locals := 12 } : Room)) (fun a U => a = #[(.int q1)] ∧ Z.Warmed39 U.vm ∧ U.heap = h0) (fun _ _ _ _ _ => True) (fun _ U o U' => ∃ v L, o = .returned v ∧ own_P (.int (own_F_prog_39_2 q1)) h0 n0 v U'.heap L ∧ FrameEnd U o U' L ({ frames := 1, cells := 0, slots := 0, locals := 12 } : Room).cells ({ frames := 1, cells := 0, slots := 0, locals := 12 } : Room).slots) := by
  refine MetFree.of_bodySF (plainFor_of_name pn_com_example_inscribe_inscribe_core_XmlWhiteSpace) hisR ?_
  intro p e s m args below meth c s₁ Bd hml0 hP hK
  obtain ⟨rfl, hZ, hh⟩ := hP
  have hx := Bd.exec
  have hby := Bd.bytes
  have hlk : meth.locks = false := BodyLoose.notSynchronized Bd
  have hml : c.maxLocals = 1 := hml0
  have hown : s.vm.findClass "com/example/inscribe/inscribe/core/XmlWhiteSpace" = some m.cls := findClass_of_methodNamed Bd.named
  have hnm := (name_of_methodNamed Bd.named Bd.method).1
  have X0 : Stand p l e ({ frames := 1, cells := 0, slots := 0, locals := 12 } : Room) s m #[(.int q1)] below meth c s₁ [] 0 0 := Stand.of_body Bd
  have e0 : s₁.heap = h0 := by rw [← hh, Bd.state]; rfl
  have N0 := Fr.nil n0
  refine own_cast (K := own_K s (own_P (.int (own_F_prog_39_2 q1)) h0 n0) 0 0) (ef_prog_39_2 m q1) ?_
  generalize hKK : own_K s (own_P (.int (own_F_prog_39_2 q1)) h0 n0) 0 0 = KK
  show own_Go p e below KK s₁ (mkF m 0 #[.val (.int q1)] [])
  refine own_at (fun t k => XS.iloadN X0.here hx rfl (hb hby d_prog_39_2_0) rfl k) ?_
  show own_Go p e below KK s₁ (mkF m 1 #[.val (.int q1)] [(.int q1)])
  refine own_at (fun t k => XS.bipush X0.here hx rfl (hb hby d_prog_39_2_1) k) ?_
  show own_Go p e below KK s₁ (mkF m 3 #[.val (.int q1)] [(.int 32), (.int q1)])
  by_cases hc3 : q1 = (32 : Int32)
  · refine own_at (fun t k => XS.icmpYes X0.here hx rfl (pc0 := 3) (pc' := 19) rfl (hb hby d_prog_39_2_3) rfl (Jvm.Free.XT.ii_eq_t hc3) (by decide) (by decide) k) ?_
    show own_Go p e below KK s₁ (mkF m 19 #[.val (.int q1)] [])
    refine own_at (fun t k => XS.iconst X0.here hx rfl (hb hby d_prog_39_2_19) k) ?_
    show own_Go p e below KK s₁ (mkF m 20 #[.val (.int q1)] [(.int 1)])
    refine own_at (fun t k => XS.goto X0.here hx rfl (pc0 := 20) (pc' := 24) rfl (hb hby d_prog_39_2_20) (by decide) (by decide) k) ?_
    show own_Go p e below KK s₁ (mkF m 24 #[.val (.int q1)] [(.int 1)])
    subst hKK
    exact own_retN X0 hx hlk (t := .boolean) Bd.returns (by simp) (hb hby d_prog_39_2_24) (w := (own_F_prog_39_2 q1)) ((show nar .boolean (1 : Int32) = (1 : Int32) from by decide).trans (show (1 : Int32) = (own_F_prog_39_2 q1) from by unfold own_F_prog_39_2; rw [if_pos hc3])) ⟨rfl, N0, e0⟩ (Nat.le_of_ble_eq_true rfl) (Nat.le_of_ble_eq_true rfl)
  · refine own_at (fun t k => XS.icmpNo X0.here hx rfl (hb hby d_prog_39_2_3) rfl (Jvm.Free.XT.ii_eq_f hc3) k) ?_
    show own_Go p e below KK s₁ (mkF m 6 #[.val (.int q1)] [])
    refine own_at (fun t k => XS.iloadN X0.here hx rfl (hb hby d_prog_39_2_6) rfl k) ?_
    show own_Go p e below KK s₁ (mkF m 7 #[.val (.int q1)] [(.int q1)])
    refine own_at (fun t k => XS.bipush X0.here hx rfl (hb hby d_prog_39_2_7) k) ?_
    show own_Go p e below KK s₁ (mkF m 9 #[.val (.int q1)] [(.int 9), (.int q1)])
    by_cases hc9 : q1 = (9 : Int32)
    · refine own_at (fun t k => XS.icmpYes X0.here hx rfl (pc0 := 9) (pc' := 19) rfl (hb hby d_prog_39_2_9) rfl (Jvm.Free.XT.ii_eq_t hc9) (by decide) (by decide) k) ?_
      show own_Go p e below KK s₁ (mkF m 19 #[.val (.int q1)] [])
      refine own_at (fun t k => XS.iconst X0.here hx rfl (hb hby d_prog_39_2_19) k) ?_
      show own_Go p e below KK s₁ (mkF m 20 #[.val (.int q1)] [(.int 1)])
      refine own_at (fun t k => XS.goto X0.here hx rfl (pc0 := 20) (pc' := 24) rfl (hb hby d_prog_39_2_20) (by decide) (by decide) k) ?_
      show own_Go p e below KK s₁ (mkF m 24 #[.val (.int q1)] [(.int 1)])
      subst hKK
      exact own_retN X0 hx hlk (t := .boolean) Bd.returns (by simp) (hb hby d_prog_39_2_24) (w := (own_F_prog_39_2 q1)) ((show nar .boolean (1 : Int32) = (1 : Int32) from by decide).trans (show (1 : Int32) = (own_F_prog_39_2 q1) from by unfold own_F_prog_39_2; rw [if_neg hc3, if_pos hc9])) ⟨rfl, N0, e0⟩ (Nat.le_of_ble_eq_true rfl) (Nat.le_of_ble_eq_true rfl)
    · refine own_at (fun t k => XS.icmpNo X0.here hx rfl (hb hby d_prog_39_2_9) rfl (Jvm.Free.XT.ii_eq_f hc9) k) ?_
      show own_Go p e below KK s₁ (mkF m 12 #[.val (.int q1)] [])
      refine own_at (fun t k => XS.iloadN X0.here hx rfl (hb hby d_prog_39_2_12) rfl k) ?_
      show own_Go p e below KK s₁ (mkF m 13 #[.val (.int q1)] [(.int q1)])
      obtain ⟨_, _, ⟨T1, L1, k1, n1⟩, -, X1, ⟨Lc1, hQ1, l1, y1, z1⟩, st1⟩ := Jvm.LawKit.callS X0 hx (y := (⟨"com/example/inscribe/inscribe/core/XmlWhiteSpace", "isLineBreak", "(C)Z"⟩ : MethodName)) hown (mvT hZ (hw _ (List.mem_of_getElem? (i := 19) rfl))) (mvT hZ (hw _ (List.mem_of_getElem? (i := 20) rfl))) (mvT hZ (hw _ (List.mem_of_getElem? (i := 14) rfl))) (mvT hZ (hw _ (List.mem_of_getElem? (i := 21) rfl))) (by decide) (backOf (W := 0) (rm_prog_39_9 l Z a0 hw [] q1  h0 n0 Z0 ) hZ (hw _ (List.mem_of_getElem? (i := 21) rfl)) (hw _ (List.mem_of_getElem? (i := 14) rfl)) (by decide) (by decide)) (g := (mkF m 13 #[.val (.int q1)] [(.int q1)])) rfl (by rw [hml]; rfl) (argsL := [(.int q1)]) (rest := []) (lenOf pd__C_Z rfl) rfl (by show 2 * 0 + _ ≤ _; exact Nat.le_of_eq rfl) (hb hby d_prog_39_2_13) (fun _ _ => ⟨rfl, e0, (by decide : 0 + 0 ≤ _), (by decide : 0 + 0 ≤ _)⟩)
      dsimp only [Pt.U, Pt.locs, Pt.cells, Pt.slots] at X1 l1 y1 z1 st1 hQ1
      subst l1 y1 z1
      obtain ⟨rfl, N1q, e1⟩ := hQ1
      have N1 := Fr.app N0 N1q
      refine own_of (fun t k => st1 t k) ?_
      show own_Go p e below KK T1 (mkF m 16 #[.val (.int q1)] [(.int (own_F_prog_39_9 q1))])
      by_cases hc16 : (own_F_prog_39_9 q1) = (0 : Int32)
      · refine own_at (fun t k => XS.ifYes X1.here hx rfl (pc0 := 16) (pc' := 23) rfl (hb hby d_prog_39_2_16) rfl (Jvm.Free.XT.i0_eq_t hc16) (by decide) (by decide) k) ?_
        show own_Go p e below KK T1 (mkF m 23 #[.val (.int q1)] [])
        refine own_at (fun t k => XS.iconst X1.here hx rfl (hb hby d_prog_39_2_23) k) ?_
        show own_Go p e below KK T1 (mkF m 24 #[.val (.int q1)] [(.int 0)])
        subst hKK
        exact own_retN X1 hx hlk (t := .boolean) Bd.returns (by simp) (hb hby d_prog_39_2_24) (w := (own_F_prog_39_2 q1)) ((show nar .boolean (0 : Int32) = (0 : Int32) from by decide).trans (show (0 : Int32) = (own_F_prog_39_2 q1) from by unfold own_F_prog_39_2; rw [if_neg hc3, if_neg hc9, if_pos hc16])) ⟨rfl, N1, e1⟩ (Nat.le_of_ble_eq_true rfl) (Nat.le_of_ble_eq_true rfl)
      · refine own_at (fun t k => XS.ifNo X1.here hx rfl (hb hby d_prog_39_2_16) rfl (Jvm.Free.XT.i0_eq_f hc16) k) ?_
        show own_Go p e below KK T1 (mkF m 19 #[.val (.int q1)] [])
        refine own_at (fun t k => XS.iconst X1.here hx rfl (hb hby d_prog_39_2_19) k) ?_
        show own_Go p e below KK T1 (mkF m 20 #[.val (.int q1)] [(.int 1)])
        refine own_at (fun t k => XS.goto X1.here hx rfl (pc0 := 20) (pc' := 24) rfl (hb hby d_prog_39_2_20) (by decide) (by decide) k) ?_
        show own_Go p e below KK T1 (mkF m 24 #[.val (.int q1)] [(.int 1)])
        subst hKK
        exact own_retN X1 hx hlk (t := .boolean) Bd.returns (by simp) (hb hby d_prog_39_2_24) (w := (own_F_prog_39_2 q1)) ((show nar .boolean (1 : Int32) = (1 : Int32) from by decide).trans (show (1 : Int32) = (own_F_prog_39_2 q1) from by unfold own_F_prog_39_2; rw [if_neg hc3, if_neg hc9, if_neg hc16])) ⟨rfl, N1, e1⟩ (Nat.le_of_ble_eq_true rfl) (Nat.le_of_ble_eq_true rfl)
theorem pn_com_example_inscribe_inscribe_core_XmlWhiteSpaceIsWhiteSpace194PinLaw : plainName "com/example/inscribe/inscribe/core/XmlWhiteSpaceIsWhiteSpace194PinLaw" = true := by first | (simp [plainName, overriddenIn]; done) | decide +kernel
theorem ef_method_2 (m : MethodId) (x0 : Int32) : entryFrame m #[(.int x0)] 2 = mkF m 0 #[.val (.int x0), .unset] [] := by first | (simp [entryFrame, mkF, argsToLocals, Value.category]; done) | rfl
theorem d_method_2_0 : decode method_2_code 0 = .ok (.iload_n 0, 1) := by decide +kernel
theorem d_method_2_1 : decode method_2_code 1 = .ok (.bipush 7, 2) := by decide +kernel
theorem d_method_2_3 : decode method_2_code 3 = .ok (.iand, 1) := by decide +kernel
theorem d_method_2_4 : decode method_2_code 4 = .ok (.istore_n 1, 1) := by decide +kernel
theorem d_method_2_5 : decode method_2_code 5 = .ok (.iload_n 1, 1) := by decide +kernel
theorem d_method_2_6 : decode method_2_code 6 = .ok (.ifCond .ne 6, 3) := by decide +kernel
theorem d_method_2_9 : decode method_2_code 9 = .ok (.bipush 32, 2) := by decide +kernel
theorem d_method_2_11 : decode method_2_code 11 = .ok (.ireturn, 1) := by decide +kernel
theorem d_method_2_12 : decode method_2_code 12 = .ok (.iload_n 1, 1) := by decide +kernel
theorem d_method_2_13 : decode method_2_code 13 = .ok (.iconst 1, 1) := by decide +kernel
theorem d_method_2_14 : decode method_2_code 14 = .ok (.if_icmp .ne 6, 3) := by decide +kernel
theorem d_method_2_17 : decode method_2_code 17 = .ok (.bipush 9, 2) := by decide +kernel
theorem d_method_2_19 : decode method_2_code 19 = .ok (.ireturn, 1) := by decide +kernel
theorem d_method_2_20 : decode method_2_code 20 = .ok (.iload_n 1, 1) := by decide +kernel
theorem d_method_2_21 : decode method_2_code 21 = .ok (.iconst 2, 1) := by decide +kernel
theorem d_method_2_22 : decode method_2_code 22 = .ok (.if_icmp .ne 6, 3) := by decide +kernel
theorem d_method_2_25 : decode method_2_code 25 = .ok (.bipush 13, 2) := by decide +kernel
theorem d_method_2_27 : decode method_2_code 27 = .ok (.ireturn, 1) := by decide +kernel
theorem d_method_2_28 : decode method_2_code 28 = .ok (.iload_n 1, 1) := by decide +kernel
theorem d_method_2_29 : decode method_2_code 29 = .ok (.iconst 3, 1) := by decide +kernel
theorem d_method_2_30 : decode method_2_code 30 = .ok (.if_icmp .ne 6, 3) := by decide +kernel
theorem d_method_2_33 : decode method_2_code 33 = .ok (.bipush 10, 2) := by decide +kernel
theorem d_method_2_35 : decode method_2_code 35 = .ok (.ireturn, 1) := by decide +kernel
theorem d_method_2_36 : decode method_2_code 36 = .ok (.iload_n 0, 1) := by decide +kernel
theorem d_method_2_37 : decode method_2_code 37 = .ok (.iconst 3, 1) := by decide +kernel
theorem d_method_2_38 : decode method_2_code 38 = .ok (.iushr, 1) := by decide +kernel
theorem d_method_2_39 : decode method_2_code 39 = .ok (.ldc 7, 2) := by decide +kernel
theorem d_method_2_41 : decode method_2_code 41 = .ok (.iand, 1) := by decide +kernel
theorem d_method_2_42 : decode method_2_code 42 = .ok (.i2c, 1) := by decide +kernel
theorem d_method_2_43 : decode method_2_code 43 = .ok (.ireturn, 1) := by decide +kernel
def own_F_method_2 (q1 : Int32) : Int32 := (if (q1 &&& (7 : Int32)) = (0 : Int32) then (32 : Int32) else (if (q1 &&& (7 : Int32)) = (1 : Int32) then (9 : Int32) else (if (q1 &&& (7 : Int32)) = (2 : Int32) then (13 : Int32) else (if (q1 &&& (7 : Int32)) = (3 : Int32) then (10 : Int32) else ((((q1.toUInt32 >>> ((3 : Int32) &&& 31).toUInt32).toInt32) &&& (65535 : Int32)).toUInt32.toUInt16.toUInt32.toInt32)))))
set_option maxRecDepth 65536 in
set_option maxHeartbeats 40000000 in
theorem rm_method_2 (l : Launch) (Z : State) (a0 : Array Value) (hw : ∀ d ∈ tables_1, d.before a0 Z = true) (ws : List Jvm.Cond) (q1 : Int32)  (h0 : Heap) (n0 : Nat) (Z0 : n0 ≤ h0.size)  :
    MetFree l (⟨"com/example/inscribe/inscribe/core/XmlWhiteSpaceIsWhiteSpace194PinLaw", "draw", "(I)C"⟩ : MethodName) (head1 (Jvm.Cond.code (⟨"com/example/inscribe/inscribe/core/XmlWhiteSpaceIsWhiteSpace194PinLaw", "draw", "(I)C"⟩ : MethodName) method_2_code 2 (some .char) :: ws) ({ frames := 0, cells := 0, slots := 0, locals := 0 } : Room)) (fun a U => a = #[(.int q1)] ∧ Z.Warmed39 U.vm ∧ U.heap = h0) (fun _ _ _ _ _ => True) (fun _ U o U' => ∃ v L, o = .returned v ∧ own_P (.int (own_F_method_2 q1)) h0 n0 v U'.heap L ∧ FrameEnd U o U' L ({ frames := 0, cells := 0, slots := 0, locals := 0 } : Room).cells ({ frames := 0, cells := 0, slots := 0, locals := 0 } : Room).slots) := by
  refine MetFree.of_bodySF (plainFor_of_name pn_com_example_inscribe_inscribe_core_XmlWhiteSpaceIsWhiteSpace194PinLaw) hisR ?_
  intro p e s m args below meth c s₁ Bd hml0 hP hK
  obtain ⟨rfl, hZ, hh⟩ := hP
  have hx := Bd.exec
  have hby := Bd.bytes
  have hlk : meth.locks = false := BodyLoose.notSynchronized Bd
  have hml : c.maxLocals = 2 := hml0
  have hown : s.vm.findClass "com/example/inscribe/inscribe/core/XmlWhiteSpaceIsWhiteSpace194PinLaw" = some m.cls := findClass_of_methodNamed Bd.named
  have hnm := (name_of_methodNamed Bd.named Bd.method).1
  have X0 : Stand p l e ({ frames := 0, cells := 0, slots := 0, locals := 0 } : Room) s m #[(.int q1)] below meth c s₁ [] 0 0 := Stand.of_body Bd
  have e0 : s₁.heap = h0 := by rw [← hh, Bd.state]; rfl
  have N0 := Fr.nil n0
  refine own_cast (K := own_K s (own_P (.int (own_F_method_2 q1)) h0 n0) 0 0) (ef_method_2 m q1) ?_
  generalize hKK : own_K s (own_P (.int (own_F_method_2 q1)) h0 n0) 0 0 = KK
  show own_Go p e below KK s₁ (mkF m 0 #[.val (.int q1), .unset] [])
  refine own_at (fun t k => XS.iloadN X0.here hx rfl (hb hby d_method_2_0) rfl k) ?_
  show own_Go p e below KK s₁ (mkF m 1 #[.val (.int q1), .unset] [(.int q1)])
  refine own_at (fun t k => XS.bipush X0.here hx rfl (hb hby d_method_2_1) k) ?_
  show own_Go p e below KK s₁ (mkF m 3 #[.val (.int q1), .unset] [(.int 7), (.int q1)])
  refine own_at (fun t k => XS.iand X0.here hx rfl (hb hby d_method_2_3) rfl k) ?_
  show own_Go p e below KK s₁ (mkF m 4 #[.val (.int q1), .unset] [(.int (q1 &&& (7 : Int32)))])
  refine own_at (fun t k => XS.istoreN X0.here hx rfl (hb hby d_method_2_4) rfl (l' := #[.val (.int q1), .val (.int (q1 &&& (7 : Int32)))]) rfl k) ?_
  show own_Go p e below KK s₁ (mkF m 5 #[.val (.int q1), .val (.int (q1 &&& (7 : Int32)))] [])
  refine own_at (fun t k => XS.iloadN X0.here hx rfl (hb hby d_method_2_5) rfl k) ?_
  show own_Go p e below KK s₁ (mkF m 6 #[.val (.int q1), .val (.int (q1 &&& (7 : Int32)))] [(.int (q1 &&& (7 : Int32)))])
  by_cases hc6 : (q1 &&& (7 : Int32)) = (0 : Int32)
  · refine own_at (fun t k => XS.ifNo X0.here hx rfl (hb hby d_method_2_6) rfl (Jvm.Free.XT.i0_ne_f hc6) k) ?_
    show own_Go p e below KK s₁ (mkF m 9 #[.val (.int q1), .val (.int (q1 &&& (7 : Int32)))] [])
    refine own_at (fun t k => XS.bipush X0.here hx rfl (hb hby d_method_2_9) k) ?_
    show own_Go p e below KK s₁ (mkF m 11 #[.val (.int q1), .val (.int (q1 &&& (7 : Int32)))] [(.int 32)])
    subst hKK
    exact own_retN X0 hx hlk (t := .char) Bd.returns (by simp) (hb hby d_method_2_11) (w := (own_F_method_2 q1)) ((show nar .char (32 : Int32) = (32 : Int32) from by decide).trans (show (32 : Int32) = (own_F_method_2 q1) from by unfold own_F_method_2; rw [if_pos hc6])) ⟨rfl, N0, e0⟩ (Nat.le_of_ble_eq_true rfl) (Nat.le_of_ble_eq_true rfl)
  · refine own_at (fun t k => XS.ifYes X0.here hx rfl (pc0 := 6) (pc' := 12) rfl (hb hby d_method_2_6) rfl (Jvm.Free.XT.i0_ne_t hc6) (by decide) (by decide) k) ?_
    show own_Go p e below KK s₁ (mkF m 12 #[.val (.int q1), .val (.int (q1 &&& (7 : Int32)))] [])
    refine own_at (fun t k => XS.iloadN X0.here hx rfl (hb hby d_method_2_12) rfl k) ?_
    show own_Go p e below KK s₁ (mkF m 13 #[.val (.int q1), .val (.int (q1 &&& (7 : Int32)))] [(.int (q1 &&& (7 : Int32)))])
    refine own_at (fun t k => XS.iconst X0.here hx rfl (hb hby d_method_2_13) k) ?_
    show own_Go p e below KK s₁ (mkF m 14 #[.val (.int q1), .val (.int (q1 &&& (7 : Int32)))] [(.int 1), (.int (q1 &&& (7 : Int32)))])
    by_cases hc14 : (q1 &&& (7 : Int32)) = (1 : Int32)
    · refine own_at (fun t k => XS.icmpNo X0.here hx rfl (hb hby d_method_2_14) rfl (Jvm.Free.XT.ii_ne_f hc14) k) ?_
      show own_Go p e below KK s₁ (mkF m 17 #[.val (.int q1), .val (.int (q1 &&& (7 : Int32)))] [])
      refine own_at (fun t k => XS.bipush X0.here hx rfl (hb hby d_method_2_17) k) ?_
      show own_Go p e below KK s₁ (mkF m 19 #[.val (.int q1), .val (.int (q1 &&& (7 : Int32)))] [(.int 9)])
      subst hKK
      exact own_retN X0 hx hlk (t := .char) Bd.returns (by simp) (hb hby d_method_2_19) (w := (own_F_method_2 q1)) ((show nar .char (9 : Int32) = (9 : Int32) from by decide).trans (show (9 : Int32) = (own_F_method_2 q1) from by unfold own_F_method_2; rw [if_neg hc6, if_pos hc14])) ⟨rfl, N0, e0⟩ (Nat.le_of_ble_eq_true rfl) (Nat.le_of_ble_eq_true rfl)
    · refine own_at (fun t k => XS.icmpYes X0.here hx rfl (pc0 := 14) (pc' := 20) rfl (hb hby d_method_2_14) rfl (Jvm.Free.XT.ii_ne_t hc14) (by decide) (by decide) k) ?_
      show own_Go p e below KK s₁ (mkF m 20 #[.val (.int q1), .val (.int (q1 &&& (7 : Int32)))] [])
      refine own_at (fun t k => XS.iloadN X0.here hx rfl (hb hby d_method_2_20) rfl k) ?_
      show own_Go p e below KK s₁ (mkF m 21 #[.val (.int q1), .val (.int (q1 &&& (7 : Int32)))] [(.int (q1 &&& (7 : Int32)))])
      refine own_at (fun t k => XS.iconst X0.here hx rfl (hb hby d_method_2_21) k) ?_
      show own_Go p e below KK s₁ (mkF m 22 #[.val (.int q1), .val (.int (q1 &&& (7 : Int32)))] [(.int 2), (.int (q1 &&& (7 : Int32)))])
      by_cases hc22 : (q1 &&& (7 : Int32)) = (2 : Int32)
      · refine own_at (fun t k => XS.icmpNo X0.here hx rfl (hb hby d_method_2_22) rfl (Jvm.Free.XT.ii_ne_f hc22) k) ?_
        show own_Go p e below KK s₁ (mkF m 25 #[.val (.int q1), .val (.int (q1 &&& (7 : Int32)))] [])
        refine own_at (fun t k => XS.bipush X0.here hx rfl (hb hby d_method_2_25) k) ?_
        show own_Go p e below KK s₁ (mkF m 27 #[.val (.int q1), .val (.int (q1 &&& (7 : Int32)))] [(.int 13)])
        subst hKK
        exact own_retN X0 hx hlk (t := .char) Bd.returns (by simp) (hb hby d_method_2_27) (w := (own_F_method_2 q1)) ((show nar .char (13 : Int32) = (13 : Int32) from by decide).trans (show (13 : Int32) = (own_F_method_2 q1) from by unfold own_F_method_2; rw [if_neg hc6, if_neg hc14, if_pos hc22])) ⟨rfl, N0, e0⟩ (Nat.le_of_ble_eq_true rfl) (Nat.le_of_ble_eq_true rfl)
      · refine own_at (fun t k => XS.icmpYes X0.here hx rfl (pc0 := 22) (pc' := 28) rfl (hb hby d_method_2_22) rfl (Jvm.Free.XT.ii_ne_t hc22) (by decide) (by decide) k) ?_
        show own_Go p e below KK s₁ (mkF m 28 #[.val (.int q1), .val (.int (q1 &&& (7 : Int32)))] [])
        refine own_at (fun t k => XS.iloadN X0.here hx rfl (hb hby d_method_2_28) rfl k) ?_
        show own_Go p e below KK s₁ (mkF m 29 #[.val (.int q1), .val (.int (q1 &&& (7 : Int32)))] [(.int (q1 &&& (7 : Int32)))])
        refine own_at (fun t k => XS.iconst X0.here hx rfl (hb hby d_method_2_29) k) ?_
        show own_Go p e below KK s₁ (mkF m 30 #[.val (.int q1), .val (.int (q1 &&& (7 : Int32)))] [(.int 3), (.int (q1 &&& (7 : Int32)))])
        by_cases hc30 : (q1 &&& (7 : Int32)) = (3 : Int32)
        · refine own_at (fun t k => XS.icmpNo X0.here hx rfl (hb hby d_method_2_30) rfl (Jvm.Free.XT.ii_ne_f hc30) k) ?_
          show own_Go p e below KK s₁ (mkF m 33 #[.val (.int q1), .val (.int (q1 &&& (7 : Int32)))] [])
          refine own_at (fun t k => XS.bipush X0.here hx rfl (hb hby d_method_2_33) k) ?_
          show own_Go p e below KK s₁ (mkF m 35 #[.val (.int q1), .val (.int (q1 &&& (7 : Int32)))] [(.int 10)])
          subst hKK
          exact own_retN X0 hx hlk (t := .char) Bd.returns (by simp) (hb hby d_method_2_35) (w := (own_F_method_2 q1)) ((show nar .char (10 : Int32) = (10 : Int32) from by decide).trans (show (10 : Int32) = (own_F_method_2 q1) from by unfold own_F_method_2; rw [if_neg hc6, if_neg hc14, if_neg hc22, if_pos hc30])) ⟨rfl, N0, e0⟩ (Nat.le_of_ble_eq_true rfl) (Nat.le_of_ble_eq_true rfl)
        · refine own_at (fun t k => XS.icmpYes X0.here hx rfl (pc0 := 30) (pc' := 36) rfl (hb hby d_method_2_30) rfl (Jvm.Free.XT.ii_ne_t hc30) (by decide) (by decide) k) ?_
          show own_Go p e below KK s₁ (mkF m 36 #[.val (.int q1), .val (.int (q1 &&& (7 : Int32)))] [])
          refine own_at (fun t k => XS.iloadN X0.here hx rfl (hb hby d_method_2_36) rfl k) ?_
          show own_Go p e below KK s₁ (mkF m 37 #[.val (.int q1), .val (.int (q1 &&& (7 : Int32)))] [(.int q1)])
          refine own_at (fun t k => XS.iconst X0.here hx rfl (hb hby d_method_2_37) k) ?_
          show own_Go p e below KK s₁ (mkF m 38 #[.val (.int q1), .val (.int (q1 &&& (7 : Int32)))] [(.int 3), (.int q1)])
          refine own_at (fun t k => XS.iushr X0.here hx rfl (hb hby d_method_2_38) rfl k) ?_
          show own_Go p e below KK s₁ (mkF m 39 #[.val (.int q1), .val (.int (q1 &&& (7 : Int32)))] [(.int ((q1.toUInt32 >>> ((3 : Int32) &&& 31).toUInt32).toInt32))])
          refine own_at (fun t k => X0.ldcInt hx hown (mvT hZ (hw _ (List.mem_of_getElem? (i := 22) rfl))) (g := (mkF m 39 #[.val (.int q1), .val (.int (q1 &&& (7 : Int32)))] [(.int ((q1.toUInt32 >>> ((3 : Int32) &&& 31).toUInt32).toInt32))])) rfl (hb hby d_method_2_39) t k) ?_
          show own_Go p e below KK s₁ (mkF m 41 #[.val (.int q1), .val (.int (q1 &&& (7 : Int32)))] [(.int 65535), (.int ((q1.toUInt32 >>> ((3 : Int32) &&& 31).toUInt32).toInt32))])
          refine own_at (fun t k => XS.iand X0.here hx rfl (hb hby d_method_2_41) rfl k) ?_
          show own_Go p e below KK s₁ (mkF m 42 #[.val (.int q1), .val (.int (q1 &&& (7 : Int32)))] [(.int (((q1.toUInt32 >>> ((3 : Int32) &&& 31).toUInt32).toInt32) &&& (65535 : Int32)))])
          refine own_at (fun t k => XS.i2c X0.here hx rfl (hb hby d_method_2_42) rfl k) ?_
          show own_Go p e below KK s₁ (mkF m 43 #[.val (.int q1), .val (.int (q1 &&& (7 : Int32)))] [(.int ((((q1.toUInt32 >>> ((3 : Int32) &&& 31).toUInt32).toInt32) &&& (65535 : Int32)).toUInt32.toUInt16.toUInt32.toInt32))])
          subst hKK
          exact own_retN X0 hx hlk (t := .char) Bd.returns (by simp) (hb hby d_method_2_43) (w := (own_F_method_2 q1)) ((own_narC _).trans (show ((((q1.toUInt32 >>> ((3 : Int32) &&& 31).toUInt32).toInt32) &&& (65535 : Int32)).toUInt32.toUInt16.toUInt32.toInt32) = (own_F_method_2 q1) from by unfold own_F_method_2; rw [if_neg hc6, if_neg hc14, if_neg hc22, if_neg hc30])) ⟨rfl, N0, e0⟩ (Nat.le_of_ble_eq_true rfl) (Nat.le_of_ble_eq_true rfl)
theorem ef_method_3 (m : MethodId) (x0 : Int32) : entryFrame m #[(.int x0)] 1 = mkF m 0 #[.val (.int x0)] [] := by first | (simp [entryFrame, mkF, argsToLocals, Value.category]; done) | rfl
theorem d_method_3_0 : decode method_3_code 0 = .ok (.iload_n 0, 1) := by decide +kernel
theorem d_method_3_1 : decode method_3_code 1 = .ok (.bipush 32, 2) := by decide +kernel
theorem d_method_3_3 : decode method_3_code 3 = .ok (.if_icmp .eq 21, 3) := by decide +kernel
theorem d_method_3_24 : decode method_3_code 24 = .ok (.iconst 1, 1) := by decide +kernel
theorem d_method_3_25 : decode method_3_code 25 = .ok (.goto 4, 3) := by decide +kernel
theorem d_method_3_29 : decode method_3_code 29 = .ok (.ireturn, 1) := by decide +kernel
theorem d_method_3_6 : decode method_3_code 6 = .ok (.iload_n 0, 1) := by decide +kernel
theorem d_method_3_7 : decode method_3_code 7 = .ok (.bipush 9, 2) := by decide +kernel
theorem d_method_3_9 : decode method_3_code 9 = .ok (.if_icmp .eq 15, 3) := by decide +kernel
theorem d_method_3_12 : decode method_3_code 12 = .ok (.iload_n 0, 1) := by decide +kernel
theorem d_method_3_13 : decode method_3_code 13 = .ok (.bipush 10, 2) := by decide +kernel
theorem d_method_3_15 : decode method_3_code 15 = .ok (.if_icmp .eq 9, 3) := by decide +kernel
theorem d_method_3_18 : decode method_3_code 18 = .ok (.iload_n 0, 1) := by decide +kernel
theorem d_method_3_19 : decode method_3_code 19 = .ok (.bipush 13, 2) := by decide +kernel
theorem d_method_3_21 : decode method_3_code 21 = .ok (.if_icmp .ne 7, 3) := by decide +kernel
theorem d_method_3_28 : decode method_3_code 28 = .ok (.iconst 0, 1) := by decide +kernel
def own_F_method_3 (q1 : Int32) : Int32 := (if q1 = (32 : Int32) then (1 : Int32) else (if q1 = (9 : Int32) then (1 : Int32) else (if q1 = (10 : Int32) then (1 : Int32) else (if q1 = (13 : Int32) then (1 : Int32) else (0 : Int32)))))
set_option maxRecDepth 65536 in
set_option maxHeartbeats 40000000 in
theorem rm_method_3 (l : Launch) (Z : State) (a0 : Array Value) (hw : ∀ d ∈ tables_1, d.before a0 Z = true) (ws : List Jvm.Cond) (q1 : Int32)  (h0 : Heap) (n0 : Nat) (Z0 : n0 ≤ h0.size)  :
    MetFree l (⟨"com/example/inscribe/inscribe/core/XmlWhiteSpaceIsWhiteSpace194PinLaw", "ws", "(C)Z"⟩ : MethodName) (head1 (Jvm.Cond.code (⟨"com/example/inscribe/inscribe/core/XmlWhiteSpaceIsWhiteSpace194PinLaw", "ws", "(C)Z"⟩ : MethodName) method_3_code 1 (some .boolean) :: ws) ({ frames := 0, cells := 0, slots := 0, locals := 0 } : Room)) (fun a U => a = #[(.int q1)] ∧ Z.Warmed39 U.vm ∧ U.heap = h0) (fun _ _ _ _ _ => True) (fun _ U o U' => ∃ v L, o = .returned v ∧ own_P (.int (own_F_method_3 q1)) h0 n0 v U'.heap L ∧ FrameEnd U o U' L ({ frames := 0, cells := 0, slots := 0, locals := 0 } : Room).cells ({ frames := 0, cells := 0, slots := 0, locals := 0 } : Room).slots) := by
  refine MetFree.of_bodySF (plainFor_of_name pn_com_example_inscribe_inscribe_core_XmlWhiteSpaceIsWhiteSpace194PinLaw) hisR ?_
  intro p e s m args below meth c s₁ Bd hml0 hP hK
  obtain ⟨rfl, hZ, hh⟩ := hP
  have hx := Bd.exec
  have hby := Bd.bytes
  have hlk : meth.locks = false := BodyLoose.notSynchronized Bd
  have hml : c.maxLocals = 1 := hml0
  have hown : s.vm.findClass "com/example/inscribe/inscribe/core/XmlWhiteSpaceIsWhiteSpace194PinLaw" = some m.cls := findClass_of_methodNamed Bd.named
  have hnm := (name_of_methodNamed Bd.named Bd.method).1
  have X0 : Stand p l e ({ frames := 0, cells := 0, slots := 0, locals := 0 } : Room) s m #[(.int q1)] below meth c s₁ [] 0 0 := Stand.of_body Bd
  have e0 : s₁.heap = h0 := by rw [← hh, Bd.state]; rfl
  have N0 := Fr.nil n0
  refine own_cast (K := own_K s (own_P (.int (own_F_method_3 q1)) h0 n0) 0 0) (ef_method_3 m q1) ?_
  generalize hKK : own_K s (own_P (.int (own_F_method_3 q1)) h0 n0) 0 0 = KK
  show own_Go p e below KK s₁ (mkF m 0 #[.val (.int q1)] [])
  refine own_at (fun t k => XS.iloadN X0.here hx rfl (hb hby d_method_3_0) rfl k) ?_
  show own_Go p e below KK s₁ (mkF m 1 #[.val (.int q1)] [(.int q1)])
  refine own_at (fun t k => XS.bipush X0.here hx rfl (hb hby d_method_3_1) k) ?_
  show own_Go p e below KK s₁ (mkF m 3 #[.val (.int q1)] [(.int 32), (.int q1)])
  by_cases hc3 : q1 = (32 : Int32)
  · refine own_at (fun t k => XS.icmpYes X0.here hx rfl (pc0 := 3) (pc' := 24) rfl (hb hby d_method_3_3) rfl (Jvm.Free.XT.ii_eq_t hc3) (by decide) (by decide) k) ?_
    show own_Go p e below KK s₁ (mkF m 24 #[.val (.int q1)] [])
    refine own_at (fun t k => XS.iconst X0.here hx rfl (hb hby d_method_3_24) k) ?_
    show own_Go p e below KK s₁ (mkF m 25 #[.val (.int q1)] [(.int 1)])
    refine own_at (fun t k => XS.goto X0.here hx rfl (pc0 := 25) (pc' := 29) rfl (hb hby d_method_3_25) (by decide) (by decide) k) ?_
    show own_Go p e below KK s₁ (mkF m 29 #[.val (.int q1)] [(.int 1)])
    subst hKK
    exact own_retN X0 hx hlk (t := .boolean) Bd.returns (by simp) (hb hby d_method_3_29) (w := (own_F_method_3 q1)) ((show nar .boolean (1 : Int32) = (1 : Int32) from by decide).trans (show (1 : Int32) = (own_F_method_3 q1) from by unfold own_F_method_3; rw [if_pos hc3])) ⟨rfl, N0, e0⟩ (Nat.le_of_ble_eq_true rfl) (Nat.le_of_ble_eq_true rfl)
  · refine own_at (fun t k => XS.icmpNo X0.here hx rfl (hb hby d_method_3_3) rfl (Jvm.Free.XT.ii_eq_f hc3) k) ?_
    show own_Go p e below KK s₁ (mkF m 6 #[.val (.int q1)] [])
    refine own_at (fun t k => XS.iloadN X0.here hx rfl (hb hby d_method_3_6) rfl k) ?_
    show own_Go p e below KK s₁ (mkF m 7 #[.val (.int q1)] [(.int q1)])
    refine own_at (fun t k => XS.bipush X0.here hx rfl (hb hby d_method_3_7) k) ?_
    show own_Go p e below KK s₁ (mkF m 9 #[.val (.int q1)] [(.int 9), (.int q1)])
    by_cases hc9 : q1 = (9 : Int32)
    · refine own_at (fun t k => XS.icmpYes X0.here hx rfl (pc0 := 9) (pc' := 24) rfl (hb hby d_method_3_9) rfl (Jvm.Free.XT.ii_eq_t hc9) (by decide) (by decide) k) ?_
      show own_Go p e below KK s₁ (mkF m 24 #[.val (.int q1)] [])
      refine own_at (fun t k => XS.iconst X0.here hx rfl (hb hby d_method_3_24) k) ?_
      show own_Go p e below KK s₁ (mkF m 25 #[.val (.int q1)] [(.int 1)])
      refine own_at (fun t k => XS.goto X0.here hx rfl (pc0 := 25) (pc' := 29) rfl (hb hby d_method_3_25) (by decide) (by decide) k) ?_
      show own_Go p e below KK s₁ (mkF m 29 #[.val (.int q1)] [(.int 1)])
      subst hKK
      exact own_retN X0 hx hlk (t := .boolean) Bd.returns (by simp) (hb hby d_method_3_29) (w := (own_F_method_3 q1)) ((show nar .boolean (1 : Int32) = (1 : Int32) from by decide).trans (show (1 : Int32) = (own_F_method_3 q1) from by unfold own_F_method_3; rw [if_neg hc3, if_pos hc9])) ⟨rfl, N0, e0⟩ (Nat.le_of_ble_eq_true rfl) (Nat.le_of_ble_eq_true rfl)
    · refine own_at (fun t k => XS.icmpNo X0.here hx rfl (hb hby d_method_3_9) rfl (Jvm.Free.XT.ii_eq_f hc9) k) ?_
      show own_Go p e below KK s₁ (mkF m 12 #[.val (.int q1)] [])
      refine own_at (fun t k => XS.iloadN X0.here hx rfl (hb hby d_method_3_12) rfl k) ?_
      show own_Go p e below KK s₁ (mkF m 13 #[.val (.int q1)] [(.int q1)])
      refine own_at (fun t k => XS.bipush X0.here hx rfl (hb hby d_method_3_13) k) ?_
      show own_Go p e below KK s₁ (mkF m 15 #[.val (.int q1)] [(.int 10), (.int q1)])
      by_cases hc15 : q1 = (10 : Int32)
      · refine own_at (fun t k => XS.icmpYes X0.here hx rfl (pc0 := 15) (pc' := 24) rfl (hb hby d_method_3_15) rfl (Jvm.Free.XT.ii_eq_t hc15) (by decide) (by decide) k) ?_
        show own_Go p e below KK s₁ (mkF m 24 #[.val (.int q1)] [])
        refine own_at (fun t k => XS.iconst X0.here hx rfl (hb hby d_method_3_24) k) ?_
        show own_Go p e below KK s₁ (mkF m 25 #[.val (.int q1)] [(.int 1)])
        refine own_at (fun t k => XS.goto X0.here hx rfl (pc0 := 25) (pc' := 29) rfl (hb hby d_method_3_25) (by decide) (by decide) k) ?_
        show own_Go p e below KK s₁ (mkF m 29 #[.val (.int q1)] [(.int 1)])
        subst hKK
        exact own_retN X0 hx hlk (t := .boolean) Bd.returns (by simp) (hb hby d_method_3_29) (w := (own_F_method_3 q1)) ((show nar .boolean (1 : Int32) = (1 : Int32) from by decide).trans (show (1 : Int32) = (own_F_method_3 q1) from by unfold own_F_method_3; rw [if_neg hc3, if_neg hc9, if_pos hc15])) ⟨rfl, N0, e0⟩ (Nat.le_of_ble_eq_true rfl) (Nat.le_of_ble_eq_true rfl)
      · refine own_at (fun t k => XS.icmpNo X0.here hx rfl (hb hby d_method_3_15) rfl (Jvm.Free.XT.ii_eq_f hc15) k) ?_
        show own_Go p e below KK s₁ (mkF m 18 #[.val (.int q1)] [])
        refine own_at (fun t k => XS.iloadN X0.here hx rfl (hb hby d_method_3_18) rfl k) ?_
        show own_Go p e below KK s₁ (mkF m 19 #[.val (.int q1)] [(.int q1)])
        refine own_at (fun t k => XS.bipush X0.here hx rfl (hb hby d_method_3_19) k) ?_
        show own_Go p e below KK s₁ (mkF m 21 #[.val (.int q1)] [(.int 13), (.int q1)])
        by_cases hc21 : q1 = (13 : Int32)
        · refine own_at (fun t k => XS.icmpNo X0.here hx rfl (hb hby d_method_3_21) rfl (Jvm.Free.XT.ii_ne_f hc21) k) ?_
          show own_Go p e below KK s₁ (mkF m 24 #[.val (.int q1)] [])
          refine own_at (fun t k => XS.iconst X0.here hx rfl (hb hby d_method_3_24) k) ?_
          show own_Go p e below KK s₁ (mkF m 25 #[.val (.int q1)] [(.int 1)])
          refine own_at (fun t k => XS.goto X0.here hx rfl (pc0 := 25) (pc' := 29) rfl (hb hby d_method_3_25) (by decide) (by decide) k) ?_
          show own_Go p e below KK s₁ (mkF m 29 #[.val (.int q1)] [(.int 1)])
          subst hKK
          exact own_retN X0 hx hlk (t := .boolean) Bd.returns (by simp) (hb hby d_method_3_29) (w := (own_F_method_3 q1)) ((show nar .boolean (1 : Int32) = (1 : Int32) from by decide).trans (show (1 : Int32) = (own_F_method_3 q1) from by unfold own_F_method_3; rw [if_neg hc3, if_neg hc9, if_neg hc15, if_pos hc21])) ⟨rfl, N0, e0⟩ (Nat.le_of_ble_eq_true rfl) (Nat.le_of_ble_eq_true rfl)
        · refine own_at (fun t k => XS.icmpYes X0.here hx rfl (pc0 := 21) (pc' := 28) rfl (hb hby d_method_3_21) rfl (Jvm.Free.XT.ii_ne_t hc21) (by decide) (by decide) k) ?_
          show own_Go p e below KK s₁ (mkF m 28 #[.val (.int q1)] [])
          refine own_at (fun t k => XS.iconst X0.here hx rfl (hb hby d_method_3_28) k) ?_
          show own_Go p e below KK s₁ (mkF m 29 #[.val (.int q1)] [(.int 0)])
          subst hKK
          exact own_retN X0 hx hlk (t := .boolean) Bd.returns (by simp) (hb hby d_method_3_29) (w := (own_F_method_3 q1)) ((show nar .boolean (0 : Int32) = (0 : Int32) from by decide).trans (show (0 : Int32) = (own_F_method_3 q1) from by unfold own_F_method_3; rw [if_neg hc3, if_neg hc9, if_neg hc15, if_neg hc21])) ⟨rfl, N0, e0⟩ (Nat.le_of_ble_eq_true rfl) (Nat.le_of_ble_eq_true rfl)
theorem own_wsb (c : Int32) : own_F_method_3 c = 0 ∨ own_F_method_3 c = 1 := by
  unfold own_F_method_3
  repeat' split
  all_goals first | exact Or.inl rfl | exact Or.inr rfl
theorem ef_method_4 (m : MethodId) (x0 : Int32) (x1 : Int32) (x2 : Int32) (x3 : Int32) : entryFrame m #[(.int x0), (.int x1), (.int x2), (.int x3)] 4 = mkF m 0 #[.val (.int x0), .val (.int x1), .val (.int x2), .val (.int x3)] [] := by first | (simp [entryFrame, mkF, argsToLocals, Value.category]; done) | rfl
theorem d_method_4_0 : decode method_4_code 0 = .ok (.iload_n 0, 1) := by decide +kernel
theorem d_method_4_1 : decode method_4_code 1 = .ok (.iload_n 1, 1) := by decide +kernel
theorem d_method_4_2 : decode method_4_code 2 = .ok (.if_icmp .lt 13, 3) := by decide +kernel
theorem d_method_4_15 : decode method_4_code 15 = .ok (.iconst 1, 1) := by decide +kernel
theorem d_method_4_16 : decode method_4_code 16 = .ok (.ireturn, 1) := by decide +kernel
theorem d_method_4_5 : decode method_4_code 5 = .ok (.iload_n 0, 1) := by decide +kernel
theorem d_method_4_6 : decode method_4_code 6 = .ok (.iload_n 2, 1) := by decide +kernel
theorem d_method_4_7 : decode method_4_code 7 = .ok (.if_icmp .ge 8, 3) := by decide +kernel
theorem d_method_4_10 : decode method_4_code 10 = .ok (.iload_n 3, 1) := by decide +kernel
theorem d_method_4_11 : decode method_4_code 11 = .ok (.invokestatic 8, 3) := by decide +kernel
theorem d_method_4_14 : decode method_4_code 14 = .ok (.ireturn, 1) := by decide +kernel
def own_F_method_4 (q1 : Int32) (q2 : Int32) (q3 : Int32) (q4 : Int32) : Int32 := (if q1 < q2 then (1 : Int32) else (if q1 < q3 then (own_F_method_3 q4) else (1 : Int32)))
set_option maxRecDepth 65536 in
set_option maxHeartbeats 40000000 in
theorem rm_method_4 (l : Launch) (Z : State) (a0 : Array Value) (hw : ∀ d ∈ tables_1, d.before a0 Z = true) (ws : List Jvm.Cond) (q1 : Int32) (q2 : Int32) (q3 : Int32) (q4 : Int32)  (h0 : Heap) (n0 : Nat) (Z0 : n0 ≤ h0.size)  :
    MetFree l (⟨"com/example/inscribe/inscribe/core/XmlWhiteSpaceIsWhiteSpace194PinLaw", "okAt", "(IIIC)Z"⟩ : MethodName) (head1 (Jvm.Cond.code (⟨"com/example/inscribe/inscribe/core/XmlWhiteSpaceIsWhiteSpace194PinLaw", "okAt", "(IIIC)Z"⟩ : MethodName) method_4_code 4 (some .boolean) :: ws) ({ frames := 1, cells := 0, slots := 0, locals := 12 } : Room)) (fun a U => a = #[(.int q1), (.int q2), (.int q3), (.int q4)] ∧ Z.Warmed39 U.vm ∧ U.heap = h0) (fun _ _ _ _ _ => True) (fun _ U o U' => ∃ v L, o = .returned v ∧ own_P (.int (own_F_method_4 q1 q2 q3 q4)) h0 n0 v U'.heap L ∧ FrameEnd U o U' L ({ frames := 1, cells := 0, slots := 0, locals := 12 } : Room).cells ({ frames := 1, cells := 0, slots := 0, locals := 12 } : Room).slots) := by
  refine MetFree.of_bodySF (plainFor_of_name pn_com_example_inscribe_inscribe_core_XmlWhiteSpaceIsWhiteSpace194PinLaw) hisR ?_
  intro p e s m args below meth c s₁ Bd hml0 hP hK
  obtain ⟨rfl, hZ, hh⟩ := hP
  have hx := Bd.exec
  have hby := Bd.bytes
  have hlk : meth.locks = false := BodyLoose.notSynchronized Bd
  have hml : c.maxLocals = 4 := hml0
  have hown : s.vm.findClass "com/example/inscribe/inscribe/core/XmlWhiteSpaceIsWhiteSpace194PinLaw" = some m.cls := findClass_of_methodNamed Bd.named
  have hnm := (name_of_methodNamed Bd.named Bd.method).1
  have X0 : Stand p l e ({ frames := 1, cells := 0, slots := 0, locals := 12 } : Room) s m #[(.int q1), (.int q2), (.int q3), (.int q4)] below meth c s₁ [] 0 0 := Stand.of_body Bd
  have e0 : s₁.heap = h0 := by rw [← hh, Bd.state]; rfl
  have N0 := Fr.nil n0
  refine own_cast (K := own_K s (own_P (.int (own_F_method_4 q1 q2 q3 q4)) h0 n0) 0 0) (ef_method_4 m q1 q2 q3 q4) ?_
  generalize hKK : own_K s (own_P (.int (own_F_method_4 q1 q2 q3 q4)) h0 n0) 0 0 = KK
  show own_Go p e below KK s₁ (mkF m 0 #[.val (.int q1), .val (.int q2), .val (.int q3), .val (.int q4)] [])
  refine own_at (fun t k => XS.iloadN X0.here hx rfl (hb hby d_method_4_0) rfl k) ?_
  show own_Go p e below KK s₁ (mkF m 1 #[.val (.int q1), .val (.int q2), .val (.int q3), .val (.int q4)] [(.int q1)])
  refine own_at (fun t k => XS.iloadN X0.here hx rfl (hb hby d_method_4_1) rfl k) ?_
  show own_Go p e below KK s₁ (mkF m 2 #[.val (.int q1), .val (.int q2), .val (.int q3), .val (.int q4)] [(.int q2), (.int q1)])
  by_cases hc2 : q1 < q2
  · refine own_at (fun t k => XS.icmpYes X0.here hx rfl (pc0 := 2) (pc' := 15) rfl (hb hby d_method_4_2) rfl (Jvm.Free.XT.ii_lt_t hc2) (by decide) (by decide) k) ?_
    show own_Go p e below KK s₁ (mkF m 15 #[.val (.int q1), .val (.int q2), .val (.int q3), .val (.int q4)] [])
    refine own_at (fun t k => XS.iconst X0.here hx rfl (hb hby d_method_4_15) k) ?_
    show own_Go p e below KK s₁ (mkF m 16 #[.val (.int q1), .val (.int q2), .val (.int q3), .val (.int q4)] [(.int 1)])
    subst hKK
    exact own_retN X0 hx hlk (t := .boolean) Bd.returns (by simp) (hb hby d_method_4_16) (w := (own_F_method_4 q1 q2 q3 q4)) ((show nar .boolean (1 : Int32) = (1 : Int32) from by decide).trans (show (1 : Int32) = (own_F_method_4 q1 q2 q3 q4) from by unfold own_F_method_4; rw [if_pos hc2])) ⟨rfl, N0, e0⟩ (Nat.le_of_ble_eq_true rfl) (Nat.le_of_ble_eq_true rfl)
  · refine own_at (fun t k => XS.icmpNo X0.here hx rfl (hb hby d_method_4_2) rfl (Jvm.Free.XT.ii_lt_f hc2) k) ?_
    show own_Go p e below KK s₁ (mkF m 5 #[.val (.int q1), .val (.int q2), .val (.int q3), .val (.int q4)] [])
    refine own_at (fun t k => XS.iloadN X0.here hx rfl (hb hby d_method_4_5) rfl k) ?_
    show own_Go p e below KK s₁ (mkF m 6 #[.val (.int q1), .val (.int q2), .val (.int q3), .val (.int q4)] [(.int q1)])
    refine own_at (fun t k => XS.iloadN X0.here hx rfl (hb hby d_method_4_6) rfl k) ?_
    show own_Go p e below KK s₁ (mkF m 7 #[.val (.int q1), .val (.int q2), .val (.int q3), .val (.int q4)] [(.int q3), (.int q1)])
    by_cases hc7 : q1 < q3
    · refine own_at (fun t k => XS.icmpNo X0.here hx rfl (hb hby d_method_4_7) rfl (Jvm.Free.XT.ii_ge_f hc7) k) ?_
      show own_Go p e below KK s₁ (mkF m 10 #[.val (.int q1), .val (.int q2), .val (.int q3), .val (.int q4)] [])
      refine own_at (fun t k => XS.iloadN X0.here hx rfl (hb hby d_method_4_10) rfl k) ?_
      show own_Go p e below KK s₁ (mkF m 11 #[.val (.int q1), .val (.int q2), .val (.int q3), .val (.int q4)] [(.int q4)])
      obtain ⟨_, _, ⟨T1, L1, k1, n1⟩, -, X1, ⟨Lc1, hQ1, l1, y1, z1⟩, st1⟩ := Jvm.LawKit.callS X0 hx (y := (⟨"com/example/inscribe/inscribe/core/XmlWhiteSpaceIsWhiteSpace194PinLaw", "ws", "(C)Z"⟩ : MethodName)) hown (mvT hZ (hw _ (List.mem_of_getElem? (i := 9) rfl))) (mvT hZ (hw _ (List.mem_of_getElem? (i := 10) rfl))) (mvT hZ (hw _ (List.mem_of_getElem? (i := 3) rfl))) (mvT hZ (hw _ (List.mem_of_getElem? (i := 11) rfl))) (by decide) (backOf (W := 0) (rm_method_3 l Z a0 hw [] q4  h0 n0 Z0 ) hZ (hw _ (List.mem_of_getElem? (i := 11) rfl)) (hw _ (List.mem_of_getElem? (i := 3) rfl)) (by decide) (by decide)) (g := (mkF m 11 #[.val (.int q1), .val (.int q2), .val (.int q3), .val (.int q4)] [(.int q4)])) rfl (by rw [hml]; rfl) (argsL := [(.int q4)]) (rest := []) (lenOf pd__C_Z rfl) rfl (by show 2 * 0 + _ ≤ _; exact Nat.le_of_eq rfl) (hb hby d_method_4_11) (fun _ _ => ⟨rfl, e0, (by decide : 0 + 0 ≤ _), (by decide : 0 + 0 ≤ _)⟩)
      dsimp only [Pt.U, Pt.locs, Pt.cells, Pt.slots] at X1 l1 y1 z1 st1 hQ1
      subst l1 y1 z1
      obtain ⟨rfl, N1q, e1⟩ := hQ1
      have N1 := Fr.app N0 N1q
      refine own_of (fun t k => st1 t k) ?_
      show own_Go p e below KK T1 (mkF m 14 #[.val (.int q1), .val (.int q2), .val (.int q3), .val (.int q4)] [(.int (own_F_method_3 q4))])
      subst hKK
      exact own_retN X1 hx hlk (t := .boolean) Bd.returns (by simp) (hb hby d_method_4_14) (w := (own_F_method_4 q1 q2 q3 q4)) ((own_nar01 (own_wsb _)).trans (show (own_F_method_3 q4) = (own_F_method_4 q1 q2 q3 q4) from by unfold own_F_method_4; rw [if_neg hc2, if_pos hc7])) ⟨rfl, N1, e1⟩ (Nat.le_of_ble_eq_true rfl) (Nat.le_of_ble_eq_true rfl)
    · refine own_at (fun t k => XS.icmpYes X0.here hx rfl (pc0 := 7) (pc' := 15) rfl (hb hby d_method_4_7) rfl (Jvm.Free.XT.ii_ge_t hc7) (by decide) (by decide) k) ?_
      show own_Go p e below KK s₁ (mkF m 15 #[.val (.int q1), .val (.int q2), .val (.int q3), .val (.int q4)] [])
      refine own_at (fun t k => XS.iconst X0.here hx rfl (hb hby d_method_4_15) k) ?_
      show own_Go p e below KK s₁ (mkF m 16 #[.val (.int q1), .val (.int q2), .val (.int q3), .val (.int q4)] [(.int 1)])
      subst hKK
      exact own_retN X0 hx hlk (t := .boolean) Bd.returns (by simp) (hb hby d_method_4_16) (w := (own_F_method_4 q1 q2 q3 q4)) ((show nar .boolean (1 : Int32) = (1 : Int32) from by decide).trans (show (1 : Int32) = (own_F_method_4 q1 q2 q3 q4) from by unfold own_F_method_4; rw [if_neg hc2, if_neg hc7])) ⟨rfl, N0, e0⟩ (Nat.le_of_ble_eq_true rfl) (Nat.le_of_ble_eq_true rfl)
theorem ef_prog_39_4 (m : MethodId) (x0 : Addr) (x1 : Int32) (x2 : Int32) : entryFrame m #[(.ref x0), (.int x1), (.int x2)] 4 = mkF m 0 #[.val (.ref x0), .val (.int x1), .val (.int x2), .unset] [] := by first | (simp [entryFrame, mkF, argsToLocals, Value.category]; done) | rfl
theorem d_prog_39_4_0 : decode prog_39_method_4_code 0 = .ok (.iload_n 1, 1) := by decide +kernel
theorem d_prog_39_4_1 : decode prog_39_method_4_code 1 = .ok (.istore_n 3, 1) := by decide +kernel
theorem d_prog_39_4_2 : decode prog_39_method_4_code 2 = .ok (.iload_n 3, 1) := by decide +kernel
theorem d_prog_39_4_3 : decode prog_39_method_4_code 3 = .ok (.iload_n 2, 1) := by decide +kernel
theorem d_prog_39_4_4 : decode prog_39_method_4_code 4 = .ok (.if_icmp .ge 20, 3) := by decide +kernel
theorem d_prog_39_4_7 : decode prog_39_method_4_code 7 = .ok (.aload_n 0, 1) := by decide +kernel
theorem d_prog_39_4_8 : decode prog_39_method_4_code 8 = .ok (.iload_n 3, 1) := by decide +kernel
theorem d_prog_39_4_9 : decode prog_39_method_4_code 9 = .ok (.caload, 1) := by decide +kernel
theorem d_prog_39_4_10 : decode prog_39_method_4_code 10 = .ok (.invokestatic 23, 3) := by decide +kernel
theorem d_prog_39_4_13 : decode prog_39_method_4_code 13 = .ok (.ifCond .ne 5, 3) := by decide +kernel
theorem d_prog_39_4_16 : decode prog_39_method_4_code 16 = .ok (.iconst 0, 1) := by decide +kernel
theorem d_prog_39_4_17 : decode prog_39_method_4_code 17 = .ok (.ireturn, 1) := by decide +kernel
theorem d_prog_39_4_18 : decode prog_39_method_4_code 18 = .ok (.iinc 3 1, 3) := by decide +kernel
theorem d_prog_39_4_21 : decode prog_39_method_4_code 21 = .ok (.goto (-19), 3) := by decide +kernel
theorem d_prog_39_4_24 : decode prog_39_method_4_code 24 = .ok (.iconst 1, 1) := by decide +kernel
theorem d_prog_39_4_25 : decode prog_39_method_4_code 25 = .ok (.ireturn, 1) := by decide +kernel
def own_G0 (q3 c0 c1 c2 c3 : Int32) : Int32 := (if (0 : Int32) < q3 then (if (own_F_prog_39_2 c0) = (0 : Int32) then (0 : Int32) else (if (1 : Int32) < q3 then (if (own_F_prog_39_2 c1) = (0 : Int32) then (0 : Int32) else (if (2 : Int32) < q3 then (if (own_F_prog_39_2 c2) = (0 : Int32) then (0 : Int32) else (if (3 : Int32) < q3 then (if (own_F_prog_39_2 c3) = (0 : Int32) then (0 : Int32) else (1 : Int32)) else (1 : Int32))) else (1 : Int32))) else (1 : Int32))) else (1 : Int32))
set_option maxRecDepth 65536 in
set_option maxHeartbeats 40000000 in
theorem rm_isw0 (l : Launch) (Z : State) (a0 : Array Value) (hw : ∀ d ∈ tables_1, d.before a0 Z = true) (ws : List Jvm.Cond) (q1 : Addr) (q3 : Int32) (c0 c1 c2 c3 : Int32) (h0 : Heap) (n0 : Nat) (Z0 : n0 ≤ h0.size) (Aq : own_A Z h0 q1 "[C" .char [(.int c0), (.int c1), (.int c2), (.int c3)]) (hen : ¬ (4 : Int32) < q3) :
    MetFree l (⟨"com/example/inscribe/inscribe/core/XmlWhiteSpace", "isWhiteSpace", "([CII)Z"⟩ : MethodName) (head1 (Jvm.Cond.code (⟨"com/example/inscribe/inscribe/core/XmlWhiteSpace", "isWhiteSpace", "([CII)Z"⟩ : MethodName) prog_39_method_4_code 4 (some .boolean) :: ws) ({ frames := 2, cells := 0, slots := 0, locals := 24 } : Room)) (fun a U => a = #[(.ref q1), (.int 0), (.int q3)] ∧ Z.Warmed39 U.vm ∧ U.heap = h0) (fun _ _ _ _ _ => True) (fun _ U o U' => ∃ v L, o = .returned v ∧ own_P (.int (own_G0 q3 c0 c1 c2 c3)) h0 n0 v U'.heap L ∧ FrameEnd U o U' L ({ frames := 2, cells := 0, slots := 0, locals := 24 } : Room).cells ({ frames := 2, cells := 0, slots := 0, locals := 24 } : Room).slots) := by
  refine MetFree.of_bodySF (plainFor_of_name pn_com_example_inscribe_inscribe_core_XmlWhiteSpace) hisR ?_
  intro p e s m args below meth c s₁ Bd hml0 hP hK
  obtain ⟨rfl, hZ, hh⟩ := hP
  have hx := Bd.exec
  have hby := Bd.bytes
  have hlk : meth.locks = false := BodyLoose.notSynchronized Bd
  have hml : c.maxLocals = 4 := hml0
  have hown : s.vm.findClass "com/example/inscribe/inscribe/core/XmlWhiteSpace" = some m.cls := findClass_of_methodNamed Bd.named
  have hnm := (name_of_methodNamed Bd.named Bd.method).1
  have X0 : Stand p l e ({ frames := 2, cells := 0, slots := 0, locals := 24 } : Room) s m #[(.ref q1), (.int 0), (.int q3)] below meth c s₁ [] 0 0 := Stand.of_body Bd
  have e0 : s₁.heap = h0 := by rw [← hh, Bd.state]; rfl
  have N0 := Fr.nil n0
  refine own_cast (K := own_K s (own_P (.int (own_G0 q3 c0 c1 c2 c3)) h0 n0) 0 0) (ef_prog_39_4 m q1 (0 : Int32) q3) ?_
  generalize hKK : own_K s (own_P (.int (own_G0 q3 c0 c1 c2 c3)) h0 n0) 0 0 = KK
  show own_Go p e below KK s₁ (mkF m 0 #[.val (.ref q1), .val (.int 0), .val (.int q3), .unset] [])
  refine own_at (fun t k => XS.iloadN X0.here hx rfl (hb hby d_prog_39_4_0) rfl k) ?_
  show own_Go p e below KK s₁ (mkF m 1 #[.val (.ref q1), .val (.int 0), .val (.int q3), .unset] [(.int 0)])
  refine own_at (fun t k => XS.istoreN X0.here hx rfl (hb hby d_prog_39_4_1) rfl (l' := #[.val (.ref q1), .val (.int 0), .val (.int q3), .val (.int 0)]) rfl k) ?_
  show own_Go p e below KK s₁ (mkF m 2 #[.val (.ref q1), .val (.int 0), .val (.int q3), .val (.int 0)] [])
  refine own_at (fun t k => XS.iloadN X0.here hx rfl (hb hby d_prog_39_4_2) rfl k) ?_
  show own_Go p e below KK s₁ (mkF m 3 #[.val (.ref q1), .val (.int 0), .val (.int q3), .val (.int 0)] [(.int 0)])
  refine own_at (fun t k => XS.iloadN X0.here hx rfl (hb hby d_prog_39_4_3) rfl k) ?_
  show own_Go p e below KK s₁ (mkF m 4 #[.val (.ref q1), .val (.int 0), .val (.int q3), .val (.int 0)] [(.int q3), (.int 0)])
  by_cases hc4 : (0 : Int32) < q3
  · refine own_at (fun t k => XS.icmpNo X0.here hx rfl (hb hby d_prog_39_4_4) rfl (Jvm.Free.XT.ii_ge_f hc4) k) ?_
    show own_Go p e below KK s₁ (mkF m 7 #[.val (.ref q1), .val (.int 0), .val (.int q3), .val (.int 0)] [])
    refine own_at (fun t k => XS.aloadN X0.here hx rfl (hb hby d_prog_39_4_7) rfl rfl k) ?_
    show own_Go p e below KK s₁ (mkF m 8 #[.val (.ref q1), .val (.int 0), .val (.int q3), .val (.int 0)] [(.ref q1)])
    refine own_at (fun t k => XS.iloadN X0.here hx rfl (hb hby d_prog_39_4_8) rfl k) ?_
    show own_Go p e below KK s₁ (mkF m 9 #[.val (.ref q1), .val (.int 0), .val (.int q3), .val (.int 0)] [(.int 0), (.ref q1)])
    refine own_at (fun t k => own_ldC X0 hx hZ e0 Aq (j := (0 : Int32)) (i := 0) (v := (.int c0)) (by decide) (by decide) rfl (g := (mkF m 9 #[.val (.ref q1), .val (.int 0), .val (.int q3), .val (.int 0)] [(.int 0), (.ref q1)])) rfl rfl (hb hby d_prog_39_4_9) t k) ?_
    show own_Go p e below KK s₁ (mkF m 10 #[.val (.ref q1), .val (.int 0), .val (.int q3), .val (.int 0)] [(.int c0)])
    obtain ⟨_, _, ⟨T1, L1, k1, n1⟩, -, X1, ⟨Lc1, hQ1, l1, y1, z1⟩, st1⟩ := Jvm.LawKit.callS X0 hx (y := (⟨"com/example/inscribe/inscribe/core/XmlWhiteSpace", "isWhiteSpace", "(C)Z"⟩ : MethodName)) hown (mvT hZ (hw _ (List.mem_of_getElem? (i := 16) rfl))) (mvT hZ (hw _ (List.mem_of_getElem? (i := 17) rfl))) (mvT hZ (hw _ (List.mem_of_getElem? (i := 14) rfl))) (mvT hZ (hw _ (List.mem_of_getElem? (i := 18) rfl))) (by decide) (backOf (W := 0) (rm_prog_39_2 l Z a0 hw [] c0  h0 n0 Z0 ) hZ (hw _ (List.mem_of_getElem? (i := 18) rfl)) (hw _ (List.mem_of_getElem? (i := 14) rfl)) (by decide) (by decide)) (g := (mkF m 10 #[.val (.ref q1), .val (.int 0), .val (.int q3), .val (.int 0)] [(.int c0)])) rfl (by rw [hml]; rfl) (argsL := [(.int c0)]) (rest := []) (lenOf pd__C_Z rfl) rfl (by show 2 * 0 + _ ≤ _; exact Nat.le_of_eq rfl) (hb hby d_prog_39_4_10) (fun _ _ => ⟨rfl, e0, (by decide : 0 + 0 ≤ _), (by decide : 0 + 0 ≤ _)⟩)
    dsimp only [Pt.U, Pt.locs, Pt.cells, Pt.slots] at X1 l1 y1 z1 st1 hQ1
    subst l1 y1 z1
    obtain ⟨rfl, N1q, e1⟩ := hQ1
    have N1 := Fr.app N0 N1q
    refine own_of (fun t k => st1 t k) ?_
    show own_Go p e below KK T1 (mkF m 13 #[.val (.ref q1), .val (.int 0), .val (.int q3), .val (.int 0)] [(.int (own_F_prog_39_2 c0))])
    by_cases hc13 : (own_F_prog_39_2 c0) = (0 : Int32)
    · refine own_at (fun t k => XS.ifNo X1.here hx rfl (hb hby d_prog_39_4_13) rfl (Jvm.Free.XT.i0_ne_f hc13) k) ?_
      show own_Go p e below KK T1 (mkF m 16 #[.val (.ref q1), .val (.int 0), .val (.int q3), .val (.int 0)] [])
      refine own_at (fun t k => XS.iconst X1.here hx rfl (hb hby d_prog_39_4_16) k) ?_
      show own_Go p e below KK T1 (mkF m 17 #[.val (.ref q1), .val (.int 0), .val (.int q3), .val (.int 0)] [(.int 0)])
      subst hKK
      exact own_retN X1 hx hlk (t := .boolean) Bd.returns (by simp) (hb hby d_prog_39_4_17) (w := (own_G0 q3 c0 c1 c2 c3)) ((show nar .boolean (0 : Int32) = (0 : Int32) from by decide).trans (show (0 : Int32) = (own_G0 q3 c0 c1 c2 c3) from by unfold own_G0; rw [if_pos hc4, if_pos hc13])) ⟨rfl, N1, e1⟩ (Nat.le_of_ble_eq_true rfl) (Nat.le_of_ble_eq_true rfl)
    · refine own_at (fun t k => XS.ifYes X1.here hx rfl (pc0 := 13) (pc' := 18) rfl (hb hby d_prog_39_4_13) rfl (Jvm.Free.XT.i0_ne_t hc13) (by decide) (by decide) k) ?_
      show own_Go p e below KK T1 (mkF m 18 #[.val (.ref q1), .val (.int 0), .val (.int q3), .val (.int 0)] [])
      refine own_at (fun t k => XS.iinc X1.here hx rfl (hb hby d_prog_39_4_18) rfl (l' := #[.val (.ref q1), .val (.int 0), .val (.int q3), .val (.int ((0 : Int32) + (1 : Int32)))]) rfl k) ?_
      show own_Go p e below KK T1 (mkF m 21 #[.val (.ref q1), .val (.int 0), .val (.int q3), .val (.int ((0 : Int32) + (1 : Int32)))] [])
      rw [show ((0 : Int32) + (1 : Int32)) = (1 : Int32) from by decide]
      show own_Go p e below KK T1 (mkF m 21 #[.val (.ref q1), .val (.int 0), .val (.int q3), .val (.int 1)] [])
      refine own_at (fun t k => XS.goto X1.here hx rfl (pc0 := 21) (pc' := 2) rfl (hb hby d_prog_39_4_21) (by decide) (by decide) k) ?_
      show own_Go p e below KK T1 (mkF m 2 #[.val (.ref q1), .val (.int 0), .val (.int q3), .val (.int 1)] [])
      refine own_at (fun t k => XS.iloadN X1.here hx rfl (hb hby d_prog_39_4_2) rfl k) ?_
      show own_Go p e below KK T1 (mkF m 3 #[.val (.ref q1), .val (.int 0), .val (.int q3), .val (.int 1)] [(.int 1)])
      refine own_at (fun t k => XS.iloadN X1.here hx rfl (hb hby d_prog_39_4_3) rfl k) ?_
      show own_Go p e below KK T1 (mkF m 4 #[.val (.ref q1), .val (.int 0), .val (.int q3), .val (.int 1)] [(.int q3), (.int 1)])
      by_cases hc4_1 : (1 : Int32) < q3
      · refine own_at (fun t k => XS.icmpNo X1.here hx rfl (hb hby d_prog_39_4_4) rfl (Jvm.Free.XT.ii_ge_f hc4_1) k) ?_
        show own_Go p e below KK T1 (mkF m 7 #[.val (.ref q1), .val (.int 0), .val (.int q3), .val (.int 1)] [])
        refine own_at (fun t k => XS.aloadN X1.here hx rfl (hb hby d_prog_39_4_7) rfl rfl k) ?_
        show own_Go p e below KK T1 (mkF m 8 #[.val (.ref q1), .val (.int 0), .val (.int q3), .val (.int 1)] [(.ref q1)])
        refine own_at (fun t k => XS.iloadN X1.here hx rfl (hb hby d_prog_39_4_8) rfl k) ?_
        show own_Go p e below KK T1 (mkF m 9 #[.val (.ref q1), .val (.int 0), .val (.int q3), .val (.int 1)] [(.int 1), (.ref q1)])
        refine own_at (fun t k => own_ldC X1 hx hZ e1 Aq (j := (1 : Int32)) (i := 1) (v := (.int c1)) (by decide) (by decide) rfl (g := (mkF m 9 #[.val (.ref q1), .val (.int 0), .val (.int q3), .val (.int 1)] [(.int 1), (.ref q1)])) rfl rfl (hb hby d_prog_39_4_9) t k) ?_
        show own_Go p e below KK T1 (mkF m 10 #[.val (.ref q1), .val (.int 0), .val (.int q3), .val (.int 1)] [(.int c1)])
        obtain ⟨_, _, ⟨T2, L2, k2, n2⟩, -, X2, ⟨Lc2, hQ2, l2, y2, z2⟩, st2⟩ := Jvm.LawKit.callS X1 hx (y := (⟨"com/example/inscribe/inscribe/core/XmlWhiteSpace", "isWhiteSpace", "(C)Z"⟩ : MethodName)) hown (mvT hZ (hw _ (List.mem_of_getElem? (i := 16) rfl))) (mvT hZ (hw _ (List.mem_of_getElem? (i := 17) rfl))) (mvT hZ (hw _ (List.mem_of_getElem? (i := 14) rfl))) (mvT hZ (hw _ (List.mem_of_getElem? (i := 18) rfl))) (by decide) (backOf (W := 0) (rm_prog_39_2 l Z a0 hw [] c1  h0 n0 Z0 ) hZ (hw _ (List.mem_of_getElem? (i := 18) rfl)) (hw _ (List.mem_of_getElem? (i := 14) rfl)) (by decide) (by decide)) (g := (mkF m 10 #[.val (.ref q1), .val (.int 0), .val (.int q3), .val (.int 1)] [(.int c1)])) rfl (by rw [hml]; rfl) (argsL := [(.int c1)]) (rest := []) (lenOf pd__C_Z rfl) rfl (by show 2 * 0 + _ ≤ _; exact Nat.le_of_eq rfl) (hb hby d_prog_39_4_10) (fun _ _ => ⟨rfl, e1, (by decide : 0 + 0 ≤ _), (by decide : 0 + 0 ≤ _)⟩)
        dsimp only [Pt.U, Pt.locs, Pt.cells, Pt.slots] at X2 l2 y2 z2 st2 hQ2
        subst l2 y2 z2
        obtain ⟨rfl, N2q, e2⟩ := hQ2
        have N2 := Fr.app N1 N2q
        refine own_of (fun t k => st2 t k) ?_
        show own_Go p e below KK T2 (mkF m 13 #[.val (.ref q1), .val (.int 0), .val (.int q3), .val (.int 1)] [(.int (own_F_prog_39_2 c1))])
        by_cases hc13_1 : (own_F_prog_39_2 c1) = (0 : Int32)
        · refine own_at (fun t k => XS.ifNo X2.here hx rfl (hb hby d_prog_39_4_13) rfl (Jvm.Free.XT.i0_ne_f hc13_1) k) ?_
          show own_Go p e below KK T2 (mkF m 16 #[.val (.ref q1), .val (.int 0), .val (.int q3), .val (.int 1)] [])
          refine own_at (fun t k => XS.iconst X2.here hx rfl (hb hby d_prog_39_4_16) k) ?_
          show own_Go p e below KK T2 (mkF m 17 #[.val (.ref q1), .val (.int 0), .val (.int q3), .val (.int 1)] [(.int 0)])
          subst hKK
          exact own_retN X2 hx hlk (t := .boolean) Bd.returns (by simp) (hb hby d_prog_39_4_17) (w := (own_G0 q3 c0 c1 c2 c3)) ((show nar .boolean (0 : Int32) = (0 : Int32) from by decide).trans (show (0 : Int32) = (own_G0 q3 c0 c1 c2 c3) from by unfold own_G0; rw [if_pos hc4, if_neg hc13, if_pos hc4_1, if_pos hc13_1])) ⟨rfl, N2, e2⟩ (Nat.le_of_ble_eq_true rfl) (Nat.le_of_ble_eq_true rfl)
        · refine own_at (fun t k => XS.ifYes X2.here hx rfl (pc0 := 13) (pc' := 18) rfl (hb hby d_prog_39_4_13) rfl (Jvm.Free.XT.i0_ne_t hc13_1) (by decide) (by decide) k) ?_
          show own_Go p e below KK T2 (mkF m 18 #[.val (.ref q1), .val (.int 0), .val (.int q3), .val (.int 1)] [])
          refine own_at (fun t k => XS.iinc X2.here hx rfl (hb hby d_prog_39_4_18) rfl (l' := #[.val (.ref q1), .val (.int 0), .val (.int q3), .val (.int ((1 : Int32) + (1 : Int32)))]) rfl k) ?_
          show own_Go p e below KK T2 (mkF m 21 #[.val (.ref q1), .val (.int 0), .val (.int q3), .val (.int ((1 : Int32) + (1 : Int32)))] [])
          rw [show ((1 : Int32) + (1 : Int32)) = (2 : Int32) from by decide]
          show own_Go p e below KK T2 (mkF m 21 #[.val (.ref q1), .val (.int 0), .val (.int q3), .val (.int 2)] [])
          refine own_at (fun t k => XS.goto X2.here hx rfl (pc0 := 21) (pc' := 2) rfl (hb hby d_prog_39_4_21) (by decide) (by decide) k) ?_
          show own_Go p e below KK T2 (mkF m 2 #[.val (.ref q1), .val (.int 0), .val (.int q3), .val (.int 2)] [])
          refine own_at (fun t k => XS.iloadN X2.here hx rfl (hb hby d_prog_39_4_2) rfl k) ?_
          show own_Go p e below KK T2 (mkF m 3 #[.val (.ref q1), .val (.int 0), .val (.int q3), .val (.int 2)] [(.int 2)])
          refine own_at (fun t k => XS.iloadN X2.here hx rfl (hb hby d_prog_39_4_3) rfl k) ?_
          show own_Go p e below KK T2 (mkF m 4 #[.val (.ref q1), .val (.int 0), .val (.int q3), .val (.int 2)] [(.int q3), (.int 2)])
          by_cases hc4_2 : (2 : Int32) < q3
          · refine own_at (fun t k => XS.icmpNo X2.here hx rfl (hb hby d_prog_39_4_4) rfl (Jvm.Free.XT.ii_ge_f hc4_2) k) ?_
            show own_Go p e below KK T2 (mkF m 7 #[.val (.ref q1), .val (.int 0), .val (.int q3), .val (.int 2)] [])
            refine own_at (fun t k => XS.aloadN X2.here hx rfl (hb hby d_prog_39_4_7) rfl rfl k) ?_
            show own_Go p e below KK T2 (mkF m 8 #[.val (.ref q1), .val (.int 0), .val (.int q3), .val (.int 2)] [(.ref q1)])
            refine own_at (fun t k => XS.iloadN X2.here hx rfl (hb hby d_prog_39_4_8) rfl k) ?_
            show own_Go p e below KK T2 (mkF m 9 #[.val (.ref q1), .val (.int 0), .val (.int q3), .val (.int 2)] [(.int 2), (.ref q1)])
            refine own_at (fun t k => own_ldC X2 hx hZ e2 Aq (j := (2 : Int32)) (i := 2) (v := (.int c2)) (by decide) (by decide) rfl (g := (mkF m 9 #[.val (.ref q1), .val (.int 0), .val (.int q3), .val (.int 2)] [(.int 2), (.ref q1)])) rfl rfl (hb hby d_prog_39_4_9) t k) ?_
            show own_Go p e below KK T2 (mkF m 10 #[.val (.ref q1), .val (.int 0), .val (.int q3), .val (.int 2)] [(.int c2)])
            obtain ⟨_, _, ⟨T3, L3, k3, n3⟩, -, X3, ⟨Lc3, hQ3, l3, y3, z3⟩, st3⟩ := Jvm.LawKit.callS X2 hx (y := (⟨"com/example/inscribe/inscribe/core/XmlWhiteSpace", "isWhiteSpace", "(C)Z"⟩ : MethodName)) hown (mvT hZ (hw _ (List.mem_of_getElem? (i := 16) rfl))) (mvT hZ (hw _ (List.mem_of_getElem? (i := 17) rfl))) (mvT hZ (hw _ (List.mem_of_getElem? (i := 14) rfl))) (mvT hZ (hw _ (List.mem_of_getElem? (i := 18) rfl))) (by decide) (backOf (W := 0) (rm_prog_39_2 l Z a0 hw [] c2  h0 n0 Z0 ) hZ (hw _ (List.mem_of_getElem? (i := 18) rfl)) (hw _ (List.mem_of_getElem? (i := 14) rfl)) (by decide) (by decide)) (g := (mkF m 10 #[.val (.ref q1), .val (.int 0), .val (.int q3), .val (.int 2)] [(.int c2)])) rfl (by rw [hml]; rfl) (argsL := [(.int c2)]) (rest := []) (lenOf pd__C_Z rfl) rfl (by show 2 * 0 + _ ≤ _; exact Nat.le_of_eq rfl) (hb hby d_prog_39_4_10) (fun _ _ => ⟨rfl, e2, (by decide : 0 + 0 ≤ _), (by decide : 0 + 0 ≤ _)⟩)
            dsimp only [Pt.U, Pt.locs, Pt.cells, Pt.slots] at X3 l3 y3 z3 st3 hQ3
            subst l3 y3 z3
            obtain ⟨rfl, N3q, e3⟩ := hQ3
            have N3 := Fr.app N2 N3q
            refine own_of (fun t k => st3 t k) ?_
            show own_Go p e below KK T3 (mkF m 13 #[.val (.ref q1), .val (.int 0), .val (.int q3), .val (.int 2)] [(.int (own_F_prog_39_2 c2))])
            by_cases hc13_2 : (own_F_prog_39_2 c2) = (0 : Int32)
            · refine own_at (fun t k => XS.ifNo X3.here hx rfl (hb hby d_prog_39_4_13) rfl (Jvm.Free.XT.i0_ne_f hc13_2) k) ?_
              show own_Go p e below KK T3 (mkF m 16 #[.val (.ref q1), .val (.int 0), .val (.int q3), .val (.int 2)] [])
              refine own_at (fun t k => XS.iconst X3.here hx rfl (hb hby d_prog_39_4_16) k) ?_
              show own_Go p e below KK T3 (mkF m 17 #[.val (.ref q1), .val (.int 0), .val (.int q3), .val (.int 2)] [(.int 0)])
              subst hKK
              exact own_retN X3 hx hlk (t := .boolean) Bd.returns (by simp) (hb hby d_prog_39_4_17) (w := (own_G0 q3 c0 c1 c2 c3)) ((show nar .boolean (0 : Int32) = (0 : Int32) from by decide).trans (show (0 : Int32) = (own_G0 q3 c0 c1 c2 c3) from by unfold own_G0; rw [if_pos hc4, if_neg hc13, if_pos hc4_1, if_neg hc13_1, if_pos hc4_2, if_pos hc13_2])) ⟨rfl, N3, e3⟩ (Nat.le_of_ble_eq_true rfl) (Nat.le_of_ble_eq_true rfl)
            · refine own_at (fun t k => XS.ifYes X3.here hx rfl (pc0 := 13) (pc' := 18) rfl (hb hby d_prog_39_4_13) rfl (Jvm.Free.XT.i0_ne_t hc13_2) (by decide) (by decide) k) ?_
              show own_Go p e below KK T3 (mkF m 18 #[.val (.ref q1), .val (.int 0), .val (.int q3), .val (.int 2)] [])
              refine own_at (fun t k => XS.iinc X3.here hx rfl (hb hby d_prog_39_4_18) rfl (l' := #[.val (.ref q1), .val (.int 0), .val (.int q3), .val (.int ((2 : Int32) + (1 : Int32)))]) rfl k) ?_
              show own_Go p e below KK T3 (mkF m 21 #[.val (.ref q1), .val (.int 0), .val (.int q3), .val (.int ((2 : Int32) + (1 : Int32)))] [])
              rw [show ((2 : Int32) + (1 : Int32)) = (3 : Int32) from by decide]
              show own_Go p e below KK T3 (mkF m 21 #[.val (.ref q1), .val (.int 0), .val (.int q3), .val (.int 3)] [])
              refine own_at (fun t k => XS.goto X3.here hx rfl (pc0 := 21) (pc' := 2) rfl (hb hby d_prog_39_4_21) (by decide) (by decide) k) ?_
              show own_Go p e below KK T3 (mkF m 2 #[.val (.ref q1), .val (.int 0), .val (.int q3), .val (.int 3)] [])
              refine own_at (fun t k => XS.iloadN X3.here hx rfl (hb hby d_prog_39_4_2) rfl k) ?_
              show own_Go p e below KK T3 (mkF m 3 #[.val (.ref q1), .val (.int 0), .val (.int q3), .val (.int 3)] [(.int 3)])
              refine own_at (fun t k => XS.iloadN X3.here hx rfl (hb hby d_prog_39_4_3) rfl k) ?_
              show own_Go p e below KK T3 (mkF m 4 #[.val (.ref q1), .val (.int 0), .val (.int q3), .val (.int 3)] [(.int q3), (.int 3)])
              by_cases hc4_3 : (3 : Int32) < q3
              · refine own_at (fun t k => XS.icmpNo X3.here hx rfl (hb hby d_prog_39_4_4) rfl (Jvm.Free.XT.ii_ge_f hc4_3) k) ?_
                show own_Go p e below KK T3 (mkF m 7 #[.val (.ref q1), .val (.int 0), .val (.int q3), .val (.int 3)] [])
                refine own_at (fun t k => XS.aloadN X3.here hx rfl (hb hby d_prog_39_4_7) rfl rfl k) ?_
                show own_Go p e below KK T3 (mkF m 8 #[.val (.ref q1), .val (.int 0), .val (.int q3), .val (.int 3)] [(.ref q1)])
                refine own_at (fun t k => XS.iloadN X3.here hx rfl (hb hby d_prog_39_4_8) rfl k) ?_
                show own_Go p e below KK T3 (mkF m 9 #[.val (.ref q1), .val (.int 0), .val (.int q3), .val (.int 3)] [(.int 3), (.ref q1)])
                refine own_at (fun t k => own_ldC X3 hx hZ e3 Aq (j := (3 : Int32)) (i := 3) (v := (.int c3)) (by decide) (by decide) rfl (g := (mkF m 9 #[.val (.ref q1), .val (.int 0), .val (.int q3), .val (.int 3)] [(.int 3), (.ref q1)])) rfl rfl (hb hby d_prog_39_4_9) t k) ?_
                show own_Go p e below KK T3 (mkF m 10 #[.val (.ref q1), .val (.int 0), .val (.int q3), .val (.int 3)] [(.int c3)])
                obtain ⟨_, _, ⟨T4, L4, k4, n4⟩, -, X4, ⟨Lc4, hQ4, l4, y4, z4⟩, st4⟩ := Jvm.LawKit.callS X3 hx (y := (⟨"com/example/inscribe/inscribe/core/XmlWhiteSpace", "isWhiteSpace", "(C)Z"⟩ : MethodName)) hown (mvT hZ (hw _ (List.mem_of_getElem? (i := 16) rfl))) (mvT hZ (hw _ (List.mem_of_getElem? (i := 17) rfl))) (mvT hZ (hw _ (List.mem_of_getElem? (i := 14) rfl))) (mvT hZ (hw _ (List.mem_of_getElem? (i := 18) rfl))) (by decide) (backOf (W := 0) (rm_prog_39_2 l Z a0 hw [] c3  h0 n0 Z0 ) hZ (hw _ (List.mem_of_getElem? (i := 18) rfl)) (hw _ (List.mem_of_getElem? (i := 14) rfl)) (by decide) (by decide)) (g := (mkF m 10 #[.val (.ref q1), .val (.int 0), .val (.int q3), .val (.int 3)] [(.int c3)])) rfl (by rw [hml]; rfl) (argsL := [(.int c3)]) (rest := []) (lenOf pd__C_Z rfl) rfl (by show 2 * 0 + _ ≤ _; exact Nat.le_of_eq rfl) (hb hby d_prog_39_4_10) (fun _ _ => ⟨rfl, e3, (by decide : 0 + 0 ≤ _), (by decide : 0 + 0 ≤ _)⟩)
                dsimp only [Pt.U, Pt.locs, Pt.cells, Pt.slots] at X4 l4 y4 z4 st4 hQ4
                subst l4 y4 z4
                obtain ⟨rfl, N4q, e4⟩ := hQ4
                have N4 := Fr.app N3 N4q
                refine own_of (fun t k => st4 t k) ?_
                show own_Go p e below KK T4 (mkF m 13 #[.val (.ref q1), .val (.int 0), .val (.int q3), .val (.int 3)] [(.int (own_F_prog_39_2 c3))])
                by_cases hc13_3 : (own_F_prog_39_2 c3) = (0 : Int32)
                · refine own_at (fun t k => XS.ifNo X4.here hx rfl (hb hby d_prog_39_4_13) rfl (Jvm.Free.XT.i0_ne_f hc13_3) k) ?_
                  show own_Go p e below KK T4 (mkF m 16 #[.val (.ref q1), .val (.int 0), .val (.int q3), .val (.int 3)] [])
                  refine own_at (fun t k => XS.iconst X4.here hx rfl (hb hby d_prog_39_4_16) k) ?_
                  show own_Go p e below KK T4 (mkF m 17 #[.val (.ref q1), .val (.int 0), .val (.int q3), .val (.int 3)] [(.int 0)])
                  subst hKK
                  exact own_retN X4 hx hlk (t := .boolean) Bd.returns (by simp) (hb hby d_prog_39_4_17) (w := (own_G0 q3 c0 c1 c2 c3)) ((show nar .boolean (0 : Int32) = (0 : Int32) from by decide).trans (show (0 : Int32) = (own_G0 q3 c0 c1 c2 c3) from by unfold own_G0; rw [if_pos hc4, if_neg hc13, if_pos hc4_1, if_neg hc13_1, if_pos hc4_2, if_neg hc13_2, if_pos hc4_3, if_pos hc13_3])) ⟨rfl, N4, e4⟩ (Nat.le_of_ble_eq_true rfl) (Nat.le_of_ble_eq_true rfl)
                · refine own_at (fun t k => XS.ifYes X4.here hx rfl (pc0 := 13) (pc' := 18) rfl (hb hby d_prog_39_4_13) rfl (Jvm.Free.XT.i0_ne_t hc13_3) (by decide) (by decide) k) ?_
                  show own_Go p e below KK T4 (mkF m 18 #[.val (.ref q1), .val (.int 0), .val (.int q3), .val (.int 3)] [])
                  refine own_at (fun t k => XS.iinc X4.here hx rfl (hb hby d_prog_39_4_18) rfl (l' := #[.val (.ref q1), .val (.int 0), .val (.int q3), .val (.int ((3 : Int32) + (1 : Int32)))]) rfl k) ?_
                  show own_Go p e below KK T4 (mkF m 21 #[.val (.ref q1), .val (.int 0), .val (.int q3), .val (.int ((3 : Int32) + (1 : Int32)))] [])
                  rw [show ((3 : Int32) + (1 : Int32)) = (4 : Int32) from by decide]
                  show own_Go p e below KK T4 (mkF m 21 #[.val (.ref q1), .val (.int 0), .val (.int q3), .val (.int 4)] [])
                  refine own_at (fun t k => XS.goto X4.here hx rfl (pc0 := 21) (pc' := 2) rfl (hb hby d_prog_39_4_21) (by decide) (by decide) k) ?_
                  show own_Go p e below KK T4 (mkF m 2 #[.val (.ref q1), .val (.int 0), .val (.int q3), .val (.int 4)] [])
                  refine own_at (fun t k => XS.iloadN X4.here hx rfl (hb hby d_prog_39_4_2) rfl k) ?_
                  show own_Go p e below KK T4 (mkF m 3 #[.val (.ref q1), .val (.int 0), .val (.int q3), .val (.int 4)] [(.int 4)])
                  refine own_at (fun t k => XS.iloadN X4.here hx rfl (hb hby d_prog_39_4_3) rfl k) ?_
                  show own_Go p e below KK T4 (mkF m 4 #[.val (.ref q1), .val (.int 0), .val (.int q3), .val (.int 4)] [(.int q3), (.int 4)])
                  have hc4_4 : ¬ ((4 : Int32) < q3) := hen
                  refine own_at (fun t k => XS.icmpYes X4.here hx rfl (pc0 := 4) (pc' := 24) rfl (hb hby d_prog_39_4_4) rfl (Jvm.Free.XT.ii_ge_t hc4_4) (by decide) (by decide) k) ?_
                  show own_Go p e below KK T4 (mkF m 24 #[.val (.ref q1), .val (.int 0), .val (.int q3), .val (.int 4)] [])
                  refine own_at (fun t k => XS.iconst X4.here hx rfl (hb hby d_prog_39_4_24) k) ?_
                  show own_Go p e below KK T4 (mkF m 25 #[.val (.ref q1), .val (.int 0), .val (.int q3), .val (.int 4)] [(.int 1)])
                  subst hKK
                  exact own_retN X4 hx hlk (t := .boolean) Bd.returns (by simp) (hb hby d_prog_39_4_25) (w := (own_G0 q3 c0 c1 c2 c3)) ((show nar .boolean (1 : Int32) = (1 : Int32) from by decide).trans (show (1 : Int32) = (own_G0 q3 c0 c1 c2 c3) from by unfold own_G0; rw [if_pos hc4, if_neg hc13, if_pos hc4_1, if_neg hc13_1, if_pos hc4_2, if_neg hc13_2, if_pos hc4_3, if_neg hc13_3])) ⟨rfl, N4, e4⟩ (Nat.le_of_ble_eq_true rfl) (Nat.le_of_ble_eq_true rfl)
              · refine own_at (fun t k => XS.icmpYes X3.here hx rfl (pc0 := 4) (pc' := 24) rfl (hb hby d_prog_39_4_4) rfl (Jvm.Free.XT.ii_ge_t hc4_3) (by decide) (by decide) k) ?_
                show own_Go p e below KK T3 (mkF m 24 #[.val (.ref q1), .val (.int 0), .val (.int q3), .val (.int 3)] [])
                refine own_at (fun t k => XS.iconst X3.here hx rfl (hb hby d_prog_39_4_24) k) ?_
                show own_Go p e below KK T3 (mkF m 25 #[.val (.ref q1), .val (.int 0), .val (.int q3), .val (.int 3)] [(.int 1)])
                subst hKK
                exact own_retN X3 hx hlk (t := .boolean) Bd.returns (by simp) (hb hby d_prog_39_4_25) (w := (own_G0 q3 c0 c1 c2 c3)) ((show nar .boolean (1 : Int32) = (1 : Int32) from by decide).trans (show (1 : Int32) = (own_G0 q3 c0 c1 c2 c3) from by unfold own_G0; rw [if_pos hc4, if_neg hc13, if_pos hc4_1, if_neg hc13_1, if_pos hc4_2, if_neg hc13_2, if_neg hc4_3])) ⟨rfl, N3, e3⟩ (Nat.le_of_ble_eq_true rfl) (Nat.le_of_ble_eq_true rfl)
          · refine own_at (fun t k => XS.icmpYes X2.here hx rfl (pc0 := 4) (pc' := 24) rfl (hb hby d_prog_39_4_4) rfl (Jvm.Free.XT.ii_ge_t hc4_2) (by decide) (by decide) k) ?_
            show own_Go p e below KK T2 (mkF m 24 #[.val (.ref q1), .val (.int 0), .val (.int q3), .val (.int 2)] [])
            refine own_at (fun t k => XS.iconst X2.here hx rfl (hb hby d_prog_39_4_24) k) ?_
            show own_Go p e below KK T2 (mkF m 25 #[.val (.ref q1), .val (.int 0), .val (.int q3), .val (.int 2)] [(.int 1)])
            subst hKK
            exact own_retN X2 hx hlk (t := .boolean) Bd.returns (by simp) (hb hby d_prog_39_4_25) (w := (own_G0 q3 c0 c1 c2 c3)) ((show nar .boolean (1 : Int32) = (1 : Int32) from by decide).trans (show (1 : Int32) = (own_G0 q3 c0 c1 c2 c3) from by unfold own_G0; rw [if_pos hc4, if_neg hc13, if_pos hc4_1, if_neg hc13_1, if_neg hc4_2])) ⟨rfl, N2, e2⟩ (Nat.le_of_ble_eq_true rfl) (Nat.le_of_ble_eq_true rfl)
      · refine own_at (fun t k => XS.icmpYes X1.here hx rfl (pc0 := 4) (pc' := 24) rfl (hb hby d_prog_39_4_4) rfl (Jvm.Free.XT.ii_ge_t hc4_1) (by decide) (by decide) k) ?_
        show own_Go p e below KK T1 (mkF m 24 #[.val (.ref q1), .val (.int 0), .val (.int q3), .val (.int 1)] [])
        refine own_at (fun t k => XS.iconst X1.here hx rfl (hb hby d_prog_39_4_24) k) ?_
        show own_Go p e below KK T1 (mkF m 25 #[.val (.ref q1), .val (.int 0), .val (.int q3), .val (.int 1)] [(.int 1)])
        subst hKK
        exact own_retN X1 hx hlk (t := .boolean) Bd.returns (by simp) (hb hby d_prog_39_4_25) (w := (own_G0 q3 c0 c1 c2 c3)) ((show nar .boolean (1 : Int32) = (1 : Int32) from by decide).trans (show (1 : Int32) = (own_G0 q3 c0 c1 c2 c3) from by unfold own_G0; rw [if_pos hc4, if_neg hc13, if_neg hc4_1])) ⟨rfl, N1, e1⟩ (Nat.le_of_ble_eq_true rfl) (Nat.le_of_ble_eq_true rfl)
  · refine own_at (fun t k => XS.icmpYes X0.here hx rfl (pc0 := 4) (pc' := 24) rfl (hb hby d_prog_39_4_4) rfl (Jvm.Free.XT.ii_ge_t hc4) (by decide) (by decide) k) ?_
    show own_Go p e below KK s₁ (mkF m 24 #[.val (.ref q1), .val (.int 0), .val (.int q3), .val (.int 0)] [])
    refine own_at (fun t k => XS.iconst X0.here hx rfl (hb hby d_prog_39_4_24) k) ?_
    show own_Go p e below KK s₁ (mkF m 25 #[.val (.ref q1), .val (.int 0), .val (.int q3), .val (.int 0)] [(.int 1)])
    subst hKK
    exact own_retN X0 hx hlk (t := .boolean) Bd.returns (by simp) (hb hby d_prog_39_4_25) (w := (own_G0 q3 c0 c1 c2 c3)) ((show nar .boolean (1 : Int32) = (1 : Int32) from by decide).trans (show (1 : Int32) = (own_G0 q3 c0 c1 c2 c3) from by unfold own_G0; rw [if_neg hc4])) ⟨rfl, N0, e0⟩ (Nat.le_of_ble_eq_true rfl) (Nat.le_of_ble_eq_true rfl)
def own_G1 (q3 c0 c1 c2 c3 : Int32) : Int32 := (if (1 : Int32) < q3 then (if (own_F_prog_39_2 c1) = (0 : Int32) then (0 : Int32) else (if (2 : Int32) < q3 then (if (own_F_prog_39_2 c2) = (0 : Int32) then (0 : Int32) else (if (3 : Int32) < q3 then (if (own_F_prog_39_2 c3) = (0 : Int32) then (0 : Int32) else (1 : Int32)) else (1 : Int32))) else (1 : Int32))) else (1 : Int32))
set_option maxRecDepth 65536 in
set_option maxHeartbeats 40000000 in
theorem rm_isw1 (l : Launch) (Z : State) (a0 : Array Value) (hw : ∀ d ∈ tables_1, d.before a0 Z = true) (ws : List Jvm.Cond) (q1 : Addr) (q3 : Int32) (c0 c1 c2 c3 : Int32) (h0 : Heap) (n0 : Nat) (Z0 : n0 ≤ h0.size) (Aq : own_A Z h0 q1 "[C" .char [(.int c0), (.int c1), (.int c2), (.int c3)]) (hen : ¬ (4 : Int32) < q3) :
    MetFree l (⟨"com/example/inscribe/inscribe/core/XmlWhiteSpace", "isWhiteSpace", "([CII)Z"⟩ : MethodName) (head1 (Jvm.Cond.code (⟨"com/example/inscribe/inscribe/core/XmlWhiteSpace", "isWhiteSpace", "([CII)Z"⟩ : MethodName) prog_39_method_4_code 4 (some .boolean) :: ws) ({ frames := 2, cells := 0, slots := 0, locals := 24 } : Room)) (fun a U => a = #[(.ref q1), (.int 1), (.int q3)] ∧ Z.Warmed39 U.vm ∧ U.heap = h0) (fun _ _ _ _ _ => True) (fun _ U o U' => ∃ v L, o = .returned v ∧ own_P (.int (own_G1 q3 c0 c1 c2 c3)) h0 n0 v U'.heap L ∧ FrameEnd U o U' L ({ frames := 2, cells := 0, slots := 0, locals := 24 } : Room).cells ({ frames := 2, cells := 0, slots := 0, locals := 24 } : Room).slots) := by
  refine MetFree.of_bodySF (plainFor_of_name pn_com_example_inscribe_inscribe_core_XmlWhiteSpace) hisR ?_
  intro p e s m args below meth c s₁ Bd hml0 hP hK
  obtain ⟨rfl, hZ, hh⟩ := hP
  have hx := Bd.exec
  have hby := Bd.bytes
  have hlk : meth.locks = false := BodyLoose.notSynchronized Bd
  have hml : c.maxLocals = 4 := hml0
  have hown : s.vm.findClass "com/example/inscribe/inscribe/core/XmlWhiteSpace" = some m.cls := findClass_of_methodNamed Bd.named
  have hnm := (name_of_methodNamed Bd.named Bd.method).1
  have X0 : Stand p l e ({ frames := 2, cells := 0, slots := 0, locals := 24 } : Room) s m #[(.ref q1), (.int 1), (.int q3)] below meth c s₁ [] 0 0 := Stand.of_body Bd
  have e0 : s₁.heap = h0 := by rw [← hh, Bd.state]; rfl
  have N0 := Fr.nil n0
  refine own_cast (K := own_K s (own_P (.int (own_G1 q3 c0 c1 c2 c3)) h0 n0) 0 0) (ef_prog_39_4 m q1 (1 : Int32) q3) ?_
  generalize hKK : own_K s (own_P (.int (own_G1 q3 c0 c1 c2 c3)) h0 n0) 0 0 = KK
  show own_Go p e below KK s₁ (mkF m 0 #[.val (.ref q1), .val (.int 1), .val (.int q3), .unset] [])
  refine own_at (fun t k => XS.iloadN X0.here hx rfl (hb hby d_prog_39_4_0) rfl k) ?_
  show own_Go p e below KK s₁ (mkF m 1 #[.val (.ref q1), .val (.int 1), .val (.int q3), .unset] [(.int 1)])
  refine own_at (fun t k => XS.istoreN X0.here hx rfl (hb hby d_prog_39_4_1) rfl (l' := #[.val (.ref q1), .val (.int 1), .val (.int q3), .val (.int 1)]) rfl k) ?_
  show own_Go p e below KK s₁ (mkF m 2 #[.val (.ref q1), .val (.int 1), .val (.int q3), .val (.int 1)] [])
  refine own_at (fun t k => XS.iloadN X0.here hx rfl (hb hby d_prog_39_4_2) rfl k) ?_
  show own_Go p e below KK s₁ (mkF m 3 #[.val (.ref q1), .val (.int 1), .val (.int q3), .val (.int 1)] [(.int 1)])
  refine own_at (fun t k => XS.iloadN X0.here hx rfl (hb hby d_prog_39_4_3) rfl k) ?_
  show own_Go p e below KK s₁ (mkF m 4 #[.val (.ref q1), .val (.int 1), .val (.int q3), .val (.int 1)] [(.int q3), (.int 1)])
  by_cases hc4 : (1 : Int32) < q3
  · refine own_at (fun t k => XS.icmpNo X0.here hx rfl (hb hby d_prog_39_4_4) rfl (Jvm.Free.XT.ii_ge_f hc4) k) ?_
    show own_Go p e below KK s₁ (mkF m 7 #[.val (.ref q1), .val (.int 1), .val (.int q3), .val (.int 1)] [])
    refine own_at (fun t k => XS.aloadN X0.here hx rfl (hb hby d_prog_39_4_7) rfl rfl k) ?_
    show own_Go p e below KK s₁ (mkF m 8 #[.val (.ref q1), .val (.int 1), .val (.int q3), .val (.int 1)] [(.ref q1)])
    refine own_at (fun t k => XS.iloadN X0.here hx rfl (hb hby d_prog_39_4_8) rfl k) ?_
    show own_Go p e below KK s₁ (mkF m 9 #[.val (.ref q1), .val (.int 1), .val (.int q3), .val (.int 1)] [(.int 1), (.ref q1)])
    refine own_at (fun t k => own_ldC X0 hx hZ e0 Aq (j := (1 : Int32)) (i := 1) (v := (.int c1)) (by decide) (by decide) rfl (g := (mkF m 9 #[.val (.ref q1), .val (.int 1), .val (.int q3), .val (.int 1)] [(.int 1), (.ref q1)])) rfl rfl (hb hby d_prog_39_4_9) t k) ?_
    show own_Go p e below KK s₁ (mkF m 10 #[.val (.ref q1), .val (.int 1), .val (.int q3), .val (.int 1)] [(.int c1)])
    obtain ⟨_, _, ⟨T1, L1, k1, n1⟩, -, X1, ⟨Lc1, hQ1, l1, y1, z1⟩, st1⟩ := Jvm.LawKit.callS X0 hx (y := (⟨"com/example/inscribe/inscribe/core/XmlWhiteSpace", "isWhiteSpace", "(C)Z"⟩ : MethodName)) hown (mvT hZ (hw _ (List.mem_of_getElem? (i := 16) rfl))) (mvT hZ (hw _ (List.mem_of_getElem? (i := 17) rfl))) (mvT hZ (hw _ (List.mem_of_getElem? (i := 14) rfl))) (mvT hZ (hw _ (List.mem_of_getElem? (i := 18) rfl))) (by decide) (backOf (W := 0) (rm_prog_39_2 l Z a0 hw [] c1  h0 n0 Z0 ) hZ (hw _ (List.mem_of_getElem? (i := 18) rfl)) (hw _ (List.mem_of_getElem? (i := 14) rfl)) (by decide) (by decide)) (g := (mkF m 10 #[.val (.ref q1), .val (.int 1), .val (.int q3), .val (.int 1)] [(.int c1)])) rfl (by rw [hml]; rfl) (argsL := [(.int c1)]) (rest := []) (lenOf pd__C_Z rfl) rfl (by show 2 * 0 + _ ≤ _; exact Nat.le_of_eq rfl) (hb hby d_prog_39_4_10) (fun _ _ => ⟨rfl, e0, (by decide : 0 + 0 ≤ _), (by decide : 0 + 0 ≤ _)⟩)
    dsimp only [Pt.U, Pt.locs, Pt.cells, Pt.slots] at X1 l1 y1 z1 st1 hQ1
    subst l1 y1 z1
    obtain ⟨rfl, N1q, e1⟩ := hQ1
    have N1 := Fr.app N0 N1q
    refine own_of (fun t k => st1 t k) ?_
    show own_Go p e below KK T1 (mkF m 13 #[.val (.ref q1), .val (.int 1), .val (.int q3), .val (.int 1)] [(.int (own_F_prog_39_2 c1))])
    by_cases hc13 : (own_F_prog_39_2 c1) = (0 : Int32)
    · refine own_at (fun t k => XS.ifNo X1.here hx rfl (hb hby d_prog_39_4_13) rfl (Jvm.Free.XT.i0_ne_f hc13) k) ?_
      show own_Go p e below KK T1 (mkF m 16 #[.val (.ref q1), .val (.int 1), .val (.int q3), .val (.int 1)] [])
      refine own_at (fun t k => XS.iconst X1.here hx rfl (hb hby d_prog_39_4_16) k) ?_
      show own_Go p e below KK T1 (mkF m 17 #[.val (.ref q1), .val (.int 1), .val (.int q3), .val (.int 1)] [(.int 0)])
      subst hKK
      exact own_retN X1 hx hlk (t := .boolean) Bd.returns (by simp) (hb hby d_prog_39_4_17) (w := (own_G1 q3 c0 c1 c2 c3)) ((show nar .boolean (0 : Int32) = (0 : Int32) from by decide).trans (show (0 : Int32) = (own_G1 q3 c0 c1 c2 c3) from by unfold own_G1; rw [if_pos hc4, if_pos hc13])) ⟨rfl, N1, e1⟩ (Nat.le_of_ble_eq_true rfl) (Nat.le_of_ble_eq_true rfl)
    · refine own_at (fun t k => XS.ifYes X1.here hx rfl (pc0 := 13) (pc' := 18) rfl (hb hby d_prog_39_4_13) rfl (Jvm.Free.XT.i0_ne_t hc13) (by decide) (by decide) k) ?_
      show own_Go p e below KK T1 (mkF m 18 #[.val (.ref q1), .val (.int 1), .val (.int q3), .val (.int 1)] [])
      refine own_at (fun t k => XS.iinc X1.here hx rfl (hb hby d_prog_39_4_18) rfl (l' := #[.val (.ref q1), .val (.int 1), .val (.int q3), .val (.int ((1 : Int32) + (1 : Int32)))]) rfl k) ?_
      show own_Go p e below KK T1 (mkF m 21 #[.val (.ref q1), .val (.int 1), .val (.int q3), .val (.int ((1 : Int32) + (1 : Int32)))] [])
      rw [show ((1 : Int32) + (1 : Int32)) = (2 : Int32) from by decide]
      show own_Go p e below KK T1 (mkF m 21 #[.val (.ref q1), .val (.int 1), .val (.int q3), .val (.int 2)] [])
      refine own_at (fun t k => XS.goto X1.here hx rfl (pc0 := 21) (pc' := 2) rfl (hb hby d_prog_39_4_21) (by decide) (by decide) k) ?_
      show own_Go p e below KK T1 (mkF m 2 #[.val (.ref q1), .val (.int 1), .val (.int q3), .val (.int 2)] [])
      refine own_at (fun t k => XS.iloadN X1.here hx rfl (hb hby d_prog_39_4_2) rfl k) ?_
      show own_Go p e below KK T1 (mkF m 3 #[.val (.ref q1), .val (.int 1), .val (.int q3), .val (.int 2)] [(.int 2)])
      refine own_at (fun t k => XS.iloadN X1.here hx rfl (hb hby d_prog_39_4_3) rfl k) ?_
      show own_Go p e below KK T1 (mkF m 4 #[.val (.ref q1), .val (.int 1), .val (.int q3), .val (.int 2)] [(.int q3), (.int 2)])
      by_cases hc4_1 : (2 : Int32) < q3
      · refine own_at (fun t k => XS.icmpNo X1.here hx rfl (hb hby d_prog_39_4_4) rfl (Jvm.Free.XT.ii_ge_f hc4_1) k) ?_
        show own_Go p e below KK T1 (mkF m 7 #[.val (.ref q1), .val (.int 1), .val (.int q3), .val (.int 2)] [])
        refine own_at (fun t k => XS.aloadN X1.here hx rfl (hb hby d_prog_39_4_7) rfl rfl k) ?_
        show own_Go p e below KK T1 (mkF m 8 #[.val (.ref q1), .val (.int 1), .val (.int q3), .val (.int 2)] [(.ref q1)])
        refine own_at (fun t k => XS.iloadN X1.here hx rfl (hb hby d_prog_39_4_8) rfl k) ?_
        show own_Go p e below KK T1 (mkF m 9 #[.val (.ref q1), .val (.int 1), .val (.int q3), .val (.int 2)] [(.int 2), (.ref q1)])
        refine own_at (fun t k => own_ldC X1 hx hZ e1 Aq (j := (2 : Int32)) (i := 2) (v := (.int c2)) (by decide) (by decide) rfl (g := (mkF m 9 #[.val (.ref q1), .val (.int 1), .val (.int q3), .val (.int 2)] [(.int 2), (.ref q1)])) rfl rfl (hb hby d_prog_39_4_9) t k) ?_
        show own_Go p e below KK T1 (mkF m 10 #[.val (.ref q1), .val (.int 1), .val (.int q3), .val (.int 2)] [(.int c2)])
        obtain ⟨_, _, ⟨T2, L2, k2, n2⟩, -, X2, ⟨Lc2, hQ2, l2, y2, z2⟩, st2⟩ := Jvm.LawKit.callS X1 hx (y := (⟨"com/example/inscribe/inscribe/core/XmlWhiteSpace", "isWhiteSpace", "(C)Z"⟩ : MethodName)) hown (mvT hZ (hw _ (List.mem_of_getElem? (i := 16) rfl))) (mvT hZ (hw _ (List.mem_of_getElem? (i := 17) rfl))) (mvT hZ (hw _ (List.mem_of_getElem? (i := 14) rfl))) (mvT hZ (hw _ (List.mem_of_getElem? (i := 18) rfl))) (by decide) (backOf (W := 0) (rm_prog_39_2 l Z a0 hw [] c2  h0 n0 Z0 ) hZ (hw _ (List.mem_of_getElem? (i := 18) rfl)) (hw _ (List.mem_of_getElem? (i := 14) rfl)) (by decide) (by decide)) (g := (mkF m 10 #[.val (.ref q1), .val (.int 1), .val (.int q3), .val (.int 2)] [(.int c2)])) rfl (by rw [hml]; rfl) (argsL := [(.int c2)]) (rest := []) (lenOf pd__C_Z rfl) rfl (by show 2 * 0 + _ ≤ _; exact Nat.le_of_eq rfl) (hb hby d_prog_39_4_10) (fun _ _ => ⟨rfl, e1, (by decide : 0 + 0 ≤ _), (by decide : 0 + 0 ≤ _)⟩)
        dsimp only [Pt.U, Pt.locs, Pt.cells, Pt.slots] at X2 l2 y2 z2 st2 hQ2
        subst l2 y2 z2
        obtain ⟨rfl, N2q, e2⟩ := hQ2
        have N2 := Fr.app N1 N2q
        refine own_of (fun t k => st2 t k) ?_
        show own_Go p e below KK T2 (mkF m 13 #[.val (.ref q1), .val (.int 1), .val (.int q3), .val (.int 2)] [(.int (own_F_prog_39_2 c2))])
        by_cases hc13_1 : (own_F_prog_39_2 c2) = (0 : Int32)
        · refine own_at (fun t k => XS.ifNo X2.here hx rfl (hb hby d_prog_39_4_13) rfl (Jvm.Free.XT.i0_ne_f hc13_1) k) ?_
          show own_Go p e below KK T2 (mkF m 16 #[.val (.ref q1), .val (.int 1), .val (.int q3), .val (.int 2)] [])
          refine own_at (fun t k => XS.iconst X2.here hx rfl (hb hby d_prog_39_4_16) k) ?_
          show own_Go p e below KK T2 (mkF m 17 #[.val (.ref q1), .val (.int 1), .val (.int q3), .val (.int 2)] [(.int 0)])
          subst hKK
          exact own_retN X2 hx hlk (t := .boolean) Bd.returns (by simp) (hb hby d_prog_39_4_17) (w := (own_G1 q3 c0 c1 c2 c3)) ((show nar .boolean (0 : Int32) = (0 : Int32) from by decide).trans (show (0 : Int32) = (own_G1 q3 c0 c1 c2 c3) from by unfold own_G1; rw [if_pos hc4, if_neg hc13, if_pos hc4_1, if_pos hc13_1])) ⟨rfl, N2, e2⟩ (Nat.le_of_ble_eq_true rfl) (Nat.le_of_ble_eq_true rfl)
        · refine own_at (fun t k => XS.ifYes X2.here hx rfl (pc0 := 13) (pc' := 18) rfl (hb hby d_prog_39_4_13) rfl (Jvm.Free.XT.i0_ne_t hc13_1) (by decide) (by decide) k) ?_
          show own_Go p e below KK T2 (mkF m 18 #[.val (.ref q1), .val (.int 1), .val (.int q3), .val (.int 2)] [])
          refine own_at (fun t k => XS.iinc X2.here hx rfl (hb hby d_prog_39_4_18) rfl (l' := #[.val (.ref q1), .val (.int 1), .val (.int q3), .val (.int ((2 : Int32) + (1 : Int32)))]) rfl k) ?_
          show own_Go p e below KK T2 (mkF m 21 #[.val (.ref q1), .val (.int 1), .val (.int q3), .val (.int ((2 : Int32) + (1 : Int32)))] [])
          rw [show ((2 : Int32) + (1 : Int32)) = (3 : Int32) from by decide]
          show own_Go p e below KK T2 (mkF m 21 #[.val (.ref q1), .val (.int 1), .val (.int q3), .val (.int 3)] [])
          refine own_at (fun t k => XS.goto X2.here hx rfl (pc0 := 21) (pc' := 2) rfl (hb hby d_prog_39_4_21) (by decide) (by decide) k) ?_
          show own_Go p e below KK T2 (mkF m 2 #[.val (.ref q1), .val (.int 1), .val (.int q3), .val (.int 3)] [])
          refine own_at (fun t k => XS.iloadN X2.here hx rfl (hb hby d_prog_39_4_2) rfl k) ?_
          show own_Go p e below KK T2 (mkF m 3 #[.val (.ref q1), .val (.int 1), .val (.int q3), .val (.int 3)] [(.int 3)])
          refine own_at (fun t k => XS.iloadN X2.here hx rfl (hb hby d_prog_39_4_3) rfl k) ?_
          show own_Go p e below KK T2 (mkF m 4 #[.val (.ref q1), .val (.int 1), .val (.int q3), .val (.int 3)] [(.int q3), (.int 3)])
          by_cases hc4_2 : (3 : Int32) < q3
          · refine own_at (fun t k => XS.icmpNo X2.here hx rfl (hb hby d_prog_39_4_4) rfl (Jvm.Free.XT.ii_ge_f hc4_2) k) ?_
            show own_Go p e below KK T2 (mkF m 7 #[.val (.ref q1), .val (.int 1), .val (.int q3), .val (.int 3)] [])
            refine own_at (fun t k => XS.aloadN X2.here hx rfl (hb hby d_prog_39_4_7) rfl rfl k) ?_
            show own_Go p e below KK T2 (mkF m 8 #[.val (.ref q1), .val (.int 1), .val (.int q3), .val (.int 3)] [(.ref q1)])
            refine own_at (fun t k => XS.iloadN X2.here hx rfl (hb hby d_prog_39_4_8) rfl k) ?_
            show own_Go p e below KK T2 (mkF m 9 #[.val (.ref q1), .val (.int 1), .val (.int q3), .val (.int 3)] [(.int 3), (.ref q1)])
            refine own_at (fun t k => own_ldC X2 hx hZ e2 Aq (j := (3 : Int32)) (i := 3) (v := (.int c3)) (by decide) (by decide) rfl (g := (mkF m 9 #[.val (.ref q1), .val (.int 1), .val (.int q3), .val (.int 3)] [(.int 3), (.ref q1)])) rfl rfl (hb hby d_prog_39_4_9) t k) ?_
            show own_Go p e below KK T2 (mkF m 10 #[.val (.ref q1), .val (.int 1), .val (.int q3), .val (.int 3)] [(.int c3)])
            obtain ⟨_, _, ⟨T3, L3, k3, n3⟩, -, X3, ⟨Lc3, hQ3, l3, y3, z3⟩, st3⟩ := Jvm.LawKit.callS X2 hx (y := (⟨"com/example/inscribe/inscribe/core/XmlWhiteSpace", "isWhiteSpace", "(C)Z"⟩ : MethodName)) hown (mvT hZ (hw _ (List.mem_of_getElem? (i := 16) rfl))) (mvT hZ (hw _ (List.mem_of_getElem? (i := 17) rfl))) (mvT hZ (hw _ (List.mem_of_getElem? (i := 14) rfl))) (mvT hZ (hw _ (List.mem_of_getElem? (i := 18) rfl))) (by decide) (backOf (W := 0) (rm_prog_39_2 l Z a0 hw [] c3  h0 n0 Z0 ) hZ (hw _ (List.mem_of_getElem? (i := 18) rfl)) (hw _ (List.mem_of_getElem? (i := 14) rfl)) (by decide) (by decide)) (g := (mkF m 10 #[.val (.ref q1), .val (.int 1), .val (.int q3), .val (.int 3)] [(.int c3)])) rfl (by rw [hml]; rfl) (argsL := [(.int c3)]) (rest := []) (lenOf pd__C_Z rfl) rfl (by show 2 * 0 + _ ≤ _; exact Nat.le_of_eq rfl) (hb hby d_prog_39_4_10) (fun _ _ => ⟨rfl, e2, (by decide : 0 + 0 ≤ _), (by decide : 0 + 0 ≤ _)⟩)
            dsimp only [Pt.U, Pt.locs, Pt.cells, Pt.slots] at X3 l3 y3 z3 st3 hQ3
            subst l3 y3 z3
            obtain ⟨rfl, N3q, e3⟩ := hQ3
            have N3 := Fr.app N2 N3q
            refine own_of (fun t k => st3 t k) ?_
            show own_Go p e below KK T3 (mkF m 13 #[.val (.ref q1), .val (.int 1), .val (.int q3), .val (.int 3)] [(.int (own_F_prog_39_2 c3))])
            by_cases hc13_2 : (own_F_prog_39_2 c3) = (0 : Int32)
            · refine own_at (fun t k => XS.ifNo X3.here hx rfl (hb hby d_prog_39_4_13) rfl (Jvm.Free.XT.i0_ne_f hc13_2) k) ?_
              show own_Go p e below KK T3 (mkF m 16 #[.val (.ref q1), .val (.int 1), .val (.int q3), .val (.int 3)] [])
              refine own_at (fun t k => XS.iconst X3.here hx rfl (hb hby d_prog_39_4_16) k) ?_
              show own_Go p e below KK T3 (mkF m 17 #[.val (.ref q1), .val (.int 1), .val (.int q3), .val (.int 3)] [(.int 0)])
              subst hKK
              exact own_retN X3 hx hlk (t := .boolean) Bd.returns (by simp) (hb hby d_prog_39_4_17) (w := (own_G1 q3 c0 c1 c2 c3)) ((show nar .boolean (0 : Int32) = (0 : Int32) from by decide).trans (show (0 : Int32) = (own_G1 q3 c0 c1 c2 c3) from by unfold own_G1; rw [if_pos hc4, if_neg hc13, if_pos hc4_1, if_neg hc13_1, if_pos hc4_2, if_pos hc13_2])) ⟨rfl, N3, e3⟩ (Nat.le_of_ble_eq_true rfl) (Nat.le_of_ble_eq_true rfl)
            · refine own_at (fun t k => XS.ifYes X3.here hx rfl (pc0 := 13) (pc' := 18) rfl (hb hby d_prog_39_4_13) rfl (Jvm.Free.XT.i0_ne_t hc13_2) (by decide) (by decide) k) ?_
              show own_Go p e below KK T3 (mkF m 18 #[.val (.ref q1), .val (.int 1), .val (.int q3), .val (.int 3)] [])
              refine own_at (fun t k => XS.iinc X3.here hx rfl (hb hby d_prog_39_4_18) rfl (l' := #[.val (.ref q1), .val (.int 1), .val (.int q3), .val (.int ((3 : Int32) + (1 : Int32)))]) rfl k) ?_
              show own_Go p e below KK T3 (mkF m 21 #[.val (.ref q1), .val (.int 1), .val (.int q3), .val (.int ((3 : Int32) + (1 : Int32)))] [])
              rw [show ((3 : Int32) + (1 : Int32)) = (4 : Int32) from by decide]
              show own_Go p e below KK T3 (mkF m 21 #[.val (.ref q1), .val (.int 1), .val (.int q3), .val (.int 4)] [])
              refine own_at (fun t k => XS.goto X3.here hx rfl (pc0 := 21) (pc' := 2) rfl (hb hby d_prog_39_4_21) (by decide) (by decide) k) ?_
              show own_Go p e below KK T3 (mkF m 2 #[.val (.ref q1), .val (.int 1), .val (.int q3), .val (.int 4)] [])
              refine own_at (fun t k => XS.iloadN X3.here hx rfl (hb hby d_prog_39_4_2) rfl k) ?_
              show own_Go p e below KK T3 (mkF m 3 #[.val (.ref q1), .val (.int 1), .val (.int q3), .val (.int 4)] [(.int 4)])
              refine own_at (fun t k => XS.iloadN X3.here hx rfl (hb hby d_prog_39_4_3) rfl k) ?_
              show own_Go p e below KK T3 (mkF m 4 #[.val (.ref q1), .val (.int 1), .val (.int q3), .val (.int 4)] [(.int q3), (.int 4)])
              have hc4_3 : ¬ ((4 : Int32) < q3) := hen
              refine own_at (fun t k => XS.icmpYes X3.here hx rfl (pc0 := 4) (pc' := 24) rfl (hb hby d_prog_39_4_4) rfl (Jvm.Free.XT.ii_ge_t hc4_3) (by decide) (by decide) k) ?_
              show own_Go p e below KK T3 (mkF m 24 #[.val (.ref q1), .val (.int 1), .val (.int q3), .val (.int 4)] [])
              refine own_at (fun t k => XS.iconst X3.here hx rfl (hb hby d_prog_39_4_24) k) ?_
              show own_Go p e below KK T3 (mkF m 25 #[.val (.ref q1), .val (.int 1), .val (.int q3), .val (.int 4)] [(.int 1)])
              subst hKK
              exact own_retN X3 hx hlk (t := .boolean) Bd.returns (by simp) (hb hby d_prog_39_4_25) (w := (own_G1 q3 c0 c1 c2 c3)) ((show nar .boolean (1 : Int32) = (1 : Int32) from by decide).trans (show (1 : Int32) = (own_G1 q3 c0 c1 c2 c3) from by unfold own_G1; rw [if_pos hc4, if_neg hc13, if_pos hc4_1, if_neg hc13_1, if_pos hc4_2, if_neg hc13_2])) ⟨rfl, N3, e3⟩ (Nat.le_of_ble_eq_true rfl) (Nat.le_of_ble_eq_true rfl)
          · refine own_at (fun t k => XS.icmpYes X2.here hx rfl (pc0 := 4) (pc' := 24) rfl (hb hby d_prog_39_4_4) rfl (Jvm.Free.XT.ii_ge_t hc4_2) (by decide) (by decide) k) ?_
            show own_Go p e below KK T2 (mkF m 24 #[.val (.ref q1), .val (.int 1), .val (.int q3), .val (.int 3)] [])
            refine own_at (fun t k => XS.iconst X2.here hx rfl (hb hby d_prog_39_4_24) k) ?_
            show own_Go p e below KK T2 (mkF m 25 #[.val (.ref q1), .val (.int 1), .val (.int q3), .val (.int 3)] [(.int 1)])
            subst hKK
            exact own_retN X2 hx hlk (t := .boolean) Bd.returns (by simp) (hb hby d_prog_39_4_25) (w := (own_G1 q3 c0 c1 c2 c3)) ((show nar .boolean (1 : Int32) = (1 : Int32) from by decide).trans (show (1 : Int32) = (own_G1 q3 c0 c1 c2 c3) from by unfold own_G1; rw [if_pos hc4, if_neg hc13, if_pos hc4_1, if_neg hc13_1, if_neg hc4_2])) ⟨rfl, N2, e2⟩ (Nat.le_of_ble_eq_true rfl) (Nat.le_of_ble_eq_true rfl)
      · refine own_at (fun t k => XS.icmpYes X1.here hx rfl (pc0 := 4) (pc' := 24) rfl (hb hby d_prog_39_4_4) rfl (Jvm.Free.XT.ii_ge_t hc4_1) (by decide) (by decide) k) ?_
        show own_Go p e below KK T1 (mkF m 24 #[.val (.ref q1), .val (.int 1), .val (.int q3), .val (.int 2)] [])
        refine own_at (fun t k => XS.iconst X1.here hx rfl (hb hby d_prog_39_4_24) k) ?_
        show own_Go p e below KK T1 (mkF m 25 #[.val (.ref q1), .val (.int 1), .val (.int q3), .val (.int 2)] [(.int 1)])
        subst hKK
        exact own_retN X1 hx hlk (t := .boolean) Bd.returns (by simp) (hb hby d_prog_39_4_25) (w := (own_G1 q3 c0 c1 c2 c3)) ((show nar .boolean (1 : Int32) = (1 : Int32) from by decide).trans (show (1 : Int32) = (own_G1 q3 c0 c1 c2 c3) from by unfold own_G1; rw [if_pos hc4, if_neg hc13, if_neg hc4_1])) ⟨rfl, N1, e1⟩ (Nat.le_of_ble_eq_true rfl) (Nat.le_of_ble_eq_true rfl)
  · refine own_at (fun t k => XS.icmpYes X0.here hx rfl (pc0 := 4) (pc' := 24) rfl (hb hby d_prog_39_4_4) rfl (Jvm.Free.XT.ii_ge_t hc4) (by decide) (by decide) k) ?_
    show own_Go p e below KK s₁ (mkF m 24 #[.val (.ref q1), .val (.int 1), .val (.int q3), .val (.int 1)] [])
    refine own_at (fun t k => XS.iconst X0.here hx rfl (hb hby d_prog_39_4_24) k) ?_
    show own_Go p e below KK s₁ (mkF m 25 #[.val (.ref q1), .val (.int 1), .val (.int q3), .val (.int 1)] [(.int 1)])
    subst hKK
    exact own_retN X0 hx hlk (t := .boolean) Bd.returns (by simp) (hb hby d_prog_39_4_25) (w := (own_G1 q3 c0 c1 c2 c3)) ((show nar .boolean (1 : Int32) = (1 : Int32) from by decide).trans (show (1 : Int32) = (own_G1 q3 c0 c1 c2 c3) from by unfold own_G1; rw [if_neg hc4])) ⟨rfl, N0, e0⟩ (Nat.le_of_ble_eq_true rfl) (Nat.le_of_ble_eq_true rfl)
def own_G2 (q3 c0 c1 c2 c3 : Int32) : Int32 := (if (2 : Int32) < q3 then (if (own_F_prog_39_2 c2) = (0 : Int32) then (0 : Int32) else (if (3 : Int32) < q3 then (if (own_F_prog_39_2 c3) = (0 : Int32) then (0 : Int32) else (1 : Int32)) else (1 : Int32))) else (1 : Int32))
set_option maxRecDepth 65536 in
set_option maxHeartbeats 40000000 in
theorem rm_isw2 (l : Launch) (Z : State) (a0 : Array Value) (hw : ∀ d ∈ tables_1, d.before a0 Z = true) (ws : List Jvm.Cond) (q1 : Addr) (q3 : Int32) (c0 c1 c2 c3 : Int32) (h0 : Heap) (n0 : Nat) (Z0 : n0 ≤ h0.size) (Aq : own_A Z h0 q1 "[C" .char [(.int c0), (.int c1), (.int c2), (.int c3)]) (hen : ¬ (4 : Int32) < q3) :
    MetFree l (⟨"com/example/inscribe/inscribe/core/XmlWhiteSpace", "isWhiteSpace", "([CII)Z"⟩ : MethodName) (head1 (Jvm.Cond.code (⟨"com/example/inscribe/inscribe/core/XmlWhiteSpace", "isWhiteSpace", "([CII)Z"⟩ : MethodName) prog_39_method_4_code 4 (some .boolean) :: ws) ({ frames := 2, cells := 0, slots := 0, locals := 24 } : Room)) (fun a U => a = #[(.ref q1), (.int 2), (.int q3)] ∧ Z.Warmed39 U.vm ∧ U.heap = h0) (fun _ _ _ _ _ => True) (fun _ U o U' => ∃ v L, o = .returned v ∧ own_P (.int (own_G2 q3 c0 c1 c2 c3)) h0 n0 v U'.heap L ∧ FrameEnd U o U' L ({ frames := 2, cells := 0, slots := 0, locals := 24 } : Room).cells ({ frames := 2, cells := 0, slots := 0, locals := 24 } : Room).slots) := by
  refine MetFree.of_bodySF (plainFor_of_name pn_com_example_inscribe_inscribe_core_XmlWhiteSpace) hisR ?_
  intro p e s m args below meth c s₁ Bd hml0 hP hK
  obtain ⟨rfl, hZ, hh⟩ := hP
  have hx := Bd.exec
  have hby := Bd.bytes
  have hlk : meth.locks = false := BodyLoose.notSynchronized Bd
  have hml : c.maxLocals = 4 := hml0
  have hown : s.vm.findClass "com/example/inscribe/inscribe/core/XmlWhiteSpace" = some m.cls := findClass_of_methodNamed Bd.named
  have hnm := (name_of_methodNamed Bd.named Bd.method).1
  have X0 : Stand p l e ({ frames := 2, cells := 0, slots := 0, locals := 24 } : Room) s m #[(.ref q1), (.int 2), (.int q3)] below meth c s₁ [] 0 0 := Stand.of_body Bd
  have e0 : s₁.heap = h0 := by rw [← hh, Bd.state]; rfl
  have N0 := Fr.nil n0
  refine own_cast (K := own_K s (own_P (.int (own_G2 q3 c0 c1 c2 c3)) h0 n0) 0 0) (ef_prog_39_4 m q1 (2 : Int32) q3) ?_
  generalize hKK : own_K s (own_P (.int (own_G2 q3 c0 c1 c2 c3)) h0 n0) 0 0 = KK
  show own_Go p e below KK s₁ (mkF m 0 #[.val (.ref q1), .val (.int 2), .val (.int q3), .unset] [])
  refine own_at (fun t k => XS.iloadN X0.here hx rfl (hb hby d_prog_39_4_0) rfl k) ?_
  show own_Go p e below KK s₁ (mkF m 1 #[.val (.ref q1), .val (.int 2), .val (.int q3), .unset] [(.int 2)])
  refine own_at (fun t k => XS.istoreN X0.here hx rfl (hb hby d_prog_39_4_1) rfl (l' := #[.val (.ref q1), .val (.int 2), .val (.int q3), .val (.int 2)]) rfl k) ?_
  show own_Go p e below KK s₁ (mkF m 2 #[.val (.ref q1), .val (.int 2), .val (.int q3), .val (.int 2)] [])
  refine own_at (fun t k => XS.iloadN X0.here hx rfl (hb hby d_prog_39_4_2) rfl k) ?_
  show own_Go p e below KK s₁ (mkF m 3 #[.val (.ref q1), .val (.int 2), .val (.int q3), .val (.int 2)] [(.int 2)])
  refine own_at (fun t k => XS.iloadN X0.here hx rfl (hb hby d_prog_39_4_3) rfl k) ?_
  show own_Go p e below KK s₁ (mkF m 4 #[.val (.ref q1), .val (.int 2), .val (.int q3), .val (.int 2)] [(.int q3), (.int 2)])
  by_cases hc4 : (2 : Int32) < q3
  · refine own_at (fun t k => XS.icmpNo X0.here hx rfl (hb hby d_prog_39_4_4) rfl (Jvm.Free.XT.ii_ge_f hc4) k) ?_
    show own_Go p e below KK s₁ (mkF m 7 #[.val (.ref q1), .val (.int 2), .val (.int q3), .val (.int 2)] [])
    refine own_at (fun t k => XS.aloadN X0.here hx rfl (hb hby d_prog_39_4_7) rfl rfl k) ?_
    show own_Go p e below KK s₁ (mkF m 8 #[.val (.ref q1), .val (.int 2), .val (.int q3), .val (.int 2)] [(.ref q1)])
    refine own_at (fun t k => XS.iloadN X0.here hx rfl (hb hby d_prog_39_4_8) rfl k) ?_
    show own_Go p e below KK s₁ (mkF m 9 #[.val (.ref q1), .val (.int 2), .val (.int q3), .val (.int 2)] [(.int 2), (.ref q1)])
    refine own_at (fun t k => own_ldC X0 hx hZ e0 Aq (j := (2 : Int32)) (i := 2) (v := (.int c2)) (by decide) (by decide) rfl (g := (mkF m 9 #[.val (.ref q1), .val (.int 2), .val (.int q3), .val (.int 2)] [(.int 2), (.ref q1)])) rfl rfl (hb hby d_prog_39_4_9) t k) ?_
    show own_Go p e below KK s₁ (mkF m 10 #[.val (.ref q1), .val (.int 2), .val (.int q3), .val (.int 2)] [(.int c2)])
    obtain ⟨_, _, ⟨T1, L1, k1, n1⟩, -, X1, ⟨Lc1, hQ1, l1, y1, z1⟩, st1⟩ := Jvm.LawKit.callS X0 hx (y := (⟨"com/example/inscribe/inscribe/core/XmlWhiteSpace", "isWhiteSpace", "(C)Z"⟩ : MethodName)) hown (mvT hZ (hw _ (List.mem_of_getElem? (i := 16) rfl))) (mvT hZ (hw _ (List.mem_of_getElem? (i := 17) rfl))) (mvT hZ (hw _ (List.mem_of_getElem? (i := 14) rfl))) (mvT hZ (hw _ (List.mem_of_getElem? (i := 18) rfl))) (by decide) (backOf (W := 0) (rm_prog_39_2 l Z a0 hw [] c2  h0 n0 Z0 ) hZ (hw _ (List.mem_of_getElem? (i := 18) rfl)) (hw _ (List.mem_of_getElem? (i := 14) rfl)) (by decide) (by decide)) (g := (mkF m 10 #[.val (.ref q1), .val (.int 2), .val (.int q3), .val (.int 2)] [(.int c2)])) rfl (by rw [hml]; rfl) (argsL := [(.int c2)]) (rest := []) (lenOf pd__C_Z rfl) rfl (by show 2 * 0 + _ ≤ _; exact Nat.le_of_eq rfl) (hb hby d_prog_39_4_10) (fun _ _ => ⟨rfl, e0, (by decide : 0 + 0 ≤ _), (by decide : 0 + 0 ≤ _)⟩)
    dsimp only [Pt.U, Pt.locs, Pt.cells, Pt.slots] at X1 l1 y1 z1 st1 hQ1
    subst l1 y1 z1
    obtain ⟨rfl, N1q, e1⟩ := hQ1
    have N1 := Fr.app N0 N1q
    refine own_of (fun t k => st1 t k) ?_
    show own_Go p e below KK T1 (mkF m 13 #[.val (.ref q1), .val (.int 2), .val (.int q3), .val (.int 2)] [(.int (own_F_prog_39_2 c2))])
    by_cases hc13 : (own_F_prog_39_2 c2) = (0 : Int32)
    · refine own_at (fun t k => XS.ifNo X1.here hx rfl (hb hby d_prog_39_4_13) rfl (Jvm.Free.XT.i0_ne_f hc13) k) ?_
      show own_Go p e below KK T1 (mkF m 16 #[.val (.ref q1), .val (.int 2), .val (.int q3), .val (.int 2)] [])
      refine own_at (fun t k => XS.iconst X1.here hx rfl (hb hby d_prog_39_4_16) k) ?_
      show own_Go p e below KK T1 (mkF m 17 #[.val (.ref q1), .val (.int 2), .val (.int q3), .val (.int 2)] [(.int 0)])
      subst hKK
      exact own_retN X1 hx hlk (t := .boolean) Bd.returns (by simp) (hb hby d_prog_39_4_17) (w := (own_G2 q3 c0 c1 c2 c3)) ((show nar .boolean (0 : Int32) = (0 : Int32) from by decide).trans (show (0 : Int32) = (own_G2 q3 c0 c1 c2 c3) from by unfold own_G2; rw [if_pos hc4, if_pos hc13])) ⟨rfl, N1, e1⟩ (Nat.le_of_ble_eq_true rfl) (Nat.le_of_ble_eq_true rfl)
    · refine own_at (fun t k => XS.ifYes X1.here hx rfl (pc0 := 13) (pc' := 18) rfl (hb hby d_prog_39_4_13) rfl (Jvm.Free.XT.i0_ne_t hc13) (by decide) (by decide) k) ?_
      show own_Go p e below KK T1 (mkF m 18 #[.val (.ref q1), .val (.int 2), .val (.int q3), .val (.int 2)] [])
      refine own_at (fun t k => XS.iinc X1.here hx rfl (hb hby d_prog_39_4_18) rfl (l' := #[.val (.ref q1), .val (.int 2), .val (.int q3), .val (.int ((2 : Int32) + (1 : Int32)))]) rfl k) ?_
      show own_Go p e below KK T1 (mkF m 21 #[.val (.ref q1), .val (.int 2), .val (.int q3), .val (.int ((2 : Int32) + (1 : Int32)))] [])
      rw [show ((2 : Int32) + (1 : Int32)) = (3 : Int32) from by decide]
      show own_Go p e below KK T1 (mkF m 21 #[.val (.ref q1), .val (.int 2), .val (.int q3), .val (.int 3)] [])
      refine own_at (fun t k => XS.goto X1.here hx rfl (pc0 := 21) (pc' := 2) rfl (hb hby d_prog_39_4_21) (by decide) (by decide) k) ?_
      show own_Go p e below KK T1 (mkF m 2 #[.val (.ref q1), .val (.int 2), .val (.int q3), .val (.int 3)] [])
      refine own_at (fun t k => XS.iloadN X1.here hx rfl (hb hby d_prog_39_4_2) rfl k) ?_
      show own_Go p e below KK T1 (mkF m 3 #[.val (.ref q1), .val (.int 2), .val (.int q3), .val (.int 3)] [(.int 3)])
      refine own_at (fun t k => XS.iloadN X1.here hx rfl (hb hby d_prog_39_4_3) rfl k) ?_
      show own_Go p e below KK T1 (mkF m 4 #[.val (.ref q1), .val (.int 2), .val (.int q3), .val (.int 3)] [(.int q3), (.int 3)])
      by_cases hc4_1 : (3 : Int32) < q3
      · refine own_at (fun t k => XS.icmpNo X1.here hx rfl (hb hby d_prog_39_4_4) rfl (Jvm.Free.XT.ii_ge_f hc4_1) k) ?_
        show own_Go p e below KK T1 (mkF m 7 #[.val (.ref q1), .val (.int 2), .val (.int q3), .val (.int 3)] [])
        refine own_at (fun t k => XS.aloadN X1.here hx rfl (hb hby d_prog_39_4_7) rfl rfl k) ?_
        show own_Go p e below KK T1 (mkF m 8 #[.val (.ref q1), .val (.int 2), .val (.int q3), .val (.int 3)] [(.ref q1)])
        refine own_at (fun t k => XS.iloadN X1.here hx rfl (hb hby d_prog_39_4_8) rfl k) ?_
        show own_Go p e below KK T1 (mkF m 9 #[.val (.ref q1), .val (.int 2), .val (.int q3), .val (.int 3)] [(.int 3), (.ref q1)])
        refine own_at (fun t k => own_ldC X1 hx hZ e1 Aq (j := (3 : Int32)) (i := 3) (v := (.int c3)) (by decide) (by decide) rfl (g := (mkF m 9 #[.val (.ref q1), .val (.int 2), .val (.int q3), .val (.int 3)] [(.int 3), (.ref q1)])) rfl rfl (hb hby d_prog_39_4_9) t k) ?_
        show own_Go p e below KK T1 (mkF m 10 #[.val (.ref q1), .val (.int 2), .val (.int q3), .val (.int 3)] [(.int c3)])
        obtain ⟨_, _, ⟨T2, L2, k2, n2⟩, -, X2, ⟨Lc2, hQ2, l2, y2, z2⟩, st2⟩ := Jvm.LawKit.callS X1 hx (y := (⟨"com/example/inscribe/inscribe/core/XmlWhiteSpace", "isWhiteSpace", "(C)Z"⟩ : MethodName)) hown (mvT hZ (hw _ (List.mem_of_getElem? (i := 16) rfl))) (mvT hZ (hw _ (List.mem_of_getElem? (i := 17) rfl))) (mvT hZ (hw _ (List.mem_of_getElem? (i := 14) rfl))) (mvT hZ (hw _ (List.mem_of_getElem? (i := 18) rfl))) (by decide) (backOf (W := 0) (rm_prog_39_2 l Z a0 hw [] c3  h0 n0 Z0 ) hZ (hw _ (List.mem_of_getElem? (i := 18) rfl)) (hw _ (List.mem_of_getElem? (i := 14) rfl)) (by decide) (by decide)) (g := (mkF m 10 #[.val (.ref q1), .val (.int 2), .val (.int q3), .val (.int 3)] [(.int c3)])) rfl (by rw [hml]; rfl) (argsL := [(.int c3)]) (rest := []) (lenOf pd__C_Z rfl) rfl (by show 2 * 0 + _ ≤ _; exact Nat.le_of_eq rfl) (hb hby d_prog_39_4_10) (fun _ _ => ⟨rfl, e1, (by decide : 0 + 0 ≤ _), (by decide : 0 + 0 ≤ _)⟩)
        dsimp only [Pt.U, Pt.locs, Pt.cells, Pt.slots] at X2 l2 y2 z2 st2 hQ2
        subst l2 y2 z2
        obtain ⟨rfl, N2q, e2⟩ := hQ2
        have N2 := Fr.app N1 N2q
        refine own_of (fun t k => st2 t k) ?_
        show own_Go p e below KK T2 (mkF m 13 #[.val (.ref q1), .val (.int 2), .val (.int q3), .val (.int 3)] [(.int (own_F_prog_39_2 c3))])
        by_cases hc13_1 : (own_F_prog_39_2 c3) = (0 : Int32)
        · refine own_at (fun t k => XS.ifNo X2.here hx rfl (hb hby d_prog_39_4_13) rfl (Jvm.Free.XT.i0_ne_f hc13_1) k) ?_
          show own_Go p e below KK T2 (mkF m 16 #[.val (.ref q1), .val (.int 2), .val (.int q3), .val (.int 3)] [])
          refine own_at (fun t k => XS.iconst X2.here hx rfl (hb hby d_prog_39_4_16) k) ?_
          show own_Go p e below KK T2 (mkF m 17 #[.val (.ref q1), .val (.int 2), .val (.int q3), .val (.int 3)] [(.int 0)])
          subst hKK
          exact own_retN X2 hx hlk (t := .boolean) Bd.returns (by simp) (hb hby d_prog_39_4_17) (w := (own_G2 q3 c0 c1 c2 c3)) ((show nar .boolean (0 : Int32) = (0 : Int32) from by decide).trans (show (0 : Int32) = (own_G2 q3 c0 c1 c2 c3) from by unfold own_G2; rw [if_pos hc4, if_neg hc13, if_pos hc4_1, if_pos hc13_1])) ⟨rfl, N2, e2⟩ (Nat.le_of_ble_eq_true rfl) (Nat.le_of_ble_eq_true rfl)
        · refine own_at (fun t k => XS.ifYes X2.here hx rfl (pc0 := 13) (pc' := 18) rfl (hb hby d_prog_39_4_13) rfl (Jvm.Free.XT.i0_ne_t hc13_1) (by decide) (by decide) k) ?_
          show own_Go p e below KK T2 (mkF m 18 #[.val (.ref q1), .val (.int 2), .val (.int q3), .val (.int 3)] [])
          refine own_at (fun t k => XS.iinc X2.here hx rfl (hb hby d_prog_39_4_18) rfl (l' := #[.val (.ref q1), .val (.int 2), .val (.int q3), .val (.int ((3 : Int32) + (1 : Int32)))]) rfl k) ?_
          show own_Go p e below KK T2 (mkF m 21 #[.val (.ref q1), .val (.int 2), .val (.int q3), .val (.int ((3 : Int32) + (1 : Int32)))] [])
          rw [show ((3 : Int32) + (1 : Int32)) = (4 : Int32) from by decide]
          show own_Go p e below KK T2 (mkF m 21 #[.val (.ref q1), .val (.int 2), .val (.int q3), .val (.int 4)] [])
          refine own_at (fun t k => XS.goto X2.here hx rfl (pc0 := 21) (pc' := 2) rfl (hb hby d_prog_39_4_21) (by decide) (by decide) k) ?_
          show own_Go p e below KK T2 (mkF m 2 #[.val (.ref q1), .val (.int 2), .val (.int q3), .val (.int 4)] [])
          refine own_at (fun t k => XS.iloadN X2.here hx rfl (hb hby d_prog_39_4_2) rfl k) ?_
          show own_Go p e below KK T2 (mkF m 3 #[.val (.ref q1), .val (.int 2), .val (.int q3), .val (.int 4)] [(.int 4)])
          refine own_at (fun t k => XS.iloadN X2.here hx rfl (hb hby d_prog_39_4_3) rfl k) ?_
          show own_Go p e below KK T2 (mkF m 4 #[.val (.ref q1), .val (.int 2), .val (.int q3), .val (.int 4)] [(.int q3), (.int 4)])
          have hc4_2 : ¬ ((4 : Int32) < q3) := hen
          refine own_at (fun t k => XS.icmpYes X2.here hx rfl (pc0 := 4) (pc' := 24) rfl (hb hby d_prog_39_4_4) rfl (Jvm.Free.XT.ii_ge_t hc4_2) (by decide) (by decide) k) ?_
          show own_Go p e below KK T2 (mkF m 24 #[.val (.ref q1), .val (.int 2), .val (.int q3), .val (.int 4)] [])
          refine own_at (fun t k => XS.iconst X2.here hx rfl (hb hby d_prog_39_4_24) k) ?_
          show own_Go p e below KK T2 (mkF m 25 #[.val (.ref q1), .val (.int 2), .val (.int q3), .val (.int 4)] [(.int 1)])
          subst hKK
          exact own_retN X2 hx hlk (t := .boolean) Bd.returns (by simp) (hb hby d_prog_39_4_25) (w := (own_G2 q3 c0 c1 c2 c3)) ((show nar .boolean (1 : Int32) = (1 : Int32) from by decide).trans (show (1 : Int32) = (own_G2 q3 c0 c1 c2 c3) from by unfold own_G2; rw [if_pos hc4, if_neg hc13, if_pos hc4_1, if_neg hc13_1])) ⟨rfl, N2, e2⟩ (Nat.le_of_ble_eq_true rfl) (Nat.le_of_ble_eq_true rfl)
      · refine own_at (fun t k => XS.icmpYes X1.here hx rfl (pc0 := 4) (pc' := 24) rfl (hb hby d_prog_39_4_4) rfl (Jvm.Free.XT.ii_ge_t hc4_1) (by decide) (by decide) k) ?_
        show own_Go p e below KK T1 (mkF m 24 #[.val (.ref q1), .val (.int 2), .val (.int q3), .val (.int 3)] [])
        refine own_at (fun t k => XS.iconst X1.here hx rfl (hb hby d_prog_39_4_24) k) ?_
        show own_Go p e below KK T1 (mkF m 25 #[.val (.ref q1), .val (.int 2), .val (.int q3), .val (.int 3)] [(.int 1)])
        subst hKK
        exact own_retN X1 hx hlk (t := .boolean) Bd.returns (by simp) (hb hby d_prog_39_4_25) (w := (own_G2 q3 c0 c1 c2 c3)) ((show nar .boolean (1 : Int32) = (1 : Int32) from by decide).trans (show (1 : Int32) = (own_G2 q3 c0 c1 c2 c3) from by unfold own_G2; rw [if_pos hc4, if_neg hc13, if_neg hc4_1])) ⟨rfl, N1, e1⟩ (Nat.le_of_ble_eq_true rfl) (Nat.le_of_ble_eq_true rfl)
  · refine own_at (fun t k => XS.icmpYes X0.here hx rfl (pc0 := 4) (pc' := 24) rfl (hb hby d_prog_39_4_4) rfl (Jvm.Free.XT.ii_ge_t hc4) (by decide) (by decide) k) ?_
    show own_Go p e below KK s₁ (mkF m 24 #[.val (.ref q1), .val (.int 2), .val (.int q3), .val (.int 2)] [])
    refine own_at (fun t k => XS.iconst X0.here hx rfl (hb hby d_prog_39_4_24) k) ?_
    show own_Go p e below KK s₁ (mkF m 25 #[.val (.ref q1), .val (.int 2), .val (.int q3), .val (.int 2)] [(.int 1)])
    subst hKK
    exact own_retN X0 hx hlk (t := .boolean) Bd.returns (by simp) (hb hby d_prog_39_4_25) (w := (own_G2 q3 c0 c1 c2 c3)) ((show nar .boolean (1 : Int32) = (1 : Int32) from by decide).trans (show (1 : Int32) = (own_G2 q3 c0 c1 c2 c3) from by unfold own_G2; rw [if_neg hc4])) ⟨rfl, N0, e0⟩ (Nat.le_of_ble_eq_true rfl) (Nat.le_of_ble_eq_true rfl)
def own_G3 (q3 c0 c1 c2 c3 : Int32) : Int32 := (if (3 : Int32) < q3 then (if (own_F_prog_39_2 c3) = (0 : Int32) then (0 : Int32) else (1 : Int32)) else (1 : Int32))
set_option maxRecDepth 65536 in
set_option maxHeartbeats 40000000 in
theorem rm_isw3 (l : Launch) (Z : State) (a0 : Array Value) (hw : ∀ d ∈ tables_1, d.before a0 Z = true) (ws : List Jvm.Cond) (q1 : Addr) (q3 : Int32) (c0 c1 c2 c3 : Int32) (h0 : Heap) (n0 : Nat) (Z0 : n0 ≤ h0.size) (Aq : own_A Z h0 q1 "[C" .char [(.int c0), (.int c1), (.int c2), (.int c3)]) (hen : ¬ (4 : Int32) < q3) :
    MetFree l (⟨"com/example/inscribe/inscribe/core/XmlWhiteSpace", "isWhiteSpace", "([CII)Z"⟩ : MethodName) (head1 (Jvm.Cond.code (⟨"com/example/inscribe/inscribe/core/XmlWhiteSpace", "isWhiteSpace", "([CII)Z"⟩ : MethodName) prog_39_method_4_code 4 (some .boolean) :: ws) ({ frames := 2, cells := 0, slots := 0, locals := 24 } : Room)) (fun a U => a = #[(.ref q1), (.int 3), (.int q3)] ∧ Z.Warmed39 U.vm ∧ U.heap = h0) (fun _ _ _ _ _ => True) (fun _ U o U' => ∃ v L, o = .returned v ∧ own_P (.int (own_G3 q3 c0 c1 c2 c3)) h0 n0 v U'.heap L ∧ FrameEnd U o U' L ({ frames := 2, cells := 0, slots := 0, locals := 24 } : Room).cells ({ frames := 2, cells := 0, slots := 0, locals := 24 } : Room).slots) := by
  refine MetFree.of_bodySF (plainFor_of_name pn_com_example_inscribe_inscribe_core_XmlWhiteSpace) hisR ?_
  intro p e s m args below meth c s₁ Bd hml0 hP hK
  obtain ⟨rfl, hZ, hh⟩ := hP
  have hx := Bd.exec
  have hby := Bd.bytes
  have hlk : meth.locks = false := BodyLoose.notSynchronized Bd
  have hml : c.maxLocals = 4 := hml0
  have hown : s.vm.findClass "com/example/inscribe/inscribe/core/XmlWhiteSpace" = some m.cls := findClass_of_methodNamed Bd.named
  have hnm := (name_of_methodNamed Bd.named Bd.method).1
  have X0 : Stand p l e ({ frames := 2, cells := 0, slots := 0, locals := 24 } : Room) s m #[(.ref q1), (.int 3), (.int q3)] below meth c s₁ [] 0 0 := Stand.of_body Bd
  have e0 : s₁.heap = h0 := by rw [← hh, Bd.state]; rfl
  have N0 := Fr.nil n0
  refine own_cast (K := own_K s (own_P (.int (own_G3 q3 c0 c1 c2 c3)) h0 n0) 0 0) (ef_prog_39_4 m q1 (3 : Int32) q3) ?_
  generalize hKK : own_K s (own_P (.int (own_G3 q3 c0 c1 c2 c3)) h0 n0) 0 0 = KK
  show own_Go p e below KK s₁ (mkF m 0 #[.val (.ref q1), .val (.int 3), .val (.int q3), .unset] [])
  refine own_at (fun t k => XS.iloadN X0.here hx rfl (hb hby d_prog_39_4_0) rfl k) ?_
  show own_Go p e below KK s₁ (mkF m 1 #[.val (.ref q1), .val (.int 3), .val (.int q3), .unset] [(.int 3)])
  refine own_at (fun t k => XS.istoreN X0.here hx rfl (hb hby d_prog_39_4_1) rfl (l' := #[.val (.ref q1), .val (.int 3), .val (.int q3), .val (.int 3)]) rfl k) ?_
  show own_Go p e below KK s₁ (mkF m 2 #[.val (.ref q1), .val (.int 3), .val (.int q3), .val (.int 3)] [])
  refine own_at (fun t k => XS.iloadN X0.here hx rfl (hb hby d_prog_39_4_2) rfl k) ?_
  show own_Go p e below KK s₁ (mkF m 3 #[.val (.ref q1), .val (.int 3), .val (.int q3), .val (.int 3)] [(.int 3)])
  refine own_at (fun t k => XS.iloadN X0.here hx rfl (hb hby d_prog_39_4_3) rfl k) ?_
  show own_Go p e below KK s₁ (mkF m 4 #[.val (.ref q1), .val (.int 3), .val (.int q3), .val (.int 3)] [(.int q3), (.int 3)])
  by_cases hc4 : (3 : Int32) < q3
  · refine own_at (fun t k => XS.icmpNo X0.here hx rfl (hb hby d_prog_39_4_4) rfl (Jvm.Free.XT.ii_ge_f hc4) k) ?_
    show own_Go p e below KK s₁ (mkF m 7 #[.val (.ref q1), .val (.int 3), .val (.int q3), .val (.int 3)] [])
    refine own_at (fun t k => XS.aloadN X0.here hx rfl (hb hby d_prog_39_4_7) rfl rfl k) ?_
    show own_Go p e below KK s₁ (mkF m 8 #[.val (.ref q1), .val (.int 3), .val (.int q3), .val (.int 3)] [(.ref q1)])
    refine own_at (fun t k => XS.iloadN X0.here hx rfl (hb hby d_prog_39_4_8) rfl k) ?_
    show own_Go p e below KK s₁ (mkF m 9 #[.val (.ref q1), .val (.int 3), .val (.int q3), .val (.int 3)] [(.int 3), (.ref q1)])
    refine own_at (fun t k => own_ldC X0 hx hZ e0 Aq (j := (3 : Int32)) (i := 3) (v := (.int c3)) (by decide) (by decide) rfl (g := (mkF m 9 #[.val (.ref q1), .val (.int 3), .val (.int q3), .val (.int 3)] [(.int 3), (.ref q1)])) rfl rfl (hb hby d_prog_39_4_9) t k) ?_
    show own_Go p e below KK s₁ (mkF m 10 #[.val (.ref q1), .val (.int 3), .val (.int q3), .val (.int 3)] [(.int c3)])
    obtain ⟨_, _, ⟨T1, L1, k1, n1⟩, -, X1, ⟨Lc1, hQ1, l1, y1, z1⟩, st1⟩ := Jvm.LawKit.callS X0 hx (y := (⟨"com/example/inscribe/inscribe/core/XmlWhiteSpace", "isWhiteSpace", "(C)Z"⟩ : MethodName)) hown (mvT hZ (hw _ (List.mem_of_getElem? (i := 16) rfl))) (mvT hZ (hw _ (List.mem_of_getElem? (i := 17) rfl))) (mvT hZ (hw _ (List.mem_of_getElem? (i := 14) rfl))) (mvT hZ (hw _ (List.mem_of_getElem? (i := 18) rfl))) (by decide) (backOf (W := 0) (rm_prog_39_2 l Z a0 hw [] c3  h0 n0 Z0 ) hZ (hw _ (List.mem_of_getElem? (i := 18) rfl)) (hw _ (List.mem_of_getElem? (i := 14) rfl)) (by decide) (by decide)) (g := (mkF m 10 #[.val (.ref q1), .val (.int 3), .val (.int q3), .val (.int 3)] [(.int c3)])) rfl (by rw [hml]; rfl) (argsL := [(.int c3)]) (rest := []) (lenOf pd__C_Z rfl) rfl (by show 2 * 0 + _ ≤ _; exact Nat.le_of_eq rfl) (hb hby d_prog_39_4_10) (fun _ _ => ⟨rfl, e0, (by decide : 0 + 0 ≤ _), (by decide : 0 + 0 ≤ _)⟩)
    dsimp only [Pt.U, Pt.locs, Pt.cells, Pt.slots] at X1 l1 y1 z1 st1 hQ1
    subst l1 y1 z1
    obtain ⟨rfl, N1q, e1⟩ := hQ1
    have N1 := Fr.app N0 N1q
    refine own_of (fun t k => st1 t k) ?_
    show own_Go p e below KK T1 (mkF m 13 #[.val (.ref q1), .val (.int 3), .val (.int q3), .val (.int 3)] [(.int (own_F_prog_39_2 c3))])
    by_cases hc13 : (own_F_prog_39_2 c3) = (0 : Int32)
    · refine own_at (fun t k => XS.ifNo X1.here hx rfl (hb hby d_prog_39_4_13) rfl (Jvm.Free.XT.i0_ne_f hc13) k) ?_
      show own_Go p e below KK T1 (mkF m 16 #[.val (.ref q1), .val (.int 3), .val (.int q3), .val (.int 3)] [])
      refine own_at (fun t k => XS.iconst X1.here hx rfl (hb hby d_prog_39_4_16) k) ?_
      show own_Go p e below KK T1 (mkF m 17 #[.val (.ref q1), .val (.int 3), .val (.int q3), .val (.int 3)] [(.int 0)])
      subst hKK
      exact own_retN X1 hx hlk (t := .boolean) Bd.returns (by simp) (hb hby d_prog_39_4_17) (w := (own_G3 q3 c0 c1 c2 c3)) ((show nar .boolean (0 : Int32) = (0 : Int32) from by decide).trans (show (0 : Int32) = (own_G3 q3 c0 c1 c2 c3) from by unfold own_G3; rw [if_pos hc4, if_pos hc13])) ⟨rfl, N1, e1⟩ (Nat.le_of_ble_eq_true rfl) (Nat.le_of_ble_eq_true rfl)
    · refine own_at (fun t k => XS.ifYes X1.here hx rfl (pc0 := 13) (pc' := 18) rfl (hb hby d_prog_39_4_13) rfl (Jvm.Free.XT.i0_ne_t hc13) (by decide) (by decide) k) ?_
      show own_Go p e below KK T1 (mkF m 18 #[.val (.ref q1), .val (.int 3), .val (.int q3), .val (.int 3)] [])
      refine own_at (fun t k => XS.iinc X1.here hx rfl (hb hby d_prog_39_4_18) rfl (l' := #[.val (.ref q1), .val (.int 3), .val (.int q3), .val (.int ((3 : Int32) + (1 : Int32)))]) rfl k) ?_
      show own_Go p e below KK T1 (mkF m 21 #[.val (.ref q1), .val (.int 3), .val (.int q3), .val (.int ((3 : Int32) + (1 : Int32)))] [])
      rw [show ((3 : Int32) + (1 : Int32)) = (4 : Int32) from by decide]
      show own_Go p e below KK T1 (mkF m 21 #[.val (.ref q1), .val (.int 3), .val (.int q3), .val (.int 4)] [])
      refine own_at (fun t k => XS.goto X1.here hx rfl (pc0 := 21) (pc' := 2) rfl (hb hby d_prog_39_4_21) (by decide) (by decide) k) ?_
      show own_Go p e below KK T1 (mkF m 2 #[.val (.ref q1), .val (.int 3), .val (.int q3), .val (.int 4)] [])
      refine own_at (fun t k => XS.iloadN X1.here hx rfl (hb hby d_prog_39_4_2) rfl k) ?_
      show own_Go p e below KK T1 (mkF m 3 #[.val (.ref q1), .val (.int 3), .val (.int q3), .val (.int 4)] [(.int 4)])
      refine own_at (fun t k => XS.iloadN X1.here hx rfl (hb hby d_prog_39_4_3) rfl k) ?_
      show own_Go p e below KK T1 (mkF m 4 #[.val (.ref q1), .val (.int 3), .val (.int q3), .val (.int 4)] [(.int q3), (.int 4)])
      have hc4_1 : ¬ ((4 : Int32) < q3) := hen
      refine own_at (fun t k => XS.icmpYes X1.here hx rfl (pc0 := 4) (pc' := 24) rfl (hb hby d_prog_39_4_4) rfl (Jvm.Free.XT.ii_ge_t hc4_1) (by decide) (by decide) k) ?_
      show own_Go p e below KK T1 (mkF m 24 #[.val (.ref q1), .val (.int 3), .val (.int q3), .val (.int 4)] [])
      refine own_at (fun t k => XS.iconst X1.here hx rfl (hb hby d_prog_39_4_24) k) ?_
      show own_Go p e below KK T1 (mkF m 25 #[.val (.ref q1), .val (.int 3), .val (.int q3), .val (.int 4)] [(.int 1)])
      subst hKK
      exact own_retN X1 hx hlk (t := .boolean) Bd.returns (by simp) (hb hby d_prog_39_4_25) (w := (own_G3 q3 c0 c1 c2 c3)) ((show nar .boolean (1 : Int32) = (1 : Int32) from by decide).trans (show (1 : Int32) = (own_G3 q3 c0 c1 c2 c3) from by unfold own_G3; rw [if_pos hc4, if_neg hc13])) ⟨rfl, N1, e1⟩ (Nat.le_of_ble_eq_true rfl) (Nat.le_of_ble_eq_true rfl)
  · refine own_at (fun t k => XS.icmpYes X0.here hx rfl (pc0 := 4) (pc' := 24) rfl (hb hby d_prog_39_4_4) rfl (Jvm.Free.XT.ii_ge_t hc4) (by decide) (by decide) k) ?_
    show own_Go p e below KK s₁ (mkF m 24 #[.val (.ref q1), .val (.int 3), .val (.int q3), .val (.int 3)] [])
    refine own_at (fun t k => XS.iconst X0.here hx rfl (hb hby d_prog_39_4_24) k) ?_
    show own_Go p e below KK s₁ (mkF m 25 #[.val (.ref q1), .val (.int 3), .val (.int q3), .val (.int 3)] [(.int 1)])
    subst hKK
    exact own_retN X0 hx hlk (t := .boolean) Bd.returns (by simp) (hb hby d_prog_39_4_25) (w := (own_G3 q3 c0 c1 c2 c3)) ((show nar .boolean (1 : Int32) = (1 : Int32) from by decide).trans (show (1 : Int32) = (own_G3 q3 c0 c1 c2 c3) from by unfold own_G3; rw [if_neg hc4])) ⟨rfl, N0, e0⟩ (Nat.le_of_ble_eq_true rfl) (Nat.le_of_ble_eq_true rfl)
def own_G4 (q3 c0 c1 c2 c3 : Int32) : Int32 := (1 : Int32)
set_option maxRecDepth 65536 in
set_option maxHeartbeats 40000000 in
theorem rm_isw4 (l : Launch) (Z : State) (a0 : Array Value) (hw : ∀ d ∈ tables_1, d.before a0 Z = true) (ws : List Jvm.Cond) (q1 : Addr) (q3 : Int32) (c0 c1 c2 c3 : Int32) (h0 : Heap) (n0 : Nat) (Z0 : n0 ≤ h0.size) (Aq : own_A Z h0 q1 "[C" .char [(.int c0), (.int c1), (.int c2), (.int c3)]) (hen : ¬ (4 : Int32) < q3) :
    MetFree l (⟨"com/example/inscribe/inscribe/core/XmlWhiteSpace", "isWhiteSpace", "([CII)Z"⟩ : MethodName) (head1 (Jvm.Cond.code (⟨"com/example/inscribe/inscribe/core/XmlWhiteSpace", "isWhiteSpace", "([CII)Z"⟩ : MethodName) prog_39_method_4_code 4 (some .boolean) :: ws) ({ frames := 2, cells := 0, slots := 0, locals := 24 } : Room)) (fun a U => a = #[(.ref q1), (.int 4), (.int q3)] ∧ Z.Warmed39 U.vm ∧ U.heap = h0) (fun _ _ _ _ _ => True) (fun _ U o U' => ∃ v L, o = .returned v ∧ own_P (.int (own_G4 q3 c0 c1 c2 c3)) h0 n0 v U'.heap L ∧ FrameEnd U o U' L ({ frames := 2, cells := 0, slots := 0, locals := 24 } : Room).cells ({ frames := 2, cells := 0, slots := 0, locals := 24 } : Room).slots) := by
  refine MetFree.of_bodySF (plainFor_of_name pn_com_example_inscribe_inscribe_core_XmlWhiteSpace) hisR ?_
  intro p e s m args below meth c s₁ Bd hml0 hP hK
  obtain ⟨rfl, hZ, hh⟩ := hP
  have hx := Bd.exec
  have hby := Bd.bytes
  have hlk : meth.locks = false := BodyLoose.notSynchronized Bd
  have hml : c.maxLocals = 4 := hml0
  have hown : s.vm.findClass "com/example/inscribe/inscribe/core/XmlWhiteSpace" = some m.cls := findClass_of_methodNamed Bd.named
  have hnm := (name_of_methodNamed Bd.named Bd.method).1
  have X0 : Stand p l e ({ frames := 2, cells := 0, slots := 0, locals := 24 } : Room) s m #[(.ref q1), (.int 4), (.int q3)] below meth c s₁ [] 0 0 := Stand.of_body Bd
  have e0 : s₁.heap = h0 := by rw [← hh, Bd.state]; rfl
  have N0 := Fr.nil n0
  refine own_cast (K := own_K s (own_P (.int (own_G4 q3 c0 c1 c2 c3)) h0 n0) 0 0) (ef_prog_39_4 m q1 (4 : Int32) q3) ?_
  generalize hKK : own_K s (own_P (.int (own_G4 q3 c0 c1 c2 c3)) h0 n0) 0 0 = KK
  show own_Go p e below KK s₁ (mkF m 0 #[.val (.ref q1), .val (.int 4), .val (.int q3), .unset] [])
  refine own_at (fun t k => XS.iloadN X0.here hx rfl (hb hby d_prog_39_4_0) rfl k) ?_
  show own_Go p e below KK s₁ (mkF m 1 #[.val (.ref q1), .val (.int 4), .val (.int q3), .unset] [(.int 4)])
  refine own_at (fun t k => XS.istoreN X0.here hx rfl (hb hby d_prog_39_4_1) rfl (l' := #[.val (.ref q1), .val (.int 4), .val (.int q3), .val (.int 4)]) rfl k) ?_
  show own_Go p e below KK s₁ (mkF m 2 #[.val (.ref q1), .val (.int 4), .val (.int q3), .val (.int 4)] [])
  refine own_at (fun t k => XS.iloadN X0.here hx rfl (hb hby d_prog_39_4_2) rfl k) ?_
  show own_Go p e below KK s₁ (mkF m 3 #[.val (.ref q1), .val (.int 4), .val (.int q3), .val (.int 4)] [(.int 4)])
  refine own_at (fun t k => XS.iloadN X0.here hx rfl (hb hby d_prog_39_4_3) rfl k) ?_
  show own_Go p e below KK s₁ (mkF m 4 #[.val (.ref q1), .val (.int 4), .val (.int q3), .val (.int 4)] [(.int q3), (.int 4)])
  have hc4 : ¬ ((4 : Int32) < q3) := hen
  refine own_at (fun t k => XS.icmpYes X0.here hx rfl (pc0 := 4) (pc' := 24) rfl (hb hby d_prog_39_4_4) rfl (Jvm.Free.XT.ii_ge_t hc4) (by decide) (by decide) k) ?_
  show own_Go p e below KK s₁ (mkF m 24 #[.val (.ref q1), .val (.int 4), .val (.int q3), .val (.int 4)] [])
  refine own_at (fun t k => XS.iconst X0.here hx rfl (hb hby d_prog_39_4_24) k) ?_
  show own_Go p e below KK s₁ (mkF m 25 #[.val (.ref q1), .val (.int 4), .val (.int q3), .val (.int 4)] [(.int 1)])
  subst hKK
  exact own_retN X0 hx hlk (t := .boolean) Bd.returns (by simp) (hb hby d_prog_39_4_25) (w := (own_G4 q3 c0 c1 c2 c3)) ((show nar .boolean (1 : Int32) = (1 : Int32) from by decide).trans (show (1 : Int32) = (own_G4 q3 c0 c1 c2 c3) from rfl)) ⟨rfl, N0, e0⟩ (Nat.le_of_ble_eq_true rfl) (Nat.le_of_ble_eq_true rfl)
def own_G (q2 q3 c0 c1 c2 c3 : Int32) : Int32 := if q2 = (0 : Int32) then own_G0 q3 c0 c1 c2 c3 else if q2 = (1 : Int32) then own_G1 q3 c0 c1 c2 c3 else if q2 = (2 : Int32) then own_G2 q3 c0 c1 c2 c3 else if q2 = (3 : Int32) then own_G3 q3 c0 c1 c2 c3 else own_G4 q3 c0 c1 c2 c3
theorem rm_isw (l : Launch) (Z : State) (a0 : Array Value) (hw : ∀ d ∈ tables_1, d.before a0 Z = true) (ws : List Jvm.Cond) (q1 : Addr) (q2 q3 : Int32) (c0 c1 c2 c3 : Int32) (h0 : Heap) (n0 : Nat) (Z0 : n0 ≤ h0.size) (Aq : own_A Z h0 q1 "[C" .char [(.int c0), (.int c1), (.int c2), (.int c3)]) (hen : ¬ (4 : Int32) < q3) (hs : q2 = (0 : Int32) ∨ q2 = (1 : Int32) ∨ q2 = (2 : Int32) ∨ q2 = (3 : Int32) ∨ q2 = (4 : Int32)) :
    MetFree l (⟨"com/example/inscribe/inscribe/core/XmlWhiteSpace", "isWhiteSpace", "([CII)Z"⟩ : MethodName) (head1 (Jvm.Cond.code (⟨"com/example/inscribe/inscribe/core/XmlWhiteSpace", "isWhiteSpace", "([CII)Z"⟩ : MethodName) prog_39_method_4_code 4 (some .boolean) :: ws) ({ frames := 2, cells := 0, slots := 0, locals := 24 } : Room)) (fun a U => a = #[(.ref q1), (.int q2), (.int q3)] ∧ Z.Warmed39 U.vm ∧ U.heap = h0) (fun _ _ _ _ _ => True) (fun _ U o U' => ∃ v L, o = .returned v ∧ own_P (.int (own_G q2 q3 c0 c1 c2 c3)) h0 n0 v U'.heap L ∧ FrameEnd U o U' L ({ frames := 2, cells := 0, slots := 0, locals := 24 } : Room).cells ({ frames := 2, cells := 0, slots := 0, locals := 24 } : Room).slots) := by
  rcases hs with rfl | rfl | rfl | rfl | rfl
  · exact rm_isw0 l Z a0 hw ws q1 q3 c0 c1 c2 c3 h0 n0 Z0 Aq hen
  · exact rm_isw1 l Z a0 hw ws q1 q3 c0 c1 c2 c3 h0 n0 Z0 Aq hen
  · exact rm_isw2 l Z a0 hw ws q1 q3 c0 c1 c2 c3 h0 n0 Z0 Aq hen
  · exact rm_isw3 l Z a0 hw ws q1 q3 c0 c1 c2 c3 h0 n0 Z0 Aq hen
  · exact rm_isw4 l Z a0 hw ws q1 q3 c0 c1 c2 c3 h0 n0 Z0 Aq hen
theorem own_lI0 : (0 : Int32).toInt = 0 := rfl
theorem own_lI1 : (1 : Int32).toInt = 1 := rfl
theorem own_lI2 : (2 : Int32).toInt = 2 := rfl
theorem own_lI3 : (3 : Int32).toInt = 3 := rfl
theorem own_lI4 : (4 : Int32).toInt = 4 := rfl
theorem own_lI5 : (5 : Int32).toInt = 5 := rfl
theorem own_lI9 : (9 : Int32).toInt = 9 := rfl
theorem own_lI10 : (10 : Int32).toInt = 10 := rfl
theorem own_lI13 : (13 : Int32).toInt = 13 := rfl
theorem own_lI32 : (32 : Int32).toInt = 32 := rfl
theorem own_lI2147483647 : (2147483647 : Int32).toInt = 2147483647 := rfl
theorem own_mod {x n : Int32} (h : n = (x &&& (2147483647 : Int32)) - ((x &&& (2147483647 : Int32)) / (5 : Int32)) * (5 : Int32)) : 0 ≤ n.toInt ∧ n.toInt < 5 := by
  have a1 := c_and x 2147483647 (by decide)
  have a2 := (c_irem (x &&& (2147483647 : Int32)) 5 5 (by decide)).1 a1.1
  rw [← irem_eq_mod, ← h] at a2
  omega
theorem own_s5 {x q2 : Int32} (h : q2 = (x &&& (2147483647 : Int32)) - ((x &&& (2147483647 : Int32)) / (5 : Int32)) * (5 : Int32)) : q2 = (0 : Int32) ∨ q2 = (1 : Int32) ∨ q2 = (2 : Int32) ∨ q2 = (3 : Int32) ∨ q2 = (4 : Int32) := by
  have h1 := own_mod h
  clear h
  simp only [← Int32.toInt_inj, own_lI0, own_lI1, own_lI2, own_lI3, own_lI4, own_lI5, own_lI9, own_lI10, own_lI13, own_lI32, own_lI2147483647] at *
  omega
theorem own_e4 {x n : Int32} (h : n = (x &&& (2147483647 : Int32)) - ((x &&& (2147483647 : Int32)) / (5 : Int32)) * (5 : Int32)) : ¬ (4 : Int32) < n := by
  have h1 := own_mod h
  clear h
  simp only [Int32.lt_iff_toInt_lt, own_lI0, own_lI1, own_lI2, own_lI3, own_lI4, own_lI5, own_lI9, own_lI10, own_lI13, own_lI32, own_lI2147483647] at *
  omega
theorem own_narD (v : Int32) : nar .char (own_F_method_2 v) = own_F_method_2 v := by
  unfold own_F_method_2
  repeat' split
  all_goals first | decide | exact own_narC _
theorem own_wseq (c : Int32) : own_F_prog_39_2 c = own_F_method_3 c := by
  unfold own_F_prog_39_2 own_F_method_3 own_F_prog_39_9
  repeat' split
  all_goals first | rfl | (exfalso; simp only [Int32.lt_iff_toInt_lt, ← Int32.toInt_inj, own_lI0, own_lI1, own_lI2, own_lI3, own_lI4, own_lI5, own_lI9, own_lI10, own_lI13, own_lI32, own_lI2147483647] at * <;> omega) | simp_all
theorem own_all {s e : Int32} (t0 t1 t2 t3 : Int32) (hs : 0 ≤ s.toInt ∧ s.toInt < 5) (he : 0 ≤ e.toInt ∧ e.toInt < 5) : own_G s e t0 t1 t2 t3 = if own_F_method_4 (0 : Int32) s e t0 = (0 : Int32) then 0 else if own_F_method_4 (1 : Int32) s e t1 = (0 : Int32) then 0 else if own_F_method_4 (2 : Int32) s e t2 = (0 : Int32) then 0 else if own_F_method_4 (3 : Int32) s e t3 = (0 : Int32) then 0 else 1 := by
  have e5 : e = (0 : Int32) ∨ e = (1 : Int32) ∨ e = (2 : Int32) ∨ e = (3 : Int32) ∨ e = (4 : Int32) := by
    simp only [← Int32.toInt_inj, own_lI0, own_lI1, own_lI2, own_lI3, own_lI4, own_lI5, own_lI9, own_lI10, own_lI13, own_lI32, own_lI2147483647]; omega
  have s5 : s = (0 : Int32) ∨ s = (1 : Int32) ∨ s = (2 : Int32) ∨ s = (3 : Int32) ∨ s = (4 : Int32) := by
    simp only [← Int32.toInt_inj, own_lI0, own_lI1, own_lI2, own_lI3, own_lI4, own_lI5, own_lI9, own_lI10, own_lI13, own_lI32, own_lI2147483647]; omega
  clear hs he
  rcases s5 with rfl | rfl | rfl | rfl | rfl <;> rcases e5 with rfl | rfl | rfl | rfl | rfl <;> simp +decide [own_G, own_G0, own_G1, own_G2, own_G3, own_G4, own_F_method_4, own_wseq]
theorem ef_law (m : MethodId) (x0 : Int32) (x1 : Int32) (x2 : Int32) (x3 : Int32) (x4 : Int32) (x5 : Int32) : entryFrame m #[(.int x0), (.int x1), (.int x2), (.int x3), (.int x4), (.int x5)] maxLocals = mkF m 0 #[.val (.int x0), .val (.int x1), .val (.int x2), .val (.int x3), .val (.int x4), .val (.int x5), .unset, .unset, .unset, .unset, .unset] [] := by first | (simp [entryFrame, mkF, argsToLocals, Value.category, maxLocals]; done) | rfl
theorem pd__I_C : parseMethodDescriptor "(I)C" = some ⟨[.int], some .char⟩ := by decide +kernel
theorem pd__IIIC_Z : parseMethodDescriptor "(IIIC)Z" = some ⟨[.int, .int, .int, .char], some .boolean⟩ := by decide +kernel
theorem pd___CII_Z : parseMethodDescriptor "([CII)Z" = some ⟨[(.array .char), .int, .int], some .boolean⟩ := by decide +kernel
def own_Q (n0 : Nat) (v : Option Value) (h : Heap) (L : List Loc) : Prop := v = some (.int 1) ∧ Fr n0 L
set_option maxRecDepth 65536 in
set_option maxHeartbeats 40000000 in
theorem rm_law (l : Launch) (Z : State) (a0 : Array Value) (hw : ∀ d ∈ tables_1, d.before a0 Z = true) (ws : List Jvm.Cond) (p1 : Int32) (p2 : Int32) (p3 : Int32) (p4 : Int32) (p5 : Int32) (p6 : Int32)  (h0 : Heap) (n0 : Nat) (Z0 : n0 ≤ h0.size)  :
    MetFree l x (head1 (Jvm.Cond.code x code maxLocals ret :: ws) room_1) (fun a U => a = #[(.int p1), (.int p2), (.int p3), (.int p4), (.int p5), (.int p6)] ∧ Z.Warmed39 U.vm ∧ U.heap = h0) (fun _ _ _ _ _ => True) (fun _ U o U' => ∃ v L, o = .returned v ∧ own_Q n0 v U'.heap L ∧ FrameEnd U o U' L room_1.cells room_1.slots) := by
  refine MetFree.of_bodySF (plainFor_of_name pn_com_example_inscribe_inscribe_core_XmlWhiteSpaceIsWhiteSpace194PinLaw) hisR ?_
  intro p e s m args below meth c s₁ Bd hml0 hP hK
  obtain ⟨rfl, hZ, hh⟩ := hP
  have hx := Bd.exec
  have hby := Bd.bytes
  have hlk : meth.locks = false := BodyLoose.notSynchronized Bd
  have hml : c.maxLocals = 11 := hml0
  have hown : s.vm.findClass "com/example/inscribe/inscribe/core/XmlWhiteSpaceIsWhiteSpace194PinLaw" = some m.cls := findClass_of_methodNamed Bd.named
  have hnm := (name_of_methodNamed Bd.named Bd.method).1
  have X0 : Stand p l e room_1 s m #[(.int p1), (.int p2), (.int p3), (.int p4), (.int p5), (.int p6)] below meth c s₁ [] 0 0 := Stand.of_body Bd
  have e0 : s₁.heap = h0 := by rw [← hh, Bd.state]; rfl
  have N0 := Fr.nil n0
  refine own_cast (K := own_K s (own_Q n0) room_1.cells room_1.slots) (ef_law m p1 p2 p3 p4 p5 p6) ?_
  generalize hKK : own_K s (own_Q n0) room_1.cells room_1.slots = KK
  show own_Go p e below KK s₁ (mkF m 0 #[.val (.int p1), .val (.int p2), .val (.int p3), .val (.int p4), .val (.int p5), .val (.int p6), .unset, .unset, .unset, .unset, .unset] [])
  refine own_at (fun t k => XS.iconst X0.here hx rfl (hb hby at_0) k) ?_
  show own_Go p e below KK s₁ (mkF m 1 #[.val (.int p1), .val (.int p2), .val (.int p3), .val (.int p4), .val (.int p5), .val (.int p6), .unset, .unset, .unset, .unset, .unset] [(.int 4)])
  obtain ⟨T1, h1, X1, e1, E1, V1, st1⟩ := own_newA X0 hx hZ (hw _ (List.mem_of_getElem? (i := 0) rfl)) e0 (g := (mkF m 1 #[.val (.int p1), .val (.int p2), .val (.int p3), .val (.int p4), .val (.int p5), .val (.int p6), .unset, .unset, .unset, .unset, .unset] [(.int 4)])) rfl (hb hby at_1) rfl (by decide) (N := 4) (by decide) (cap := 4) (by decide) (by decide) (by decide) (by decide) (d := "[C") (by first | rfl | decide +kernel) (vs := [(.int 0), (.int 0), (.int 0), (.int 0)]) rfl
  obtain ⟨b1, g1⟩ : ∃ z, z = h0.size := ⟨_, rfl⟩
  rw [← g1] at V1 st1
  have g_b1 : n0 ≤ b1 := by rw [g1]; exact Z0
  have Zs1 : n0 ≤ h1.size := Nat.le_trans Z0 E1.1
  have A2_b1 : own_A Z h1 b1 "[C" .char [(.int 0), (.int 0), (.int 0), (.int 0)] := V1
  refine own_of (fun t k => st1 t k) ?_
  show own_Go p e below KK T1 (mkF m 3 #[.val (.int p1), .val (.int p2), .val (.int p3), .val (.int p4), .val (.int p5), .val (.int p6), .unset, .unset, .unset, .unset, .unset] [(.ref b1)])
  refine own_at (fun t k => XS.astore X1.here hx rfl (hb hby at_3) rfl rfl (l' := #[.val (.int p1), .val (.int p2), .val (.int p3), .val (.int p4), .val (.int p5), .val (.int p6), .val (.ref b1), .unset, .unset, .unset, .unset]) rfl k) ?_
  show own_Go p e below KK T1 (mkF m 5 #[.val (.int p1), .val (.int p2), .val (.int p3), .val (.int p4), .val (.int p5), .val (.int p6), .val (.ref b1), .unset, .unset, .unset, .unset] [])
  refine own_at (fun t k => XS.aload X1.here hx rfl (hb hby at_5) rfl rfl k) ?_
  show own_Go p e below KK T1 (mkF m 7 #[.val (.int p1), .val (.int p2), .val (.int p3), .val (.int p4), .val (.int p5), .val (.int p6), .val (.ref b1), .unset, .unset, .unset, .unset] [(.ref b1)])
  refine own_at (fun t k => XS.iconst X1.here hx rfl (hb hby at_7) k) ?_
  show own_Go p e below KK T1 (mkF m 8 #[.val (.int p1), .val (.int p2), .val (.int p3), .val (.int p4), .val (.int p5), .val (.int p6), .val (.ref b1), .unset, .unset, .unset, .unset] [(.int 0), (.ref b1)])
  refine own_at (fun t k => XS.iloadN X1.here hx rfl (hb hby at_8) rfl k) ?_
  show own_Go p e below KK T1 (mkF m 9 #[.val (.int p1), .val (.int p2), .val (.int p3), .val (.int p4), .val (.int p5), .val (.int p6), .val (.ref b1), .unset, .unset, .unset, .unset] [(.int p1), (.int 0), (.ref b1)])
  obtain ⟨_, _, ⟨T3, L3, k3, n3⟩, -, X3, ⟨Lc3, hQ3, l3, y3, z3⟩, st3⟩ := Jvm.LawKit.callS X1 hx (y := (⟨"com/example/inscribe/inscribe/core/XmlWhiteSpaceIsWhiteSpace194PinLaw", "draw", "(I)C"⟩ : MethodName)) hown (mvT hZ (hw _ (List.mem_of_getElem? (i := 1) rfl))) (mvT hZ (hw _ (List.mem_of_getElem? (i := 2) rfl))) (mvT hZ (hw _ (List.mem_of_getElem? (i := 3) rfl))) (mvT hZ (hw _ (List.mem_of_getElem? (i := 4) rfl))) (by decide) (backOf (W := 2) (rm_method_2 l Z a0 hw [] p1  h1 n0 Zs1 ) hZ (hw _ (List.mem_of_getElem? (i := 4) rfl)) (hw _ (List.mem_of_getElem? (i := 3) rfl)) (by decide) (by decide)) (g := (mkF m 9 #[.val (.int p1), .val (.int p2), .val (.int p3), .val (.int p4), .val (.int p5), .val (.int p6), .val (.ref b1), .unset, .unset, .unset, .unset] [(.int p1), (.int 0), (.ref b1)])) rfl (by rw [hml]; rfl) (argsL := [(.int p1)]) (rest := [(.int 0), (.ref b1)]) (lenOf pd__I_C rfl) rfl (by show 2 * 0 + _ ≤ _; exact Nat.le_of_eq rfl) (hb hby at_9) (fun _ _ => ⟨rfl, e1, (by decide : 1 + 0 ≤ _), (by decide : 4 + 0 ≤ _)⟩)
  dsimp only [Pt.U, Pt.locs, Pt.cells, Pt.slots] at X3 l3 y3 z3 st3 hQ3
  subst l3 y3 z3
  obtain ⟨rfl, N3q, e3⟩ := hQ3
  have N3 := Fr.app N0 N3q
  refine own_of (fun t k => st3 t k) ?_
  show own_Go p e below KK T3 (mkF m 12 #[.val (.int p1), .val (.int p2), .val (.int p3), .val (.int p4), .val (.int p5), .val (.int p6), .val (.ref b1), .unset, .unset, .unset, .unset] [(.int (own_F_method_2 p1)), (.int 0), (.ref b1)])
  obtain ⟨T4, h4, X4, e4, W4, V4, st4⟩ := own_stC X3 hx hZ e3 A2_b1 (j := (0 : Int32)) (y := (own_F_method_2 p1)) (own_narD _) (i := 0) (by decide) (by decide) (show (0 : Nat) < 4 from by decide) (g := (mkF m 12 #[.val (.int p1), .val (.int p2), .val (.int p3), .val (.int p4), .val (.int p5), .val (.int p6), .val (.ref b1), .unset, .unset, .unset, .unset] [(.int (own_F_method_2 p1)), (.int 0), (.ref b1)])) rfl rfl (hb hby at_12)
  have N4 := Fr.snoc X4 N3 g_b1
  have Zs4 : n0 ≤ h4.size := (by rw [W4.size]; exact Zs1)
  have A5_b1 : own_A Z h4 b1 "[C" .char [(.int (own_F_method_2 p1)), (.int 0), (.int 0), (.int 0)] := V4
  refine own_of (fun t k => st4 t k) ?_
  show own_Go p e below KK T4 (mkF m 13 #[.val (.int p1), .val (.int p2), .val (.int p3), .val (.int p4), .val (.int p5), .val (.int p6), .val (.ref b1), .unset, .unset, .unset, .unset] [])
  refine own_at (fun t k => XS.aload X4.here hx rfl (hb hby at_13) rfl rfl k) ?_
  show own_Go p e below KK T4 (mkF m 15 #[.val (.int p1), .val (.int p2), .val (.int p3), .val (.int p4), .val (.int p5), .val (.int p6), .val (.ref b1), .unset, .unset, .unset, .unset] [(.ref b1)])
  refine own_at (fun t k => XS.iconst X4.here hx rfl (hb hby at_15) k) ?_
  show own_Go p e below KK T4 (mkF m 16 #[.val (.int p1), .val (.int p2), .val (.int p3), .val (.int p4), .val (.int p5), .val (.int p6), .val (.ref b1), .unset, .unset, .unset, .unset] [(.int 1), (.ref b1)])
  refine own_at (fun t k => XS.iloadN X4.here hx rfl (hb hby at_16) rfl k) ?_
  show own_Go p e below KK T4 (mkF m 17 #[.val (.int p1), .val (.int p2), .val (.int p3), .val (.int p4), .val (.int p5), .val (.int p6), .val (.ref b1), .unset, .unset, .unset, .unset] [(.int p2), (.int 1), (.ref b1)])
  obtain ⟨_, _, ⟨T6, L6, k6, n6⟩, -, X6, ⟨Lc6, hQ6, l6, y6, z6⟩, st6⟩ := Jvm.LawKit.callS X4 hx (y := (⟨"com/example/inscribe/inscribe/core/XmlWhiteSpaceIsWhiteSpace194PinLaw", "draw", "(I)C"⟩ : MethodName)) hown (mvT hZ (hw _ (List.mem_of_getElem? (i := 1) rfl))) (mvT hZ (hw _ (List.mem_of_getElem? (i := 2) rfl))) (mvT hZ (hw _ (List.mem_of_getElem? (i := 3) rfl))) (mvT hZ (hw _ (List.mem_of_getElem? (i := 4) rfl))) (by decide) (backOf (W := 2) (rm_method_2 l Z a0 hw [] p2  h4 n0 Zs4 ) hZ (hw _ (List.mem_of_getElem? (i := 4) rfl)) (hw _ (List.mem_of_getElem? (i := 3) rfl)) (by decide) (by decide)) (g := (mkF m 17 #[.val (.int p1), .val (.int p2), .val (.int p3), .val (.int p4), .val (.int p5), .val (.int p6), .val (.ref b1), .unset, .unset, .unset, .unset] [(.int p2), (.int 1), (.ref b1)])) rfl (by rw [hml]; rfl) (argsL := [(.int p2)]) (rest := [(.int 1), (.ref b1)]) (lenOf pd__I_C rfl) rfl (by show 2 * 0 + _ ≤ _; exact Nat.le_of_eq rfl) (hb hby at_17) (fun _ _ => ⟨rfl, e4, (by decide : 1 + 0 ≤ _), (by decide : 4 + 0 ≤ _)⟩)
  dsimp only [Pt.U, Pt.locs, Pt.cells, Pt.slots] at X6 l6 y6 z6 st6 hQ6
  subst l6 y6 z6
  obtain ⟨rfl, N6q, e6⟩ := hQ6
  have N6 := Fr.app N4 N6q
  refine own_of (fun t k => st6 t k) ?_
  show own_Go p e below KK T6 (mkF m 20 #[.val (.int p1), .val (.int p2), .val (.int p3), .val (.int p4), .val (.int p5), .val (.int p6), .val (.ref b1), .unset, .unset, .unset, .unset] [(.int (own_F_method_2 p2)), (.int 1), (.ref b1)])
  obtain ⟨T7, h7, X7, e7, W7, V7, st7⟩ := own_stC X6 hx hZ e6 A5_b1 (j := (1 : Int32)) (y := (own_F_method_2 p2)) (own_narD _) (i := 1) (by decide) (by decide) (show (1 : Nat) < 4 from by decide) (g := (mkF m 20 #[.val (.int p1), .val (.int p2), .val (.int p3), .val (.int p4), .val (.int p5), .val (.int p6), .val (.ref b1), .unset, .unset, .unset, .unset] [(.int (own_F_method_2 p2)), (.int 1), (.ref b1)])) rfl rfl (hb hby at_20)
  have N7 := Fr.snoc X7 N6 g_b1
  have Zs7 : n0 ≤ h7.size := (by rw [W7.size]; exact Zs4)
  have A8_b1 : own_A Z h7 b1 "[C" .char [(.int (own_F_method_2 p1)), (.int (own_F_method_2 p2)), (.int 0), (.int 0)] := V7
  refine own_of (fun t k => st7 t k) ?_
  show own_Go p e below KK T7 (mkF m 21 #[.val (.int p1), .val (.int p2), .val (.int p3), .val (.int p4), .val (.int p5), .val (.int p6), .val (.ref b1), .unset, .unset, .unset, .unset] [])
  refine own_at (fun t k => XS.aload X7.here hx rfl (hb hby at_21) rfl rfl k) ?_
  show own_Go p e below KK T7 (mkF m 23 #[.val (.int p1), .val (.int p2), .val (.int p3), .val (.int p4), .val (.int p5), .val (.int p6), .val (.ref b1), .unset, .unset, .unset, .unset] [(.ref b1)])
  refine own_at (fun t k => XS.iconst X7.here hx rfl (hb hby at_23) k) ?_
  show own_Go p e below KK T7 (mkF m 24 #[.val (.int p1), .val (.int p2), .val (.int p3), .val (.int p4), .val (.int p5), .val (.int p6), .val (.ref b1), .unset, .unset, .unset, .unset] [(.int 2), (.ref b1)])
  refine own_at (fun t k => XS.iloadN X7.here hx rfl (hb hby at_24) rfl k) ?_
  show own_Go p e below KK T7 (mkF m 25 #[.val (.int p1), .val (.int p2), .val (.int p3), .val (.int p4), .val (.int p5), .val (.int p6), .val (.ref b1), .unset, .unset, .unset, .unset] [(.int p3), (.int 2), (.ref b1)])
  obtain ⟨_, _, ⟨T9, L9, k9, n9⟩, -, X9, ⟨Lc9, hQ9, l9, y9, z9⟩, st9⟩ := Jvm.LawKit.callS X7 hx (y := (⟨"com/example/inscribe/inscribe/core/XmlWhiteSpaceIsWhiteSpace194PinLaw", "draw", "(I)C"⟩ : MethodName)) hown (mvT hZ (hw _ (List.mem_of_getElem? (i := 1) rfl))) (mvT hZ (hw _ (List.mem_of_getElem? (i := 2) rfl))) (mvT hZ (hw _ (List.mem_of_getElem? (i := 3) rfl))) (mvT hZ (hw _ (List.mem_of_getElem? (i := 4) rfl))) (by decide) (backOf (W := 2) (rm_method_2 l Z a0 hw [] p3  h7 n0 Zs7 ) hZ (hw _ (List.mem_of_getElem? (i := 4) rfl)) (hw _ (List.mem_of_getElem? (i := 3) rfl)) (by decide) (by decide)) (g := (mkF m 25 #[.val (.int p1), .val (.int p2), .val (.int p3), .val (.int p4), .val (.int p5), .val (.int p6), .val (.ref b1), .unset, .unset, .unset, .unset] [(.int p3), (.int 2), (.ref b1)])) rfl (by rw [hml]; rfl) (argsL := [(.int p3)]) (rest := [(.int 2), (.ref b1)]) (lenOf pd__I_C rfl) rfl (by show 2 * 0 + _ ≤ _; exact Nat.le_of_eq rfl) (hb hby at_25) (fun _ _ => ⟨rfl, e7, (by decide : 1 + 0 ≤ _), (by decide : 4 + 0 ≤ _)⟩)
  dsimp only [Pt.U, Pt.locs, Pt.cells, Pt.slots] at X9 l9 y9 z9 st9 hQ9
  subst l9 y9 z9
  obtain ⟨rfl, N9q, e9⟩ := hQ9
  have N9 := Fr.app N7 N9q
  refine own_of (fun t k => st9 t k) ?_
  show own_Go p e below KK T9 (mkF m 28 #[.val (.int p1), .val (.int p2), .val (.int p3), .val (.int p4), .val (.int p5), .val (.int p6), .val (.ref b1), .unset, .unset, .unset, .unset] [(.int (own_F_method_2 p3)), (.int 2), (.ref b1)])
  obtain ⟨T10, h10, X10, e10, W10, V10, st10⟩ := own_stC X9 hx hZ e9 A8_b1 (j := (2 : Int32)) (y := (own_F_method_2 p3)) (own_narD _) (i := 2) (by decide) (by decide) (show (2 : Nat) < 4 from by decide) (g := (mkF m 28 #[.val (.int p1), .val (.int p2), .val (.int p3), .val (.int p4), .val (.int p5), .val (.int p6), .val (.ref b1), .unset, .unset, .unset, .unset] [(.int (own_F_method_2 p3)), (.int 2), (.ref b1)])) rfl rfl (hb hby at_28)
  have N10 := Fr.snoc X10 N9 g_b1
  have Zs10 : n0 ≤ h10.size := (by rw [W10.size]; exact Zs7)
  have A11_b1 : own_A Z h10 b1 "[C" .char [(.int (own_F_method_2 p1)), (.int (own_F_method_2 p2)), (.int (own_F_method_2 p3)), (.int 0)] := V10
  refine own_of (fun t k => st10 t k) ?_
  show own_Go p e below KK T10 (mkF m 29 #[.val (.int p1), .val (.int p2), .val (.int p3), .val (.int p4), .val (.int p5), .val (.int p6), .val (.ref b1), .unset, .unset, .unset, .unset] [])
  refine own_at (fun t k => XS.aload X10.here hx rfl (hb hby at_29) rfl rfl k) ?_
  show own_Go p e below KK T10 (mkF m 31 #[.val (.int p1), .val (.int p2), .val (.int p3), .val (.int p4), .val (.int p5), .val (.int p6), .val (.ref b1), .unset, .unset, .unset, .unset] [(.ref b1)])
  refine own_at (fun t k => XS.iconst X10.here hx rfl (hb hby at_31) k) ?_
  show own_Go p e below KK T10 (mkF m 32 #[.val (.int p1), .val (.int p2), .val (.int p3), .val (.int p4), .val (.int p5), .val (.int p6), .val (.ref b1), .unset, .unset, .unset, .unset] [(.int 3), (.ref b1)])
  refine own_at (fun t k => XS.iloadN X10.here hx rfl (hb hby at_32) rfl k) ?_
  show own_Go p e below KK T10 (mkF m 33 #[.val (.int p1), .val (.int p2), .val (.int p3), .val (.int p4), .val (.int p5), .val (.int p6), .val (.ref b1), .unset, .unset, .unset, .unset] [(.int p4), (.int 3), (.ref b1)])
  obtain ⟨_, _, ⟨T12, L12, k12, n12⟩, -, X12, ⟨Lc12, hQ12, l12, y12, z12⟩, st12⟩ := Jvm.LawKit.callS X10 hx (y := (⟨"com/example/inscribe/inscribe/core/XmlWhiteSpaceIsWhiteSpace194PinLaw", "draw", "(I)C"⟩ : MethodName)) hown (mvT hZ (hw _ (List.mem_of_getElem? (i := 1) rfl))) (mvT hZ (hw _ (List.mem_of_getElem? (i := 2) rfl))) (mvT hZ (hw _ (List.mem_of_getElem? (i := 3) rfl))) (mvT hZ (hw _ (List.mem_of_getElem? (i := 4) rfl))) (by decide) (backOf (W := 2) (rm_method_2 l Z a0 hw [] p4  h10 n0 Zs10 ) hZ (hw _ (List.mem_of_getElem? (i := 4) rfl)) (hw _ (List.mem_of_getElem? (i := 3) rfl)) (by decide) (by decide)) (g := (mkF m 33 #[.val (.int p1), .val (.int p2), .val (.int p3), .val (.int p4), .val (.int p5), .val (.int p6), .val (.ref b1), .unset, .unset, .unset, .unset] [(.int p4), (.int 3), (.ref b1)])) rfl (by rw [hml]; rfl) (argsL := [(.int p4)]) (rest := [(.int 3), (.ref b1)]) (lenOf pd__I_C rfl) rfl (by show 2 * 0 + _ ≤ _; exact Nat.le_of_eq rfl) (hb hby at_33) (fun _ _ => ⟨rfl, e10, (by decide : 1 + 0 ≤ _), (by decide : 4 + 0 ≤ _)⟩)
  dsimp only [Pt.U, Pt.locs, Pt.cells, Pt.slots] at X12 l12 y12 z12 st12 hQ12
  subst l12 y12 z12
  obtain ⟨rfl, N12q, e12⟩ := hQ12
  have N12 := Fr.app N10 N12q
  refine own_of (fun t k => st12 t k) ?_
  show own_Go p e below KK T12 (mkF m 36 #[.val (.int p1), .val (.int p2), .val (.int p3), .val (.int p4), .val (.int p5), .val (.int p6), .val (.ref b1), .unset, .unset, .unset, .unset] [(.int (own_F_method_2 p4)), (.int 3), (.ref b1)])
  obtain ⟨T13, h13, X13, e13, W13, V13, st13⟩ := own_stC X12 hx hZ e12 A11_b1 (j := (3 : Int32)) (y := (own_F_method_2 p4)) (own_narD _) (i := 3) (by decide) (by decide) (show (3 : Nat) < 4 from by decide) (g := (mkF m 36 #[.val (.int p1), .val (.int p2), .val (.int p3), .val (.int p4), .val (.int p5), .val (.int p6), .val (.ref b1), .unset, .unset, .unset, .unset] [(.int (own_F_method_2 p4)), (.int 3), (.ref b1)])) rfl rfl (hb hby at_36)
  have N13 := Fr.snoc X13 N12 g_b1
  have Zs13 : n0 ≤ h13.size := (by rw [W13.size]; exact Zs10)
  have A14_b1 : own_A Z h13 b1 "[C" .char [(.int (own_F_method_2 p1)), (.int (own_F_method_2 p2)), (.int (own_F_method_2 p3)), (.int (own_F_method_2 p4))] := V13
  refine own_of (fun t k => st13 t k) ?_
  show own_Go p e below KK T13 (mkF m 37 #[.val (.int p1), .val (.int p2), .val (.int p3), .val (.int p4), .val (.int p5), .val (.int p6), .val (.ref b1), .unset, .unset, .unset, .unset] [])
  refine own_at (fun t k => XS.iload X13.here hx rfl (hb hby at_37) rfl k) ?_
  show own_Go p e below KK T13 (mkF m 39 #[.val (.int p1), .val (.int p2), .val (.int p3), .val (.int p4), .val (.int p5), .val (.int p6), .val (.ref b1), .unset, .unset, .unset, .unset] [(.int p5)])
  refine own_at (fun t k => X13.ldcInt hx hown (mvT hZ (hw _ (List.mem_of_getElem? (i := 5) rfl))) (g := (mkF m 39 #[.val (.int p1), .val (.int p2), .val (.int p3), .val (.int p4), .val (.int p5), .val (.int p6), .val (.ref b1), .unset, .unset, .unset, .unset] [(.int p5)])) rfl (hb hby at_39) t k) ?_
  show own_Go p e below KK T13 (mkF m 41 #[.val (.int p1), .val (.int p2), .val (.int p3), .val (.int p4), .val (.int p5), .val (.int p6), .val (.ref b1), .unset, .unset, .unset, .unset] [(.int 2147483647), (.int p5)])
  refine own_at (fun t k => XS.iand X13.here hx rfl (hb hby at_41) rfl k) ?_
  show own_Go p e below KK T13 (mkF m 42 #[.val (.int p1), .val (.int p2), .val (.int p3), .val (.int p4), .val (.int p5), .val (.int p6), .val (.ref b1), .unset, .unset, .unset, .unset] [(.int (p5 &&& (2147483647 : Int32)))])
  refine own_at (fun t k => XS.iconst X13.here hx rfl (hb hby at_42) k) ?_
  show own_Go p e below KK T13 (mkF m 43 #[.val (.int p1), .val (.int p2), .val (.int p3), .val (.int p4), .val (.int p5), .val (.int p6), .val (.ref b1), .unset, .unset, .unset, .unset] [(.int 5), (.int (p5 &&& (2147483647 : Int32)))])
  refine own_at (fun t k => XS.irem X13.here hx rfl (hb hby at_43) rfl (by decide) k) ?_
  show own_Go p e below KK T13 (mkF m 44 #[.val (.int p1), .val (.int p2), .val (.int p3), .val (.int p4), .val (.int p5), .val (.int p6), .val (.ref b1), .unset, .unset, .unset, .unset] [(.int ((p5 &&& (2147483647 : Int32)) - ((p5 &&& (2147483647 : Int32)) / (5 : Int32)) * (5 : Int32)))])
  obtain ⟨ss, hss⟩ : ∃ z, z = ((p5 &&& (2147483647 : Int32)) - ((p5 &&& (2147483647 : Int32)) / (5 : Int32)) * (5 : Int32)) := ⟨_, rfl⟩
  rw [← hss]
  show own_Go p e below KK T13 (mkF m 44 #[.val (.int p1), .val (.int p2), .val (.int p3), .val (.int p4), .val (.int p5), .val (.int p6), .val (.ref b1), .unset, .unset, .unset, .unset] [(.int ss)])
  refine own_at (fun t k => XS.istore X13.here hx rfl (hb hby at_44) rfl (l' := #[.val (.int p1), .val (.int p2), .val (.int p3), .val (.int p4), .val (.int p5), .val (.int p6), .val (.ref b1), .val (.int ss), .unset, .unset, .unset]) rfl k) ?_
  show own_Go p e below KK T13 (mkF m 46 #[.val (.int p1), .val (.int p2), .val (.int p3), .val (.int p4), .val (.int p5), .val (.int p6), .val (.ref b1), .val (.int ss), .unset, .unset, .unset] [])
  refine own_at (fun t k => XS.iload X13.here hx rfl (hb hby at_46) rfl k) ?_
  show own_Go p e below KK T13 (mkF m 48 #[.val (.int p1), .val (.int p2), .val (.int p3), .val (.int p4), .val (.int p5), .val (.int p6), .val (.ref b1), .val (.int ss), .unset, .unset, .unset] [(.int p6)])
  refine own_at (fun t k => X13.ldcInt hx hown (mvT hZ (hw _ (List.mem_of_getElem? (i := 5) rfl))) (g := (mkF m 48 #[.val (.int p1), .val (.int p2), .val (.int p3), .val (.int p4), .val (.int p5), .val (.int p6), .val (.ref b1), .val (.int ss), .unset, .unset, .unset] [(.int p6)])) rfl (hb hby at_48) t k) ?_
  show own_Go p e below KK T13 (mkF m 50 #[.val (.int p1), .val (.int p2), .val (.int p3), .val (.int p4), .val (.int p5), .val (.int p6), .val (.ref b1), .val (.int ss), .unset, .unset, .unset] [(.int 2147483647), (.int p6)])
  refine own_at (fun t k => XS.iand X13.here hx rfl (hb hby at_50) rfl k) ?_
  show own_Go p e below KK T13 (mkF m 51 #[.val (.int p1), .val (.int p2), .val (.int p3), .val (.int p4), .val (.int p5), .val (.int p6), .val (.ref b1), .val (.int ss), .unset, .unset, .unset] [(.int (p6 &&& (2147483647 : Int32)))])
  refine own_at (fun t k => XS.iconst X13.here hx rfl (hb hby at_51) k) ?_
  show own_Go p e below KK T13 (mkF m 52 #[.val (.int p1), .val (.int p2), .val (.int p3), .val (.int p4), .val (.int p5), .val (.int p6), .val (.ref b1), .val (.int ss), .unset, .unset, .unset] [(.int 5), (.int (p6 &&& (2147483647 : Int32)))])
  refine own_at (fun t k => XS.irem X13.here hx rfl (hb hby at_52) rfl (by decide) k) ?_
  show own_Go p e below KK T13 (mkF m 53 #[.val (.int p1), .val (.int p2), .val (.int p3), .val (.int p4), .val (.int p5), .val (.int p6), .val (.ref b1), .val (.int ss), .unset, .unset, .unset] [(.int ((p6 &&& (2147483647 : Int32)) - ((p6 &&& (2147483647 : Int32)) / (5 : Int32)) * (5 : Int32)))])
  obtain ⟨ee, hee⟩ : ∃ z, z = ((p6 &&& (2147483647 : Int32)) - ((p6 &&& (2147483647 : Int32)) / (5 : Int32)) * (5 : Int32)) := ⟨_, rfl⟩
  rw [← hee]
  show own_Go p e below KK T13 (mkF m 53 #[.val (.int p1), .val (.int p2), .val (.int p3), .val (.int p4), .val (.int p5), .val (.int p6), .val (.ref b1), .val (.int ss), .unset, .unset, .unset] [(.int ee)])
  refine own_at (fun t k => XS.istore X13.here hx rfl (hb hby at_53) rfl (l' := #[.val (.int p1), .val (.int p2), .val (.int p3), .val (.int p4), .val (.int p5), .val (.int p6), .val (.ref b1), .val (.int ss), .val (.int ee), .unset, .unset]) rfl k) ?_
  show own_Go p e below KK T13 (mkF m 55 #[.val (.int p1), .val (.int p2), .val (.int p3), .val (.int p4), .val (.int p5), .val (.int p6), .val (.ref b1), .val (.int ss), .val (.int ee), .unset, .unset] [])
  refine own_at (fun t k => XS.iconst X13.here hx rfl (hb hby at_55) k) ?_
  show own_Go p e below KK T13 (mkF m 56 #[.val (.int p1), .val (.int p2), .val (.int p3), .val (.int p4), .val (.int p5), .val (.int p6), .val (.ref b1), .val (.int ss), .val (.int ee), .unset, .unset] [(.int 0)])
  refine own_at (fun t k => XS.iload X13.here hx rfl (hb hby at_56) rfl k) ?_
  show own_Go p e below KK T13 (mkF m 58 #[.val (.int p1), .val (.int p2), .val (.int p3), .val (.int p4), .val (.int p5), .val (.int p6), .val (.ref b1), .val (.int ss), .val (.int ee), .unset, .unset] [(.int ss), (.int 0)])
  refine own_at (fun t k => XS.iload X13.here hx rfl (hb hby at_58) rfl k) ?_
  show own_Go p e below KK T13 (mkF m 60 #[.val (.int p1), .val (.int p2), .val (.int p3), .val (.int p4), .val (.int p5), .val (.int p6), .val (.ref b1), .val (.int ss), .val (.int ee), .unset, .unset] [(.int ee), (.int ss), (.int 0)])
  refine own_at (fun t k => XS.aload X13.here hx rfl (hb hby at_60) rfl rfl k) ?_
  show own_Go p e below KK T13 (mkF m 62 #[.val (.int p1), .val (.int p2), .val (.int p3), .val (.int p4), .val (.int p5), .val (.int p6), .val (.ref b1), .val (.int ss), .val (.int ee), .unset, .unset] [(.ref b1), (.int ee), (.int ss), (.int 0)])
  refine own_at (fun t k => XS.iconst X13.here hx rfl (hb hby at_62) k) ?_
  show own_Go p e below KK T13 (mkF m 63 #[.val (.int p1), .val (.int p2), .val (.int p3), .val (.int p4), .val (.int p5), .val (.int p6), .val (.ref b1), .val (.int ss), .val (.int ee), .unset, .unset] [(.int 0), (.ref b1), (.int ee), (.int ss), (.int 0)])
  refine own_at (fun t k => own_ldC X13 hx hZ e13 A14_b1 (j := (0 : Int32)) (i := 0) (v := (.int (own_F_method_2 p1))) (by decide) (by decide) rfl (g := (mkF m 63 #[.val (.int p1), .val (.int p2), .val (.int p3), .val (.int p4), .val (.int p5), .val (.int p6), .val (.ref b1), .val (.int ss), .val (.int ee), .unset, .unset] [(.int 0), (.ref b1), (.int ee), (.int ss), (.int 0)])) rfl rfl (hb hby at_63) t k) ?_
  show own_Go p e below KK T13 (mkF m 64 #[.val (.int p1), .val (.int p2), .val (.int p3), .val (.int p4), .val (.int p5), .val (.int p6), .val (.ref b1), .val (.int ss), .val (.int ee), .unset, .unset] [(.int (own_F_method_2 p1)), (.int ee), (.int ss), (.int 0)])
  obtain ⟨_, _, ⟨T15, L15, k15, n15⟩, -, X15, ⟨Lc15, hQ15, l15, y15, z15⟩, st15⟩ := Jvm.LawKit.callS X13 hx (y := (⟨"com/example/inscribe/inscribe/core/XmlWhiteSpaceIsWhiteSpace194PinLaw", "okAt", "(IIIC)Z"⟩ : MethodName)) hown (mvT hZ (hw _ (List.mem_of_getElem? (i := 6) rfl))) (mvT hZ (hw _ (List.mem_of_getElem? (i := 7) rfl))) (mvT hZ (hw _ (List.mem_of_getElem? (i := 3) rfl))) (mvT hZ (hw _ (List.mem_of_getElem? (i := 8) rfl))) (by decide) (backOf (W := 0) (rm_method_4 l Z a0 hw [] (0 : Int32) ss ee (own_F_method_2 p1)  h13 n0 Zs13 ) hZ (hw _ (List.mem_of_getElem? (i := 8) rfl)) (hw _ (List.mem_of_getElem? (i := 3) rfl)) (by decide) (by decide)) (g := (mkF m 64 #[.val (.int p1), .val (.int p2), .val (.int p3), .val (.int p4), .val (.int p5), .val (.int p6), .val (.ref b1), .val (.int ss), .val (.int ee), .unset, .unset] [(.int (own_F_method_2 p1)), (.int ee), (.int ss), (.int 0)])) rfl (by rw [hml]; rfl) (argsL := [(.int 0), (.int ss), (.int ee), (.int (own_F_method_2 p1))]) (rest := []) (lenOf pd__IIIC_Z rfl) rfl (by show 2 * 0 + _ ≤ _; exact Nat.le_of_eq rfl) (hb hby at_64) (fun _ _ => ⟨rfl, e13, (by decide : 1 + 0 ≤ _), (by decide : 4 + 0 ≤ _)⟩)
  dsimp only [Pt.U, Pt.locs, Pt.cells, Pt.slots] at X15 l15 y15 z15 st15 hQ15
  subst l15 y15 z15
  obtain ⟨rfl, N15q, e15⟩ := hQ15
  have N15 := Fr.app N13 N15q
  refine own_of (fun t k => st15 t k) ?_
  show own_Go p e below KK T15 (mkF m 67 #[.val (.int p1), .val (.int p2), .val (.int p3), .val (.int p4), .val (.int p5), .val (.int p6), .val (.ref b1), .val (.int ss), .val (.int ee), .unset, .unset] [(.int (own_F_method_4 (0 : Int32) ss ee (own_F_method_2 p1)))])
  by_cases hc67 : (own_F_method_4 (0 : Int32) ss ee (own_F_method_2 p1)) = (0 : Int32)
  · refine own_at (fun t k => XS.ifYes X15.here hx rfl (pc0 := 67) (pc' := 119) rfl (hb hby at_67) rfl (Jvm.Free.XT.i0_eq_t hc67) (by decide) (by decide) k) ?_
    show own_Go p e below KK T15 (mkF m 119 #[.val (.int p1), .val (.int p2), .val (.int p3), .val (.int p4), .val (.int p5), .val (.int p6), .val (.ref b1), .val (.int ss), .val (.int ee), .unset, .unset] [])
    refine own_at (fun t k => XS.iconst X15.here hx rfl (hb hby at_119) k) ?_
    show own_Go p e below KK T15 (mkF m 120 #[.val (.int p1), .val (.int p2), .val (.int p3), .val (.int p4), .val (.int p5), .val (.int p6), .val (.ref b1), .val (.int ss), .val (.int ee), .unset, .unset] [(.int 0)])
    refine own_at (fun t k => XS.istore X15.here hx rfl (hb hby at_120) rfl (l' := #[.val (.int p1), .val (.int p2), .val (.int p3), .val (.int p4), .val (.int p5), .val (.int p6), .val (.ref b1), .val (.int ss), .val (.int ee), .val (.int 0), .unset]) rfl k) ?_
    show own_Go p e below KK T15 (mkF m 122 #[.val (.int p1), .val (.int p2), .val (.int p3), .val (.int p4), .val (.int p5), .val (.int p6), .val (.ref b1), .val (.int ss), .val (.int ee), .val (.int 0), .unset] [])
    refine own_at (fun t k => XS.aload X15.here hx rfl (hb hby at_122) rfl rfl k) ?_
    show own_Go p e below KK T15 (mkF m 124 #[.val (.int p1), .val (.int p2), .val (.int p3), .val (.int p4), .val (.int p5), .val (.int p6), .val (.ref b1), .val (.int ss), .val (.int ee), .val (.int 0), .unset] [(.ref b1)])
    refine own_at (fun t k => XS.iload X15.here hx rfl (hb hby at_124) rfl k) ?_
    show own_Go p e below KK T15 (mkF m 126 #[.val (.int p1), .val (.int p2), .val (.int p3), .val (.int p4), .val (.int p5), .val (.int p6), .val (.ref b1), .val (.int ss), .val (.int ee), .val (.int 0), .unset] [(.int ss), (.ref b1)])
    refine own_at (fun t k => XS.iload X15.here hx rfl (hb hby at_126) rfl k) ?_
    show own_Go p e below KK T15 (mkF m 128 #[.val (.int p1), .val (.int p2), .val (.int p3), .val (.int p4), .val (.int p5), .val (.int p6), .val (.ref b1), .val (.int ss), .val (.int ee), .val (.int 0), .unset] [(.int ee), (.int ss), (.ref b1)])
    obtain ⟨_, _, ⟨T16, L16, k16, n16⟩, -, X16, ⟨Lc16, hQ16, l16, y16, z16⟩, st16⟩ := Jvm.LawKit.callS X15 hx (y := (⟨"com/example/inscribe/inscribe/core/XmlWhiteSpace", "isWhiteSpace", "([CII)Z"⟩ : MethodName)) hown (mvT hZ (hw _ (List.mem_of_getElem? (i := 12) rfl))) (mvT hZ (hw _ (List.mem_of_getElem? (i := 13) rfl))) (mvT hZ (hw _ (List.mem_of_getElem? (i := 14) rfl))) (mvT hZ (hw _ (List.mem_of_getElem? (i := 15) rfl))) (by decide) (backOf (W := 0) (rm_isw l Z a0 hw [] b1 ss ee (own_F_method_2 p1) (own_F_method_2 p2) (own_F_method_2 p3) (own_F_method_2 p4) h13 n0 Zs13 A14_b1 (own_e4 hee) (own_s5 hss)) hZ (hw _ (List.mem_of_getElem? (i := 15) rfl)) (hw _ (List.mem_of_getElem? (i := 14) rfl)) (by decide) (by decide)) (g := (mkF m 128 #[.val (.int p1), .val (.int p2), .val (.int p3), .val (.int p4), .val (.int p5), .val (.int p6), .val (.ref b1), .val (.int ss), .val (.int ee), .val (.int 0), .unset] [(.int ee), (.int ss), (.ref b1)])) rfl (by rw [hml]; rfl) (argsL := [(.ref b1), (.int ss), (.int ee)]) (rest := []) (lenOf pd___CII_Z rfl) rfl (by show 2 * 0 + _ ≤ _; exact Nat.le_of_eq rfl) (hb hby at_128) (fun _ _ => ⟨rfl, e15, (by decide : 1 + 0 ≤ _), (by decide : 4 + 0 ≤ _)⟩)
    dsimp only [Pt.U, Pt.locs, Pt.cells, Pt.slots] at X16 l16 y16 z16 st16 hQ16
    subst l16 y16 z16
    obtain ⟨rfl, N16q, e16⟩ := hQ16
    have N16 := Fr.app N15 N16q
    refine own_of (fun t k => st16 t k) ?_
    show own_Go p e below KK T16 (mkF m 131 #[.val (.int p1), .val (.int p2), .val (.int p3), .val (.int p4), .val (.int p5), .val (.int p6), .val (.ref b1), .val (.int ss), .val (.int ee), .val (.int 0), .unset] [(.int (own_G ss ee (own_F_method_2 p1) (own_F_method_2 p2) (own_F_method_2 p3) (own_F_method_2 p4)))])
    refine own_at (fun t k => XS.istore X16.here hx rfl (hb hby at_131) rfl (l' := #[.val (.int p1), .val (.int p2), .val (.int p3), .val (.int p4), .val (.int p5), .val (.int p6), .val (.ref b1), .val (.int ss), .val (.int ee), .val (.int 0), .val (.int (own_G ss ee (own_F_method_2 p1) (own_F_method_2 p2) (own_F_method_2 p3) (own_F_method_2 p4)))]) rfl k) ?_
    show own_Go p e below KK T16 (mkF m 133 #[.val (.int p1), .val (.int p2), .val (.int p3), .val (.int p4), .val (.int p5), .val (.int p6), .val (.ref b1), .val (.int ss), .val (.int ee), .val (.int 0), .val (.int (own_G ss ee (own_F_method_2 p1) (own_F_method_2 p2) (own_F_method_2 p3) (own_F_method_2 p4)))] [])
    refine own_at (fun t k => XS.iload X16.here hx rfl (hb hby at_133) rfl k) ?_
    show own_Go p e below KK T16 (mkF m 135 #[.val (.int p1), .val (.int p2), .val (.int p3), .val (.int p4), .val (.int p5), .val (.int p6), .val (.ref b1), .val (.int ss), .val (.int ee), .val (.int 0), .val (.int (own_G ss ee (own_F_method_2 p1) (own_F_method_2 p2) (own_F_method_2 p3) (own_F_method_2 p4)))] [(.int (own_G ss ee (own_F_method_2 p1) (own_F_method_2 p2) (own_F_method_2 p3) (own_F_method_2 p4)))])
    refine own_at (fun t k => XS.iload X16.here hx rfl (hb hby at_135) rfl k) ?_
    show own_Go p e below KK T16 (mkF m 137 #[.val (.int p1), .val (.int p2), .val (.int p3), .val (.int p4), .val (.int p5), .val (.int p6), .val (.ref b1), .val (.int ss), .val (.int ee), .val (.int 0), .val (.int (own_G ss ee (own_F_method_2 p1) (own_F_method_2 p2) (own_F_method_2 p3) (own_F_method_2 p4)))] [(.int 0), (.int (own_G ss ee (own_F_method_2 p1) (own_F_method_2 p2) (own_F_method_2 p3) (own_F_method_2 p4)))])
    have hc137 : (own_G ss ee (own_F_method_2 p1) (own_F_method_2 p2) (own_F_method_2 p3) (own_F_method_2 p4)) = (0 : Int32) := (own_all _ _ _ _ (own_mod hss) (own_mod hee)).trans (by rw [if_pos hc67])
    refine own_at (fun t k => XS.icmpNo X16.here hx rfl (hb hby at_137) rfl (Jvm.Free.XT.ii_ne_f hc137) k) ?_
    show own_Go p e below KK T16 (mkF m 140 #[.val (.int p1), .val (.int p2), .val (.int p3), .val (.int p4), .val (.int p5), .val (.int p6), .val (.ref b1), .val (.int ss), .val (.int ee), .val (.int 0), .val (.int (own_G ss ee (own_F_method_2 p1) (own_F_method_2 p2) (own_F_method_2 p3) (own_F_method_2 p4)))] [])
    refine own_at (fun t k => XS.iconst X16.here hx rfl (hb hby at_140) k) ?_
    show own_Go p e below KK T16 (mkF m 141 #[.val (.int p1), .val (.int p2), .val (.int p3), .val (.int p4), .val (.int p5), .val (.int p6), .val (.ref b1), .val (.int ss), .val (.int ee), .val (.int 0), .val (.int (own_G ss ee (own_F_method_2 p1) (own_F_method_2 p2) (own_F_method_2 p3) (own_F_method_2 p4)))] [(.int 1)])
    refine own_at (fun t k => XS.goto X16.here hx rfl (pc0 := 141) (pc' := 145) rfl (hb hby at_141) (by decide) (by decide) k) ?_
    show own_Go p e below KK T16 (mkF m 145 #[.val (.int p1), .val (.int p2), .val (.int p3), .val (.int p4), .val (.int p5), .val (.int p6), .val (.ref b1), .val (.int ss), .val (.int ee), .val (.int 0), .val (.int (own_G ss ee (own_F_method_2 p1) (own_F_method_2 p2) (own_F_method_2 p3) (own_F_method_2 p4)))] [(.int 1)])
    subst hKK
    exact own_retN X16 hx hlk (t := .boolean) Bd.returns (by simp) (hb hby at_145) (w := (1 : Int32)) (show nar .boolean (1 : Int32) = 1 from by decide) ⟨rfl, N16⟩ (Nat.le_of_ble_eq_true rfl) (Nat.le_of_ble_eq_true rfl)
  · refine own_at (fun t k => XS.ifNo X15.here hx rfl (hb hby at_67) rfl (Jvm.Free.XT.i0_eq_f hc67) k) ?_
    show own_Go p e below KK T15 (mkF m 70 #[.val (.int p1), .val (.int p2), .val (.int p3), .val (.int p4), .val (.int p5), .val (.int p6), .val (.ref b1), .val (.int ss), .val (.int ee), .unset, .unset] [])
    refine own_at (fun t k => XS.iconst X15.here hx rfl (hb hby at_70) k) ?_
    show own_Go p e below KK T15 (mkF m 71 #[.val (.int p1), .val (.int p2), .val (.int p3), .val (.int p4), .val (.int p5), .val (.int p6), .val (.ref b1), .val (.int ss), .val (.int ee), .unset, .unset] [(.int 1)])
    refine own_at (fun t k => XS.iload X15.here hx rfl (hb hby at_71) rfl k) ?_
    show own_Go p e below KK T15 (mkF m 73 #[.val (.int p1), .val (.int p2), .val (.int p3), .val (.int p4), .val (.int p5), .val (.int p6), .val (.ref b1), .val (.int ss), .val (.int ee), .unset, .unset] [(.int ss), (.int 1)])
    refine own_at (fun t k => XS.iload X15.here hx rfl (hb hby at_73) rfl k) ?_
    show own_Go p e below KK T15 (mkF m 75 #[.val (.int p1), .val (.int p2), .val (.int p3), .val (.int p4), .val (.int p5), .val (.int p6), .val (.ref b1), .val (.int ss), .val (.int ee), .unset, .unset] [(.int ee), (.int ss), (.int 1)])
    refine own_at (fun t k => XS.aload X15.here hx rfl (hb hby at_75) rfl rfl k) ?_
    show own_Go p e below KK T15 (mkF m 77 #[.val (.int p1), .val (.int p2), .val (.int p3), .val (.int p4), .val (.int p5), .val (.int p6), .val (.ref b1), .val (.int ss), .val (.int ee), .unset, .unset] [(.ref b1), (.int ee), (.int ss), (.int 1)])
    refine own_at (fun t k => XS.iconst X15.here hx rfl (hb hby at_77) k) ?_
    show own_Go p e below KK T15 (mkF m 78 #[.val (.int p1), .val (.int p2), .val (.int p3), .val (.int p4), .val (.int p5), .val (.int p6), .val (.ref b1), .val (.int ss), .val (.int ee), .unset, .unset] [(.int 1), (.ref b1), (.int ee), (.int ss), (.int 1)])
    refine own_at (fun t k => own_ldC X15 hx hZ e15 A14_b1 (j := (1 : Int32)) (i := 1) (v := (.int (own_F_method_2 p2))) (by decide) (by decide) rfl (g := (mkF m 78 #[.val (.int p1), .val (.int p2), .val (.int p3), .val (.int p4), .val (.int p5), .val (.int p6), .val (.ref b1), .val (.int ss), .val (.int ee), .unset, .unset] [(.int 1), (.ref b1), (.int ee), (.int ss), (.int 1)])) rfl rfl (hb hby at_78) t k) ?_
    show own_Go p e below KK T15 (mkF m 79 #[.val (.int p1), .val (.int p2), .val (.int p3), .val (.int p4), .val (.int p5), .val (.int p6), .val (.ref b1), .val (.int ss), .val (.int ee), .unset, .unset] [(.int (own_F_method_2 p2)), (.int ee), (.int ss), (.int 1)])
    obtain ⟨_, _, ⟨T17, L17, k17, n17⟩, -, X17, ⟨Lc17, hQ17, l17, y17, z17⟩, st17⟩ := Jvm.LawKit.callS X15 hx (y := (⟨"com/example/inscribe/inscribe/core/XmlWhiteSpaceIsWhiteSpace194PinLaw", "okAt", "(IIIC)Z"⟩ : MethodName)) hown (mvT hZ (hw _ (List.mem_of_getElem? (i := 6) rfl))) (mvT hZ (hw _ (List.mem_of_getElem? (i := 7) rfl))) (mvT hZ (hw _ (List.mem_of_getElem? (i := 3) rfl))) (mvT hZ (hw _ (List.mem_of_getElem? (i := 8) rfl))) (by decide) (backOf (W := 0) (rm_method_4 l Z a0 hw [] (1 : Int32) ss ee (own_F_method_2 p2)  h13 n0 Zs13 ) hZ (hw _ (List.mem_of_getElem? (i := 8) rfl)) (hw _ (List.mem_of_getElem? (i := 3) rfl)) (by decide) (by decide)) (g := (mkF m 79 #[.val (.int p1), .val (.int p2), .val (.int p3), .val (.int p4), .val (.int p5), .val (.int p6), .val (.ref b1), .val (.int ss), .val (.int ee), .unset, .unset] [(.int (own_F_method_2 p2)), (.int ee), (.int ss), (.int 1)])) rfl (by rw [hml]; rfl) (argsL := [(.int 1), (.int ss), (.int ee), (.int (own_F_method_2 p2))]) (rest := []) (lenOf pd__IIIC_Z rfl) rfl (by show 2 * 0 + _ ≤ _; exact Nat.le_of_eq rfl) (hb hby at_79) (fun _ _ => ⟨rfl, e15, (by decide : 1 + 0 ≤ _), (by decide : 4 + 0 ≤ _)⟩)
    dsimp only [Pt.U, Pt.locs, Pt.cells, Pt.slots] at X17 l17 y17 z17 st17 hQ17
    subst l17 y17 z17
    obtain ⟨rfl, N17q, e17⟩ := hQ17
    have N17 := Fr.app N15 N17q
    refine own_of (fun t k => st17 t k) ?_
    show own_Go p e below KK T17 (mkF m 82 #[.val (.int p1), .val (.int p2), .val (.int p3), .val (.int p4), .val (.int p5), .val (.int p6), .val (.ref b1), .val (.int ss), .val (.int ee), .unset, .unset] [(.int (own_F_method_4 (1 : Int32) ss ee (own_F_method_2 p2)))])
    by_cases hc82 : (own_F_method_4 (1 : Int32) ss ee (own_F_method_2 p2)) = (0 : Int32)
    · refine own_at (fun t k => XS.ifYes X17.here hx rfl (pc0 := 82) (pc' := 119) rfl (hb hby at_82) rfl (Jvm.Free.XT.i0_eq_t hc82) (by decide) (by decide) k) ?_
      show own_Go p e below KK T17 (mkF m 119 #[.val (.int p1), .val (.int p2), .val (.int p3), .val (.int p4), .val (.int p5), .val (.int p6), .val (.ref b1), .val (.int ss), .val (.int ee), .unset, .unset] [])
      refine own_at (fun t k => XS.iconst X17.here hx rfl (hb hby at_119) k) ?_
      show own_Go p e below KK T17 (mkF m 120 #[.val (.int p1), .val (.int p2), .val (.int p3), .val (.int p4), .val (.int p5), .val (.int p6), .val (.ref b1), .val (.int ss), .val (.int ee), .unset, .unset] [(.int 0)])
      refine own_at (fun t k => XS.istore X17.here hx rfl (hb hby at_120) rfl (l' := #[.val (.int p1), .val (.int p2), .val (.int p3), .val (.int p4), .val (.int p5), .val (.int p6), .val (.ref b1), .val (.int ss), .val (.int ee), .val (.int 0), .unset]) rfl k) ?_
      show own_Go p e below KK T17 (mkF m 122 #[.val (.int p1), .val (.int p2), .val (.int p3), .val (.int p4), .val (.int p5), .val (.int p6), .val (.ref b1), .val (.int ss), .val (.int ee), .val (.int 0), .unset] [])
      refine own_at (fun t k => XS.aload X17.here hx rfl (hb hby at_122) rfl rfl k) ?_
      show own_Go p e below KK T17 (mkF m 124 #[.val (.int p1), .val (.int p2), .val (.int p3), .val (.int p4), .val (.int p5), .val (.int p6), .val (.ref b1), .val (.int ss), .val (.int ee), .val (.int 0), .unset] [(.ref b1)])
      refine own_at (fun t k => XS.iload X17.here hx rfl (hb hby at_124) rfl k) ?_
      show own_Go p e below KK T17 (mkF m 126 #[.val (.int p1), .val (.int p2), .val (.int p3), .val (.int p4), .val (.int p5), .val (.int p6), .val (.ref b1), .val (.int ss), .val (.int ee), .val (.int 0), .unset] [(.int ss), (.ref b1)])
      refine own_at (fun t k => XS.iload X17.here hx rfl (hb hby at_126) rfl k) ?_
      show own_Go p e below KK T17 (mkF m 128 #[.val (.int p1), .val (.int p2), .val (.int p3), .val (.int p4), .val (.int p5), .val (.int p6), .val (.ref b1), .val (.int ss), .val (.int ee), .val (.int 0), .unset] [(.int ee), (.int ss), (.ref b1)])
      obtain ⟨_, _, ⟨T18, L18, k18, n18⟩, -, X18, ⟨Lc18, hQ18, l18, y18, z18⟩, st18⟩ := Jvm.LawKit.callS X17 hx (y := (⟨"com/example/inscribe/inscribe/core/XmlWhiteSpace", "isWhiteSpace", "([CII)Z"⟩ : MethodName)) hown (mvT hZ (hw _ (List.mem_of_getElem? (i := 12) rfl))) (mvT hZ (hw _ (List.mem_of_getElem? (i := 13) rfl))) (mvT hZ (hw _ (List.mem_of_getElem? (i := 14) rfl))) (mvT hZ (hw _ (List.mem_of_getElem? (i := 15) rfl))) (by decide) (backOf (W := 0) (rm_isw l Z a0 hw [] b1 ss ee (own_F_method_2 p1) (own_F_method_2 p2) (own_F_method_2 p3) (own_F_method_2 p4) h13 n0 Zs13 A14_b1 (own_e4 hee) (own_s5 hss)) hZ (hw _ (List.mem_of_getElem? (i := 15) rfl)) (hw _ (List.mem_of_getElem? (i := 14) rfl)) (by decide) (by decide)) (g := (mkF m 128 #[.val (.int p1), .val (.int p2), .val (.int p3), .val (.int p4), .val (.int p5), .val (.int p6), .val (.ref b1), .val (.int ss), .val (.int ee), .val (.int 0), .unset] [(.int ee), (.int ss), (.ref b1)])) rfl (by rw [hml]; rfl) (argsL := [(.ref b1), (.int ss), (.int ee)]) (rest := []) (lenOf pd___CII_Z rfl) rfl (by show 2 * 0 + _ ≤ _; exact Nat.le_of_eq rfl) (hb hby at_128) (fun _ _ => ⟨rfl, e17, (by decide : 1 + 0 ≤ _), (by decide : 4 + 0 ≤ _)⟩)
      dsimp only [Pt.U, Pt.locs, Pt.cells, Pt.slots] at X18 l18 y18 z18 st18 hQ18
      subst l18 y18 z18
      obtain ⟨rfl, N18q, e18⟩ := hQ18
      have N18 := Fr.app N17 N18q
      refine own_of (fun t k => st18 t k) ?_
      show own_Go p e below KK T18 (mkF m 131 #[.val (.int p1), .val (.int p2), .val (.int p3), .val (.int p4), .val (.int p5), .val (.int p6), .val (.ref b1), .val (.int ss), .val (.int ee), .val (.int 0), .unset] [(.int (own_G ss ee (own_F_method_2 p1) (own_F_method_2 p2) (own_F_method_2 p3) (own_F_method_2 p4)))])
      refine own_at (fun t k => XS.istore X18.here hx rfl (hb hby at_131) rfl (l' := #[.val (.int p1), .val (.int p2), .val (.int p3), .val (.int p4), .val (.int p5), .val (.int p6), .val (.ref b1), .val (.int ss), .val (.int ee), .val (.int 0), .val (.int (own_G ss ee (own_F_method_2 p1) (own_F_method_2 p2) (own_F_method_2 p3) (own_F_method_2 p4)))]) rfl k) ?_
      show own_Go p e below KK T18 (mkF m 133 #[.val (.int p1), .val (.int p2), .val (.int p3), .val (.int p4), .val (.int p5), .val (.int p6), .val (.ref b1), .val (.int ss), .val (.int ee), .val (.int 0), .val (.int (own_G ss ee (own_F_method_2 p1) (own_F_method_2 p2) (own_F_method_2 p3) (own_F_method_2 p4)))] [])
      refine own_at (fun t k => XS.iload X18.here hx rfl (hb hby at_133) rfl k) ?_
      show own_Go p e below KK T18 (mkF m 135 #[.val (.int p1), .val (.int p2), .val (.int p3), .val (.int p4), .val (.int p5), .val (.int p6), .val (.ref b1), .val (.int ss), .val (.int ee), .val (.int 0), .val (.int (own_G ss ee (own_F_method_2 p1) (own_F_method_2 p2) (own_F_method_2 p3) (own_F_method_2 p4)))] [(.int (own_G ss ee (own_F_method_2 p1) (own_F_method_2 p2) (own_F_method_2 p3) (own_F_method_2 p4)))])
      refine own_at (fun t k => XS.iload X18.here hx rfl (hb hby at_135) rfl k) ?_
      show own_Go p e below KK T18 (mkF m 137 #[.val (.int p1), .val (.int p2), .val (.int p3), .val (.int p4), .val (.int p5), .val (.int p6), .val (.ref b1), .val (.int ss), .val (.int ee), .val (.int 0), .val (.int (own_G ss ee (own_F_method_2 p1) (own_F_method_2 p2) (own_F_method_2 p3) (own_F_method_2 p4)))] [(.int 0), (.int (own_G ss ee (own_F_method_2 p1) (own_F_method_2 p2) (own_F_method_2 p3) (own_F_method_2 p4)))])
      have hc137 : (own_G ss ee (own_F_method_2 p1) (own_F_method_2 p2) (own_F_method_2 p3) (own_F_method_2 p4)) = (0 : Int32) := (own_all _ _ _ _ (own_mod hss) (own_mod hee)).trans (by rw [if_neg hc67, if_pos hc82])
      refine own_at (fun t k => XS.icmpNo X18.here hx rfl (hb hby at_137) rfl (Jvm.Free.XT.ii_ne_f hc137) k) ?_
      show own_Go p e below KK T18 (mkF m 140 #[.val (.int p1), .val (.int p2), .val (.int p3), .val (.int p4), .val (.int p5), .val (.int p6), .val (.ref b1), .val (.int ss), .val (.int ee), .val (.int 0), .val (.int (own_G ss ee (own_F_method_2 p1) (own_F_method_2 p2) (own_F_method_2 p3) (own_F_method_2 p4)))] [])
      refine own_at (fun t k => XS.iconst X18.here hx rfl (hb hby at_140) k) ?_
      show own_Go p e below KK T18 (mkF m 141 #[.val (.int p1), .val (.int p2), .val (.int p3), .val (.int p4), .val (.int p5), .val (.int p6), .val (.ref b1), .val (.int ss), .val (.int ee), .val (.int 0), .val (.int (own_G ss ee (own_F_method_2 p1) (own_F_method_2 p2) (own_F_method_2 p3) (own_F_method_2 p4)))] [(.int 1)])
      refine own_at (fun t k => XS.goto X18.here hx rfl (pc0 := 141) (pc' := 145) rfl (hb hby at_141) (by decide) (by decide) k) ?_
      show own_Go p e below KK T18 (mkF m 145 #[.val (.int p1), .val (.int p2), .val (.int p3), .val (.int p4), .val (.int p5), .val (.int p6), .val (.ref b1), .val (.int ss), .val (.int ee), .val (.int 0), .val (.int (own_G ss ee (own_F_method_2 p1) (own_F_method_2 p2) (own_F_method_2 p3) (own_F_method_2 p4)))] [(.int 1)])
      subst hKK
      exact own_retN X18 hx hlk (t := .boolean) Bd.returns (by simp) (hb hby at_145) (w := (1 : Int32)) (show nar .boolean (1 : Int32) = 1 from by decide) ⟨rfl, N18⟩ (Nat.le_of_ble_eq_true rfl) (Nat.le_of_ble_eq_true rfl)
    · refine own_at (fun t k => XS.ifNo X17.here hx rfl (hb hby at_82) rfl (Jvm.Free.XT.i0_eq_f hc82) k) ?_
      show own_Go p e below KK T17 (mkF m 85 #[.val (.int p1), .val (.int p2), .val (.int p3), .val (.int p4), .val (.int p5), .val (.int p6), .val (.ref b1), .val (.int ss), .val (.int ee), .unset, .unset] [])
      refine own_at (fun t k => XS.iconst X17.here hx rfl (hb hby at_85) k) ?_
      show own_Go p e below KK T17 (mkF m 86 #[.val (.int p1), .val (.int p2), .val (.int p3), .val (.int p4), .val (.int p5), .val (.int p6), .val (.ref b1), .val (.int ss), .val (.int ee), .unset, .unset] [(.int 2)])
      refine own_at (fun t k => XS.iload X17.here hx rfl (hb hby at_86) rfl k) ?_
      show own_Go p e below KK T17 (mkF m 88 #[.val (.int p1), .val (.int p2), .val (.int p3), .val (.int p4), .val (.int p5), .val (.int p6), .val (.ref b1), .val (.int ss), .val (.int ee), .unset, .unset] [(.int ss), (.int 2)])
      refine own_at (fun t k => XS.iload X17.here hx rfl (hb hby at_88) rfl k) ?_
      show own_Go p e below KK T17 (mkF m 90 #[.val (.int p1), .val (.int p2), .val (.int p3), .val (.int p4), .val (.int p5), .val (.int p6), .val (.ref b1), .val (.int ss), .val (.int ee), .unset, .unset] [(.int ee), (.int ss), (.int 2)])
      refine own_at (fun t k => XS.aload X17.here hx rfl (hb hby at_90) rfl rfl k) ?_
      show own_Go p e below KK T17 (mkF m 92 #[.val (.int p1), .val (.int p2), .val (.int p3), .val (.int p4), .val (.int p5), .val (.int p6), .val (.ref b1), .val (.int ss), .val (.int ee), .unset, .unset] [(.ref b1), (.int ee), (.int ss), (.int 2)])
      refine own_at (fun t k => XS.iconst X17.here hx rfl (hb hby at_92) k) ?_
      show own_Go p e below KK T17 (mkF m 93 #[.val (.int p1), .val (.int p2), .val (.int p3), .val (.int p4), .val (.int p5), .val (.int p6), .val (.ref b1), .val (.int ss), .val (.int ee), .unset, .unset] [(.int 2), (.ref b1), (.int ee), (.int ss), (.int 2)])
      refine own_at (fun t k => own_ldC X17 hx hZ e17 A14_b1 (j := (2 : Int32)) (i := 2) (v := (.int (own_F_method_2 p3))) (by decide) (by decide) rfl (g := (mkF m 93 #[.val (.int p1), .val (.int p2), .val (.int p3), .val (.int p4), .val (.int p5), .val (.int p6), .val (.ref b1), .val (.int ss), .val (.int ee), .unset, .unset] [(.int 2), (.ref b1), (.int ee), (.int ss), (.int 2)])) rfl rfl (hb hby at_93) t k) ?_
      show own_Go p e below KK T17 (mkF m 94 #[.val (.int p1), .val (.int p2), .val (.int p3), .val (.int p4), .val (.int p5), .val (.int p6), .val (.ref b1), .val (.int ss), .val (.int ee), .unset, .unset] [(.int (own_F_method_2 p3)), (.int ee), (.int ss), (.int 2)])
      obtain ⟨_, _, ⟨T19, L19, k19, n19⟩, -, X19, ⟨Lc19, hQ19, l19, y19, z19⟩, st19⟩ := Jvm.LawKit.callS X17 hx (y := (⟨"com/example/inscribe/inscribe/core/XmlWhiteSpaceIsWhiteSpace194PinLaw", "okAt", "(IIIC)Z"⟩ : MethodName)) hown (mvT hZ (hw _ (List.mem_of_getElem? (i := 6) rfl))) (mvT hZ (hw _ (List.mem_of_getElem? (i := 7) rfl))) (mvT hZ (hw _ (List.mem_of_getElem? (i := 3) rfl))) (mvT hZ (hw _ (List.mem_of_getElem? (i := 8) rfl))) (by decide) (backOf (W := 0) (rm_method_4 l Z a0 hw [] (2 : Int32) ss ee (own_F_method_2 p3)  h13 n0 Zs13 ) hZ (hw _ (List.mem_of_getElem? (i := 8) rfl)) (hw _ (List.mem_of_getElem? (i := 3) rfl)) (by decide) (by decide)) (g := (mkF m 94 #[.val (.int p1), .val (.int p2), .val (.int p3), .val (.int p4), .val (.int p5), .val (.int p6), .val (.ref b1), .val (.int ss), .val (.int ee), .unset, .unset] [(.int (own_F_method_2 p3)), (.int ee), (.int ss), (.int 2)])) rfl (by rw [hml]; rfl) (argsL := [(.int 2), (.int ss), (.int ee), (.int (own_F_method_2 p3))]) (rest := []) (lenOf pd__IIIC_Z rfl) rfl (by show 2 * 0 + _ ≤ _; exact Nat.le_of_eq rfl) (hb hby at_94) (fun _ _ => ⟨rfl, e17, (by decide : 1 + 0 ≤ _), (by decide : 4 + 0 ≤ _)⟩)
      dsimp only [Pt.U, Pt.locs, Pt.cells, Pt.slots] at X19 l19 y19 z19 st19 hQ19
      subst l19 y19 z19
      obtain ⟨rfl, N19q, e19⟩ := hQ19
      have N19 := Fr.app N17 N19q
      refine own_of (fun t k => st19 t k) ?_
      show own_Go p e below KK T19 (mkF m 97 #[.val (.int p1), .val (.int p2), .val (.int p3), .val (.int p4), .val (.int p5), .val (.int p6), .val (.ref b1), .val (.int ss), .val (.int ee), .unset, .unset] [(.int (own_F_method_4 (2 : Int32) ss ee (own_F_method_2 p3)))])
      by_cases hc97 : (own_F_method_4 (2 : Int32) ss ee (own_F_method_2 p3)) = (0 : Int32)
      · refine own_at (fun t k => XS.ifYes X19.here hx rfl (pc0 := 97) (pc' := 119) rfl (hb hby at_97) rfl (Jvm.Free.XT.i0_eq_t hc97) (by decide) (by decide) k) ?_
        show own_Go p e below KK T19 (mkF m 119 #[.val (.int p1), .val (.int p2), .val (.int p3), .val (.int p4), .val (.int p5), .val (.int p6), .val (.ref b1), .val (.int ss), .val (.int ee), .unset, .unset] [])
        refine own_at (fun t k => XS.iconst X19.here hx rfl (hb hby at_119) k) ?_
        show own_Go p e below KK T19 (mkF m 120 #[.val (.int p1), .val (.int p2), .val (.int p3), .val (.int p4), .val (.int p5), .val (.int p6), .val (.ref b1), .val (.int ss), .val (.int ee), .unset, .unset] [(.int 0)])
        refine own_at (fun t k => XS.istore X19.here hx rfl (hb hby at_120) rfl (l' := #[.val (.int p1), .val (.int p2), .val (.int p3), .val (.int p4), .val (.int p5), .val (.int p6), .val (.ref b1), .val (.int ss), .val (.int ee), .val (.int 0), .unset]) rfl k) ?_
        show own_Go p e below KK T19 (mkF m 122 #[.val (.int p1), .val (.int p2), .val (.int p3), .val (.int p4), .val (.int p5), .val (.int p6), .val (.ref b1), .val (.int ss), .val (.int ee), .val (.int 0), .unset] [])
        refine own_at (fun t k => XS.aload X19.here hx rfl (hb hby at_122) rfl rfl k) ?_
        show own_Go p e below KK T19 (mkF m 124 #[.val (.int p1), .val (.int p2), .val (.int p3), .val (.int p4), .val (.int p5), .val (.int p6), .val (.ref b1), .val (.int ss), .val (.int ee), .val (.int 0), .unset] [(.ref b1)])
        refine own_at (fun t k => XS.iload X19.here hx rfl (hb hby at_124) rfl k) ?_
        show own_Go p e below KK T19 (mkF m 126 #[.val (.int p1), .val (.int p2), .val (.int p3), .val (.int p4), .val (.int p5), .val (.int p6), .val (.ref b1), .val (.int ss), .val (.int ee), .val (.int 0), .unset] [(.int ss), (.ref b1)])
        refine own_at (fun t k => XS.iload X19.here hx rfl (hb hby at_126) rfl k) ?_
        show own_Go p e below KK T19 (mkF m 128 #[.val (.int p1), .val (.int p2), .val (.int p3), .val (.int p4), .val (.int p5), .val (.int p6), .val (.ref b1), .val (.int ss), .val (.int ee), .val (.int 0), .unset] [(.int ee), (.int ss), (.ref b1)])
        obtain ⟨_, _, ⟨T20, L20, k20, n20⟩, -, X20, ⟨Lc20, hQ20, l20, y20, z20⟩, st20⟩ := Jvm.LawKit.callS X19 hx (y := (⟨"com/example/inscribe/inscribe/core/XmlWhiteSpace", "isWhiteSpace", "([CII)Z"⟩ : MethodName)) hown (mvT hZ (hw _ (List.mem_of_getElem? (i := 12) rfl))) (mvT hZ (hw _ (List.mem_of_getElem? (i := 13) rfl))) (mvT hZ (hw _ (List.mem_of_getElem? (i := 14) rfl))) (mvT hZ (hw _ (List.mem_of_getElem? (i := 15) rfl))) (by decide) (backOf (W := 0) (rm_isw l Z a0 hw [] b1 ss ee (own_F_method_2 p1) (own_F_method_2 p2) (own_F_method_2 p3) (own_F_method_2 p4) h13 n0 Zs13 A14_b1 (own_e4 hee) (own_s5 hss)) hZ (hw _ (List.mem_of_getElem? (i := 15) rfl)) (hw _ (List.mem_of_getElem? (i := 14) rfl)) (by decide) (by decide)) (g := (mkF m 128 #[.val (.int p1), .val (.int p2), .val (.int p3), .val (.int p4), .val (.int p5), .val (.int p6), .val (.ref b1), .val (.int ss), .val (.int ee), .val (.int 0), .unset] [(.int ee), (.int ss), (.ref b1)])) rfl (by rw [hml]; rfl) (argsL := [(.ref b1), (.int ss), (.int ee)]) (rest := []) (lenOf pd___CII_Z rfl) rfl (by show 2 * 0 + _ ≤ _; exact Nat.le_of_eq rfl) (hb hby at_128) (fun _ _ => ⟨rfl, e19, (by decide : 1 + 0 ≤ _), (by decide : 4 + 0 ≤ _)⟩)
        dsimp only [Pt.U, Pt.locs, Pt.cells, Pt.slots] at X20 l20 y20 z20 st20 hQ20
        subst l20 y20 z20
        obtain ⟨rfl, N20q, e20⟩ := hQ20
        have N20 := Fr.app N19 N20q
        refine own_of (fun t k => st20 t k) ?_
        show own_Go p e below KK T20 (mkF m 131 #[.val (.int p1), .val (.int p2), .val (.int p3), .val (.int p4), .val (.int p5), .val (.int p6), .val (.ref b1), .val (.int ss), .val (.int ee), .val (.int 0), .unset] [(.int (own_G ss ee (own_F_method_2 p1) (own_F_method_2 p2) (own_F_method_2 p3) (own_F_method_2 p4)))])
        refine own_at (fun t k => XS.istore X20.here hx rfl (hb hby at_131) rfl (l' := #[.val (.int p1), .val (.int p2), .val (.int p3), .val (.int p4), .val (.int p5), .val (.int p6), .val (.ref b1), .val (.int ss), .val (.int ee), .val (.int 0), .val (.int (own_G ss ee (own_F_method_2 p1) (own_F_method_2 p2) (own_F_method_2 p3) (own_F_method_2 p4)))]) rfl k) ?_
        show own_Go p e below KK T20 (mkF m 133 #[.val (.int p1), .val (.int p2), .val (.int p3), .val (.int p4), .val (.int p5), .val (.int p6), .val (.ref b1), .val (.int ss), .val (.int ee), .val (.int 0), .val (.int (own_G ss ee (own_F_method_2 p1) (own_F_method_2 p2) (own_F_method_2 p3) (own_F_method_2 p4)))] [])
        refine own_at (fun t k => XS.iload X20.here hx rfl (hb hby at_133) rfl k) ?_
        show own_Go p e below KK T20 (mkF m 135 #[.val (.int p1), .val (.int p2), .val (.int p3), .val (.int p4), .val (.int p5), .val (.int p6), .val (.ref b1), .val (.int ss), .val (.int ee), .val (.int 0), .val (.int (own_G ss ee (own_F_method_2 p1) (own_F_method_2 p2) (own_F_method_2 p3) (own_F_method_2 p4)))] [(.int (own_G ss ee (own_F_method_2 p1) (own_F_method_2 p2) (own_F_method_2 p3) (own_F_method_2 p4)))])
        refine own_at (fun t k => XS.iload X20.here hx rfl (hb hby at_135) rfl k) ?_
        show own_Go p e below KK T20 (mkF m 137 #[.val (.int p1), .val (.int p2), .val (.int p3), .val (.int p4), .val (.int p5), .val (.int p6), .val (.ref b1), .val (.int ss), .val (.int ee), .val (.int 0), .val (.int (own_G ss ee (own_F_method_2 p1) (own_F_method_2 p2) (own_F_method_2 p3) (own_F_method_2 p4)))] [(.int 0), (.int (own_G ss ee (own_F_method_2 p1) (own_F_method_2 p2) (own_F_method_2 p3) (own_F_method_2 p4)))])
        have hc137 : (own_G ss ee (own_F_method_2 p1) (own_F_method_2 p2) (own_F_method_2 p3) (own_F_method_2 p4)) = (0 : Int32) := (own_all _ _ _ _ (own_mod hss) (own_mod hee)).trans (by rw [if_neg hc67, if_neg hc82, if_pos hc97])
        refine own_at (fun t k => XS.icmpNo X20.here hx rfl (hb hby at_137) rfl (Jvm.Free.XT.ii_ne_f hc137) k) ?_
        show own_Go p e below KK T20 (mkF m 140 #[.val (.int p1), .val (.int p2), .val (.int p3), .val (.int p4), .val (.int p5), .val (.int p6), .val (.ref b1), .val (.int ss), .val (.int ee), .val (.int 0), .val (.int (own_G ss ee (own_F_method_2 p1) (own_F_method_2 p2) (own_F_method_2 p3) (own_F_method_2 p4)))] [])
        refine own_at (fun t k => XS.iconst X20.here hx rfl (hb hby at_140) k) ?_
        show own_Go p e below KK T20 (mkF m 141 #[.val (.int p1), .val (.int p2), .val (.int p3), .val (.int p4), .val (.int p5), .val (.int p6), .val (.ref b1), .val (.int ss), .val (.int ee), .val (.int 0), .val (.int (own_G ss ee (own_F_method_2 p1) (own_F_method_2 p2) (own_F_method_2 p3) (own_F_method_2 p4)))] [(.int 1)])
        refine own_at (fun t k => XS.goto X20.here hx rfl (pc0 := 141) (pc' := 145) rfl (hb hby at_141) (by decide) (by decide) k) ?_
        show own_Go p e below KK T20 (mkF m 145 #[.val (.int p1), .val (.int p2), .val (.int p3), .val (.int p4), .val (.int p5), .val (.int p6), .val (.ref b1), .val (.int ss), .val (.int ee), .val (.int 0), .val (.int (own_G ss ee (own_F_method_2 p1) (own_F_method_2 p2) (own_F_method_2 p3) (own_F_method_2 p4)))] [(.int 1)])
        subst hKK
        exact own_retN X20 hx hlk (t := .boolean) Bd.returns (by simp) (hb hby at_145) (w := (1 : Int32)) (show nar .boolean (1 : Int32) = 1 from by decide) ⟨rfl, N20⟩ (Nat.le_of_ble_eq_true rfl) (Nat.le_of_ble_eq_true rfl)
      · refine own_at (fun t k => XS.ifNo X19.here hx rfl (hb hby at_97) rfl (Jvm.Free.XT.i0_eq_f hc97) k) ?_
        show own_Go p e below KK T19 (mkF m 100 #[.val (.int p1), .val (.int p2), .val (.int p3), .val (.int p4), .val (.int p5), .val (.int p6), .val (.ref b1), .val (.int ss), .val (.int ee), .unset, .unset] [])
        refine own_at (fun t k => XS.iconst X19.here hx rfl (hb hby at_100) k) ?_
        show own_Go p e below KK T19 (mkF m 101 #[.val (.int p1), .val (.int p2), .val (.int p3), .val (.int p4), .val (.int p5), .val (.int p6), .val (.ref b1), .val (.int ss), .val (.int ee), .unset, .unset] [(.int 3)])
        refine own_at (fun t k => XS.iload X19.here hx rfl (hb hby at_101) rfl k) ?_
        show own_Go p e below KK T19 (mkF m 103 #[.val (.int p1), .val (.int p2), .val (.int p3), .val (.int p4), .val (.int p5), .val (.int p6), .val (.ref b1), .val (.int ss), .val (.int ee), .unset, .unset] [(.int ss), (.int 3)])
        refine own_at (fun t k => XS.iload X19.here hx rfl (hb hby at_103) rfl k) ?_
        show own_Go p e below KK T19 (mkF m 105 #[.val (.int p1), .val (.int p2), .val (.int p3), .val (.int p4), .val (.int p5), .val (.int p6), .val (.ref b1), .val (.int ss), .val (.int ee), .unset, .unset] [(.int ee), (.int ss), (.int 3)])
        refine own_at (fun t k => XS.aload X19.here hx rfl (hb hby at_105) rfl rfl k) ?_
        show own_Go p e below KK T19 (mkF m 107 #[.val (.int p1), .val (.int p2), .val (.int p3), .val (.int p4), .val (.int p5), .val (.int p6), .val (.ref b1), .val (.int ss), .val (.int ee), .unset, .unset] [(.ref b1), (.int ee), (.int ss), (.int 3)])
        refine own_at (fun t k => XS.iconst X19.here hx rfl (hb hby at_107) k) ?_
        show own_Go p e below KK T19 (mkF m 108 #[.val (.int p1), .val (.int p2), .val (.int p3), .val (.int p4), .val (.int p5), .val (.int p6), .val (.ref b1), .val (.int ss), .val (.int ee), .unset, .unset] [(.int 3), (.ref b1), (.int ee), (.int ss), (.int 3)])
        refine own_at (fun t k => own_ldC X19 hx hZ e19 A14_b1 (j := (3 : Int32)) (i := 3) (v := (.int (own_F_method_2 p4))) (by decide) (by decide) rfl (g := (mkF m 108 #[.val (.int p1), .val (.int p2), .val (.int p3), .val (.int p4), .val (.int p5), .val (.int p6), .val (.ref b1), .val (.int ss), .val (.int ee), .unset, .unset] [(.int 3), (.ref b1), (.int ee), (.int ss), (.int 3)])) rfl rfl (hb hby at_108) t k) ?_
        show own_Go p e below KK T19 (mkF m 109 #[.val (.int p1), .val (.int p2), .val (.int p3), .val (.int p4), .val (.int p5), .val (.int p6), .val (.ref b1), .val (.int ss), .val (.int ee), .unset, .unset] [(.int (own_F_method_2 p4)), (.int ee), (.int ss), (.int 3)])
        obtain ⟨_, _, ⟨T21, L21, k21, n21⟩, -, X21, ⟨Lc21, hQ21, l21, y21, z21⟩, st21⟩ := Jvm.LawKit.callS X19 hx (y := (⟨"com/example/inscribe/inscribe/core/XmlWhiteSpaceIsWhiteSpace194PinLaw", "okAt", "(IIIC)Z"⟩ : MethodName)) hown (mvT hZ (hw _ (List.mem_of_getElem? (i := 6) rfl))) (mvT hZ (hw _ (List.mem_of_getElem? (i := 7) rfl))) (mvT hZ (hw _ (List.mem_of_getElem? (i := 3) rfl))) (mvT hZ (hw _ (List.mem_of_getElem? (i := 8) rfl))) (by decide) (backOf (W := 0) (rm_method_4 l Z a0 hw [] (3 : Int32) ss ee (own_F_method_2 p4)  h13 n0 Zs13 ) hZ (hw _ (List.mem_of_getElem? (i := 8) rfl)) (hw _ (List.mem_of_getElem? (i := 3) rfl)) (by decide) (by decide)) (g := (mkF m 109 #[.val (.int p1), .val (.int p2), .val (.int p3), .val (.int p4), .val (.int p5), .val (.int p6), .val (.ref b1), .val (.int ss), .val (.int ee), .unset, .unset] [(.int (own_F_method_2 p4)), (.int ee), (.int ss), (.int 3)])) rfl (by rw [hml]; rfl) (argsL := [(.int 3), (.int ss), (.int ee), (.int (own_F_method_2 p4))]) (rest := []) (lenOf pd__IIIC_Z rfl) rfl (by show 2 * 0 + _ ≤ _; exact Nat.le_of_eq rfl) (hb hby at_109) (fun _ _ => ⟨rfl, e19, (by decide : 1 + 0 ≤ _), (by decide : 4 + 0 ≤ _)⟩)
        dsimp only [Pt.U, Pt.locs, Pt.cells, Pt.slots] at X21 l21 y21 z21 st21 hQ21
        subst l21 y21 z21
        obtain ⟨rfl, N21q, e21⟩ := hQ21
        have N21 := Fr.app N19 N21q
        refine own_of (fun t k => st21 t k) ?_
        show own_Go p e below KK T21 (mkF m 112 #[.val (.int p1), .val (.int p2), .val (.int p3), .val (.int p4), .val (.int p5), .val (.int p6), .val (.ref b1), .val (.int ss), .val (.int ee), .unset, .unset] [(.int (own_F_method_4 (3 : Int32) ss ee (own_F_method_2 p4)))])
        by_cases hc112 : (own_F_method_4 (3 : Int32) ss ee (own_F_method_2 p4)) = (0 : Int32)
        · refine own_at (fun t k => XS.ifYes X21.here hx rfl (pc0 := 112) (pc' := 119) rfl (hb hby at_112) rfl (Jvm.Free.XT.i0_eq_t hc112) (by decide) (by decide) k) ?_
          show own_Go p e below KK T21 (mkF m 119 #[.val (.int p1), .val (.int p2), .val (.int p3), .val (.int p4), .val (.int p5), .val (.int p6), .val (.ref b1), .val (.int ss), .val (.int ee), .unset, .unset] [])
          refine own_at (fun t k => XS.iconst X21.here hx rfl (hb hby at_119) k) ?_
          show own_Go p e below KK T21 (mkF m 120 #[.val (.int p1), .val (.int p2), .val (.int p3), .val (.int p4), .val (.int p5), .val (.int p6), .val (.ref b1), .val (.int ss), .val (.int ee), .unset, .unset] [(.int 0)])
          refine own_at (fun t k => XS.istore X21.here hx rfl (hb hby at_120) rfl (l' := #[.val (.int p1), .val (.int p2), .val (.int p3), .val (.int p4), .val (.int p5), .val (.int p6), .val (.ref b1), .val (.int ss), .val (.int ee), .val (.int 0), .unset]) rfl k) ?_
          show own_Go p e below KK T21 (mkF m 122 #[.val (.int p1), .val (.int p2), .val (.int p3), .val (.int p4), .val (.int p5), .val (.int p6), .val (.ref b1), .val (.int ss), .val (.int ee), .val (.int 0), .unset] [])
          refine own_at (fun t k => XS.aload X21.here hx rfl (hb hby at_122) rfl rfl k) ?_
          show own_Go p e below KK T21 (mkF m 124 #[.val (.int p1), .val (.int p2), .val (.int p3), .val (.int p4), .val (.int p5), .val (.int p6), .val (.ref b1), .val (.int ss), .val (.int ee), .val (.int 0), .unset] [(.ref b1)])
          refine own_at (fun t k => XS.iload X21.here hx rfl (hb hby at_124) rfl k) ?_
          show own_Go p e below KK T21 (mkF m 126 #[.val (.int p1), .val (.int p2), .val (.int p3), .val (.int p4), .val (.int p5), .val (.int p6), .val (.ref b1), .val (.int ss), .val (.int ee), .val (.int 0), .unset] [(.int ss), (.ref b1)])
          refine own_at (fun t k => XS.iload X21.here hx rfl (hb hby at_126) rfl k) ?_
          show own_Go p e below KK T21 (mkF m 128 #[.val (.int p1), .val (.int p2), .val (.int p3), .val (.int p4), .val (.int p5), .val (.int p6), .val (.ref b1), .val (.int ss), .val (.int ee), .val (.int 0), .unset] [(.int ee), (.int ss), (.ref b1)])
          obtain ⟨_, _, ⟨T22, L22, k22, n22⟩, -, X22, ⟨Lc22, hQ22, l22, y22, z22⟩, st22⟩ := Jvm.LawKit.callS X21 hx (y := (⟨"com/example/inscribe/inscribe/core/XmlWhiteSpace", "isWhiteSpace", "([CII)Z"⟩ : MethodName)) hown (mvT hZ (hw _ (List.mem_of_getElem? (i := 12) rfl))) (mvT hZ (hw _ (List.mem_of_getElem? (i := 13) rfl))) (mvT hZ (hw _ (List.mem_of_getElem? (i := 14) rfl))) (mvT hZ (hw _ (List.mem_of_getElem? (i := 15) rfl))) (by decide) (backOf (W := 0) (rm_isw l Z a0 hw [] b1 ss ee (own_F_method_2 p1) (own_F_method_2 p2) (own_F_method_2 p3) (own_F_method_2 p4) h13 n0 Zs13 A14_b1 (own_e4 hee) (own_s5 hss)) hZ (hw _ (List.mem_of_getElem? (i := 15) rfl)) (hw _ (List.mem_of_getElem? (i := 14) rfl)) (by decide) (by decide)) (g := (mkF m 128 #[.val (.int p1), .val (.int p2), .val (.int p3), .val (.int p4), .val (.int p5), .val (.int p6), .val (.ref b1), .val (.int ss), .val (.int ee), .val (.int 0), .unset] [(.int ee), (.int ss), (.ref b1)])) rfl (by rw [hml]; rfl) (argsL := [(.ref b1), (.int ss), (.int ee)]) (rest := []) (lenOf pd___CII_Z rfl) rfl (by show 2 * 0 + _ ≤ _; exact Nat.le_of_eq rfl) (hb hby at_128) (fun _ _ => ⟨rfl, e21, (by decide : 1 + 0 ≤ _), (by decide : 4 + 0 ≤ _)⟩)
          dsimp only [Pt.U, Pt.locs, Pt.cells, Pt.slots] at X22 l22 y22 z22 st22 hQ22
          subst l22 y22 z22
          obtain ⟨rfl, N22q, e22⟩ := hQ22
          have N22 := Fr.app N21 N22q
          refine own_of (fun t k => st22 t k) ?_
          show own_Go p e below KK T22 (mkF m 131 #[.val (.int p1), .val (.int p2), .val (.int p3), .val (.int p4), .val (.int p5), .val (.int p6), .val (.ref b1), .val (.int ss), .val (.int ee), .val (.int 0), .unset] [(.int (own_G ss ee (own_F_method_2 p1) (own_F_method_2 p2) (own_F_method_2 p3) (own_F_method_2 p4)))])
          refine own_at (fun t k => XS.istore X22.here hx rfl (hb hby at_131) rfl (l' := #[.val (.int p1), .val (.int p2), .val (.int p3), .val (.int p4), .val (.int p5), .val (.int p6), .val (.ref b1), .val (.int ss), .val (.int ee), .val (.int 0), .val (.int (own_G ss ee (own_F_method_2 p1) (own_F_method_2 p2) (own_F_method_2 p3) (own_F_method_2 p4)))]) rfl k) ?_
          show own_Go p e below KK T22 (mkF m 133 #[.val (.int p1), .val (.int p2), .val (.int p3), .val (.int p4), .val (.int p5), .val (.int p6), .val (.ref b1), .val (.int ss), .val (.int ee), .val (.int 0), .val (.int (own_G ss ee (own_F_method_2 p1) (own_F_method_2 p2) (own_F_method_2 p3) (own_F_method_2 p4)))] [])
          refine own_at (fun t k => XS.iload X22.here hx rfl (hb hby at_133) rfl k) ?_
          show own_Go p e below KK T22 (mkF m 135 #[.val (.int p1), .val (.int p2), .val (.int p3), .val (.int p4), .val (.int p5), .val (.int p6), .val (.ref b1), .val (.int ss), .val (.int ee), .val (.int 0), .val (.int (own_G ss ee (own_F_method_2 p1) (own_F_method_2 p2) (own_F_method_2 p3) (own_F_method_2 p4)))] [(.int (own_G ss ee (own_F_method_2 p1) (own_F_method_2 p2) (own_F_method_2 p3) (own_F_method_2 p4)))])
          refine own_at (fun t k => XS.iload X22.here hx rfl (hb hby at_135) rfl k) ?_
          show own_Go p e below KK T22 (mkF m 137 #[.val (.int p1), .val (.int p2), .val (.int p3), .val (.int p4), .val (.int p5), .val (.int p6), .val (.ref b1), .val (.int ss), .val (.int ee), .val (.int 0), .val (.int (own_G ss ee (own_F_method_2 p1) (own_F_method_2 p2) (own_F_method_2 p3) (own_F_method_2 p4)))] [(.int 0), (.int (own_G ss ee (own_F_method_2 p1) (own_F_method_2 p2) (own_F_method_2 p3) (own_F_method_2 p4)))])
          have hc137 : (own_G ss ee (own_F_method_2 p1) (own_F_method_2 p2) (own_F_method_2 p3) (own_F_method_2 p4)) = (0 : Int32) := (own_all _ _ _ _ (own_mod hss) (own_mod hee)).trans (by rw [if_neg hc67, if_neg hc82, if_neg hc97, if_pos hc112])
          refine own_at (fun t k => XS.icmpNo X22.here hx rfl (hb hby at_137) rfl (Jvm.Free.XT.ii_ne_f hc137) k) ?_
          show own_Go p e below KK T22 (mkF m 140 #[.val (.int p1), .val (.int p2), .val (.int p3), .val (.int p4), .val (.int p5), .val (.int p6), .val (.ref b1), .val (.int ss), .val (.int ee), .val (.int 0), .val (.int (own_G ss ee (own_F_method_2 p1) (own_F_method_2 p2) (own_F_method_2 p3) (own_F_method_2 p4)))] [])
          refine own_at (fun t k => XS.iconst X22.here hx rfl (hb hby at_140) k) ?_
          show own_Go p e below KK T22 (mkF m 141 #[.val (.int p1), .val (.int p2), .val (.int p3), .val (.int p4), .val (.int p5), .val (.int p6), .val (.ref b1), .val (.int ss), .val (.int ee), .val (.int 0), .val (.int (own_G ss ee (own_F_method_2 p1) (own_F_method_2 p2) (own_F_method_2 p3) (own_F_method_2 p4)))] [(.int 1)])
          refine own_at (fun t k => XS.goto X22.here hx rfl (pc0 := 141) (pc' := 145) rfl (hb hby at_141) (by decide) (by decide) k) ?_
          show own_Go p e below KK T22 (mkF m 145 #[.val (.int p1), .val (.int p2), .val (.int p3), .val (.int p4), .val (.int p5), .val (.int p6), .val (.ref b1), .val (.int ss), .val (.int ee), .val (.int 0), .val (.int (own_G ss ee (own_F_method_2 p1) (own_F_method_2 p2) (own_F_method_2 p3) (own_F_method_2 p4)))] [(.int 1)])
          subst hKK
          exact own_retN X22 hx hlk (t := .boolean) Bd.returns (by simp) (hb hby at_145) (w := (1 : Int32)) (show nar .boolean (1 : Int32) = 1 from by decide) ⟨rfl, N22⟩ (Nat.le_of_ble_eq_true rfl) (Nat.le_of_ble_eq_true rfl)
        · refine own_at (fun t k => XS.ifNo X21.here hx rfl (hb hby at_112) rfl (Jvm.Free.XT.i0_eq_f hc112) k) ?_
          show own_Go p e below KK T21 (mkF m 115 #[.val (.int p1), .val (.int p2), .val (.int p3), .val (.int p4), .val (.int p5), .val (.int p6), .val (.ref b1), .val (.int ss), .val (.int ee), .unset, .unset] [])
          refine own_at (fun t k => XS.iconst X21.here hx rfl (hb hby at_115) k) ?_
          show own_Go p e below KK T21 (mkF m 116 #[.val (.int p1), .val (.int p2), .val (.int p3), .val (.int p4), .val (.int p5), .val (.int p6), .val (.ref b1), .val (.int ss), .val (.int ee), .unset, .unset] [(.int 1)])
          refine own_at (fun t k => XS.goto X21.here hx rfl (pc0 := 116) (pc' := 120) rfl (hb hby at_116) (by decide) (by decide) k) ?_
          show own_Go p e below KK T21 (mkF m 120 #[.val (.int p1), .val (.int p2), .val (.int p3), .val (.int p4), .val (.int p5), .val (.int p6), .val (.ref b1), .val (.int ss), .val (.int ee), .unset, .unset] [(.int 1)])
          refine own_at (fun t k => XS.istore X21.here hx rfl (hb hby at_120) rfl (l' := #[.val (.int p1), .val (.int p2), .val (.int p3), .val (.int p4), .val (.int p5), .val (.int p6), .val (.ref b1), .val (.int ss), .val (.int ee), .val (.int 1), .unset]) rfl k) ?_
          show own_Go p e below KK T21 (mkF m 122 #[.val (.int p1), .val (.int p2), .val (.int p3), .val (.int p4), .val (.int p5), .val (.int p6), .val (.ref b1), .val (.int ss), .val (.int ee), .val (.int 1), .unset] [])
          refine own_at (fun t k => XS.aload X21.here hx rfl (hb hby at_122) rfl rfl k) ?_
          show own_Go p e below KK T21 (mkF m 124 #[.val (.int p1), .val (.int p2), .val (.int p3), .val (.int p4), .val (.int p5), .val (.int p6), .val (.ref b1), .val (.int ss), .val (.int ee), .val (.int 1), .unset] [(.ref b1)])
          refine own_at (fun t k => XS.iload X21.here hx rfl (hb hby at_124) rfl k) ?_
          show own_Go p e below KK T21 (mkF m 126 #[.val (.int p1), .val (.int p2), .val (.int p3), .val (.int p4), .val (.int p5), .val (.int p6), .val (.ref b1), .val (.int ss), .val (.int ee), .val (.int 1), .unset] [(.int ss), (.ref b1)])
          refine own_at (fun t k => XS.iload X21.here hx rfl (hb hby at_126) rfl k) ?_
          show own_Go p e below KK T21 (mkF m 128 #[.val (.int p1), .val (.int p2), .val (.int p3), .val (.int p4), .val (.int p5), .val (.int p6), .val (.ref b1), .val (.int ss), .val (.int ee), .val (.int 1), .unset] [(.int ee), (.int ss), (.ref b1)])
          obtain ⟨_, _, ⟨T23, L23, k23, n23⟩, -, X23, ⟨Lc23, hQ23, l23, y23, z23⟩, st23⟩ := Jvm.LawKit.callS X21 hx (y := (⟨"com/example/inscribe/inscribe/core/XmlWhiteSpace", "isWhiteSpace", "([CII)Z"⟩ : MethodName)) hown (mvT hZ (hw _ (List.mem_of_getElem? (i := 12) rfl))) (mvT hZ (hw _ (List.mem_of_getElem? (i := 13) rfl))) (mvT hZ (hw _ (List.mem_of_getElem? (i := 14) rfl))) (mvT hZ (hw _ (List.mem_of_getElem? (i := 15) rfl))) (by decide) (backOf (W := 0) (rm_isw l Z a0 hw [] b1 ss ee (own_F_method_2 p1) (own_F_method_2 p2) (own_F_method_2 p3) (own_F_method_2 p4) h13 n0 Zs13 A14_b1 (own_e4 hee) (own_s5 hss)) hZ (hw _ (List.mem_of_getElem? (i := 15) rfl)) (hw _ (List.mem_of_getElem? (i := 14) rfl)) (by decide) (by decide)) (g := (mkF m 128 #[.val (.int p1), .val (.int p2), .val (.int p3), .val (.int p4), .val (.int p5), .val (.int p6), .val (.ref b1), .val (.int ss), .val (.int ee), .val (.int 1), .unset] [(.int ee), (.int ss), (.ref b1)])) rfl (by rw [hml]; rfl) (argsL := [(.ref b1), (.int ss), (.int ee)]) (rest := []) (lenOf pd___CII_Z rfl) rfl (by show 2 * 0 + _ ≤ _; exact Nat.le_of_eq rfl) (hb hby at_128) (fun _ _ => ⟨rfl, e21, (by decide : 1 + 0 ≤ _), (by decide : 4 + 0 ≤ _)⟩)
          dsimp only [Pt.U, Pt.locs, Pt.cells, Pt.slots] at X23 l23 y23 z23 st23 hQ23
          subst l23 y23 z23
          obtain ⟨rfl, N23q, e23⟩ := hQ23
          have N23 := Fr.app N21 N23q
          refine own_of (fun t k => st23 t k) ?_
          show own_Go p e below KK T23 (mkF m 131 #[.val (.int p1), .val (.int p2), .val (.int p3), .val (.int p4), .val (.int p5), .val (.int p6), .val (.ref b1), .val (.int ss), .val (.int ee), .val (.int 1), .unset] [(.int (own_G ss ee (own_F_method_2 p1) (own_F_method_2 p2) (own_F_method_2 p3) (own_F_method_2 p4)))])
          refine own_at (fun t k => XS.istore X23.here hx rfl (hb hby at_131) rfl (l' := #[.val (.int p1), .val (.int p2), .val (.int p3), .val (.int p4), .val (.int p5), .val (.int p6), .val (.ref b1), .val (.int ss), .val (.int ee), .val (.int 1), .val (.int (own_G ss ee (own_F_method_2 p1) (own_F_method_2 p2) (own_F_method_2 p3) (own_F_method_2 p4)))]) rfl k) ?_
          show own_Go p e below KK T23 (mkF m 133 #[.val (.int p1), .val (.int p2), .val (.int p3), .val (.int p4), .val (.int p5), .val (.int p6), .val (.ref b1), .val (.int ss), .val (.int ee), .val (.int 1), .val (.int (own_G ss ee (own_F_method_2 p1) (own_F_method_2 p2) (own_F_method_2 p3) (own_F_method_2 p4)))] [])
          refine own_at (fun t k => XS.iload X23.here hx rfl (hb hby at_133) rfl k) ?_
          show own_Go p e below KK T23 (mkF m 135 #[.val (.int p1), .val (.int p2), .val (.int p3), .val (.int p4), .val (.int p5), .val (.int p6), .val (.ref b1), .val (.int ss), .val (.int ee), .val (.int 1), .val (.int (own_G ss ee (own_F_method_2 p1) (own_F_method_2 p2) (own_F_method_2 p3) (own_F_method_2 p4)))] [(.int (own_G ss ee (own_F_method_2 p1) (own_F_method_2 p2) (own_F_method_2 p3) (own_F_method_2 p4)))])
          refine own_at (fun t k => XS.iload X23.here hx rfl (hb hby at_135) rfl k) ?_
          show own_Go p e below KK T23 (mkF m 137 #[.val (.int p1), .val (.int p2), .val (.int p3), .val (.int p4), .val (.int p5), .val (.int p6), .val (.ref b1), .val (.int ss), .val (.int ee), .val (.int 1), .val (.int (own_G ss ee (own_F_method_2 p1) (own_F_method_2 p2) (own_F_method_2 p3) (own_F_method_2 p4)))] [(.int 1), (.int (own_G ss ee (own_F_method_2 p1) (own_F_method_2 p2) (own_F_method_2 p3) (own_F_method_2 p4)))])
          have hc137 : (own_G ss ee (own_F_method_2 p1) (own_F_method_2 p2) (own_F_method_2 p3) (own_F_method_2 p4)) = (1 : Int32) := (own_all _ _ _ _ (own_mod hss) (own_mod hee)).trans (by rw [if_neg hc67, if_neg hc82, if_neg hc97, if_neg hc112])
          refine own_at (fun t k => XS.icmpNo X23.here hx rfl (hb hby at_137) rfl (Jvm.Free.XT.ii_ne_f hc137) k) ?_
          show own_Go p e below KK T23 (mkF m 140 #[.val (.int p1), .val (.int p2), .val (.int p3), .val (.int p4), .val (.int p5), .val (.int p6), .val (.ref b1), .val (.int ss), .val (.int ee), .val (.int 1), .val (.int (own_G ss ee (own_F_method_2 p1) (own_F_method_2 p2) (own_F_method_2 p3) (own_F_method_2 p4)))] [])
          refine own_at (fun t k => XS.iconst X23.here hx rfl (hb hby at_140) k) ?_
          show own_Go p e below KK T23 (mkF m 141 #[.val (.int p1), .val (.int p2), .val (.int p3), .val (.int p4), .val (.int p5), .val (.int p6), .val (.ref b1), .val (.int ss), .val (.int ee), .val (.int 1), .val (.int (own_G ss ee (own_F_method_2 p1) (own_F_method_2 p2) (own_F_method_2 p3) (own_F_method_2 p4)))] [(.int 1)])
          refine own_at (fun t k => XS.goto X23.here hx rfl (pc0 := 141) (pc' := 145) rfl (hb hby at_141) (by decide) (by decide) k) ?_
          show own_Go p e below KK T23 (mkF m 145 #[.val (.int p1), .val (.int p2), .val (.int p3), .val (.int p4), .val (.int p5), .val (.int p6), .val (.ref b1), .val (.int ss), .val (.int ee), .val (.int 1), .val (.int (own_G ss ee (own_F_method_2 p1) (own_F_method_2 p2) (own_F_method_2 p3) (own_F_method_2 p4)))] [(.int 1)])
          subst hKK
          exact own_retN X23 hx hlk (t := .boolean) Bd.returns (by simp) (hb hby at_145) (w := (1 : Int32)) (show nar .boolean (1 : Int32) = 1 from by decide) ⟨rfl, N23⟩ (Nat.le_of_ble_eq_true rfl) (Nat.le_of_ble_eq_true rfl)
set_option maxRecDepth 65536 in
set_option maxHeartbeats 40000000 in
theorem comes_1 {Post : Tables → Env → Array Value → State → Outcome → State → Prop} (hpost : ∀ tb e args s v u, (limb_1_1.after args s (.returned v) u = true ∧ limb_1_2.after args s (.returned v) u = true ∧ True) → FrameEnd s (.returned v) u (Jvm.fieldLocs frame_1_writes args s ++ Jvm.arrayLocs frame_1_arrays args s ++ Jvm.staticLocs frame_1_statics s) 16 128 → Post tb e args s (.returned v) u) :
    ArmFor flags0 classFile x code maxLocals ret World_1 tables_1 room_1 Calls_1 rest_1 Pre_1 Post := by
  intro l hfl _ _ p e ha hc hk s m args below hf hA hF happ hP
  obtain ⟨hcalls, hrest, hpre⟩ := hP
  obtain ⟨-, -, -, hnamed, -, -, -, hat⟩ := (Spec.applies_iff hf).mp happ
  obtain ⟨hg, hn⟩ := and_e (Cond.before_iff.mp (show (Jvm.Cond.and given_1 narrow_1).before args s = true from hpre))
  obtain ⟨gc, g0⟩ := and_e hg
  obtain ⟨u0, g1⟩ := and_e g0
  obtain ⟨u1, g2⟩ := and_e g1
  obtain ⟨u2, g3⟩ := and_e g2
  obtain ⟨u3, g4⟩ := and_e g3
  obtain ⟨u4, g5⟩ := and_e g4
  obtain ⟨w0, w1, w2, w3, w4, w5, rfl⟩ : ∃ w0 w1 w2 w3 w4 w5 : Value, args = #[w0, w1, w2, w3, w4, w5] := by
    have hs : args.size = 6 := by simpa [Cond.value, given_1] using gc
    obtain ⟨L⟩ := args
    match L, hs with
    | [w0, w1, w2, w3, w4, w5], _ => exact ⟨w0, w1, w2, w3, w4, w5, rfl⟩
  have hw := fun d (hd : d ∈ tables_1) => atoms_spec (ws := Jvm.Cond.code x code maxLocals ret :: tables_1) hat d (List.mem_cons_of_mem _ hd)
  obtain ⟨i0, ei0⟩ := is_v u0
  obtain rfl : w0 = (.int i0) := Option.some.inj ei0
  obtain ⟨i1, ei1⟩ := is_v u1
  obtain rfl : w1 = (.int i1) := Option.some.inj ei1
  obtain ⟨i2, ei2⟩ := is_v u2
  obtain rfl : w2 = (.int i2) := Option.some.inj ei2
  obtain ⟨i3, ei3⟩ := is_v u3
  obtain rfl : w3 = (.int i3) := Option.some.inj ei3
  obtain ⟨i4, ei4⟩ := is_v u4
  obtain rfl : w4 = (.int i4) := Option.some.inj ei4
  obtain ⟨i5, ei5⟩ := is_v g5
  obtain rfl : w5 = (.int i5) := Option.some.inj ei5
  obtain ⟨n, o, h1, h2, h3, _, L, rfl, ⟨rfl, N⟩, hq⟩ := rm_law l s _ hw tables_1 i0 i1 i2 i3 i4 i5 s.heap s.heap.size (Nat.le_refl _) p e ha hc hk s m _ below hf ((Spec.applies_iff_loose hf).mp happ).1 ⟨rfl, State.Warmed39.refl s, rfl⟩ trivial
  refine ⟨n, _, h1, h2, h3, hpost _ _ _ _ _ _ ⟨Cond.after_iff.mpr rfl, Cond.after_iff.mpr (eq_i res_at (Term.int_eval (1)) rfl), trivial⟩ ⟨hq.1, hq.2.1, (hq.2.2.sift fun y hy => Or.inr (N y hy)).mono (by decide) (by decide)⟩⟩
theorem main_1_1 : Claimed_1_1 := comes_1 fun _ _ _ _ _ _ h hF => ⟨h.1, hF⟩
theorem main_1_2 : Claimed_1_2 := comes_1 fun _ _ _ _ _ _ h hF => ⟨h.2.1, hF⟩
end Jvm.Pilot.@@N@@
namespace Jvm.Pilot.@@N@@
open Jvm Jvm.ClassFile Sem Op Lib Jvm.Free Jvm.Stand Jvm.Pilot.@@N@@.Jvm.D
/-! MADE BY PROGRAM (witnessworld.py) out of the Statement's table words and the real class files: 11 classes; the members and pool entries that the words name. The judged class is class 1, her method 4. -/
namespace start1
open Jvm.ClassFile
def u (s : String) : CpInfo := .utf8 (stringToUtf16 s)
/-- a pool by its gaps: so many unusable entries, then the entry; so many at the end -/
def gap : Nat → List CpInfo → List CpInfo
  | 0, r => r
  | n + 1, r => .unusable :: gap n r
def poolList (es : List (Nat × CpInfo)) (last : Nat) : List CpInfo := es.foldr (fun e r => gap e.1 (e.2 :: r)) (gap last [])
def pool (es : List (Nat × CpInfo)) (last : Nat) : Array CpInfo := ⟨poolList es last⟩
def fileOf (pool : Array CpInfo) (this : Nat) (attrs : Array Attribute := #[]) (ms : Array MethodInfo := #[]) (fl : Nat := 33) (sup : Nat := 0) (ifs : Array Nat := #[]) (fds : Array FieldInfo := #[]) : ClassFile where
  minorVersion := 0
  majorVersion := 65
  constantPool := pool
  accessFlags := fl
  thisClass := this
  superClass := sup
  interfaces := ifs
  fields := fds
  methods := ms
  attributes := attrs
def plain (name : String) (sup : Option ClassId) : Class where
  name := name
  kind := .ordinary
  loader := none
  accessFlags := 33
  super := sup
  interfaces := #[]
  cf := none
  fields := #[]
  methods := #[]
  instanceTypes := #[]
  staticTypes := #[]
  resolved := #[]
  callSites := []
  init := .initialized
  statics := none
  mirror := none

def pool0 : Array CpInfo := pool [(5, u "<init>"), (0, u "()V"), (1, .class_ 10), (1, u "java/lang/Object")] 113

def k0m0 : Method := { name := "<init>", desc := "()V", sig := { parameters := [], returnType := none }, accessFlags := 1, code := none }
/-- java/lang/Object -/
def k0 : Class := { plain "java/lang/Object" none with
  accessFlags := 33
  interfaces := #[]
  cf := some (fileOf pool0 8 #[] #[{ accessFlags := 1, nameIndex := 5, descriptorIndex := 6, attributes := #[] }] 33 0 #[] #[])
  fields := #[]
  methods := #[k0m0]
  instanceTypes := #[]
  staticTypes := #[]
  resolved := Array.replicate 124 none
  statics := none }

def pool1 : Array CpInfo := pool [(2, .class_ 4), (1, u "java/lang/Object"), (0, u "<init>"), (0, u "()V"), (0, .integer 65535), (0, .methodref 9 10), (0, .class_ 11), (0, .nameAndType 12 13), (0, u "com/example/inscribe/inscribe/core/XmlWhiteSpaceIsWhiteSpace194PinLaw"), (0, u "ws"), (0, u "(C)Z"), (0, .methodref 9 15), (0, .nameAndType 16 17), (0, u "draw"), (0, u "(I)C"), (0, .integer 2147483647), (0, .methodref 9 20), (0, .nameAndType 21 22), (0, u "okAt"), (0, u "(IIIC)Z"), (0, .methodref 24 25), (0, .class_ 26), (0, .nameAndType 27 28), (0, u "com/example/inscribe/inscribe/core/XmlWhiteSpace"), (0, u "isWhiteSpace"), (0, u "([CII)Z"), (3, u "law"), (0, u "(IIIIII)Z")] 4

def k1m0 : Method := { name := "<init>", desc := "()V", sig := { parameters := [], returnType := none }, accessFlags := 2, code := none }
def k1c1 : Code := { maxStack := 2, maxLocals := 2, code := method_2_code, exceptionTable := #[], attributes := #[] }
def k1m1 : Method := { name := "draw", desc := "(I)C", sig := { parameters := [.int], returnType := some .char }, accessFlags := 10, code := some k1c1 }
def k1c2 : Code := { maxStack := 2, maxLocals := 1, code := method_3_code, exceptionTable := #[], attributes := #[] }
def k1m2 : Method := { name := "ws", desc := "(C)Z", sig := { parameters := [.char], returnType := some .boolean }, accessFlags := 10, code := some k1c2 }
def k1c3 : Code := { maxStack := 2, maxLocals := 4, code := method_4_code, exceptionTable := #[], attributes := #[] }
def k1m3 : Method := { name := "okAt", desc := "(IIIC)Z", sig := { parameters := [.int, .int, .int, .char], returnType := some .boolean }, accessFlags := 10, code := some k1c3 }
def k1c4 : Code := { maxStack := 5, maxLocals := 11, code := code, exceptionTable := #[], attributes := #[] }
def k1m4 : Method := { name := "law", desc := "(IIIIII)Z", sig := { parameters := [.int, .int, .int, .int, .int, .int], returnType := some .boolean }, accessFlags := 9, code := some k1c4 }
/-- com/example/inscribe/inscribe/core/XmlWhiteSpaceIsWhiteSpace194PinLaw -/
def k1 : Class := { plain "com/example/inscribe/inscribe/core/XmlWhiteSpaceIsWhiteSpace194PinLaw" (some 0) with
  accessFlags := 49
  interfaces := #[]
  cf := some (fileOf pool1 9 #[] #[{ accessFlags := 2, nameIndex := 5, descriptorIndex := 6, attributes := #[] }, { accessFlags := 10, nameIndex := 16, descriptorIndex := 17, attributes := #[] }, { accessFlags := 10, nameIndex := 12, descriptorIndex := 13, attributes := #[] }, { accessFlags := 10, nameIndex := 21, descriptorIndex := 22, attributes := #[] }, { accessFlags := 9, nameIndex := 32, descriptorIndex := 33, attributes := #[] }] 49 2 #[] #[])
  fields := #[]
  methods := #[k1m0, k1m1, k1m2, k1m3, k1m4]
  instanceTypes := #[]
  staticTypes := #[]
  resolved := Array.replicate 38 none
  statics := none }

def pool2 : Array CpInfo := pool [(2, .class_ 4), (1, u "java/lang/Object"), (0, u "<init>"), (0, u "()V"), (0, .methodref 8 9), (0, .class_ 10), (0, .nameAndType 11 12), (0, u "com/example/inscribe/inscribe/core/XmlWhiteSpace"), (0, u "isLineBreak"), (0, u "(C)Z"), (10, .methodref 8 24), (0, .nameAndType 25 12), (0, u "isWhiteSpace"), (46, u "([CII)Z")] 9

def k2m0 : Method := { name := "<init>", desc := "()V", sig := { parameters := [], returnType := none }, accessFlags := 2, code := none }
def k2c1 : Code := { maxStack := 2, maxLocals := 1, code := prog_39_method_2_code, exceptionTable := #[], attributes := #[] }
def k2m1 : Method := { name := "isWhiteSpace", desc := "(C)Z", sig := { parameters := [.char], returnType := some .boolean }, accessFlags := 9, code := some k2c1 }
def k2c2 : Code := { maxStack := 2, maxLocals := 4, code := prog_39_method_4_code, exceptionTable := #[], attributes := #[] }
def k2m2 : Method := { name := "isWhiteSpace", desc := "([CII)Z", sig := { parameters := [(.array .char), .int, .int], returnType := some .boolean }, accessFlags := 9, code := some k2c2 }
def k2c3 : Code := { maxStack := 2, maxLocals := 1, code := prog_39_method_9_code, exceptionTable := #[], attributes := #[] }
def k2m3 : Method := { name := "isLineBreak", desc := "(C)Z", sig := { parameters := [.char], returnType := some .boolean }, accessFlags := 10, code := some k2c3 }
/-- com/example/inscribe/inscribe/core/XmlWhiteSpace -/
def k2 : Class := { plain "com/example/inscribe/inscribe/core/XmlWhiteSpace" (some 0) with
  accessFlags := 49
  interfaces := #[]
  cf := some (fileOf pool2 8 #[] #[{ accessFlags := 2, nameIndex := 5, descriptorIndex := 6, attributes := #[] }, { accessFlags := 9, nameIndex := 25, descriptorIndex := 12, attributes := #[] }, { accessFlags := 9, nameIndex := 25, descriptorIndex := 72, attributes := #[] }, { accessFlags := 10, nameIndex := 11, descriptorIndex := 12, attributes := #[] }] 49 2 #[] #[])
  fields := #[]
  methods := #[k2m0, k2m1, k2m2, k2m3]
  instanceTypes := #[]
  staticTypes := #[]
  resolved := Array.replicate 82 none
  statics := none }

def pool3 : Array CpInfo := pool [(1, u "java/lang/Cloneable"), (0, .class_ 1), (0, u "java/lang/Object"), (0, .class_ 3)] 3

/-- java/lang/Cloneable -/
def k3 : Class := { plain "java/lang/Cloneable" (some 0) with
  accessFlags := 1537
  interfaces := #[]
  cf := some (fileOf pool3 2 #[] #[] 1537 4 #[] #[])
  fields := #[]
  methods := #[]
  instanceTypes := #[]
  staticTypes := #[]
  resolved := Array.replicate 8 none
  statics := none }

def pool4 : Array CpInfo := pool [(1, u "java/io/Serializable"), (0, .class_ 1), (0, u "java/lang/Object"), (0, .class_ 3)] 3

/-- java/io/Serializable -/
def k4 : Class := { plain "java/io/Serializable" (some 0) with
  accessFlags := 1537
  interfaces := #[]
  cf := some (fileOf pool4 2 #[] #[] 1537 4 #[] #[])
  fields := #[]
  methods := #[]
  instanceTypes := #[]
  staticTypes := #[]
  resolved := Array.replicate 8 none
  statics := none }

/-- the primitive byte -/
def k5 : Class := { plain "byte" none with kind := .primitive 'B', accessFlags := 0x411 }
/-- [B -/
def k6 : Class := { plain "[B" (some 0) with kind := .array 5 .byte, interfaces := #[3, 4], accessFlags := 1041 }

/-- the primitive char -/
def k7 : Class := { plain "char" none with kind := .primitive 'C', accessFlags := 0x411 }
/-- [C -/
def k8 : Class := { plain "[C" (some 0) with kind := .array 7 .char, interfaces := #[3, 4], accessFlags := 1041 }

/-- the primitive int -/
def k9 : Class := { plain "int" none with kind := .primitive 'I', accessFlags := 0x411 }
/-- [I -/
def k10 : Class := { plain "[I" (some 0) with kind := .array 9 .int, interfaces := #[3, 4], accessFlags := 1041 }

def heap : Heap := #[]
def classes : Array Class := #[k0, k1, k2, k3, k4, k5, k6, k7, k8, k9, k10]
def interned : List (Array UInt16 × Addr) := []
def slotsUsed : Nat := 0
def theMethod : MethodId := ⟨1, 4⟩
def args0 : Array Value := #[.int 5, .int 1, .int 2, .int 3, .int 4, .int 6]
def aboutOver (below : List Frame) : State where
  vm := { classes := classes, interned := interned.toArray }
  heap := heap
  slotsUsed := slotsUsed
  threads := #[{ frames := .invoking theMethod args0 :: below }]
def below0 : List Frame := [.native { method := ⟨0, 0⟩, args := #[] }]
def about1 : State := aboutOver below0
def p0 : Program := .bare "" "" ""
def e0 : Env := launch0.env 0 0 0
theorem w_frames : about1.frames = Frame.invoking theMethod args0 :: below0 := rfl
set_option maxRecDepth 65536 in
theorem w_args : argsFit about1.vm theMethod args0 = true := by decide +kernel
set_option maxRecDepth 65536 in
theorem w_heap : heapFits about1 = true := by decide +kernel
set_option maxRecDepth 65536 in
theorem w_runnable : about1.curStatus? = some .runnable := by decide +kernel
set_option maxRecDepth 65536 in
theorem w_alone : about1.alone = true := by decide +kernel
set_option maxRecDepth 65536 in
theorem w_named : about1.methodNamed? x = some theMethod := by decide +kernel
set_option maxRecDepth 65536 in
theorem w_hears : about1.hears theMethod below0 = true := by decide +kernel
set_option maxRecDepth 65536 in
theorem w_ripe : about1.ripe theMethod args0 below0 = true := by decide +kernel
theorem w_running : about1.status = .running := rfl
set_option maxRecDepth 65536 in
theorem w_room : about1.hasRoom e0.platform room_1 = true :=
  launch0.hasRoom_least _ room_1 (by decide +kernel) (by decide +kernel) (by decide +kernel) (by decide +kernel) (by decide +kernel) (by decide +kernel)
theorem allAtoms_all (ts : List Jvm.Cond) (a : Array Jvm.Value) (st : Jvm.State) : (allAtoms ts).before a st = ts.all (fun c => c.before a st) := by
  induction ts with
  | nil => rfl
  | cons c t ih =>
    show (Jvm.Cond.and c (allAtoms t)).before a st = _
    rw [Jvm.Cond.before_and, ih, List.all_cons]
def words1 : List Jvm.Cond := Jvm.Cond.code x code maxLocals ret :: tables_1
/-- a 'code' word, met by the world's own term for the bytes: nothing is compared byte by byte -/
theorem code_word {y : MethodName} {bytes : ByteArray} {mx : Nat} {rt : Option FieldType} {a : Array Value} {s : State} {m : MethodId} {meth : Method} {c : Code} (h1 : s.methodNamed? y = some m) (h2 : s.vm.method? m = some meth) (h3 : meth.code = some c) (h4 : c.code = bytes)
    (h5 : (c.maxLocals == mx && c.exceptionTable.isEmpty && decide (c.maxStack ≤ mostOperands) && decide (meth.sig.returnType = rt) && !meth.locks && decide (parseMethodDescriptor y.desc = some meth.sig)) = true) : (Jvm.Cond.code y bytes mx rt).before a s = true := by
  simp only [Bool.and_eq_true, beq_iff_eq, Bool.not_eq_true', decide_eq_true_eq] at h5
  obtain ⟨⟨⟨⟨⟨g1, g2⟩, g3⟩, g4⟩, g5⟩, g6⟩ := h5
  simp [Cond.before, Cond.holds, Cond.value, h1, h2, h3, h4, g1, g2, g3, g4, g5, g6]
def isCode : Jvm.Cond → Bool
  | .code _ _ _ _ => true
  | _ => false
theorem all_split {L : List Jvm.Cond} {P : Jvm.Cond → Bool} (h1 : L.all (fun c => isCode c || P c) = true) (h2 : ∀ c ∈ L.filter isCode, P c = true) : L.all P = true := by
  refine List.all_eq_true.mpr fun c hc => ?_
  have h := List.all_eq_true.mp h1 c hc
  rcases Bool.eq_false_or_eq_true (isCode c) with hi | hi
  · exact h2 c (List.mem_filter.mpr ⟨hc, hi⟩)
  · simpa [hi] using h
set_option maxRecDepth 65536 in
theorem w_c0 : (Jvm.Cond.code x code maxLocals ret).before args0 about1 = true := code_word (m := ⟨1, 4⟩) (meth := k1m4) (c := k1c4) (by decide +kernel) rfl rfl rfl (by decide +kernel)
set_option maxRecDepth 65536 in
theorem w_c1 : (Jvm.Cond.code ({ cls := "com/example/inscribe/inscribe/core/XmlWhiteSpaceIsWhiteSpace194PinLaw", name := "draw", desc := "(I)C" } : Jvm.MethodName) method_2_code (2 : Nat) (Option.some Jvm.ClassFile.FieldType.char)).before args0 about1 = true := code_word (m := ⟨1, 1⟩) (meth := k1m1) (c := k1c1) (by decide +kernel) rfl rfl rfl (by decide +kernel)
set_option maxRecDepth 65536 in
theorem w_c2 : (Jvm.Cond.code ({ cls := "com/example/inscribe/inscribe/core/XmlWhiteSpaceIsWhiteSpace194PinLaw", name := "okAt", desc := "(IIIC)Z" } : Jvm.MethodName) method_4_code (4 : Nat) (Option.some Jvm.ClassFile.FieldType.boolean)).before args0 about1 = true := code_word (m := ⟨1, 3⟩) (meth := k1m3) (c := k1c3) (by decide +kernel) rfl rfl rfl (by decide +kernel)
set_option maxRecDepth 65536 in
theorem w_c3 : (Jvm.Cond.code ({ cls := "com/example/inscribe/inscribe/core/XmlWhiteSpaceIsWhiteSpace194PinLaw", name := "ws", desc := "(C)Z" } : Jvm.MethodName) method_3_code (1 : Nat) (Option.some Jvm.ClassFile.FieldType.boolean)).before args0 about1 = true := code_word (m := ⟨1, 2⟩) (meth := k1m2) (c := k1c2) (by decide +kernel) rfl rfl rfl (by decide +kernel)
set_option maxRecDepth 65536 in
theorem w_c4 : (Jvm.Cond.code ({ cls := "com/example/inscribe/inscribe/core/XmlWhiteSpace", name := "isWhiteSpace", desc := "([CII)Z" } : Jvm.MethodName) prog_39_method_4_code (4 : Nat) (Option.some Jvm.ClassFile.FieldType.boolean)).before args0 about1 = true := code_word (m := ⟨2, 2⟩) (meth := k2m2) (c := k2c2) (by decide +kernel) rfl rfl rfl (by decide +kernel)
set_option maxRecDepth 65536 in
theorem w_c5 : (Jvm.Cond.code ({ cls := "com/example/inscribe/inscribe/core/XmlWhiteSpace", name := "isWhiteSpace", desc := "(C)Z" } : Jvm.MethodName) prog_39_method_2_code (1 : Nat) (Option.some Jvm.ClassFile.FieldType.boolean)).before args0 about1 = true := code_word (m := ⟨2, 1⟩) (meth := k2m1) (c := k2c1) (by decide +kernel) rfl rfl rfl (by decide +kernel)
set_option maxRecDepth 65536 in
theorem w_c6 : (Jvm.Cond.code ({ cls := "com/example/inscribe/inscribe/core/XmlWhiteSpace", name := "isLineBreak", desc := "(C)Z" } : Jvm.MethodName) prog_39_method_9_code (1 : Nat) (Option.some Jvm.ClassFile.FieldType.boolean)).before args0 about1 = true := code_word (m := ⟨2, 3⟩) (meth := k2m3) (c := k2c3) (by decide +kernel) rfl rfl rfl (by decide +kernel)
def codes1 : List Jvm.Cond := [Jvm.Cond.code x code maxLocals ret, Jvm.Cond.code ({ cls := "com/example/inscribe/inscribe/core/XmlWhiteSpaceIsWhiteSpace194PinLaw", name := "draw", desc := "(I)C" } : Jvm.MethodName) method_2_code (2 : Nat) (Option.some Jvm.ClassFile.FieldType.char), Jvm.Cond.code ({ cls := "com/example/inscribe/inscribe/core/XmlWhiteSpaceIsWhiteSpace194PinLaw", name := "okAt", desc := "(IIIC)Z" } : Jvm.MethodName) method_4_code (4 : Nat) (Option.some Jvm.ClassFile.FieldType.boolean), Jvm.Cond.code ({ cls := "com/example/inscribe/inscribe/core/XmlWhiteSpaceIsWhiteSpace194PinLaw", name := "ws", desc := "(C)Z" } : Jvm.MethodName) method_3_code (1 : Nat) (Option.some Jvm.ClassFile.FieldType.boolean), Jvm.Cond.code ({ cls := "com/example/inscribe/inscribe/core/XmlWhiteSpace", name := "isWhiteSpace", desc := "([CII)Z" } : Jvm.MethodName) prog_39_method_4_code (4 : Nat) (Option.some Jvm.ClassFile.FieldType.boolean), Jvm.Cond.code ({ cls := "com/example/inscribe/inscribe/core/XmlWhiteSpace", name := "isWhiteSpace", desc := "(C)Z" } : Jvm.MethodName) prog_39_method_2_code (1 : Nat) (Option.some Jvm.ClassFile.FieldType.boolean), Jvm.Cond.code ({ cls := "com/example/inscribe/inscribe/core/XmlWhiteSpace", name := "isLineBreak", desc := "(C)Z" } : Jvm.MethodName) prog_39_method_9_code (1 : Nat) (Option.some Jvm.ClassFile.FieldType.boolean)]
set_option maxRecDepth 65536 in
theorem codes_eq : words1.filter isCode = codes1 := rfl
theorem w_codes : ∀ c ∈ words1.filter isCode, c.before args0 about1 = true := by
  rw [codes_eq]
  intro c hc
  simp only [codes1, List.mem_cons, List.not_mem_nil, or_false] at hc
  rcases hc with rfl | rfl | rfl | rfl | rfl | rfl | rfl
  · exact w_c0
  · exact w_c1
  · exact w_c2
  · exact w_c3
  · exact w_c4
  · exact w_c5
  · exact w_c6
set_option maxRecDepth 65536 in
theorem w_t1 : words1.all (fun c => isCode c || c.before args0 about1) = true := by decide +kernel
theorem w_tables : (allAtoms (Jvm.Cond.code x code maxLocals ret :: tables_1)).before args0 about1 = true := by
  rw [allAtoms_all]
  show words1.all (fun c => c.before args0 about1) = true
  refine all_split ?_ w_codes
  rw [w_t1]
set_option maxRecDepth 65536 in
theorem w_case : (Jvm.Cond.and given_1 narrow_1).before args0 about1 = true := by decide +kernel
theorem w_applies : (headSpec (Jvm.Cond.code x code maxLocals ret :: tables_1) room_1).applies x e0.platform about1 = true :=
  (Spec.applies_iff w_frames).mpr ⟨w_running, w_runnable, w_alone, w_named, w_hears, w_ripe, w_room, w_tables⟩
theorem atStart : AtStart classFile x code maxLocals ret World_1 tables_1 room_1 Calls_1 rest_1 Pre_1 launch0 p0 e0 about1 theMethod args0 below0 :=
  ⟨lists_1, trivial, launch0.admits_env _ _ _, launch0.least_env, fairChoices_fair.cas, fairChoices_fair.clock, w_frames, w_args, w_heap, w_applies, trivial, trivial, w_case⟩
end start1
theorem witness_1 : WitnessClaimed_1 := ⟨start1.p0, start1.e0, start1.about1, start1.theMethod, start1.args0, start1.below0, start1.atStart⟩
end Jvm.Pilot.@@N@@
