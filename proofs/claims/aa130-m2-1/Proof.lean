import JvmDerived
import JvmDerived.Pilot.@@N@@Statement
import JvmDerived.Pilot.@@N@@Code
set_option linter.unusedVariables false
set_option linter.unusedSimpArgs false
namespace Jvm.Pilot.@@N@@
open Jvm Jvm.ClassFile Sem Op Lib Jvm.Free Jvm.Stand Jvm.LawKit Jvm.RoadKit Bundle Jvm.Pilot.@@N@@.Jvm.D
section OwnKit
/-- from the frame f at T the run comes to an end that K takes -/
def own_Go (p : Program) (e : Env) (below : List Frame) (K : Outcome → State → Prop) (T : State) (f : JFrame) : Prop :=
  ∃ s₂ o, Steps p.tables e below (T.setTop f) s₂ ∧ s₂.status = .running ∧ Ended s₂ below o ∧ K o s₂
def own_K (s : State) (Q : Option Value → Heap → List Loc → Prop) (cc ss : Nat) (o : Outcome) (U : State) : Prop :=
  ∃ v L, o = .returned v ∧ Q v U.heap L ∧ FrameEnd s o U L cc ss
variable {p : Program} {l : Launch} {e : Env} {R : Room} {s : State} {m : MethodId} {args : Array Value} {below : List Frame} {meth : Method} {c : Code} {T T' : State} {locs : List Loc} {cells slots : Nat} {K : Outcome → State → Prop} {Q : Option Value → Heap → List Loc → Prop} {cc ss : Nat} {f f' : JFrame}
theorem own_of (h : ∀ t, Steps p.tables e below (T'.setTop f') t → Steps p.tables e below (T.setTop f) t) (k : own_Go p e below K T' f') : own_Go p e below K T f := by
  obtain ⟨s2, o, h1, r⟩ := k
  exact ⟨s2, o, h _ h1, r⟩
theorem own_at (h : ∀ t, Steps p.tables e below (T.setTop f') t → Steps p.tables e below (T.setTop f) t) (k : own_Go p e below K T f') : own_Go p e below K T f := own_of h k
theorem own_cast (q : f = f') (k : own_Go p e below K T f') : own_Go p e below K T f := q ▸ k
theorem own_end (X : Stand p l e R s m args below meth c T locs cells slots) (hlk : meth.locks = false) {v : Option Value} (hv : meth.sig.returnType = none → v = none) (hq : Q v T.heap locs) (h1 : cells ≤ cc) (h2 : slots ≤ ss)
    (hs : ∀ fs, (∀ (f : JFrame) (acts : List Action), f.method = m → f.locked = none → f.entered = [] → (doReturn e (T.setTop f) acts v).1 = T.setFrames fs) → Steps p.tables e below (T.setTop f) (T.setFrames fs)) : own_Go p e below (own_K s Q cc ss) T f := by
  obtain ⟨fs, hr, hrun, hended, hW, hsame⟩ := X.leave (v := v) hv hlk
  exact ⟨_, _, hs fs hr, hrun, hended, _, _, rfl, hq, ⟨_, rfl⟩, hW, hsame.mono h1 h2⟩
theorem own_retN (X : Stand p l e R s m args below meth c T locs cells slots) (hx : p.tables.exec = Jvm.exec) (hlk : meth.locks = false) {pc : Nat} {Ls : Array Slot} {z w : Int32} {t : FieldType} {rest : List Value} (hret : meth.sig.returnType = some t) (ht : t = .boolean ∨ t = .byte ∨ t = .char ∨ t = .short)
    (hd : decode c.code pc = .ok (.ireturn, 1)) (hw : nar t z = w) (hq : Q (some (.int w)) T.heap locs) (h1 : cells ≤ cc) (h2 : slots ≤ ss) : own_Go p e below (own_K s Q cc ss) T (mkF m pc Ls (.int z :: rest)) := by
  subst hw
  exact own_end X hlk (fun h => by rw [hret] at h; cases h) hq h1 h2 fun fs hr => retN X hx hret ht hd hr
theorem own_retI (X : Stand p l e R s m args below meth c T locs cells slots) (hx : p.tables.exec = Jvm.exec) (hlk : meth.locks = false) {pc : Nat} {Ls : Array Slot} {z w : Int32} {rest : List Value} (hret : meth.sig.returnType = some .int)
    (hd : decode c.code pc = .ok (.ireturn, 1)) (hw : z = w) (hq : Q (some (.int w)) T.heap locs) (h1 : cells ≤ cc) (h2 : slots ≤ ss) : own_Go p e below (own_K s Q cc ss) T (mkF m pc Ls (.int z :: rest)) := by
  subst hw
  refine own_end X hlk (fun h => by rw [hret] at h; cases h) hq h1 h2 fun fs hr => ?_
  have hm' : T.vm.method? m = some meth := X.method'
  have hn : narrow .int (.int z) = .int z := rfl
  show Steps p.tables e below (T.setTop { method := m, pc := pc, locals := Ls, stack := _ :: rest, locked := none }) _
  jvm_step X.here [X.here.top, hx, hd, hm', hret, hn]
  first | (intro acts; rw [hr _ acts rfl rfl rfl]) | rw [hr _ _ rfl rfl rfl]
  exact Steps.refl _
theorem own_retJ (X : Stand p l e R s m args below meth c T locs cells slots) (hx : p.tables.exec = Jvm.exec) (hlk : meth.locks = false) {pc : Nat} {Ls : Array Slot} {z w : Int64} (hret : meth.sig.returnType = some .long)
    (hd : decode c.code pc = .ok (.lreturn, 1)) (hw : z = w) (hq : Q (some (.long w)) T.heap locs) (h1 : cells ≤ cc) (h2 : slots ≤ ss) : own_Go p e below (own_K s Q cc ss) T (mkF m pc Ls [.long z]) := by
  subst hw
  exact own_end X hlk (fun h => by rw [hret] at h; cases h) hq h1 h2 fun fs hr => X.lreturnOut hx hret hd hr
theorem own_retA (X : Stand p l e R s m args below meth c T locs cells slots) (hx : p.tables.exec = Jvm.exec) (hlk : meth.locks = false) {pc : Nat} {Ls : Array Slot} {z : Value} {ty : FieldType} {rest : List Value} (hz : z.isRef = true) (hret : meth.sig.returnType = some ty) (hty : ty.isReference = true)
    (hd : decode c.code pc = .ok (.areturn, 1)) (hq : Q (some z) T.heap locs) (h1 : cells ≤ cc) (h2 : slots ≤ ss) : own_Go p e below (own_K s Q cc ss) T (mkF m pc Ls (z :: rest)) := by
  refine own_end X hlk (fun h => by rw [hret] at h; cases h) hq h1 h2 fun fs hr => ?_
  have hm' : T.vm.method? m = some meth := X.method'
  show Steps p.tables e below (T.setTop { method := m, pc := pc, locals := Ls, stack := _ :: rest, locked := none }) _
  jvm_step X.here [X.here.top, hx, hd, hm', hret, hz, hty]
  first | (intro acts; rw [hr _ acts rfl rfl rfl]) | rw [hr _ _ rfl rfl rfl]
  exact Steps.refl _
theorem own_retV (X : Stand p l e R s m args below meth c T locs cells slots) (hx : p.tables.exec = Jvm.exec) (hlk : meth.locks = false) {pc : Nat} {Ls : Array Slot} (hret : meth.sig.returnType = none)
    (hd : decode c.code pc = .ok (.return_, 1)) (hq : Q none T.heap locs) (h1 : cells ≤ cc) (h2 : slots ≤ ss) : own_Go p e below (own_K s Q cc ss) T (mkF m pc Ls []) :=
  own_end X hlk (fun _ => rfl) hq h1 h2 fun fs hr => X.returnOut hx hret hd hr
theorem own_ne {i k : Int32} {z : Int} (hz : k.toInt = z) (h : ¬ i = k) : ¬ (z = i.toInt) := fun q => h (Int32.toInt_inj.mp (q.symm.trans hz.symm))
theorem own_lsw {tb : Tables} [Ours tb] {target : State} {g : JFrame} (h : At T m c below) (hx : tb.exec = Jvm.exec) (hg : g.method = m) {dflt o : Int} {prs : Array (Int × Int)} {len pc0 pc' : Nat} (hpc : g.pc = pc0) (hd : decode c.code g.pc = .ok (.lookupswitch dflt prs, len)) {i : Int32} {rest : List Value} (hs : g.stack = .int i :: rest)
    (hso : (prs.toList.zip (prs.toList.drop 1)).all (fun (a, next) => a.1 < next.1) = true) (hof : lookupswitch.offset prs.toList dflt i.toInt = o) (ho : 0 ≤ (pc0 : Int) + o) (hp : ((pc0 : Int) + o).toNat = pc')
    (hr : Steps tb e below (T.setTop { g with pc := pc', stack := rest }) target) : Steps tb e below (T.setTop g) target := by
  subst hg hpc hp hof
  jvm_step h [h.top, hx, hd, hs, ho, lookupswitch.wp_chain]
  exact ⟨by simpa using hso, hr⟩
theorem own_nar01 {z : Int32} (h : z = 0 ∨ z = 1) : nar .boolean z = z := by rcases h with rfl | rfl <;> decide
theorem own_narB (x : Int32) : nar .byte x.toInt8.toInt32 = x.toInt8.toInt32 := Value.int.inj (Jvm.Free.XT.narrow_b x)
theorem own_narC (x : Int32) : nar .char x.toUInt32.toUInt16.toUInt32.toInt32 = x.toUInt32.toUInt16.toUInt32.toInt32 := Value.int.inj (Jvm.Free.XT.narrow_c x)
end OwnKit
/-- a body that writes nothing and returns w -/
def own_P (w : Value) (h0 : Heap) (n0 : Nat) (v : Option Value) (h : Heap) (L : List Loc) : Prop := v = some w ∧ Fr n0 L ∧ h = h0
section OwnArr
/-- an array by its class's name, its components' kind, and what it holds -/
def own_A (Z : State) (h : Heap) (a : Addr) (d : String) (ty : FieldType) (vs : List Value) : Prop :=
  ∃ c : Cell, Arr Z h a c ty ∧ Z.vm.findClass d = some c.cls ∧ c.slots = vs.toArray ∧ ∀ v ∈ vs, fits ty v = true
variable {p : Program} {l : Launch} {e : Env} {R : Room} {s : State} {m : MethodId} {args : Array Value} {below : List Frame} {meth : Method} {c : Code} {T : State} {locs : List Loc} {cells slots : Nat} {Z : State} {a0 : Array Value} {h h' : Heap} {a b : Addr} {d : String} {ty : FieldType} {vs : List Value} {sl : Nat} {v w : Value} {ws : List Addr}
theorem own_A.lt (F : own_A Z h a d ty vs) : a < h.size := by obtain ⟨c, A, -⟩ := F; exact A.lt
theorem own_A.ext (F : own_A Z h a d ty vs) (E : Ext h h') : own_A Z h' a d ty vs := by obtain ⟨c, A, r⟩ := F; exact ⟨c, A.ext E, r⟩
theorem own_A.other (F : own_A Z h b d ty vs) (W : Wr h h' a sl v) (q : b ≠ a) : own_A Z h' b d ty vs := by obtain ⟨c, A, r⟩ := F; exact ⟨c, A.other W q, r⟩
theorem own_A.keep (F : own_A Z h a d ty vs) (K : Keep h h' ws) (q : a ∉ ws) : own_A Z h' a d ty vs := by obtain ⟨c, A, r⟩ := F; exact ⟨c, ⟨K.2.1 a c A.1 q, A.2⟩, r⟩
theorem own_A.set (F : own_A Z h a d ty vs) {i : Nat} (W : Wr h h' a i v) (hv : fits ty v = true) : own_A Z h' a d ty (vs.set i v) := by
  obtain ⟨c, A, q, S, G⟩ := F
  refine ⟨_, A.same W, q, ?_, fun x hx => ?_⟩
  · simp [Cell.setSlot, S]
  · rcases List.mem_or_eq_of_mem_set hx with h1 | h1
    · exact G x h1
    · exact h1 ▸ hv
theorem own_A.exa (F : own_A Z h a d ty vs) : Exa Z h a d := by
  obtain ⟨c, A, q, -⟩ := F
  obtain ⟨-, k, hk, comp, hkind⟩ := A.2.1
  exact ⟨c, k, A.1, q, hk, A.plain, fun z => by rw [hkind] at z; cases z⟩
theorem own_A.fit (F : own_A Z h a d ty vs) : ∃ c : Cell, Arr Z h a c ty ∧ Z.vm.findClass d = some c.cls ∧ c.slots = vs.toArray ∧ (∀ v ∈ vs, fits ty v = true) ∧ FitC Z c := by
  obtain ⟨c, A, q, S, G⟩ := F
  refine ⟨c, A, q, S, G, fun i v hv => ?_⟩
  obtain ⟨-, k, hk, comp, hkind⟩ := A.2.1
  rw [S] at hv
  have hm : v ∈ vs := List.mem_of_getElem? (by simpa using hv)
  simp [State.fitsSlot, State.slotType?, hk, hkind, G v hm]
theorem own_inb {c : Cell} {j : Int32} {i : Nat} (S : c.slots = vs.toArray) (h0 : ¬ j < 0) (hj : j.toNatClampNeg = i) (hi : i < vs.length) : ¬ (j < 0 ∨ c.slots.size ≤ j.toNatClampNeg) := by
  rw [S, hj]; simp only [List.size_toArray]; exact fun q => q.elim h0 (fun q => absurd hi (Nat.not_lt.mpr q))
theorem own_newA (X : Stand p l e R s m args below meth c T locs cells slots) (hx : p.tables.exec = Jvm.exec) (hZ : Z.Warmed39 s.vm) {aty : ArrayType} (w : (Cond.arrayClass (newarray.typeOf aty)).before a0 Z = true) (eT : T.heap = h) {g : JFrame} (hg : g.method = m) (hd : decode c.code g.pc = .ok (.newarray aty, 2)) {n : Int32} {rest : List Value} (hs : g.stack = .int n :: rest)
    (hn : ¬ n < 0) {N cap : Nat} (hN : n.toNatClampNeg = N) (hcap : N ≤ cap) (hb : cap * 8 ≤ 536870912) (hc : cells + 1 ≤ R.cells) (hl : slots + cap ≤ R.slots) {d : String} (hdd : "[" ++ (newarray.typeOf aty).toString = d) {vs : List Value} (hvs : vs = List.replicate N (defaultValue (newarray.typeOf aty))) :
    ∃ T' h', Stand p l e R s m args below meth c T' locs (cells + 1) (slots + cap) ∧ T'.heap = h' ∧ Ext h h' ∧ own_A Z h' h.size d (newarray.typeOf aty) vs ∧
      ∀ target, Steps p.tables e below (T'.setTop { g with pc := g.pc + 2, stack := .ref h.size :: rest }) target → Steps p.tables e below (T.setTop g) target := by
  subst hN hdd hvs
  have hcb : componentBytes (newarray.typeOf aty) ≤ 8 := by cases aty <;> decide
  obtain ⟨cA, kA, comp, h1, h2, h3, X', st⟩ := X.newarrayPrim hx (mvA hZ w) hg hd hs hn (Nat.le_trans (Nat.mul_le_mul hcap hcb) hb) hc (by omega)
  subst eT
  rw [hZ.alike.findClass] at h1
  obtain ⟨kZ, z1, -⟩ := Vm.findClass_spec h1
  obtain ⟨k', z2, z3⟩ := hZ.alike.2.2 _ _ z1
  cases h2.symm.trans z2
  refine ⟨_, _, X'.more (Nat.le_refl _) (by omega), rfl, ⟨by show T.heap.size ≤ (T.heap.push _).size; simp, fun a c h => ?_⟩, ⟨{ cls := cA, slots := Array.replicate n.toNatClampNeg (defaultValue (newarray.typeOf aty)), vm := .none }, ⟨by show (T.heap.push _)[T.heap.size]? = _; simp, ⟨by simp, kZ, z1, comp, by rw [← h3, z3]⟩, by simp⟩, h1, by simp, fun v hv => ?_⟩, st⟩
  · have hlt := (Array.getElem?_eq_some_iff.mp h).1
    show (T.heap.push _)[a]? = _
    rw [Array.getElem?_push, if_neg (Nat.ne_of_lt hlt)]
    exact h
  · rw [List.eq_of_mem_replicate hv]; cases aty <;> rfl
theorem own_ldI (X : Stand p l e R s m args below meth c T locs cells slots) (hx : p.tables.exec = Jvm.exec) (hZ : Z.Warmed39 s.vm) (eT : T.heap = h) (V : own_A Z h a d .int vs) {j : Int32} {i : Nat} (h0 : ¬ j < 0) (hj : j.toNatClampNeg = i) (hv : vs[i]? = some v) {g : JFrame} (hg : g.method = m) {rest : List Value} (hs : g.stack = .int j :: .ref a :: rest) (hd : decode c.code g.pc = .ok (.iaload, 1)) :
    ∀ target, Steps p.tables e below (T.setTop { g with pc := g.pc + 1, stack := v :: rest }) target → Steps p.tables e below (T.setTop g) target := by
  obtain ⟨cl, A, q, S, G⟩ := V
  have hi : i < vs.length := (List.getElem?_eq_some_iff.mp hv).1
  exact X.iaload hx (by rw [eT]; exact A.1) (State.isArrayOf_alike hZ.alike A.2.1) A.2.2 (own_inb S h0 hj hi) (by rw [S, hj]; simpa using hv) hg hs hd
theorem own_ldJ (X : Stand p l e R s m args below meth c T locs cells slots) (hx : p.tables.exec = Jvm.exec) (hZ : Z.Warmed39 s.vm) (eT : T.heap = h) (V : own_A Z h a d .long vs) {j : Int32} {i : Nat} (h0 : ¬ j < 0) (hj : j.toNatClampNeg = i) (hv : vs[i]? = some v) {g : JFrame} (hg : g.method = m) {rest : List Value} (hs : g.stack = .int j :: .ref a :: rest) (hd : decode c.code g.pc = .ok (.laload, 1)) :
    ∀ target, Steps p.tables e below (T.setTop { g with pc := g.pc + 1, stack := v :: rest }) target → Steps p.tables e below (T.setTop g) target := by
  obtain ⟨cl, A, q, S, G⟩ := V
  have hi : i < vs.length := (List.getElem?_eq_some_iff.mp hv).1
  exact X.laload hx (by rw [eT]; exact A.1) (State.isArrayOf_alike hZ.alike A.2.1) A.2.2 (own_inb S h0 hj hi) (by rw [S, hj]; simpa using hv) hg hs hd
theorem own_ldC (X : Stand p l e R s m args below meth c T locs cells slots) (hx : p.tables.exec = Jvm.exec) (hZ : Z.Warmed39 s.vm) (eT : T.heap = h) (V : own_A Z h a d .char vs) {j : Int32} {i : Nat} (h0 : ¬ j < 0) (hj : j.toNatClampNeg = i) (hv : vs[i]? = some v) {g : JFrame} (hg : g.method = m) {rest : List Value} (hs : g.stack = .int j :: .ref a :: rest) (hd : decode c.code g.pc = .ok (.caload, 1)) :
    ∀ target, Steps p.tables e below (T.setTop { g with pc := g.pc + 1, stack := v :: rest }) target → Steps p.tables e below (T.setTop g) target := by
  obtain ⟨cl, A, q, S, G⟩ := V
  have hi : i < vs.length := (List.getElem?_eq_some_iff.mp hv).1
  exact X.caload hx (by rw [eT]; exact A.1) (State.isArrayOf_alike hZ.alike A.2.1) A.2.2 (own_inb S h0 hj hi) (by rw [S, hj]; simpa using hv) hg hs hd
theorem own_ldB (X : Stand p l e R s m args below meth c T locs cells slots) (hx : p.tables.exec = Jvm.exec) (hZ : Z.Warmed39 s.vm) (eT : T.heap = h) (V : own_A Z h a d .byte vs) {j : Int32} {i : Nat} (h0 : ¬ j < 0) (hj : j.toNatClampNeg = i) (hv : vs[i]? = some v) {g : JFrame} (hg : g.method = m) {rest : List Value} (hs : g.stack = .int j :: .ref a :: rest) (hd : decode c.code g.pc = .ok (.baload, 1)) :
    ∀ target, Steps p.tables e below (T.setTop { g with pc := g.pc + 1, stack := v :: rest }) target → Steps p.tables e below (T.setTop g) target := by
  obtain ⟨cl, A, q, S, G⟩ := V
  have hi : i < vs.length := (List.getElem?_eq_some_iff.mp hv).1
  exact X.baloadBytes hx (by rw [eT]; exact A.1) (State.isArrayOf_alike hZ.alike A.2.1) A.2.2 (own_inb S h0 hj hi) (by rw [S, hj]; simpa using hv) hg hs hd
theorem own_len (X : Stand p l e R s m args below meth c T locs cells slots) (hx : p.tables.exec = Jvm.exec) (hZ : Z.Warmed39 s.vm) (eT : T.heap = h) (V : own_A Z h a d ty vs) {N : Int32} (hN : vs.length.toInt32 = N) {g : JFrame} (hg : g.method = m) {rest : List Value} (hs : g.stack = .ref a :: rest) (hd : decode c.code g.pc = .ok (.arraylength, 1)) :
    ∀ target, Steps p.tables e below (T.setTop { g with pc := g.pc + 1, stack := .int N :: rest }) target → Steps p.tables e below (T.setTop g) target := by
  obtain ⟨cl, A, q, S, G⟩ := V
  have e1 : cl.slots.size.toInt32 = N := by rw [S]; simpa using hN
  have st := X.arraylength hx (by rw [eT]; exact A.1) (State.isArrayOf_alike hZ.alike A.2.1) hg hs hd
  rw [e1] at st
  exact st
theorem own_stI (X : Stand p l e R s m args below meth c T locs cells slots) (hx : p.tables.exec = Jvm.exec) (hZ : Z.Warmed39 s.vm) (eT : T.heap = h) (V : own_A Z h a d .int vs) {j x : Int32} {i : Nat} (h0 : ¬ j < 0) (hj : j.toNatClampNeg = i) (hi : i < vs.length) {g : JFrame} (hg : g.method = m) {rest : List Value} (hs : g.stack = .int x :: .int j :: .ref a :: rest) (hd : decode c.code g.pc = .ok (.iastore, 1)) :
    ∃ T' h', Stand p l e R s m args below meth c T' (locs ++ [⟨a, i⟩]) cells slots ∧ T'.heap = h' ∧ Wr h h' a i (.int x) ∧ own_A Z h' a d .int (vs.set i (.int x)) ∧ ∀ target, Steps p.tables e below (T'.setTop { g with pc := g.pc + 1, stack := rest }) target → Steps p.tables e below (T.setTop g) target := by
  obtain ⟨cl, A, q, S, G⟩ := id V
  subst hj
  obtain ⟨T', h', X', e', W, st⟩ := stI X hx hZ eT A (own_inb S h0 rfl hi) hg hs hd
  exact ⟨T', h', X', e', W, V.set W rfl, st⟩
theorem own_stJ (X : Stand p l e R s m args below meth c T locs cells slots) (hx : p.tables.exec = Jvm.exec) (hZ : Z.Warmed39 s.vm) (eT : T.heap = h) (V : own_A Z h a d .long vs) {j : Int32} {x : Int64} {i : Nat} (h0 : ¬ j < 0) (hj : j.toNatClampNeg = i) (hi : i < vs.length) {g : JFrame} (hg : g.method = m) {rest : List Value} (hs : g.stack = .long x :: .int j :: .ref a :: rest) (hd : decode c.code g.pc = .ok (.lastore, 1)) :
    ∃ T' h', Stand p l e R s m args below meth c T' (locs ++ [⟨a, i⟩]) cells slots ∧ T'.heap = h' ∧ Wr h h' a i (.long x) ∧ own_A Z h' a d .long (vs.set i (.long x)) ∧ ∀ target, Steps p.tables e below (T'.setTop { g with pc := g.pc + 1, stack := rest }) target → Steps p.tables e below (T.setTop g) target := by
  obtain ⟨cl, A, q, S, G⟩ := id V
  subst hj
  obtain ⟨T', h', X', e', W, st⟩ := stJ X hx hZ eT A (own_inb S h0 rfl hi) hg hs hd
  exact ⟨T', h', X', e', W, V.set W rfl, st⟩
theorem own_stB (X : Stand p l e R s m args below meth c T locs cells slots) (hx : p.tables.exec = Jvm.exec) (hZ : Z.Warmed39 s.vm) (eT : T.heap = h) (V : own_A Z h a d .byte vs) {j x y : Int32} {i : Nat} (hy : nar .byte x = y) (h0 : ¬ j < 0) (hj : j.toNatClampNeg = i) (hi : i < vs.length) {g : JFrame} (hg : g.method = m) {rest : List Value} (hs : g.stack = .int x :: .int j :: .ref a :: rest) (hd : decode c.code g.pc = .ok (.bastore, 1)) :
    ∃ T' h', Stand p l e R s m args below meth c T' (locs ++ [⟨a, i⟩]) cells slots ∧ T'.heap = h' ∧ Wr h h' a i (.int y) ∧ own_A Z h' a d .byte (vs.set i (.int y)) ∧ ∀ target, Steps p.tables e below (T'.setTop { g with pc := g.pc + 1, stack := rest }) target → Steps p.tables e below (T.setTop g) target := by
  obtain ⟨cl, A, q, S, G⟩ := id V
  subst hj hy
  obtain ⟨T', h', X', e', W, st⟩ := stB X hx hZ eT A (own_inb S h0 rfl hi) hg hs hd
  exact ⟨T', h', X', e', W, V.set W (fits_nar_byte x), st⟩
theorem own_stC (X : Stand p l e R s m args below meth c T locs cells slots) (hx : p.tables.exec = Jvm.exec) (hZ : Z.Warmed39 s.vm) (eT : T.heap = h) (V : own_A Z h a d .char vs) {j x y : Int32} {i : Nat} (hy : nar .char x = y) (h0 : ¬ j < 0) (hj : j.toNatClampNeg = i) (hi : i < vs.length) {g : JFrame} (hg : g.method = m) {rest : List Value} (hs : g.stack = .int x :: .int j :: .ref a :: rest) (hd : decode c.code g.pc = .ok (.castore, 1)) :
    ∃ T' h', Stand p l e R s m args below meth c T' (locs ++ [⟨a, i⟩]) cells slots ∧ T'.heap = h' ∧ Wr h h' a i (.int y) ∧ own_A Z h' a d .char (vs.set i (.int y)) ∧ ∀ target, Steps p.tables e below (T'.setTop { g with pc := g.pc + 1, stack := rest }) target → Steps p.tables e below (T.setTop g) target := by
  obtain ⟨cl, A, q, S, G⟩ := id V
  subst hj hy
  obtain ⟨T', h', X', e', W, st⟩ := stC X hx hZ eT A (own_inb S h0 rfl hi) hg hs hd
  exact ⟨T', h', X', e', W, V.set W (fits_nar_char x), st⟩
theorem own_clone (X : Stand p l e R s m args below meth c T locs cells slots) (hx : p.tables.exec = Jvm.exec) (hZ : Z.Warmed39 s.vm) {own : String} {index : Nat} (hown : s.vm.findClass own = some m.cls)
    (w1 : (Cond.methodLink own index ⟨d, "clone", "()Ljava/lang/Object;"⟩).before a0 Z = true) (w2 : (Cond.sameMethod d "java/lang/Object" "clone" "()Ljava/lang/Object;").before a0 Z = true) (w3 : (Cond.native ⟨"java/lang/Object", "clone", "()Ljava/lang/Object;"⟩).before a0 Z = true)
    (w4 : (Cond.instanceMethod ⟨"java/lang/Object", "clone", "()Ljava/lang/Object;"⟩).before a0 Z = true) (w5 : (Cond.selects d ⟨d, "clone", "()Ljava/lang/Object;"⟩ ⟨"java/lang/Object", "clone", "()Ljava/lang/Object;"⟩).before a0 Z = true) (w6 : (Cond.castable d "java/lang/Cloneable").before a0 Z = true)
    (eT : T.heap = h) (V : own_A Z h a d ty vs) {g : JFrame} (hg : g.method = m) (hsize : g.locals.size = c.maxLocals) {rest : List Value} (hs : g.stack = .ref a :: rest) (hd : decode c.code g.pc = .ok (.invokevirtual index, 3))
    (hf : 1 ≤ R.frames) {W cap : Nat} (hW : 2 * g.monitorRoom + (rest.map fun v => v.category).sum ≤ W) (hl : W + 14 ≤ R.locals) (hcap : vs.length ≤ cap) (hc : cells + 1 ≤ R.cells) (hsl : slots + cap ≤ R.slots) :
    ∃ T' h', Stand p l e R s m args below meth c T' locs (cells + 1) (slots + cap) ∧ T'.heap = h' ∧ Ext h h' ∧ own_A Z h' h.size d ty vs ∧
      ∀ target, Steps p.tables e below (T'.setTop { g with pc := g.pc + 3, stack := .ref h.size :: rest }) target → Steps p.tables e below (T.setTop g) target := by
  have Ex := V.exa
  obtain ⟨cl, A, q, S, G, F⟩ := V.fit
  obtain ⟨T', h', X', e', E, A', -, st⟩ := cloneA X hx hZ hown w1 w2 w3 w4 w5 w6 eT A Ex F hg hsize hs hd hf hW hl (cap := cap) (by rw [S]; simpa using hcap) hc hsl
  exact ⟨T', h', X', e', E, ⟨_, A', q, S, G⟩, st⟩
theorem own_nA (hv : v.isRef = true) : narrow (.array ty) v = v ∧ fits (.array ty) v = true := by cases v <;> simp_all [Value.isRef, narrow, fits]
end OwnArr

theorem pn_com_example_libpetri_libpetri_MarkingIsOmegaPinLaw : plainName "com/example/libpetri/libpetri/MarkingIsOmegaPinLaw" = true := by first | (simp [plainName, overriddenIn]; done) | decide +kernel
theorem ef_method_2 (m : MethodId) (x0 : Int32) (x1 : Int64) : entryFrame m #[(.int x0), (.long x1)] 3 = mkF m 0 #[.val (.int x0), .val (.long x1), .second] [] := by first | (simp [entryFrame, mkF, argsToLocals, Value.category]; done) | rfl
theorem d_method_2_0 : decode method_2_code 0 = .ok (.iload_n 0, 1) := by decide +kernel
theorem d_method_2_1 : decode method_2_code 1 = .ok (.ifCond .eq 7, 3) := by decide +kernel
theorem d_method_2_8 : decode method_2_code 8 = .ok (.lload_n 1, 1) := by decide +kernel
theorem d_method_2_9 : decode method_2_code 9 = .ok (.ldc2_w 11, 3) := by decide +kernel
theorem d_method_2_12 : decode method_2_code 12 = .ok (.land, 1) := by decide +kernel
theorem d_method_2_13 : decode method_2_code 13 = .ok (.lreturn, 1) := by decide +kernel
theorem d_method_2_4 : decode method_2_code 4 = .ok (.ldc2_w 7, 3) := by decide +kernel
theorem d_method_2_7 : decode method_2_code 7 = .ok (.lreturn, 1) := by decide +kernel
def own_F_method_2 (q1 : Int32) (q2 : Int64) : Int64 := (if q1 = (0 : Int32) then (q2 &&& (9223372036854775807 : Int64)) else (-1 : Int64))
set_option maxRecDepth 65536 in
set_option maxHeartbeats 40000000 in
theorem rm_method_2 (l : Launch) (Z : State) (a0 : Array Value) (hw : ∀ d ∈ tables_1, d.before a0 Z = true) (ws : List Jvm.Cond) (q1 : Int32) (q2 : Int64)  (h0 : Heap) (n0 : Nat) (Z0 : n0 ≤ h0.size)  :
    MetFree l (⟨"com/example/libpetri/libpetri/MarkingIsOmegaPinLaw", "entry", "(ZJ)J"⟩ : MethodName) (head1 (Jvm.Cond.code (⟨"com/example/libpetri/libpetri/MarkingIsOmegaPinLaw", "entry", "(ZJ)J"⟩ : MethodName) method_2_code 3 (some .long) :: ws) ({ frames := 0, cells := 0, slots := 0, locals := 0 } : Room)) (fun a U => a = #[(.int q1), (.long q2)] ∧ Z.Warmed39 U.vm ∧ U.heap = h0) (fun _ _ _ _ _ => True) (fun _ U o U' => ∃ v L, o = .returned v ∧ own_P (.long (own_F_method_2 q1 q2)) h0 n0 v U'.heap L ∧ FrameEnd U o U' L ({ frames := 0, cells := 0, slots := 0, locals := 0 } : Room).cells ({ frames := 0, cells := 0, slots := 0, locals := 0 } : Room).slots) := by
  refine MetFree.of_bodySF (plainFor_of_name pn_com_example_libpetri_libpetri_MarkingIsOmegaPinLaw) hisR ?_
  intro p e s m args below meth c s₁ Bd hml0 hP hK
  obtain ⟨rfl, hZ, hh⟩ := hP
  have hx := Bd.exec
  have hby := Bd.bytes
  have hlk : meth.locks = false := BodyLoose.notSynchronized Bd
  have hml : c.maxLocals = 3 := hml0
  have hown : s.vm.findClass "com/example/libpetri/libpetri/MarkingIsOmegaPinLaw" = some m.cls := findClass_of_methodNamed Bd.named
  have hnm := (name_of_methodNamed Bd.named Bd.method).1
  have X0 : Stand p l e ({ frames := 0, cells := 0, slots := 0, locals := 0 } : Room) s m #[(.int q1), (.long q2)] below meth c s₁ [] 0 0 := Stand.of_body Bd
  have e0 : s₁.heap = h0 := by rw [← hh, Bd.state]; rfl
  have N0 := Fr.nil n0
  refine own_cast (K := own_K s (own_P (.long (own_F_method_2 q1 q2)) h0 n0) 0 0) (ef_method_2 m q1 q2) ?_
  generalize hKK : own_K s (own_P (.long (own_F_method_2 q1 q2)) h0 n0) 0 0 = KK
  show own_Go p e below KK s₁ (mkF m 0 #[.val (.int q1), .val (.long q2), .second] [])
  refine own_at (fun t k => XS.iloadN X0.here hx rfl (hb hby d_method_2_0) rfl k) ?_
  show own_Go p e below KK s₁ (mkF m 1 #[.val (.int q1), .val (.long q2), .second] [(.int q1)])
  by_cases hc1 : q1 = (0 : Int32)
  · refine own_at (fun t k => XS.ifYes X0.here hx rfl (pc0 := 1) (pc' := 8) rfl (hb hby d_method_2_1) rfl (Jvm.Free.XT.i0_eq_t hc1) (by decide) (by decide) k) ?_
    show own_Go p e below KK s₁ (mkF m 8 #[.val (.int q1), .val (.long q2), .second] [])
    refine own_at (fun t k => XS.lloadN X0.here hx rfl (hb hby d_method_2_8) rfl k) ?_
    show own_Go p e below KK s₁ (mkF m 9 #[.val (.int q1), .val (.long q2), .second] [(.long q2)])
    refine own_at (fun t k => X0.ldc2Long hx hown (mvT hZ (hw _ (List.mem_of_getElem? (i := 5) rfl))) (g := (mkF m 9 #[.val (.int q1), .val (.long q2), .second] [(.long q2)])) rfl (hb hby d_method_2_9) t k) ?_
    show own_Go p e below KK s₁ (mkF m 12 #[.val (.int q1), .val (.long q2), .second] [(.long 9223372036854775807), (.long q2)])
    refine own_at (fun t k => XS.land X0.here hx rfl (hb hby d_method_2_12) rfl k) ?_
    show own_Go p e below KK s₁ (mkF m 13 #[.val (.int q1), .val (.long q2), .second] [(.long (q2 &&& (9223372036854775807 : Int64)))])
    subst hKK
    exact own_retJ X0 hx hlk Bd.returns (hb hby d_method_2_13) (w := (own_F_method_2 q1 q2)) ((Eq.refl (q2 &&& (9223372036854775807 : Int64))).trans (show (q2 &&& (9223372036854775807 : Int64)) = (own_F_method_2 q1 q2) from by unfold own_F_method_2; rw [if_pos hc1])) ⟨rfl, N0, e0⟩ (Nat.le_of_ble_eq_true rfl) (Nat.le_of_ble_eq_true rfl)
  · refine own_at (fun t k => XS.ifNo X0.here hx rfl (hb hby d_method_2_1) rfl (Jvm.Free.XT.i0_eq_f hc1) k) ?_
    show own_Go p e below KK s₁ (mkF m 4 #[.val (.int q1), .val (.long q2), .second] [])
    refine own_at (fun t k => X0.ldc2Long hx hown (mvT hZ (hw _ (List.mem_of_getElem? (i := 6) rfl))) (g := (mkF m 4 #[.val (.int q1), .val (.long q2), .second] [])) rfl (hb hby d_method_2_4) t k) ?_
    show own_Go p e below KK s₁ (mkF m 7 #[.val (.int q1), .val (.long q2), .second] [(.long (-1 : Int64))])
    subst hKK
    exact own_retJ X0 hx hlk Bd.returns (hb hby d_method_2_7) (w := (own_F_method_2 q1 q2)) ((Eq.refl (-1 : Int64)).trans (show (-1 : Int64) = (own_F_method_2 q1 q2) from by unfold own_F_method_2; rw [if_neg hc1])) ⟨rfl, N0, e0⟩ (Nat.le_of_ble_eq_true rfl) (Nat.le_of_ble_eq_true rfl)
def own_Qc (Z : State) (q1 q2 : Addr) (h0 : Heap) (n0 : Nat) (v : Option Value) (h : Heap) (L : List Loc) : Prop := v = none ∧ Fr n0 L ∧ Keep h0 h [q1] ∧ Exa Z h q1 "com/example/libpetri/libpetri/Marking" ∧ Fld Z h q1 "com/example/libpetri/libpetri/Marking" "tokens" "[J" (.ref q2)
theorem pn_com_example_libpetri_libpetri_Marking : plainName "com/example/libpetri/libpetri/Marking" = true := by first | (simp [plainName, overriddenIn]; done) | decide +kernel
theorem ef_prog_17_1 (m : MethodId) (x0 : Addr) (x1 : Addr) : entryFrame m #[(.ref x0), (.ref x1)] 2 = mkF m 0 #[.val (.ref x0), .val (.ref x1)] [] := by first | (simp [entryFrame, mkF, argsToLocals, Value.category]; done) | rfl
theorem d_prog_17_1_0 : decode prog_17_method_1_code 0 = .ok (.aload_n 0, 1) := by decide +kernel
theorem d_prog_17_1_1 : decode prog_17_method_1_code 1 = .ok (.invokespecial 1, 3) := by decide +kernel
theorem d_prog_17_1_4 : decode prog_17_method_1_code 4 = .ok (.aload_n 0, 1) := by decide +kernel
theorem d_prog_17_1_5 : decode prog_17_method_1_code 5 = .ok (.aload_n 1, 1) := by decide +kernel
theorem d_prog_17_1_6 : decode prog_17_method_1_code 6 = .ok (.putfield 7, 3) := by decide +kernel
theorem d_prog_17_1_9 : decode prog_17_method_1_code 9 = .ok (.return_, 1) := by decide +kernel
set_option maxRecDepth 65536 in
set_option maxHeartbeats 40000000 in
theorem rm_ctor (l : Launch) (Z : State) (a0 : Array Value) (hw : ∀ d ∈ tables_1, d.before a0 Z = true) (ws : List Jvm.Cond) (q1 : Addr) (q2 : Addr)  (h0 : Heap) (n0 : Nat) (Z0 : n0 ≤ h0.size) (Fq : Fld Z h0 q1 "com/example/libpetri/libpetri/Marking" "tokens" "[J" .null) (Eq : Exa Z h0 q1 "com/example/libpetri/libpetri/Marking") (gq : n0 ≤ q1) :
    MetFree l (⟨"com/example/libpetri/libpetri/Marking", "<init>", "([J)V"⟩ : MethodName) (head1 (Jvm.Cond.code (⟨"com/example/libpetri/libpetri/Marking", "<init>", "([J)V"⟩ : MethodName) prog_17_method_1_code 2 none :: ws) ({ frames := 1, cells := 0, slots := 0, locals := 12 } : Room)) (fun a U => a = #[(.ref q1), (.ref q2)] ∧ Z.Warmed39 U.vm ∧ U.heap = h0) (fun _ _ _ _ _ => True) (fun _ U o U' => ∃ v L, o = .returned v ∧ own_Qc Z q1 q2 h0 n0 v U'.heap L ∧ FrameEnd U o U' L ({ frames := 1, cells := 0, slots := 0, locals := 12 } : Room).cells ({ frames := 1, cells := 0, slots := 0, locals := 12 } : Room).slots) := by
  refine MetFree.of_bodySF (plainFor_of_name pn_com_example_libpetri_libpetri_Marking) hisR ?_
  intro p e s m args below meth c s₁ Bd hml0 hP hK
  obtain ⟨rfl, hZ, hh⟩ := hP
  have hx := Bd.exec
  have hby := Bd.bytes
  have hlk : meth.locks = false := BodyLoose.notSynchronized Bd
  have hml : c.maxLocals = 2 := hml0
  have hown : s.vm.findClass "com/example/libpetri/libpetri/Marking" = some m.cls := findClass_of_methodNamed Bd.named
  have hnm := (name_of_methodNamed Bd.named Bd.method).1
  have X0 : Stand p l e ({ frames := 1, cells := 0, slots := 0, locals := 12 } : Room) s m #[(.ref q1), (.ref q2)] below meth c s₁ [] 0 0 := Stand.of_body Bd
  have e0 : s₁.heap = h0 := by rw [← hh, Bd.state]; rfl
  have N0 := Fr.nil n0
  refine own_cast (K := own_K s (own_Qc Z q1 q2 h0 n0) 0 0) (ef_prog_17_1 m q1 q2) ?_
  generalize hKK : own_K s (own_Qc Z q1 q2 h0 n0) 0 0 = KK
  show own_Go p e below KK s₁ (mkF m 0 #[.val (.ref q1), .val (.ref q2)] [])
  have Kp0 : Keep h0 h0 [q1] := Keep.refl _ _
  refine own_at (fun t k => XS.aloadN X0.here hx rfl (hb hby d_prog_17_1_0) rfl rfl k) ?_
  show own_Go p e below KK s₁ (mkF m 1 #[.val (.ref q1), .val (.ref q2)] [(.ref q1)])
  obtain ⟨T1, X1, e1, st1⟩ := initO X0 hx hZ hown (hw _ (List.mem_of_getElem? (i := 13) rfl)) (hw _ (List.mem_of_getElem? (i := 14) rfl)) (hw _ (List.mem_of_getElem? (i := 15) rfl)) e0 (g := (mkF m 1 #[.val (.ref q1), .val (.ref q2)] [(.ref q1)])) rfl (by rw [hml]; rfl) rfl (hb hby d_prog_17_1_1) (by decide) (W := 0) (by show 2 * 0 + _ ≤ _; exact Nat.le_of_eq rfl) (by decide)
  refine own_of (fun t k => st1 t k) ?_
  show own_Go p e below KK T1 (mkF m 4 #[.val (.ref q1), .val (.ref q2)] [])
  refine own_at (fun t k => XS.aloadN X1.here hx rfl (hb hby d_prog_17_1_4) rfl rfl k) ?_
  show own_Go p e below KK T1 (mkF m 5 #[.val (.ref q1), .val (.ref q2)] [(.ref q1)])
  refine own_at (fun t k => XS.aloadN X1.here hx rfl (hb hby d_prog_17_1_5) rfl rfl k) ?_
  show own_Go p e below KK T1 (mkF m 6 #[.val (.ref q1), .val (.ref q2)] [(.ref q2), (.ref q1)])
  obtain ⟨T2, h2, X2, e2, W2, st2⟩ := putF X1 hx hZ hown (host := "") (Or.inl (hw _ (List.mem_of_getElem? (i := 16) rfl))) Via.refl e1 Fq Eq (Or.inr ⟨(hw _ (List.mem_of_getElem? (i := 17) rfl)), rfl, hnm⟩) (hw _ (List.mem_of_getElem? (i := 8) rfl)) (ty := (.array .long)) (by decide) rfl rfl (g := (mkF m 6 #[.val (.ref q1), .val (.ref q2)] [(.ref q2), (.ref q1)])) rfl rfl (hb hby d_prog_17_1_6)
  have N2 := Fr.snoc X2 N0 gq
  have Eq_h2 : Exa Z h2 q1 "com/example/libpetri/libpetri/Marking" := Eq.wr W2
  have Zs2 : n0 ≤ h2.size := (by rw [W2.size]; exact Z0)
  have Kp2 : Keep h0 h2 [q1] := Kp0.wr W2 (Or.inl (by simp))
  have F3_q1 : Fld Z h2 q1 "com/example/libpetri/libpetri/Marking" "tokens" "[J" (.ref q2) := Fq.same W2
  refine own_of (fun t k => st2 t k) ?_
  show own_Go p e below KK T2 (mkF m 9 #[.val (.ref q1), .val (.ref q2)] [])
  subst hKK
  exact own_retV X2 hx hlk Bd.returns (hb hby d_prog_17_1_9) ⟨rfl, N2, by rw [e2]; exact Kp2, by rw [e2]; exact Eq_h2, by rw [e2]; exact F3_q1⟩ (Nat.le_of_ble_eq_true rfl) (Nat.le_of_ble_eq_true rfl)
def own_om (w : Int64) : Int32 := if w = (-1 : Int64) then 1 else 0
theorem ef_prog_17_4 (m : MethodId) (x0 : Addr) (x1 : Int32) : entryFrame m #[(.ref x0), (.int x1)] 2 = mkF m 0 #[.val (.ref x0), .val (.int x1)] [] := by first | (simp [entryFrame, mkF, argsToLocals, Value.category]; done) | rfl
theorem d_prog_17_4_0 : decode prog_17_method_4_code 0 = .ok (.aload_n 0, 1) := by decide +kernel
theorem d_prog_17_4_1 : decode prog_17_method_4_code 1 = .ok (.getfield 7, 3) := by decide +kernel
theorem d_prog_17_4_4 : decode prog_17_method_4_code 4 = .ok (.iload_n 1, 1) := by decide +kernel
theorem d_prog_17_4_5 : decode prog_17_method_4_code 5 = .ok (.laload, 1) := by decide +kernel
theorem d_prog_17_4_6 : decode prog_17_method_4_code 6 = .ok (.ldc2_w 30, 3) := by decide +kernel
theorem d_prog_17_4_9 : decode prog_17_method_4_code 9 = .ok (.lcmp, 1) := by decide +kernel
theorem d_prog_17_4_10 : decode prog_17_method_4_code 10 = .ok (.ifCond .ne 7, 3) := by decide +kernel
theorem d_prog_17_4_13 : decode prog_17_method_4_code 13 = .ok (.iconst 1, 1) := by decide +kernel
theorem d_prog_17_4_14 : decode prog_17_method_4_code 14 = .ok (.goto 4, 3) := by decide +kernel
theorem d_prog_17_4_18 : decode prog_17_method_4_code 18 = .ok (.ireturn, 1) := by decide +kernel
theorem d_prog_17_4_17 : decode prog_17_method_4_code 17 = .ok (.iconst 0, 1) := by decide +kernel
set_option maxRecDepth 65536 in
set_option maxHeartbeats 40000000 in
theorem rm_om (l : Launch) (Z : State) (a0 : Array Value) (hw : ∀ d ∈ tables_1, d.before a0 Z = true) (ws : List Jvm.Cond) (q1 : Addr) (q2 : Int32) (q3 : Addr) (vs : List Value) (i : Nat) (w : Int64) (h0 : Heap) (n0 : Nat) (Z0 : n0 ≤ h0.size) (Fq : Fld Z h0 q1 "com/example/libpetri/libpetri/Marking" "tokens" "[J" (.ref q3)) (Aq : own_A Z h0 q3 "[J" .long vs) (hn : ¬ q2 < 0) (hi : q2.toNatClampNeg = i) (hv : vs[i]? = some (.long w)) :
    MetFree l (⟨"com/example/libpetri/libpetri/Marking", "isOmega", "(I)Z"⟩ : MethodName) (head1 (Jvm.Cond.code (⟨"com/example/libpetri/libpetri/Marking", "isOmega", "(I)Z"⟩ : MethodName) prog_17_method_4_code 2 (some .boolean) :: ws) ({ frames := 0, cells := 0, slots := 0, locals := 0 } : Room)) (fun a U => a = #[(.ref q1), (.int q2)] ∧ Z.Warmed39 U.vm ∧ U.heap = h0) (fun _ _ _ _ _ => True) (fun _ U o U' => ∃ v L, o = .returned v ∧ own_P (.int (own_om w)) h0 n0 v U'.heap L ∧ FrameEnd U o U' L ({ frames := 0, cells := 0, slots := 0, locals := 0 } : Room).cells ({ frames := 0, cells := 0, slots := 0, locals := 0 } : Room).slots) := by
  refine MetFree.of_bodySF (plainFor_of_name pn_com_example_libpetri_libpetri_Marking) hisR ?_
  intro p e s m args below meth c s₁ Bd hml0 hP hK
  obtain ⟨rfl, hZ, hh⟩ := hP
  have hx := Bd.exec
  have hby := Bd.bytes
  have hlk : meth.locks = false := BodyLoose.notSynchronized Bd
  have hml : c.maxLocals = 2 := hml0
  have hown : s.vm.findClass "com/example/libpetri/libpetri/Marking" = some m.cls := findClass_of_methodNamed Bd.named
  have hnm := (name_of_methodNamed Bd.named Bd.method).1
  have X0 : Stand p l e ({ frames := 0, cells := 0, slots := 0, locals := 0 } : Room) s m #[(.ref q1), (.int q2)] below meth c s₁ [] 0 0 := Stand.of_body Bd
  have e0 : s₁.heap = h0 := by rw [← hh, Bd.state]; rfl
  have N0 := Fr.nil n0
  refine own_cast (K := own_K s (own_P (.int (own_om w)) h0 n0) 0 0) (ef_prog_17_4 m q1 q2) ?_
  generalize hKK : own_K s (own_P (.int (own_om w)) h0 n0) 0 0 = KK
  show own_Go p e below KK s₁ (mkF m 0 #[.val (.ref q1), .val (.int q2)] [])
  refine own_at (fun t k => XS.aloadN X0.here hx rfl (hb hby d_prog_17_4_0) rfl rfl k) ?_
  show own_Go p e below KK s₁ (mkF m 1 #[.val (.ref q1), .val (.int q2)] [(.ref q1)])
  obtain ⟨T1, X1, e1, st1⟩ := getF X0 hx hZ hown (host := "") (Or.inl (hw _ (List.mem_of_getElem? (i := 16) rfl))) Via.refl e0 Fq (g := (mkF m 1 #[.val (.ref q1), .val (.int q2)] [(.ref q1)])) rfl rfl (hb hby d_prog_17_4_1)
  refine own_of (fun t k => st1 t k) ?_
  show own_Go p e below KK T1 (mkF m 4 #[.val (.ref q1), .val (.int q2)] [(.ref q3)])
  refine own_at (fun t k => XS.iloadN X1.here hx rfl (hb hby d_prog_17_4_4) rfl k) ?_
  show own_Go p e below KK T1 (mkF m 5 #[.val (.ref q1), .val (.int q2)] [(.int q2), (.ref q3)])
  refine own_at (fun t k => own_ldJ X1 hx hZ e1 Aq (j := q2) (i := i) (v := (.long w)) hn hi hv (g := (mkF m 5 #[.val (.ref q1), .val (.int q2)] [(.int q2), (.ref q3)])) rfl rfl (hb hby d_prog_17_4_5) t k) ?_
  show own_Go p e below KK T1 (mkF m 6 #[.val (.ref q1), .val (.int q2)] [(.long w)])
  refine own_at (fun t k => X1.ldc2Long hx hown (mvT hZ (hw _ (List.mem_of_getElem? (i := 23) rfl))) (g := (mkF m 6 #[.val (.ref q1), .val (.int q2)] [(.long w)])) rfl (hb hby d_prog_17_4_6) t k) ?_
  show own_Go p e below KK T1 (mkF m 9 #[.val (.ref q1), .val (.int q2)] [(.long (-1 : Int64)), (.long w)])
  refine own_at (fun t k => Jvm.Free.XT.lcmp X1.here hx rfl (hb hby d_prog_17_4_9) rfl k) ?_
  show own_Go p e below KK T1 (mkF m 10 #[.val (.ref q1), .val (.int q2)] [(.int (Jvm.Free.XT.cmpL w (-1 : Int64)))])
  by_cases hc10 : w = (-1 : Int64)
  · refine own_at (fun t k => XS.ifNo X1.here hx rfl (hb hby d_prog_17_4_10) rfl (Jvm.Free.XT.ll_ne_f hc10) k) ?_
    show own_Go p e below KK T1 (mkF m 13 #[.val (.ref q1), .val (.int q2)] [])
    refine own_at (fun t k => XS.iconst X1.here hx rfl (hb hby d_prog_17_4_13) k) ?_
    show own_Go p e below KK T1 (mkF m 14 #[.val (.ref q1), .val (.int q2)] [(.int 1)])
    refine own_at (fun t k => XS.goto X1.here hx rfl (pc0 := 14) (pc' := 18) rfl (hb hby d_prog_17_4_14) (by decide) (by decide) k) ?_
    show own_Go p e below KK T1 (mkF m 18 #[.val (.ref q1), .val (.int q2)] [(.int 1)])
    subst hKK
    exact own_retN X1 hx hlk (t := .boolean) Bd.returns (by simp) (hb hby d_prog_17_4_18) (w := (own_om w)) ((show nar .boolean (1 : Int32) = (1 : Int32) from by decide).trans (show (1 : Int32) = own_om w from by unfold own_om; rw [if_pos hc10])) ⟨rfl, N0, e1⟩ (Nat.le_of_ble_eq_true rfl) (Nat.le_of_ble_eq_true rfl)
  · refine own_at (fun t k => XS.ifYes X1.here hx rfl (pc0 := 10) (pc' := 17) rfl (hb hby d_prog_17_4_10) rfl (Jvm.Free.XT.ll_ne_t hc10) (by decide) (by decide) k) ?_
    show own_Go p e below KK T1 (mkF m 17 #[.val (.ref q1), .val (.int q2)] [])
    refine own_at (fun t k => XS.iconst X1.here hx rfl (hb hby d_prog_17_4_17) k) ?_
    show own_Go p e below KK T1 (mkF m 18 #[.val (.ref q1), .val (.int q2)] [(.int 0)])
    subst hKK
    exact own_retN X1 hx hlk (t := .boolean) Bd.returns (by simp) (hb hby d_prog_17_4_18) (w := (own_om w)) ((show nar .boolean (0 : Int32) = (0 : Int32) from by decide).trans (show (0 : Int32) = own_om w from by unfold own_om; rw [if_neg hc10])) ⟨rfl, N0, e1⟩ (Nat.le_of_ble_eq_true rfl) (Nat.le_of_ble_eq_true rfl)
theorem own_same {f k o : Int32} (a : Int64) (h : o = if (f &&& k) = (0 : Int32) then (0 : Int32) else (1 : Int32)) : own_om (own_F_method_2 o a) = o := by
  have hx := c_maskL a (9223372036854775807 : Int64) 63 (by decide) (by decide)
  have hne : ¬ (a &&& (9223372036854775807 : Int64)) = (-1 : Int64) := fun q => by
    rw [q, show (-1 : Int64).toInt = -1 from by decide] at hx; omega
  subst h
  unfold own_om own_F_method_2
  by_cases h1 : (f &&& k) = 0
  · rw [if_pos h1, if_pos rfl, if_neg hne]
  · rw [if_neg h1, if_neg (show ¬ (1 : Int32) = 0 from by decide), if_pos rfl]
theorem ef_law (m : MethodId) (x0 : Int64) (x1 : Int64) (x2 : Int64) (x3 : Int32) : entryFrame m #[(.long x0), (.long x1), (.long x2), (.int x3)] maxLocals = mkF m 0 #[.val (.long x0), .second, .val (.long x1), .second, .val (.long x2), .second, .val (.int x3), .unset, .unset, .unset, .unset, .unset, .unset, .unset, .unset] [] := by first | (simp [entryFrame, mkF, argsToLocals, Value.category, maxLocals]; done) | rfl
theorem pd__ZJ_J : parseMethodDescriptor "(ZJ)J" = some ⟨[.boolean, .long], some .long⟩ := by decide +kernel
theorem pd___J_V : parseMethodDescriptor "([J)V" = some ⟨[(.array .long)], none⟩ := by decide +kernel
theorem pd__I_Z : parseMethodDescriptor "(I)Z" = some ⟨[.int], some .boolean⟩ := by decide +kernel
def own_Q (n0 : Nat) (v : Option Value) (h : Heap) (L : List Loc) : Prop := v = some (.int 1) ∧ Fr n0 L
set_option maxRecDepth 65536 in
set_option maxHeartbeats 40000000 in
theorem rm_law (l : Launch) (Z : State) (a0 : Array Value) (hw : ∀ d ∈ tables_1, d.before a0 Z = true) (ws : List Jvm.Cond) (p1 : Int64) (p2 : Int64) (p3 : Int64) (p4 : Int32)  (h0 : Heap) (n0 : Nat) (Z0 : n0 ≤ h0.size)  :
    MetFree l x (head1 (Jvm.Cond.code x code maxLocals ret :: ws) room_1) (fun a U => a = #[(.long p1), (.long p2), (.long p3), (.int p4)] ∧ Z.Warmed39 U.vm ∧ U.heap = h0) (fun _ _ _ _ _ => True) (fun _ U o U' => ∃ v L, o = .returned v ∧ own_Q n0 v U'.heap L ∧ FrameEnd U o U' L room_1.cells room_1.slots) := by
  refine MetFree.of_bodySF (plainFor_of_name pn_com_example_libpetri_libpetri_MarkingIsOmegaPinLaw) hisR ?_
  intro p e s m args below meth c s₁ Bd hml0 hP hK
  obtain ⟨rfl, hZ, hh⟩ := hP
  have hx := Bd.exec
  have hby := Bd.bytes
  have hlk : meth.locks = false := BodyLoose.notSynchronized Bd
  have hml : c.maxLocals = 15 := hml0
  have hown : s.vm.findClass "com/example/libpetri/libpetri/MarkingIsOmegaPinLaw" = some m.cls := findClass_of_methodNamed Bd.named
  have hnm := (name_of_methodNamed Bd.named Bd.method).1
  have X0 : Stand p l e room_1 s m #[(.long p1), (.long p2), (.long p3), (.int p4)] below meth c s₁ [] 0 0 := Stand.of_body Bd
  have e0 : s₁.heap = h0 := by rw [← hh, Bd.state]; rfl
  have N0 := Fr.nil n0
  refine own_cast (K := own_K s (own_Q n0) room_1.cells room_1.slots) (ef_law m p1 p2 p3 p4) ?_
  generalize hKK : own_K s (own_Q n0) room_1.cells room_1.slots = KK
  show own_Go p e below KK s₁ (mkF m 0 #[.val (.long p1), .second, .val (.long p2), .second, .val (.long p3), .second, .val (.int p4), .unset, .unset, .unset, .unset, .unset, .unset, .unset, .unset] [])
  refine own_at (fun t k => XS.iload X0.here hx rfl (hb hby at_0) rfl k) ?_
  show own_Go p e below KK s₁ (mkF m 2 #[.val (.long p1), .second, .val (.long p2), .second, .val (.long p3), .second, .val (.int p4), .unset, .unset, .unset, .unset, .unset, .unset, .unset, .unset] [(.int p4)])
  refine own_at (fun t k => XS.iconst X0.here hx rfl (hb hby at_2) k) ?_
  show own_Go p e below KK s₁ (mkF m 3 #[.val (.long p1), .second, .val (.long p2), .second, .val (.long p3), .second, .val (.int p4), .unset, .unset, .unset, .unset, .unset, .unset, .unset, .unset] [(.int 1), (.int p4)])
  refine own_at (fun t k => XS.iand X0.here hx rfl (hb hby at_3) rfl k) ?_
  show own_Go p e below KK s₁ (mkF m 4 #[.val (.long p1), .second, .val (.long p2), .second, .val (.long p3), .second, .val (.int p4), .unset, .unset, .unset, .unset, .unset, .unset, .unset, .unset] [(.int (p4 &&& (1 : Int32)))])
  have j4 : own_Go p e below KK s₁ (mkF m 12 #[.val (.long p1), .second, .val (.long p2), .second, .val (.long p3), .second, .val (.int p4), .unset, .unset, .unset, .unset, .unset, .unset, .unset, .unset] [(.int (if (p4 &&& (1 : Int32)) = (0 : Int32) then (0 : Int32) else (1 : Int32)))]) → own_Go p e below KK s₁ (mkF m 4 #[.val (.long p1), .second, .val (.long p2), .second, .val (.long p3), .second, .val (.int p4), .unset, .unset, .unset, .unset, .unset, .unset, .unset, .unset] [(.int (p4 &&& (1 : Int32)))]) := by
    intro kj
    by_cases hc4 : (p4 &&& (1 : Int32)) = (0 : Int32)
    · rw [if_pos hc4] at kj
      refine own_at (fun t k => XS.ifYes X0.here hx rfl (pc0 := 4) (pc' := 11) rfl (hb hby at_4) rfl (Jvm.Free.XT.i0_eq_t hc4) (by decide) (by decide) k) ?_
      show own_Go p e below KK s₁ (mkF m 11 #[.val (.long p1), .second, .val (.long p2), .second, .val (.long p3), .second, .val (.int p4), .unset, .unset, .unset, .unset, .unset, .unset, .unset, .unset] [])
      refine own_at (fun t k => XS.iconst X0.here hx rfl (hb hby at_11) k) ?_
      show own_Go p e below KK s₁ (mkF m 12 #[.val (.long p1), .second, .val (.long p2), .second, .val (.long p3), .second, .val (.int p4), .unset, .unset, .unset, .unset, .unset, .unset, .unset, .unset] [(.int 0)])
      exact kj
    · rw [if_neg hc4] at kj
      refine own_at (fun t k => XS.ifNo X0.here hx rfl (hb hby at_4) rfl (Jvm.Free.XT.i0_eq_f hc4) k) ?_
      show own_Go p e below KK s₁ (mkF m 7 #[.val (.long p1), .second, .val (.long p2), .second, .val (.long p3), .second, .val (.int p4), .unset, .unset, .unset, .unset, .unset, .unset, .unset, .unset] [])
      refine own_at (fun t k => XS.iconst X0.here hx rfl (hb hby at_7) k) ?_
      show own_Go p e below KK s₁ (mkF m 8 #[.val (.long p1), .second, .val (.long p2), .second, .val (.long p3), .second, .val (.int p4), .unset, .unset, .unset, .unset, .unset, .unset, .unset, .unset] [(.int 1)])
      refine own_at (fun t k => XS.goto X0.here hx rfl (pc0 := 8) (pc' := 12) rfl (hb hby at_8) (by decide) (by decide) k) ?_
      show own_Go p e below KK s₁ (mkF m 12 #[.val (.long p1), .second, .val (.long p2), .second, .val (.long p3), .second, .val (.int p4), .unset, .unset, .unset, .unset, .unset, .unset, .unset, .unset] [(.int 1)])
      exact kj
  refine j4 ?_
  show own_Go p e below KK s₁ (mkF m 12 #[.val (.long p1), .second, .val (.long p2), .second, .val (.long p3), .second, .val (.int p4), .unset, .unset, .unset, .unset, .unset, .unset, .unset, .unset] [(.int (if (p4 &&& (1 : Int32)) = (0 : Int32) then (0 : Int32) else (1 : Int32)))])
  obtain ⟨oa, hoa⟩ : ∃ z, z = (if (p4 &&& (1 : Int32)) = (0 : Int32) then (0 : Int32) else (1 : Int32)) := ⟨_, rfl⟩
  rw [← hoa]
  show own_Go p e below KK s₁ (mkF m 12 #[.val (.long p1), .second, .val (.long p2), .second, .val (.long p3), .second, .val (.int p4), .unset, .unset, .unset, .unset, .unset, .unset, .unset, .unset] [(.int oa)])
  refine own_at (fun t k => XS.istore X0.here hx rfl (hb hby at_12) rfl (l' := #[.val (.long p1), .second, .val (.long p2), .second, .val (.long p3), .second, .val (.int p4), .val (.int oa), .unset, .unset, .unset, .unset, .unset, .unset, .unset]) rfl k) ?_
  show own_Go p e below KK s₁ (mkF m 14 #[.val (.long p1), .second, .val (.long p2), .second, .val (.long p3), .second, .val (.int p4), .val (.int oa), .unset, .unset, .unset, .unset, .unset, .unset, .unset] [])
  refine own_at (fun t k => XS.iload X0.here hx rfl (hb hby at_14) rfl k) ?_
  show own_Go p e below KK s₁ (mkF m 16 #[.val (.long p1), .second, .val (.long p2), .second, .val (.long p3), .second, .val (.int p4), .val (.int oa), .unset, .unset, .unset, .unset, .unset, .unset, .unset] [(.int p4)])
  refine own_at (fun t k => XS.iconst X0.here hx rfl (hb hby at_16) k) ?_
  show own_Go p e below KK s₁ (mkF m 17 #[.val (.long p1), .second, .val (.long p2), .second, .val (.long p3), .second, .val (.int p4), .val (.int oa), .unset, .unset, .unset, .unset, .unset, .unset, .unset] [(.int 2), (.int p4)])
  refine own_at (fun t k => XS.iand X0.here hx rfl (hb hby at_17) rfl k) ?_
  show own_Go p e below KK s₁ (mkF m 18 #[.val (.long p1), .second, .val (.long p2), .second, .val (.long p3), .second, .val (.int p4), .val (.int oa), .unset, .unset, .unset, .unset, .unset, .unset, .unset] [(.int (p4 &&& (2 : Int32)))])
  have j18 : own_Go p e below KK s₁ (mkF m 26 #[.val (.long p1), .second, .val (.long p2), .second, .val (.long p3), .second, .val (.int p4), .val (.int oa), .unset, .unset, .unset, .unset, .unset, .unset, .unset] [(.int (if (p4 &&& (2 : Int32)) = (0 : Int32) then (0 : Int32) else (1 : Int32)))]) → own_Go p e below KK s₁ (mkF m 18 #[.val (.long p1), .second, .val (.long p2), .second, .val (.long p3), .second, .val (.int p4), .val (.int oa), .unset, .unset, .unset, .unset, .unset, .unset, .unset] [(.int (p4 &&& (2 : Int32)))]) := by
    intro kj
    by_cases hc18 : (p4 &&& (2 : Int32)) = (0 : Int32)
    · rw [if_pos hc18] at kj
      refine own_at (fun t k => XS.ifYes X0.here hx rfl (pc0 := 18) (pc' := 25) rfl (hb hby at_18) rfl (Jvm.Free.XT.i0_eq_t hc18) (by decide) (by decide) k) ?_
      show own_Go p e below KK s₁ (mkF m 25 #[.val (.long p1), .second, .val (.long p2), .second, .val (.long p3), .second, .val (.int p4), .val (.int oa), .unset, .unset, .unset, .unset, .unset, .unset, .unset] [])
      refine own_at (fun t k => XS.iconst X0.here hx rfl (hb hby at_25) k) ?_
      show own_Go p e below KK s₁ (mkF m 26 #[.val (.long p1), .second, .val (.long p2), .second, .val (.long p3), .second, .val (.int p4), .val (.int oa), .unset, .unset, .unset, .unset, .unset, .unset, .unset] [(.int 0)])
      exact kj
    · rw [if_neg hc18] at kj
      refine own_at (fun t k => XS.ifNo X0.here hx rfl (hb hby at_18) rfl (Jvm.Free.XT.i0_eq_f hc18) k) ?_
      show own_Go p e below KK s₁ (mkF m 21 #[.val (.long p1), .second, .val (.long p2), .second, .val (.long p3), .second, .val (.int p4), .val (.int oa), .unset, .unset, .unset, .unset, .unset, .unset, .unset] [])
      refine own_at (fun t k => XS.iconst X0.here hx rfl (hb hby at_21) k) ?_
      show own_Go p e below KK s₁ (mkF m 22 #[.val (.long p1), .second, .val (.long p2), .second, .val (.long p3), .second, .val (.int p4), .val (.int oa), .unset, .unset, .unset, .unset, .unset, .unset, .unset] [(.int 1)])
      refine own_at (fun t k => XS.goto X0.here hx rfl (pc0 := 22) (pc' := 26) rfl (hb hby at_22) (by decide) (by decide) k) ?_
      show own_Go p e below KK s₁ (mkF m 26 #[.val (.long p1), .second, .val (.long p2), .second, .val (.long p3), .second, .val (.int p4), .val (.int oa), .unset, .unset, .unset, .unset, .unset, .unset, .unset] [(.int 1)])
      exact kj
  refine j18 ?_
  show own_Go p e below KK s₁ (mkF m 26 #[.val (.long p1), .second, .val (.long p2), .second, .val (.long p3), .second, .val (.int p4), .val (.int oa), .unset, .unset, .unset, .unset, .unset, .unset, .unset] [(.int (if (p4 &&& (2 : Int32)) = (0 : Int32) then (0 : Int32) else (1 : Int32)))])
  obtain ⟨ob, hob⟩ : ∃ z, z = (if (p4 &&& (2 : Int32)) = (0 : Int32) then (0 : Int32) else (1 : Int32)) := ⟨_, rfl⟩
  rw [← hob]
  show own_Go p e below KK s₁ (mkF m 26 #[.val (.long p1), .second, .val (.long p2), .second, .val (.long p3), .second, .val (.int p4), .val (.int oa), .unset, .unset, .unset, .unset, .unset, .unset, .unset] [(.int ob)])
  refine own_at (fun t k => XS.istore X0.here hx rfl (hb hby at_26) rfl (l' := #[.val (.long p1), .second, .val (.long p2), .second, .val (.long p3), .second, .val (.int p4), .val (.int oa), .val (.int ob), .unset, .unset, .unset, .unset, .unset, .unset]) rfl k) ?_
  show own_Go p e below KK s₁ (mkF m 28 #[.val (.long p1), .second, .val (.long p2), .second, .val (.long p3), .second, .val (.int p4), .val (.int oa), .val (.int ob), .unset, .unset, .unset, .unset, .unset, .unset] [])
  refine own_at (fun t k => XS.iload X0.here hx rfl (hb hby at_28) rfl k) ?_
  show own_Go p e below KK s₁ (mkF m 30 #[.val (.long p1), .second, .val (.long p2), .second, .val (.long p3), .second, .val (.int p4), .val (.int oa), .val (.int ob), .unset, .unset, .unset, .unset, .unset, .unset] [(.int p4)])
  refine own_at (fun t k => XS.iconst X0.here hx rfl (hb hby at_30) k) ?_
  show own_Go p e below KK s₁ (mkF m 31 #[.val (.long p1), .second, .val (.long p2), .second, .val (.long p3), .second, .val (.int p4), .val (.int oa), .val (.int ob), .unset, .unset, .unset, .unset, .unset, .unset] [(.int 4), (.int p4)])
  refine own_at (fun t k => XS.iand X0.here hx rfl (hb hby at_31) rfl k) ?_
  show own_Go p e below KK s₁ (mkF m 32 #[.val (.long p1), .second, .val (.long p2), .second, .val (.long p3), .second, .val (.int p4), .val (.int oa), .val (.int ob), .unset, .unset, .unset, .unset, .unset, .unset] [(.int (p4 &&& (4 : Int32)))])
  have j32 : own_Go p e below KK s₁ (mkF m 40 #[.val (.long p1), .second, .val (.long p2), .second, .val (.long p3), .second, .val (.int p4), .val (.int oa), .val (.int ob), .unset, .unset, .unset, .unset, .unset, .unset] [(.int (if (p4 &&& (4 : Int32)) = (0 : Int32) then (0 : Int32) else (1 : Int32)))]) → own_Go p e below KK s₁ (mkF m 32 #[.val (.long p1), .second, .val (.long p2), .second, .val (.long p3), .second, .val (.int p4), .val (.int oa), .val (.int ob), .unset, .unset, .unset, .unset, .unset, .unset] [(.int (p4 &&& (4 : Int32)))]) := by
    intro kj
    by_cases hc32 : (p4 &&& (4 : Int32)) = (0 : Int32)
    · rw [if_pos hc32] at kj
      refine own_at (fun t k => XS.ifYes X0.here hx rfl (pc0 := 32) (pc' := 39) rfl (hb hby at_32) rfl (Jvm.Free.XT.i0_eq_t hc32) (by decide) (by decide) k) ?_
      show own_Go p e below KK s₁ (mkF m 39 #[.val (.long p1), .second, .val (.long p2), .second, .val (.long p3), .second, .val (.int p4), .val (.int oa), .val (.int ob), .unset, .unset, .unset, .unset, .unset, .unset] [])
      refine own_at (fun t k => XS.iconst X0.here hx rfl (hb hby at_39) k) ?_
      show own_Go p e below KK s₁ (mkF m 40 #[.val (.long p1), .second, .val (.long p2), .second, .val (.long p3), .second, .val (.int p4), .val (.int oa), .val (.int ob), .unset, .unset, .unset, .unset, .unset, .unset] [(.int 0)])
      exact kj
    · rw [if_neg hc32] at kj
      refine own_at (fun t k => XS.ifNo X0.here hx rfl (hb hby at_32) rfl (Jvm.Free.XT.i0_eq_f hc32) k) ?_
      show own_Go p e below KK s₁ (mkF m 35 #[.val (.long p1), .second, .val (.long p2), .second, .val (.long p3), .second, .val (.int p4), .val (.int oa), .val (.int ob), .unset, .unset, .unset, .unset, .unset, .unset] [])
      refine own_at (fun t k => XS.iconst X0.here hx rfl (hb hby at_35) k) ?_
      show own_Go p e below KK s₁ (mkF m 36 #[.val (.long p1), .second, .val (.long p2), .second, .val (.long p3), .second, .val (.int p4), .val (.int oa), .val (.int ob), .unset, .unset, .unset, .unset, .unset, .unset] [(.int 1)])
      refine own_at (fun t k => XS.goto X0.here hx rfl (pc0 := 36) (pc' := 40) rfl (hb hby at_36) (by decide) (by decide) k) ?_
      show own_Go p e below KK s₁ (mkF m 40 #[.val (.long p1), .second, .val (.long p2), .second, .val (.long p3), .second, .val (.int p4), .val (.int oa), .val (.int ob), .unset, .unset, .unset, .unset, .unset, .unset] [(.int 1)])
      exact kj
  refine j32 ?_
  show own_Go p e below KK s₁ (mkF m 40 #[.val (.long p1), .second, .val (.long p2), .second, .val (.long p3), .second, .val (.int p4), .val (.int oa), .val (.int ob), .unset, .unset, .unset, .unset, .unset, .unset] [(.int (if (p4 &&& (4 : Int32)) = (0 : Int32) then (0 : Int32) else (1 : Int32)))])
  obtain ⟨oc, hoc⟩ : ∃ z, z = (if (p4 &&& (4 : Int32)) = (0 : Int32) then (0 : Int32) else (1 : Int32)) := ⟨_, rfl⟩
  rw [← hoc]
  show own_Go p e below KK s₁ (mkF m 40 #[.val (.long p1), .second, .val (.long p2), .second, .val (.long p3), .second, .val (.int p4), .val (.int oa), .val (.int ob), .unset, .unset, .unset, .unset, .unset, .unset] [(.int oc)])
  refine own_at (fun t k => XS.istore X0.here hx rfl (hb hby at_40) rfl (l' := #[.val (.long p1), .second, .val (.long p2), .second, .val (.long p3), .second, .val (.int p4), .val (.int oa), .val (.int ob), .val (.int oc), .unset, .unset, .unset, .unset, .unset]) rfl k) ?_
  show own_Go p e below KK s₁ (mkF m 42 #[.val (.long p1), .second, .val (.long p2), .second, .val (.long p3), .second, .val (.int p4), .val (.int oa), .val (.int ob), .val (.int oc), .unset, .unset, .unset, .unset, .unset] [])
  refine own_at (fun t k => XS.iconst X0.here hx rfl (hb hby at_42) k) ?_
  show own_Go p e below KK s₁ (mkF m 43 #[.val (.long p1), .second, .val (.long p2), .second, .val (.long p3), .second, .val (.int p4), .val (.int oa), .val (.int ob), .val (.int oc), .unset, .unset, .unset, .unset, .unset] [(.int 3)])
  obtain ⟨T1, h1, X1, e1, E1, V1, st1⟩ := own_newA X0 hx hZ (hw _ (List.mem_of_getElem? (i := 0) rfl)) e0 (g := (mkF m 43 #[.val (.long p1), .second, .val (.long p2), .second, .val (.long p3), .second, .val (.int p4), .val (.int oa), .val (.int ob), .val (.int oc), .unset, .unset, .unset, .unset, .unset] [(.int 3)])) rfl (hb hby at_43) rfl (by decide) (N := 3) (by decide) (cap := 3) (by decide) (by decide) (by decide) (by decide) (d := "[J") (by first | rfl | decide +kernel) (vs := [(.long 0), (.long 0), (.long 0)]) rfl
  obtain ⟨b1, g1⟩ : ∃ z, z = h0.size := ⟨_, rfl⟩
  rw [← g1] at V1 st1
  have g_b1 : n0 ≤ b1 := by rw [g1]; exact Z0
  have Zs1 : n0 ≤ h1.size := Nat.le_trans Z0 E1.1
  have A2_b1 : own_A Z h1 b1 "[J" .long [(.long 0), (.long 0), (.long 0)] := V1
  refine own_of (fun t k => st1 t k) ?_
  show own_Go p e below KK T1 (mkF m 45 #[.val (.long p1), .second, .val (.long p2), .second, .val (.long p3), .second, .val (.int p4), .val (.int oa), .val (.int ob), .val (.int oc), .unset, .unset, .unset, .unset, .unset] [(.ref b1)])
  refine own_at (fun t k => XS.astore X1.here hx rfl (hb hby at_45) rfl rfl (l' := #[.val (.long p1), .second, .val (.long p2), .second, .val (.long p3), .second, .val (.int p4), .val (.int oa), .val (.int ob), .val (.int oc), .val (.ref b1), .unset, .unset, .unset, .unset]) rfl k) ?_
  show own_Go p e below KK T1 (mkF m 47 #[.val (.long p1), .second, .val (.long p2), .second, .val (.long p3), .second, .val (.int p4), .val (.int oa), .val (.int ob), .val (.int oc), .val (.ref b1), .unset, .unset, .unset, .unset] [])
  refine own_at (fun t k => XS.aload X1.here hx rfl (hb hby at_47) rfl rfl k) ?_
  show own_Go p e below KK T1 (mkF m 49 #[.val (.long p1), .second, .val (.long p2), .second, .val (.long p3), .second, .val (.int p4), .val (.int oa), .val (.int ob), .val (.int oc), .val (.ref b1), .unset, .unset, .unset, .unset] [(.ref b1)])
  refine own_at (fun t k => XS.iconst X1.here hx rfl (hb hby at_49) k) ?_
  show own_Go p e below KK T1 (mkF m 50 #[.val (.long p1), .second, .val (.long p2), .second, .val (.long p3), .second, .val (.int p4), .val (.int oa), .val (.int ob), .val (.int oc), .val (.ref b1), .unset, .unset, .unset, .unset] [(.int 0), (.ref b1)])
  refine own_at (fun t k => XS.iload X1.here hx rfl (hb hby at_50) rfl k) ?_
  show own_Go p e below KK T1 (mkF m 52 #[.val (.long p1), .second, .val (.long p2), .second, .val (.long p3), .second, .val (.int p4), .val (.int oa), .val (.int ob), .val (.int oc), .val (.ref b1), .unset, .unset, .unset, .unset] [(.int oa), (.int 0), (.ref b1)])
  refine own_at (fun t k => XS.lloadN X1.here hx rfl (hb hby at_52) rfl k) ?_
  show own_Go p e below KK T1 (mkF m 53 #[.val (.long p1), .second, .val (.long p2), .second, .val (.long p3), .second, .val (.int p4), .val (.int oa), .val (.int ob), .val (.int oc), .val (.ref b1), .unset, .unset, .unset, .unset] [(.long p1), (.int oa), (.int 0), (.ref b1)])
  obtain ⟨_, _, ⟨T3, L3, k3, n3⟩, -, X3, ⟨Lc3, hQ3, l3, y3, z3⟩, st3⟩ := Jvm.LawKit.callS X1 hx (y := (⟨"com/example/libpetri/libpetri/MarkingIsOmegaPinLaw", "entry", "(ZJ)J"⟩ : MethodName)) hown (mvT hZ (hw _ (List.mem_of_getElem? (i := 1) rfl))) (mvT hZ (hw _ (List.mem_of_getElem? (i := 2) rfl))) (mvT hZ (hw _ (List.mem_of_getElem? (i := 3) rfl))) (mvT hZ (hw _ (List.mem_of_getElem? (i := 4) rfl))) (by decide) (backOf (W := 2) (rm_method_2 l Z a0 hw [] oa p1  h1 n0 Zs1 ) hZ (hw _ (List.mem_of_getElem? (i := 4) rfl)) (hw _ (List.mem_of_getElem? (i := 3) rfl)) (by decide) (by decide)) (g := (mkF m 53 #[.val (.long p1), .second, .val (.long p2), .second, .val (.long p3), .second, .val (.int p4), .val (.int oa), .val (.int ob), .val (.int oc), .val (.ref b1), .unset, .unset, .unset, .unset] [(.long p1), (.int oa), (.int 0), (.ref b1)])) rfl (by rw [hml]; rfl) (argsL := [(.int oa), (.long p1)]) (rest := [(.int 0), (.ref b1)]) (lenOf pd__ZJ_J rfl) rfl (by show 2 * 0 + _ ≤ _; exact Nat.le_of_eq rfl) (hb hby at_53) (fun _ _ => ⟨rfl, e1, (by decide : 1 + 0 ≤ _), (by decide : 3 + 0 ≤ _)⟩)
  dsimp only [Pt.U, Pt.locs, Pt.cells, Pt.slots] at X3 l3 y3 z3 st3 hQ3
  subst l3 y3 z3
  obtain ⟨rfl, N3q, e3⟩ := hQ3
  have N3 := Fr.app N0 N3q
  refine own_of (fun t k => st3 t k) ?_
  show own_Go p e below KK T3 (mkF m 56 #[.val (.long p1), .second, .val (.long p2), .second, .val (.long p3), .second, .val (.int p4), .val (.int oa), .val (.int ob), .val (.int oc), .val (.ref b1), .unset, .unset, .unset, .unset] [(.long (own_F_method_2 oa p1)), (.int 0), (.ref b1)])
  obtain ⟨T4, h4, X4, e4, W4, V4, st4⟩ := own_stJ X3 hx hZ e3 A2_b1 (j := (0 : Int32)) (i := 0) (by decide) (by decide) (show (0 : Nat) < 3 from by decide) (g := (mkF m 56 #[.val (.long p1), .second, .val (.long p2), .second, .val (.long p3), .second, .val (.int p4), .val (.int oa), .val (.int ob), .val (.int oc), .val (.ref b1), .unset, .unset, .unset, .unset] [(.long (own_F_method_2 oa p1)), (.int 0), (.ref b1)])) rfl rfl (hb hby at_56)
  have N4 := Fr.snoc X4 N3 g_b1
  have Zs4 : n0 ≤ h4.size := (by rw [W4.size]; exact Zs1)
  have A5_b1 : own_A Z h4 b1 "[J" .long [(.long (own_F_method_2 oa p1)), (.long 0), (.long 0)] := V4
  refine own_of (fun t k => st4 t k) ?_
  show own_Go p e below KK T4 (mkF m 57 #[.val (.long p1), .second, .val (.long p2), .second, .val (.long p3), .second, .val (.int p4), .val (.int oa), .val (.int ob), .val (.int oc), .val (.ref b1), .unset, .unset, .unset, .unset] [])
  refine own_at (fun t k => XS.aload X4.here hx rfl (hb hby at_57) rfl rfl k) ?_
  show own_Go p e below KK T4 (mkF m 59 #[.val (.long p1), .second, .val (.long p2), .second, .val (.long p3), .second, .val (.int p4), .val (.int oa), .val (.int ob), .val (.int oc), .val (.ref b1), .unset, .unset, .unset, .unset] [(.ref b1)])
  refine own_at (fun t k => XS.iconst X4.here hx rfl (hb hby at_59) k) ?_
  show own_Go p e below KK T4 (mkF m 60 #[.val (.long p1), .second, .val (.long p2), .second, .val (.long p3), .second, .val (.int p4), .val (.int oa), .val (.int ob), .val (.int oc), .val (.ref b1), .unset, .unset, .unset, .unset] [(.int 1), (.ref b1)])
  refine own_at (fun t k => XS.iload X4.here hx rfl (hb hby at_60) rfl k) ?_
  show own_Go p e below KK T4 (mkF m 62 #[.val (.long p1), .second, .val (.long p2), .second, .val (.long p3), .second, .val (.int p4), .val (.int oa), .val (.int ob), .val (.int oc), .val (.ref b1), .unset, .unset, .unset, .unset] [(.int ob), (.int 1), (.ref b1)])
  refine own_at (fun t k => XS.lloadN X4.here hx rfl (hb hby at_62) rfl k) ?_
  show own_Go p e below KK T4 (mkF m 63 #[.val (.long p1), .second, .val (.long p2), .second, .val (.long p3), .second, .val (.int p4), .val (.int oa), .val (.int ob), .val (.int oc), .val (.ref b1), .unset, .unset, .unset, .unset] [(.long p2), (.int ob), (.int 1), (.ref b1)])
  obtain ⟨_, _, ⟨T6, L6, k6, n6⟩, -, X6, ⟨Lc6, hQ6, l6, y6, z6⟩, st6⟩ := Jvm.LawKit.callS X4 hx (y := (⟨"com/example/libpetri/libpetri/MarkingIsOmegaPinLaw", "entry", "(ZJ)J"⟩ : MethodName)) hown (mvT hZ (hw _ (List.mem_of_getElem? (i := 1) rfl))) (mvT hZ (hw _ (List.mem_of_getElem? (i := 2) rfl))) (mvT hZ (hw _ (List.mem_of_getElem? (i := 3) rfl))) (mvT hZ (hw _ (List.mem_of_getElem? (i := 4) rfl))) (by decide) (backOf (W := 2) (rm_method_2 l Z a0 hw [] ob p2  h4 n0 Zs4 ) hZ (hw _ (List.mem_of_getElem? (i := 4) rfl)) (hw _ (List.mem_of_getElem? (i := 3) rfl)) (by decide) (by decide)) (g := (mkF m 63 #[.val (.long p1), .second, .val (.long p2), .second, .val (.long p3), .second, .val (.int p4), .val (.int oa), .val (.int ob), .val (.int oc), .val (.ref b1), .unset, .unset, .unset, .unset] [(.long p2), (.int ob), (.int 1), (.ref b1)])) rfl (by rw [hml]; rfl) (argsL := [(.int ob), (.long p2)]) (rest := [(.int 1), (.ref b1)]) (lenOf pd__ZJ_J rfl) rfl (by show 2 * 0 + _ ≤ _; exact Nat.le_of_eq rfl) (hb hby at_63) (fun _ _ => ⟨rfl, e4, (by decide : 1 + 0 ≤ _), (by decide : 3 + 0 ≤ _)⟩)
  dsimp only [Pt.U, Pt.locs, Pt.cells, Pt.slots] at X6 l6 y6 z6 st6 hQ6
  subst l6 y6 z6
  obtain ⟨rfl, N6q, e6⟩ := hQ6
  have N6 := Fr.app N4 N6q
  refine own_of (fun t k => st6 t k) ?_
  show own_Go p e below KK T6 (mkF m 66 #[.val (.long p1), .second, .val (.long p2), .second, .val (.long p3), .second, .val (.int p4), .val (.int oa), .val (.int ob), .val (.int oc), .val (.ref b1), .unset, .unset, .unset, .unset] [(.long (own_F_method_2 ob p2)), (.int 1), (.ref b1)])
  obtain ⟨T7, h7, X7, e7, W7, V7, st7⟩ := own_stJ X6 hx hZ e6 A5_b1 (j := (1 : Int32)) (i := 1) (by decide) (by decide) (show (1 : Nat) < 3 from by decide) (g := (mkF m 66 #[.val (.long p1), .second, .val (.long p2), .second, .val (.long p3), .second, .val (.int p4), .val (.int oa), .val (.int ob), .val (.int oc), .val (.ref b1), .unset, .unset, .unset, .unset] [(.long (own_F_method_2 ob p2)), (.int 1), (.ref b1)])) rfl rfl (hb hby at_66)
  have N7 := Fr.snoc X7 N6 g_b1
  have Zs7 : n0 ≤ h7.size := (by rw [W7.size]; exact Zs4)
  have A8_b1 : own_A Z h7 b1 "[J" .long [(.long (own_F_method_2 oa p1)), (.long (own_F_method_2 ob p2)), (.long 0)] := V7
  refine own_of (fun t k => st7 t k) ?_
  show own_Go p e below KK T7 (mkF m 67 #[.val (.long p1), .second, .val (.long p2), .second, .val (.long p3), .second, .val (.int p4), .val (.int oa), .val (.int ob), .val (.int oc), .val (.ref b1), .unset, .unset, .unset, .unset] [])
  refine own_at (fun t k => XS.aload X7.here hx rfl (hb hby at_67) rfl rfl k) ?_
  show own_Go p e below KK T7 (mkF m 69 #[.val (.long p1), .second, .val (.long p2), .second, .val (.long p3), .second, .val (.int p4), .val (.int oa), .val (.int ob), .val (.int oc), .val (.ref b1), .unset, .unset, .unset, .unset] [(.ref b1)])
  refine own_at (fun t k => XS.iconst X7.here hx rfl (hb hby at_69) k) ?_
  show own_Go p e below KK T7 (mkF m 70 #[.val (.long p1), .second, .val (.long p2), .second, .val (.long p3), .second, .val (.int p4), .val (.int oa), .val (.int ob), .val (.int oc), .val (.ref b1), .unset, .unset, .unset, .unset] [(.int 2), (.ref b1)])
  refine own_at (fun t k => XS.iload X7.here hx rfl (hb hby at_70) rfl k) ?_
  show own_Go p e below KK T7 (mkF m 72 #[.val (.long p1), .second, .val (.long p2), .second, .val (.long p3), .second, .val (.int p4), .val (.int oa), .val (.int ob), .val (.int oc), .val (.ref b1), .unset, .unset, .unset, .unset] [(.int oc), (.int 2), (.ref b1)])
  refine own_at (fun t k => XS.lload X7.here hx rfl (hb hby at_72) rfl k) ?_
  show own_Go p e below KK T7 (mkF m 74 #[.val (.long p1), .second, .val (.long p2), .second, .val (.long p3), .second, .val (.int p4), .val (.int oa), .val (.int ob), .val (.int oc), .val (.ref b1), .unset, .unset, .unset, .unset] [(.long p3), (.int oc), (.int 2), (.ref b1)])
  obtain ⟨_, _, ⟨T9, L9, k9, n9⟩, -, X9, ⟨Lc9, hQ9, l9, y9, z9⟩, st9⟩ := Jvm.LawKit.callS X7 hx (y := (⟨"com/example/libpetri/libpetri/MarkingIsOmegaPinLaw", "entry", "(ZJ)J"⟩ : MethodName)) hown (mvT hZ (hw _ (List.mem_of_getElem? (i := 1) rfl))) (mvT hZ (hw _ (List.mem_of_getElem? (i := 2) rfl))) (mvT hZ (hw _ (List.mem_of_getElem? (i := 3) rfl))) (mvT hZ (hw _ (List.mem_of_getElem? (i := 4) rfl))) (by decide) (backOf (W := 2) (rm_method_2 l Z a0 hw [] oc p3  h7 n0 Zs7 ) hZ (hw _ (List.mem_of_getElem? (i := 4) rfl)) (hw _ (List.mem_of_getElem? (i := 3) rfl)) (by decide) (by decide)) (g := (mkF m 74 #[.val (.long p1), .second, .val (.long p2), .second, .val (.long p3), .second, .val (.int p4), .val (.int oa), .val (.int ob), .val (.int oc), .val (.ref b1), .unset, .unset, .unset, .unset] [(.long p3), (.int oc), (.int 2), (.ref b1)])) rfl (by rw [hml]; rfl) (argsL := [(.int oc), (.long p3)]) (rest := [(.int 2), (.ref b1)]) (lenOf pd__ZJ_J rfl) rfl (by show 2 * 0 + _ ≤ _; exact Nat.le_of_eq rfl) (hb hby at_74) (fun _ _ => ⟨rfl, e7, (by decide : 1 + 0 ≤ _), (by decide : 3 + 0 ≤ _)⟩)
  dsimp only [Pt.U, Pt.locs, Pt.cells, Pt.slots] at X9 l9 y9 z9 st9 hQ9
  subst l9 y9 z9
  obtain ⟨rfl, N9q, e9⟩ := hQ9
  have N9 := Fr.app N7 N9q
  refine own_of (fun t k => st9 t k) ?_
  show own_Go p e below KK T9 (mkF m 77 #[.val (.long p1), .second, .val (.long p2), .second, .val (.long p3), .second, .val (.int p4), .val (.int oa), .val (.int ob), .val (.int oc), .val (.ref b1), .unset, .unset, .unset, .unset] [(.long (own_F_method_2 oc p3)), (.int 2), (.ref b1)])
  obtain ⟨T10, h10, X10, e10, W10, V10, st10⟩ := own_stJ X9 hx hZ e9 A8_b1 (j := (2 : Int32)) (i := 2) (by decide) (by decide) (show (2 : Nat) < 3 from by decide) (g := (mkF m 77 #[.val (.long p1), .second, .val (.long p2), .second, .val (.long p3), .second, .val (.int p4), .val (.int oa), .val (.int ob), .val (.int oc), .val (.ref b1), .unset, .unset, .unset, .unset] [(.long (own_F_method_2 oc p3)), (.int 2), (.ref b1)])) rfl rfl (hb hby at_77)
  have N10 := Fr.snoc X10 N9 g_b1
  have Zs10 : n0 ≤ h10.size := (by rw [W10.size]; exact Zs7)
  have A11_b1 : own_A Z h10 b1 "[J" .long [(.long (own_F_method_2 oa p1)), (.long (own_F_method_2 ob p2)), (.long (own_F_method_2 oc p3))] := V10
  refine own_of (fun t k => st10 t k) ?_
  show own_Go p e below KK T10 (mkF m 78 #[.val (.long p1), .second, .val (.long p2), .second, .val (.long p3), .second, .val (.int p4), .val (.int oa), .val (.int ob), .val (.int oc), .val (.ref b1), .unset, .unset, .unset, .unset] [])
  obtain ⟨T12, h12, X12, e12, E12, A12, D12, -, st12⟩ := newO X10 hx hZ hown (hw _ (List.mem_of_getElem? (i := 7) rfl)) (hw _ (List.mem_of_getElem? (i := 8) rfl)) (hw _ (List.mem_of_getElem? (i := 9) rfl)) e10 (g := (mkF m 78 #[.val (.long p1), .second, .val (.long p2), .second, .val (.long p3), .second, .val (.int p4), .val (.int oa), .val (.int ob), .val (.int oc), .val (.ref b1), .unset, .unset, .unset, .unset] [])) rfl (hb hby at_78) (by decide) (by decide)
  obtain ⟨b12, g12⟩ : ∃ z, z = h10.size := ⟨_, rfl⟩
  rw [← g12] at A12 D12 st12
  have ne_b1_b12 : b1 ≠ b12 := by rw [g12]; exact Nat.ne_of_lt A11_b1.lt
  have g_b12 : n0 ≤ b12 := by rw [g12]; exact Zs10
  have A11_b1_h12 : own_A Z h12 b1 "[J" .long [(.long (own_F_method_2 oa p1)), (.long (own_F_method_2 ob p2)), (.long (own_F_method_2 oc p3))] := A11_b1.ext E12
  have Zs12 : n0 ≤ h12.size := Nat.le_trans Zs10 E12.1
  have E13_b12 : Exa Z h12 b12 "com/example/libpetri/libpetri/Marking" := A12
  have F14_b12 : Fld Z h12 b12 "com/example/libpetri/libpetri/Marking" "tokens" "[J" .null := D12 (Or.inr (hw _ (List.mem_of_getElem? (i := 17) rfl))) (ty := (.array .long)) (by decide)
  refine own_of (fun t k => st12 t k) ?_
  show own_Go p e below KK T12 (mkF m 81 #[.val (.long p1), .second, .val (.long p2), .second, .val (.long p3), .second, .val (.int p4), .val (.int oa), .val (.int ob), .val (.int oc), .val (.ref b1), .unset, .unset, .unset, .unset] [(.ref b12)])
  refine own_at (fun t k => XS.dup X12.here hx rfl (hb hby at_81) rfl rfl k) ?_
  show own_Go p e below KK T12 (mkF m 82 #[.val (.long p1), .second, .val (.long p2), .second, .val (.long p3), .second, .val (.int p4), .val (.int oa), .val (.int ob), .val (.int oc), .val (.ref b1), .unset, .unset, .unset, .unset] [(.ref b12), (.ref b12)])
  refine own_at (fun t k => XS.aload X12.here hx rfl (hb hby at_82) rfl rfl k) ?_
  show own_Go p e below KK T12 (mkF m 84 #[.val (.long p1), .second, .val (.long p2), .second, .val (.long p3), .second, .val (.int p4), .val (.int oa), .val (.int ob), .val (.int oc), .val (.ref b1), .unset, .unset, .unset, .unset] [(.ref b1), (.ref b12), (.ref b12)])
  obtain ⟨_, _, ⟨T15, L15, k15, n15⟩, -, X15, ⟨Lc15, hQ15, l15, y15, z15⟩, st15⟩ := X12.specialBack hx (y := (⟨"com/example/libpetri/libpetri/Marking", "<init>", "([J)V"⟩ : MethodName)) rfl hown (mvT hZ (hw _ (List.mem_of_getElem? (i := 10) rfl))) (mvT hZ (hw _ (List.mem_of_getElem? (i := 11) rfl))) (mvT hZ (hw _ (List.mem_of_getElem? (i := 12) rfl))) (by decide) (backOf (W := 1) (rm_ctor l Z a0 hw [] b12 b1  h12 n0 Zs12 F14_b12 E13_b12 g_b12) hZ (hw _ (List.mem_of_getElem? (i := 12) rfl)) (hw _ (List.mem_of_getElem? (i := 9) rfl)) (by decide) (by decide)) (g := (mkF m 84 #[.val (.long p1), .second, .val (.long p2), .second, .val (.long p3), .second, .val (.int p4), .val (.int oa), .val (.int ob), .val (.int oc), .val (.ref b1), .unset, .unset, .unset, .unset] [(.ref b1), (.ref b12), (.ref b12)])) rfl (by rw [hml]; rfl) (Steps.refl _) (a := b12) (argsL := [(.ref b1)]) (rest := [(.ref b12)]) (lenOf pd___J_V rfl) rfl (by show 2 * 0 + _ ≤ _; exact Nat.le_of_eq rfl) (hb hby at_84) (fun _ _ => ⟨rfl, e12, (by decide : 2 + 0 ≤ _), (by decide : 4 + 0 ≤ _)⟩)
  dsimp only [Pt.U, Pt.locs, Pt.cells, Pt.slots] at X15 l15 y15 z15 st15 hQ15
  subst l15 y15 z15
  obtain ⟨rfl, N15q, K15, Ex15, Fx15⟩ := hQ15
  have A11_b1_h15 : own_A Z T15.heap b1 "[J" .long [(.long (own_F_method_2 oa p1)), (.long (own_F_method_2 ob p2)), (.long (own_F_method_2 oc p3))] := A11_b1_h12.keep K15 (ninS ne_b1_b12 nin0)
  have Zs15 : n0 ≤ T15.heap.size := Nat.le_trans Zs12 K15.1
  have E16_b12 : Exa Z T15.heap b12 "com/example/libpetri/libpetri/Marking" := Ex15
  have F17_b12 : Fld Z T15.heap b12 "com/example/libpetri/libpetri/Marking" "tokens" "[J" (.ref b1) := Fx15
  have N15 := Fr.app N10 N15q
  refine own_of (fun t k => st15.trans k) ?_
  show own_Go p e below KK T15 (mkF m 87 #[.val (.long p1), .second, .val (.long p2), .second, .val (.long p3), .second, .val (.int p4), .val (.int oa), .val (.int ob), .val (.int oc), .val (.ref b1), .unset, .unset, .unset, .unset] [(.ref b12)])
  refine own_at (fun t k => XS.astore X15.here hx rfl (hb hby at_87) rfl rfl (l' := #[.val (.long p1), .second, .val (.long p2), .second, .val (.long p3), .second, .val (.int p4), .val (.int oa), .val (.int ob), .val (.int oc), .val (.ref b1), .val (.ref b12), .unset, .unset, .unset]) rfl k) ?_
  show own_Go p e below KK T15 (mkF m 89 #[.val (.long p1), .second, .val (.long p2), .second, .val (.long p3), .second, .val (.int p4), .val (.int oa), .val (.int ob), .val (.int oc), .val (.ref b1), .val (.ref b12), .unset, .unset, .unset] [])
  refine own_at (fun t k => XS.aload X15.here hx rfl (hb hby at_89) rfl rfl k) ?_
  show own_Go p e below KK T15 (mkF m 91 #[.val (.long p1), .second, .val (.long p2), .second, .val (.long p3), .second, .val (.int p4), .val (.int oa), .val (.int ob), .val (.int oc), .val (.ref b1), .val (.ref b12), .unset, .unset, .unset] [(.ref b12)])
  refine own_at (fun t k => XS.iconst X15.here hx rfl (hb hby at_91) k) ?_
  show own_Go p e below KK T15 (mkF m 92 #[.val (.long p1), .second, .val (.long p2), .second, .val (.long p3), .second, .val (.int p4), .val (.int oa), .val (.int ob), .val (.int oc), .val (.ref b1), .val (.ref b12), .unset, .unset, .unset] [(.int 0), (.ref b12)])
  obtain ⟨cq18, kq18, q18a, q18b, q18c⟩ := isOf hZ rfl E16_b12
  obtain ⟨_, _, ⟨T18, L18, k18, n18⟩, -, X18, ⟨Lc18, hQ18, l18, y18, z18⟩, st18⟩ := X15.virtualBack hx (y := (⟨"com/example/libpetri/libpetri/Marking", "isOmega", "(I)Z"⟩ : MethodName)) (z := (⟨"com/example/libpetri/libpetri/Marking", "isOmega", "(I)Z"⟩ : MethodName)) hown (mvT hZ (hw _ (List.mem_of_getElem? (i := 18) rfl))) (mvT hZ (hw _ (List.mem_of_getElem? (i := 19) rfl))) (notFace_of_selects (args := #[]) (mvT hZ (hw _ (List.mem_of_getElem? (i := 21) rfl)))) (mvT hZ (hw _ (List.mem_of_getElem? (i := 21) rfl))) (mvT hZ (hw _ (List.mem_of_getElem? (i := 20) rfl))) (by decide) (backOf (W := 0) (rm_om l Z a0 hw [] b12 (0 : Int32) b1 [(.long (own_F_method_2 oa p1)), (.long (own_F_method_2 ob p2)), (.long (own_F_method_2 oc p3))] 0 (own_F_method_2 oa p1) T15.heap n0 Zs15 F17_b12 A11_b1_h15 (by decide) (by decide) rfl) hZ (hw _ (List.mem_of_getElem? (i := 22) rfl)) (hw _ (List.mem_of_getElem? (i := 9) rfl)) (by decide) (by decide)) q18a q18c (g := (mkF m 92 #[.val (.long p1), .second, .val (.long p2), .second, .val (.long p3), .second, .val (.int p4), .val (.int oa), .val (.int ob), .val (.int oc), .val (.ref b1), .val (.ref b12), .unset, .unset, .unset] [(.int 0), (.ref b12)])) rfl (by rw [hml]; rfl) (Steps.refl _) (argsL := [(.int 0)]) (rest := []) (lenOf pd__I_Z rfl) rfl (by show 2 * 0 + _ ≤ _; exact Nat.le_of_eq rfl) (hb hby at_92) (fun _ _ => ⟨rfl, rfl, (by decide : 2 + 0 ≤ _), (by decide : 4 + 0 ≤ _)⟩)
  dsimp only [Pt.U, Pt.locs, Pt.cells, Pt.slots] at X18 l18 y18 z18 st18 hQ18
  subst l18 y18 z18
  obtain ⟨rfl, N18q, e18⟩ := hQ18
  have N18 := Fr.app N15 N18q
  refine own_of (fun t k => st18.trans k) ?_
  show own_Go p e below KK T18 (mkF m 95 #[.val (.long p1), .second, .val (.long p2), .second, .val (.long p3), .second, .val (.int p4), .val (.int oa), .val (.int ob), .val (.int oc), .val (.ref b1), .val (.ref b12), .unset, .unset, .unset] [(.int (own_om (own_F_method_2 oa p1)))])
  refine own_at (fun t k => XS.istore X18.here hx rfl (hb hby at_95) rfl (l' := #[.val (.long p1), .second, .val (.long p2), .second, .val (.long p3), .second, .val (.int p4), .val (.int oa), .val (.int ob), .val (.int oc), .val (.ref b1), .val (.ref b12), .val (.int (own_om (own_F_method_2 oa p1))), .unset, .unset]) rfl k) ?_
  show own_Go p e below KK T18 (mkF m 97 #[.val (.long p1), .second, .val (.long p2), .second, .val (.long p3), .second, .val (.int p4), .val (.int oa), .val (.int ob), .val (.int oc), .val (.ref b1), .val (.ref b12), .val (.int (own_om (own_F_method_2 oa p1))), .unset, .unset] [])
  refine own_at (fun t k => XS.aload X18.here hx rfl (hb hby at_97) rfl rfl k) ?_
  show own_Go p e below KK T18 (mkF m 99 #[.val (.long p1), .second, .val (.long p2), .second, .val (.long p3), .second, .val (.int p4), .val (.int oa), .val (.int ob), .val (.int oc), .val (.ref b1), .val (.ref b12), .val (.int (own_om (own_F_method_2 oa p1))), .unset, .unset] [(.ref b12)])
  refine own_at (fun t k => XS.iconst X18.here hx rfl (hb hby at_99) k) ?_
  show own_Go p e below KK T18 (mkF m 100 #[.val (.long p1), .second, .val (.long p2), .second, .val (.long p3), .second, .val (.int p4), .val (.int oa), .val (.int ob), .val (.int oc), .val (.ref b1), .val (.ref b12), .val (.int (own_om (own_F_method_2 oa p1))), .unset, .unset] [(.int 1), (.ref b12)])
  obtain ⟨cq19, kq19, q19a, q19b, q19c⟩ := isOf hZ e18 E16_b12
  obtain ⟨_, _, ⟨T19, L19, k19, n19⟩, -, X19, ⟨Lc19, hQ19, l19, y19, z19⟩, st19⟩ := X18.virtualBack hx (y := (⟨"com/example/libpetri/libpetri/Marking", "isOmega", "(I)Z"⟩ : MethodName)) (z := (⟨"com/example/libpetri/libpetri/Marking", "isOmega", "(I)Z"⟩ : MethodName)) hown (mvT hZ (hw _ (List.mem_of_getElem? (i := 18) rfl))) (mvT hZ (hw _ (List.mem_of_getElem? (i := 19) rfl))) (notFace_of_selects (args := #[]) (mvT hZ (hw _ (List.mem_of_getElem? (i := 21) rfl)))) (mvT hZ (hw _ (List.mem_of_getElem? (i := 21) rfl))) (mvT hZ (hw _ (List.mem_of_getElem? (i := 20) rfl))) (by decide) (backOf (W := 0) (rm_om l Z a0 hw [] b12 (1 : Int32) b1 [(.long (own_F_method_2 oa p1)), (.long (own_F_method_2 ob p2)), (.long (own_F_method_2 oc p3))] 1 (own_F_method_2 ob p2) T15.heap n0 Zs15 F17_b12 A11_b1_h15 (by decide) (by decide) rfl) hZ (hw _ (List.mem_of_getElem? (i := 22) rfl)) (hw _ (List.mem_of_getElem? (i := 9) rfl)) (by decide) (by decide)) q19a q19c (g := (mkF m 100 #[.val (.long p1), .second, .val (.long p2), .second, .val (.long p3), .second, .val (.int p4), .val (.int oa), .val (.int ob), .val (.int oc), .val (.ref b1), .val (.ref b12), .val (.int (own_om (own_F_method_2 oa p1))), .unset, .unset] [(.int 1), (.ref b12)])) rfl (by rw [hml]; rfl) (Steps.refl _) (argsL := [(.int 1)]) (rest := []) (lenOf pd__I_Z rfl) rfl (by show 2 * 0 + _ ≤ _; exact Nat.le_of_eq rfl) (hb hby at_100) (fun _ _ => ⟨rfl, e18, (by decide : 2 + 0 ≤ _), (by decide : 4 + 0 ≤ _)⟩)
  dsimp only [Pt.U, Pt.locs, Pt.cells, Pt.slots] at X19 l19 y19 z19 st19 hQ19
  subst l19 y19 z19
  obtain ⟨rfl, N19q, e19⟩ := hQ19
  have N19 := Fr.app N18 N19q
  refine own_of (fun t k => st19.trans k) ?_
  show own_Go p e below KK T19 (mkF m 103 #[.val (.long p1), .second, .val (.long p2), .second, .val (.long p3), .second, .val (.int p4), .val (.int oa), .val (.int ob), .val (.int oc), .val (.ref b1), .val (.ref b12), .val (.int (own_om (own_F_method_2 oa p1))), .unset, .unset] [(.int (own_om (own_F_method_2 ob p2)))])
  refine own_at (fun t k => XS.istore X19.here hx rfl (hb hby at_103) rfl (l' := #[.val (.long p1), .second, .val (.long p2), .second, .val (.long p3), .second, .val (.int p4), .val (.int oa), .val (.int ob), .val (.int oc), .val (.ref b1), .val (.ref b12), .val (.int (own_om (own_F_method_2 oa p1))), .val (.int (own_om (own_F_method_2 ob p2))), .unset]) rfl k) ?_
  show own_Go p e below KK T19 (mkF m 105 #[.val (.long p1), .second, .val (.long p2), .second, .val (.long p3), .second, .val (.int p4), .val (.int oa), .val (.int ob), .val (.int oc), .val (.ref b1), .val (.ref b12), .val (.int (own_om (own_F_method_2 oa p1))), .val (.int (own_om (own_F_method_2 ob p2))), .unset] [])
  refine own_at (fun t k => XS.aload X19.here hx rfl (hb hby at_105) rfl rfl k) ?_
  show own_Go p e below KK T19 (mkF m 107 #[.val (.long p1), .second, .val (.long p2), .second, .val (.long p3), .second, .val (.int p4), .val (.int oa), .val (.int ob), .val (.int oc), .val (.ref b1), .val (.ref b12), .val (.int (own_om (own_F_method_2 oa p1))), .val (.int (own_om (own_F_method_2 ob p2))), .unset] [(.ref b12)])
  refine own_at (fun t k => XS.iconst X19.here hx rfl (hb hby at_107) k) ?_
  show own_Go p e below KK T19 (mkF m 108 #[.val (.long p1), .second, .val (.long p2), .second, .val (.long p3), .second, .val (.int p4), .val (.int oa), .val (.int ob), .val (.int oc), .val (.ref b1), .val (.ref b12), .val (.int (own_om (own_F_method_2 oa p1))), .val (.int (own_om (own_F_method_2 ob p2))), .unset] [(.int 2), (.ref b12)])
  obtain ⟨cq20, kq20, q20a, q20b, q20c⟩ := isOf hZ e19 E16_b12
  obtain ⟨_, _, ⟨T20, L20, k20, n20⟩, -, X20, ⟨Lc20, hQ20, l20, y20, z20⟩, st20⟩ := X19.virtualBack hx (y := (⟨"com/example/libpetri/libpetri/Marking", "isOmega", "(I)Z"⟩ : MethodName)) (z := (⟨"com/example/libpetri/libpetri/Marking", "isOmega", "(I)Z"⟩ : MethodName)) hown (mvT hZ (hw _ (List.mem_of_getElem? (i := 18) rfl))) (mvT hZ (hw _ (List.mem_of_getElem? (i := 19) rfl))) (notFace_of_selects (args := #[]) (mvT hZ (hw _ (List.mem_of_getElem? (i := 21) rfl)))) (mvT hZ (hw _ (List.mem_of_getElem? (i := 21) rfl))) (mvT hZ (hw _ (List.mem_of_getElem? (i := 20) rfl))) (by decide) (backOf (W := 0) (rm_om l Z a0 hw [] b12 (2 : Int32) b1 [(.long (own_F_method_2 oa p1)), (.long (own_F_method_2 ob p2)), (.long (own_F_method_2 oc p3))] 2 (own_F_method_2 oc p3) T15.heap n0 Zs15 F17_b12 A11_b1_h15 (by decide) (by decide) rfl) hZ (hw _ (List.mem_of_getElem? (i := 22) rfl)) (hw _ (List.mem_of_getElem? (i := 9) rfl)) (by decide) (by decide)) q20a q20c (g := (mkF m 108 #[.val (.long p1), .second, .val (.long p2), .second, .val (.long p3), .second, .val (.int p4), .val (.int oa), .val (.int ob), .val (.int oc), .val (.ref b1), .val (.ref b12), .val (.int (own_om (own_F_method_2 oa p1))), .val (.int (own_om (own_F_method_2 ob p2))), .unset] [(.int 2), (.ref b12)])) rfl (by rw [hml]; rfl) (Steps.refl _) (argsL := [(.int 2)]) (rest := []) (lenOf pd__I_Z rfl) rfl (by show 2 * 0 + _ ≤ _; exact Nat.le_of_eq rfl) (hb hby at_108) (fun _ _ => ⟨rfl, e19, (by decide : 2 + 0 ≤ _), (by decide : 4 + 0 ≤ _)⟩)
  dsimp only [Pt.U, Pt.locs, Pt.cells, Pt.slots] at X20 l20 y20 z20 st20 hQ20
  subst l20 y20 z20
  obtain ⟨rfl, N20q, e20⟩ := hQ20
  have N20 := Fr.app N19 N20q
  refine own_of (fun t k => st20.trans k) ?_
  show own_Go p e below KK T20 (mkF m 111 #[.val (.long p1), .second, .val (.long p2), .second, .val (.long p3), .second, .val (.int p4), .val (.int oa), .val (.int ob), .val (.int oc), .val (.ref b1), .val (.ref b12), .val (.int (own_om (own_F_method_2 oa p1))), .val (.int (own_om (own_F_method_2 ob p2))), .unset] [(.int (own_om (own_F_method_2 oc p3)))])
  refine own_at (fun t k => XS.istore X20.here hx rfl (hb hby at_111) rfl (l' := #[.val (.long p1), .second, .val (.long p2), .second, .val (.long p3), .second, .val (.int p4), .val (.int oa), .val (.int ob), .val (.int oc), .val (.ref b1), .val (.ref b12), .val (.int (own_om (own_F_method_2 oa p1))), .val (.int (own_om (own_F_method_2 ob p2))), .val (.int (own_om (own_F_method_2 oc p3)))]) rfl k) ?_
  show own_Go p e below KK T20 (mkF m 113 #[.val (.long p1), .second, .val (.long p2), .second, .val (.long p3), .second, .val (.int p4), .val (.int oa), .val (.int ob), .val (.int oc), .val (.ref b1), .val (.ref b12), .val (.int (own_om (own_F_method_2 oa p1))), .val (.int (own_om (own_F_method_2 ob p2))), .val (.int (own_om (own_F_method_2 oc p3)))] [])
  refine own_at (fun t k => XS.iload X20.here hx rfl (hb hby at_113) rfl k) ?_
  show own_Go p e below KK T20 (mkF m 115 #[.val (.long p1), .second, .val (.long p2), .second, .val (.long p3), .second, .val (.int p4), .val (.int oa), .val (.int ob), .val (.int oc), .val (.ref b1), .val (.ref b12), .val (.int (own_om (own_F_method_2 oa p1))), .val (.int (own_om (own_F_method_2 ob p2))), .val (.int (own_om (own_F_method_2 oc p3)))] [(.int (own_om (own_F_method_2 oa p1)))])
  refine own_at (fun t k => XS.iload X20.here hx rfl (hb hby at_115) rfl k) ?_
  show own_Go p e below KK T20 (mkF m 117 #[.val (.long p1), .second, .val (.long p2), .second, .val (.long p3), .second, .val (.int p4), .val (.int oa), .val (.int ob), .val (.int oc), .val (.ref b1), .val (.ref b12), .val (.int (own_om (own_F_method_2 oa p1))), .val (.int (own_om (own_F_method_2 ob p2))), .val (.int (own_om (own_F_method_2 oc p3)))] [(.int oa), (.int (own_om (own_F_method_2 oa p1)))])
  have hc117 : (own_om (own_F_method_2 oa p1)) = oa := own_same _ hoa
  refine own_at (fun t k => XS.icmpNo X20.here hx rfl (hb hby at_117) rfl (Jvm.Free.XT.ii_ne_f hc117) k) ?_
  show own_Go p e below KK T20 (mkF m 120 #[.val (.long p1), .second, .val (.long p2), .second, .val (.long p3), .second, .val (.int p4), .val (.int oa), .val (.int ob), .val (.int oc), .val (.ref b1), .val (.ref b12), .val (.int (own_om (own_F_method_2 oa p1))), .val (.int (own_om (own_F_method_2 ob p2))), .val (.int (own_om (own_F_method_2 oc p3)))] [])
  refine own_at (fun t k => XS.iload X20.here hx rfl (hb hby at_120) rfl k) ?_
  show own_Go p e below KK T20 (mkF m 122 #[.val (.long p1), .second, .val (.long p2), .second, .val (.long p3), .second, .val (.int p4), .val (.int oa), .val (.int ob), .val (.int oc), .val (.ref b1), .val (.ref b12), .val (.int (own_om (own_F_method_2 oa p1))), .val (.int (own_om (own_F_method_2 ob p2))), .val (.int (own_om (own_F_method_2 oc p3)))] [(.int (own_om (own_F_method_2 ob p2)))])
  refine own_at (fun t k => XS.iload X20.here hx rfl (hb hby at_122) rfl k) ?_
  show own_Go p e below KK T20 (mkF m 124 #[.val (.long p1), .second, .val (.long p2), .second, .val (.long p3), .second, .val (.int p4), .val (.int oa), .val (.int ob), .val (.int oc), .val (.ref b1), .val (.ref b12), .val (.int (own_om (own_F_method_2 oa p1))), .val (.int (own_om (own_F_method_2 ob p2))), .val (.int (own_om (own_F_method_2 oc p3)))] [(.int ob), (.int (own_om (own_F_method_2 ob p2)))])
  have hc124 : (own_om (own_F_method_2 ob p2)) = ob := own_same _ hob
  refine own_at (fun t k => XS.icmpNo X20.here hx rfl (hb hby at_124) rfl (Jvm.Free.XT.ii_ne_f hc124) k) ?_
  show own_Go p e below KK T20 (mkF m 127 #[.val (.long p1), .second, .val (.long p2), .second, .val (.long p3), .second, .val (.int p4), .val (.int oa), .val (.int ob), .val (.int oc), .val (.ref b1), .val (.ref b12), .val (.int (own_om (own_F_method_2 oa p1))), .val (.int (own_om (own_F_method_2 ob p2))), .val (.int (own_om (own_F_method_2 oc p3)))] [])
  refine own_at (fun t k => XS.iload X20.here hx rfl (hb hby at_127) rfl k) ?_
  show own_Go p e below KK T20 (mkF m 129 #[.val (.long p1), .second, .val (.long p2), .second, .val (.long p3), .second, .val (.int p4), .val (.int oa), .val (.int ob), .val (.int oc), .val (.ref b1), .val (.ref b12), .val (.int (own_om (own_F_method_2 oa p1))), .val (.int (own_om (own_F_method_2 ob p2))), .val (.int (own_om (own_F_method_2 oc p3)))] [(.int (own_om (own_F_method_2 oc p3)))])
  refine own_at (fun t k => XS.iload X20.here hx rfl (hb hby at_129) rfl k) ?_
  show own_Go p e below KK T20 (mkF m 131 #[.val (.long p1), .second, .val (.long p2), .second, .val (.long p3), .second, .val (.int p4), .val (.int oa), .val (.int ob), .val (.int oc), .val (.ref b1), .val (.ref b12), .val (.int (own_om (own_F_method_2 oa p1))), .val (.int (own_om (own_F_method_2 ob p2))), .val (.int (own_om (own_F_method_2 oc p3)))] [(.int oc), (.int (own_om (own_F_method_2 oc p3)))])
  have hc131 : (own_om (own_F_method_2 oc p3)) = oc := own_same _ hoc
  refine own_at (fun t k => XS.icmpNo X20.here hx rfl (hb hby at_131) rfl (Jvm.Free.XT.ii_ne_f hc131) k) ?_
  show own_Go p e below KK T20 (mkF m 134 #[.val (.long p1), .second, .val (.long p2), .second, .val (.long p3), .second, .val (.int p4), .val (.int oa), .val (.int ob), .val (.int oc), .val (.ref b1), .val (.ref b12), .val (.int (own_om (own_F_method_2 oa p1))), .val (.int (own_om (own_F_method_2 ob p2))), .val (.int (own_om (own_F_method_2 oc p3)))] [])
  refine own_at (fun t k => XS.iconst X20.here hx rfl (hb hby at_134) k) ?_
  show own_Go p e below KK T20 (mkF m 135 #[.val (.long p1), .second, .val (.long p2), .second, .val (.long p3), .second, .val (.int p4), .val (.int oa), .val (.int ob), .val (.int oc), .val (.ref b1), .val (.ref b12), .val (.int (own_om (own_F_method_2 oa p1))), .val (.int (own_om (own_F_method_2 ob p2))), .val (.int (own_om (own_F_method_2 oc p3)))] [(.int 1)])
  refine own_at (fun t k => XS.goto X20.here hx rfl (pc0 := 135) (pc' := 139) rfl (hb hby at_135) (by decide) (by decide) k) ?_
  show own_Go p e below KK T20 (mkF m 139 #[.val (.long p1), .second, .val (.long p2), .second, .val (.long p3), .second, .val (.int p4), .val (.int oa), .val (.int ob), .val (.int oc), .val (.ref b1), .val (.ref b12), .val (.int (own_om (own_F_method_2 oa p1))), .val (.int (own_om (own_F_method_2 ob p2))), .val (.int (own_om (own_F_method_2 oc p3)))] [(.int 1)])
  subst hKK
  exact own_retN X20 hx hlk (t := .boolean) Bd.returns (by simp) (hb hby at_139) (w := (1 : Int32)) (show nar .boolean (1 : Int32) = 1 from by decide) ⟨rfl, N20⟩ (Nat.le_of_ble_eq_true rfl) (Nat.le_of_ble_eq_true rfl)
set_option maxRecDepth 65536 in
set_option maxHeartbeats 40000000 in
theorem comes_1 {Post : Tables → Env → Array Value → State → Outcome → State → Prop} (hpost : ∀ tb e args s v u, (limb_1_1.after args s (.returned v) u = true ∧ limb_1_2.after args s (.returned v) u = true ∧ True) → FrameEnd s (.returned v) u (Jvm.fieldLocs frame_1_writes args s ++ Jvm.arrayLocs frame_1_arrays args s ++ Jvm.staticLocs frame_1_statics s) 16 128 → Post tb e args s (.returned v) u) :
    ArmFor flags0 classFile x code maxLocals ret World_1 tables_1 room_1 Calls_1 rest_1 Pre_1 Post := by
  intro l hfl _ _ p e ha hc hk s m args below hf hA hF happ hP
  obtain ⟨hcalls, hrest, hpre⟩ := hP
  obtain ⟨-, -, -, hnamed, -, -, -, hat⟩ := (Spec.applies_iff hf).mp happ
  obtain ⟨hg, hn⟩ := and_e (Cond.before_iff.mp (show (Jvm.Cond.and given_1 narrow_1).before args s = true from hpre))
  obtain ⟨gc, g0⟩ := and_e hg
  obtain ⟨u0, g1⟩ := and_e g0
  obtain ⟨u1, g2⟩ := and_e g1
  obtain ⟨u2, g3⟩ := and_e g2
  obtain ⟨w0, w1, w2, w3, rfl⟩ : ∃ w0 w1 w2 w3 : Value, args = #[w0, w1, w2, w3] := by
    have hs : args.size = 4 := by simpa [Cond.value, given_1] using gc
    obtain ⟨L⟩ := args
    match L, hs with
    | [w0, w1, w2, w3], _ => exact ⟨w0, w1, w2, w3, rfl⟩
  have hw := fun d (hd : d ∈ tables_1) => atoms_spec (ws := Jvm.Cond.code x code maxLocals ret :: tables_1) hat d (List.mem_cons_of_mem _ hd)
  obtain ⟨i0, ei0⟩ := isL_v u0
  obtain rfl : w0 = (.long i0) := Option.some.inj ei0
  obtain ⟨i1, ei1⟩ := isL_v u1
  obtain rfl : w1 = (.long i1) := Option.some.inj ei1
  obtain ⟨i2, ei2⟩ := isL_v u2
  obtain rfl : w2 = (.long i2) := Option.some.inj ei2
  obtain ⟨i3, ei3⟩ := is_v g3
  obtain rfl : w3 = (.int i3) := Option.some.inj ei3
  obtain ⟨n, o, h1, h2, h3, _, L, rfl, ⟨rfl, N⟩, hq⟩ := rm_law l s _ hw tables_1 i0 i1 i2 i3 s.heap s.heap.size (Nat.le_refl _) p e ha hc hk s m _ below hf ((Spec.applies_iff_loose hf).mp happ).1 ⟨rfl, State.Warmed39.refl s, rfl⟩ trivial
  refine ⟨n, _, h1, h2, h3, hpost _ _ _ _ _ _ ⟨Cond.after_iff.mpr rfl, Cond.after_iff.mpr (eq_i res_at (Term.int_eval (1)) rfl), trivial⟩ ⟨hq.1, hq.2.1, (hq.2.2.sift fun y hy => Or.inr (N y hy)).mono (by decide) (by decide)⟩⟩
theorem main_1_1 : Claimed_1_1 := comes_1 fun _ _ _ _ _ _ h hF => ⟨h.1, hF⟩
theorem main_1_2 : Claimed_1_2 := comes_1 fun _ _ _ _ _ _ h hF => ⟨h.2.1, hF⟩
end Jvm.Pilot.@@N@@
namespace Jvm.Pilot.@@N@@
open Jvm Jvm.ClassFile Sem Op Lib Jvm.Free Jvm.Stand Jvm.Pilot.@@N@@.Jvm.D
/-! MADE BY PROGRAM (witnessworld.py) out of the Statement's table words and the real class files: 11 classes; the members and pool entries that the words name. The judged class is class 1, her method 2. -/
namespace start1
open Jvm.ClassFile
def u (s : String) : CpInfo := .utf8 (stringToUtf16 s)
/-- a pool by its gaps: so many unusable entries, then the entry; so many at the end -/
def gap : Nat → List CpInfo → List CpInfo
  | 0, r => r
  | n + 1, r => .unusable :: gap n r
def poolList (es : List (Nat × CpInfo)) (last : Nat) : List CpInfo := es.foldr (fun e r => gap e.1 (e.2 :: r)) (gap last [])
def pool (es : List (Nat × CpInfo)) (last : Nat) : Array CpInfo := ⟨poolList es last⟩
def fileOf (pool : Array CpInfo) (this : Nat) (attrs : Array Attribute := #[]) (ms : Array MethodInfo := #[]) (fl : Nat := 33) (sup : Nat := 0) (ifs : Array Nat := #[]) (fds : Array FieldInfo := #[]) : ClassFile where
  minorVersion := 0
  majorVersion := 65
  constantPool := pool
  accessFlags := fl
  thisClass := this
  superClass := sup
  interfaces := ifs
  fields := fds
  methods := ms
  attributes := attrs
def plain (name : String) (sup : Option ClassId) : Class where
  name := name
  kind := .ordinary
  loader := none
  accessFlags := 33
  super := sup
  interfaces := #[]
  cf := none
  fields := #[]
  methods := #[]
  instanceTypes := #[]
  staticTypes := #[]
  resolved := #[]
  callSites := []
  init := .initialized
  statics := none
  mirror := none

def pool0 : Array CpInfo := pool [(5, u "<init>"), (0, u "()V"), (1, .class_ 10), (1, u "java/lang/Object")] 113

def k0c0 : Code := { maxStack := 0, maxLocals := 1, code := object_method_1_code, exceptionTable := #[], attributes := #[] }
def k0m0 : Method := { name := "<init>", desc := "()V", sig := { parameters := [], returnType := none }, accessFlags := 1, code := some k0c0 }
/-- java/lang/Object -/
def k0 : Class := { plain "java/lang/Object" none with
  accessFlags := 33
  interfaces := #[]
  cf := some (fileOf pool0 8 #[] #[{ accessFlags := 1, nameIndex := 5, descriptorIndex := 6, attributes := #[] }] 33 0 #[] #[])
  fields := #[]
  methods := #[k0m0]
  instanceTypes := #[]
  staticTypes := #[]
  resolved := Array.replicate 124 none
  statics := none }

def pool1 : Array CpInfo := pool [(2, .class_ 4), (1, u "java/lang/Object"), (0, u "<init>"), (0, u "()V"), (0, .long 18446744073709551615), (3, .long 9223372036854775807), (1, .methodref 14 15), (0, .class_ 16), (0, .nameAndType 17 18), (0, u "com/example/libpetri/libpetri/MarkingIsOmegaPinLaw"), (0, u "entry"), (0, u "(ZJ)J"), (0, .class_ 20), (0, u "com/example/libpetri/libpetri/Marking"), (0, .methodref 19 22), (0, .nameAndType 5 23), (0, u "([J)V"), (0, .methodref 19 25), (0, .nameAndType 26 27), (0, u "isOmega"), (0, u "(I)Z"), (3, u "law"), (0, u "(JJJI)Z")] 4

def k1m0 : Method := { name := "<init>", desc := "()V", sig := { parameters := [], returnType := none }, accessFlags := 2, code := none }
def k1c1 : Code := { maxStack := 4, maxLocals := 3, code := method_2_code, exceptionTable := #[], attributes := #[] }
def k1m1 : Method := { name := "entry", desc := "(ZJ)J", sig := { parameters := [.boolean, .long], returnType := some .long }, accessFlags := 10, code := some k1c1 }
def k1c2 : Code := { maxStack := 5, maxLocals := 15, code := code, exceptionTable := #[], attributes := #[] }
def k1m2 : Method := { name := "law", desc := "(JJJI)Z", sig := { parameters := [.long, .long, .long, .int], returnType := some .boolean }, accessFlags := 9, code := some k1c2 }
/-- com/example/libpetri/libpetri/MarkingIsOmegaPinLaw -/
def k1 : Class := { plain "com/example/libpetri/libpetri/MarkingIsOmegaPinLaw" (some 0) with
  accessFlags := 49
  interfaces := #[]
  cf := some (fileOf pool1 14 #[] #[{ accessFlags := 2, nameIndex := 5, descriptorIndex := 6, attributes := #[] }, { accessFlags := 10, nameIndex := 17, descriptorIndex := 18, attributes := #[] }, { accessFlags := 9, nameIndex := 31, descriptorIndex := 32, attributes := #[] }] 49 2 #[] #[])
  fields := #[]
  methods := #[k1m0, k1m1, k1m2]
  instanceTypes := #[]
  staticTypes := #[]
  resolved := Array.replicate 37 none
  statics := none }

def pool2 : Array CpInfo := pool [(1, .methodref 2 3), (0, .class_ 4), (0, .nameAndType 5 6), (0, u "java/lang/Object"), (0, u "<init>"), (0, u "()V"), (0, .fieldref 8 9), (0, .class_ 10), (0, .nameAndType 11 12), (0, u "com/example/libpetri/libpetri/Marking"), (0, u "tokens"), (0, u "[J"), (16, u "([J)V"), (0, .long 18446744073709551615), (36, u "OMEGA"), (0, u "J"), (8, u "isOmega"), (0, u "(I)Z")] 29

def k2c0 : Code := { maxStack := 2, maxLocals := 2, code := prog_17_method_1_code, exceptionTable := #[], attributes := #[] }
def k2m0 : Method := { name := "<init>", desc := "([J)V", sig := { parameters := [(.array .long)], returnType := none }, accessFlags := 0, code := some k2c0 }
def k2c1 : Code := { maxStack := 4, maxLocals := 2, code := prog_17_method_4_code, exceptionTable := #[], attributes := #[] }
def k2m1 : Method := { name := "isOmega", desc := "(I)Z", sig := { parameters := [.int], returnType := some .boolean }, accessFlags := 1, code := some k2c1 }
/-- com/example/libpetri/libpetri/Marking -/
def k2 : Class := { plain "com/example/libpetri/libpetri/Marking" (some 0) with
  accessFlags := 33
  interfaces := #[]
  cf := some (fileOf pool2 8 #[] #[{ accessFlags := 0, nameIndex := 5, descriptorIndex := 29, attributes := #[] }, { accessFlags := 1, nameIndex := 77, descriptorIndex := 78, attributes := #[] }] 33 2 #[] #[{ accessFlags := 24, nameIndex := 67, descriptorIndex := 68, attributes := #[] }, { accessFlags := 18, nameIndex := 11, descriptorIndex := 12, attributes := #[] }])
  fields := #[{ name := "OMEGA", type := .long, accessFlags := 24, slot := 0, constantValue := 0 }, { name := "tokens", type := (.array .long), accessFlags := 18, slot := 0, constantValue := 0 }]
  methods := #[k2m0, k2m1]
  instanceTypes := #[(.array .long)]
  staticTypes := #[.long]
  resolved := Array.replicate 108 none
  statics := none }

def pool3 : Array CpInfo := pool [(1, u "java/lang/Cloneable"), (0, .class_ 1), (0, u "java/lang/Object"), (0, .class_ 3)] 3

/-- java/lang/Cloneable -/
def k3 : Class := { plain "java/lang/Cloneable" (some 0) with
  accessFlags := 1537
  interfaces := #[]
  cf := some (fileOf pool3 2 #[] #[] 1537 4 #[] #[])
  fields := #[]
  methods := #[]
  instanceTypes := #[]
  staticTypes := #[]
  resolved := Array.replicate 8 none
  statics := none }

def pool4 : Array CpInfo := pool [(1, u "java/io/Serializable"), (0, .class_ 1), (0, u "java/lang/Object"), (0, .class_ 3)] 3

/-- java/io/Serializable -/
def k4 : Class := { plain "java/io/Serializable" (some 0) with
  accessFlags := 1537
  interfaces := #[]
  cf := some (fileOf pool4 2 #[] #[] 1537 4 #[] #[])
  fields := #[]
  methods := #[]
  instanceTypes := #[]
  staticTypes := #[]
  resolved := Array.replicate 8 none
  statics := none }

/-- the primitive byte -/
def k5 : Class := { plain "byte" none with kind := .primitive 'B', accessFlags := 0x411 }
/-- [B -/
def k6 : Class := { plain "[B" (some 0) with kind := .array 5 .byte, interfaces := #[3, 4], accessFlags := 1041 }

/-- the primitive int -/
def k7 : Class := { plain "int" none with kind := .primitive 'I', accessFlags := 0x411 }
/-- [I -/
def k8 : Class := { plain "[I" (some 0) with kind := .array 7 .int, interfaces := #[3, 4], accessFlags := 1041 }

/-- the primitive long -/
def k9 : Class := { plain "long" none with kind := .primitive 'J', accessFlags := 0x411 }
/-- [J -/
def k10 : Class := { plain "[J" (some 0) with kind := .array 9 .long, interfaces := #[3, 4], accessFlags := 1041 }

def heap : Heap := #[]
def classes : Array Class := #[k0, k1, k2, k3, k4, k5, k6, k7, k8, k9, k10]
def interned : List (Array UInt16 × Addr) := []
def slotsUsed : Nat := 0
def theMethod : MethodId := ⟨1, 2⟩
def args0 : Array Value := #[.long 5, .long 6, .long 7, .int 3]
def aboutOver (below : List Frame) : State where
  vm := { classes := classes, interned := interned.toArray }
  heap := heap
  slotsUsed := slotsUsed
  threads := #[{ frames := .invoking theMethod args0 :: below }]
def below0 : List Frame := [.native { method := ⟨0, 0⟩, args := #[] }]
def about1 : State := aboutOver below0
def p0 : Program := .bare "" "" ""
def e0 : Env := launch0.env 0 0 0
theorem w_frames : about1.frames = Frame.invoking theMethod args0 :: below0 := rfl
set_option maxRecDepth 65536 in
theorem w_args : argsFit about1.vm theMethod args0 = true := by decide +kernel
set_option maxRecDepth 65536 in
theorem w_heap : heapFits about1 = true := by decide +kernel
set_option maxRecDepth 65536 in
theorem w_runnable : about1.curStatus? = some .runnable := by decide +kernel
set_option maxRecDepth 65536 in
theorem w_alone : about1.alone = true := by decide +kernel
set_option maxRecDepth 65536 in
theorem w_named : about1.methodNamed? x = some theMethod := by decide +kernel
set_option maxRecDepth 65536 in
theorem w_hears : about1.hears theMethod below0 = true := by decide +kernel
set_option maxRecDepth 65536 in
theorem w_ripe : about1.ripe theMethod args0 below0 = true := by decide +kernel
theorem w_running : about1.status = .running := rfl
set_option maxRecDepth 65536 in
theorem w_room : about1.hasRoom e0.platform room_1 = true :=
  launch0.hasRoom_least _ room_1 (by decide +kernel) (by decide +kernel) (by decide +kernel) (by decide +kernel) (by decide +kernel) (by decide +kernel)
theorem allAtoms_all (ts : List Jvm.Cond) (a : Array Jvm.Value) (st : Jvm.State) : (allAtoms ts).before a st = ts.all (fun c => c.before a st) := by
  induction ts with
  | nil => rfl
  | cons c t ih =>
    show (Jvm.Cond.and c (allAtoms t)).before a st = _
    rw [Jvm.Cond.before_and, ih, List.all_cons]
def words1 : List Jvm.Cond := Jvm.Cond.code x code maxLocals ret :: tables_1
/-- a 'code' word, met by the world's own term for the bytes: nothing is compared byte by byte -/
theorem code_word {y : MethodName} {bytes : ByteArray} {mx : Nat} {rt : Option FieldType} {a : Array Value} {s : State} {m : MethodId} {meth : Method} {c : Code} (h1 : s.methodNamed? y = some m) (h2 : s.vm.method? m = some meth) (h3 : meth.code = some c) (h4 : c.code = bytes)
    (h5 : (c.maxLocals == mx && c.exceptionTable.isEmpty && decide (c.maxStack ≤ mostOperands) && decide (meth.sig.returnType = rt) && !meth.locks && decide (parseMethodDescriptor y.desc = some meth.sig)) = true) : (Jvm.Cond.code y bytes mx rt).before a s = true := by
  simp only [Bool.and_eq_true, beq_iff_eq, Bool.not_eq_true', decide_eq_true_eq] at h5
  obtain ⟨⟨⟨⟨⟨g1, g2⟩, g3⟩, g4⟩, g5⟩, g6⟩ := h5
  simp [Cond.before, Cond.holds, Cond.value, h1, h2, h3, h4, g1, g2, g3, g4, g5, g6]
def isCode : Jvm.Cond → Bool
  | .code _ _ _ _ => true
  | _ => false
theorem all_split {L : List Jvm.Cond} {P : Jvm.Cond → Bool} (h1 : L.all (fun c => isCode c || P c) = true) (h2 : ∀ c ∈ L.filter isCode, P c = true) : L.all P = true := by
  refine List.all_eq_true.mpr fun c hc => ?_
  have h := List.all_eq_true.mp h1 c hc
  rcases Bool.eq_false_or_eq_true (isCode c) with hi | hi
  · exact h2 c (List.mem_filter.mpr ⟨hc, hi⟩)
  · simpa [hi] using h
set_option maxRecDepth 65536 in
theorem w_c0 : (Jvm.Cond.code x code maxLocals ret).before args0 about1 = true := code_word (m := ⟨1, 2⟩) (meth := k1m2) (c := k1c2) (by decide +kernel) rfl rfl rfl (by decide +kernel)
set_option maxRecDepth 65536 in
theorem w_c1 : (Jvm.Cond.code ({ cls := "com/example/libpetri/libpetri/MarkingIsOmegaPinLaw", name := "entry", desc := "(ZJ)J" } : Jvm.MethodName) method_2_code (3 : Nat) (Option.some Jvm.ClassFile.FieldType.long)).before args0 about1 = true := code_word (m := ⟨1, 1⟩) (meth := k1m1) (c := k1c1) (by decide +kernel) rfl rfl rfl (by decide +kernel)
set_option maxRecDepth 65536 in
theorem w_c2 : (Jvm.Cond.code ({ cls := "com/example/libpetri/libpetri/Marking", name := "<init>", desc := "([J)V" } : Jvm.MethodName) prog_17_method_1_code (2 : Nat) (Option.none : Option Jvm.ClassFile.FieldType)).before args0 about1 = true := code_word (m := ⟨2, 0⟩) (meth := k2m0) (c := k2c0) (by decide +kernel) rfl rfl rfl (by decide +kernel)
set_option maxRecDepth 65536 in
theorem w_c3 : (Jvm.Cond.code ({ cls := "java/lang/Object", name := "<init>", desc := "()V" } : Jvm.MethodName) object_method_1_code (1 : Nat) (Option.none : Option Jvm.ClassFile.FieldType)).before args0 about1 = true := code_word (m := ⟨0, 0⟩) (meth := k0m0) (c := k0c0) (by decide +kernel) rfl rfl rfl (by decide +kernel)
set_option maxRecDepth 65536 in
theorem w_c4 : (Jvm.Cond.code ({ cls := "com/example/libpetri/libpetri/Marking", name := "isOmega", desc := "(I)Z" } : Jvm.MethodName) prog_17_method_4_code (2 : Nat) (Option.some Jvm.ClassFile.FieldType.boolean)).before args0 about1 = true := code_word (m := ⟨2, 1⟩) (meth := k2m1) (c := k2c1) (by decide +kernel) rfl rfl rfl (by decide +kernel)
def codes1 : List Jvm.Cond := [Jvm.Cond.code x code maxLocals ret, Jvm.Cond.code ({ cls := "com/example/libpetri/libpetri/MarkingIsOmegaPinLaw", name := "entry", desc := "(ZJ)J" } : Jvm.MethodName) method_2_code (3 : Nat) (Option.some Jvm.ClassFile.FieldType.long), Jvm.Cond.code ({ cls := "com/example/libpetri/libpetri/Marking", name := "<init>", desc := "([J)V" } : Jvm.MethodName) prog_17_method_1_code (2 : Nat) (Option.none : Option Jvm.ClassFile.FieldType), Jvm.Cond.code ({ cls := "java/lang/Object", name := "<init>", desc := "()V" } : Jvm.MethodName) object_method_1_code (1 : Nat) (Option.none : Option Jvm.ClassFile.FieldType), Jvm.Cond.code ({ cls := "com/example/libpetri/libpetri/Marking", name := "isOmega", desc := "(I)Z" } : Jvm.MethodName) prog_17_method_4_code (2 : Nat) (Option.some Jvm.ClassFile.FieldType.boolean)]
set_option maxRecDepth 65536 in
theorem codes_eq : words1.filter isCode = codes1 := rfl
theorem w_codes : ∀ c ∈ words1.filter isCode, c.before args0 about1 = true := by
  rw [codes_eq]
  intro c hc
  simp only [codes1, List.mem_cons, List.not_mem_nil, or_false] at hc
  rcases hc with rfl | rfl | rfl | rfl | rfl
  · exact w_c0
  · exact w_c1
  · exact w_c2
  · exact w_c3
  · exact w_c4
set_option maxRecDepth 65536 in
theorem w_t1 : (words1.take 24).all (fun c => isCode c || c.before args0 about1) = true := by decide +kernel
set_option maxRecDepth 65536 in
theorem w_t2 : (words1.drop 24).all (fun c => isCode c || c.before args0 about1) = true := by decide +kernel
theorem w_tables : (allAtoms (Jvm.Cond.code x code maxLocals ret :: tables_1)).before args0 about1 = true := by
  rw [allAtoms_all]
  show words1.all (fun c => c.before args0 about1) = true
  refine all_split ?_ w_codes
  rw [← List.take_append_drop 24 words1, List.all_append, w_t1, w_t2]
  rfl
set_option maxRecDepth 65536 in
theorem w_case : (Jvm.Cond.and given_1 narrow_1).before args0 about1 = true := by decide +kernel
theorem w_applies : (headSpec (Jvm.Cond.code x code maxLocals ret :: tables_1) room_1).applies x e0.platform about1 = true :=
  (Spec.applies_iff w_frames).mpr ⟨w_running, w_runnable, w_alone, w_named, w_hears, w_ripe, w_room, w_tables⟩
theorem atStart : AtStart classFile x code maxLocals ret World_1 tables_1 room_1 Calls_1 rest_1 Pre_1 launch0 p0 e0 about1 theMethod args0 below0 :=
  ⟨lists_1, trivial, launch0.admits_env _ _ _, launch0.least_env, fairChoices_fair.cas, fairChoices_fair.clock, w_frames, w_args, w_heap, w_applies, trivial, trivial, w_case⟩
end start1
theorem witness_1 : WitnessClaimed_1 := ⟨start1.p0, start1.e0, start1.about1, start1.theMethod, start1.args0, start1.below0, start1.atStart⟩
end Jvm.Pilot.@@N@@
