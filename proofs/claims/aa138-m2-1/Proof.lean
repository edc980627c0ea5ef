import JvmDerived
import JvmDerived.Pilot.@@N@@Statement
import JvmDerived.Pilot.@@N@@Code
set_option linter.unusedVariables false
set_option linter.unusedSimpArgs false
namespace Jvm.Pilot.@@N@@
open Jvm Jvm.ClassFile Sem Op Lib Jvm.Free Jvm.Stand Jvm.LawKit Jvm.RoadKit Bundle Jvm.Pilot.@@N@@.Jvm.D
section OwnKit
/-- from the frame f at T the run comes to an end that K takes -/
def own_Go (p : Program) (e : Env) (below : List Frame) (K : Outcome → State → Prop) (T : State) (f : JFrame) : Prop :=
  ∃ s₂ o, Steps p.tables e below (T.setTop f) s₂ ∧ s₂.status = .running ∧ Ended s₂ below o ∧ K o s₂
def own_K (s : State) (Q : Option Value → Heap → List Loc → Prop) (cc ss : Nat) (o : Outcome) (U : State) : Prop :=
  ∃ v L, o = .returned v ∧ Q v U.heap L ∧ FrameEnd s o U L cc ss
variable {p : Program} {l : Launch} {e : Env} {R : Room} {s : State} {m : MethodId} {args : Array Value} {below : List Frame} {meth : Method} {c : Code} {T T' : State} {locs : List Loc} {cells slots : Nat} {K : Outcome → State → Prop} {Q : Option Value → Heap → List Loc → Prop} {cc ss : Nat} {f f' : JFrame}
theorem own_of (h : ∀ t, Steps p.tables e below (T'.setTop f') t → Steps p.tables e below (T.setTop f) t) (k : own_Go p e below K T' f') : own_Go p e below K T f := by
  obtain ⟨s2, o, h1, r⟩ := k
  exact ⟨s2, o, h _ h1, r⟩
theorem own_at (h : ∀ t, Steps p.tables e below (T.setTop f') t → Steps p.tables e below (T.setTop f) t) (k : own_Go p e below K T f') : own_Go p e below K T f := own_of h k
theorem own_cast (q : f = f') (k : own_Go p e below K T f') : own_Go p e below K T f := q ▸ k
theorem own_end (X : Stand p l e R s m args below meth c T locs cells slots) (hlk : meth.locks = false) {v : Option Value} (hv : meth.sig.returnType = none → v = none) (hq : Q v T.heap locs) (h1 : cells ≤ cc) (h2 : slots ≤ ss)
    (hs : ∀ fs, (∀ (f : JFrame) (acts : List Action), f.method = m → f.locked = none → f.entered = [] → (doReturn e (T.setTop f) acts v).1 = T.setFrames fs) → Steps p.tables e below (T.setTop f) (T.setFrames fs)) : own_Go p e below (own_K s Q cc ss) T f := by
  obtain ⟨fs, hr, hrun, hended, hW, hsame⟩ := X.leave (v := v) hv hlk
  exact ⟨_, _, hs fs hr, hrun, hended, _, _, rfl, hq, ⟨_, rfl⟩, hW, hsame.mono h1 h2⟩
theorem own_retN (X : Stand p l e R s m args below meth c T locs cells slots) (hx : p.tables.exec = Jvm.exec) (hlk : meth.locks = false) {pc : Nat} {Ls : Array Slot} {z w : Int32} {t : FieldType} {rest : List Value} (hret : meth.sig.returnType = some t) (ht : t = .boolean ∨ t = .byte ∨ t = .char ∨ t = .short)
    (hd : decode c.code pc = .ok (.ireturn, 1)) (hw : nar t z = w) (hq : Q (some (.int w)) T.heap locs) (h1 : cells ≤ cc) (h2 : slots ≤ ss) : own_Go p e below (own_K s Q cc ss) T (mkF m pc Ls (.int z :: rest)) := by
  subst hw
  exact own_end X hlk (fun h => by rw [hret] at h; cases h) hq h1 h2 fun fs hr => retN X hx hret ht hd hr
theorem own_retI (X : Stand p l e R s m args below meth c T locs cells slots) (hx : p.tables.exec = Jvm.exec) (hlk : meth.locks = false) {pc : Nat} {Ls : Array Slot} {z w : Int32} {rest : List Value} (hret : meth.sig.returnType = some .int)
    (hd : decode c.code pc = .ok (.ireturn, 1)) (hw : z = w) (hq : Q (some (.int w)) T.heap locs) (h1 : cells ≤ cc) (h2 : slots ≤ ss) : own_Go p e below (own_K s Q cc ss) T (mkF m pc Ls (.int z :: rest)) := by
  subst hw
  refine own_end X hlk (fun h => by rw [hret] at h; cases h) hq h1 h2 fun fs hr => ?_
  have hm' : T.vm.method? m = some meth := X.method'
  have hn : narrow .int (.int z) = .int z := rfl
  show Steps p.tables e below (T.setTop { method := m, pc := pc, locals := Ls, stack := _ :: rest, locked := none }) _
  jvm_step X.here [X.here.top, hx, hd, hm', hret, hn]
  first | (intro acts; rw [hr _ acts rfl rfl rfl]) | rw [hr _ _ rfl rfl rfl]
  exact Steps.refl _
theorem own_retJ (X : Stand p l e R s m args below meth c T locs cells slots) (hx : p.tables.exec = Jvm.exec) (hlk : meth.locks = false) {pc : Nat} {Ls : Array Slot} {z w : Int64} (hret : meth.sig.returnType = some .long)
    (hd : decode c.code pc = .ok (.lreturn, 1)) (hw : z = w) (hq : Q (some (.long w)) T.heap locs) (h1 : cells ≤ cc) (h2 : slots ≤ ss) : own_Go p e below (own_K s Q cc ss) T (mkF m pc Ls [.long z]) := by
  subst hw
  exact own_end X hlk (fun h => by rw [hret] at h; cases h) hq h1 h2 fun fs hr => X.lreturnOut hx hret hd hr
theorem own_retA (X : Stand p l e R s m args below meth c T locs cells slots) (hx : p.tables.exec = Jvm.exec) (hlk : meth.locks = false) {pc : Nat} {Ls : Array Slot} {z : Value} {ty : FieldType} {rest : List Value} (hz : z.isRef = true) (hret : meth.sig.returnType = some ty) (hty : ty.isReference = true)
    (hd : decode c.code pc = .ok (.areturn, 1)) (hq : Q (some z) T.heap locs) (h1 : cells ≤ cc) (h2 : slots ≤ ss) : own_Go p e below (own_K s Q cc ss) T (mkF m pc Ls (z :: rest)) := by
  refine own_end X hlk (fun h => by rw [hret] at h; cases h) hq h1 h2 fun fs hr => ?_
  have hm' : T.vm.method? m = some meth := X.method'
  show Steps p.tables e below (T.setTop { method := m, pc := pc, locals := Ls, stack := _ :: rest, locked := none }) _
  jvm_step X.here [X.here.top, hx, hd, hm', hret, hz, hty]
  first | (intro acts; rw [hr _ acts rfl rfl rfl]) | rw [hr _ _ rfl rfl rfl]
  exact Steps.refl _
theorem own_retV (X : Stand p l e R s m args below meth c T locs cells slots) (hx : p.tables.exec = Jvm.exec) (hlk : meth.locks = false) {pc : Nat} {Ls : Array Slot} (hret : meth.sig.returnType = none)
    (hd : decode c.code pc = .ok (.return_, 1)) (hq : Q none T.heap locs) (h1 : cells ≤ cc) (h2 : slots ≤ ss) : own_Go p e below (own_K s Q cc ss) T (mkF m pc Ls []) :=
  own_end X hlk (fun _ => rfl) hq h1 h2 fun fs hr => X.returnOut hx hret hd hr
theorem own_ne {i k : Int32} {z : Int} (hz : k.toInt = z) (h : ¬ i = k) : ¬ (z = i.toInt) := fun q => h (Int32.toInt_inj.mp (q.symm.trans hz.symm))
theorem own_lsw {tb : Tables} [Ours tb] {target : State} {g : JFrame} (h : At T m c below) (hx : tb.exec = Jvm.exec) (hg : g.method = m) {dflt o : Int} {prs : Array (Int × Int)} {len pc0 pc' : Nat} (hpc : g.pc = pc0) (hd : decode c.code g.pc = .ok (.lookupswitch dflt prs, len)) {i : Int32} {rest : List Value} (hs : g.stack = .int i :: rest)
    (hso : (prs.toList.zip (prs.toList.drop 1)).all (fun (a, next) => a.1 < next.1) = true) (hof : lookupswitch.offset prs.toList dflt i.toInt = o) (ho : 0 ≤ (pc0 : Int) + o) (hp : ((pc0 : Int) + o).toNat = pc')
    (hr : Steps tb e below (T.setTop { g with pc := pc', stack := rest }) target) : Steps tb e below (T.setTop g) target := by
  subst hg hpc hp hof
  jvm_step h [h.top, hx, hd, hs, ho, lookupswitch.wp_chain]
  exact ⟨by simpa using hso, hr⟩
theorem own_nar01 {z : Int32} (h : z = 0 ∨ z = 1) : nar .boolean z = z := by rcases h with rfl | rfl <;> decide
theorem own_narB (x : Int32) : nar .byte x.toInt8.toInt32 = x.toInt8.toInt32 := Value.int.inj (Jvm.Free.XT.narrow_b x)
theorem own_narC (x : Int32) : nar .char x.toUInt32.toUInt16.toUInt32.toInt32 = x.toUInt32.toUInt16.toUInt32.toInt32 := Value.int.inj (Jvm.Free.XT.narrow_c x)
end OwnKit
/-- a body that writes nothing and returns w -/
def own_P (w : Value) (h0 : Heap) (n0 : Nat) (v : Option Value) (h : Heap) (L : List Loc) : Prop := v = some w ∧ Fr n0 L ∧ h = h0
abbrev oI (x : Int32) : Slot := .val (.int x)
abbrev oN (n : Nat) : Slot := .val (.int (Int32.ofNat n))
abbrev oJ (x : Int64) : Slot := .val (.long x)
abbrev oR (x : Addr) : Slot := .val (.ref x)
abbrev oU : Slot := .unset
abbrev o2 : Slot := .second
section OwnArr
/-- an array by its class's name, its components' kind, and what it holds -/
def own_A (Z : State) (h : Heap) (a : Addr) (d : String) (ty : FieldType) (vs : List Value) : Prop :=
  ∃ c : Cell, Arr Z h a c ty ∧ Z.vm.findClass d = some c.cls ∧ c.slots = vs.toArray ∧ ∀ v ∈ vs, fits ty v = true
variable {p : Program} {l : Launch} {e : Env} {R : Room} {s : State} {m : MethodId} {args : Array Value} {below : List Frame} {meth : Method} {c : Code} {T : State} {locs : List Loc} {cells slots : Nat} {Z : State} {a0 : Array Value} {h h' : Heap} {a b : Addr} {d : String} {ty : FieldType} {vs : List Value} {sl : Nat} {v w : Value} {ws : List Addr}
theorem own_A.lt (F : own_A Z h a d ty vs) : a < h.size := by obtain ⟨c, A, -⟩ := F; exact A.lt
theorem own_A.ext (F : own_A Z h a d ty vs) (E : Ext h h') : own_A Z h' a d ty vs := by obtain ⟨c, A, r⟩ := F; exact ⟨c, A.ext E, r⟩
theorem own_A.other (F : own_A Z h b d ty vs) (W : Wr h h' a sl v) (q : b ≠ a) : own_A Z h' b d ty vs := by obtain ⟨c, A, r⟩ := F; exact ⟨c, A.other W q, r⟩
theorem own_A.keep (F : own_A Z h a d ty vs) (K : Keep h h' ws) (q : a ∉ ws) : own_A Z h' a d ty vs := by obtain ⟨c, A, r⟩ := F; exact ⟨c, ⟨K.2.1 a c A.1 q, A.2⟩, r⟩
theorem own_A.set (F : own_A Z h a d ty vs) {i : Nat} (W : Wr h h' a i v) (hv : fits ty v = true) : own_A Z h' a d ty (vs.set i v) := by
  obtain ⟨c, A, q, S, G⟩ := F
  refine ⟨_, A.same W, q, ?_, fun x hx => ?_⟩
  · simp [Cell.setSlot, S]
  · rcases List.mem_or_eq_of_mem_set hx with h1 | h1
    · exact G x h1
    · exact h1 ▸ hv
theorem own_A.exa (F : own_A Z h a d ty vs) : Exa Z h a d := by
  obtain ⟨c, A, q, -⟩ := F
  obtain ⟨-, k, hk, comp, hkind⟩ := A.2.1
  exact ⟨c, k, A.1, q, hk, A.plain, fun z => by rw [hkind] at z; cases z⟩
theorem own_A.fit (F : own_A Z h a d ty vs) : ∃ c : Cell, Arr Z h a c ty ∧ Z.vm.findClass d = some c.cls ∧ c.slots = vs.toArray ∧ (∀ v ∈ vs, fits ty v = true) ∧ FitC Z c := by
  obtain ⟨c, A, q, S, G⟩ := F
  refine ⟨c, A, q, S, G, fun i v hv => ?_⟩
  obtain ⟨-, k, hk, comp, hkind⟩ := A.2.1
  rw [S] at hv
  have hm : v ∈ vs := List.mem_of_getElem? (by simpa using hv)
  simp [State.fitsSlot, State.slotType?, hk, hkind, G v hm]
theorem own_inb {c : Cell} {j : Int32} {i : Nat} (S : c.slots = vs.toArray) (h0 : ¬ j < 0) (hj : j.toNatClampNeg = i) (hi : i < vs.length) : ¬ (j < 0 ∨ c.slots.size ≤ j.toNatClampNeg) := by
  rw [S, hj]; simp only [List.size_toArray]; exact fun q => q.elim h0 (fun q => absurd hi (Nat.not_lt.mpr q))
theorem own_newA (X : Stand p l e R s m args below meth c T locs cells slots) (hx : p.tables.exec = Jvm.exec) (hZ : Z.Warmed39 s.vm) {aty : ArrayType} (w : (Cond.arrayClass (newarray.typeOf aty)).before a0 Z = true) (eT : T.heap = h) {g : JFrame} (hg : g.method = m) (hd : decode c.code g.pc = .ok (.newarray aty, 2)) {n : Int32} {rest : List Value} (hs : g.stack = .int n :: rest)
    (hn : ¬ n < 0) {N cap : Nat} (hN : n.toNatClampNeg = N) (hcap : N ≤ cap) (hb : cap * 8 ≤ 536870912) (hc : cells + 1 ≤ R.cells) (hl : slots + cap ≤ R.slots) {d : String} (hdd : "[" ++ (newarray.typeOf aty).toString = d) {vs : List Value} (hvs : vs = List.replicate N (defaultValue (newarray.typeOf aty))) :
    ∃ T' h', Stand p l e R s m args below meth c T' locs (cells + 1) (slots + cap) ∧ T'.heap = h' ∧ Ext h h' ∧ own_A Z h' h.size d (newarray.typeOf aty) vs ∧
      ∀ target, Steps p.tables e below (T'.setTop { g with pc := g.pc + 2, stack := .ref h.size :: rest }) target → Steps p.tables e below (T.setTop g) target := by
  subst hN hdd hvs
  have hcb : componentBytes (newarray.typeOf aty) ≤ 8 := by cases aty <;> decide
  obtain ⟨cA, kA, comp, h1, h2, h3, X', st⟩ := X.newarrayPrim hx (mvA hZ w) hg hd hs hn (Nat.le_trans (Nat.mul_le_mul hcap hcb) hb) hc (by omega)
  subst eT
  rw [hZ.alike.findClass] at h1
  obtain ⟨kZ, z1, -⟩ := Vm.findClass_spec h1
  obtain ⟨k', z2, z3⟩ := hZ.alike.2.2 _ _ z1
  cases h2.symm.trans z2
  refine ⟨_, _, X'.more (Nat.le_refl _) (by omega), rfl, ⟨by show T.heap.size ≤ (T.heap.push _).size; simp, fun a c h => ?_⟩, ⟨{ cls := cA, slots := Array.replicate n.toNatClampNeg (defaultValue (newarray.typeOf aty)), vm := .none }, ⟨by show (T.heap.push _)[T.heap.size]? = _; simp, ⟨by simp, kZ, z1, comp, by rw [← h3, z3]⟩, by simp⟩, h1, by simp, fun v hv => ?_⟩, st⟩
  · have hlt := (Array.getElem?_eq_some_iff.mp h).1
    show (T.heap.push _)[a]? = _
    rw [Array.getElem?_push, if_neg (Nat.ne_of_lt hlt)]
    exact h
  · rw [List.eq_of_mem_replicate hv]; cases aty <;> rfl
theorem own_ldI (X : Stand p l e R s m args below meth c T locs cells slots) (hx : p.tables.exec = Jvm.exec) (hZ : Z.Warmed39 s.vm) (eT : T.heap = h) (V : own_A Z h a d .int vs) {j : Int32} {i : Nat} (h0 : ¬ j < 0) (hj : j.toNatClampNeg = i) (hv : vs[i]? = some v) {g : JFrame} (hg : g.method = m) {rest : List Value} (hs : g.stack = .int j :: .ref a :: rest) (hd : decode c.code g.pc = .ok (.iaload, 1)) :
    ∀ target, Steps p.tables e below (T.setTop { g with pc := g.pc + 1, stack := v :: rest }) target → Steps p.tables e below (T.setTop g) target := by
  obtain ⟨cl, A, q, S, G⟩ := V
  have hi : i < vs.length := (List.getElem?_eq_some_iff.mp hv).1
  exact X.iaload hx (by rw [eT]; exact A.1) (State.isArrayOf_alike hZ.alike A.2.1) A.2.2 (own_inb S h0 hj hi) (by rw [S, hj]; simpa using hv) hg hs hd
theorem own_ldJ (X : Stand p l e R s m args below meth c T locs cells slots) (hx : p.tables.exec = Jvm.exec) (hZ : Z.Warmed39 s.vm) (eT : T.heap = h) (V : own_A Z h a d .long vs) {j : Int32} {i : Nat} (h0 : ¬ j < 0) (hj : j.toNatClampNeg = i) (hv : vs[i]? = some v) {g : JFrame} (hg : g.method = m) {rest : List Value} (hs : g.stack = .int j :: .ref a :: rest) (hd : decode c.code g.pc = .ok (.laload, 1)) :
    ∀ target, Steps p.tables e below (T.setTop { g with pc := g.pc + 1, stack := v :: rest }) target → Steps p.tables e below (T.setTop g) target := by
  obtain ⟨cl, A, q, S, G⟩ := V
  have hi : i < vs.length := (List.getElem?_eq_some_iff.mp hv).1
  exact X.laload hx (by rw [eT]; exact A.1) (State.isArrayOf_alike hZ.alike A.2.1) A.2.2 (own_inb S h0 hj hi) (by rw [S, hj]; simpa using hv) hg hs hd
theorem own_ldC (X : Stand p l e R s m args below meth c T locs cells slots) (hx : p.tables.exec = Jvm.exec) (hZ : Z.Warmed39 s.vm) (eT : T.heap = h) (V : own_A Z h a d .char vs) {j : Int32} {i : Nat} (h0 : ¬ j < 0) (hj : j.toNatClampNeg = i) (hv : vs[i]? = some v) {g : JFrame} (hg : g.method = m) {rest : List Value} (hs : g.stack = .int j :: .ref a :: rest) (hd : decode c.code g.pc = .ok (.caload, 1)) :
    ∀ target, Steps p.tables e below (T.setTop { g with pc := g.pc + 1, stack := v :: rest }) target → Steps p.tables e below (T.setTop g) target := by
  obtain ⟨cl, A, q, S, G⟩ := V
  have hi : i < vs.length := (List.getElem?_eq_some_iff.mp hv).1
  exact X.caload hx (by rw [eT]; exact A.1) (State.isArrayOf_alike hZ.alike A.2.1) A.2.2 (own_inb S h0 hj hi) (by rw [S, hj]; simpa using hv) hg hs hd
theorem own_ldB (X : Stand p l e R s m args below meth c T locs cells slots) (hx : p.tables.exec = Jvm.exec) (hZ : Z.Warmed39 s.vm) (eT : T.heap = h) (V : own_A Z h a d .byte vs) {j : Int32} {i : Nat} (h0 : ¬ j < 0) (hj : j.toNatClampNeg = i) (hv : vs[i]? = some v) {g : JFrame} (hg : g.method = m) {rest : List Value} (hs : g.stack = .int j :: .ref a :: rest) (hd : decode c.code g.pc = .ok (.baload, 1)) :
    ∀ target, Steps p.tables e below (T.setTop { g with pc := g.pc + 1, stack := v :: rest }) target → Steps p.tables e below (T.setTop g) target := by
  obtain ⟨cl, A, q, S, G⟩ := V
  have hi : i < vs.length := (List.getElem?_eq_some_iff.mp hv).1
  exact X.baloadBytes hx (by rw [eT]; exact A.1) (State.isArrayOf_alike hZ.alike A.2.1) A.2.2 (own_inb S h0 hj hi) (by rw [S, hj]; simpa using hv) hg hs hd
theorem own_len (X : Stand p l e R s m args below meth c T locs cells slots) (hx : p.tables.exec = Jvm.exec) (hZ : Z.Warmed39 s.vm) (eT : T.heap = h) (V : own_A Z h a d ty vs) {N : Int32} (hN : vs.length.toInt32 = N) {g : JFrame} (hg : g.method = m) {rest : List Value} (hs : g.stack = .ref a :: rest) (hd : decode c.code g.pc = .ok (.arraylength, 1)) :
    ∀ target, Steps p.tables e below (T.setTop { g with pc := g.pc + 1, stack := .int N :: rest }) target → Steps p.tables e below (T.setTop g) target := by
  obtain ⟨cl, A, q, S, G⟩ := V
  have e1 : cl.slots.size.toInt32 = N := by rw [S]; simpa using hN
  have st := X.arraylength hx (by rw [eT]; exact A.1) (State.isArrayOf_alike hZ.alike A.2.1) hg hs hd
  rw [e1] at st
  exact st
theorem own_stI (X : Stand p l e R s m args below meth c T locs cells slots) (hx : p.tables.exec = Jvm.exec) (hZ : Z.Warmed39 s.vm) (eT : T.heap = h) (V : own_A Z h a d .int vs) {j x : Int32} {i : Nat} (h0 : ¬ j < 0) (hj : j.toNatClampNeg = i) (hi : i < vs.length) {g : JFrame} (hg : g.method = m) {rest : List Value} (hs : g.stack = .int x :: .int j :: .ref a :: rest) (hd : decode c.code g.pc = .ok (.iastore, 1)) :
    ∃ T' h', Stand p l e R s m args below meth c T' (locs ++ [⟨a, i⟩]) cells slots ∧ T'.heap = h' ∧ Wr h h' a i (.int x) ∧ own_A Z h' a d .int (vs.set i (.int x)) ∧ ∀ target, Steps p.tables e below (T'.setTop { g with pc := g.pc + 1, stack := rest }) target → Steps p.tables e below (T.setTop g) target := by
  obtain ⟨cl, A, q, S, G⟩ := id V
  subst hj
  obtain ⟨T', h', X', e', W, st⟩ := stI X hx hZ eT A (own_inb S h0 rfl hi) hg hs hd
  exact ⟨T', h', X', e', W, V.set W rfl, st⟩
theorem own_stJ (X : Stand p l e R s m args below meth c T locs cells slots) (hx : p.tables.exec = Jvm.exec) (hZ : Z.Warmed39 s.vm) (eT : T.heap = h) (V : own_A Z h a d .long vs) {j : Int32} {x : Int64} {i : Nat} (h0 : ¬ j < 0) (hj : j.toNatClampNeg = i) (hi : i < vs.length) {g : JFrame} (hg : g.method = m) {rest : List Value} (hs : g.stack = .long x :: .int j :: .ref a :: rest) (hd : decode c.code g.pc = .ok (.lastore, 1)) :
    ∃ T' h', Stand p l e R s m args below meth c T' (locs ++ [⟨a, i⟩]) cells slots ∧ T'.heap = h' ∧ Wr h h' a i (.long x) ∧ own_A Z h' a d .long (vs.set i (.long x)) ∧ ∀ target, Steps p.tables e below (T'.setTop { g with pc := g.pc + 1, stack := rest }) target → Steps p.tables e below (T.setTop g) target := by
  obtain ⟨cl, A, q, S, G⟩ := id V
  subst hj
  obtain ⟨T', h', X', e', W, st⟩ := stJ X hx hZ eT A (own_inb S h0 rfl hi) hg hs hd
  exact ⟨T', h', X', e', W, V.set W rfl, st⟩
theorem own_stB (X : Stand p l e R s m args below meth c T locs cells slots) (hx : p.tables.exec = Jvm.exec) (hZ : Z.Warmed39 s.vm) (eT : T.heap = h) (V : own_A Z h a d .byte vs) {j x y : Int32} {i : Nat} (hy : nar .byte x = y) (h0 : ¬ j < 0) (hj : j.toNatClampNeg = i) (hi : i < vs.length) {g : JFrame} (hg : g.method = m) {rest : List Value} (hs : g.stack = .int x :: .int j :: .ref a :: rest) (hd : decode c.code g.pc = .ok (.bastore, 1)) :
    ∃ T' h', Stand p l e R s m args below meth c T' (locs ++ [⟨a, i⟩]) cells slots ∧ T'.heap = h' ∧ Wr h h' a i (.int y) ∧ own_A Z h' a d .byte (vs.set i (.int y)) ∧ ∀ target, Steps p.tables e below (T'.setTop { g with pc := g.pc + 1, stack := rest }) target → Steps p.tables e below (T.setTop g) target := by
  obtain ⟨cl, A, q, S, G⟩ := id V
  subst hj hy
  obtain ⟨T', h', X', e', W, st⟩ := stB X hx hZ eT A (own_inb S h0 rfl hi) hg hs hd
  exact ⟨T', h', X', e', W, V.set W (fits_nar_byte x), st⟩
theorem own_stC (X : Stand p l e R s m args below meth c T locs cells slots) (hx : p.tables.exec = Jvm.exec) (hZ : Z.Warmed39 s.vm) (eT : T.heap = h) (V : own_A Z h a d .char vs) {j x y : Int32} {i : Nat} (hy : nar .char x = y) (h0 : ¬ j < 0) (hj : j.toNatClampNeg = i) (hi : i < vs.length) {g : JFrame} (hg : g.method = m) {rest : List Value} (hs : g.stack = .int x :: .int j :: .ref a :: rest) (hd : decode c.code g.pc = .ok (.castore, 1)) :
    ∃ T' h', Stand p l e R s m args below meth c T' (locs ++ [⟨a, i⟩]) cells slots ∧ T'.heap = h' ∧ Wr h h' a i (.int y) ∧ own_A Z h' a d .char (vs.set i (.int y)) ∧ ∀ target, Steps p.tables e below (T'.setTop { g with pc := g.pc + 1, stack := rest }) target → Steps p.tables e below (T.setTop g) target := by
  obtain ⟨cl, A, q, S, G⟩ := id V
  subst hj hy
  obtain ⟨T', h', X', e', W, st⟩ := stC X hx hZ eT A (own_inb S h0 rfl hi) hg hs hd
  exact ⟨T', h', X', e', W, V.set W (fits_nar_char x), st⟩
theorem own_clone (X : Stand p l e R s m args below meth c T locs cells slots) (hx : p.tables.exec = Jvm.exec) (hZ : Z.Warmed39 s.vm) {own : String} {index : Nat} (hown : s.vm.findClass own = some m.cls)
    (w1 : (Cond.methodLink own index ⟨d, "clone", "()Ljava/lang/Object;"⟩).before a0 Z = true) (w2 : (Cond.sameMethod d "java/lang/Object" "clone" "()Ljava/lang/Object;").before a0 Z = true) (w3 : (Cond.native ⟨"java/lang/Object", "clone", "()Ljava/lang/Object;"⟩).before a0 Z = true)
    (w4 : (Cond.instanceMethod ⟨"java/lang/Object", "clone", "()Ljava/lang/Object;"⟩).before a0 Z = true) (w5 : (Cond.selects d ⟨d, "clone", "()Ljava/lang/Object;"⟩ ⟨"java/lang/Object", "clone", "()Ljava/lang/Object;"⟩).before a0 Z = true) (w6 : (Cond.castable d "java/lang/Cloneable").before a0 Z = true)
    (eT : T.heap = h) (V : own_A Z h a d ty vs) {g : JFrame} (hg : g.method = m) (hsize : g.locals.size = c.maxLocals) {rest : List Value} (hs : g.stack = .ref a :: rest) (hd : decode c.code g.pc = .ok (.invokevirtual index, 3))
    (hf : 1 ≤ R.frames) {W cap : Nat} (hW : 2 * g.monitorRoom + (rest.map fun v => v.category).sum ≤ W) (hl : W + 14 ≤ R.locals) (hcap : vs.length ≤ cap) (hc : cells + 1 ≤ R.cells) (hsl : slots + cap ≤ R.slots) :
    ∃ T' h', Stand p l e R s m args below meth c T' locs (cells + 1) (slots + cap) ∧ T'.heap = h' ∧ Ext h h' ∧ own_A Z h' h.size d ty vs ∧
      ∀ target, Steps p.tables e below (T'.setTop { g with pc := g.pc + 3, stack := .ref h.size :: rest }) target → Steps p.tables e below (T.setTop g) target := by
  have Ex := V.exa
  obtain ⟨cl, A, q, S, G, F⟩ := V.fit
  obtain ⟨T', h', X', e', E, A', -, st⟩ := cloneA X hx hZ hown w1 w2 w3 w4 w5 w6 eT A Ex F hg hsize hs hd hf hW hl (cap := cap) (by rw [S]; simpa using hcap) hc hsl
  exact ⟨T', h', X', e', E, ⟨_, A', q, S, G⟩, st⟩
theorem own_nA (hv : v.isRef = true) : narrow (.array ty) v = v ∧ fits (.array ty) v = true := by cases v <;> simp_all [Value.isRef, narrow, fits]
end OwnArr

section OwnCopy
variable {p : Program} {l : Launch} {e : Env} {R : Room} {s : State} {m : MethodId} {args : Array Value} {below : List Frame} {meth : Method} {c : Code} {T : State} {locs : List Loc} {cells slots : Nat} {Z : State} {a0 : Array Value} {h h' : Heap} {a b : Addr} {d : String} {ty : FieldType} {vs vd : List Value}
theorem own_ofNat {n : Nat} (h : n < 2 ^ 31) : (Int32.ofNat n).toNatClampNeg = n ∧ ¬ Int32.ofNat n < 0 ∧ (Int32.ofNat n).toInt = n := by
  have e : (Int32.ofNat n).toInt = n := Int32.toInt_ofNat_of_lt h
  refine ⟨by rw [Int32.toNatClampNeg, e]; rfl, ?_, e⟩
  rw [Int32.lt_iff_toInt_lt, e, show (0 : Int32).toInt = 0 from rfl]; omega
theorem own_A.arv (F : own_A Z h a d ty vs) (hl : vs.length < 2 ^ 31) (dv : Value) : ∃ k, Z.vm.findClass d = some k ∧ Arv Z h a k ty (Int32.ofNat vs.length) vs dv := by
  obtain ⟨c, A, q, S, G⟩ := F
  refine ⟨c.cls, q, c, A, rfl, ?_, (own_ofNat hl).2.1, fun i hi => ?_, fun i hi => ?_⟩
  · rw [S, (own_ofNat hl).1]; simp
  · rw [S] at hi ⊢; simp at hi; simp [List.getD_eq_getElem?_getD, hi]
  · rw [S] at hi; simp at hi
    rw [List.getD_eq_getElem?_getD, List.getElem?_eq_getElem hi]
    exact G _ (List.getElem_mem hi)
theorem own_A.of_arv {k : ClassId} {z : Int32} {dv : Value} (q : Z.vm.findClass d = some k) (V : Arv Z h a k ty z vs dv) (hz : z.toNatClampNeg = vs.length) : own_A Z h a d ty vs := by
  obtain ⟨c, A, e, S, -, H, G⟩ := V
  refine ⟨c, A, by rw [e]; exact q, ?_, fun v hv => ?_⟩
  · apply Array.ext
    · rw [S, hz]; simp
    · intro i h1 h2
      have r := H i h1
      have h3 : i < vs.length := by simpa using h2
      rw [Array.getElem?_eq_getElem h1, List.getD_eq_getElem?_getD, List.getElem?_eq_getElem h3] at r
      simpa using r
  · obtain ⟨i, hi, rfl⟩ := List.mem_iff_getElem.mp hv
    have r := G i (by rw [S, hz]; exact hi)
    rw [List.getD_eq_getElem?_getD, List.getElem?_eq_getElem hi] at r
    exact r
theorem own_us {f q : Nat} (h : f + q ≤ vs.length) (dv : Value) : (List.range q).map (fun i => vs.getD (f + i) dv) = (vs.drop f).take q := by
  apply List.ext_getElem
  · simp; omega
  · intro i h1 h2
    have h3 : i < q := by simpa using h1
    simp [List.getD_eq_getElem?_getD, List.getElem?_eq_getElem (show f + i < vs.length by omega)]
theorem own_copy (X : Stand p l e R s m args below meth c T locs cells slots) (hx : p.tables.exec = Jvm.exec) (hZ : Z.Warmed39 s.vm) {own : String} {index : Nat} (hown : s.vm.findClass own = some m.cls)
    (w1 : (Cond.methodLink own index Jvm.Stand.acN).before a0 Z = true) (w2 : (Cond.native Jvm.Stand.acN).before a0 Z = true) (w3 : (Cond.static Jvm.Stand.acN).before a0 Z = true) (w4 : (Cond.initialized "java/lang/System").before a0 Z = true) (eT : T.heap = h)
    (A : own_A Z h a d ty vs) (B : own_A Z h b d ty vd) (hty : refKind ty = false) {f q : Nat} (h1 : f + q ≤ vs.length) (h2 : vd.length = q) (h3 : vs.length < 2 ^ 31) {n0 : Nat} (N : Fr n0 locs) (ge : n0 ≤ b)
    {g : JFrame} (hg : g.method = m) (hsize : g.locals.size = c.maxLocals) {rest : List Value} (hs : g.stack = .int (Int32.ofNat q) :: .int 0 :: .ref b :: .int (Int32.ofNat f) :: .ref a :: rest) (hd : decode c.code g.pc = .ok (.invokestatic index, 3))
    (hf : 1 ≤ R.frames) {W : Nat} (hW : 2 * g.monitorRoom + (rest.map fun v => v.category).sum ≤ W) (hlo : W + (nativeFrameWords "java/lang/System" "arraycopy" 5 + 11) ≤ R.locals) :
    ∃ T' h' L, Stand p l e R s m args below meth c T' L cells slots ∧ T'.heap = h' ∧ Fr n0 L ∧ Keep h h' [b] ∧ own_A Z h' b d ty ((vs.drop f).take q) ∧
      ∀ target, Steps p.tables e below (T'.setTop { g with pc := g.pc + 3, stack := rest }) target → Steps p.tables e below (T.setTop g) target := by
  obtain ⟨k, qk, V⟩ := A.arv h3 .null
  obtain ⟨k', qk', V'⟩ := B.arv (by omega) .null
  have eq := own_ofNat (n := q) (by omega)
  have ef := own_ofNat (n := f) (by omega)
  have el := own_ofNat h3
  have ed := own_ofNat (n := vd.length) (by omega)
  have e0 : (0 : Int32).toNatClampNeg = 0 := rfl
  obtain ⟨T', h', L, X', e', N', K', V2, st⟩ := cpA X hx hZ hown w1 w2 w3 w4 eT V V' (Or.inl ⟨rfl, hty⟩) (us := (vs.drop f).take q) ef.2.1 (by decide) eq.2.1 (by rw [ef.1, eq.1, el.1]; exact h1) (by rw [e0, eq.1, ed.1]; omega) (by rw [eq.1, ef.1]; exact (own_us h1 _).symm) (by rw [e0, eq.1]; omega) N ge hg hsize hs hd hf hW hlo
  refine ⟨T', h', L, X', e', N', K', ?_, st⟩
  have e3 : vd.take (0 : Int32).toNatClampNeg ++ (vs.drop f).take q ++ vd.drop ((0 : Int32).toNatClampNeg + (Int32.ofNat q).toNatClampNeg) = (vs.drop f).take q := by
    rw [e0, eq.1, Nat.zero_add, ← h2, List.drop_length]; simp
  rw [e3] at V2
  exact own_A.of_arv qk' V2 (by rw [ed.1, h2]; simp; omega)
end OwnCopy

def own_PV (h0 : Heap) (n0 : Nat) (v : Option Value) (h : Heap) (L : List Loc) : Prop := v = none ∧ Fr n0 L ∧ h = h0
theorem own_add (a b : Nat) : Int32.ofNat a + Int32.ofNat b = Int32.ofNat (a + b) := (Int32.ofNat_add a b).symm
theorem own_sub {a b : Nat} (h : b ≤ a) (h2 : a < 2 ^ 31) : Int32.ofNat a - Int32.ofNat b = Int32.ofNat (a - b) := by
  apply Int32.toInt_inj.mp
  have e1 := (own_ofNat h2).2.2; have e2 := (own_ofNat (n := b) (by omega)).2.2; have e3 := (own_ofNat (n := a - b) (by omega)).2.2
  have q := c_isub (Int32.ofNat a) (Int32.ofNat b); have r := rng32 (Int32.ofNat a - Int32.ofNat b)
  omega
theorem own_lt {a b : Nat} (ha : a < 2 ^ 31) (hb : b < 2 ^ 31) : Int32.ofNat a < Int32.ofNat b ↔ a < b := by
  rw [Int32.lt_iff_toInt_lt, (own_ofNat ha).2.2, (own_ofNat hb).2.2]; omega
theorem own_eq {a b : Nat} (ha : a < 2 ^ 31) (hb : b < 2 ^ 31) : Int32.ofNat a = Int32.ofNat b ↔ a = b := by
  rw [← Int32.toInt_inj, (own_ofNat ha).2.2, (own_ofNat hb).2.2]; omega
def own_Qf (Z : State) (vs : List Value) (h0 : Heap) (n0 : Nat) (v : Option Value) (h : Heap) (L : List Loc) : Prop := ∃ b : Addr, v = some (.ref b) ∧ Fr n0 L ∧ Keep h0 h [] ∧ n0 ≤ b ∧ h0.size ≤ b ∧ own_A Z h b "[B" .byte vs
theorem ef_jdk_29_69 (m : MethodId) (x0 : Int32) (x1 : Int32) : entryFrame m #[(.int x0), (.int x1)] 2 = mkF m 0 #[oI x0, oI x1] [] := by first | (simp [entryFrame, mkF, argsToLocals, Value.category]; done) | rfl
theorem d_jdk_29_69_0 : decode jdk_29_method_69_code 0 = .ok (.iload_n 0, 1) := by decide +kernel
theorem d_jdk_29_69_1 : decode jdk_29_method_69_code 1 = .ok (.iload_n 1, 1) := by decide +kernel
theorem d_jdk_29_69_2 : decode jdk_29_method_69_code 2 = .ok (.if_icmp .gt 7, 3) := by decide +kernel
theorem d_jdk_29_69_9 : decode jdk_29_method_69_code 9 = .ok (.iload_n 1, 1) := by decide +kernel
theorem d_jdk_29_69_10 : decode jdk_29_method_69_code 10 = .ok (.ireturn, 1) := by decide +kernel
theorem d_jdk_29_69_5 : decode jdk_29_method_69_code 5 = .ok (.iload_n 0, 1) := by decide +kernel
theorem d_jdk_29_69_6 : decode jdk_29_method_69_code 6 = .ok (.goto 4, 3) := by decide +kernel
def own_F_jdk_29_69 (q1 : Int32) (q2 : Int32) : Int32 := (if q2 < q1 then q2 else q1)
set_option maxRecDepth 65536 in
set_option maxHeartbeats 40000000 in
theorem rm_jdk_29_69 (l : Launch) (Z : State) (a0 : Array Value) (hw : ∀ d ∈ tables_1, d.before a0 Z = true) (ws : List Jvm.Cond) (q1 : Int32) (q2 : Int32)  (h0 : Heap) (n0 : Nat) (Z0 : n0 ≤ h0.size)  :
    MetFree l (⟨"java/lang/Math", "min", "(II)I"⟩ : MethodName) (head1 (Jvm.Cond.code (⟨"java/lang/Math", "min", "(II)I"⟩ : MethodName) jdk_29_method_69_code 2 (some .int) :: ws) ({ frames := 0, cells := 0, slots := 0, locals := 0 } : Room)) (fun a U => a = #[(.int q1), (.int q2)] ∧ Z.Warmed39 U.vm ∧ U.heap = h0) (fun _ _ _ _ _ => True) (fun _ U o U' => ∃ v L, o = .returned v ∧ own_P (.int (own_F_jdk_29_69 q1 q2)) h0 n0 v U'.heap L ∧ FrameEnd U o U' L ({ frames := 0, cells := 0, slots := 0, locals := 0 } : Room).cells ({ frames := 0, cells := 0, slots := 0, locals := 0 } : Room).slots) := by
  refine MetFree.of_bodySF (Jvm.Free.JP.mathPlain rfl (by decide +kernel)) hisR ?_
  intro p e s m args below meth c s₁ Bd hml0 hP hK
  obtain ⟨rfl, hZ, hh⟩ := hP
  have hx := Bd.exec
  have hby := Bd.bytes
  have hlk : meth.locks = false := BodyLoose.notSynchronized Bd
  have hml : c.maxLocals = 2 := hml0
  have hown : s.vm.findClass "java/lang/Math" = some m.cls := findClass_of_methodNamed Bd.named
  have hnm := (name_of_methodNamed Bd.named Bd.method).1
  have X0 : Stand p l e ({ frames := 0, cells := 0, slots := 0, locals := 0 } : Room) s m #[(.int q1), (.int q2)] below meth c s₁ [] 0 0 := Stand.of_body Bd
  have e0 : s₁.heap = h0 := by rw [← hh, Bd.state]; rfl
  have N0 := Fr.nil n0
  refine own_cast (K := own_K s (own_P (.int (own_F_jdk_29_69 q1 q2)) h0 n0) 0 0) (ef_jdk_29_69 m q1 q2) ?_
  generalize hKK : own_K s (own_P (.int (own_F_jdk_29_69 q1 q2)) h0 n0) 0 0 = KK
  show own_Go p e below KK s₁ (mkF m 0 #[oI q1, oI q2] [])
  refine own_at (fun t k => XS.iloadN X0.here hx rfl (hb hby d_jdk_29_69_0) rfl k) ?_
  show own_Go p e below KK s₁ (mkF m 1 #[oI q1, oI q2] [(.int q1)])
  refine own_at (fun t k => XS.iloadN X0.here hx rfl (hb hby d_jdk_29_69_1) rfl k) ?_
  show own_Go p e below KK s₁ (mkF m 2 #[oI q1, oI q2] [(.int q2), (.int q1)])
  by_cases hc2 : q2 < q1
  · refine own_at (fun t k => XS.icmpYes X0.here hx rfl (pc0 := 2) (pc' := 9) rfl (hb hby d_jdk_29_69_2) rfl (Jvm.Free.XT.ii_gt_t hc2) (by decide) (by decide) k) ?_
    show own_Go p e below KK s₁ (mkF m 9 #[oI q1, oI q2] [])
    refine own_at (fun t k => XS.iloadN X0.here hx rfl (hb hby d_jdk_29_69_9) rfl k) ?_
    show own_Go p e below KK s₁ (mkF m 10 #[oI q1, oI q2] [(.int q2)])
    subst hKK
    exact own_retI X0 hx hlk Bd.returns (hb hby d_jdk_29_69_10) (w := (own_F_jdk_29_69 q1 q2)) ((Eq.refl q2).trans (show q2 = (own_F_jdk_29_69 q1 q2) from by unfold own_F_jdk_29_69; rw [if_pos hc2])) ⟨rfl, N0, e0⟩ (Nat.le_of_ble_eq_true rfl) (Nat.le_of_ble_eq_true rfl)
  · refine own_at (fun t k => XS.icmpNo X0.here hx rfl (hb hby d_jdk_29_69_2) rfl (Jvm.Free.XT.ii_gt_f hc2) k) ?_
    show own_Go p e below KK s₁ (mkF m 5 #[oI q1, oI q2] [])
    refine own_at (fun t k => XS.iloadN X0.here hx rfl (hb hby d_jdk_29_69_5) rfl k) ?_
    show own_Go p e below KK s₁ (mkF m 6 #[oI q1, oI q2] [(.int q1)])
    refine own_at (fun t k => XS.goto X0.here hx rfl (pc0 := 6) (pc' := 10) rfl (hb hby d_jdk_29_69_6) (by decide) (by decide) k) ?_
    show own_Go p e below KK s₁ (mkF m 10 #[oI q1, oI q2] [(.int q1)])
    subst hKK
    exact own_retI X0 hx hlk Bd.returns (hb hby d_jdk_29_69_10) (w := (own_F_jdk_29_69 q1 q2)) ((Eq.refl q1).trans (show q1 = (own_F_jdk_29_69 q1 q2) from by unfold own_F_jdk_29_69; rw [if_neg hc2])) ⟨rfl, N0, e0⟩ (Nat.le_of_ble_eq_true rfl) (Nat.le_of_ble_eq_true rfl)
theorem own_min {a b : Nat} (h : b ≤ a) (h2 : a < 2 ^ 31) : own_F_jdk_29_69 (Int32.ofNat a) (Int32.ofNat b) = Int32.ofNat b := by
  unfold own_F_jdk_29_69
  split
  · rfl
  · rename_i q; rw [own_lt (by omega) h2] at q; rw [own_eq h2 (by omega)]; omega
theorem pn_java_util_Arrays : plainName "java/util/Arrays" = true := by first | (simp [plainName, overriddenIn]; done) | decide +kernel
theorem ef_jdk_65_131 (m : MethodId) (x0 : Int32) (x1 : Int32) : entryFrame m #[(.int x0), (.int x1)] 2 = mkF m 0 #[oI x0, oI x1] [] := by first | (simp [entryFrame, mkF, argsToLocals, Value.category]; done) | rfl
theorem d_jdk_65_131_0 : decode jdk_65_method_131_code 0 = .ok (.iload_n 1, 1) := by decide +kernel
theorem d_jdk_65_131_1 : decode jdk_65_method_131_code 1 = .ok (.iload_n 0, 1) := by decide +kernel
theorem d_jdk_65_131_2 : decode jdk_65_method_131_code 2 = .ok (.if_icmp .ge 35, 3) := by decide +kernel
theorem d_jdk_65_131_37 : decode jdk_65_method_131_code 37 = .ok (.return_, 1) := by decide +kernel
set_option maxRecDepth 65536 in
set_option maxHeartbeats 40000000 in
theorem rm_check (l : Launch) (Z : State) (a0 : Array Value) (hw : ∀ d ∈ tables_1, d.before a0 Z = true) (ws : List Jvm.Cond) (q1 : Int32) (q2 : Int32)  (h0 : Heap) (n0 : Nat) (Z0 : n0 ≤ h0.size) (hq : ¬ q2 < q1) :
    MetFree l (⟨"java/util/Arrays", "checkLength", "(II)V"⟩ : MethodName) (head1 (Jvm.Cond.code (⟨"java/util/Arrays", "checkLength", "(II)V"⟩ : MethodName) jdk_65_method_131_code 2 none :: ws) ({ frames := 0, cells := 0, slots := 0, locals := 0 } : Room)) (fun a U => a = #[(.int q1), (.int q2)] ∧ Z.Warmed39 U.vm ∧ U.heap = h0) (fun _ _ _ _ _ => True) (fun _ U o U' => ∃ v L, o = .returned v ∧ own_PV h0 n0 v U'.heap L ∧ FrameEnd U o U' L ({ frames := 0, cells := 0, slots := 0, locals := 0 } : Room).cells ({ frames := 0, cells := 0, slots := 0, locals := 0 } : Room).slots) := by
  refine MetFree.of_bodySF (plainFor_of_name pn_java_util_Arrays) hisR ?_
  intro p e s m args below meth c s₁ Bd hml0 hP hK
  obtain ⟨rfl, hZ, hh⟩ := hP
  have hx := Bd.exec
  have hby := Bd.bytes
  have hlk : meth.locks = false := BodyLoose.notSynchronized Bd
  have hml : c.maxLocals = 2 := hml0
  have hown : s.vm.findClass "java/util/Arrays" = some m.cls := findClass_of_methodNamed Bd.named
  have hnm := (name_of_methodNamed Bd.named Bd.method).1
  have X0 : Stand p l e ({ frames := 0, cells := 0, slots := 0, locals := 0 } : Room) s m #[(.int q1), (.int q2)] below meth c s₁ [] 0 0 := Stand.of_body Bd
  have e0 : s₁.heap = h0 := by rw [← hh, Bd.state]; rfl
  have N0 := Fr.nil n0
  refine own_cast (K := own_K s (own_PV h0 n0) 0 0) (ef_jdk_65_131 m q1 q2) ?_
  generalize hKK : own_K s (own_PV h0 n0) 0 0 = KK
  show own_Go p e below KK s₁ (mkF m 0 #[oI q1, oI q2] [])
  refine own_at (fun t k => XS.iloadN X0.here hx rfl (hb hby d_jdk_65_131_0) rfl k) ?_
  show own_Go p e below KK s₁ (mkF m 1 #[oI q1, oI q2] [(.int q2)])
  refine own_at (fun t k => XS.iloadN X0.here hx rfl (hb hby d_jdk_65_131_1) rfl k) ?_
  show own_Go p e below KK s₁ (mkF m 2 #[oI q1, oI q2] [(.int q1), (.int q2)])
  have hc2 : ¬ (q2 < q1) := hq
  refine own_at (fun t k => XS.icmpYes X0.here hx rfl (pc0 := 2) (pc' := 37) rfl (hb hby d_jdk_65_131_2) rfl (Jvm.Free.XT.ii_ge_t hc2) (by decide) (by decide) k) ?_
  show own_Go p e below KK s₁ (mkF m 37 #[oI q1, oI q2] [])
  subst hKK
  exact own_retV X0 hx hlk Bd.returns (hb hby d_jdk_65_131_37) ⟨rfl, N0, e0⟩ (Nat.le_of_ble_eq_true rfl) (Nat.le_of_ble_eq_true rfl)
theorem ef_jdk_65_133 (m : MethodId) (x0 : Addr) (x1 : Int32) (x2 : Int32) : entryFrame m #[(.ref x0), (.int x1), (.int x2)] 5 = mkF m 0 #[oR x0, oI x1, oI x2, oU, oU] [] := by first | (simp [entryFrame, mkF, argsToLocals, Value.category]; done) | rfl
theorem d_jdk_65_133_0 : decode jdk_65_method_133_code 0 = .ok (.iload_n 1, 1) := by decide +kernel
theorem d_jdk_65_133_1 : decode jdk_65_method_133_code 1 = .ok (.iload_n 2, 1) := by decide +kernel
theorem d_jdk_65_133_2 : decode jdk_65_method_133_code 2 = .ok (.invokestatic 343, 3) := by decide +kernel
theorem pd__II_V : parseMethodDescriptor "(II)V" = some ⟨[.int, .int], none⟩ := by decide +kernel
theorem d_jdk_65_133_5 : decode jdk_65_method_133_code 5 = .ok (.iload_n 2, 1) := by decide +kernel
theorem d_jdk_65_133_6 : decode jdk_65_method_133_code 6 = .ok (.iload_n 1, 1) := by decide +kernel
theorem d_jdk_65_133_7 : decode jdk_65_method_133_code 7 = .ok (.isub, 1) := by decide +kernel
theorem d_jdk_65_133_8 : decode jdk_65_method_133_code 8 = .ok (.istore_n 3, 1) := by decide +kernel
theorem d_jdk_65_133_9 : decode jdk_65_method_133_code 9 = .ok (.iload_n 3, 1) := by decide +kernel
theorem d_jdk_65_133_10 : decode jdk_65_method_133_code 10 = .ok (.newarray .byte, 2) := by decide +kernel
theorem d_jdk_65_133_12 : decode jdk_65_method_133_code 12 = .ok (.astore 4, 2) := by decide +kernel
theorem d_jdk_65_133_14 : decode jdk_65_method_133_code 14 = .ok (.aload_n 0, 1) := by decide +kernel
theorem d_jdk_65_133_15 : decode jdk_65_method_133_code 15 = .ok (.iload_n 1, 1) := by decide +kernel
theorem d_jdk_65_133_16 : decode jdk_65_method_133_code 16 = .ok (.aload 4, 2) := by decide +kernel
theorem d_jdk_65_133_18 : decode jdk_65_method_133_code 18 = .ok (.iconst 0, 1) := by decide +kernel
theorem d_jdk_65_133_19 : decode jdk_65_method_133_code 19 = .ok (.aload_n 0, 1) := by decide +kernel
theorem d_jdk_65_133_20 : decode jdk_65_method_133_code 20 = .ok (.arraylength, 1) := by decide +kernel
theorem d_jdk_65_133_21 : decode jdk_65_method_133_code 21 = .ok (.iload_n 1, 1) := by decide +kernel
theorem d_jdk_65_133_22 : decode jdk_65_method_133_code 22 = .ok (.isub, 1) := by decide +kernel
theorem d_jdk_65_133_23 : decode jdk_65_method_133_code 23 = .ok (.iload_n 3, 1) := by decide +kernel
theorem d_jdk_65_133_24 : decode jdk_65_method_133_code 24 = .ok (.invokestatic 304, 3) := by decide +kernel
theorem pd__II_I : parseMethodDescriptor "(II)I" = some ⟨[.int, .int], some .int⟩ := by decide +kernel
theorem d_jdk_65_133_27 : decode jdk_65_method_133_code 27 = .ok (.invokestatic 150, 3) := by decide +kernel
theorem d_jdk_65_133_30 : decode jdk_65_method_133_code 30 = .ok (.aload 4, 2) := by decide +kernel
theorem d_jdk_65_133_32 : decode jdk_65_method_133_code 32 = .ok (.areturn, 1) := by decide +kernel
set_option maxRecDepth 65536 in
set_option maxHeartbeats 40000000 in
theorem rm_corb (l : Launch) (Z : State) (a0 : Array Value) (hw : ∀ d ∈ tables_1, d.before a0 Z = true) (ws : List Jvm.Cond) (q1 : Addr) (f u : Nat) (vs : List Value) (h0 : Heap) (n0 : Nat) (Z0 : n0 ≤ h0.size) (Aq : own_A Z h0 q1 "[B" .byte vs) (hft : f ≤ u) (htl : u ≤ vs.length) (hl : vs.length ≤ 13) :
    MetFree l (⟨"java/util/Arrays", "copyOfRangeByte", "([BII)[B"⟩ : MethodName) (head1 (Jvm.Cond.code (⟨"java/util/Arrays", "copyOfRangeByte", "([BII)[B"⟩ : MethodName) jdk_65_method_133_code 5 (some (.array .byte)) :: ws) ({ frames := 1, cells := 1, slots := 13, locals := 40 } : Room)) (fun a U => a = #[(.ref q1), (.int (Int32.ofNat f)), (.int (Int32.ofNat u))] ∧ Z.Warmed39 U.vm ∧ U.heap = h0) (fun _ _ _ _ _ => True) (fun _ U o U' => ∃ v L, o = .returned v ∧ own_Qf Z ((vs.drop f).take (u - f)) h0 n0 v U'.heap L ∧ FrameEnd U o U' L ({ frames := 1, cells := 1, slots := 13, locals := 40 } : Room).cells ({ frames := 1, cells := 1, slots := 13, locals := 40 } : Room).slots) := by
  refine MetFree.of_bodySF (plainFor_of_name pn_java_util_Arrays) hisR ?_
  intro p e s m args below meth c s₁ Bd hml0 hP hK
  obtain ⟨rfl, hZ, hh⟩ := hP
  have hx := Bd.exec
  have hby := Bd.bytes
  have hlk : meth.locks = false := BodyLoose.notSynchronized Bd
  have hml : c.maxLocals = 5 := hml0
  have hown : s.vm.findClass "java/util/Arrays" = some m.cls := findClass_of_methodNamed Bd.named
  have hnm := (name_of_methodNamed Bd.named Bd.method).1
  have X0 : Stand p l e ({ frames := 1, cells := 1, slots := 13, locals := 40 } : Room) s m #[(.ref q1), (.int (Int32.ofNat f)), (.int (Int32.ofNat u))] below meth c s₁ [] 0 0 := Stand.of_body Bd
  have e0 : s₁.heap = h0 := by rw [← hh, Bd.state]; rfl
  have N0 := Fr.nil n0
  refine own_cast (K := own_K s (own_Qf Z ((vs.drop f).take (u - f)) h0 n0) 1 13) (ef_jdk_65_133 m q1 (Int32.ofNat f) (Int32.ofNat u)) ?_
  generalize hKK : own_K s (own_Qf Z ((vs.drop f).take (u - f)) h0 n0) 1 13 = KK
  show own_Go p e below KK s₁ (mkF m 0 #[oR q1, oN f, oN u, oU, oU] [])
  have Kp0 : Keep h0 h0 [] := Keep.refl _ _
  refine own_at (fun t k => XS.iloadN X0.here hx rfl (hb hby d_jdk_65_133_0) rfl k) ?_
  show own_Go p e below KK s₁ (mkF m 1 #[oR q1, oN f, oN u, oU, oU] [(.int (Int32.ofNat f))])
  refine own_at (fun t k => XS.iloadN X0.here hx rfl (hb hby d_jdk_65_133_1) rfl k) ?_
  show own_Go p e below KK s₁ (mkF m 2 #[oR q1, oN f, oN u, oU, oU] [(.int (Int32.ofNat u)), (.int (Int32.ofNat f))])
  obtain ⟨_, _, ⟨T1, L1, k1, n1⟩, -, X1, ⟨Lc1, hQ1, l1, y1, z1⟩, st1⟩ := Jvm.LawKit.callS X0 hx (y := (⟨"java/util/Arrays", "checkLength", "(II)V"⟩ : MethodName)) hown (mvT hZ (hw _ (List.mem_of_getElem? (i := 20) rfl))) (mvT hZ (hw _ (List.mem_of_getElem? (i := 21) rfl))) (mvT hZ (hw _ (List.mem_of_getElem? (i := 15) rfl))) (mvT hZ (hw _ (List.mem_of_getElem? (i := 22) rfl))) (by decide) (backOf (W := 0) (rm_check l Z a0 hw [] (Int32.ofNat f) (Int32.ofNat u)  h0 n0 Z0 (fun q => absurd ((own_lt (by omega) (by omega)).mp q) (by omega))) hZ (hw _ (List.mem_of_getElem? (i := 22) rfl)) (hw _ (List.mem_of_getElem? (i := 15) rfl)) (by decide) (by decide)) (g := (mkF m 2 #[oR q1, oN f, oN u, oU, oU] [(.int (Int32.ofNat u)), (.int (Int32.ofNat f))])) rfl (by rw [hml]; rfl) (argsL := [(.int (Int32.ofNat f)), (.int (Int32.ofNat u))]) (rest := []) (lenOf pd__II_V rfl) rfl (by show 2 * 0 + _ ≤ _; exact Nat.le_of_eq rfl) (hb hby d_jdk_65_133_2) (fun _ _ => ⟨rfl, e0, (by decide : 0 + 0 ≤ _), (by decide : 0 + 0 ≤ _)⟩)
  dsimp only [Pt.U, Pt.locs, Pt.cells, Pt.slots] at X1 l1 y1 z1 st1 hQ1
  subst l1 y1 z1
  obtain ⟨rfl, N1q, e1⟩ := hQ1
  have N1 := Fr.app N0 N1q
  refine own_of (fun t k => st1 t k) ?_
  show own_Go p e below KK T1 (mkF m 5 #[oR q1, oN f, oN u, oU, oU] [])
  refine own_at (fun t k => XS.iloadN X1.here hx rfl (hb hby d_jdk_65_133_5) rfl k) ?_
  show own_Go p e below KK T1 (mkF m 6 #[oR q1, oN f, oN u, oU, oU] [(.int (Int32.ofNat u))])
  refine own_at (fun t k => XS.iloadN X1.here hx rfl (hb hby d_jdk_65_133_6) rfl k) ?_
  show own_Go p e below KK T1 (mkF m 7 #[oR q1, oN f, oN u, oU, oU] [(.int (Int32.ofNat f)), (.int (Int32.ofNat u))])
  refine own_at (fun t k => XS.isub X1.here hx rfl (hb hby d_jdk_65_133_7) rfl k) ?_
  show own_Go p e below KK T1 (mkF m 8 #[oR q1, oN f, oN u, oU, oU] [(.int ((Int32.ofNat u) - (Int32.ofNat f)))])
  rw [show ((Int32.ofNat u) - (Int32.ofNat f)) = (Int32.ofNat (u - f)) from own_sub hft (by omega)]
  show own_Go p e below KK T1 (mkF m 8 #[oR q1, oN f, oN u, oU, oU] [(.int (Int32.ofNat (u - f)))])
  refine own_at (fun t k => XS.istoreN X1.here hx rfl (hb hby d_jdk_65_133_8) rfl (l' := #[oR q1, oN f, oN u, oN (u - f), oU]) rfl k) ?_
  show own_Go p e below KK T1 (mkF m 9 #[oR q1, oN f, oN u, oN (u - f), oU] [])
  refine own_at (fun t k => XS.iloadN X1.here hx rfl (hb hby d_jdk_65_133_9) rfl k) ?_
  show own_Go p e below KK T1 (mkF m 10 #[oR q1, oN f, oN u, oN (u - f), oU] [(.int (Int32.ofNat (u - f)))])
  obtain ⟨T2, h2, X2, e2, E2, V2, st2⟩ := own_newA X1 hx hZ (hw _ (List.mem_of_getElem? (i := 1) rfl)) e1 (g := (mkF m 10 #[oR q1, oN f, oN u, oN (u - f), oU] [(.int (Int32.ofNat (u - f)))])) rfl (hb hby d_jdk_65_133_10) rfl (own_ofNat (by omega)).2.1 (N := (u - f)) (own_ofNat (by omega)).1 (cap := 13) (by omega) (by decide) (by decide) (by decide) (d := "[B") (by first | rfl | decide +kernel) (vs := (List.replicate (u - f) (.int 0))) rfl
  obtain ⟨b2, g2⟩ : ∃ z, z = h0.size := ⟨_, rfl⟩
  rw [← g2] at V2 st2
  have ne_q1_b2 : q1 ≠ b2 := by rw [g2]; exact Nat.ne_of_lt Aq.lt
  have g_b2 : n0 ≤ b2 := by rw [g2]; exact Z0
  have sz_b2 : h0.size ≤ b2 := by rw [g2]; exact Kp0.1
  have Aq_h2 : own_A Z h2 q1 "[B" .byte vs := Aq.ext E2
  have Zs2 : n0 ≤ h2.size := Nat.le_trans Z0 E2.1
  have Kp2 : Keep h0 h2 [] := Kp0.ext E2
  have A3_b2 : own_A Z h2 b2 "[B" .byte (List.replicate (u - f) (.int 0)) := V2
  refine own_of (fun t k => st2 t k) ?_
  show own_Go p e below KK T2 (mkF m 12 #[oR q1, oN f, oN u, oN (u - f), oU] [(.ref b2)])
  refine own_at (fun t k => XS.astore X2.here hx rfl (hb hby d_jdk_65_133_12) rfl rfl (l' := #[oR q1, oN f, oN u, oN (u - f), oR b2]) rfl k) ?_
  show own_Go p e below KK T2 (mkF m 14 #[oR q1, oN f, oN u, oN (u - f), oR b2] [])
  refine own_at (fun t k => XS.aloadN X2.here hx rfl (hb hby d_jdk_65_133_14) rfl rfl k) ?_
  show own_Go p e below KK T2 (mkF m 15 #[oR q1, oN f, oN u, oN (u - f), oR b2] [(.ref q1)])
  refine own_at (fun t k => XS.iloadN X2.here hx rfl (hb hby d_jdk_65_133_15) rfl k) ?_
  show own_Go p e below KK T2 (mkF m 16 #[oR q1, oN f, oN u, oN (u - f), oR b2] [(.int (Int32.ofNat f)), (.ref q1)])
  refine own_at (fun t k => XS.aload X2.here hx rfl (hb hby d_jdk_65_133_16) rfl rfl k) ?_
  show own_Go p e below KK T2 (mkF m 18 #[oR q1, oN f, oN u, oN (u - f), oR b2] [(.ref b2), (.int (Int32.ofNat f)), (.ref q1)])
  refine own_at (fun t k => XS.iconst X2.here hx rfl (hb hby d_jdk_65_133_18) k) ?_
  show own_Go p e below KK T2 (mkF m 19 #[oR q1, oN f, oN u, oN (u - f), oR b2] [(.int 0), (.ref b2), (.int (Int32.ofNat f)), (.ref q1)])
  refine own_at (fun t k => XS.aloadN X2.here hx rfl (hb hby d_jdk_65_133_19) rfl rfl k) ?_
  show own_Go p e below KK T2 (mkF m 20 #[oR q1, oN f, oN u, oN (u - f), oR b2] [(.ref q1), (.int 0), (.ref b2), (.int (Int32.ofNat f)), (.ref q1)])
  refine own_at (fun t k => own_len X2 hx hZ e2 Aq_h2 (N := (Int32.ofNat vs.length)) rfl (g := (mkF m 20 #[oR q1, oN f, oN u, oN (u - f), oR b2] [(.ref q1), (.int 0), (.ref b2), (.int (Int32.ofNat f)), (.ref q1)])) rfl rfl (hb hby d_jdk_65_133_20) t k) ?_
  show own_Go p e below KK T2 (mkF m 21 #[oR q1, oN f, oN u, oN (u - f), oR b2] [(.int (Int32.ofNat vs.length)), (.int 0), (.ref b2), (.int (Int32.ofNat f)), (.ref q1)])
  refine own_at (fun t k => XS.iloadN X2.here hx rfl (hb hby d_jdk_65_133_21) rfl k) ?_
  show own_Go p e below KK T2 (mkF m 22 #[oR q1, oN f, oN u, oN (u - f), oR b2] [(.int (Int32.ofNat f)), (.int (Int32.ofNat vs.length)), (.int 0), (.ref b2), (.int (Int32.ofNat f)), (.ref q1)])
  refine own_at (fun t k => XS.isub X2.here hx rfl (hb hby d_jdk_65_133_22) rfl k) ?_
  show own_Go p e below KK T2 (mkF m 23 #[oR q1, oN f, oN u, oN (u - f), oR b2] [(.int ((Int32.ofNat vs.length) - (Int32.ofNat f))), (.int 0), (.ref b2), (.int (Int32.ofNat f)), (.ref q1)])
  rw [show ((Int32.ofNat vs.length) - (Int32.ofNat f)) = (Int32.ofNat (vs.length - f)) from own_sub (by omega) (by omega)]
  show own_Go p e below KK T2 (mkF m 23 #[oR q1, oN f, oN u, oN (u - f), oR b2] [(.int (Int32.ofNat (vs.length - f))), (.int 0), (.ref b2), (.int (Int32.ofNat f)), (.ref q1)])
  refine own_at (fun t k => XS.iloadN X2.here hx rfl (hb hby d_jdk_65_133_23) rfl k) ?_
  show own_Go p e below KK T2 (mkF m 24 #[oR q1, oN f, oN u, oN (u - f), oR b2] [(.int (Int32.ofNat (u - f))), (.int (Int32.ofNat (vs.length - f))), (.int 0), (.ref b2), (.int (Int32.ofNat f)), (.ref q1)])
  obtain ⟨_, _, ⟨T4, L4, k4, n4⟩, -, X4, ⟨Lc4, hQ4, l4, y4, z4⟩, st4⟩ := Jvm.LawKit.callS X2 hx (y := (⟨"java/lang/Math", "min", "(II)I"⟩ : MethodName)) hown (mvT hZ (hw _ (List.mem_of_getElem? (i := 23) rfl))) (mvT hZ (hw _ (List.mem_of_getElem? (i := 24) rfl))) (mvT hZ (hw _ (List.mem_of_getElem? (i := 25) rfl))) (mvT hZ (hw _ (List.mem_of_getElem? (i := 26) rfl))) (by decide) (backOf (W := 4) (rm_jdk_29_69 l Z a0 hw [] (Int32.ofNat (vs.length - f)) (Int32.ofNat (u - f))  h2 n0 Zs2 ) hZ (hw _ (List.mem_of_getElem? (i := 26) rfl)) (hw _ (List.mem_of_getElem? (i := 25) rfl)) (by decide) (by decide)) (g := (mkF m 24 #[oR q1, oN f, oN u, oN (u - f), oR b2] [(.int (Int32.ofNat (u - f))), (.int (Int32.ofNat (vs.length - f))), (.int 0), (.ref b2), (.int (Int32.ofNat f)), (.ref q1)])) rfl (by rw [hml]; rfl) (argsL := [(.int (Int32.ofNat (vs.length - f))), (.int (Int32.ofNat (u - f)))]) (rest := [(.int 0), (.ref b2), (.int (Int32.ofNat f)), (.ref q1)]) (lenOf pd__II_I rfl) rfl (by show 2 * 0 + _ ≤ _; exact Nat.le_of_eq rfl) (hb hby d_jdk_65_133_24) (fun _ _ => ⟨rfl, e2, (by decide : 1 + 0 ≤ _), (by decide : 13 + 0 ≤ _)⟩)
  dsimp only [Pt.U, Pt.locs, Pt.cells, Pt.slots] at X4 l4 y4 z4 st4 hQ4
  subst l4 y4 z4
  obtain ⟨rfl, N4q, e4⟩ := hQ4
  have N4 := Fr.app N1 N4q
  refine own_of (fun t k => st4 t k) ?_
  show own_Go p e below KK T4 (mkF m 27 #[oR q1, oN f, oN u, oN (u - f), oR b2] [(.int (own_F_jdk_29_69 (Int32.ofNat (vs.length - f)) (Int32.ofNat (u - f)))), (.int 0), (.ref b2), (.int (Int32.ofNat f)), (.ref q1)])
  rw [show (own_F_jdk_29_69 (Int32.ofNat (vs.length - f)) (Int32.ofNat (u - f))) = (Int32.ofNat (u - f)) from own_min (by omega) (by omega)]
  show own_Go p e below KK T4 (mkF m 27 #[oR q1, oN f, oN u, oN (u - f), oR b2] [(.int (Int32.ofNat (u - f))), (.int 0), (.ref b2), (.int (Int32.ofNat f)), (.ref q1)])
  obtain ⟨T5, h5, L5, X5, e5, N5, K5, V5, st5⟩ := own_copy X4 hx hZ hown (hw _ (List.mem_of_getElem? (i := 27) rfl)) (hw _ (List.mem_of_getElem? (i := 30) rfl)) (hw _ (List.mem_of_getElem? (i := 28) rfl)) (hw _ (List.mem_of_getElem? (i := 29) rfl)) e4 Aq_h2 A3_b2 rfl (f := f) (q := (u - f)) (by omega) (by simp) (by omega) N4 g_b2 (g := (mkF m 27 #[oR q1, oN f, oN u, oN (u - f), oR b2] [(.int (Int32.ofNat (u - f))), (.int 0), (.ref b2), (.int (Int32.ofNat f)), (.ref q1)])) rfl (by rw [hml]; rfl) rfl (hb hby d_jdk_65_133_27) (by decide) (W := 0) (by show 2 * 0 + _ ≤ _; exact Nat.le_of_eq rfl) (by decide)
  have Aq_h5 : own_A Z h5 q1 "[B" .byte vs := Aq_h2.keep K5 (ninS ne_q1_b2 nin0)
  have Zs5 : n0 ≤ h5.size := Nat.le_trans Zs2 K5.1
  have Kp5 : Keep h0 h5 [] := Kp2.trans K5 (allS (Or.inr sz_b2) all0)
  have A6_b2 : own_A Z h5 b2 "[B" .byte ((vs.drop f).take (u - f)) := V5
  refine own_of (fun t k => st5 t k) ?_
  show own_Go p e below KK T5 (mkF m 30 #[oR q1, oN f, oN u, oN (u - f), oR b2] [])
  refine own_at (fun t k => XS.aload X5.here hx rfl (hb hby d_jdk_65_133_30) rfl rfl k) ?_
  show own_Go p e below KK T5 (mkF m 32 #[oR q1, oN f, oN u, oN (u - f), oR b2] [(.ref b2)])
  subst hKK
  exact own_retA X5 hx hlk rfl Bd.returns rfl (hb hby d_jdk_65_133_32) ⟨b2, rfl, N5, by rw [e5]; exact Kp5, g_b2, sz_b2, by rw [e5]; exact A6_b2⟩ (Nat.le_of_ble_eq_true rfl) (Nat.le_of_ble_eq_true rfl)
theorem ef_jdk_65_132 (m : MethodId) (x0 : Addr) (x1 : Int32) (x2 : Int32) : entryFrame m #[(.ref x0), (.int x1), (.int x2)] 3 = mkF m 0 #[oR x0, oI x1, oI x2] [] := by first | (simp [entryFrame, mkF, argsToLocals, Value.category]; done) | rfl
theorem d_jdk_65_132_0 : decode jdk_65_method_132_code 0 = .ok (.iload_n 1, 1) := by decide +kernel
theorem d_jdk_65_132_1 : decode jdk_65_method_132_code 1 = .ok (.ifCond .ne 9, 3) := by decide +kernel
theorem d_jdk_65_132_10 : decode jdk_65_method_132_code 10 = .ok (.aload_n 0, 1) := by decide +kernel
theorem d_jdk_65_132_11 : decode jdk_65_method_132_code 11 = .ok (.iload_n 1, 1) := by decide +kernel
theorem d_jdk_65_132_12 : decode jdk_65_method_132_code 12 = .ok (.iload_n 2, 1) := by decide +kernel
theorem d_jdk_65_132_13 : decode jdk_65_method_132_code 13 = .ok (.invokestatic 339, 3) := by decide +kernel
theorem pd___BII__B : parseMethodDescriptor "([BII)[B" = some ⟨[(.array .byte), .int, .int], some (.array .byte)⟩ := by decide +kernel
theorem d_jdk_65_132_16 : decode jdk_65_method_132_code 16 = .ok (.areturn, 1) := by decide +kernel
set_option maxRecDepth 65536 in
set_option maxHeartbeats 40000000 in
theorem rm_cor (l : Launch) (Z : State) (a0 : Array Value) (hw : ∀ d ∈ tables_1, d.before a0 Z = true) (ws : List Jvm.Cond) (q1 : Addr) (f u : Nat) (vs : List Value) (h0 : Heap) (n0 : Nat) (Z0 : n0 ≤ h0.size) (Aq : own_A Z h0 q1 "[B" .byte vs) (hf1 : 1 ≤ f) (hft : f ≤ u) (htl : u ≤ vs.length) (hl : vs.length ≤ 13) :
    MetFree l (⟨"java/util/Arrays", "copyOfRange", "([BII)[B"⟩ : MethodName) (head1 (Jvm.Cond.code (⟨"java/util/Arrays", "copyOfRange", "([BII)[B"⟩ : MethodName) jdk_65_method_132_code 3 (some (.array .byte)) :: ws) ({ frames := 2, cells := 1, slots := 13, locals := 56 } : Room)) (fun a U => a = #[(.ref q1), (.int (Int32.ofNat f)), (.int (Int32.ofNat u))] ∧ Z.Warmed39 U.vm ∧ U.heap = h0) (fun _ _ _ _ _ => True) (fun _ U o U' => ∃ v L, o = .returned v ∧ own_Qf Z ((vs.drop f).take (u - f)) h0 n0 v U'.heap L ∧ FrameEnd U o U' L ({ frames := 2, cells := 1, slots := 13, locals := 56 } : Room).cells ({ frames := 2, cells := 1, slots := 13, locals := 56 } : Room).slots) := by
  refine MetFree.of_bodySF (plainFor_of_name pn_java_util_Arrays) hisR ?_
  intro p e s m args below meth c s₁ Bd hml0 hP hK
  obtain ⟨rfl, hZ, hh⟩ := hP
  have hx := Bd.exec
  have hby := Bd.bytes
  have hlk : meth.locks = false := BodyLoose.notSynchronized Bd
  have hml : c.maxLocals = 3 := hml0
  have hown : s.vm.findClass "java/util/Arrays" = some m.cls := findClass_of_methodNamed Bd.named
  have hnm := (name_of_methodNamed Bd.named Bd.method).1
  have X0 : Stand p l e ({ frames := 2, cells := 1, slots := 13, locals := 56 } : Room) s m #[(.ref q1), (.int (Int32.ofNat f)), (.int (Int32.ofNat u))] below meth c s₁ [] 0 0 := Stand.of_body Bd
  have e0 : s₁.heap = h0 := by rw [← hh, Bd.state]; rfl
  have N0 := Fr.nil n0
  refine own_cast (K := own_K s (own_Qf Z ((vs.drop f).take (u - f)) h0 n0) 1 13) (ef_jdk_65_132 m q1 (Int32.ofNat f) (Int32.ofNat u)) ?_
  generalize hKK : own_K s (own_Qf Z ((vs.drop f).take (u - f)) h0 n0) 1 13 = KK
  show own_Go p e below KK s₁ (mkF m 0 #[oR q1, oN f, oN u] [])
  have Kp0 : Keep h0 h0 [] := Keep.refl _ _
  refine own_at (fun t k => XS.iloadN X0.here hx rfl (hb hby d_jdk_65_132_0) rfl k) ?_
  show own_Go p e below KK s₁ (mkF m 1 #[oR q1, oN f, oN u] [(.int (Int32.ofNat f))])
  have hc1 : ¬ ((Int32.ofNat f) = (0 : Int32)) := (fun q => absurd ((own_eq (b := 0) (by omega) (by omega)).mp q) (by omega))
  refine own_at (fun t k => XS.ifYes X0.here hx rfl (pc0 := 1) (pc' := 10) rfl (hb hby d_jdk_65_132_1) rfl (Jvm.Free.XT.i0_ne_t hc1) (by decide) (by decide) k) ?_
  show own_Go p e below KK s₁ (mkF m 10 #[oR q1, oN f, oN u] [])
  refine own_at (fun t k => XS.aloadN X0.here hx rfl (hb hby d_jdk_65_132_10) rfl rfl k) ?_
  show own_Go p e below KK s₁ (mkF m 11 #[oR q1, oN f, oN u] [(.ref q1)])
  refine own_at (fun t k => XS.iloadN X0.here hx rfl (hb hby d_jdk_65_132_11) rfl k) ?_
  show own_Go p e below KK s₁ (mkF m 12 #[oR q1, oN f, oN u] [(.int (Int32.ofNat f)), (.ref q1)])
  refine own_at (fun t k => XS.iloadN X0.here hx rfl (hb hby d_jdk_65_132_12) rfl k) ?_
  show own_Go p e below KK s₁ (mkF m 13 #[oR q1, oN f, oN u] [(.int (Int32.ofNat u)), (.int (Int32.ofNat f)), (.ref q1)])
  obtain ⟨_, _, ⟨T1, L1, k1, n1⟩, -, X1, ⟨Lc1, hQ1, l1, y1, z1⟩, st1⟩ := Jvm.LawKit.callS X0 hx (y := (⟨"java/util/Arrays", "copyOfRangeByte", "([BII)[B"⟩ : MethodName)) hown (mvT hZ (hw _ (List.mem_of_getElem? (i := 17) rfl))) (mvT hZ (hw _ (List.mem_of_getElem? (i := 18) rfl))) (mvT hZ (hw _ (List.mem_of_getElem? (i := 15) rfl))) (mvT hZ (hw _ (List.mem_of_getElem? (i := 19) rfl))) (by decide) (backOf (W := 0) (rm_corb l Z a0 hw [] q1 f u vs h0 n0 Z0 Aq hft htl hl) hZ (hw _ (List.mem_of_getElem? (i := 19) rfl)) (hw _ (List.mem_of_getElem? (i := 15) rfl)) (by decide) (by decide)) (g := (mkF m 13 #[oR q1, oN f, oN u] [(.int (Int32.ofNat u)), (.int (Int32.ofNat f)), (.ref q1)])) rfl (by rw [hml]; rfl) (argsL := [(.ref q1), (.int (Int32.ofNat f)), (.int (Int32.ofNat u))]) (rest := []) (lenOf pd___BII__B rfl) rfl (by show 2 * 0 + _ ≤ _; exact Nat.le_of_eq rfl) (hb hby d_jdk_65_132_13) (fun _ _ => ⟨rfl, e0, (by decide : 0 + 1 ≤ _), (by decide : 0 + 13 ≤ _)⟩)
  dsimp only [Pt.U, Pt.locs, Pt.cells, Pt.slots] at X1 l1 y1 z1 st1 hQ1
  subst l1 y1 z1
  obtain ⟨r1, rfl, N1q, K1, g_r1, s_r1, Aq1⟩ := hQ1
  have ne_q1_r1 : q1 ≠ r1 := Nat.ne_of_lt (Nat.lt_of_lt_of_le Aq.lt s_r1)
  have sz_r1 : h0.size ≤ r1 := Nat.le_trans Kp0.1 s_r1
  have Aq_h1 : own_A Z T1.heap q1 "[B" .byte vs := Aq.keep K1 nin0
  have Zs1 : n0 ≤ T1.heap.size := Nat.le_trans Z0 K1.1
  have Kp1 : Keep h0 T1.heap [] := Kp0.trans K1 all0
  have A2_r1 : own_A Z T1.heap r1 "[B" .byte ((vs.drop f).take (u - f)) := Aq1
  have N1 := Fr.app N0 N1q
  refine own_of (fun t k => st1 t k) ?_
  show own_Go p e below KK T1 (mkF m 16 #[oR q1, oN f, oN u] [(.ref r1)])
  subst hKK
  exact own_retA X1 hx hlk rfl Bd.returns rfl (hb hby d_jdk_65_132_16) ⟨r1, rfl, N1, Kp1, g_r1, sz_r1, A2_r1⟩ (Nat.le_of_ble_eq_true rfl) (Nat.le_of_ble_eq_true rfl)
theorem pn_com_example_isimud_isimud_oscore_OscoreOption : plainName "com/example/isimud/isimud/oscore/OscoreOption" = true := by first | (simp [plainName, overriddenIn]; done) | decide +kernel
theorem ef_prog_18_9 (m : MethodId) (x0 : Addr) (x1 : Int32) (x2 : Int32) : entryFrame m #[(.ref x0), (.int x1), (.int x2)] 3 = mkF m 0 #[oR x0, oI x1, oI x2] [] := by first | (simp [entryFrame, mkF, argsToLocals, Value.category]; done) | rfl
theorem d_prog_18_9_0 : decode prog_18_method_9_code 0 = .ok (.iload_n 2, 1) := by decide +kernel
theorem d_prog_18_9_1 : decode prog_18_method_9_code 1 = .ok (.ifCond .lt 11, 3) := by decide +kernel
theorem d_prog_18_9_4 : decode prog_18_method_9_code 4 = .ok (.iload_n 1, 1) := by decide +kernel
theorem d_prog_18_9_5 : decode prog_18_method_9_code 5 = .ok (.iload_n 2, 1) := by decide +kernel
theorem d_prog_18_9_6 : decode prog_18_method_9_code 6 = .ok (.iadd, 1) := by decide +kernel
theorem d_prog_18_9_7 : decode prog_18_method_9_code 7 = .ok (.aload_n 0, 1) := by decide +kernel
theorem d_prog_18_9_8 : decode prog_18_method_9_code 8 = .ok (.arraylength, 1) := by decide +kernel
theorem d_prog_18_9_9 : decode prog_18_method_9_code 9 = .ok (.if_icmp .le 13, 3) := by decide +kernel
theorem d_prog_18_9_22 : decode prog_18_method_9_code 22 = .ok (.aload_n 0, 1) := by decide +kernel
theorem d_prog_18_9_23 : decode prog_18_method_9_code 23 = .ok (.iload_n 1, 1) := by decide +kernel
theorem d_prog_18_9_24 : decode prog_18_method_9_code 24 = .ok (.iload_n 1, 1) := by decide +kernel
theorem d_prog_18_9_25 : decode prog_18_method_9_code 25 = .ok (.iload_n 2, 1) := by decide +kernel
theorem d_prog_18_9_26 : decode prog_18_method_9_code 26 = .ok (.iadd, 1) := by decide +kernel
theorem d_prog_18_9_27 : decode prog_18_method_9_code 27 = .ok (.invokestatic 58, 3) := by decide +kernel
theorem d_prog_18_9_30 : decode prog_18_method_9_code 30 = .ok (.areturn, 1) := by decide +kernel
set_option maxRecDepth 65536 in
set_option maxHeartbeats 40000000 in
theorem rm_part (l : Launch) (Z : State) (a0 : Array Value) (hw : ∀ d ∈ tables_1, d.before a0 Z = true) (ws : List Jvm.Cond) (q1 : Addr) (f n : Nat) (vs : List Value) (h0 : Heap) (n0 : Nat) (Z0 : n0 ≤ h0.size) (Aq : own_A Z h0 q1 "[B" .byte vs) (hf1 : 1 ≤ f) (hfn : f + n ≤ vs.length) (hl : vs.length ≤ 13) :
    MetFree l (⟨"com/example/isimud/isimud/oscore/OscoreOption", "part", "([BII)[B"⟩ : MethodName) (head1 (Jvm.Cond.code (⟨"com/example/isimud/isimud/oscore/OscoreOption", "part", "([BII)[B"⟩ : MethodName) prog_18_method_9_code 3 (some (.array .byte)) :: ws) ({ frames := 3, cells := 1, slots := 13, locals := 70 } : Room)) (fun a U => a = #[(.ref q1), (.int (Int32.ofNat f)), (.int (Int32.ofNat n))] ∧ Z.Warmed39 U.vm ∧ U.heap = h0) (fun _ _ _ _ _ => True) (fun _ U o U' => ∃ v L, o = .returned v ∧ own_Qf Z ((vs.drop f).take n) h0 n0 v U'.heap L ∧ FrameEnd U o U' L ({ frames := 3, cells := 1, slots := 13, locals := 70 } : Room).cells ({ frames := 3, cells := 1, slots := 13, locals := 70 } : Room).slots) := by
  refine MetFree.of_bodySF (plainFor_of_name pn_com_example_isimud_isimud_oscore_OscoreOption) hisR ?_
  intro p e s m args below meth c s₁ Bd hml0 hP hK
  obtain ⟨rfl, hZ, hh⟩ := hP
  have hx := Bd.exec
  have hby := Bd.bytes
  have hlk : meth.locks = false := BodyLoose.notSynchronized Bd
  have hml : c.maxLocals = 3 := hml0
  have hown : s.vm.findClass "com/example/isimud/isimud/oscore/OscoreOption" = some m.cls := findClass_of_methodNamed Bd.named
  have hnm := (name_of_methodNamed Bd.named Bd.method).1
  have X0 : Stand p l e ({ frames := 3, cells := 1, slots := 13, locals := 70 } : Room) s m #[(.ref q1), (.int (Int32.ofNat f)), (.int (Int32.ofNat n))] below meth c s₁ [] 0 0 := Stand.of_body Bd
  have e0 : s₁.heap = h0 := by rw [← hh, Bd.state]; rfl
  have N0 := Fr.nil n0
  refine own_cast (K := own_K s (own_Qf Z ((vs.drop f).take n) h0 n0) 1 13) (ef_prog_18_9 m q1 (Int32.ofNat f) (Int32.ofNat n)) ?_
  generalize hKK : own_K s (own_Qf Z ((vs.drop f).take n) h0 n0) 1 13 = KK
  show own_Go p e below KK s₁ (mkF m 0 #[oR q1, oN f, oN n] [])
  have Kp0 : Keep h0 h0 [] := Keep.refl _ _
  refine own_at (fun t k => XS.iloadN X0.here hx rfl (hb hby d_prog_18_9_0) rfl k) ?_
  show own_Go p e below KK s₁ (mkF m 1 #[oR q1, oN f, oN n] [(.int (Int32.ofNat n))])
  have hc1 : ¬ ((Int32.ofNat n) < (0 : Int32)) := (own_ofNat (by omega)).2.1
  refine own_at (fun t k => XS.ifNo X0.here hx rfl (hb hby d_prog_18_9_1) rfl (Jvm.Free.XT.i0_lt_f hc1) k) ?_
  show own_Go p e below KK s₁ (mkF m 4 #[oR q1, oN f, oN n] [])
  refine own_at (fun t k => XS.iloadN X0.here hx rfl (hb hby d_prog_18_9_4) rfl k) ?_
  show own_Go p e below KK s₁ (mkF m 5 #[oR q1, oN f, oN n] [(.int (Int32.ofNat f))])
  refine own_at (fun t k => XS.iloadN X0.here hx rfl (hb hby d_prog_18_9_5) rfl k) ?_
  show own_Go p e below KK s₁ (mkF m 6 #[oR q1, oN f, oN n] [(.int (Int32.ofNat n)), (.int (Int32.ofNat f))])
  refine own_at (fun t k => XS.iadd X0.here hx rfl (hb hby d_prog_18_9_6) rfl k) ?_
  show own_Go p e below KK s₁ (mkF m 7 #[oR q1, oN f, oN n] [(.int ((Int32.ofNat f) + (Int32.ofNat n)))])
  rw [show ((Int32.ofNat f) + (Int32.ofNat n)) = (Int32.ofNat (f + n)) from own_add f n]
  show own_Go p e below KK s₁ (mkF m 7 #[oR q1, oN f, oN n] [(.int (Int32.ofNat (f + n)))])
  refine own_at (fun t k => XS.aloadN X0.here hx rfl (hb hby d_prog_18_9_7) rfl rfl k) ?_
  show own_Go p e below KK s₁ (mkF m 8 #[oR q1, oN f, oN n] [(.ref q1), (.int (Int32.ofNat (f + n)))])
  refine own_at (fun t k => own_len X0 hx hZ e0 Aq (N := (Int32.ofNat vs.length)) rfl (g := (mkF m 8 #[oR q1, oN f, oN n] [(.ref q1), (.int (Int32.ofNat (f + n)))])) rfl rfl (hb hby d_prog_18_9_8) t k) ?_
  show own_Go p e below KK s₁ (mkF m 9 #[oR q1, oN f, oN n] [(.int (Int32.ofNat vs.length)), (.int (Int32.ofNat (f + n)))])
  have hc9 : ¬ ((Int32.ofNat vs.length) < (Int32.ofNat (f + n))) := (fun q => absurd ((own_lt (by omega) (by omega)).mp q) (by omega))
  refine own_at (fun t k => XS.icmpYes X0.here hx rfl (pc0 := 9) (pc' := 22) rfl (hb hby d_prog_18_9_9) rfl (Jvm.Free.XT.ii_le_t hc9) (by decide) (by decide) k) ?_
  show own_Go p e below KK s₁ (mkF m 22 #[oR q1, oN f, oN n] [])
  refine own_at (fun t k => XS.aloadN X0.here hx rfl (hb hby d_prog_18_9_22) rfl rfl k) ?_
  show own_Go p e below KK s₁ (mkF m 23 #[oR q1, oN f, oN n] [(.ref q1)])
  refine own_at (fun t k => XS.iloadN X0.here hx rfl (hb hby d_prog_18_9_23) rfl k) ?_
  show own_Go p e below KK s₁ (mkF m 24 #[oR q1, oN f, oN n] [(.int (Int32.ofNat f)), (.ref q1)])
  refine own_at (fun t k => XS.iloadN X0.here hx rfl (hb hby d_prog_18_9_24) rfl k) ?_
  show own_Go p e below KK s₁ (mkF m 25 #[oR q1, oN f, oN n] [(.int (Int32.ofNat f)), (.int (Int32.ofNat f)), (.ref q1)])
  refine own_at (fun t k => XS.iloadN X0.here hx rfl (hb hby d_prog_18_9_25) rfl k) ?_
  show own_Go p e below KK s₁ (mkF m 26 #[oR q1, oN f, oN n] [(.int (Int32.ofNat n)), (.int (Int32.ofNat f)), (.int (Int32.ofNat f)), (.ref q1)])
  refine own_at (fun t k => XS.iadd X0.here hx rfl (hb hby d_prog_18_9_26) rfl k) ?_
  show own_Go p e below KK s₁ (mkF m 27 #[oR q1, oN f, oN n] [(.int ((Int32.ofNat f) + (Int32.ofNat n))), (.int (Int32.ofNat f)), (.ref q1)])
  rw [show ((Int32.ofNat f) + (Int32.ofNat n)) = (Int32.ofNat (f + n)) from own_add f n]
  show own_Go p e below KK s₁ (mkF m 27 #[oR q1, oN f, oN n] [(.int (Int32.ofNat (f + n))), (.int (Int32.ofNat f)), (.ref q1)])
  obtain ⟨_, _, ⟨T1, L1, k1, n1⟩, -, X1, ⟨Lc1, hQ1, l1, y1, z1⟩, st1⟩ := Jvm.LawKit.callS X0 hx (y := (⟨"java/util/Arrays", "copyOfRange", "([BII)[B"⟩ : MethodName)) hown (mvT hZ (hw _ (List.mem_of_getElem? (i := 13) rfl))) (mvT hZ (hw _ (List.mem_of_getElem? (i := 14) rfl))) (mvT hZ (hw _ (List.mem_of_getElem? (i := 15) rfl))) (mvT hZ (hw _ (List.mem_of_getElem? (i := 16) rfl))) (by decide) (backOf (W := 0) (rm_cor l Z a0 hw [] q1 f (f + n) vs h0 n0 Z0 Aq hf1 (by omega) hfn hl) hZ (hw _ (List.mem_of_getElem? (i := 16) rfl)) (hw _ (List.mem_of_getElem? (i := 15) rfl)) (by decide) (by decide)) (g := (mkF m 27 #[oR q1, oN f, oN n] [(.int (Int32.ofNat (f + n))), (.int (Int32.ofNat f)), (.ref q1)])) rfl (by rw [hml]; rfl) (argsL := [(.ref q1), (.int (Int32.ofNat f)), (.int (Int32.ofNat (f + n)))]) (rest := []) (lenOf pd___BII__B rfl) rfl (by show 2 * 0 + _ ≤ _; exact Nat.le_of_eq rfl) (hb hby d_prog_18_9_27) (fun _ _ => ⟨rfl, e0, (by decide : 0 + 1 ≤ _), (by decide : 0 + 13 ≤ _)⟩)
  dsimp only [Pt.U, Pt.locs, Pt.cells, Pt.slots] at X1 l1 y1 z1 st1 hQ1
  subst l1 y1 z1
  obtain ⟨r1, rfl, N1q, K1, g_r1, s_r1, Aq1⟩ := hQ1
  have ne_q1_r1 : q1 ≠ r1 := Nat.ne_of_lt (Nat.lt_of_lt_of_le Aq.lt s_r1)
  have sz_r1 : h0.size ≤ r1 := Nat.le_trans Kp0.1 s_r1
  have Aq_h1 : own_A Z T1.heap q1 "[B" .byte vs := Aq.keep K1 nin0
  have Zs1 : n0 ≤ T1.heap.size := Nat.le_trans Z0 K1.1
  have Kp1 : Keep h0 T1.heap [] := Kp0.trans K1 all0
  have A2_r1 : own_A Z T1.heap r1 "[B" .byte ((vs.drop f).take ((f + n) - f)) := Aq1
  have N1 := Fr.app N0 N1q
  refine own_of (fun t k => st1 t k) ?_
  show own_Go p e below KK T1 (mkF m 30 #[oR q1, oN f, oN n] [(.ref r1)])
  subst hKK
  exact own_retA X1 hx hlk rfl Bd.returns rfl (hb hby d_prog_18_9_30) ⟨r1, rfl, N1, Kp1, g_r1, sz_r1, by rw [show n = f + n - f from by omega]; exact A2_r1⟩ (Nat.le_of_ble_eq_true rfl) (Nat.le_of_ble_eq_true rfl)
theorem own_mget {us : List Int32} {i : Nat} {w : Int32} (h : us[i]? = some w) : (us.map Value.int)[i]? = some (.int w) := by simp [h]
theorem own_mset (us : List Int32) (i : Nat) (y : Int32) : (us.map Value.int).set i (.int y) = (us.set i y).map Value.int := by rw [List.map_set]
theorem own_il {i : Int32} {n k : Nat} (h : i < Int32.ofNat n) (hn : n ≤ 13) (hk : i.toInt = k) {u : List Int32} (l : u.length = n) : k < (u.map Value.int).length := by
  rw [List.length_map, l]
  rw [Int32.lt_iff_toInt_lt, hk, (own_ofNat (by omega)).2.2] at h
  omega
def own_Qfill (Z : State) (q1 : Addr) (n : Nat) (h0 : Heap) (n0 : Nat) (v : Option Value) (h : Heap) (L : List Loc) : Prop := v = none ∧ Fr n0 L ∧ Keep h0 h [q1] ∧ ∃ us : List Int32, us.length = n ∧ own_A Z h q1 "[B" .byte (us.map Value.int)
theorem pn_com_example_isimud_isimud_oscore_OscoreOptionReadPinLaw : plainName "com/example/isimud/isimud/oscore/OscoreOptionReadPinLaw" = true := by first | (simp [plainName, overriddenIn]; done) | decide +kernel
theorem ef_method_3 (m : MethodId) (x0 : Addr) (x1 : Int64) (x2 : Int64) : entryFrame m #[(.ref x0), (.long x1), (.long x2)] 6 = mkF m 0 #[oR x0, oJ x1, o2, oJ x2, o2, oU] [] := by first | (simp [entryFrame, mkF, argsToLocals, Value.category]; done) | rfl
theorem d_method_3_0 : decode method_3_code 0 = .ok (.aload_n 0, 1) := by decide +kernel
theorem d_method_3_1 : decode method_3_code 1 = .ok (.arraylength, 1) := by decide +kernel
theorem d_method_3_2 : decode method_3_code 2 = .ok (.istore 5, 2) := by decide +kernel
theorem d_method_3_192 : decode method_3_code 192 = .ok (.return_, 1) := by decide +kernel
theorem d_method_3_175 : decode method_3_code 175 = .ok (.iload 5, 2) := by decide +kernel
theorem d_method_3_177 : decode method_3_code 177 = .ok (.bipush 12, 2) := by decide +kernel
theorem d_method_3_179 : decode method_3_code 179 = .ok (.if_icmp .le 13, 3) := by decide +kernel
theorem d_method_3_182 : decode method_3_code 182 = .ok (.aload_n 0, 1) := by decide +kernel
theorem d_method_3_183 : decode method_3_code 183 = .ok (.bipush 12, 2) := by decide +kernel
theorem d_method_3_185 : decode method_3_code 185 = .ok (.lload_n 3, 1) := by decide +kernel
theorem d_method_3_186 : decode method_3_code 186 = .ok (.bipush 24, 2) := by decide +kernel
theorem d_method_3_188 : decode method_3_code 188 = .ok (.lushr, 1) := by decide +kernel
theorem d_method_3_189 : decode method_3_code 189 = .ok (.l2i, 1) := by decide +kernel
theorem d_method_3_190 : decode method_3_code 190 = .ok (.i2b, 1) := by decide +kernel
theorem d_method_3_191 : decode method_3_code 191 = .ok (.bastore, 1) := by decide +kernel
theorem d_method_3_158 : decode method_3_code 158 = .ok (.iload 5, 2) := by decide +kernel
theorem d_method_3_160 : decode method_3_code 160 = .ok (.bipush 11, 2) := by decide +kernel
theorem d_method_3_162 : decode method_3_code 162 = .ok (.if_icmp .le 13, 3) := by decide +kernel
theorem d_method_3_165 : decode method_3_code 165 = .ok (.aload_n 0, 1) := by decide +kernel
theorem d_method_3_166 : decode method_3_code 166 = .ok (.bipush 11, 2) := by decide +kernel
theorem d_method_3_168 : decode method_3_code 168 = .ok (.lload_n 3, 1) := by decide +kernel
theorem d_method_3_169 : decode method_3_code 169 = .ok (.bipush 16, 2) := by decide +kernel
theorem d_method_3_171 : decode method_3_code 171 = .ok (.lushr, 1) := by decide +kernel
theorem d_method_3_172 : decode method_3_code 172 = .ok (.l2i, 1) := by decide +kernel
theorem d_method_3_173 : decode method_3_code 173 = .ok (.i2b, 1) := by decide +kernel
theorem d_method_3_174 : decode method_3_code 174 = .ok (.bastore, 1) := by decide +kernel
theorem d_method_3_141 : decode method_3_code 141 = .ok (.iload 5, 2) := by decide +kernel
theorem d_method_3_143 : decode method_3_code 143 = .ok (.bipush 10, 2) := by decide +kernel
theorem d_method_3_145 : decode method_3_code 145 = .ok (.if_icmp .le 13, 3) := by decide +kernel
theorem d_method_3_148 : decode method_3_code 148 = .ok (.aload_n 0, 1) := by decide +kernel
theorem d_method_3_149 : decode method_3_code 149 = .ok (.bipush 10, 2) := by decide +kernel
theorem d_method_3_151 : decode method_3_code 151 = .ok (.lload_n 3, 1) := by decide +kernel
theorem d_method_3_152 : decode method_3_code 152 = .ok (.bipush 8, 2) := by decide +kernel
theorem d_method_3_154 : decode method_3_code 154 = .ok (.lushr, 1) := by decide +kernel
theorem d_method_3_155 : decode method_3_code 155 = .ok (.l2i, 1) := by decide +kernel
theorem d_method_3_156 : decode method_3_code 156 = .ok (.i2b, 1) := by decide +kernel
theorem d_method_3_157 : decode method_3_code 157 = .ok (.bastore, 1) := by decide +kernel
theorem d_method_3_127 : decode method_3_code 127 = .ok (.iload 5, 2) := by decide +kernel
theorem d_method_3_129 : decode method_3_code 129 = .ok (.bipush 9, 2) := by decide +kernel
theorem d_method_3_131 : decode method_3_code 131 = .ok (.if_icmp .le 10, 3) := by decide +kernel
theorem d_method_3_134 : decode method_3_code 134 = .ok (.aload_n 0, 1) := by decide +kernel
theorem d_method_3_135 : decode method_3_code 135 = .ok (.bipush 9, 2) := by decide +kernel
theorem d_method_3_137 : decode method_3_code 137 = .ok (.lload_n 3, 1) := by decide +kernel
theorem d_method_3_138 : decode method_3_code 138 = .ok (.l2i, 1) := by decide +kernel
theorem d_method_3_139 : decode method_3_code 139 = .ok (.i2b, 1) := by decide +kernel
theorem d_method_3_140 : decode method_3_code 140 = .ok (.bastore, 1) := by decide +kernel
theorem d_method_3_110 : decode method_3_code 110 = .ok (.iload 5, 2) := by decide +kernel
theorem d_method_3_112 : decode method_3_code 112 = .ok (.bipush 8, 2) := by decide +kernel
theorem d_method_3_114 : decode method_3_code 114 = .ok (.if_icmp .le 13, 3) := by decide +kernel
theorem d_method_3_117 : decode method_3_code 117 = .ok (.aload_n 0, 1) := by decide +kernel
theorem d_method_3_118 : decode method_3_code 118 = .ok (.bipush 8, 2) := by decide +kernel
theorem d_method_3_120 : decode method_3_code 120 = .ok (.lload_n 1, 1) := by decide +kernel
theorem d_method_3_121 : decode method_3_code 121 = .ok (.bipush 56, 2) := by decide +kernel
theorem d_method_3_123 : decode method_3_code 123 = .ok (.lushr, 1) := by decide +kernel
theorem d_method_3_124 : decode method_3_code 124 = .ok (.l2i, 1) := by decide +kernel
theorem d_method_3_125 : decode method_3_code 125 = .ok (.i2b, 1) := by decide +kernel
theorem d_method_3_126 : decode method_3_code 126 = .ok (.bastore, 1) := by decide +kernel
theorem d_method_3_93 : decode method_3_code 93 = .ok (.iload 5, 2) := by decide +kernel
theorem d_method_3_95 : decode method_3_code 95 = .ok (.bipush 7, 2) := by decide +kernel
theorem d_method_3_97 : decode method_3_code 97 = .ok (.if_icmp .le 13, 3) := by decide +kernel
theorem d_method_3_100 : decode method_3_code 100 = .ok (.aload_n 0, 1) := by decide +kernel
theorem d_method_3_101 : decode method_3_code 101 = .ok (.bipush 7, 2) := by decide +kernel
theorem d_method_3_103 : decode method_3_code 103 = .ok (.lload_n 1, 1) := by decide +kernel
theorem d_method_3_104 : decode method_3_code 104 = .ok (.bipush 48, 2) := by decide +kernel
theorem d_method_3_106 : decode method_3_code 106 = .ok (.lushr, 1) := by decide +kernel
theorem d_method_3_107 : decode method_3_code 107 = .ok (.l2i, 1) := by decide +kernel
theorem d_method_3_108 : decode method_3_code 108 = .ok (.i2b, 1) := by decide +kernel
theorem d_method_3_109 : decode method_3_code 109 = .ok (.bastore, 1) := by decide +kernel
theorem d_method_3_76 : decode method_3_code 76 = .ok (.iload 5, 2) := by decide +kernel
theorem d_method_3_78 : decode method_3_code 78 = .ok (.bipush 6, 2) := by decide +kernel
theorem d_method_3_80 : decode method_3_code 80 = .ok (.if_icmp .le 13, 3) := by decide +kernel
theorem d_method_3_83 : decode method_3_code 83 = .ok (.aload_n 0, 1) := by decide +kernel
theorem d_method_3_84 : decode method_3_code 84 = .ok (.bipush 6, 2) := by decide +kernel
theorem d_method_3_86 : decode method_3_code 86 = .ok (.lload_n 1, 1) := by decide +kernel
theorem d_method_3_87 : decode method_3_code 87 = .ok (.bipush 40, 2) := by decide +kernel
theorem d_method_3_89 : decode method_3_code 89 = .ok (.lushr, 1) := by decide +kernel
theorem d_method_3_90 : decode method_3_code 90 = .ok (.l2i, 1) := by decide +kernel
theorem d_method_3_91 : decode method_3_code 91 = .ok (.i2b, 1) := by decide +kernel
theorem d_method_3_92 : decode method_3_code 92 = .ok (.bastore, 1) := by decide +kernel
theorem d_method_3_61 : decode method_3_code 61 = .ok (.iload 5, 2) := by decide +kernel
theorem d_method_3_63 : decode method_3_code 63 = .ok (.iconst 5, 1) := by decide +kernel
theorem d_method_3_64 : decode method_3_code 64 = .ok (.if_icmp .le 12, 3) := by decide +kernel
theorem d_method_3_67 : decode method_3_code 67 = .ok (.aload_n 0, 1) := by decide +kernel
theorem d_method_3_68 : decode method_3_code 68 = .ok (.iconst 5, 1) := by decide +kernel
theorem d_method_3_69 : decode method_3_code 69 = .ok (.lload_n 1, 1) := by decide +kernel
theorem d_method_3_70 : decode method_3_code 70 = .ok (.bipush 32, 2) := by decide +kernel
theorem d_method_3_72 : decode method_3_code 72 = .ok (.lushr, 1) := by decide +kernel
theorem d_method_3_73 : decode method_3_code 73 = .ok (.l2i, 1) := by decide +kernel
theorem d_method_3_74 : decode method_3_code 74 = .ok (.i2b, 1) := by decide +kernel
theorem d_method_3_75 : decode method_3_code 75 = .ok (.bastore, 1) := by decide +kernel
theorem d_method_3_46 : decode method_3_code 46 = .ok (.iload 5, 2) := by decide +kernel
theorem d_method_3_48 : decode method_3_code 48 = .ok (.iconst 4, 1) := by decide +kernel
theorem d_method_3_49 : decode method_3_code 49 = .ok (.if_icmp .le 12, 3) := by decide +kernel
theorem d_method_3_52 : decode method_3_code 52 = .ok (.aload_n 0, 1) := by decide +kernel
theorem d_method_3_53 : decode method_3_code 53 = .ok (.iconst 4, 1) := by decide +kernel
theorem d_method_3_54 : decode method_3_code 54 = .ok (.lload_n 1, 1) := by decide +kernel
theorem d_method_3_55 : decode method_3_code 55 = .ok (.bipush 24, 2) := by decide +kernel
theorem d_method_3_57 : decode method_3_code 57 = .ok (.lushr, 1) := by decide +kernel
theorem d_method_3_58 : decode method_3_code 58 = .ok (.l2i, 1) := by decide +kernel
theorem d_method_3_59 : decode method_3_code 59 = .ok (.i2b, 1) := by decide +kernel
theorem d_method_3_60 : decode method_3_code 60 = .ok (.bastore, 1) := by decide +kernel
theorem d_method_3_31 : decode method_3_code 31 = .ok (.iload 5, 2) := by decide +kernel
theorem d_method_3_33 : decode method_3_code 33 = .ok (.iconst 3, 1) := by decide +kernel
theorem d_method_3_34 : decode method_3_code 34 = .ok (.if_icmp .le 12, 3) := by decide +kernel
theorem d_method_3_37 : decode method_3_code 37 = .ok (.aload_n 0, 1) := by decide +kernel
theorem d_method_3_38 : decode method_3_code 38 = .ok (.iconst 3, 1) := by decide +kernel
theorem d_method_3_39 : decode method_3_code 39 = .ok (.lload_n 1, 1) := by decide +kernel
theorem d_method_3_40 : decode method_3_code 40 = .ok (.bipush 16, 2) := by decide +kernel
theorem d_method_3_42 : decode method_3_code 42 = .ok (.lushr, 1) := by decide +kernel
theorem d_method_3_43 : decode method_3_code 43 = .ok (.l2i, 1) := by decide +kernel
theorem d_method_3_44 : decode method_3_code 44 = .ok (.i2b, 1) := by decide +kernel
theorem d_method_3_45 : decode method_3_code 45 = .ok (.bastore, 1) := by decide +kernel
theorem d_method_3_16 : decode method_3_code 16 = .ok (.iload 5, 2) := by decide +kernel
theorem d_method_3_18 : decode method_3_code 18 = .ok (.iconst 2, 1) := by decide +kernel
theorem d_method_3_19 : decode method_3_code 19 = .ok (.if_icmp .le 12, 3) := by decide +kernel
theorem d_method_3_22 : decode method_3_code 22 = .ok (.aload_n 0, 1) := by decide +kernel
theorem d_method_3_23 : decode method_3_code 23 = .ok (.iconst 2, 1) := by decide +kernel
theorem d_method_3_24 : decode method_3_code 24 = .ok (.lload_n 1, 1) := by decide +kernel
theorem d_method_3_25 : decode method_3_code 25 = .ok (.bipush 8, 2) := by decide +kernel
theorem d_method_3_27 : decode method_3_code 27 = .ok (.lushr, 1) := by decide +kernel
theorem d_method_3_28 : decode method_3_code 28 = .ok (.l2i, 1) := by decide +kernel
theorem d_method_3_29 : decode method_3_code 29 = .ok (.i2b, 1) := by decide +kernel
theorem d_method_3_30 : decode method_3_code 30 = .ok (.bastore, 1) := by decide +kernel
theorem d_method_3_4 : decode method_3_code 4 = .ok (.iload 5, 2) := by decide +kernel
theorem d_method_3_6 : decode method_3_code 6 = .ok (.iconst 1, 1) := by decide +kernel
theorem d_method_3_7 : decode method_3_code 7 = .ok (.if_icmp .le 9, 3) := by decide +kernel
theorem d_method_3_10 : decode method_3_code 10 = .ok (.aload_n 0, 1) := by decide +kernel
theorem d_method_3_11 : decode method_3_code 11 = .ok (.iconst 1, 1) := by decide +kernel
theorem d_method_3_12 : decode method_3_code 12 = .ok (.lload_n 1, 1) := by decide +kernel
theorem d_method_3_13 : decode method_3_code 13 = .ok (.l2i, 1) := by decide +kernel
theorem d_method_3_14 : decode method_3_code 14 = .ok (.i2b, 1) := by decide +kernel
theorem d_method_3_15 : decode method_3_code 15 = .ok (.bastore, 1) := by decide +kernel
set_option maxRecDepth 65536 in
set_option maxHeartbeats 40000000 in
theorem rm_fill (l : Launch) (Z : State) (a0 : Array Value) (hw : ∀ d ∈ tables_1, d.before a0 Z = true) (ws : List Jvm.Cond) (q1 : Addr) (q2 : Int64) (q3 : Int64) (us : List Int32) (h0 : Heap) (n0 : Nat) (Z0 : n0 ≤ h0.size) (Aq : own_A Z h0 q1 "[B" .byte (us.map Value.int)) (hl : us.length ≤ 13) (gq : n0 ≤ q1) :
    MetFree l (⟨"com/example/isimud/isimud/oscore/OscoreOptionReadPinLaw", "fill", "([BJJ)V"⟩ : MethodName) (head1 (Jvm.Cond.code (⟨"com/example/isimud/isimud/oscore/OscoreOptionReadPinLaw", "fill", "([BJJ)V"⟩ : MethodName) method_3_code 6 none :: ws) ({ frames := 0, cells := 0, slots := 0, locals := 0 } : Room)) (fun a U => a = #[(.ref q1), (.long q2), (.long q3)] ∧ Z.Warmed39 U.vm ∧ U.heap = h0) (fun _ _ _ _ _ => True) (fun _ U o U' => ∃ v L, o = .returned v ∧ own_Qfill Z q1 us.length h0 n0 v U'.heap L ∧ FrameEnd U o U' L ({ frames := 0, cells := 0, slots := 0, locals := 0 } : Room).cells ({ frames := 0, cells := 0, slots := 0, locals := 0 } : Room).slots) := by
  refine MetFree.of_bodySF (plainFor_of_name pn_com_example_isimud_isimud_oscore_OscoreOptionReadPinLaw) hisR ?_
  intro p e s m args below meth c s₁ Bd hml0 hP hK
  obtain ⟨rfl, hZ, hh⟩ := hP
  have hx := Bd.exec
  have hby := Bd.bytes
  have hlk : meth.locks = false := BodyLoose.notSynchronized Bd
  have hml : c.maxLocals = 6 := hml0
  have hown : s.vm.findClass "com/example/isimud/isimud/oscore/OscoreOptionReadPinLaw" = some m.cls := findClass_of_methodNamed Bd.named
  have hnm := (name_of_methodNamed Bd.named Bd.method).1
  have X0 : Stand p l e ({ frames := 0, cells := 0, slots := 0, locals := 0 } : Room) s m #[(.ref q1), (.long q2), (.long q3)] below meth c s₁ [] 0 0 := Stand.of_body Bd
  have e0 : s₁.heap = h0 := by rw [← hh, Bd.state]; rfl
  have N0 := Fr.nil n0
  refine own_cast (K := own_K s (own_Qfill Z q1 us.length h0 n0) 0 0) (ef_method_3 m q1 q2 q3) ?_
  generalize hKK : own_K s (own_Qfill Z q1 us.length h0 n0) 0 0 = KK
  show own_Go p e below KK s₁ (mkF m 0 #[oR q1, oJ q2, o2, oJ q3, o2, oU] [])
  have Kp0 : Keep h0 h0 [q1] := Keep.refl _ _
  refine own_at (fun t k => XS.aloadN X0.here hx rfl (hb hby d_method_3_0) rfl rfl k) ?_
  show own_Go p e below KK s₁ (mkF m 1 #[oR q1, oJ q2, o2, oJ q3, o2, oU] [(.ref q1)])
  refine own_at (fun t k => own_len X0 hx hZ e0 Aq (N := (Int32.ofNat us.length)) (by rw [List.length_map]) (g := (mkF m 1 #[oR q1, oJ q2, o2, oJ q3, o2, oU] [(.ref q1)])) rfl rfl (hb hby d_method_3_1) t k) ?_
  show own_Go p e below KK s₁ (mkF m 2 #[oR q1, oJ q2, o2, oJ q3, o2, oU] [(.int (Int32.ofNat us.length))])
  refine own_at (fun t k => XS.istore X0.here hx rfl (hb hby d_method_3_2) rfl (l' := #[oR q1, oJ q2, o2, oJ q3, o2, oI (Int32.ofNat us.length)]) rfl k) ?_
  show own_Go p e below KK s₁ (mkF m 4 #[oR q1, oJ q2, o2, oJ q3, o2, oI (Int32.ofNat us.length)] [])
  have k192 : ∀ (T2 : State) (L2 : List Loc) (h2 : Heap) (u2 : List Int32), Stand p l e ({ frames := 0, cells := 0, slots := 0, locals := 0 } : Room) s m #[(.ref q1), (.long q2), (.long q3)] below meth c T2 L2 0 0 → T2.heap = h2 → Fr n0 L2 → Keep h0 h2 [q1] → own_A Z h2 q1 "[B" .byte (u2.map Value.int) → u2.length = us.length → n0 ≤ h2.size → own_Go p e below KK T2 (mkF m 192 #[oR q1, oJ q2, o2, oJ q3, o2, oI (Int32.ofNat us.length)] []) := by
    intro T2 L2 h2 u2 X2 e2 N2 K2 V2 l2 z2
    subst hKK
    exact own_retV X2 hx hlk Bd.returns (hb hby d_method_3_192) ⟨rfl, N2, by rw [e2]; exact K2, u2, l2, by rw [e2]; exact V2⟩ (Nat.le_of_ble_eq_true rfl) (Nat.le_of_ble_eq_true rfl)
  have k175 : ∀ (T2 : State) (L2 : List Loc) (h2 : Heap) (u2 : List Int32), Stand p l e ({ frames := 0, cells := 0, slots := 0, locals := 0 } : Room) s m #[(.ref q1), (.long q2), (.long q3)] below meth c T2 L2 0 0 → T2.heap = h2 → Fr n0 L2 → Keep h0 h2 [q1] → own_A Z h2 q1 "[B" .byte (u2.map Value.int) → u2.length = us.length → n0 ≤ h2.size → own_Go p e below KK T2 (mkF m 175 #[oR q1, oJ q2, o2, oJ q3, o2, oI (Int32.ofNat us.length)] []) := by
    intro T2 L2 h2 u2 X2 e2 N2 K2 V2 l2 z2
    refine own_at (fun t k => XS.iload X2.here hx rfl (hb hby d_method_3_175) rfl k) ?_
    show own_Go p e below KK T2 (mkF m 177 #[oR q1, oJ q2, o2, oJ q3, o2, oI (Int32.ofNat us.length)] [(.int (Int32.ofNat us.length))])
    refine own_at (fun t k => XS.bipush X2.here hx rfl (hb hby d_method_3_177) k) ?_
    show own_Go p e below KK T2 (mkF m 179 #[oR q1, oJ q2, o2, oJ q3, o2, oI (Int32.ofNat us.length)] [(.int 12), (.int (Int32.ofNat us.length))])
    by_cases hc179 : (12 : Int32) < (Int32.ofNat us.length)
    · refine own_at (fun t k => XS.icmpNo X2.here hx rfl (hb hby d_method_3_179) rfl (Jvm.Free.XT.ii_le_f hc179) k) ?_
      show own_Go p e below KK T2 (mkF m 182 #[oR q1, oJ q2, o2, oJ q3, o2, oI (Int32.ofNat us.length)] [])
      refine own_at (fun t k => XS.aloadN X2.here hx rfl (hb hby d_method_3_182) rfl rfl k) ?_
      show own_Go p e below KK T2 (mkF m 183 #[oR q1, oJ q2, o2, oJ q3, o2, oI (Int32.ofNat us.length)] [(.ref q1)])
      refine own_at (fun t k => XS.bipush X2.here hx rfl (hb hby d_method_3_183) k) ?_
      show own_Go p e below KK T2 (mkF m 185 #[oR q1, oJ q2, o2, oJ q3, o2, oI (Int32.ofNat us.length)] [(.int 12), (.ref q1)])
      refine own_at (fun t k => XS.lloadN X2.here hx rfl (hb hby d_method_3_185) rfl k) ?_
      show own_Go p e below KK T2 (mkF m 186 #[oR q1, oJ q2, o2, oJ q3, o2, oI (Int32.ofNat us.length)] [(.long q3), (.int 12), (.ref q1)])
      refine own_at (fun t k => XS.bipush X2.here hx rfl (hb hby d_method_3_186) k) ?_
      show own_Go p e below KK T2 (mkF m 188 #[oR q1, oJ q2, o2, oJ q3, o2, oI (Int32.ofNat us.length)] [(.int 24), (.long q3), (.int 12), (.ref q1)])
      refine own_at (fun t k => XS.lushr X2.here hx rfl (hb hby d_method_3_188) rfl k) ?_
      show own_Go p e below KK T2 (mkF m 189 #[oR q1, oJ q2, o2, oJ q3, o2, oI (Int32.ofNat us.length)] [(.long ((q3.toUInt64 >>> ((24 : Int32) &&& 0x3f).toInt64.toUInt64).toInt64)), (.int 12), (.ref q1)])
      refine own_at (fun t k => XS.l2i X2.here hx rfl (hb hby d_method_3_189) rfl k) ?_
      show own_Go p e below KK T2 (mkF m 190 #[oR q1, oJ q2, o2, oJ q3, o2, oI (Int32.ofNat us.length)] [(.int (((q3.toUInt64 >>> ((24 : Int32) &&& 0x3f).toInt64.toUInt64).toInt64).toInt32)), (.int 12), (.ref q1)])
      refine own_at (fun t k => XS.i2b X2.here hx rfl (hb hby d_method_3_190) rfl k) ?_
      show own_Go p e below KK T2 (mkF m 191 #[oR q1, oJ q2, o2, oJ q3, o2, oI (Int32.ofNat us.length)] [(.int ((((q3.toUInt64 >>> ((24 : Int32) &&& 0x3f).toInt64.toUInt64).toInt64).toInt32).toInt8.toInt32)), (.int 12), (.ref q1)])
      obtain ⟨T1, h1, X1, e1, W1, V1, st1⟩ := own_stB X2 hx hZ e2 V2 (j := (12 : Int32)) (y := ((((q3.toUInt64 >>> ((24 : Int32) &&& 0x3f).toInt64.toUInt64).toInt64).toInt32).toInt8.toInt32)) (own_narB _) (i := 12) (by decide) (by decide) (own_il hc179 hl (by decide) l2) (g := (mkF m 191 #[oR q1, oJ q2, o2, oJ q3, o2, oI (Int32.ofNat us.length)] [(.int ((((q3.toUInt64 >>> ((24 : Int32) &&& 0x3f).toInt64.toUInt64).toInt64).toInt32).toInt8.toInt32)), (.int 12), (.ref q1)])) rfl rfl (hb hby d_method_3_191)
      have N1 := Fr.snoc X1 N2 gq
      have Zs1 : n0 ≤ h1.size := (by rw [W1.size]; exact z2)
      have Kp1 : Keep h0 h1 [q1] := K2.wr W1 (Or.inl (by simp))
      have A2_q1 : own_A Z h1 q1 "[B" .byte ((u2.set 12 ((((q3.toUInt64 >>> ((24 : Int32) &&& 0x3f).toInt64.toUInt64).toInt64).toInt32).toInt8.toInt32)).map Value.int) := by rw [← own_mset]; exact V1
      refine own_of (fun t k => st1 t k) ?_
      show own_Go p e below KK T1 (mkF m 192 #[oR q1, oJ q2, o2, oJ q3, o2, oI (Int32.ofNat us.length)] [])
      exact k192 _ _ _ (u2.set 12 ((((q3.toUInt64 >>> ((24 : Int32) &&& 0x3f).toInt64.toUInt64).toInt64).toInt32).toInt8.toInt32)) X1 e1 N1 Kp1 A2_q1 (by rw [List.length_set]; exact l2) Zs1
    · refine own_at (fun t k => XS.icmpYes X2.here hx rfl (pc0 := 179) (pc' := 192) rfl (hb hby d_method_3_179) rfl (Jvm.Free.XT.ii_le_t hc179) (by decide) (by decide) k) ?_
      show own_Go p e below KK T2 (mkF m 192 #[oR q1, oJ q2, o2, oJ q3, o2, oI (Int32.ofNat us.length)] [])
      exact k192 _ _ _ u2 X2 e2 N2 K2 V2 l2 z2
  have k158 : ∀ (T2 : State) (L2 : List Loc) (h2 : Heap) (u2 : List Int32), Stand p l e ({ frames := 0, cells := 0, slots := 0, locals := 0 } : Room) s m #[(.ref q1), (.long q2), (.long q3)] below meth c T2 L2 0 0 → T2.heap = h2 → Fr n0 L2 → Keep h0 h2 [q1] → own_A Z h2 q1 "[B" .byte (u2.map Value.int) → u2.length = us.length → n0 ≤ h2.size → own_Go p e below KK T2 (mkF m 158 #[oR q1, oJ q2, o2, oJ q3, o2, oI (Int32.ofNat us.length)] []) := by
    intro T2 L2 h2 u2 X2 e2 N2 K2 V2 l2 z2
    refine own_at (fun t k => XS.iload X2.here hx rfl (hb hby d_method_3_158) rfl k) ?_
    show own_Go p e below KK T2 (mkF m 160 #[oR q1, oJ q2, o2, oJ q3, o2, oI (Int32.ofNat us.length)] [(.int (Int32.ofNat us.length))])
    refine own_at (fun t k => XS.bipush X2.here hx rfl (hb hby d_method_3_160) k) ?_
    show own_Go p e below KK T2 (mkF m 162 #[oR q1, oJ q2, o2, oJ q3, o2, oI (Int32.ofNat us.length)] [(.int 11), (.int (Int32.ofNat us.length))])
    by_cases hc162 : (11 : Int32) < (Int32.ofNat us.length)
    · refine own_at (fun t k => XS.icmpNo X2.here hx rfl (hb hby d_method_3_162) rfl (Jvm.Free.XT.ii_le_f hc162) k) ?_
      show own_Go p e below KK T2 (mkF m 165 #[oR q1, oJ q2, o2, oJ q3, o2, oI (Int32.ofNat us.length)] [])
      refine own_at (fun t k => XS.aloadN X2.here hx rfl (hb hby d_method_3_165) rfl rfl k) ?_
      show own_Go p e below KK T2 (mkF m 166 #[oR q1, oJ q2, o2, oJ q3, o2, oI (Int32.ofNat us.length)] [(.ref q1)])
      refine own_at (fun t k => XS.bipush X2.here hx rfl (hb hby d_method_3_166) k) ?_
      show own_Go p e below KK T2 (mkF m 168 #[oR q1, oJ q2, o2, oJ q3, o2, oI (Int32.ofNat us.length)] [(.int 11), (.ref q1)])
      refine own_at (fun t k => XS.lloadN X2.here hx rfl (hb hby d_method_3_168) rfl k) ?_
      show own_Go p e below KK T2 (mkF m 169 #[oR q1, oJ q2, o2, oJ q3, o2, oI (Int32.ofNat us.length)] [(.long q3), (.int 11), (.ref q1)])
      refine own_at (fun t k => XS.bipush X2.here hx rfl (hb hby d_method_3_169) k) ?_
      show own_Go p e below KK T2 (mkF m 171 #[oR q1, oJ q2, o2, oJ q3, o2, oI (Int32.ofNat us.length)] [(.int 16), (.long q3), (.int 11), (.ref q1)])
      refine own_at (fun t k => XS.lushr X2.here hx rfl (hb hby d_method_3_171) rfl k) ?_
      show own_Go p e below KK T2 (mkF m 172 #[oR q1, oJ q2, o2, oJ q3, o2, oI (Int32.ofNat us.length)] [(.long ((q3.toUInt64 >>> ((16 : Int32) &&& 0x3f).toInt64.toUInt64).toInt64)), (.int 11), (.ref q1)])
      refine own_at (fun t k => XS.l2i X2.here hx rfl (hb hby d_method_3_172) rfl k) ?_
      show own_Go p e below KK T2 (mkF m 173 #[oR q1, oJ q2, o2, oJ q3, o2, oI (Int32.ofNat us.length)] [(.int (((q3.toUInt64 >>> ((16 : Int32) &&& 0x3f).toInt64.toUInt64).toInt64).toInt32)), (.int 11), (.ref q1)])
      refine own_at (fun t k => XS.i2b X2.here hx rfl (hb hby d_method_3_173) rfl k) ?_
      show own_Go p e below KK T2 (mkF m 174 #[oR q1, oJ q2, o2, oJ q3, o2, oI (Int32.ofNat us.length)] [(.int ((((q3.toUInt64 >>> ((16 : Int32) &&& 0x3f).toInt64.toUInt64).toInt64).toInt32).toInt8.toInt32)), (.int 11), (.ref q1)])
      obtain ⟨T3, h3, X3, e3, W3, V3, st3⟩ := own_stB X2 hx hZ e2 V2 (j := (11 : Int32)) (y := ((((q3.toUInt64 >>> ((16 : Int32) &&& 0x3f).toInt64.toUInt64).toInt64).toInt32).toInt8.toInt32)) (own_narB _) (i := 11) (by decide) (by decide) (own_il hc162 hl (by decide) l2) (g := (mkF m 174 #[oR q1, oJ q2, o2, oJ q3, o2, oI (Int32.ofNat us.length)] [(.int ((((q3.toUInt64 >>> ((16 : Int32) &&& 0x3f).toInt64.toUInt64).toInt64).toInt32).toInt8.toInt32)), (.int 11), (.ref q1)])) rfl rfl (hb hby d_method_3_174)
      have N3 := Fr.snoc X3 N2 gq
      have Zs3 : n0 ≤ h3.size := (by rw [W3.size]; exact z2)
      have Kp3 : Keep h0 h3 [q1] := K2.wr W3 (Or.inl (by simp))
      have A4_q1 : own_A Z h3 q1 "[B" .byte ((u2.set 11 ((((q3.toUInt64 >>> ((16 : Int32) &&& 0x3f).toInt64.toUInt64).toInt64).toInt32).toInt8.toInt32)).map Value.int) := by rw [← own_mset]; exact V3
      refine own_of (fun t k => st3 t k) ?_
      show own_Go p e below KK T3 (mkF m 175 #[oR q1, oJ q2, o2, oJ q3, o2, oI (Int32.ofNat us.length)] [])
      exact k175 _ _ _ (u2.set 11 ((((q3.toUInt64 >>> ((16 : Int32) &&& 0x3f).toInt64.toUInt64).toInt64).toInt32).toInt8.toInt32)) X3 e3 N3 Kp3 A4_q1 (by rw [List.length_set]; exact l2) Zs3
    · refine own_at (fun t k => XS.icmpYes X2.here hx rfl (pc0 := 162) (pc' := 175) rfl (hb hby d_method_3_162) rfl (Jvm.Free.XT.ii_le_t hc162) (by decide) (by decide) k) ?_
      show own_Go p e below KK T2 (mkF m 175 #[oR q1, oJ q2, o2, oJ q3, o2, oI (Int32.ofNat us.length)] [])
      exact k175 _ _ _ u2 X2 e2 N2 K2 V2 l2 z2
  have k141 : ∀ (T2 : State) (L2 : List Loc) (h2 : Heap) (u2 : List Int32), Stand p l e ({ frames := 0, cells := 0, slots := 0, locals := 0 } : Room) s m #[(.ref q1), (.long q2), (.long q3)] below meth c T2 L2 0 0 → T2.heap = h2 → Fr n0 L2 → Keep h0 h2 [q1] → own_A Z h2 q1 "[B" .byte (u2.map Value.int) → u2.length = us.length → n0 ≤ h2.size → own_Go p e below KK T2 (mkF m 141 #[oR q1, oJ q2, o2, oJ q3, o2, oI (Int32.ofNat us.length)] []) := by
    intro T2 L2 h2 u2 X2 e2 N2 K2 V2 l2 z2
    refine own_at (fun t k => XS.iload X2.here hx rfl (hb hby d_method_3_141) rfl k) ?_
    show own_Go p e below KK T2 (mkF m 143 #[oR q1, oJ q2, o2, oJ q3, o2, oI (Int32.ofNat us.length)] [(.int (Int32.ofNat us.length))])
    refine own_at (fun t k => XS.bipush X2.here hx rfl (hb hby d_method_3_143) k) ?_
    show own_Go p e below KK T2 (mkF m 145 #[oR q1, oJ q2, o2, oJ q3, o2, oI (Int32.ofNat us.length)] [(.int 10), (.int (Int32.ofNat us.length))])
    by_cases hc145 : (10 : Int32) < (Int32.ofNat us.length)
    · refine own_at (fun t k => XS.icmpNo X2.here hx rfl (hb hby d_method_3_145) rfl (Jvm.Free.XT.ii_le_f hc145) k) ?_
      show own_Go p e below KK T2 (mkF m 148 #[oR q1, oJ q2, o2, oJ q3, o2, oI (Int32.ofNat us.length)] [])
      refine own_at (fun t k => XS.aloadN X2.here hx rfl (hb hby d_method_3_148) rfl rfl k) ?_
      show own_Go p e below KK T2 (mkF m 149 #[oR q1, oJ q2, o2, oJ q3, o2, oI (Int32.ofNat us.length)] [(.ref q1)])
      refine own_at (fun t k => XS.bipush X2.here hx rfl (hb hby d_method_3_149) k) ?_
      show own_Go p e below KK T2 (mkF m 151 #[oR q1, oJ q2, o2, oJ q3, o2, oI (Int32.ofNat us.length)] [(.int 10), (.ref q1)])
      refine own_at (fun t k => XS.lloadN X2.here hx rfl (hb hby d_method_3_151) rfl k) ?_
      show own_Go p e below KK T2 (mkF m 152 #[oR q1, oJ q2, o2, oJ q3, o2, oI (Int32.ofNat us.length)] [(.long q3), (.int 10), (.ref q1)])
      refine own_at (fun t k => XS.bipush X2.here hx rfl (hb hby d_method_3_152) k) ?_
      show own_Go p e below KK T2 (mkF m 154 #[oR q1, oJ q2, o2, oJ q3, o2, oI (Int32.ofNat us.length)] [(.int 8), (.long q3), (.int 10), (.ref q1)])
      refine own_at (fun t k => XS.lushr X2.here hx rfl (hb hby d_method_3_154) rfl k) ?_
      show own_Go p e below KK T2 (mkF m 155 #[oR q1, oJ q2, o2, oJ q3, o2, oI (Int32.ofNat us.length)] [(.long ((q3.toUInt64 >>> ((8 : Int32) &&& 0x3f).toInt64.toUInt64).toInt64)), (.int 10), (.ref q1)])
      refine own_at (fun t k => XS.l2i X2.here hx rfl (hb hby d_method_3_155) rfl k) ?_
      show own_Go p e below KK T2 (mkF m 156 #[oR q1, oJ q2, o2, oJ q3, o2, oI (Int32.ofNat us.length)] [(.int (((q3.toUInt64 >>> ((8 : Int32) &&& 0x3f).toInt64.toUInt64).toInt64).toInt32)), (.int 10), (.ref q1)])
      refine own_at (fun t k => XS.i2b X2.here hx rfl (hb hby d_method_3_156) rfl k) ?_
      show own_Go p e below KK T2 (mkF m 157 #[oR q1, oJ q2, o2, oJ q3, o2, oI (Int32.ofNat us.length)] [(.int ((((q3.toUInt64 >>> ((8 : Int32) &&& 0x3f).toInt64.toUInt64).toInt64).toInt32).toInt8.toInt32)), (.int 10), (.ref q1)])
      obtain ⟨T5, h5, X5, e5, W5, V5, st5⟩ := own_stB X2 hx hZ e2 V2 (j := (10 : Int32)) (y := ((((q3.toUInt64 >>> ((8 : Int32) &&& 0x3f).toInt64.toUInt64).toInt64).toInt32).toInt8.toInt32)) (own_narB _) (i := 10) (by decide) (by decide) (own_il hc145 hl (by decide) l2) (g := (mkF m 157 #[oR q1, oJ q2, o2, oJ q3, o2, oI (Int32.ofNat us.length)] [(.int ((((q3.toUInt64 >>> ((8 : Int32) &&& 0x3f).toInt64.toUInt64).toInt64).toInt32).toInt8.toInt32)), (.int 10), (.ref q1)])) rfl rfl (hb hby d_method_3_157)
      have N5 := Fr.snoc X5 N2 gq
      have Zs5 : n0 ≤ h5.size := (by rw [W5.size]; exact z2)
      have Kp5 : Keep h0 h5 [q1] := K2.wr W5 (Or.inl (by simp))
      have A6_q1 : own_A Z h5 q1 "[B" .byte ((u2.set 10 ((((q3.toUInt64 >>> ((8 : Int32) &&& 0x3f).toInt64.toUInt64).toInt64).toInt32).toInt8.toInt32)).map Value.int) := by rw [← own_mset]; exact V5
      refine own_of (fun t k => st5 t k) ?_
      show own_Go p e below KK T5 (mkF m 158 #[oR q1, oJ q2, o2, oJ q3, o2, oI (Int32.ofNat us.length)] [])
      exact k158 _ _ _ (u2.set 10 ((((q3.toUInt64 >>> ((8 : Int32) &&& 0x3f).toInt64.toUInt64).toInt64).toInt32).toInt8.toInt32)) X5 e5 N5 Kp5 A6_q1 (by rw [List.length_set]; exact l2) Zs5
    · refine own_at (fun t k => XS.icmpYes X2.here hx rfl (pc0 := 145) (pc' := 158) rfl (hb hby d_method_3_145) rfl (Jvm.Free.XT.ii_le_t hc145) (by decide) (by decide) k) ?_
      show own_Go p e below KK T2 (mkF m 158 #[oR q1, oJ q2, o2, oJ q3, o2, oI (Int32.ofNat us.length)] [])
      exact k158 _ _ _ u2 X2 e2 N2 K2 V2 l2 z2
  have k127 : ∀ (T2 : State) (L2 : List Loc) (h2 : Heap) (u2 : List Int32), Stand p l e ({ frames := 0, cells := 0, slots := 0, locals := 0 } : Room) s m #[(.ref q1), (.long q2), (.long q3)] below meth c T2 L2 0 0 → T2.heap = h2 → Fr n0 L2 → Keep h0 h2 [q1] → own_A Z h2 q1 "[B" .byte (u2.map Value.int) → u2.length = us.length → n0 ≤ h2.size → own_Go p e below KK T2 (mkF m 127 #[oR q1, oJ q2, o2, oJ q3, o2, oI (Int32.ofNat us.length)] []) := by
    intro T2 L2 h2 u2 X2 e2 N2 K2 V2 l2 z2
    refine own_at (fun t k => XS.iload X2.here hx rfl (hb hby d_method_3_127) rfl k) ?_
    show own_Go p e below KK T2 (mkF m 129 #[oR q1, oJ q2, o2, oJ q3, o2, oI (Int32.ofNat us.length)] [(.int (Int32.ofNat us.length))])
    refine own_at (fun t k => XS.bipush X2.here hx rfl (hb hby d_method_3_129) k) ?_
    show own_Go p e below KK T2 (mkF m 131 #[oR q1, oJ q2, o2, oJ q3, o2, oI (Int32.ofNat us.length)] [(.int 9), (.int (Int32.ofNat us.length))])
    by_cases hc131 : (9 : Int32) < (Int32.ofNat us.length)
    · refine own_at (fun t k => XS.icmpNo X2.here hx rfl (hb hby d_method_3_131) rfl (Jvm.Free.XT.ii_le_f hc131) k) ?_
      show own_Go p e below KK T2 (mkF m 134 #[oR q1, oJ q2, o2, oJ q3, o2, oI (Int32.ofNat us.length)] [])
      refine own_at (fun t k => XS.aloadN X2.here hx rfl (hb hby d_method_3_134) rfl rfl k) ?_
      show own_Go p e below KK T2 (mkF m 135 #[oR q1, oJ q2, o2, oJ q3, o2, oI (Int32.ofNat us.length)] [(.ref q1)])
      refine own_at (fun t k => XS.bipush X2.here hx rfl (hb hby d_method_3_135) k) ?_
      show own_Go p e below KK T2 (mkF m 137 #[oR q1, oJ q2, o2, oJ q3, o2, oI (Int32.ofNat us.length)] [(.int 9), (.ref q1)])
      refine own_at (fun t k => XS.lloadN X2.here hx rfl (hb hby d_method_3_137) rfl k) ?_
      show own_Go p e below KK T2 (mkF m 138 #[oR q1, oJ q2, o2, oJ q3, o2, oI (Int32.ofNat us.length)] [(.long q3), (.int 9), (.ref q1)])
      refine own_at (fun t k => XS.l2i X2.here hx rfl (hb hby d_method_3_138) rfl k) ?_
      show own_Go p e below KK T2 (mkF m 139 #[oR q1, oJ q2, o2, oJ q3, o2, oI (Int32.ofNat us.length)] [(.int (q3.toInt32)), (.int 9), (.ref q1)])
      refine own_at (fun t k => XS.i2b X2.here hx rfl (hb hby d_method_3_139) rfl k) ?_
      show own_Go p e below KK T2 (mkF m 140 #[oR q1, oJ q2, o2, oJ q3, o2, oI (Int32.ofNat us.length)] [(.int ((q3.toInt32).toInt8.toInt32)), (.int 9), (.ref q1)])
      obtain ⟨T7, h7, X7, e7, W7, V7, st7⟩ := own_stB X2 hx hZ e2 V2 (j := (9 : Int32)) (y := ((q3.toInt32).toInt8.toInt32)) (own_narB _) (i := 9) (by decide) (by decide) (own_il hc131 hl (by decide) l2) (g := (mkF m 140 #[oR q1, oJ q2, o2, oJ q3, o2, oI (Int32.ofNat us.length)] [(.int ((q3.toInt32).toInt8.toInt32)), (.int 9), (.ref q1)])) rfl rfl (hb hby d_method_3_140)
      have N7 := Fr.snoc X7 N2 gq
      have Zs7 : n0 ≤ h7.size := (by rw [W7.size]; exact z2)
      have Kp7 : Keep h0 h7 [q1] := K2.wr W7 (Or.inl (by simp))
      have A8_q1 : own_A Z h7 q1 "[B" .byte ((u2.set 9 ((q3.toInt32).toInt8.toInt32)).map Value.int) := by rw [← own_mset]; exact V7
      refine own_of (fun t k => st7 t k) ?_
      show own_Go p e below KK T7 (mkF m 141 #[oR q1, oJ q2, o2, oJ q3, o2, oI (Int32.ofNat us.length)] [])
      exact k141 _ _ _ (u2.set 9 ((q3.toInt32).toInt8.toInt32)) X7 e7 N7 Kp7 A8_q1 (by rw [List.length_set]; exact l2) Zs7
    · refine own_at (fun t k => XS.icmpYes X2.here hx rfl (pc0 := 131) (pc' := 141) rfl (hb hby d_method_3_131) rfl (Jvm.Free.XT.ii_le_t hc131) (by decide) (by decide) k) ?_
      show own_Go p e below KK T2 (mkF m 141 #[oR q1, oJ q2, o2, oJ q3, o2, oI (Int32.ofNat us.length)] [])
      exact k141 _ _ _ u2 X2 e2 N2 K2 V2 l2 z2
  have k110 : ∀ (T2 : State) (L2 : List Loc) (h2 : Heap) (u2 : List Int32), Stand p l e ({ frames := 0, cells := 0, slots := 0, locals := 0 } : Room) s m #[(.ref q1), (.long q2), (.long q3)] below meth c T2 L2 0 0 → T2.heap = h2 → Fr n0 L2 → Keep h0 h2 [q1] → own_A Z h2 q1 "[B" .byte (u2.map Value.int) → u2.length = us.length → n0 ≤ h2.size → own_Go p e below KK T2 (mkF m 110 #[oR q1, oJ q2, o2, oJ q3, o2, oI (Int32.ofNat us.length)] []) := by
    intro T2 L2 h2 u2 X2 e2 N2 K2 V2 l2 z2
    refine own_at (fun t k => XS.iload X2.here hx rfl (hb hby d_method_3_110) rfl k) ?_
    show own_Go p e below KK T2 (mkF m 112 #[oR q1, oJ q2, o2, oJ q3, o2, oI (Int32.ofNat us.length)] [(.int (Int32.ofNat us.length))])
    refine own_at (fun t k => XS.bipush X2.here hx rfl (hb hby d_method_3_112) k) ?_
    show own_Go p e below KK T2 (mkF m 114 #[oR q1, oJ q2, o2, oJ q3, o2, oI (Int32.ofNat us.length)] [(.int 8), (.int (Int32.ofNat us.length))])
    by_cases hc114 : (8 : Int32) < (Int32.ofNat us.length)
    · refine own_at (fun t k => XS.icmpNo X2.here hx rfl (hb hby d_method_3_114) rfl (Jvm.Free.XT.ii_le_f hc114) k) ?_
      show own_Go p e below KK T2 (mkF m 117 #[oR q1, oJ q2, o2, oJ q3, o2, oI (Int32.ofNat us.length)] [])
      refine own_at (fun t k => XS.aloadN X2.here hx rfl (hb hby d_method_3_117) rfl rfl k) ?_
      show own_Go p e below KK T2 (mkF m 118 #[oR q1, oJ q2, o2, oJ q3, o2, oI (Int32.ofNat us.length)] [(.ref q1)])
      refine own_at (fun t k => XS.bipush X2.here hx rfl (hb hby d_method_3_118) k) ?_
      show own_Go p e below KK T2 (mkF m 120 #[oR q1, oJ q2, o2, oJ q3, o2, oI (Int32.ofNat us.length)] [(.int 8), (.ref q1)])
      refine own_at (fun t k => XS.lloadN X2.here hx rfl (hb hby d_method_3_120) rfl k) ?_
      show own_Go p e below KK T2 (mkF m 121 #[oR q1, oJ q2, o2, oJ q3, o2, oI (Int32.ofNat us.length)] [(.long q2), (.int 8), (.ref q1)])
      refine own_at (fun t k => XS.bipush X2.here hx rfl (hb hby d_method_3_121) k) ?_
      show own_Go p e below KK T2 (mkF m 123 #[oR q1, oJ q2, o2, oJ q3, o2, oI (Int32.ofNat us.length)] [(.int 56), (.long q2), (.int 8), (.ref q1)])
      refine own_at (fun t k => XS.lushr X2.here hx rfl (hb hby d_method_3_123) rfl k) ?_
      show own_Go p e below KK T2 (mkF m 124 #[oR q1, oJ q2, o2, oJ q3, o2, oI (Int32.ofNat us.length)] [(.long ((q2.toUInt64 >>> ((56 : Int32) &&& 0x3f).toInt64.toUInt64).toInt64)), (.int 8), (.ref q1)])
      refine own_at (fun t k => XS.l2i X2.here hx rfl (hb hby d_method_3_124) rfl k) ?_
      show own_Go p e below KK T2 (mkF m 125 #[oR q1, oJ q2, o2, oJ q3, o2, oI (Int32.ofNat us.length)] [(.int (((q2.toUInt64 >>> ((56 : Int32) &&& 0x3f).toInt64.toUInt64).toInt64).toInt32)), (.int 8), (.ref q1)])
      refine own_at (fun t k => XS.i2b X2.here hx rfl (hb hby d_method_3_125) rfl k) ?_
      show own_Go p e below KK T2 (mkF m 126 #[oR q1, oJ q2, o2, oJ q3, o2, oI (Int32.ofNat us.length)] [(.int ((((q2.toUInt64 >>> ((56 : Int32) &&& 0x3f).toInt64.toUInt64).toInt64).toInt32).toInt8.toInt32)), (.int 8), (.ref q1)])
      obtain ⟨T9, h9, X9, e9, W9, V9, st9⟩ := own_stB X2 hx hZ e2 V2 (j := (8 : Int32)) (y := ((((q2.toUInt64 >>> ((56 : Int32) &&& 0x3f).toInt64.toUInt64).toInt64).toInt32).toInt8.toInt32)) (own_narB _) (i := 8) (by decide) (by decide) (own_il hc114 hl (by decide) l2) (g := (mkF m 126 #[oR q1, oJ q2, o2, oJ q3, o2, oI (Int32.ofNat us.length)] [(.int ((((q2.toUInt64 >>> ((56 : Int32) &&& 0x3f).toInt64.toUInt64).toInt64).toInt32).toInt8.toInt32)), (.int 8), (.ref q1)])) rfl rfl (hb hby d_method_3_126)
      have N9 := Fr.snoc X9 N2 gq
      have Zs9 : n0 ≤ h9.size := (by rw [W9.size]; exact z2)
      have Kp9 : Keep h0 h9 [q1] := K2.wr W9 (Or.inl (by simp))
      have A10_q1 : own_A Z h9 q1 "[B" .byte ((u2.set 8 ((((q2.toUInt64 >>> ((56 : Int32) &&& 0x3f).toInt64.toUInt64).toInt64).toInt32).toInt8.toInt32)).map Value.int) := by rw [← own_mset]; exact V9
      refine own_of (fun t k => st9 t k) ?_
      show own_Go p e below KK T9 (mkF m 127 #[oR q1, oJ q2, o2, oJ q3, o2, oI (Int32.ofNat us.length)] [])
      exact k127 _ _ _ (u2.set 8 ((((q2.toUInt64 >>> ((56 : Int32) &&& 0x3f).toInt64.toUInt64).toInt64).toInt32).toInt8.toInt32)) X9 e9 N9 Kp9 A10_q1 (by rw [List.length_set]; exact l2) Zs9
    · refine own_at (fun t k => XS.icmpYes X2.here hx rfl (pc0 := 114) (pc' := 127) rfl (hb hby d_method_3_114) rfl (Jvm.Free.XT.ii_le_t hc114) (by decide) (by decide) k) ?_
      show own_Go p e below KK T2 (mkF m 127 #[oR q1, oJ q2, o2, oJ q3, o2, oI (Int32.ofNat us.length)] [])
      exact k127 _ _ _ u2 X2 e2 N2 K2 V2 l2 z2
  have k93 : ∀ (T2 : State) (L2 : List Loc) (h2 : Heap) (u2 : List Int32), Stand p l e ({ frames := 0, cells := 0, slots := 0, locals := 0 } : Room) s m #[(.ref q1), (.long q2), (.long q3)] below meth c T2 L2 0 0 → T2.heap = h2 → Fr n0 L2 → Keep h0 h2 [q1] → own_A Z h2 q1 "[B" .byte (u2.map Value.int) → u2.length = us.length → n0 ≤ h2.size → own_Go p e below KK T2 (mkF m 93 #[oR q1, oJ q2, o2, oJ q3, o2, oI (Int32.ofNat us.length)] []) := by
    intro T2 L2 h2 u2 X2 e2 N2 K2 V2 l2 z2
    refine own_at (fun t k => XS.iload X2.here hx rfl (hb hby d_method_3_93) rfl k) ?_
    show own_Go p e below KK T2 (mkF m 95 #[oR q1, oJ q2, o2, oJ q3, o2, oI (Int32.ofNat us.length)] [(.int (Int32.ofNat us.length))])
    refine own_at (fun t k => XS.bipush X2.here hx rfl (hb hby d_method_3_95) k) ?_
    show own_Go p e below KK T2 (mkF m 97 #[oR q1, oJ q2, o2, oJ q3, o2, oI (Int32.ofNat us.length)] [(.int 7), (.int (Int32.ofNat us.length))])
    by_cases hc97 : (7 : Int32) < (Int32.ofNat us.length)
    · refine own_at (fun t k => XS.icmpNo X2.here hx rfl (hb hby d_method_3_97) rfl (Jvm.Free.XT.ii_le_f hc97) k) ?_
      show own_Go p e below KK T2 (mkF m 100 #[oR q1, oJ q2, o2, oJ q3, o2, oI (Int32.ofNat us.length)] [])
      refine own_at (fun t k => XS.aloadN X2.here hx rfl (hb hby d_method_3_100) rfl rfl k) ?_
      show own_Go p e below KK T2 (mkF m 101 #[oR q1, oJ q2, o2, oJ q3, o2, oI (Int32.ofNat us.length)] [(.ref q1)])
      refine own_at (fun t k => XS.bipush X2.here hx rfl (hb hby d_method_3_101) k) ?_
      show own_Go p e below KK T2 (mkF m 103 #[oR q1, oJ q2, o2, oJ q3, o2, oI (Int32.ofNat us.length)] [(.int 7), (.ref q1)])
      refine own_at (fun t k => XS.lloadN X2.here hx rfl (hb hby d_method_3_103) rfl k) ?_
      show own_Go p e below KK T2 (mkF m 104 #[oR q1, oJ q2, o2, oJ q3, o2, oI (Int32.ofNat us.length)] [(.long q2), (.int 7), (.ref q1)])
      refine own_at (fun t k => XS.bipush X2.here hx rfl (hb hby d_method_3_104) k) ?_
      show own_Go p e below KK T2 (mkF m 106 #[oR q1, oJ q2, o2, oJ q3, o2, oI (Int32.ofNat us.length)] [(.int 48), (.long q2), (.int 7), (.ref q1)])
      refine own_at (fun t k => XS.lushr X2.here hx rfl (hb hby d_method_3_106) rfl k) ?_
      show own_Go p e below KK T2 (mkF m 107 #[oR q1, oJ q2, o2, oJ q3, o2, oI (Int32.ofNat us.length)] [(.long ((q2.toUInt64 >>> ((48 : Int32) &&& 0x3f).toInt64.toUInt64).toInt64)), (.int 7), (.ref q1)])
      refine own_at (fun t k => XS.l2i X2.here hx rfl (hb hby d_method_3_107) rfl k) ?_
      show own_Go p e below KK T2 (mkF m 108 #[oR q1, oJ q2, o2, oJ q3, o2, oI (Int32.ofNat us.length)] [(.int (((q2.toUInt64 >>> ((48 : Int32) &&& 0x3f).toInt64.toUInt64).toInt64).toInt32)), (.int 7), (.ref q1)])
      refine own_at (fun t k => XS.i2b X2.here hx rfl (hb hby d_method_3_108) rfl k) ?_
      show own_Go p e below KK T2 (mkF m 109 #[oR q1, oJ q2, o2, oJ q3, o2, oI (Int32.ofNat us.length)] [(.int ((((q2.toUInt64 >>> ((48 : Int32) &&& 0x3f).toInt64.toUInt64).toInt64).toInt32).toInt8.toInt32)), (.int 7), (.ref q1)])
      obtain ⟨T11, h11, X11, e11, W11, V11, st11⟩ := own_stB X2 hx hZ e2 V2 (j := (7 : Int32)) (y := ((((q2.toUInt64 >>> ((48 : Int32) &&& 0x3f).toInt64.toUInt64).toInt64).toInt32).toInt8.toInt32)) (own_narB _) (i := 7) (by decide) (by decide) (own_il hc97 hl (by decide) l2) (g := (mkF m 109 #[oR q1, oJ q2, o2, oJ q3, o2, oI (Int32.ofNat us.length)] [(.int ((((q2.toUInt64 >>> ((48 : Int32) &&& 0x3f).toInt64.toUInt64).toInt64).toInt32).toInt8.toInt32)), (.int 7), (.ref q1)])) rfl rfl (hb hby d_method_3_109)
      have N11 := Fr.snoc X11 N2 gq
      have Zs11 : n0 ≤ h11.size := (by rw [W11.size]; exact z2)
      have Kp11 : Keep h0 h11 [q1] := K2.wr W11 (Or.inl (by simp))
      have A12_q1 : own_A Z h11 q1 "[B" .byte ((u2.set 7 ((((q2.toUInt64 >>> ((48 : Int32) &&& 0x3f).toInt64.toUInt64).toInt64).toInt32).toInt8.toInt32)).map Value.int) := by rw [← own_mset]; exact V11
      refine own_of (fun t k => st11 t k) ?_
      show own_Go p e below KK T11 (mkF m 110 #[oR q1, oJ q2, o2, oJ q3, o2, oI (Int32.ofNat us.length)] [])
      exact k110 _ _ _ (u2.set 7 ((((q2.toUInt64 >>> ((48 : Int32) &&& 0x3f).toInt64.toUInt64).toInt64).toInt32).toInt8.toInt32)) X11 e11 N11 Kp11 A12_q1 (by rw [List.length_set]; exact l2) Zs11
    · refine own_at (fun t k => XS.icmpYes X2.here hx rfl (pc0 := 97) (pc' := 110) rfl (hb hby d_method_3_97) rfl (Jvm.Free.XT.ii_le_t hc97) (by decide) (by decide) k) ?_
      show own_Go p e below KK T2 (mkF m 110 #[oR q1, oJ q2, o2, oJ q3, o2, oI (Int32.ofNat us.length)] [])
      exact k110 _ _ _ u2 X2 e2 N2 K2 V2 l2 z2
  have k76 : ∀ (T2 : State) (L2 : List Loc) (h2 : Heap) (u2 : List Int32), Stand p l e ({ frames := 0, cells := 0, slots := 0, locals := 0 } : Room) s m #[(.ref q1), (.long q2), (.long q3)] below meth c T2 L2 0 0 → T2.heap = h2 → Fr n0 L2 → Keep h0 h2 [q1] → own_A Z h2 q1 "[B" .byte (u2.map Value.int) → u2.length = us.length → n0 ≤ h2.size → own_Go p e below KK T2 (mkF m 76 #[oR q1, oJ q2, o2, oJ q3, o2, oI (Int32.ofNat us.length)] []) := by
    intro T2 L2 h2 u2 X2 e2 N2 K2 V2 l2 z2
    refine own_at (fun t k => XS.iload X2.here hx rfl (hb hby d_method_3_76) rfl k) ?_
    show own_Go p e below KK T2 (mkF m 78 #[oR q1, oJ q2, o2, oJ q3, o2, oI (Int32.ofNat us.length)] [(.int (Int32.ofNat us.length))])
    refine own_at (fun t k => XS.bipush X2.here hx rfl (hb hby d_method_3_78) k) ?_
    show own_Go p e below KK T2 (mkF m 80 #[oR q1, oJ q2, o2, oJ q3, o2, oI (Int32.ofNat us.length)] [(.int 6), (.int (Int32.ofNat us.length))])
    by_cases hc80 : (6 : Int32) < (Int32.ofNat us.length)
    · refine own_at (fun t k => XS.icmpNo X2.here hx rfl (hb hby d_method_3_80) rfl (Jvm.Free.XT.ii_le_f hc80) k) ?_
      show own_Go p e below KK T2 (mkF m 83 #[oR q1, oJ q2, o2, oJ q3, o2, oI (Int32.ofNat us.length)] [])
      refine own_at (fun t k => XS.aloadN X2.here hx rfl (hb hby d_method_3_83) rfl rfl k) ?_
      show own_Go p e below KK T2 (mkF m 84 #[oR q1, oJ q2, o2, oJ q3, o2, oI (Int32.ofNat us.length)] [(.ref q1)])
      refine own_at (fun t k => XS.bipush X2.here hx rfl (hb hby d_method_3_84) k) ?_
      show own_Go p e below KK T2 (mkF m 86 #[oR q1, oJ q2, o2, oJ q3, o2, oI (Int32.ofNat us.length)] [(.int 6), (.ref q1)])
      refine own_at (fun t k => XS.lloadN X2.here hx rfl (hb hby d_method_3_86) rfl k) ?_
      show own_Go p e below KK T2 (mkF m 87 #[oR q1, oJ q2, o2, oJ q3, o2, oI (Int32.ofNat us.length)] [(.long q2), (.int 6), (.ref q1)])
      refine own_at (fun t k => XS.bipush X2.here hx rfl (hb hby d_method_3_87) k) ?_
      show own_Go p e below KK T2 (mkF m 89 #[oR q1, oJ q2, o2, oJ q3, o2, oI (Int32.ofNat us.length)] [(.int 40), (.long q2), (.int 6), (.ref q1)])
      refine own_at (fun t k => XS.lushr X2.here hx rfl (hb hby d_method_3_89) rfl k) ?_
      show own_Go p e below KK T2 (mkF m 90 #[oR q1, oJ q2, o2, oJ q3, o2, oI (Int32.ofNat us.length)] [(.long ((q2.toUInt64 >>> ((40 : Int32) &&& 0x3f).toInt64.toUInt64).toInt64)), (.int 6), (.ref q1)])
      refine own_at (fun t k => XS.l2i X2.here hx rfl (hb hby d_method_3_90) rfl k) ?_
      show own_Go p e below KK T2 (mkF m 91 #[oR q1, oJ q2, o2, oJ q3, o2, oI (Int32.ofNat us.length)] [(.int (((q2.toUInt64 >>> ((40 : Int32) &&& 0x3f).toInt64.toUInt64).toInt64).toInt32)), (.int 6), (.ref q1)])
      refine own_at (fun t k => XS.i2b X2.here hx rfl (hb hby d_method_3_91) rfl k) ?_
      show own_Go p e below KK T2 (mkF m 92 #[oR q1, oJ q2, o2, oJ q3, o2, oI (Int32.ofNat us.length)] [(.int ((((q2.toUInt64 >>> ((40 : Int32) &&& 0x3f).toInt64.toUInt64).toInt64).toInt32).toInt8.toInt32)), (.int 6), (.ref q1)])
      obtain ⟨T13, h13, X13, e13, W13, V13, st13⟩ := own_stB X2 hx hZ e2 V2 (j := (6 : Int32)) (y := ((((q2.toUInt64 >>> ((40 : Int32) &&& 0x3f).toInt64.toUInt64).toInt64).toInt32).toInt8.toInt32)) (own_narB _) (i := 6) (by decide) (by decide) (own_il hc80 hl (by decide) l2) (g := (mkF m 92 #[oR q1, oJ q2, o2, oJ q3, o2, oI (Int32.ofNat us.length)] [(.int ((((q2.toUInt64 >>> ((40 : Int32) &&& 0x3f).toInt64.toUInt64).toInt64).toInt32).toInt8.toInt32)), (.int 6), (.ref q1)])) rfl rfl (hb hby d_method_3_92)
      have N13 := Fr.snoc X13 N2 gq
      have Zs13 : n0 ≤ h13.size := (by rw [W13.size]; exact z2)
      have Kp13 : Keep h0 h13 [q1] := K2.wr W13 (Or.inl (by simp))
      have A14_q1 : own_A Z h13 q1 "[B" .byte ((u2.set 6 ((((q2.toUInt64 >>> ((40 : Int32) &&& 0x3f).toInt64.toUInt64).toInt64).toInt32).toInt8.toInt32)).map Value.int) := by rw [← own_mset]; exact V13
      refine own_of (fun t k => st13 t k) ?_
      show own_Go p e below KK T13 (mkF m 93 #[oR q1, oJ q2, o2, oJ q3, o2, oI (Int32.ofNat us.length)] [])
      exact k93 _ _ _ (u2.set 6 ((((q2.toUInt64 >>> ((40 : Int32) &&& 0x3f).toInt64.toUInt64).toInt64).toInt32).toInt8.toInt32)) X13 e13 N13 Kp13 A14_q1 (by rw [List.length_set]; exact l2) Zs13
    · refine own_at (fun t k => XS.icmpYes X2.here hx rfl (pc0 := 80) (pc' := 93) rfl (hb hby d_method_3_80) rfl (Jvm.Free.XT.ii_le_t hc80) (by decide) (by decide) k) ?_
      show own_Go p e below KK T2 (mkF m 93 #[oR q1, oJ q2, o2, oJ q3, o2, oI (Int32.ofNat us.length)] [])
      exact k93 _ _ _ u2 X2 e2 N2 K2 V2 l2 z2
  have k61 : ∀ (T2 : State) (L2 : List Loc) (h2 : Heap) (u2 : List Int32), Stand p l e ({ frames := 0, cells := 0, slots := 0, locals := 0 } : Room) s m #[(.ref q1), (.long q2), (.long q3)] below meth c T2 L2 0 0 → T2.heap = h2 → Fr n0 L2 → Keep h0 h2 [q1] → own_A Z h2 q1 "[B" .byte (u2.map Value.int) → u2.length = us.length → n0 ≤ h2.size → own_Go p e below KK T2 (mkF m 61 #[oR q1, oJ q2, o2, oJ q3, o2, oI (Int32.ofNat us.length)] []) := by
    intro T2 L2 h2 u2 X2 e2 N2 K2 V2 l2 z2
    refine own_at (fun t k => XS.iload X2.here hx rfl (hb hby d_method_3_61) rfl k) ?_
    show own_Go p e below KK T2 (mkF m 63 #[oR q1, oJ q2, o2, oJ q3, o2, oI (Int32.ofNat us.length)] [(.int (Int32.ofNat us.length))])
    refine own_at (fun t k => XS.iconst X2.here hx rfl (hb hby d_method_3_63) k) ?_
    show own_Go p e below KK T2 (mkF m 64 #[oR q1, oJ q2, o2, oJ q3, o2, oI (Int32.ofNat us.length)] [(.int 5), (.int (Int32.ofNat us.length))])
    by_cases hc64 : (5 : Int32) < (Int32.ofNat us.length)
    · refine own_at (fun t k => XS.icmpNo X2.here hx rfl (hb hby d_method_3_64) rfl (Jvm.Free.XT.ii_le_f hc64) k) ?_
      show own_Go p e below KK T2 (mkF m 67 #[oR q1, oJ q2, o2, oJ q3, o2, oI (Int32.ofNat us.length)] [])
      refine own_at (fun t k => XS.aloadN X2.here hx rfl (hb hby d_method_3_67) rfl rfl k) ?_
      show own_Go p e below KK T2 (mkF m 68 #[oR q1, oJ q2, o2, oJ q3, o2, oI (Int32.ofNat us.length)] [(.ref q1)])
      refine own_at (fun t k => XS.iconst X2.here hx rfl (hb hby d_method_3_68) k) ?_
      show own_Go p e below KK T2 (mkF m 69 #[oR q1, oJ q2, o2, oJ q3, o2, oI (Int32.ofNat us.length)] [(.int 5), (.ref q1)])
      refine own_at (fun t k => XS.lloadN X2.here hx rfl (hb hby d_method_3_69) rfl k) ?_
      show own_Go p e below KK T2 (mkF m 70 #[oR q1, oJ q2, o2, oJ q3, o2, oI (Int32.ofNat us.length)] [(.long q2), (.int 5), (.ref q1)])
      refine own_at (fun t k => XS.bipush X2.here hx rfl (hb hby d_method_3_70) k) ?_
      show own_Go p e below KK T2 (mkF m 72 #[oR q1, oJ q2, o2, oJ q3, o2, oI (Int32.ofNat us.length)] [(.int 32), (.long q2), (.int 5), (.ref q1)])
      refine own_at (fun t k => XS.lushr X2.here hx rfl (hb hby d_method_3_72) rfl k) ?_
      show own_Go p e below KK T2 (mkF m 73 #[oR q1, oJ q2, o2, oJ q3, o2, oI (Int32.ofNat us.length)] [(.long ((q2.toUInt64 >>> ((32 : Int32) &&& 0x3f).toInt64.toUInt64).toInt64)), (.int 5), (.ref q1)])
      refine own_at (fun t k => XS.l2i X2.here hx rfl (hb hby d_method_3_73) rfl k) ?_
      show own_Go p e below KK T2 (mkF m 74 #[oR q1, oJ q2, o2, oJ q3, o2, oI (Int32.ofNat us.length)] [(.int (((q2.toUInt64 >>> ((32 : Int32) &&& 0x3f).toInt64.toUInt64).toInt64).toInt32)), (.int 5), (.ref q1)])
      refine own_at (fun t k => XS.i2b X2.here hx rfl (hb hby d_method_3_74) rfl k) ?_
      show own_Go p e below KK T2 (mkF m 75 #[oR q1, oJ q2, o2, oJ q3, o2, oI (Int32.ofNat us.length)] [(.int ((((q2.toUInt64 >>> ((32 : Int32) &&& 0x3f).toInt64.toUInt64).toInt64).toInt32).toInt8.toInt32)), (.int 5), (.ref q1)])
      obtain ⟨T15, h15, X15, e15, W15, V15, st15⟩ := own_stB X2 hx hZ e2 V2 (j := (5 : Int32)) (y := ((((q2.toUInt64 >>> ((32 : Int32) &&& 0x3f).toInt64.toUInt64).toInt64).toInt32).toInt8.toInt32)) (own_narB _) (i := 5) (by decide) (by decide) (own_il hc64 hl (by decide) l2) (g := (mkF m 75 #[oR q1, oJ q2, o2, oJ q3, o2, oI (Int32.ofNat us.length)] [(.int ((((q2.toUInt64 >>> ((32 : Int32) &&& 0x3f).toInt64.toUInt64).toInt64).toInt32).toInt8.toInt32)), (.int 5), (.ref q1)])) rfl rfl (hb hby d_method_3_75)
      have N15 := Fr.snoc X15 N2 gq
      have Zs15 : n0 ≤ h15.size := (by rw [W15.size]; exact z2)
      have Kp15 : Keep h0 h15 [q1] := K2.wr W15 (Or.inl (by simp))
      have A16_q1 : own_A Z h15 q1 "[B" .byte ((u2.set 5 ((((q2.toUInt64 >>> ((32 : Int32) &&& 0x3f).toInt64.toUInt64).toInt64).toInt32).toInt8.toInt32)).map Value.int) := by rw [← own_mset]; exact V15
      refine own_of (fun t k => st15 t k) ?_
      show own_Go p e below KK T15 (mkF m 76 #[oR q1, oJ q2, o2, oJ q3, o2, oI (Int32.ofNat us.length)] [])
      exact k76 _ _ _ (u2.set 5 ((((q2.toUInt64 >>> ((32 : Int32) &&& 0x3f).toInt64.toUInt64).toInt64).toInt32).toInt8.toInt32)) X15 e15 N15 Kp15 A16_q1 (by rw [List.length_set]; exact l2) Zs15
    · refine own_at (fun t k => XS.icmpYes X2.here hx rfl (pc0 := 64) (pc' := 76) rfl (hb hby d_method_3_64) rfl (Jvm.Free.XT.ii_le_t hc64) (by decide) (by decide) k) ?_
      show own_Go p e below KK T2 (mkF m 76 #[oR q1, oJ q2, o2, oJ q3, o2, oI (Int32.ofNat us.length)] [])
      exact k76 _ _ _ u2 X2 e2 N2 K2 V2 l2 z2
  have k46 : ∀ (T2 : State) (L2 : List Loc) (h2 : Heap) (u2 : List Int32), Stand p l e ({ frames := 0, cells := 0, slots := 0, locals := 0 } : Room) s m #[(.ref q1), (.long q2), (.long q3)] below meth c T2 L2 0 0 → T2.heap = h2 → Fr n0 L2 → Keep h0 h2 [q1] → own_A Z h2 q1 "[B" .byte (u2.map Value.int) → u2.length = us.length → n0 ≤ h2.size → own_Go p e below KK T2 (mkF m 46 #[oR q1, oJ q2, o2, oJ q3, o2, oI (Int32.ofNat us.length)] []) := by
    intro T2 L2 h2 u2 X2 e2 N2 K2 V2 l2 z2
    refine own_at (fun t k => XS.iload X2.here hx rfl (hb hby d_method_3_46) rfl k) ?_
    show own_Go p e below KK T2 (mkF m 48 #[oR q1, oJ q2, o2, oJ q3, o2, oI (Int32.ofNat us.length)] [(.int (Int32.ofNat us.length))])
    refine own_at (fun t k => XS.iconst X2.here hx rfl (hb hby d_method_3_48) k) ?_
    show own_Go p e below KK T2 (mkF m 49 #[oR q1, oJ q2, o2, oJ q3, o2, oI (Int32.ofNat us.length)] [(.int 4), (.int (Int32.ofNat us.length))])
    by_cases hc49 : (4 : Int32) < (Int32.ofNat us.length)
    · refine own_at (fun t k => XS.icmpNo X2.here hx rfl (hb hby d_method_3_49) rfl (Jvm.Free.XT.ii_le_f hc49) k) ?_
      show own_Go p e below KK T2 (mkF m 52 #[oR q1, oJ q2, o2, oJ q3, o2, oI (Int32.ofNat us.length)] [])
      refine own_at (fun t k => XS.aloadN X2.here hx rfl (hb hby d_method_3_52) rfl rfl k) ?_
      show own_Go p e below KK T2 (mkF m 53 #[oR q1, oJ q2, o2, oJ q3, o2, oI (Int32.ofNat us.length)] [(.ref q1)])
      refine own_at (fun t k => XS.iconst X2.here hx rfl (hb hby d_method_3_53) k) ?_
      show own_Go p e below KK T2 (mkF m 54 #[oR q1, oJ q2, o2, oJ q3, o2, oI (Int32.ofNat us.length)] [(.int 4), (.ref q1)])
      refine own_at (fun t k => XS.lloadN X2.here hx rfl (hb hby d_method_3_54) rfl k) ?_
      show own_Go p e below KK T2 (mkF m 55 #[oR q1, oJ q2, o2, oJ q3, o2, oI (Int32.ofNat us.length)] [(.long q2), (.int 4), (.ref q1)])
      refine own_at (fun t k => XS.bipush X2.here hx rfl (hb hby d_method_3_55) k) ?_
      show own_Go p e below KK T2 (mkF m 57 #[oR q1, oJ q2, o2, oJ q3, o2, oI (Int32.ofNat us.length)] [(.int 24), (.long q2), (.int 4), (.ref q1)])
      refine own_at (fun t k => XS.lushr X2.here hx rfl (hb hby d_method_3_57) rfl k) ?_
      show own_Go p e below KK T2 (mkF m 58 #[oR q1, oJ q2, o2, oJ q3, o2, oI (Int32.ofNat us.length)] [(.long ((q2.toUInt64 >>> ((24 : Int32) &&& 0x3f).toInt64.toUInt64).toInt64)), (.int 4), (.ref q1)])
      refine own_at (fun t k => XS.l2i X2.here hx rfl (hb hby d_method_3_58) rfl k) ?_
      show own_Go p e below KK T2 (mkF m 59 #[oR q1, oJ q2, o2, oJ q3, o2, oI (Int32.ofNat us.length)] [(.int (((q2.toUInt64 >>> ((24 : Int32) &&& 0x3f).toInt64.toUInt64).toInt64).toInt32)), (.int 4), (.ref q1)])
      refine own_at (fun t k => XS.i2b X2.here hx rfl (hb hby d_method_3_59) rfl k) ?_
      show own_Go p e below KK T2 (mkF m 60 #[oR q1, oJ q2, o2, oJ q3, o2, oI (Int32.ofNat us.length)] [(.int ((((q2.toUInt64 >>> ((24 : Int32) &&& 0x3f).toInt64.toUInt64).toInt64).toInt32).toInt8.toInt32)), (.int 4), (.ref q1)])
      obtain ⟨T17, h17, X17, e17, W17, V17, st17⟩ := own_stB X2 hx hZ e2 V2 (j := (4 : Int32)) (y := ((((q2.toUInt64 >>> ((24 : Int32) &&& 0x3f).toInt64.toUInt64).toInt64).toInt32).toInt8.toInt32)) (own_narB _) (i := 4) (by decide) (by decide) (own_il hc49 hl (by decide) l2) (g := (mkF m 60 #[oR q1, oJ q2, o2, oJ q3, o2, oI (Int32.ofNat us.length)] [(.int ((((q2.toUInt64 >>> ((24 : Int32) &&& 0x3f).toInt64.toUInt64).toInt64).toInt32).toInt8.toInt32)), (.int 4), (.ref q1)])) rfl rfl (hb hby d_method_3_60)
      have N17 := Fr.snoc X17 N2 gq
      have Zs17 : n0 ≤ h17.size := (by rw [W17.size]; exact z2)
      have Kp17 : Keep h0 h17 [q1] := K2.wr W17 (Or.inl (by simp))
      have A18_q1 : own_A Z h17 q1 "[B" .byte ((u2.set 4 ((((q2.toUInt64 >>> ((24 : Int32) &&& 0x3f).toInt64.toUInt64).toInt64).toInt32).toInt8.toInt32)).map Value.int) := by rw [← own_mset]; exact V17
      refine own_of (fun t k => st17 t k) ?_
      show own_Go p e below KK T17 (mkF m 61 #[oR q1, oJ q2, o2, oJ q3, o2, oI (Int32.ofNat us.length)] [])
      exact k61 _ _ _ (u2.set 4 ((((q2.toUInt64 >>> ((24 : Int32) &&& 0x3f).toInt64.toUInt64).toInt64).toInt32).toInt8.toInt32)) X17 e17 N17 Kp17 A18_q1 (by rw [List.length_set]; exact l2) Zs17
    · refine own_at (fun t k => XS.icmpYes X2.here hx rfl (pc0 := 49) (pc' := 61) rfl (hb hby d_method_3_49) rfl (Jvm.Free.XT.ii_le_t hc49) (by decide) (by decide) k) ?_
      show own_Go p e below KK T2 (mkF m 61 #[oR q1, oJ q2, o2, oJ q3, o2, oI (Int32.ofNat us.length)] [])
      exact k61 _ _ _ u2 X2 e2 N2 K2 V2 l2 z2
  have k31 : ∀ (T2 : State) (L2 : List Loc) (h2 : Heap) (u2 : List Int32), Stand p l e ({ frames := 0, cells := 0, slots := 0, locals := 0 } : Room) s m #[(.ref q1), (.long q2), (.long q3)] below meth c T2 L2 0 0 → T2.heap = h2 → Fr n0 L2 → Keep h0 h2 [q1] → own_A Z h2 q1 "[B" .byte (u2.map Value.int) → u2.length = us.length → n0 ≤ h2.size → own_Go p e below KK T2 (mkF m 31 #[oR q1, oJ q2, o2, oJ q3, o2, oI (Int32.ofNat us.length)] []) := by
    intro T2 L2 h2 u2 X2 e2 N2 K2 V2 l2 z2
    refine own_at (fun t k => XS.iload X2.here hx rfl (hb hby d_method_3_31) rfl k) ?_
    show own_Go p e below KK T2 (mkF m 33 #[oR q1, oJ q2, o2, oJ q3, o2, oI (Int32.ofNat us.length)] [(.int (Int32.ofNat us.length))])
    refine own_at (fun t k => XS.iconst X2.here hx rfl (hb hby d_method_3_33) k) ?_
    show own_Go p e below KK T2 (mkF m 34 #[oR q1, oJ q2, o2, oJ q3, o2, oI (Int32.ofNat us.length)] [(.int 3), (.int (Int32.ofNat us.length))])
    by_cases hc34 : (3 : Int32) < (Int32.ofNat us.length)
    · refine own_at (fun t k => XS.icmpNo X2.here hx rfl (hb hby d_method_3_34) rfl (Jvm.Free.XT.ii_le_f hc34) k) ?_
      show own_Go p e below KK T2 (mkF m 37 #[oR q1, oJ q2, o2, oJ q3, o2, oI (Int32.ofNat us.length)] [])
      refine own_at (fun t k => XS.aloadN X2.here hx rfl (hb hby d_method_3_37) rfl rfl k) ?_
      show own_Go p e below KK T2 (mkF m 38 #[oR q1, oJ q2, o2, oJ q3, o2, oI (Int32.ofNat us.length)] [(.ref q1)])
      refine own_at (fun t k => XS.iconst X2.here hx rfl (hb hby d_method_3_38) k) ?_
      show own_Go p e below KK T2 (mkF m 39 #[oR q1, oJ q2, o2, oJ q3, o2, oI (Int32.ofNat us.length)] [(.int 3), (.ref q1)])
      refine own_at (fun t k => XS.lloadN X2.here hx rfl (hb hby d_method_3_39) rfl k) ?_
      show own_Go p e below KK T2 (mkF m 40 #[oR q1, oJ q2, o2, oJ q3, o2, oI (Int32.ofNat us.length)] [(.long q2), (.int 3), (.ref q1)])
      refine own_at (fun t k => XS.bipush X2.here hx rfl (hb hby d_method_3_40) k) ?_
      show own_Go p e below KK T2 (mkF m 42 #[oR q1, oJ q2, o2, oJ q3, o2, oI (Int32.ofNat us.length)] [(.int 16), (.long q2), (.int 3), (.ref q1)])
      refine own_at (fun t k => XS.lushr X2.here hx rfl (hb hby d_method_3_42) rfl k) ?_
      show own_Go p e below KK T2 (mkF m 43 #[oR q1, oJ q2, o2, oJ q3, o2, oI (Int32.ofNat us.length)] [(.long ((q2.toUInt64 >>> ((16 : Int32) &&& 0x3f).toInt64.toUInt64).toInt64)), (.int 3), (.ref q1)])
      refine own_at (fun t k => XS.l2i X2.here hx rfl (hb hby d_method_3_43) rfl k) ?_
      show own_Go p e below KK T2 (mkF m 44 #[oR q1, oJ q2, o2, oJ q3, o2, oI (Int32.ofNat us.length)] [(.int (((q2.toUInt64 >>> ((16 : Int32) &&& 0x3f).toInt64.toUInt64).toInt64).toInt32)), (.int 3), (.ref q1)])
      refine own_at (fun t k => XS.i2b X2.here hx rfl (hb hby d_method_3_44) rfl k) ?_
      show own_Go p e below KK T2 (mkF m 45 #[oR q1, oJ q2, o2, oJ q3, o2, oI (Int32.ofNat us.length)] [(.int ((((q2.toUInt64 >>> ((16 : Int32) &&& 0x3f).toInt64.toUInt64).toInt64).toInt32).toInt8.toInt32)), (.int 3), (.ref q1)])
      obtain ⟨T19, h19, X19, e19, W19, V19, st19⟩ := own_stB X2 hx hZ e2 V2 (j := (3 : Int32)) (y := ((((q2.toUInt64 >>> ((16 : Int32) &&& 0x3f).toInt64.toUInt64).toInt64).toInt32).toInt8.toInt32)) (own_narB _) (i := 3) (by decide) (by decide) (own_il hc34 hl (by decide) l2) (g := (mkF m 45 #[oR q1, oJ q2, o2, oJ q3, o2, oI (Int32.ofNat us.length)] [(.int ((((q2.toUInt64 >>> ((16 : Int32) &&& 0x3f).toInt64.toUInt64).toInt64).toInt32).toInt8.toInt32)), (.int 3), (.ref q1)])) rfl rfl (hb hby d_method_3_45)
      have N19 := Fr.snoc X19 N2 gq
      have Zs19 : n0 ≤ h19.size := (by rw [W19.size]; exact z2)
      have Kp19 : Keep h0 h19 [q1] := K2.wr W19 (Or.inl (by simp))
      have A20_q1 : own_A Z h19 q1 "[B" .byte ((u2.set 3 ((((q2.toUInt64 >>> ((16 : Int32) &&& 0x3f).toInt64.toUInt64).toInt64).toInt32).toInt8.toInt32)).map Value.int) := by rw [← own_mset]; exact V19
      refine own_of (fun t k => st19 t k) ?_
      show own_Go p e below KK T19 (mkF m 46 #[oR q1, oJ q2, o2, oJ q3, o2, oI (Int32.ofNat us.length)] [])
      exact k46 _ _ _ (u2.set 3 ((((q2.toUInt64 >>> ((16 : Int32) &&& 0x3f).toInt64.toUInt64).toInt64).toInt32).toInt8.toInt32)) X19 e19 N19 Kp19 A20_q1 (by rw [List.length_set]; exact l2) Zs19
    · refine own_at (fun t k => XS.icmpYes X2.here hx rfl (pc0 := 34) (pc' := 46) rfl (hb hby d_method_3_34) rfl (Jvm.Free.XT.ii_le_t hc34) (by decide) (by decide) k) ?_
      show own_Go p e below KK T2 (mkF m 46 #[oR q1, oJ q2, o2, oJ q3, o2, oI (Int32.ofNat us.length)] [])
      exact k46 _ _ _ u2 X2 e2 N2 K2 V2 l2 z2
  have k16 : ∀ (T2 : State) (L2 : List Loc) (h2 : Heap) (u2 : List Int32), Stand p l e ({ frames := 0, cells := 0, slots := 0, locals := 0 } : Room) s m #[(.ref q1), (.long q2), (.long q3)] below meth c T2 L2 0 0 → T2.heap = h2 → Fr n0 L2 → Keep h0 h2 [q1] → own_A Z h2 q1 "[B" .byte (u2.map Value.int) → u2.length = us.length → n0 ≤ h2.size → own_Go p e below KK T2 (mkF m 16 #[oR q1, oJ q2, o2, oJ q3, o2, oI (Int32.ofNat us.length)] []) := by
    intro T2 L2 h2 u2 X2 e2 N2 K2 V2 l2 z2
    refine own_at (fun t k => XS.iload X2.here hx rfl (hb hby d_method_3_16) rfl k) ?_
    show own_Go p e below KK T2 (mkF m 18 #[oR q1, oJ q2, o2, oJ q3, o2, oI (Int32.ofNat us.length)] [(.int (Int32.ofNat us.length))])
    refine own_at (fun t k => XS.iconst X2.here hx rfl (hb hby d_method_3_18) k) ?_
    show own_Go p e below KK T2 (mkF m 19 #[oR q1, oJ q2, o2, oJ q3, o2, oI (Int32.ofNat us.length)] [(.int 2), (.int (Int32.ofNat us.length))])
    by_cases hc19 : (2 : Int32) < (Int32.ofNat us.length)
    · refine own_at (fun t k => XS.icmpNo X2.here hx rfl (hb hby d_method_3_19) rfl (Jvm.Free.XT.ii_le_f hc19) k) ?_
      show own_Go p e below KK T2 (mkF m 22 #[oR q1, oJ q2, o2, oJ q3, o2, oI (Int32.ofNat us.length)] [])
      refine own_at (fun t k => XS.aloadN X2.here hx rfl (hb hby d_method_3_22) rfl rfl k) ?_
      show own_Go p e below KK T2 (mkF m 23 #[oR q1, oJ q2, o2, oJ q3, o2, oI (Int32.ofNat us.length)] [(.ref q1)])
      refine own_at (fun t k => XS.iconst X2.here hx rfl (hb hby d_method_3_23) k) ?_
      show own_Go p e below KK T2 (mkF m 24 #[oR q1, oJ q2, o2, oJ q3, o2, oI (Int32.ofNat us.length)] [(.int 2), (.ref q1)])
      refine own_at (fun t k => XS.lloadN X2.here hx rfl (hb hby d_method_3_24) rfl k) ?_
      show own_Go p e below KK T2 (mkF m 25 #[oR q1, oJ q2, o2, oJ q3, o2, oI (Int32.ofNat us.length)] [(.long q2), (.int 2), (.ref q1)])
      refine own_at (fun t k => XS.bipush X2.here hx rfl (hb hby d_method_3_25) k) ?_
      show own_Go p e below KK T2 (mkF m 27 #[oR q1, oJ q2, o2, oJ q3, o2, oI (Int32.ofNat us.length)] [(.int 8), (.long q2), (.int 2), (.ref q1)])
      refine own_at (fun t k => XS.lushr X2.here hx rfl (hb hby d_method_3_27) rfl k) ?_
      show own_Go p e below KK T2 (mkF m 28 #[oR q1, oJ q2, o2, oJ q3, o2, oI (Int32.ofNat us.length)] [(.long ((q2.toUInt64 >>> ((8 : Int32) &&& 0x3f).toInt64.toUInt64).toInt64)), (.int 2), (.ref q1)])
      refine own_at (fun t k => XS.l2i X2.here hx rfl (hb hby d_method_3_28) rfl k) ?_
      show own_Go p e below KK T2 (mkF m 29 #[oR q1, oJ q2, o2, oJ q3, o2, oI (Int32.ofNat us.length)] [(.int (((q2.toUInt64 >>> ((8 : Int32) &&& 0x3f).toInt64.toUInt64).toInt64).toInt32)), (.int 2), (.ref q1)])
      refine own_at (fun t k => XS.i2b X2.here hx rfl (hb hby d_method_3_29) rfl k) ?_
      show own_Go p e below KK T2 (mkF m 30 #[oR q1, oJ q2, o2, oJ q3, o2, oI (Int32.ofNat us.length)] [(.int ((((q2.toUInt64 >>> ((8 : Int32) &&& 0x3f).toInt64.toUInt64).toInt64).toInt32).toInt8.toInt32)), (.int 2), (.ref q1)])
      obtain ⟨T21, h21, X21, e21, W21, V21, st21⟩ := own_stB X2 hx hZ e2 V2 (j := (2 : Int32)) (y := ((((q2.toUInt64 >>> ((8 : Int32) &&& 0x3f).toInt64.toUInt64).toInt64).toInt32).toInt8.toInt32)) (own_narB _) (i := 2) (by decide) (by decide) (own_il hc19 hl (by decide) l2) (g := (mkF m 30 #[oR q1, oJ q2, o2, oJ q3, o2, oI (Int32.ofNat us.length)] [(.int ((((q2.toUInt64 >>> ((8 : Int32) &&& 0x3f).toInt64.toUInt64).toInt64).toInt32).toInt8.toInt32)), (.int 2), (.ref q1)])) rfl rfl (hb hby d_method_3_30)
      have N21 := Fr.snoc X21 N2 gq
      have Zs21 : n0 ≤ h21.size := (by rw [W21.size]; exact z2)
      have Kp21 : Keep h0 h21 [q1] := K2.wr W21 (Or.inl (by simp))
      have A22_q1 : own_A Z h21 q1 "[B" .byte ((u2.set 2 ((((q2.toUInt64 >>> ((8 : Int32) &&& 0x3f).toInt64.toUInt64).toInt64).toInt32).toInt8.toInt32)).map Value.int) := by rw [← own_mset]; exact V21
      refine own_of (fun t k => st21 t k) ?_
      show own_Go p e below KK T21 (mkF m 31 #[oR q1, oJ q2, o2, oJ q3, o2, oI (Int32.ofNat us.length)] [])
      exact k31 _ _ _ (u2.set 2 ((((q2.toUInt64 >>> ((8 : Int32) &&& 0x3f).toInt64.toUInt64).toInt64).toInt32).toInt8.toInt32)) X21 e21 N21 Kp21 A22_q1 (by rw [List.length_set]; exact l2) Zs21
    · refine own_at (fun t k => XS.icmpYes X2.here hx rfl (pc0 := 19) (pc' := 31) rfl (hb hby d_method_3_19) rfl (Jvm.Free.XT.ii_le_t hc19) (by decide) (by decide) k) ?_
      show own_Go p e below KK T2 (mkF m 31 #[oR q1, oJ q2, o2, oJ q3, o2, oI (Int32.ofNat us.length)] [])
      exact k31 _ _ _ u2 X2 e2 N2 K2 V2 l2 z2
  have k4 : ∀ (T2 : State) (L2 : List Loc) (h2 : Heap) (u2 : List Int32), Stand p l e ({ frames := 0, cells := 0, slots := 0, locals := 0 } : Room) s m #[(.ref q1), (.long q2), (.long q3)] below meth c T2 L2 0 0 → T2.heap = h2 → Fr n0 L2 → Keep h0 h2 [q1] → own_A Z h2 q1 "[B" .byte (u2.map Value.int) → u2.length = us.length → n0 ≤ h2.size → own_Go p e below KK T2 (mkF m 4 #[oR q1, oJ q2, o2, oJ q3, o2, oI (Int32.ofNat us.length)] []) := by
    intro T2 L2 h2 u2 X2 e2 N2 K2 V2 l2 z2
    refine own_at (fun t k => XS.iload X2.here hx rfl (hb hby d_method_3_4) rfl k) ?_
    show own_Go p e below KK T2 (mkF m 6 #[oR q1, oJ q2, o2, oJ q3, o2, oI (Int32.ofNat us.length)] [(.int (Int32.ofNat us.length))])
    refine own_at (fun t k => XS.iconst X2.here hx rfl (hb hby d_method_3_6) k) ?_
    show own_Go p e below KK T2 (mkF m 7 #[oR q1, oJ q2, o2, oJ q3, o2, oI (Int32.ofNat us.length)] [(.int 1), (.int (Int32.ofNat us.length))])
    by_cases hc7 : (1 : Int32) < (Int32.ofNat us.length)
    · refine own_at (fun t k => XS.icmpNo X2.here hx rfl (hb hby d_method_3_7) rfl (Jvm.Free.XT.ii_le_f hc7) k) ?_
      show own_Go p e below KK T2 (mkF m 10 #[oR q1, oJ q2, o2, oJ q3, o2, oI (Int32.ofNat us.length)] [])
      refine own_at (fun t k => XS.aloadN X2.here hx rfl (hb hby d_method_3_10) rfl rfl k) ?_
      show own_Go p e below KK T2 (mkF m 11 #[oR q1, oJ q2, o2, oJ q3, o2, oI (Int32.ofNat us.length)] [(.ref q1)])
      refine own_at (fun t k => XS.iconst X2.here hx rfl (hb hby d_method_3_11) k) ?_
      show own_Go p e below KK T2 (mkF m 12 #[oR q1, oJ q2, o2, oJ q3, o2, oI (Int32.ofNat us.length)] [(.int 1), (.ref q1)])
      refine own_at (fun t k => XS.lloadN X2.here hx rfl (hb hby d_method_3_12) rfl k) ?_
      show own_Go p e below KK T2 (mkF m 13 #[oR q1, oJ q2, o2, oJ q3, o2, oI (Int32.ofNat us.length)] [(.long q2), (.int 1), (.ref q1)])
      refine own_at (fun t k => XS.l2i X2.here hx rfl (hb hby d_method_3_13) rfl k) ?_
      show own_Go p e below KK T2 (mkF m 14 #[oR q1, oJ q2, o2, oJ q3, o2, oI (Int32.ofNat us.length)] [(.int (q2.toInt32)), (.int 1), (.ref q1)])
      refine own_at (fun t k => XS.i2b X2.here hx rfl (hb hby d_method_3_14) rfl k) ?_
      show own_Go p e below KK T2 (mkF m 15 #[oR q1, oJ q2, o2, oJ q3, o2, oI (Int32.ofNat us.length)] [(.int ((q2.toInt32).toInt8.toInt32)), (.int 1), (.ref q1)])
      obtain ⟨T23, h23, X23, e23, W23, V23, st23⟩ := own_stB X2 hx hZ e2 V2 (j := (1 : Int32)) (y := ((q2.toInt32).toInt8.toInt32)) (own_narB _) (i := 1) (by decide) (by decide) (own_il hc7 hl (by decide) l2) (g := (mkF m 15 #[oR q1, oJ q2, o2, oJ q3, o2, oI (Int32.ofNat us.length)] [(.int ((q2.toInt32).toInt8.toInt32)), (.int 1), (.ref q1)])) rfl rfl (hb hby d_method_3_15)
      have N23 := Fr.snoc X23 N2 gq
      have Zs23 : n0 ≤ h23.size := (by rw [W23.size]; exact z2)
      have Kp23 : Keep h0 h23 [q1] := K2.wr W23 (Or.inl (by simp))
      have A24_q1 : own_A Z h23 q1 "[B" .byte ((u2.set 1 ((q2.toInt32).toInt8.toInt32)).map Value.int) := by rw [← own_mset]; exact V23
      refine own_of (fun t k => st23 t k) ?_
      show own_Go p e below KK T23 (mkF m 16 #[oR q1, oJ q2, o2, oJ q3, o2, oI (Int32.ofNat us.length)] [])
      exact k16 _ _ _ (u2.set 1 ((q2.toInt32).toInt8.toInt32)) X23 e23 N23 Kp23 A24_q1 (by rw [List.length_set]; exact l2) Zs23
    · refine own_at (fun t k => XS.icmpYes X2.here hx rfl (pc0 := 7) (pc' := 16) rfl (hb hby d_method_3_7) rfl (Jvm.Free.XT.ii_le_t hc7) (by decide) (by decide) k) ?_
      show own_Go p e below KK T2 (mkF m 16 #[oR q1, oJ q2, o2, oJ q3, o2, oI (Int32.ofNat us.length)] [])
      exact k16 _ _ _ u2 X2 e2 N2 K2 V2 l2 z2
  exact k4 _ _ _ us X0 e0 N0 Kp0 Aq rfl Z0
def own_Qc (Z : State) (q1 : Addr) (v2 v3 v4 : Value) (h0 : Heap) (n0 : Nat) (v : Option Value) (h : Heap) (L : List Loc) : Prop := v = none ∧ Fr n0 L ∧ Keep h0 h [q1] ∧ Exa Z h q1 "com/example/isimud/isimud/oscore/OscoreOption" ∧ Fld Z h q1 "com/example/isimud/isimud/oscore/OscoreOption" "partialIv" "[B" v2 ∧ Fld Z h q1 "com/example/isimud/isimud/oscore/OscoreOption" "kidContext" "[B" v3 ∧ Fld Z h q1 "com/example/isimud/isimud/oscore/OscoreOption" "kid" "[B" v4
theorem ef_prog_18_1 (m : MethodId) (x0 : Addr) (x1 : Value) (x2 : Value) (x3 : Value) (v1 : x1.isRef = true) (v2 : x2.isRef = true) (v3 : x3.isRef = true) : entryFrame m #[(.ref x0), x1, x2, x3] 4 = mkF m 0 #[oR x0, .val x1, .val x2, .val x3] [] := by first | (simp [entryFrame, mkF, argsToLocals, Value.category, Jvm.Free.XT.cat1 v1, Jvm.Free.XT.cat1 v2, Jvm.Free.XT.cat1 v3]; done) | rfl | (rcases ref_cases v1 with rfl | ⟨_, rfl⟩ <;> rcases ref_cases v2 with rfl | ⟨_, rfl⟩ <;> rcases ref_cases v3 with rfl | ⟨_, rfl⟩ <;> rfl)
theorem d_prog_18_1_0 : decode prog_18_method_1_code 0 = .ok (.aload_n 0, 1) := by decide +kernel
theorem d_prog_18_1_1 : decode prog_18_method_1_code 1 = .ok (.invokespecial 1, 3) := by decide +kernel
theorem d_prog_18_1_4 : decode prog_18_method_1_code 4 = .ok (.aload_n 0, 1) := by decide +kernel
theorem d_prog_18_1_5 : decode prog_18_method_1_code 5 = .ok (.aload_n 1, 1) := by decide +kernel
theorem d_prog_18_1_6 : decode prog_18_method_1_code 6 = .ok (.putfield 7, 3) := by decide +kernel
theorem d_prog_18_1_9 : decode prog_18_method_1_code 9 = .ok (.aload_n 0, 1) := by decide +kernel
theorem d_prog_18_1_10 : decode prog_18_method_1_code 10 = .ok (.aload_n 2, 1) := by decide +kernel
theorem d_prog_18_1_11 : decode prog_18_method_1_code 11 = .ok (.putfield 13, 3) := by decide +kernel
theorem d_prog_18_1_14 : decode prog_18_method_1_code 14 = .ok (.aload_n 0, 1) := by decide +kernel
theorem d_prog_18_1_15 : decode prog_18_method_1_code 15 = .ok (.aload_n 3, 1) := by decide +kernel
theorem d_prog_18_1_16 : decode prog_18_method_1_code 16 = .ok (.putfield 16, 3) := by decide +kernel
theorem d_prog_18_1_19 : decode prog_18_method_1_code 19 = .ok (.return_, 1) := by decide +kernel
set_option maxRecDepth 65536 in
set_option maxHeartbeats 40000000 in
theorem rm_ctor (l : Launch) (Z : State) (a0 : Array Value) (hw : ∀ d ∈ tables_1, d.before a0 Z = true) (ws : List Jvm.Cond) (q1 : Addr) (v2 : Value) (v3 : Value) (v4 : Value)  (h0 : Heap) (n0 : Nat) (Z0 : n0 ≤ h0.size) (F0 : Fld Z h0 q1 "com/example/isimud/isimud/oscore/OscoreOption" "partialIv" "[B" .null) (F1 : Fld Z h0 q1 "com/example/isimud/isimud/oscore/OscoreOption" "kidContext" "[B" .null) (F2 : Fld Z h0 q1 "com/example/isimud/isimud/oscore/OscoreOption" "kid" "[B" .null) (Eq : Exa Z h0 q1 "com/example/isimud/isimud/oscore/OscoreOption") (gq : n0 ≤ q1) (r2 : v2.isRef = true) (r3 : v3.isRef = true) (r4 : v4.isRef = true) :
    MetFree l (⟨"com/example/isimud/isimud/oscore/OscoreOption", "<init>", "([B[B[B)V"⟩ : MethodName) (head1 (Jvm.Cond.code (⟨"com/example/isimud/isimud/oscore/OscoreOption", "<init>", "([B[B[B)V"⟩ : MethodName) prog_18_method_1_code 4 none :: ws) ({ frames := 1, cells := 0, slots := 0, locals := 12 } : Room)) (fun a U => a = #[(.ref q1), v2, v3, v4] ∧ Z.Warmed39 U.vm ∧ U.heap = h0) (fun _ _ _ _ _ => True) (fun _ U o U' => ∃ v L, o = .returned v ∧ own_Qc Z q1 v2 v3 v4 h0 n0 v U'.heap L ∧ FrameEnd U o U' L ({ frames := 1, cells := 0, slots := 0, locals := 12 } : Room).cells ({ frames := 1, cells := 0, slots := 0, locals := 12 } : Room).slots) := by
  refine MetFree.of_bodySF (plainFor_of_name pn_com_example_isimud_isimud_oscore_OscoreOption) hisR ?_
  intro p e s m args below meth c s₁ Bd hml0 hP hK
  obtain ⟨rfl, hZ, hh⟩ := hP
  have hx := Bd.exec
  have hby := Bd.bytes
  have hlk : meth.locks = false := BodyLoose.notSynchronized Bd
  have hml : c.maxLocals = 4 := hml0
  have hown : s.vm.findClass "com/example/isimud/isimud/oscore/OscoreOption" = some m.cls := findClass_of_methodNamed Bd.named
  have hnm := (name_of_methodNamed Bd.named Bd.method).1
  have X0 : Stand p l e ({ frames := 1, cells := 0, slots := 0, locals := 12 } : Room) s m #[(.ref q1), v2, v3, v4] below meth c s₁ [] 0 0 := Stand.of_body Bd
  have e0 : s₁.heap = h0 := by rw [← hh, Bd.state]; rfl
  have N0 := Fr.nil n0
  refine own_cast (K := own_K s (own_Qc Z q1 v2 v3 v4 h0 n0) 0 0) (ef_prog_18_1 m q1 v2 v3 v4 r2 r3 r4) ?_
  generalize hKK : own_K s (own_Qc Z q1 v2 v3 v4 h0 n0) 0 0 = KK
  show own_Go p e below KK s₁ (mkF m 0 #[oR q1, .val v2, .val v3, .val v4] [])
  have Kp0 : Keep h0 h0 [q1] := Keep.refl _ _
  refine own_at (fun t k => XS.aloadN X0.here hx rfl (hb hby d_prog_18_1_0) rfl rfl k) ?_
  show own_Go p e below KK s₁ (mkF m 1 #[oR q1, .val v2, .val v3, .val v4] [(.ref q1)])
  obtain ⟨T1, X1, e1, st1⟩ := initO X0 hx hZ hown (hw _ (List.mem_of_getElem? (i := 36) rfl)) (hw _ (List.mem_of_getElem? (i := 37) rfl)) (hw _ (List.mem_of_getElem? (i := 38) rfl)) e0 (g := (mkF m 1 #[oR q1, .val v2, .val v3, .val v4] [(.ref q1)])) rfl (by rw [hml]; rfl) rfl (hb hby d_prog_18_1_1) (by decide) (W := 0) (by show 2 * 0 + _ ≤ _; exact Nat.le_of_eq rfl) (by decide)
  refine own_of (fun t k => st1 t k) ?_
  show own_Go p e below KK T1 (mkF m 4 #[oR q1, .val v2, .val v3, .val v4] [])
  refine own_at (fun t k => XS.aloadN X1.here hx rfl (hb hby d_prog_18_1_4) rfl rfl k) ?_
  show own_Go p e below KK T1 (mkF m 5 #[oR q1, .val v2, .val v3, .val v4] [(.ref q1)])
  refine own_at (fun t k => XS.aloadN X1.here hx rfl (hb hby d_prog_18_1_5) rfl r2 k) ?_
  show own_Go p e below KK T1 (mkF m 6 #[oR q1, .val v2, .val v3, .val v4] [v2, (.ref q1)])
  obtain ⟨T2, h2, X2, e2, W2, st2⟩ := putF X1 hx hZ hown (host := "") (Or.inl (hw _ (List.mem_of_getElem? (i := 39) rfl))) Via.refl e1 F0 Eq (Or.inr ⟨(hw _ (List.mem_of_getElem? (i := 40) rfl)), rfl, hnm⟩) (hw _ (List.mem_of_getElem? (i := 32) rfl)) (ty := (.array .byte)) (by decide) (own_nA r2).1 (own_nA r2).2 (g := (mkF m 6 #[oR q1, .val v2, .val v3, .val v4] [v2, (.ref q1)])) rfl rfl (hb hby d_prog_18_1_6)
  have N2 := Fr.snoc X2 N0 gq
  have F1_h2 : Fld Z h2 q1 "com/example/isimud/isimud/oscore/OscoreOption" "kidContext" "[B" .null := F1.other W2 (Or.inr (slot_ne (C := "com/example/isimud/isimud/oscore/OscoreOption") (Or.inr (hw _ (List.mem_of_getElem? (i := 42) rfl))) (Or.inr (hw _ (List.mem_of_getElem? (i := 40) rfl))) (by decide) (t := (.array .byte)) (t' := (.array .byte)) (by decide) (by decide)))
  have F2_h2 : Fld Z h2 q1 "com/example/isimud/isimud/oscore/OscoreOption" "kid" "[B" .null := F2.other W2 (Or.inr (slot_ne (C := "com/example/isimud/isimud/oscore/OscoreOption") (Or.inr (hw _ (List.mem_of_getElem? (i := 44) rfl))) (Or.inr (hw _ (List.mem_of_getElem? (i := 40) rfl))) (by decide) (t := (.array .byte)) (t' := (.array .byte)) (by decide) (by decide)))
  have Eq_h2 : Exa Z h2 q1 "com/example/isimud/isimud/oscore/OscoreOption" := Eq.wr W2
  have Zs2 : n0 ≤ h2.size := (by rw [W2.size]; exact Z0)
  have Kp2 : Keep h0 h2 [q1] := Kp0.wr W2 (Or.inl (by simp))
  have F3_q1 : Fld Z h2 q1 "com/example/isimud/isimud/oscore/OscoreOption" "partialIv" "[B" v2 := F0.same W2
  refine own_of (fun t k => st2 t k) ?_
  show own_Go p e below KK T2 (mkF m 9 #[oR q1, .val v2, .val v3, .val v4] [])
  refine own_at (fun t k => XS.aloadN X2.here hx rfl (hb hby d_prog_18_1_9) rfl rfl k) ?_
  show own_Go p e below KK T2 (mkF m 10 #[oR q1, .val v2, .val v3, .val v4] [(.ref q1)])
  refine own_at (fun t k => XS.aloadN X2.here hx rfl (hb hby d_prog_18_1_10) rfl r3 k) ?_
  show own_Go p e below KK T2 (mkF m 11 #[oR q1, .val v2, .val v3, .val v4] [v3, (.ref q1)])
  obtain ⟨T4, h4, X4, e4, W4, st4⟩ := putF X2 hx hZ hown (host := "") (Or.inl (hw _ (List.mem_of_getElem? (i := 41) rfl))) Via.refl e2 F1_h2 Eq_h2 (Or.inr ⟨(hw _ (List.mem_of_getElem? (i := 42) rfl)), rfl, hnm⟩) (hw _ (List.mem_of_getElem? (i := 32) rfl)) (ty := (.array .byte)) (by decide) (own_nA r3).1 (own_nA r3).2 (g := (mkF m 11 #[oR q1, .val v2, .val v3, .val v4] [v3, (.ref q1)])) rfl rfl (hb hby d_prog_18_1_11)
  have N4 := Fr.snoc X4 N2 gq
  have F3_q1_h4 : Fld Z h4 q1 "com/example/isimud/isimud/oscore/OscoreOption" "partialIv" "[B" v2 := F3_q1.other W4 (Or.inr (slot_ne (C := "com/example/isimud/isimud/oscore/OscoreOption") (Or.inr (hw _ (List.mem_of_getElem? (i := 40) rfl))) (Or.inr (hw _ (List.mem_of_getElem? (i := 42) rfl))) (by decide) (t := (.array .byte)) (t' := (.array .byte)) (by decide) (by decide)))
  have F2_h4 : Fld Z h4 q1 "com/example/isimud/isimud/oscore/OscoreOption" "kid" "[B" .null := F2_h2.other W4 (Or.inr (slot_ne (C := "com/example/isimud/isimud/oscore/OscoreOption") (Or.inr (hw _ (List.mem_of_getElem? (i := 44) rfl))) (Or.inr (hw _ (List.mem_of_getElem? (i := 42) rfl))) (by decide) (t := (.array .byte)) (t' := (.array .byte)) (by decide) (by decide)))
  have Eq_h4 : Exa Z h4 q1 "com/example/isimud/isimud/oscore/OscoreOption" := Eq_h2.wr W4
  have Zs4 : n0 ≤ h4.size := (by rw [W4.size]; exact Zs2)
  have Kp4 : Keep h0 h4 [q1] := Kp2.wr W4 (Or.inl (by simp))
  have F5_q1 : Fld Z h4 q1 "com/example/isimud/isimud/oscore/OscoreOption" "kidContext" "[B" v3 := F1_h2.same W4
  refine own_of (fun t k => st4 t k) ?_
  show own_Go p e below KK T4 (mkF m 14 #[oR q1, .val v2, .val v3, .val v4] [])
  refine own_at (fun t k => XS.aloadN X4.here hx rfl (hb hby d_prog_18_1_14) rfl rfl k) ?_
  show own_Go p e below KK T4 (mkF m 15 #[oR q1, .val v2, .val v3, .val v4] [(.ref q1)])
  refine own_at (fun t k => XS.aloadN X4.here hx rfl (hb hby d_prog_18_1_15) rfl r4 k) ?_
  show own_Go p e below KK T4 (mkF m 16 #[oR q1, .val v2, .val v3, .val v4] [v4, (.ref q1)])
  obtain ⟨T6, h6, X6, e6, W6, st6⟩ := putF X4 hx hZ hown (host := "") (Or.inl (hw _ (List.mem_of_getElem? (i := 43) rfl))) Via.refl e4 F2_h4 Eq_h4 (Or.inr ⟨(hw _ (List.mem_of_getElem? (i := 44) rfl)), rfl, hnm⟩) (hw _ (List.mem_of_getElem? (i := 32) rfl)) (ty := (.array .byte)) (by decide) (own_nA r4).1 (own_nA r4).2 (g := (mkF m 16 #[oR q1, .val v2, .val v3, .val v4] [v4, (.ref q1)])) rfl rfl (hb hby d_prog_18_1_16)
  have N6 := Fr.snoc X6 N4 gq
  have F3_q1_h6 : Fld Z h6 q1 "com/example/isimud/isimud/oscore/OscoreOption" "partialIv" "[B" v2 := F3_q1_h4.other W6 (Or.inr (slot_ne (C := "com/example/isimud/isimud/oscore/OscoreOption") (Or.inr (hw _ (List.mem_of_getElem? (i := 40) rfl))) (Or.inr (hw _ (List.mem_of_getElem? (i := 44) rfl))) (by decide) (t := (.array .byte)) (t' := (.array .byte)) (by decide) (by decide)))
  have F5_q1_h6 : Fld Z h6 q1 "com/example/isimud/isimud/oscore/OscoreOption" "kidContext" "[B" v3 := F5_q1.other W6 (Or.inr (slot_ne (C := "com/example/isimud/isimud/oscore/OscoreOption") (Or.inr (hw _ (List.mem_of_getElem? (i := 42) rfl))) (Or.inr (hw _ (List.mem_of_getElem? (i := 44) rfl))) (by decide) (t := (.array .byte)) (t' := (.array .byte)) (by decide) (by decide)))
  have Eq_h6 : Exa Z h6 q1 "com/example/isimud/isimud/oscore/OscoreOption" := Eq_h4.wr W6
  have Zs6 : n0 ≤ h6.size := (by rw [W6.size]; exact Zs4)
  have Kp6 : Keep h0 h6 [q1] := Kp4.wr W6 (Or.inl (by simp))
  have F7_q1 : Fld Z h6 q1 "com/example/isimud/isimud/oscore/OscoreOption" "kid" "[B" v4 := F2_h4.same W6
  refine own_of (fun t k => st6 t k) ?_
  show own_Go p e below KK T6 (mkF m 19 #[oR q1, .val v2, .val v3, .val v4] [])
  subst hKK
  exact own_retV X6 hx hlk Bd.returns (hb hby d_prog_18_1_19) ⟨rfl, N6, by rw [e6]; exact Kp6, by rw [e6]; exact Eq_h6, by rw [e6]; exact F3_q1_h6, by rw [e6]; exact F5_q1_h6, by rw [e6]; exact F7_q1⟩ (Nat.le_of_ble_eq_true rfl) (Nat.le_of_ble_eq_true rfl)
def own_O (Z : State) (h : Heap) (v : Value) (o : Option (List Value)) : Prop := match o with
  | none => v = .null
  | some us => ∃ r : Addr, v = .ref r ∧ own_A Z h r "[B" .byte us
theorem own_Oz {Z : State} {h : Heap} {n : Nat} {us : List Value} (q : n = 0) : own_O Z h .null (if n = 0 then none else some us) := by rw [if_pos q]; rfl
theorem own_Os {Z : State} {h : Heap} {n : Nat} {us : List Value} {r : Addr} (q : ¬ n = 0) (A : own_A Z h r "[B" .byte us) : own_O Z h (.ref r) (if n = 0 then none else some us) := by rw [if_neg q]; exact ⟨r, rfl, A⟩
def own_Qrd (Z : State) (o1 o2 o3 : Option (List Value)) (h0 : Heap) (n0 : Nat) (v : Option Value) (h : Heap) (L : List Loc) : Prop := ∃ (b : Addr) (v1 v2 v3 : Value), v = some (.ref b) ∧ Fr n0 L ∧ Keep h0 h [] ∧ n0 ≤ b ∧ h0.size ≤ b ∧ Exa Z h b "com/example/isimud/isimud/oscore/OscoreOption" ∧ Fld Z h b "com/example/isimud/isimud/oscore/OscoreOption" "partialIv" "[B" v1 ∧ Fld Z h b "com/example/isimud/isimud/oscore/OscoreOption" "kidContext" "[B" v2 ∧ Fld Z h b "com/example/isimud/isimud/oscore/OscoreOption" "kid" "[B" v3 ∧ own_O Z h v1 o1 ∧ own_O Z h v2 o2 ∧ own_O Z h v3 o3
def own_flag (w : Int32) (n : Nat) (hb kb : Bool) : Prop := ((w &&& (255 : Int32)) &&& (224 : Int32)) = (0 : Int32) ∧ ((w &&& (255 : Int32)) &&& (7 : Int32)) = Int32.ofNat n ∧ ¬ (w &&& (255 : Int32)) = (0 : Int32) ∧ (((w &&& (255 : Int32)) &&& (16 : Int32)) = (0 : Int32) ↔ hb = false) ∧ (((w &&& (255 : Int32)) &&& (8 : Int32)) = (0 : Int32) ↔ kb = false)
theorem ef_prog_18_3 (m : MethodId)  : entryFrame m #[] 0 = mkF m 0 #[] [] := by first | (simp [entryFrame, mkF, argsToLocals, Value.category]; done) | rfl
theorem d_prog_18_3_0 : decode prog_18_method_3_code 0 = .ok (.new 8, 3) := by decide +kernel
theorem d_prog_18_3_3 : decode prog_18_method_3_code 3 = .ok (.dup, 1) := by decide +kernel
theorem d_prog_18_3_4 : decode prog_18_method_3_code 4 = .ok (.aconst_null, 1) := by decide +kernel
theorem d_prog_18_3_5 : decode prog_18_method_3_code 5 = .ok (.aconst_null, 1) := by decide +kernel
theorem d_prog_18_3_6 : decode prog_18_method_3_code 6 = .ok (.aconst_null, 1) := by decide +kernel
theorem d_prog_18_3_7 : decode prog_18_method_3_code 7 = .ok (.invokespecial 24, 3) := by decide +kernel
theorem pd___B_B_B_V : parseMethodDescriptor "([B[B[B)V" = some ⟨[(.array .byte), (.array .byte), (.array .byte)], none⟩ := by decide +kernel
theorem d_prog_18_3_10 : decode prog_18_method_3_code 10 = .ok (.areturn, 1) := by decide +kernel
set_option maxRecDepth 65536 in
set_option maxHeartbeats 40000000 in
theorem rm_resp (l : Launch) (Z : State) (a0 : Array Value) (hw : ∀ d ∈ tables_1, d.before a0 Z = true) (ws : List Jvm.Cond)   (h0 : Heap) (n0 : Nat) (Z0 : n0 ≤ h0.size)  :
    MetFree l (⟨"com/example/isimud/isimud/oscore/OscoreOption", "ofResponse", "()Lcom/example/isimud/isimud/oscore/OscoreOption;"⟩ : MethodName) (head1 (Jvm.Cond.code (⟨"com/example/isimud/isimud/oscore/OscoreOption", "ofResponse", "()Lcom/example/isimud/isimud/oscore/OscoreOption;"⟩ : MethodName) prog_18_method_3_code 0 (some (.object "com/example/isimud/isimud/oscore/OscoreOption")) :: ws) ({ frames := 2, cells := 1, slots := 3, locals := 28 } : Room)) (fun a U => a = #[] ∧ Z.Warmed39 U.vm ∧ U.heap = h0) (fun _ _ _ _ _ => True) (fun _ U o U' => ∃ v L, o = .returned v ∧ own_Qrd Z none none none h0 n0 v U'.heap L ∧ FrameEnd U o U' L ({ frames := 2, cells := 1, slots := 3, locals := 28 } : Room).cells ({ frames := 2, cells := 1, slots := 3, locals := 28 } : Room).slots) := by
  refine MetFree.of_bodySF (plainFor_of_name pn_com_example_isimud_isimud_oscore_OscoreOption) hisR ?_
  intro p e s m args below meth c s₁ Bd hml0 hP hK
  obtain ⟨rfl, hZ, hh⟩ := hP
  have hx := Bd.exec
  have hby := Bd.bytes
  have hlk : meth.locks = false := BodyLoose.notSynchronized Bd
  have hml : c.maxLocals = 0 := hml0
  have hown : s.vm.findClass "com/example/isimud/isimud/oscore/OscoreOption" = some m.cls := findClass_of_methodNamed Bd.named
  have hnm := (name_of_methodNamed Bd.named Bd.method).1
  have X0 : Stand p l e ({ frames := 2, cells := 1, slots := 3, locals := 28 } : Room) s m #[] below meth c s₁ [] 0 0 := Stand.of_body Bd
  have e0 : s₁.heap = h0 := by rw [← hh, Bd.state]; rfl
  have N0 := Fr.nil n0
  refine own_cast (K := own_K s (own_Qrd Z none none none h0 n0) 1 3) (ef_prog_18_3 m ) ?_
  generalize hKK : own_K s (own_Qrd Z none none none h0 n0) 1 3 = KK
  show own_Go p e below KK s₁ (mkF m 0 #[] [])
  have Kp0 : Keep h0 h0 [] := Keep.refl _ _
  obtain ⟨T1, h1, X1, e1, E1, A1, D1, -, st1⟩ := newO X0 hx hZ hown (hw _ (List.mem_of_getElem? (i := 31) rfl)) (hw _ (List.mem_of_getElem? (i := 32) rfl)) (hw _ (List.mem_of_getElem? (i := 8) rfl)) e0 (g := (mkF m 0 #[] [])) rfl (hb hby d_prog_18_3_0) (by decide) (by decide)
  obtain ⟨b1, g1⟩ : ∃ z, z = h0.size := ⟨_, rfl⟩
  rw [← g1] at A1 D1 st1
  have g_b1 : n0 ≤ b1 := by rw [g1]; exact Z0
  have sz_b1 : h0.size ≤ b1 := by rw [g1]; exact Kp0.1
  have Zs1 : n0 ≤ h1.size := Nat.le_trans Z0 E1.1
  have Kp1 : Keep h0 h1 [] := Kp0.ext E1
  have E2_b1 : Exa Z h1 b1 "com/example/isimud/isimud/oscore/OscoreOption" := A1
  have F3_b1 : Fld Z h1 b1 "com/example/isimud/isimud/oscore/OscoreOption" "partialIv" "[B" .null := D1 (Or.inr (hw _ (List.mem_of_getElem? (i := 40) rfl))) (ty := (.array .byte)) (by decide)
  have F4_b1 : Fld Z h1 b1 "com/example/isimud/isimud/oscore/OscoreOption" "kidContext" "[B" .null := D1 (Or.inr (hw _ (List.mem_of_getElem? (i := 42) rfl))) (ty := (.array .byte)) (by decide)
  have F5_b1 : Fld Z h1 b1 "com/example/isimud/isimud/oscore/OscoreOption" "kid" "[B" .null := D1 (Or.inr (hw _ (List.mem_of_getElem? (i := 44) rfl))) (ty := (.array .byte)) (by decide)
  refine own_of (fun t k => st1 t k) ?_
  show own_Go p e below KK T1 (mkF m 3 #[] [(.ref b1)])
  refine own_at (fun t k => XS.dup X1.here hx rfl (hb hby d_prog_18_3_3) rfl rfl k) ?_
  show own_Go p e below KK T1 (mkF m 4 #[] [(.ref b1), (.ref b1)])
  refine own_at (fun t k => XS.aconstNull X1.here hx rfl (hb hby d_prog_18_3_4) k) ?_
  show own_Go p e below KK T1 (mkF m 5 #[] [.null, (.ref b1), (.ref b1)])
  refine own_at (fun t k => XS.aconstNull X1.here hx rfl (hb hby d_prog_18_3_5) k) ?_
  show own_Go p e below KK T1 (mkF m 6 #[] [.null, .null, (.ref b1), (.ref b1)])
  refine own_at (fun t k => XS.aconstNull X1.here hx rfl (hb hby d_prog_18_3_6) k) ?_
  show own_Go p e below KK T1 (mkF m 7 #[] [.null, .null, .null, (.ref b1), (.ref b1)])
  obtain ⟨_, _, ⟨T6, L6, k6, n6⟩, -, X6, ⟨Lc6, hQ6, l6, y6, z6⟩, st6⟩ := X1.specialBack hx (y := (⟨"com/example/isimud/isimud/oscore/OscoreOption", "<init>", "([B[B[B)V"⟩ : MethodName)) rfl hown (mvT hZ (hw _ (List.mem_of_getElem? (i := 33) rfl))) (mvT hZ (hw _ (List.mem_of_getElem? (i := 34) rfl))) (mvT hZ (hw _ (List.mem_of_getElem? (i := 35) rfl))) (by decide) (backOf (W := 1) (rm_ctor l Z a0 hw [] b1 .null .null .null  h1 n0 Zs1 F3_b1 F4_b1 F5_b1 E2_b1 g_b1 rfl rfl rfl) hZ (hw _ (List.mem_of_getElem? (i := 35) rfl)) (hw _ (List.mem_of_getElem? (i := 8) rfl)) (by decide) (by decide)) (g := (mkF m 7 #[] [.null, .null, .null, (.ref b1), (.ref b1)])) rfl (by rw [hml]; rfl) (Steps.refl _) (a := b1) (argsL := [.null, .null, .null]) (rest := [(.ref b1)]) (lenOf pd___B_B_B_V rfl) rfl (by show 2 * 0 + _ ≤ _; exact Nat.le_of_eq rfl) (hb hby d_prog_18_3_7) (fun _ _ => ⟨rfl, e1, (by decide : 1 + 0 ≤ _), (by decide : 3 + 0 ≤ _)⟩)
  dsimp only [Pt.U, Pt.locs, Pt.cells, Pt.slots] at X6 l6 y6 z6 st6 hQ6
  subst l6 y6 z6
  obtain ⟨rfl, N6q, K6, Ex6, Fx6, Fy6, Fz6⟩ := hQ6
  have Zs6 : n0 ≤ T6.heap.size := Nat.le_trans Zs1 K6.1
  have Kp6 : Keep h0 T6.heap [] := Kp1.trans K6 (allS (Or.inr sz_b1) all0)
  have E7_b1 : Exa Z T6.heap b1 "com/example/isimud/isimud/oscore/OscoreOption" := Ex6
  have F8_b1 : Fld Z T6.heap b1 "com/example/isimud/isimud/oscore/OscoreOption" "partialIv" "[B" .null := Fx6
  have F9_b1 : Fld Z T6.heap b1 "com/example/isimud/isimud/oscore/OscoreOption" "kidContext" "[B" .null := Fy6
  have F10_b1 : Fld Z T6.heap b1 "com/example/isimud/isimud/oscore/OscoreOption" "kid" "[B" .null := Fz6
  have N6 := Fr.app N0 N6q
  refine own_of (fun t k => st6.trans k) ?_
  show own_Go p e below KK T6 (mkF m 10 #[] [(.ref b1)])
  subst hKK
  exact own_retA X6 hx hlk rfl Bd.returns rfl (hb hby d_prog_18_3_10) ⟨b1, .null, .null, .null, rfl, N6, Kp6, g_b1, sz_b1, E7_b1, F8_b1, F9_b1, F10_b1, rfl, rfl, rfl⟩ (Nat.le_of_ble_eq_true rfl) (Nat.le_of_ble_eq_true rfl)
theorem ef_prog_18_4 (m : MethodId) (x0 : Addr) : entryFrame m #[(.ref x0)] 7 = mkF m 0 #[oR x0, oU, oU, oU, oU, oU, oU] [] := by first | (simp [entryFrame, mkF, argsToLocals, Value.category]; done) | rfl
theorem d_prog_18_4_0 : decode prog_18_method_4_code 0 = .ok (.aload_n 0, 1) := by decide +kernel
theorem d_prog_18_4_1 : decode prog_18_method_4_code 1 = .ok (.arraylength, 1) := by decide +kernel
theorem d_prog_18_4_2 : decode prog_18_method_4_code 2 = .ok (.ifCond .ne 7, 3) := by decide +kernel
theorem d_prog_18_4_5 : decode prog_18_method_4_code 5 = .ok (.invokestatic 27, 3) := by decide +kernel
theorem pd___Lcom_example_isimud_isimud_oscore_OscoreOption_ : parseMethodDescriptor "()Lcom/example/isimud/isimud/oscore/OscoreOption;" = some ⟨[], some (.object "com/example/isimud/isimud/oscore/OscoreOption")⟩ := by decide +kernel
theorem d_prog_18_4_8 : decode prog_18_method_4_code 8 = .ok (.areturn, 1) := by decide +kernel
set_option maxRecDepth 65536 in
set_option maxHeartbeats 40000000 in
theorem rm_read0 (l : Launch) (Z : State) (a0 : Array Value) (hw : ∀ d ∈ tables_1, d.before a0 Z = true) (ws : List Jvm.Cond) (q1 : Addr)  (h0 : Heap) (n0 : Nat) (Z0 : n0 ≤ h0.size) (Aq : own_A Z h0 q1 "[B" .byte []) :
    MetFree l (⟨"com/example/isimud/isimud/oscore/OscoreOption", "read", "([B)Lcom/example/isimud/isimud/oscore/OscoreOption;"⟩ : MethodName) (head1 (Jvm.Cond.code (⟨"com/example/isimud/isimud/oscore/OscoreOption", "read", "([B)Lcom/example/isimud/isimud/oscore/OscoreOption;"⟩ : MethodName) prog_18_method_4_code 7 (some (.object "com/example/isimud/isimud/oscore/OscoreOption")) :: ws) ({ frames := 3, cells := 1, slots := 3, locals := 40 } : Room)) (fun a U => a = #[(.ref q1)] ∧ Z.Warmed39 U.vm ∧ U.heap = h0) (fun _ _ _ _ _ => True) (fun _ U o U' => ∃ v L, o = .returned v ∧ own_Qrd Z none none none h0 n0 v U'.heap L ∧ FrameEnd U o U' L ({ frames := 3, cells := 1, slots := 3, locals := 40 } : Room).cells ({ frames := 3, cells := 1, slots := 3, locals := 40 } : Room).slots) := by
  refine MetFree.of_bodySF (plainFor_of_name pn_com_example_isimud_isimud_oscore_OscoreOption) hisR ?_
  intro p e s m args below meth c s₁ Bd hml0 hP hK
  obtain ⟨rfl, hZ, hh⟩ := hP
  have hx := Bd.exec
  have hby := Bd.bytes
  have hlk : meth.locks = false := BodyLoose.notSynchronized Bd
  have hml : c.maxLocals = 7 := hml0
  have hown : s.vm.findClass "com/example/isimud/isimud/oscore/OscoreOption" = some m.cls := findClass_of_methodNamed Bd.named
  have hnm := (name_of_methodNamed Bd.named Bd.method).1
  have X0 : Stand p l e ({ frames := 3, cells := 1, slots := 3, locals := 40 } : Room) s m #[(.ref q1)] below meth c s₁ [] 0 0 := Stand.of_body Bd
  have e0 : s₁.heap = h0 := by rw [← hh, Bd.state]; rfl
  have N0 := Fr.nil n0
  refine own_cast (K := own_K s (own_Qrd Z none none none h0 n0) 1 3) (ef_prog_18_4 m q1) ?_
  generalize hKK : own_K s (own_Qrd Z none none none h0 n0) 1 3 = KK
  show own_Go p e below KK s₁ (mkF m 0 #[oR q1, oU, oU, oU, oU, oU, oU] [])
  have Kp0 : Keep h0 h0 [] := Keep.refl _ _
  refine own_at (fun t k => XS.aloadN X0.here hx rfl (hb hby d_prog_18_4_0) rfl rfl k) ?_
  show own_Go p e below KK s₁ (mkF m 1 #[oR q1, oU, oU, oU, oU, oU, oU] [(.ref q1)])
  refine own_at (fun t k => own_len X0 hx hZ e0 Aq (N := (0 : Int32)) (show (0 : Nat).toInt32 = (0 : Int32) from by decide) (g := (mkF m 1 #[oR q1, oU, oU, oU, oU, oU, oU] [(.ref q1)])) rfl rfl (hb hby d_prog_18_4_1) t k) ?_
  show own_Go p e below KK s₁ (mkF m 2 #[oR q1, oU, oU, oU, oU, oU, oU] [(.int 0)])
  have hc2 : (0 : Int32) = (0 : Int32) := by decide
  refine own_at (fun t k => XS.ifNo X0.here hx rfl (hb hby d_prog_18_4_2) rfl (Jvm.Free.XT.i0_ne_f hc2) k) ?_
  show own_Go p e below KK s₁ (mkF m 5 #[oR q1, oU, oU, oU, oU, oU, oU] [])
  obtain ⟨_, _, ⟨T1, L1, k1, n1⟩, -, X1, ⟨Lc1, hQ1, l1, y1, z1⟩, st1⟩ := Jvm.LawKit.callS X0 hx (y := (⟨"com/example/isimud/isimud/oscore/OscoreOption", "ofResponse", "()Lcom/example/isimud/isimud/oscore/OscoreOption;"⟩ : MethodName)) hown (mvT hZ (hw _ (List.mem_of_getElem? (i := 72) rfl))) (mvT hZ (hw _ (List.mem_of_getElem? (i := 73) rfl))) (mvT hZ (hw _ (List.mem_of_getElem? (i := 8) rfl))) (mvT hZ (hw _ (List.mem_of_getElem? (i := 74) rfl))) (by decide) (backOf (W := 0) (rm_resp l Z a0 hw []   h0 n0 Z0 ) hZ (hw _ (List.mem_of_getElem? (i := 74) rfl)) (hw _ (List.mem_of_getElem? (i := 8) rfl)) (by decide) (by decide)) (g := (mkF m 5 #[oR q1, oU, oU, oU, oU, oU, oU] [])) rfl (by rw [hml]; rfl) (argsL := []) (rest := []) (lenOf pd___Lcom_example_isimud_isimud_oscore_OscoreOption_ rfl) rfl (by show 2 * 0 + _ ≤ _; exact Nat.le_of_eq rfl) (hb hby d_prog_18_4_5) (fun _ _ => ⟨rfl, e0, (by decide : 0 + 1 ≤ _), (by decide : 0 + 3 ≤ _)⟩)
  dsimp only [Pt.U, Pt.locs, Pt.cells, Pt.slots] at X1 l1 y1 z1 st1 hQ1
  subst l1 y1 z1
  obtain ⟨r1, x1a, x1b, x1c, rfl, N1q, K1, g_r1, s_r1, Ex1, Fx1, Fy1, Fz1, Oa1, Ob1, Oc1⟩ := hQ1
  have ne_q1_r1 : q1 ≠ r1 := Nat.ne_of_lt (Nat.lt_of_lt_of_le Aq.lt s_r1)
  have sz_r1 : h0.size ≤ r1 := Nat.le_trans Kp0.1 s_r1
  have Aq_h1 : own_A Z T1.heap q1 "[B" .byte [] := Aq.keep K1 nin0
  have Zs1 : n0 ≤ T1.heap.size := Nat.le_trans Z0 K1.1
  have Kp1 : Keep h0 T1.heap [] := Kp0.trans K1 all0
  have E2_r1 : Exa Z T1.heap r1 "com/example/isimud/isimud/oscore/OscoreOption" := Ex1
  have F3_r1 : Fld Z T1.heap r1 "com/example/isimud/isimud/oscore/OscoreOption" "partialIv" "[B" x1a := Fx1
  have F4_r1 : Fld Z T1.heap r1 "com/example/isimud/isimud/oscore/OscoreOption" "kidContext" "[B" x1b := Fy1
  have F5_r1 : Fld Z T1.heap r1 "com/example/isimud/isimud/oscore/OscoreOption" "kid" "[B" x1c := Fz1
  have N1 := Fr.app N0 N1q
  refine own_of (fun t k => st1 t k) ?_
  show own_Go p e below KK T1 (mkF m 8 #[oR q1, oU, oU, oU, oU, oU, oU] [(.ref r1)])
  subst hKK
  exact own_retA X1 hx hlk rfl Bd.returns rfl (hb hby d_prog_18_4_8) ⟨r1, x1a, x1b, x1c, rfl, N1, Kp1, g_r1, sz_r1, E2_r1, F3_r1, F4_r1, F5_r1, Oa1, Ob1, Oc1⟩ (Nat.le_of_ble_eq_true rfl) (Nat.le_of_ble_eq_true rfl)
theorem d_prog_18_4_9 : decode prog_18_method_4_code 9 = .ok (.aload_n 0, 1) := by decide +kernel
theorem d_prog_18_4_10 : decode prog_18_method_4_code 10 = .ok (.iconst 0, 1) := by decide +kernel
theorem d_prog_18_4_11 : decode prog_18_method_4_code 11 = .ok (.baload, 1) := by decide +kernel
theorem d_prog_18_4_12 : decode prog_18_method_4_code 12 = .ok (.sipush 255, 3) := by decide +kernel
theorem d_prog_18_4_15 : decode prog_18_method_4_code 15 = .ok (.iand, 1) := by decide +kernel
theorem d_prog_18_4_16 : decode prog_18_method_4_code 16 = .ok (.istore_n 1, 1) := by decide +kernel
theorem d_prog_18_4_17 : decode prog_18_method_4_code 17 = .ok (.iload_n 1, 1) := by decide +kernel
theorem d_prog_18_4_18 : decode prog_18_method_4_code 18 = .ok (.bipush 7, 2) := by decide +kernel
theorem d_prog_18_4_20 : decode prog_18_method_4_code 20 = .ok (.iand, 1) := by decide +kernel
theorem d_prog_18_4_21 : decode prog_18_method_4_code 21 = .ok (.istore_n 2, 1) := by decide +kernel
theorem d_prog_18_4_22 : decode prog_18_method_4_code 22 = .ok (.iload_n 1, 1) := by decide +kernel
theorem d_prog_18_4_23 : decode prog_18_method_4_code 23 = .ok (.sipush 224, 3) := by decide +kernel
theorem d_prog_18_4_26 : decode prog_18_method_4_code 26 = .ok (.iand, 1) := by decide +kernel
theorem d_prog_18_4_27 : decode prog_18_method_4_code 27 = .ok (.ifCond .ne 12, 3) := by decide +kernel
theorem d_prog_18_4_30 : decode prog_18_method_4_code 30 = .ok (.iload_n 2, 1) := by decide +kernel
theorem d_prog_18_4_31 : decode prog_18_method_4_code 31 = .ok (.iconst 5, 1) := by decide +kernel
theorem d_prog_18_4_32 : decode prog_18_method_4_code 32 = .ok (.if_icmp .gt 7, 3) := by decide +kernel
theorem d_prog_18_4_35 : decode prog_18_method_4_code 35 = .ok (.iload_n 1, 1) := by decide +kernel
theorem d_prog_18_4_36 : decode prog_18_method_4_code 36 = .ok (.ifCond .ne 32, 3) := by decide +kernel
theorem d_prog_18_4_68 : decode prog_18_method_4_code 68 = .ok (.iconst 1, 1) := by decide +kernel
theorem d_prog_18_4_69 : decode prog_18_method_4_code 69 = .ok (.istore_n 3, 1) := by decide +kernel
theorem d_prog_18_4_70 : decode prog_18_method_4_code 70 = .ok (.iload_n 2, 1) := by decide +kernel
theorem d_prog_18_4_71 : decode prog_18_method_4_code 71 = .ok (.ifCond .ne 7, 3) := by decide +kernel
theorem d_prog_18_4_74 : decode prog_18_method_4_code 74 = .ok (.aconst_null, 1) := by decide +kernel
theorem d_prog_18_4_75 : decode prog_18_method_4_code 75 = .ok (.goto 9, 3) := by decide +kernel
theorem d_prog_18_4_84 : decode prog_18_method_4_code 84 = .ok (.astore 4, 2) := by decide +kernel
theorem d_prog_18_4_86 : decode prog_18_method_4_code 86 = .ok (.iload_n 3, 1) := by decide +kernel
theorem d_prog_18_4_87 : decode prog_18_method_4_code 87 = .ok (.iload_n 2, 1) := by decide +kernel
theorem d_prog_18_4_88 : decode prog_18_method_4_code 88 = .ok (.iadd, 1) := by decide +kernel
theorem d_prog_18_4_89 : decode prog_18_method_4_code 89 = .ok (.istore_n 3, 1) := by decide +kernel
theorem d_prog_18_4_90 : decode prog_18_method_4_code 90 = .ok (.aconst_null, 1) := by decide +kernel
theorem d_prog_18_4_91 : decode prog_18_method_4_code 91 = .ok (.astore 5, 2) := by decide +kernel
theorem d_prog_18_4_93 : decode prog_18_method_4_code 93 = .ok (.iload_n 1, 1) := by decide +kernel
theorem d_prog_18_4_94 : decode prog_18_method_4_code 94 = .ok (.bipush 16, 2) := by decide +kernel
theorem d_prog_18_4_96 : decode prog_18_method_4_code 96 = .ok (.iand, 1) := by decide +kernel
theorem d_prog_18_4_97 : decode prog_18_method_4_code 97 = .ok (.ifCond .eq 40, 3) := by decide +kernel
theorem d_prog_18_4_137 : decode prog_18_method_4_code 137 = .ok (.iload_n 1, 1) := by decide +kernel
theorem d_prog_18_4_138 : decode prog_18_method_4_code 138 = .ok (.bipush 8, 2) := by decide +kernel
theorem d_prog_18_4_140 : decode prog_18_method_4_code 140 = .ok (.iand, 1) := by decide +kernel
theorem d_prog_18_4_141 : decode prog_18_method_4_code 141 = .ok (.ifCond .ne 7, 3) := by decide +kernel
theorem d_prog_18_4_144 : decode prog_18_method_4_code 144 = .ok (.aconst_null, 1) := by decide +kernel
theorem d_prog_18_4_145 : decode prog_18_method_4_code 145 = .ok (.goto 10, 3) := by decide +kernel
theorem d_prog_18_4_155 : decode prog_18_method_4_code 155 = .ok (.astore 6, 2) := by decide +kernel
theorem d_prog_18_4_157 : decode prog_18_method_4_code 157 = .ok (.aload 6, 2) := by decide +kernel
theorem d_prog_18_4_159 : decode prog_18_method_4_code 159 = .ok (.ifnonnull 26, 3) := by decide +kernel
theorem d_prog_18_4_162 : decode prog_18_method_4_code 162 = .ok (.iload_n 3, 1) := by decide +kernel
theorem d_prog_18_4_163 : decode prog_18_method_4_code 163 = .ok (.aload_n 0, 1) := by decide +kernel
theorem d_prog_18_4_164 : decode prog_18_method_4_code 164 = .ok (.arraylength, 1) := by decide +kernel
theorem d_prog_18_4_165 : decode prog_18_method_4_code 165 = .ok (.if_icmp .eq 20, 3) := by decide +kernel
theorem d_prog_18_4_185 : decode prog_18_method_4_code 185 = .ok (.new 8, 3) := by decide +kernel
theorem d_prog_18_4_188 : decode prog_18_method_4_code 188 = .ok (.dup, 1) := by decide +kernel
theorem d_prog_18_4_189 : decode prog_18_method_4_code 189 = .ok (.aload 4, 2) := by decide +kernel
theorem d_prog_18_4_191 : decode prog_18_method_4_code 191 = .ok (.aload 5, 2) := by decide +kernel
theorem d_prog_18_4_193 : decode prog_18_method_4_code 193 = .ok (.aload 6, 2) := by decide +kernel
theorem d_prog_18_4_195 : decode prog_18_method_4_code 195 = .ok (.invokespecial 24, 3) := by decide +kernel
theorem d_prog_18_4_198 : decode prog_18_method_4_code 198 = .ok (.areturn, 1) := by decide +kernel
theorem d_prog_18_4_78 : decode prog_18_method_4_code 78 = .ok (.aload_n 0, 1) := by decide +kernel
theorem d_prog_18_4_79 : decode prog_18_method_4_code 79 = .ok (.iload_n 3, 1) := by decide +kernel
theorem d_prog_18_4_80 : decode prog_18_method_4_code 80 = .ok (.iload_n 2, 1) := by decide +kernel
theorem d_prog_18_4_81 : decode prog_18_method_4_code 81 = .ok (.invokestatic 54, 3) := by decide +kernel
set_option maxRecDepth 65536 in
set_option maxHeartbeats 40000000 in
theorem rm_read00 (l : Launch) (Z : State) (a0 : Array Value) (hw : ∀ d ∈ tables_1, d.before a0 Z = true) (ws : List Jvm.Cond) (q1 : Addr) (us : List Int32) (i1 : Nat) (w0 : Int32) (h0 : Heap) (n0 : Nat) (Z0 : n0 ≤ h0.size) (Aq : own_A Z h0 q1 "[B" .byte (us.map Value.int)) (hw0 : us[0]? = some w0) (hfl : own_flag w0 i1 false false) (hi1 : i1 ≤ 5) (hl : us.length ≤ 13) (hat : (1 + i1) = us.length) :
    MetFree l (⟨"com/example/isimud/isimud/oscore/OscoreOption", "read", "([B)Lcom/example/isimud/isimud/oscore/OscoreOption;"⟩ : MethodName) (head1 (Jvm.Cond.code (⟨"com/example/isimud/isimud/oscore/OscoreOption", "read", "([B)Lcom/example/isimud/isimud/oscore/OscoreOption;"⟩ : MethodName) prog_18_method_4_code 7 (some (.object "com/example/isimud/isimud/oscore/OscoreOption")) :: ws) ({ frames := 4, cells := 4, slots := 42, locals := 84 } : Room)) (fun a U => a = #[(.ref q1)] ∧ Z.Warmed39 U.vm ∧ U.heap = h0) (fun _ _ _ _ _ => True) (fun _ U o U' => ∃ v L, o = .returned v ∧ own_Qrd Z (if i1 = 0 then none else some (((us.map Value.int).drop 1).take i1)) none none h0 n0 v U'.heap L ∧ FrameEnd U o U' L ({ frames := 4, cells := 4, slots := 42, locals := 84 } : Room).cells ({ frames := 4, cells := 4, slots := 42, locals := 84 } : Room).slots) := by
  refine MetFree.of_bodySF (plainFor_of_name pn_com_example_isimud_isimud_oscore_OscoreOption) hisR ?_
  intro p e s m args below meth c s₁ Bd hml0 hP hK
  obtain ⟨rfl, hZ, hh⟩ := hP
  have hx := Bd.exec
  have hby := Bd.bytes
  have hlk : meth.locks = false := BodyLoose.notSynchronized Bd
  have hml : c.maxLocals = 7 := hml0
  have hown : s.vm.findClass "com/example/isimud/isimud/oscore/OscoreOption" = some m.cls := findClass_of_methodNamed Bd.named
  have hnm := (name_of_methodNamed Bd.named Bd.method).1
  have X0 : Stand p l e ({ frames := 4, cells := 4, slots := 42, locals := 84 } : Room) s m #[(.ref q1)] below meth c s₁ [] 0 0 := Stand.of_body Bd
  have e0 : s₁.heap = h0 := by rw [← hh, Bd.state]; rfl
  have N0 := Fr.nil n0
  refine own_cast (K := own_K s (own_Qrd Z (if i1 = 0 then none else some (((us.map Value.int).drop 1).take i1)) none none h0 n0) 4 42) (ef_prog_18_4 m q1) ?_
  generalize hKK : own_K s (own_Qrd Z (if i1 = 0 then none else some (((us.map Value.int).drop 1).take i1)) none none h0 n0) 4 42 = KK
  show own_Go p e below KK s₁ (mkF m 0 #[oR q1, oU, oU, oU, oU, oU, oU] [])
  have Kp0 : Keep h0 h0 [] := Keep.refl _ _
  refine own_at (fun t k => XS.aloadN X0.here hx rfl (hb hby d_prog_18_4_0) rfl rfl k) ?_
  show own_Go p e below KK s₁ (mkF m 1 #[oR q1, oU, oU, oU, oU, oU, oU] [(.ref q1)])
  refine own_at (fun t k => own_len X0 hx hZ e0 Aq (N := (Int32.ofNat us.length)) (by rw [List.length_map]) (g := (mkF m 1 #[oR q1, oU, oU, oU, oU, oU, oU] [(.ref q1)])) rfl rfl (hb hby d_prog_18_4_1) t k) ?_
  show own_Go p e below KK s₁ (mkF m 2 #[oR q1, oU, oU, oU, oU, oU, oU] [(.int (Int32.ofNat us.length))])
  have hc2 : ¬ ((Int32.ofNat us.length) = (0 : Int32)) := (fun q => absurd ((own_eq (b := 0) (by omega) (by omega)).mp q) (by omega))
  refine own_at (fun t k => XS.ifYes X0.here hx rfl (pc0 := 2) (pc' := 9) rfl (hb hby d_prog_18_4_2) rfl (Jvm.Free.XT.i0_ne_t hc2) (by decide) (by decide) k) ?_
  show own_Go p e below KK s₁ (mkF m 9 #[oR q1, oU, oU, oU, oU, oU, oU] [])
  refine own_at (fun t k => XS.aloadN X0.here hx rfl (hb hby d_prog_18_4_9) rfl rfl k) ?_
  show own_Go p e below KK s₁ (mkF m 10 #[oR q1, oU, oU, oU, oU, oU, oU] [(.ref q1)])
  refine own_at (fun t k => XS.iconst X0.here hx rfl (hb hby d_prog_18_4_10) k) ?_
  show own_Go p e below KK s₁ (mkF m 11 #[oR q1, oU, oU, oU, oU, oU, oU] [(.int 0), (.ref q1)])
  refine own_at (fun t k => own_ldB X0 hx hZ e0 Aq (j := (0 : Int32)) (i := 0) (v := (.int w0)) (by decide) (by decide) (own_mget hw0) (g := (mkF m 11 #[oR q1, oU, oU, oU, oU, oU, oU] [(.int 0), (.ref q1)])) rfl rfl (hb hby d_prog_18_4_11) t k) ?_
  show own_Go p e below KK s₁ (mkF m 12 #[oR q1, oU, oU, oU, oU, oU, oU] [(.int w0)])
  refine own_at (fun t k => XS.sipush X0.here hx rfl (hb hby d_prog_18_4_12) k) ?_
  show own_Go p e below KK s₁ (mkF m 15 #[oR q1, oU, oU, oU, oU, oU, oU] [(.int 255), (.int w0)])
  refine own_at (fun t k => XS.iand X0.here hx rfl (hb hby d_prog_18_4_15) rfl k) ?_
  show own_Go p e below KK s₁ (mkF m 16 #[oR q1, oU, oU, oU, oU, oU, oU] [(.int (w0 &&& (255 : Int32)))])
  refine own_at (fun t k => XS.istoreN X0.here hx rfl (hb hby d_prog_18_4_16) rfl (l' := #[oR q1, oI (w0 &&& (255 : Int32)), oU, oU, oU, oU, oU]) rfl k) ?_
  show own_Go p e below KK s₁ (mkF m 17 #[oR q1, oI (w0 &&& (255 : Int32)), oU, oU, oU, oU, oU] [])
  refine own_at (fun t k => XS.iloadN X0.here hx rfl (hb hby d_prog_18_4_17) rfl k) ?_
  show own_Go p e below KK s₁ (mkF m 18 #[oR q1, oI (w0 &&& (255 : Int32)), oU, oU, oU, oU, oU] [(.int (w0 &&& (255 : Int32)))])
  refine own_at (fun t k => XS.bipush X0.here hx rfl (hb hby d_prog_18_4_18) k) ?_
  show own_Go p e below KK s₁ (mkF m 20 #[oR q1, oI (w0 &&& (255 : Int32)), oU, oU, oU, oU, oU] [(.int 7), (.int (w0 &&& (255 : Int32)))])
  refine own_at (fun t k => XS.iand X0.here hx rfl (hb hby d_prog_18_4_20) rfl k) ?_
  show own_Go p e below KK s₁ (mkF m 21 #[oR q1, oI (w0 &&& (255 : Int32)), oU, oU, oU, oU, oU] [(.int ((w0 &&& (255 : Int32)) &&& (7 : Int32)))])
  rw [show ((w0 &&& (255 : Int32)) &&& (7 : Int32)) = (Int32.ofNat i1) from hfl.2.1]
  show own_Go p e below KK s₁ (mkF m 21 #[oR q1, oI (w0 &&& (255 : Int32)), oU, oU, oU, oU, oU] [(.int (Int32.ofNat i1))])
  refine own_at (fun t k => XS.istoreN X0.here hx rfl (hb hby d_prog_18_4_21) rfl (l' := #[oR q1, oI (w0 &&& (255 : Int32)), oN i1, oU, oU, oU, oU]) rfl k) ?_
  show own_Go p e below KK s₁ (mkF m 22 #[oR q1, oI (w0 &&& (255 : Int32)), oN i1, oU, oU, oU, oU] [])
  refine own_at (fun t k => XS.iloadN X0.here hx rfl (hb hby d_prog_18_4_22) rfl k) ?_
  show own_Go p e below KK s₁ (mkF m 23 #[oR q1, oI (w0 &&& (255 : Int32)), oN i1, oU, oU, oU, oU] [(.int (w0 &&& (255 : Int32)))])
  refine own_at (fun t k => XS.sipush X0.here hx rfl (hb hby d_prog_18_4_23) k) ?_
  show own_Go p e below KK s₁ (mkF m 26 #[oR q1, oI (w0 &&& (255 : Int32)), oN i1, oU, oU, oU, oU] [(.int 224), (.int (w0 &&& (255 : Int32)))])
  refine own_at (fun t k => XS.iand X0.here hx rfl (hb hby d_prog_18_4_26) rfl k) ?_
  show own_Go p e below KK s₁ (mkF m 27 #[oR q1, oI (w0 &&& (255 : Int32)), oN i1, oU, oU, oU, oU] [(.int ((w0 &&& (255 : Int32)) &&& (224 : Int32)))])
  have hc27 : ((w0 &&& (255 : Int32)) &&& (224 : Int32)) = (0 : Int32) := hfl.1
  refine own_at (fun t k => XS.ifNo X0.here hx rfl (hb hby d_prog_18_4_27) rfl (Jvm.Free.XT.i0_ne_f hc27) k) ?_
  show own_Go p e below KK s₁ (mkF m 30 #[oR q1, oI (w0 &&& (255 : Int32)), oN i1, oU, oU, oU, oU] [])
  refine own_at (fun t k => XS.iloadN X0.here hx rfl (hb hby d_prog_18_4_30) rfl k) ?_
  show own_Go p e below KK s₁ (mkF m 31 #[oR q1, oI (w0 &&& (255 : Int32)), oN i1, oU, oU, oU, oU] [(.int (Int32.ofNat i1))])
  refine own_at (fun t k => XS.iconst X0.here hx rfl (hb hby d_prog_18_4_31) k) ?_
  show own_Go p e below KK s₁ (mkF m 32 #[oR q1, oI (w0 &&& (255 : Int32)), oN i1, oU, oU, oU, oU] [(.int 5), (.int (Int32.ofNat i1))])
  have hc32 : ¬ ((5 : Int32) < (Int32.ofNat i1)) := (fun q => absurd ((own_lt (a := 5) (by omega) (by omega)).mp q) (by omega))
  refine own_at (fun t k => XS.icmpNo X0.here hx rfl (hb hby d_prog_18_4_32) rfl (Jvm.Free.XT.ii_gt_f hc32) k) ?_
  show own_Go p e below KK s₁ (mkF m 35 #[oR q1, oI (w0 &&& (255 : Int32)), oN i1, oU, oU, oU, oU] [])
  refine own_at (fun t k => XS.iloadN X0.here hx rfl (hb hby d_prog_18_4_35) rfl k) ?_
  show own_Go p e below KK s₁ (mkF m 36 #[oR q1, oI (w0 &&& (255 : Int32)), oN i1, oU, oU, oU, oU] [(.int (w0 &&& (255 : Int32)))])
  have hc36 : ¬ ((w0 &&& (255 : Int32)) = (0 : Int32)) := hfl.2.2.1
  refine own_at (fun t k => XS.ifYes X0.here hx rfl (pc0 := 36) (pc' := 68) rfl (hb hby d_prog_18_4_36) rfl (Jvm.Free.XT.i0_ne_t hc36) (by decide) (by decide) k) ?_
  show own_Go p e below KK s₁ (mkF m 68 #[oR q1, oI (w0 &&& (255 : Int32)), oN i1, oU, oU, oU, oU] [])
  refine own_at (fun t k => XS.iconst X0.here hx rfl (hb hby d_prog_18_4_68) k) ?_
  show own_Go p e below KK s₁ (mkF m 69 #[oR q1, oI (w0 &&& (255 : Int32)), oN i1, oU, oU, oU, oU] [(.int 1)])
  refine own_at (fun t k => XS.istoreN X0.here hx rfl (hb hby d_prog_18_4_69) rfl (l' := #[oR q1, oI (w0 &&& (255 : Int32)), oN i1, oI 1, oU, oU, oU]) rfl k) ?_
  show own_Go p e below KK s₁ (mkF m 70 #[oR q1, oI (w0 &&& (255 : Int32)), oN i1, oI 1, oU, oU, oU] [])
  refine own_at (fun t k => XS.iloadN X0.here hx rfl (hb hby d_prog_18_4_70) rfl k) ?_
  show own_Go p e below KK s₁ (mkF m 71 #[oR q1, oI (w0 &&& (255 : Int32)), oN i1, oI 1, oU, oU, oU] [(.int (Int32.ofNat i1))])
  by_cases hc71 : (Int32.ofNat i1) = (0 : Int32)
  · refine own_at (fun t k => XS.ifNo X0.here hx rfl (hb hby d_prog_18_4_71) rfl (Jvm.Free.XT.i0_ne_f hc71) k) ?_
    show own_Go p e below KK s₁ (mkF m 74 #[oR q1, oI (w0 &&& (255 : Int32)), oN i1, oI 1, oU, oU, oU] [])
    refine own_at (fun t k => XS.aconstNull X0.here hx rfl (hb hby d_prog_18_4_74) k) ?_
    show own_Go p e below KK s₁ (mkF m 75 #[oR q1, oI (w0 &&& (255 : Int32)), oN i1, oI 1, oU, oU, oU] [.null])
    refine own_at (fun t k => XS.goto X0.here hx rfl (pc0 := 75) (pc' := 84) rfl (hb hby d_prog_18_4_75) (by decide) (by decide) k) ?_
    show own_Go p e below KK s₁ (mkF m 84 #[oR q1, oI (w0 &&& (255 : Int32)), oN i1, oI 1, oU, oU, oU] [.null])
    refine own_at (fun t k => XS.astore X0.here hx rfl (hb hby d_prog_18_4_84) rfl rfl (l' := #[oR q1, oI (w0 &&& (255 : Int32)), oN i1, oI 1, .val .null, oU, oU]) rfl k) ?_
    show own_Go p e below KK s₁ (mkF m 86 #[oR q1, oI (w0 &&& (255 : Int32)), oN i1, oI 1, .val .null, oU, oU] [])
    refine own_at (fun t k => XS.iloadN X0.here hx rfl (hb hby d_prog_18_4_86) rfl k) ?_
    show own_Go p e below KK s₁ (mkF m 87 #[oR q1, oI (w0 &&& (255 : Int32)), oN i1, oI 1, .val .null, oU, oU] [(.int 1)])
    refine own_at (fun t k => XS.iloadN X0.here hx rfl (hb hby d_prog_18_4_87) rfl k) ?_
    show own_Go p e below KK s₁ (mkF m 88 #[oR q1, oI (w0 &&& (255 : Int32)), oN i1, oI 1, .val .null, oU, oU] [(.int (Int32.ofNat i1)), (.int 1)])
    refine own_at (fun t k => XS.iadd X0.here hx rfl (hb hby d_prog_18_4_88) rfl k) ?_
    show own_Go p e below KK s₁ (mkF m 89 #[oR q1, oI (w0 &&& (255 : Int32)), oN i1, oI 1, .val .null, oU, oU] [(.int ((1 : Int32) + (Int32.ofNat i1)))])
    rw [show ((1 : Int32) + (Int32.ofNat i1)) = (Int32.ofNat (1 + i1)) from own_add 1 i1]
    show own_Go p e below KK s₁ (mkF m 89 #[oR q1, oI (w0 &&& (255 : Int32)), oN i1, oI 1, .val .null, oU, oU] [(.int (Int32.ofNat (1 + i1)))])
    refine own_at (fun t k => XS.istoreN X0.here hx rfl (hb hby d_prog_18_4_89) rfl (l' := #[oR q1, oI (w0 &&& (255 : Int32)), oN i1, oN (1 + i1), .val .null, oU, oU]) rfl k) ?_
    show own_Go p e below KK s₁ (mkF m 90 #[oR q1, oI (w0 &&& (255 : Int32)), oN i1, oN (1 + i1), .val .null, oU, oU] [])
    refine own_at (fun t k => XS.aconstNull X0.here hx rfl (hb hby d_prog_18_4_90) k) ?_
    show own_Go p e below KK s₁ (mkF m 91 #[oR q1, oI (w0 &&& (255 : Int32)), oN i1, oN (1 + i1), .val .null, oU, oU] [.null])
    refine own_at (fun t k => XS.astore X0.here hx rfl (hb hby d_prog_18_4_91) rfl rfl (l' := #[oR q1, oI (w0 &&& (255 : Int32)), oN i1, oN (1 + i1), .val .null, .val .null, oU]) rfl k) ?_
    show own_Go p e below KK s₁ (mkF m 93 #[oR q1, oI (w0 &&& (255 : Int32)), oN i1, oN (1 + i1), .val .null, .val .null, oU] [])
    refine own_at (fun t k => XS.iloadN X0.here hx rfl (hb hby d_prog_18_4_93) rfl k) ?_
    show own_Go p e below KK s₁ (mkF m 94 #[oR q1, oI (w0 &&& (255 : Int32)), oN i1, oN (1 + i1), .val .null, .val .null, oU] [(.int (w0 &&& (255 : Int32)))])
    refine own_at (fun t k => XS.bipush X0.here hx rfl (hb hby d_prog_18_4_94) k) ?_
    show own_Go p e below KK s₁ (mkF m 96 #[oR q1, oI (w0 &&& (255 : Int32)), oN i1, oN (1 + i1), .val .null, .val .null, oU] [(.int 16), (.int (w0 &&& (255 : Int32)))])
    refine own_at (fun t k => XS.iand X0.here hx rfl (hb hby d_prog_18_4_96) rfl k) ?_
    show own_Go p e below KK s₁ (mkF m 97 #[oR q1, oI (w0 &&& (255 : Int32)), oN i1, oN (1 + i1), .val .null, .val .null, oU] [(.int ((w0 &&& (255 : Int32)) &&& (16 : Int32)))])
    have hc97 : ((w0 &&& (255 : Int32)) &&& (16 : Int32)) = (0 : Int32) := hfl.2.2.2.1.mpr rfl
    refine own_at (fun t k => XS.ifYes X0.here hx rfl (pc0 := 97) (pc' := 137) rfl (hb hby d_prog_18_4_97) rfl (Jvm.Free.XT.i0_eq_t hc97) (by decide) (by decide) k) ?_
    show own_Go p e below KK s₁ (mkF m 137 #[oR q1, oI (w0 &&& (255 : Int32)), oN i1, oN (1 + i1), .val .null, .val .null, oU] [])
    refine own_at (fun t k => XS.iloadN X0.here hx rfl (hb hby d_prog_18_4_137) rfl k) ?_
    show own_Go p e below KK s₁ (mkF m 138 #[oR q1, oI (w0 &&& (255 : Int32)), oN i1, oN (1 + i1), .val .null, .val .null, oU] [(.int (w0 &&& (255 : Int32)))])
    refine own_at (fun t k => XS.bipush X0.here hx rfl (hb hby d_prog_18_4_138) k) ?_
    show own_Go p e below KK s₁ (mkF m 140 #[oR q1, oI (w0 &&& (255 : Int32)), oN i1, oN (1 + i1), .val .null, .val .null, oU] [(.int 8), (.int (w0 &&& (255 : Int32)))])
    refine own_at (fun t k => XS.iand X0.here hx rfl (hb hby d_prog_18_4_140) rfl k) ?_
    show own_Go p e below KK s₁ (mkF m 141 #[oR q1, oI (w0 &&& (255 : Int32)), oN i1, oN (1 + i1), .val .null, .val .null, oU] [(.int ((w0 &&& (255 : Int32)) &&& (8 : Int32)))])
    have hc141 : ((w0 &&& (255 : Int32)) &&& (8 : Int32)) = (0 : Int32) := hfl.2.2.2.2.mpr rfl
    refine own_at (fun t k => XS.ifNo X0.here hx rfl (hb hby d_prog_18_4_141) rfl (Jvm.Free.XT.i0_ne_f hc141) k) ?_
    show own_Go p e below KK s₁ (mkF m 144 #[oR q1, oI (w0 &&& (255 : Int32)), oN i1, oN (1 + i1), .val .null, .val .null, oU] [])
    refine own_at (fun t k => XS.aconstNull X0.here hx rfl (hb hby d_prog_18_4_144) k) ?_
    show own_Go p e below KK s₁ (mkF m 145 #[oR q1, oI (w0 &&& (255 : Int32)), oN i1, oN (1 + i1), .val .null, .val .null, oU] [.null])
    refine own_at (fun t k => XS.goto X0.here hx rfl (pc0 := 145) (pc' := 155) rfl (hb hby d_prog_18_4_145) (by decide) (by decide) k) ?_
    show own_Go p e below KK s₁ (mkF m 155 #[oR q1, oI (w0 &&& (255 : Int32)), oN i1, oN (1 + i1), .val .null, .val .null, oU] [.null])
    refine own_at (fun t k => XS.astore X0.here hx rfl (hb hby d_prog_18_4_155) rfl rfl (l' := #[oR q1, oI (w0 &&& (255 : Int32)), oN i1, oN (1 + i1), .val .null, .val .null, .val .null]) rfl k) ?_
    show own_Go p e below KK s₁ (mkF m 157 #[oR q1, oI (w0 &&& (255 : Int32)), oN i1, oN (1 + i1), .val .null, .val .null, .val .null] [])
    refine own_at (fun t k => XS.aload X0.here hx rfl (hb hby d_prog_18_4_157) rfl rfl k) ?_
    show own_Go p e below KK s₁ (mkF m 159 #[oR q1, oI (w0 &&& (255 : Int32)), oN i1, oN (1 + i1), .val .null, .val .null, .val .null] [.null])
    refine own_at (fun t k => XS.ifnonnullNo X0.here hx rfl (hb hby d_prog_18_4_159) rfl k) ?_
    show own_Go p e below KK s₁ (mkF m 162 #[oR q1, oI (w0 &&& (255 : Int32)), oN i1, oN (1 + i1), .val .null, .val .null, .val .null] [])
    refine own_at (fun t k => XS.iloadN X0.here hx rfl (hb hby d_prog_18_4_162) rfl k) ?_
    show own_Go p e below KK s₁ (mkF m 163 #[oR q1, oI (w0 &&& (255 : Int32)), oN i1, oN (1 + i1), .val .null, .val .null, .val .null] [(.int (Int32.ofNat (1 + i1)))])
    refine own_at (fun t k => XS.aloadN X0.here hx rfl (hb hby d_prog_18_4_163) rfl rfl k) ?_
    show own_Go p e below KK s₁ (mkF m 164 #[oR q1, oI (w0 &&& (255 : Int32)), oN i1, oN (1 + i1), .val .null, .val .null, .val .null] [(.ref q1), (.int (Int32.ofNat (1 + i1)))])
    refine own_at (fun t k => own_len X0 hx hZ e0 Aq (N := (Int32.ofNat us.length)) (by rw [List.length_map]) (g := (mkF m 164 #[oR q1, oI (w0 &&& (255 : Int32)), oN i1, oN (1 + i1), .val .null, .val .null, .val .null] [(.ref q1), (.int (Int32.ofNat (1 + i1)))])) rfl rfl (hb hby d_prog_18_4_164) t k) ?_
    show own_Go p e below KK s₁ (mkF m 165 #[oR q1, oI (w0 &&& (255 : Int32)), oN i1, oN (1 + i1), .val .null, .val .null, .val .null] [(.int (Int32.ofNat us.length)), (.int (Int32.ofNat (1 + i1)))])
    have hc165 : (Int32.ofNat (1 + i1)) = (Int32.ofNat us.length) := by rw [hat]
    refine own_at (fun t k => XS.icmpYes X0.here hx rfl (pc0 := 165) (pc' := 185) rfl (hb hby d_prog_18_4_165) rfl (Jvm.Free.XT.ii_eq_t hc165) (by decide) (by decide) k) ?_
    show own_Go p e below KK s₁ (mkF m 185 #[oR q1, oI (w0 &&& (255 : Int32)), oN i1, oN (1 + i1), .val .null, .val .null, .val .null] [])
    obtain ⟨T1, h1, X1, e1, E1, A1, D1, -, st1⟩ := newO X0 hx hZ hown (hw _ (List.mem_of_getElem? (i := 31) rfl)) (hw _ (List.mem_of_getElem? (i := 32) rfl)) (hw _ (List.mem_of_getElem? (i := 8) rfl)) e0 (g := (mkF m 185 #[oR q1, oI (w0 &&& (255 : Int32)), oN i1, oN (1 + i1), .val .null, .val .null, .val .null] [])) rfl (hb hby d_prog_18_4_185) (by decide) (by decide)
    obtain ⟨b1, g1⟩ : ∃ z, z = h0.size := ⟨_, rfl⟩
    rw [← g1] at A1 D1 st1
    have ne_q1_b1 : q1 ≠ b1 := by rw [g1]; exact Nat.ne_of_lt Aq.lt
    have g_b1 : n0 ≤ b1 := by rw [g1]; exact Z0
    have sz_b1 : h0.size ≤ b1 := by rw [g1]; exact Kp0.1
    have Aq_h1 : own_A Z h1 q1 "[B" .byte (us.map Value.int) := Aq.ext E1
    have Zs1 : n0 ≤ h1.size := Nat.le_trans Z0 E1.1
    have Kp1 : Keep h0 h1 [] := Kp0.ext E1
    have E2_b1 : Exa Z h1 b1 "com/example/isimud/isimud/oscore/OscoreOption" := A1
    have F3_b1 : Fld Z h1 b1 "com/example/isimud/isimud/oscore/OscoreOption" "partialIv" "[B" .null := D1 (Or.inr (hw _ (List.mem_of_getElem? (i := 40) rfl))) (ty := (.array .byte)) (by decide)
    have F4_b1 : Fld Z h1 b1 "com/example/isimud/isimud/oscore/OscoreOption" "kidContext" "[B" .null := D1 (Or.inr (hw _ (List.mem_of_getElem? (i := 42) rfl))) (ty := (.array .byte)) (by decide)
    have F5_b1 : Fld Z h1 b1 "com/example/isimud/isimud/oscore/OscoreOption" "kid" "[B" .null := D1 (Or.inr (hw _ (List.mem_of_getElem? (i := 44) rfl))) (ty := (.array .byte)) (by decide)
    refine own_of (fun t k => st1 t k) ?_
    show own_Go p e below KK T1 (mkF m 188 #[oR q1, oI (w0 &&& (255 : Int32)), oN i1, oN (1 + i1), .val .null, .val .null, .val .null] [(.ref b1)])
    refine own_at (fun t k => XS.dup X1.here hx rfl (hb hby d_prog_18_4_188) rfl rfl k) ?_
    show own_Go p e below KK T1 (mkF m 189 #[oR q1, oI (w0 &&& (255 : Int32)), oN i1, oN (1 + i1), .val .null, .val .null, .val .null] [(.ref b1), (.ref b1)])
    refine own_at (fun t k => XS.aload X1.here hx rfl (hb hby d_prog_18_4_189) rfl rfl k) ?_
    show own_Go p e below KK T1 (mkF m 191 #[oR q1, oI (w0 &&& (255 : Int32)), oN i1, oN (1 + i1), .val .null, .val .null, .val .null] [.null, (.ref b1), (.ref b1)])
    refine own_at (fun t k => XS.aload X1.here hx rfl (hb hby d_prog_18_4_191) rfl rfl k) ?_
    show own_Go p e below KK T1 (mkF m 193 #[oR q1, oI (w0 &&& (255 : Int32)), oN i1, oN (1 + i1), .val .null, .val .null, .val .null] [.null, .null, (.ref b1), (.ref b1)])
    refine own_at (fun t k => XS.aload X1.here hx rfl (hb hby d_prog_18_4_193) rfl rfl k) ?_
    show own_Go p e below KK T1 (mkF m 195 #[oR q1, oI (w0 &&& (255 : Int32)), oN i1, oN (1 + i1), .val .null, .val .null, .val .null] [.null, .null, .null, (.ref b1), (.ref b1)])
    obtain ⟨_, _, ⟨T6, L6, k6, n6⟩, -, X6, ⟨Lc6, hQ6, l6, y6, z6⟩, st6⟩ := X1.specialBack hx (y := (⟨"com/example/isimud/isimud/oscore/OscoreOption", "<init>", "([B[B[B)V"⟩ : MethodName)) rfl hown (mvT hZ (hw _ (List.mem_of_getElem? (i := 33) rfl))) (mvT hZ (hw _ (List.mem_of_getElem? (i := 34) rfl))) (mvT hZ (hw _ (List.mem_of_getElem? (i := 35) rfl))) (by decide) (backOf (W := 1) (rm_ctor l Z a0 hw [] b1 .null .null .null  h1 n0 Zs1 F3_b1 F4_b1 F5_b1 E2_b1 g_b1 rfl rfl rfl) hZ (hw _ (List.mem_of_getElem? (i := 35) rfl)) (hw _ (List.mem_of_getElem? (i := 8) rfl)) (by decide) (by decide)) (g := (mkF m 195 #[oR q1, oI (w0 &&& (255 : Int32)), oN i1, oN (1 + i1), .val .null, .val .null, .val .null] [.null, .null, .null, (.ref b1), (.ref b1)])) rfl (by rw [hml]; rfl) (Steps.refl _) (a := b1) (argsL := [.null, .null, .null]) (rest := [(.ref b1)]) (lenOf pd___B_B_B_V rfl) rfl (by show 2 * 0 + _ ≤ _; exact Nat.le_of_eq rfl) (hb hby d_prog_18_4_195) (fun _ _ => ⟨rfl, e1, (by decide : 1 + 0 ≤ _), (by decide : 3 + 0 ≤ _)⟩)
    dsimp only [Pt.U, Pt.locs, Pt.cells, Pt.slots] at X6 l6 y6 z6 st6 hQ6
    subst l6 y6 z6
    obtain ⟨rfl, N6q, K6, Ex6, Fx6, Fy6, Fz6⟩ := hQ6
    have Aq_h6 : own_A Z T6.heap q1 "[B" .byte (us.map Value.int) := Aq_h1.keep K6 (ninS ne_q1_b1 nin0)
    have Zs6 : n0 ≤ T6.heap.size := Nat.le_trans Zs1 K6.1
    have Kp6 : Keep h0 T6.heap [] := Kp1.trans K6 (allS (Or.inr sz_b1) all0)
    have E7_b1 : Exa Z T6.heap b1 "com/example/isimud/isimud/oscore/OscoreOption" := Ex6
    have F8_b1 : Fld Z T6.heap b1 "com/example/isimud/isimud/oscore/OscoreOption" "partialIv" "[B" .null := Fx6
    have F9_b1 : Fld Z T6.heap b1 "com/example/isimud/isimud/oscore/OscoreOption" "kidContext" "[B" .null := Fy6
    have F10_b1 : Fld Z T6.heap b1 "com/example/isimud/isimud/oscore/OscoreOption" "kid" "[B" .null := Fz6
    have N6 := Fr.app N0 N6q
    refine own_of (fun t k => st6.trans k) ?_
    show own_Go p e below KK T6 (mkF m 198 #[oR q1, oI (w0 &&& (255 : Int32)), oN i1, oN (1 + i1), .val .null, .val .null, .val .null] [(.ref b1)])
    subst hKK
    exact own_retA X6 hx hlk rfl Bd.returns rfl (hb hby d_prog_18_4_198) ⟨b1, .null, .null, .null, rfl, N6, Kp6, g_b1, sz_b1, E7_b1, F8_b1, F9_b1, F10_b1, own_Oz ((own_eq (b := 0) (by omega) (by omega)).mp hc71), rfl, rfl⟩ (Nat.le_of_ble_eq_true rfl) (Nat.le_of_ble_eq_true rfl)
  · refine own_at (fun t k => XS.ifYes X0.here hx rfl (pc0 := 71) (pc' := 78) rfl (hb hby d_prog_18_4_71) rfl (Jvm.Free.XT.i0_ne_t hc71) (by decide) (by decide) k) ?_
    show own_Go p e below KK s₁ (mkF m 78 #[oR q1, oI (w0 &&& (255 : Int32)), oN i1, oI 1, oU, oU, oU] [])
    refine own_at (fun t k => XS.aloadN X0.here hx rfl (hb hby d_prog_18_4_78) rfl rfl k) ?_
    show own_Go p e below KK s₁ (mkF m 79 #[oR q1, oI (w0 &&& (255 : Int32)), oN i1, oI 1, oU, oU, oU] [(.ref q1)])
    refine own_at (fun t k => XS.iloadN X0.here hx rfl (hb hby d_prog_18_4_79) rfl k) ?_
    show own_Go p e below KK s₁ (mkF m 80 #[oR q1, oI (w0 &&& (255 : Int32)), oN i1, oI 1, oU, oU, oU] [(.int 1), (.ref q1)])
    refine own_at (fun t k => XS.iloadN X0.here hx rfl (hb hby d_prog_18_4_80) rfl k) ?_
    show own_Go p e below KK s₁ (mkF m 81 #[oR q1, oI (w0 &&& (255 : Int32)), oN i1, oI 1, oU, oU, oU] [(.int (Int32.ofNat i1)), (.int 1), (.ref q1)])
    obtain ⟨_, _, ⟨T11, L11, k11, n11⟩, -, X11, ⟨Lc11, hQ11, l11, y11, z11⟩, st11⟩ := Jvm.LawKit.callS X0 hx (y := (⟨"com/example/isimud/isimud/oscore/OscoreOption", "part", "([BII)[B"⟩ : MethodName)) hown (mvT hZ (hw _ (List.mem_of_getElem? (i := 10) rfl))) (mvT hZ (hw _ (List.mem_of_getElem? (i := 11) rfl))) (mvT hZ (hw _ (List.mem_of_getElem? (i := 8) rfl))) (mvT hZ (hw _ (List.mem_of_getElem? (i := 12) rfl))) (by decide) (backOf (W := 0) (rm_part l Z a0 hw [] q1 1 i1 (us.map Value.int) h0 n0 Z0 Aq (by omega) (by rw [List.length_map]; omega) (by rw [List.length_map]; exact hl)) hZ (hw _ (List.mem_of_getElem? (i := 12) rfl)) (hw _ (List.mem_of_getElem? (i := 8) rfl)) (by decide) (by decide)) (g := (mkF m 81 #[oR q1, oI (w0 &&& (255 : Int32)), oN i1, oI 1, oU, oU, oU] [(.int (Int32.ofNat i1)), (.int 1), (.ref q1)])) rfl (by rw [hml]; rfl) (argsL := [(.ref q1), (.int 1), (.int (Int32.ofNat i1))]) (rest := []) (lenOf pd___BII__B rfl) rfl (by show 2 * 0 + _ ≤ _; exact Nat.le_of_eq rfl) (hb hby d_prog_18_4_81) (fun _ _ => ⟨rfl, e0, (by decide : 0 + 1 ≤ _), (by decide : 0 + 13 ≤ _)⟩)
    dsimp only [Pt.U, Pt.locs, Pt.cells, Pt.slots] at X11 l11 y11 z11 st11 hQ11
    subst l11 y11 z11
    obtain ⟨r11, rfl, N11q, K11, g_r11, s_r11, Aq11⟩ := hQ11
    have ne_q1_r11 : q1 ≠ r11 := Nat.ne_of_lt (Nat.lt_of_lt_of_le Aq.lt s_r11)
    have sz_r11 : h0.size ≤ r11 := Nat.le_trans Kp0.1 s_r11
    have Aq_h11 : own_A Z T11.heap q1 "[B" .byte (us.map Value.int) := Aq.keep K11 nin0
    have Zs11 : n0 ≤ T11.heap.size := Nat.le_trans Z0 K11.1
    have Kp11 : Keep h0 T11.heap [] := Kp0.trans K11 all0
    have A12_r11 : own_A Z T11.heap r11 "[B" .byte (((us.map Value.int).drop 1).take i1) := Aq11
    have N11 := Fr.app N0 N11q
    refine own_of (fun t k => st11 t k) ?_
    show own_Go p e below KK T11 (mkF m 84 #[oR q1, oI (w0 &&& (255 : Int32)), oN i1, oI 1, oU, oU, oU] [(.ref r11)])
    refine own_at (fun t k => XS.astore X11.here hx rfl (hb hby d_prog_18_4_84) rfl rfl (l' := #[oR q1, oI (w0 &&& (255 : Int32)), oN i1, oI 1, oR r11, oU, oU]) rfl k) ?_
    show own_Go p e below KK T11 (mkF m 86 #[oR q1, oI (w0 &&& (255 : Int32)), oN i1, oI 1, oR r11, oU, oU] [])
    refine own_at (fun t k => XS.iloadN X11.here hx rfl (hb hby d_prog_18_4_86) rfl k) ?_
    show own_Go p e below KK T11 (mkF m 87 #[oR q1, oI (w0 &&& (255 : Int32)), oN i1, oI 1, oR r11, oU, oU] [(.int 1)])
    refine own_at (fun t k => XS.iloadN X11.here hx rfl (hb hby d_prog_18_4_87) rfl k) ?_
    show own_Go p e below KK T11 (mkF m 88 #[oR q1, oI (w0 &&& (255 : Int32)), oN i1, oI 1, oR r11, oU, oU] [(.int (Int32.ofNat i1)), (.int 1)])
    refine own_at (fun t k => XS.iadd X11.here hx rfl (hb hby d_prog_18_4_88) rfl k) ?_
    show own_Go p e below KK T11 (mkF m 89 #[oR q1, oI (w0 &&& (255 : Int32)), oN i1, oI 1, oR r11, oU, oU] [(.int ((1 : Int32) + (Int32.ofNat i1)))])
    rw [show ((1 : Int32) + (Int32.ofNat i1)) = (Int32.ofNat (1 + i1)) from own_add 1 i1]
    show own_Go p e below KK T11 (mkF m 89 #[oR q1, oI (w0 &&& (255 : Int32)), oN i1, oI 1, oR r11, oU, oU] [(.int (Int32.ofNat (1 + i1)))])
    refine own_at (fun t k => XS.istoreN X11.here hx rfl (hb hby d_prog_18_4_89) rfl (l' := #[oR q1, oI (w0 &&& (255 : Int32)), oN i1, oN (1 + i1), oR r11, oU, oU]) rfl k) ?_
    show own_Go p e below KK T11 (mkF m 90 #[oR q1, oI (w0 &&& (255 : Int32)), oN i1, oN (1 + i1), oR r11, oU, oU] [])
    refine own_at (fun t k => XS.aconstNull X11.here hx rfl (hb hby d_prog_18_4_90) k) ?_
    show own_Go p e below KK T11 (mkF m 91 #[oR q1, oI (w0 &&& (255 : Int32)), oN i1, oN (1 + i1), oR r11, oU, oU] [.null])
    refine own_at (fun t k => XS.astore X11.here hx rfl (hb hby d_prog_18_4_91) rfl rfl (l' := #[oR q1, oI (w0 &&& (255 : Int32)), oN i1, oN (1 + i1), oR r11, .val .null, oU]) rfl k) ?_
    show own_Go p e below KK T11 (mkF m 93 #[oR q1, oI (w0 &&& (255 : Int32)), oN i1, oN (1 + i1), oR r11, .val .null, oU] [])
    refine own_at (fun t k => XS.iloadN X11.here hx rfl (hb hby d_prog_18_4_93) rfl k) ?_
    show own_Go p e below KK T11 (mkF m 94 #[oR q1, oI (w0 &&& (255 : Int32)), oN i1, oN (1 + i1), oR r11, .val .null, oU] [(.int (w0 &&& (255 : Int32)))])
    refine own_at (fun t k => XS.bipush X11.here hx rfl (hb hby d_prog_18_4_94) k) ?_
    show own_Go p e below KK T11 (mkF m 96 #[oR q1, oI (w0 &&& (255 : Int32)), oN i1, oN (1 + i1), oR r11, .val .null, oU] [(.int 16), (.int (w0 &&& (255 : Int32)))])
    refine own_at (fun t k => XS.iand X11.here hx rfl (hb hby d_prog_18_4_96) rfl k) ?_
    show own_Go p e below KK T11 (mkF m 97 #[oR q1, oI (w0 &&& (255 : Int32)), oN i1, oN (1 + i1), oR r11, .val .null, oU] [(.int ((w0 &&& (255 : Int32)) &&& (16 : Int32)))])
    have hc97 : ((w0 &&& (255 : Int32)) &&& (16 : Int32)) = (0 : Int32) := hfl.2.2.2.1.mpr rfl
    refine own_at (fun t k => XS.ifYes X11.here hx rfl (pc0 := 97) (pc' := 137) rfl (hb hby d_prog_18_4_97) rfl (Jvm.Free.XT.i0_eq_t hc97) (by decide) (by decide) k) ?_
    show own_Go p e below KK T11 (mkF m 137 #[oR q1, oI (w0 &&& (255 : Int32)), oN i1, oN (1 + i1), oR r11, .val .null, oU] [])
    refine own_at (fun t k => XS.iloadN X11.here hx rfl (hb hby d_prog_18_4_137) rfl k) ?_
    show own_Go p e below KK T11 (mkF m 138 #[oR q1, oI (w0 &&& (255 : Int32)), oN i1, oN (1 + i1), oR r11, .val .null, oU] [(.int (w0 &&& (255 : Int32)))])
    refine own_at (fun t k => XS.bipush X11.here hx rfl (hb hby d_prog_18_4_138) k) ?_
    show own_Go p e below KK T11 (mkF m 140 #[oR q1, oI (w0 &&& (255 : Int32)), oN i1, oN (1 + i1), oR r11, .val .null, oU] [(.int 8), (.int (w0 &&& (255 : Int32)))])
    refine own_at (fun t k => XS.iand X11.here hx rfl (hb hby d_prog_18_4_140) rfl k) ?_
    show own_Go p e below KK T11 (mkF m 141 #[oR q1, oI (w0 &&& (255 : Int32)), oN i1, oN (1 + i1), oR r11, .val .null, oU] [(.int ((w0 &&& (255 : Int32)) &&& (8 : Int32)))])
    have hc141 : ((w0 &&& (255 : Int32)) &&& (8 : Int32)) = (0 : Int32) := hfl.2.2.2.2.mpr rfl
    refine own_at (fun t k => XS.ifNo X11.here hx rfl (hb hby d_prog_18_4_141) rfl (Jvm.Free.XT.i0_ne_f hc141) k) ?_
    show own_Go p e below KK T11 (mkF m 144 #[oR q1, oI (w0 &&& (255 : Int32)), oN i1, oN (1 + i1), oR r11, .val .null, oU] [])
    refine own_at (fun t k => XS.aconstNull X11.here hx rfl (hb hby d_prog_18_4_144) k) ?_
    show own_Go p e below KK T11 (mkF m 145 #[oR q1, oI (w0 &&& (255 : Int32)), oN i1, oN (1 + i1), oR r11, .val .null, oU] [.null])
    refine own_at (fun t k => XS.goto X11.here hx rfl (pc0 := 145) (pc' := 155) rfl (hb hby d_prog_18_4_145) (by decide) (by decide) k) ?_
    show own_Go p e below KK T11 (mkF m 155 #[oR q1, oI (w0 &&& (255 : Int32)), oN i1, oN (1 + i1), oR r11, .val .null, oU] [.null])
    refine own_at (fun t k => XS.astore X11.here hx rfl (hb hby d_prog_18_4_155) rfl rfl (l' := #[oR q1, oI (w0 &&& (255 : Int32)), oN i1, oN (1 + i1), oR r11, .val .null, .val .null]) rfl k) ?_
    show own_Go p e below KK T11 (mkF m 157 #[oR q1, oI (w0 &&& (255 : Int32)), oN i1, oN (1 + i1), oR r11, .val .null, .val .null] [])
    refine own_at (fun t k => XS.aload X11.here hx rfl (hb hby d_prog_18_4_157) rfl rfl k) ?_
    show own_Go p e below KK T11 (mkF m 159 #[oR q1, oI (w0 &&& (255 : Int32)), oN i1, oN (1 + i1), oR r11, .val .null, .val .null] [.null])
    refine own_at (fun t k => XS.ifnonnullNo X11.here hx rfl (hb hby d_prog_18_4_159) rfl k) ?_
    show own_Go p e below KK T11 (mkF m 162 #[oR q1, oI (w0 &&& (255 : Int32)), oN i1, oN (1 + i1), oR r11, .val .null, .val .null] [])
    refine own_at (fun t k => XS.iloadN X11.here hx rfl (hb hby d_prog_18_4_162) rfl k) ?_
    show own_Go p e below KK T11 (mkF m 163 #[oR q1, oI (w0 &&& (255 : Int32)), oN i1, oN (1 + i1), oR r11, .val .null, .val .null] [(.int (Int32.ofNat (1 + i1)))])
    refine own_at (fun t k => XS.aloadN X11.here hx rfl (hb hby d_prog_18_4_163) rfl rfl k) ?_
    show own_Go p e below KK T11 (mkF m 164 #[oR q1, oI (w0 &&& (255 : Int32)), oN i1, oN (1 + i1), oR r11, .val .null, .val .null] [(.ref q1), (.int (Int32.ofNat (1 + i1)))])
    refine own_at (fun t k => own_len X11 hx hZ rfl Aq_h11 (N := (Int32.ofNat us.length)) (by rw [List.length_map]) (g := (mkF m 164 #[oR q1, oI (w0 &&& (255 : Int32)), oN i1, oN (1 + i1), oR r11, .val .null, .val .null] [(.ref q1), (.int (Int32.ofNat (1 + i1)))])) rfl rfl (hb hby d_prog_18_4_164) t k) ?_
    show own_Go p e below KK T11 (mkF m 165 #[oR q1, oI (w0 &&& (255 : Int32)), oN i1, oN (1 + i1), oR r11, .val .null, .val .null] [(.int (Int32.ofNat us.length)), (.int (Int32.ofNat (1 + i1)))])
    have hc165 : (Int32.ofNat (1 + i1)) = (Int32.ofNat us.length) := by rw [hat]
    refine own_at (fun t k => XS.icmpYes X11.here hx rfl (pc0 := 165) (pc' := 185) rfl (hb hby d_prog_18_4_165) rfl (Jvm.Free.XT.ii_eq_t hc165) (by decide) (by decide) k) ?_
    show own_Go p e below KK T11 (mkF m 185 #[oR q1, oI (w0 &&& (255 : Int32)), oN i1, oN (1 + i1), oR r11, .val .null, .val .null] [])
    obtain ⟨T13, h13, X13, e13, E13, A13, D13, -, st13⟩ := newO X11 hx hZ hown (hw _ (List.mem_of_getElem? (i := 31) rfl)) (hw _ (List.mem_of_getElem? (i := 32) rfl)) (hw _ (List.mem_of_getElem? (i := 8) rfl)) rfl (g := (mkF m 185 #[oR q1, oI (w0 &&& (255 : Int32)), oN i1, oN (1 + i1), oR r11, .val .null, .val .null] [])) rfl (hb hby d_prog_18_4_185) (by decide) (by decide)
    obtain ⟨b13, g13⟩ : ∃ z, z = T11.heap.size := ⟨_, rfl⟩
    rw [← g13] at A13 D13 st13
    have ne_q1_b13 : q1 ≠ b13 := by rw [g13]; exact Nat.ne_of_lt Aq_h11.lt
    have ne_r11_b13 : r11 ≠ b13 := by rw [g13]; exact Nat.ne_of_lt A12_r11.lt
    have g_b13 : n0 ≤ b13 := by rw [g13]; exact Zs11
    have sz_b13 : h0.size ≤ b13 := by rw [g13]; exact Kp11.1
    have Aq_h13 : own_A Z h13 q1 "[B" .byte (us.map Value.int) := Aq_h11.ext E13
    have A12_r11_h13 : own_A Z h13 r11 "[B" .byte (((us.map Value.int).drop 1).take i1) := A12_r11.ext E13
    have Zs13 : n0 ≤ h13.size := Nat.le_trans Zs11 E13.1
    have Kp13 : Keep h0 h13 [] := Kp11.ext E13
    have E14_b13 : Exa Z h13 b13 "com/example/isimud/isimud/oscore/OscoreOption" := A13
    have F15_b13 : Fld Z h13 b13 "com/example/isimud/isimud/oscore/OscoreOption" "partialIv" "[B" .null := D13 (Or.inr (hw _ (List.mem_of_getElem? (i := 40) rfl))) (ty := (.array .byte)) (by decide)
    have F16_b13 : Fld Z h13 b13 "com/example/isimud/isimud/oscore/OscoreOption" "kidContext" "[B" .null := D13 (Or.inr (hw _ (List.mem_of_getElem? (i := 42) rfl))) (ty := (.array .byte)) (by decide)
    have F17_b13 : Fld Z h13 b13 "com/example/isimud/isimud/oscore/OscoreOption" "kid" "[B" .null := D13 (Or.inr (hw _ (List.mem_of_getElem? (i := 44) rfl))) (ty := (.array .byte)) (by decide)
    refine own_of (fun t k => st13 t k) ?_
    show own_Go p e below KK T13 (mkF m 188 #[oR q1, oI (w0 &&& (255 : Int32)), oN i1, oN (1 + i1), oR r11, .val .null, .val .null] [(.ref b13)])
    refine own_at (fun t k => XS.dup X13.here hx rfl (hb hby d_prog_18_4_188) rfl rfl k) ?_
    show own_Go p e below KK T13 (mkF m 189 #[oR q1, oI (w0 &&& (255 : Int32)), oN i1, oN (1 + i1), oR r11, .val .null, .val .null] [(.ref b13), (.ref b13)])
    refine own_at (fun t k => XS.aload X13.here hx rfl (hb hby d_prog_18_4_189) rfl rfl k) ?_
    show own_Go p e below KK T13 (mkF m 191 #[oR q1, oI (w0 &&& (255 : Int32)), oN i1, oN (1 + i1), oR r11, .val .null, .val .null] [(.ref r11), (.ref b13), (.ref b13)])
    refine own_at (fun t k => XS.aload X13.here hx rfl (hb hby d_prog_18_4_191) rfl rfl k) ?_
    show own_Go p e below KK T13 (mkF m 193 #[oR q1, oI (w0 &&& (255 : Int32)), oN i1, oN (1 + i1), oR r11, .val .null, .val .null] [.null, (.ref r11), (.ref b13), (.ref b13)])
    refine own_at (fun t k => XS.aload X13.here hx rfl (hb hby d_prog_18_4_193) rfl rfl k) ?_
    show own_Go p e below KK T13 (mkF m 195 #[oR q1, oI (w0 &&& (255 : Int32)), oN i1, oN (1 + i1), oR r11, .val .null, .val .null] [.null, .null, (.ref r11), (.ref b13), (.ref b13)])
    obtain ⟨_, _, ⟨T18, L18, k18, n18⟩, -, X18, ⟨Lc18, hQ18, l18, y18, z18⟩, st18⟩ := X13.specialBack hx (y := (⟨"com/example/isimud/isimud/oscore/OscoreOption", "<init>", "([B[B[B)V"⟩ : MethodName)) rfl hown (mvT hZ (hw _ (List.mem_of_getElem? (i := 33) rfl))) (mvT hZ (hw _ (List.mem_of_getElem? (i := 34) rfl))) (mvT hZ (hw _ (List.mem_of_getElem? (i := 35) rfl))) (by decide) (backOf (W := 1) (rm_ctor l Z a0 hw [] b13 (.ref r11) .null .null  h13 n0 Zs13 F15_b13 F16_b13 F17_b13 E14_b13 g_b13 rfl rfl rfl) hZ (hw _ (List.mem_of_getElem? (i := 35) rfl)) (hw _ (List.mem_of_getElem? (i := 8) rfl)) (by decide) (by decide)) (g := (mkF m 195 #[oR q1, oI (w0 &&& (255 : Int32)), oN i1, oN (1 + i1), oR r11, .val .null, .val .null] [.null, .null, (.ref r11), (.ref b13), (.ref b13)])) rfl (by rw [hml]; rfl) (Steps.refl _) (a := b13) (argsL := [(.ref r11), .null, .null]) (rest := [(.ref b13)]) (lenOf pd___B_B_B_V rfl) rfl (by show 2 * 0 + _ ≤ _; exact Nat.le_of_eq rfl) (hb hby d_prog_18_4_195) (fun _ _ => ⟨rfl, e13, (by decide : 2 + 0 ≤ _), (by decide : 16 + 0 ≤ _)⟩)
    dsimp only [Pt.U, Pt.locs, Pt.cells, Pt.slots] at X18 l18 y18 z18 st18 hQ18
    subst l18 y18 z18
    obtain ⟨rfl, N18q, K18, Ex18, Fx18, Fy18, Fz18⟩ := hQ18
    have Aq_h18 : own_A Z T18.heap q1 "[B" .byte (us.map Value.int) := Aq_h13.keep K18 (ninS ne_q1_b13 nin0)
    have A12_r11_h18 : own_A Z T18.heap r11 "[B" .byte (((us.map Value.int).drop 1).take i1) := A12_r11_h13.keep K18 (ninS ne_r11_b13 nin0)
    have Zs18 : n0 ≤ T18.heap.size := Nat.le_trans Zs13 K18.1
    have Kp18 : Keep h0 T18.heap [] := Kp13.trans K18 (allS (Or.inr sz_b13) all0)
    have E19_b13 : Exa Z T18.heap b13 "com/example/isimud/isimud/oscore/OscoreOption" := Ex18
    have F20_b13 : Fld Z T18.heap b13 "com/example/isimud/isimud/oscore/OscoreOption" "partialIv" "[B" (.ref r11) := Fx18
    have F21_b13 : Fld Z T18.heap b13 "com/example/isimud/isimud/oscore/OscoreOption" "kidContext" "[B" .null := Fy18
    have F22_b13 : Fld Z T18.heap b13 "com/example/isimud/isimud/oscore/OscoreOption" "kid" "[B" .null := Fz18
    have N18 := Fr.app N11 N18q
    refine own_of (fun t k => st18.trans k) ?_
    show own_Go p e below KK T18 (mkF m 198 #[oR q1, oI (w0 &&& (255 : Int32)), oN i1, oN (1 + i1), oR r11, .val .null, .val .null] [(.ref b13)])
    subst hKK
    exact own_retA X18 hx hlk rfl Bd.returns rfl (hb hby d_prog_18_4_198) ⟨b13, (.ref r11), .null, .null, rfl, N18, Kp18, g_b13, sz_b13, E19_b13, F20_b13, F21_b13, F22_b13, own_Os (fun q => hc71 (by rw [q]; rfl)) A12_r11_h18, rfl, rfl⟩ (Nat.le_of_ble_eq_true rfl) (Nat.le_of_ble_eq_true rfl)
theorem d_prog_18_4_148 : decode prog_18_method_4_code 148 = .ok (.aload_n 0, 1) := by decide +kernel
theorem d_prog_18_4_149 : decode prog_18_method_4_code 149 = .ok (.iload_n 3, 1) := by decide +kernel
theorem d_prog_18_4_150 : decode prog_18_method_4_code 150 = .ok (.aload_n 0, 1) := by decide +kernel
theorem d_prog_18_4_151 : decode prog_18_method_4_code 151 = .ok (.arraylength, 1) := by decide +kernel
theorem d_prog_18_4_152 : decode prog_18_method_4_code 152 = .ok (.invokestatic 58, 3) := by decide +kernel
set_option maxRecDepth 65536 in
set_option maxHeartbeats 40000000 in
theorem rm_read01 (l : Launch) (Z : State) (a0 : Array Value) (hw : ∀ d ∈ tables_1, d.before a0 Z = true) (ws : List Jvm.Cond) (q1 : Addr) (us : List Int32) (i1 : Nat) (w0 : Int32) (h0 : Heap) (n0 : Nat) (Z0 : n0 ≤ h0.size) (Aq : own_A Z h0 q1 "[B" .byte (us.map Value.int)) (hw0 : us[0]? = some w0) (hfl : own_flag w0 i1 false true) (hi1 : i1 ≤ 5) (hl : us.length ≤ 13) (hat : (1 + i1) ≤ us.length) :
    MetFree l (⟨"com/example/isimud/isimud/oscore/OscoreOption", "read", "([B)Lcom/example/isimud/isimud/oscore/OscoreOption;"⟩ : MethodName) (head1 (Jvm.Cond.code (⟨"com/example/isimud/isimud/oscore/OscoreOption", "read", "([B)Lcom/example/isimud/isimud/oscore/OscoreOption;"⟩ : MethodName) prog_18_method_4_code 7 (some (.object "com/example/isimud/isimud/oscore/OscoreOption")) :: ws) ({ frames := 4, cells := 4, slots := 42, locals := 84 } : Room)) (fun a U => a = #[(.ref q1)] ∧ Z.Warmed39 U.vm ∧ U.heap = h0) (fun _ _ _ _ _ => True) (fun _ U o U' => ∃ v L, o = .returned v ∧ own_Qrd Z (if i1 = 0 then none else some (((us.map Value.int).drop 1).take i1)) none (some (((us.map Value.int).drop (1 + i1)).take (us.length - (1 + i1)))) h0 n0 v U'.heap L ∧ FrameEnd U o U' L ({ frames := 4, cells := 4, slots := 42, locals := 84 } : Room).cells ({ frames := 4, cells := 4, slots := 42, locals := 84 } : Room).slots) := by
  refine MetFree.of_bodySF (plainFor_of_name pn_com_example_isimud_isimud_oscore_OscoreOption) hisR ?_
  intro p e s m args below meth c s₁ Bd hml0 hP hK
  obtain ⟨rfl, hZ, hh⟩ := hP
  have hx := Bd.exec
  have hby := Bd.bytes
  have hlk : meth.locks = false := BodyLoose.notSynchronized Bd
  have hml : c.maxLocals = 7 := hml0
  have hown : s.vm.findClass "com/example/isimud/isimud/oscore/OscoreOption" = some m.cls := findClass_of_methodNamed Bd.named
  have hnm := (name_of_methodNamed Bd.named Bd.method).1
  have X0 : Stand p l e ({ frames := 4, cells := 4, slots := 42, locals := 84 } : Room) s m #[(.ref q1)] below meth c s₁ [] 0 0 := Stand.of_body Bd
  have e0 : s₁.heap = h0 := by rw [← hh, Bd.state]; rfl
  have N0 := Fr.nil n0
  refine own_cast (K := own_K s (own_Qrd Z (if i1 = 0 then none else some (((us.map Value.int).drop 1).take i1)) none (some (((us.map Value.int).drop (1 + i1)).take (us.length - (1 + i1)))) h0 n0) 4 42) (ef_prog_18_4 m q1) ?_
  generalize hKK : own_K s (own_Qrd Z (if i1 = 0 then none else some (((us.map Value.int).drop 1).take i1)) none (some (((us.map Value.int).drop (1 + i1)).take (us.length - (1 + i1)))) h0 n0) 4 42 = KK
  show own_Go p e below KK s₁ (mkF m 0 #[oR q1, oU, oU, oU, oU, oU, oU] [])
  have Kp0 : Keep h0 h0 [] := Keep.refl _ _
  refine own_at (fun t k => XS.aloadN X0.here hx rfl (hb hby d_prog_18_4_0) rfl rfl k) ?_
  show own_Go p e below KK s₁ (mkF m 1 #[oR q1, oU, oU, oU, oU, oU, oU] [(.ref q1)])
  refine own_at (fun t k => own_len X0 hx hZ e0 Aq (N := (Int32.ofNat us.length)) (by rw [List.length_map]) (g := (mkF m 1 #[oR q1, oU, oU, oU, oU, oU, oU] [(.ref q1)])) rfl rfl (hb hby d_prog_18_4_1) t k) ?_
  show own_Go p e below KK s₁ (mkF m 2 #[oR q1, oU, oU, oU, oU, oU, oU] [(.int (Int32.ofNat us.length))])
  have hc2 : ¬ ((Int32.ofNat us.length) = (0 : Int32)) := (fun q => absurd ((own_eq (b := 0) (by omega) (by omega)).mp q) (by omega))
  refine own_at (fun t k => XS.ifYes X0.here hx rfl (pc0 := 2) (pc' := 9) rfl (hb hby d_prog_18_4_2) rfl (Jvm.Free.XT.i0_ne_t hc2) (by decide) (by decide) k) ?_
  show own_Go p e below KK s₁ (mkF m 9 #[oR q1, oU, oU, oU, oU, oU, oU] [])
  refine own_at (fun t k => XS.aloadN X0.here hx rfl (hb hby d_prog_18_4_9) rfl rfl k) ?_
  show own_Go p e below KK s₁ (mkF m 10 #[oR q1, oU, oU, oU, oU, oU, oU] [(.ref q1)])
  refine own_at (fun t k => XS.iconst X0.here hx rfl (hb hby d_prog_18_4_10) k) ?_
  show own_Go p e below KK s₁ (mkF m 11 #[oR q1, oU, oU, oU, oU, oU, oU] [(.int 0), (.ref q1)])
  refine own_at (fun t k => own_ldB X0 hx hZ e0 Aq (j := (0 : Int32)) (i := 0) (v := (.int w0)) (by decide) (by decide) (own_mget hw0) (g := (mkF m 11 #[oR q1, oU, oU, oU, oU, oU, oU] [(.int 0), (.ref q1)])) rfl rfl (hb hby d_prog_18_4_11) t k) ?_
  show own_Go p e below KK s₁ (mkF m 12 #[oR q1, oU, oU, oU, oU, oU, oU] [(.int w0)])
  refine own_at (fun t k => XS.sipush X0.here hx rfl (hb hby d_prog_18_4_12) k) ?_
  show own_Go p e below KK s₁ (mkF m 15 #[oR q1, oU, oU, oU, oU, oU, oU] [(.int 255), (.int w0)])
  refine own_at (fun t k => XS.iand X0.here hx rfl (hb hby d_prog_18_4_15) rfl k) ?_
  show own_Go p e below KK s₁ (mkF m 16 #[oR q1, oU, oU, oU, oU, oU, oU] [(.int (w0 &&& (255 : Int32)))])
  refine own_at (fun t k => XS.istoreN X0.here hx rfl (hb hby d_prog_18_4_16) rfl (l' := #[oR q1, oI (w0 &&& (255 : Int32)), oU, oU, oU, oU, oU]) rfl k) ?_
  show own_Go p e below KK s₁ (mkF m 17 #[oR q1, oI (w0 &&& (255 : Int32)), oU, oU, oU, oU, oU] [])
  refine own_at (fun t k => XS.iloadN X0.here hx rfl (hb hby d_prog_18_4_17) rfl k) ?_
  show own_Go p e below KK s₁ (mkF m 18 #[oR q1, oI (w0 &&& (255 : Int32)), oU, oU, oU, oU, oU] [(.int (w0 &&& (255 : Int32)))])
  refine own_at (fun t k => XS.bipush X0.here hx rfl (hb hby d_prog_18_4_18) k) ?_
  show own_Go p e below KK s₁ (mkF m 20 #[oR q1, oI (w0 &&& (255 : Int32)), oU, oU, oU, oU, oU] [(.int 7), (.int (w0 &&& (255 : Int32)))])
  refine own_at (fun t k => XS.iand X0.here hx rfl (hb hby d_prog_18_4_20) rfl k) ?_
  show own_Go p e below KK s₁ (mkF m 21 #[oR q1, oI (w0 &&& (255 : Int32)), oU, oU, oU, oU, oU] [(.int ((w0 &&& (255 : Int32)) &&& (7 : Int32)))])
  rw [show ((w0 &&& (255 : Int32)) &&& (7 : Int32)) = (Int32.ofNat i1) from hfl.2.1]
  show own_Go p e below KK s₁ (mkF m 21 #[oR q1, oI (w0 &&& (255 : Int32)), oU, oU, oU, oU, oU] [(.int (Int32.ofNat i1))])
  refine own_at (fun t k => XS.istoreN X0.here hx rfl (hb hby d_prog_18_4_21) rfl (l' := #[oR q1, oI (w0 &&& (255 : Int32)), oN i1, oU, oU, oU, oU]) rfl k) ?_
  show own_Go p e below KK s₁ (mkF m 22 #[oR q1, oI (w0 &&& (255 : Int32)), oN i1, oU, oU, oU, oU] [])
  refine own_at (fun t k => XS.iloadN X0.here hx rfl (hb hby d_prog_18_4_22) rfl k) ?_
  show own_Go p e below KK s₁ (mkF m 23 #[oR q1, oI (w0 &&& (255 : Int32)), oN i1, oU, oU, oU, oU] [(.int (w0 &&& (255 : Int32)))])
  refine own_at (fun t k => XS.sipush X0.here hx rfl (hb hby d_prog_18_4_23) k) ?_
  show own_Go p e below KK s₁ (mkF m 26 #[oR q1, oI (w0 &&& (255 : Int32)), oN i1, oU, oU, oU, oU] [(.int 224), (.int (w0 &&& (255 : Int32)))])
  refine own_at (fun t k => XS.iand X0.here hx rfl (hb hby d_prog_18_4_26) rfl k) ?_
  show own_Go p e below KK s₁ (mkF m 27 #[oR q1, oI (w0 &&& (255 : Int32)), oN i1, oU, oU, oU, oU] [(.int ((w0 &&& (255 : Int32)) &&& (224 : Int32)))])
  have hc27 : ((w0 &&& (255 : Int32)) &&& (224 : Int32)) = (0 : Int32) := hfl.1
  refine own_at (fun t k => XS.ifNo X0.here hx rfl (hb hby d_prog_18_4_27) rfl (Jvm.Free.XT.i0_ne_f hc27) k) ?_
  show own_Go p e below KK s₁ (mkF m 30 #[oR q1, oI (w0 &&& (255 : Int32)), oN i1, oU, oU, oU, oU] [])
  refine own_at (fun t k => XS.iloadN X0.here hx rfl (hb hby d_prog_18_4_30) rfl k) ?_
  show own_Go p e below KK s₁ (mkF m 31 #[oR q1, oI (w0 &&& (255 : Int32)), oN i1, oU, oU, oU, oU] [(.int (Int32.ofNat i1))])
  refine own_at (fun t k => XS.iconst X0.here hx rfl (hb hby d_prog_18_4_31) k) ?_
  show own_Go p e below KK s₁ (mkF m 32 #[oR q1, oI (w0 &&& (255 : Int32)), oN i1, oU, oU, oU, oU] [(.int 5), (.int (Int32.ofNat i1))])
  have hc32 : ¬ ((5 : Int32) < (Int32.ofNat i1)) := (fun q => absurd ((own_lt (a := 5) (by omega) (by omega)).mp q) (by omega))
  refine own_at (fun t k => XS.icmpNo X0.here hx rfl (hb hby d_prog_18_4_32) rfl (Jvm.Free.XT.ii_gt_f hc32) k) ?_
  show own_Go p e below KK s₁ (mkF m 35 #[oR q1, oI (w0 &&& (255 : Int32)), oN i1, oU, oU, oU, oU] [])
  refine own_at (fun t k => XS.iloadN X0.here hx rfl (hb hby d_prog_18_4_35) rfl k) ?_
  show own_Go p e below KK s₁ (mkF m 36 #[oR q1, oI (w0 &&& (255 : Int32)), oN i1, oU, oU, oU, oU] [(.int (w0 &&& (255 : Int32)))])
  have hc36 : ¬ ((w0 &&& (255 : Int32)) = (0 : Int32)) := hfl.2.2.1
  refine own_at (fun t k => XS.ifYes X0.here hx rfl (pc0 := 36) (pc' := 68) rfl (hb hby d_prog_18_4_36) rfl (Jvm.Free.XT.i0_ne_t hc36) (by decide) (by decide) k) ?_
  show own_Go p e below KK s₁ (mkF m 68 #[oR q1, oI (w0 &&& (255 : Int32)), oN i1, oU, oU, oU, oU] [])
  refine own_at (fun t k => XS.iconst X0.here hx rfl (hb hby d_prog_18_4_68) k) ?_
  show own_Go p e below KK s₁ (mkF m 69 #[oR q1, oI (w0 &&& (255 : Int32)), oN i1, oU, oU, oU, oU] [(.int 1)])
  refine own_at (fun t k => XS.istoreN X0.here hx rfl (hb hby d_prog_18_4_69) rfl (l' := #[oR q1, oI (w0 &&& (255 : Int32)), oN i1, oI 1, oU, oU, oU]) rfl k) ?_
  show own_Go p e below KK s₁ (mkF m 70 #[oR q1, oI (w0 &&& (255 : Int32)), oN i1, oI 1, oU, oU, oU] [])
  refine own_at (fun t k => XS.iloadN X0.here hx rfl (hb hby d_prog_18_4_70) rfl k) ?_
  show own_Go p e below KK s₁ (mkF m 71 #[oR q1, oI (w0 &&& (255 : Int32)), oN i1, oI 1, oU, oU, oU] [(.int (Int32.ofNat i1))])
  by_cases hc71 : (Int32.ofNat i1) = (0 : Int32)
  · refine own_at (fun t k => XS.ifNo X0.here hx rfl (hb hby d_prog_18_4_71) rfl (Jvm.Free.XT.i0_ne_f hc71) k) ?_
    show own_Go p e below KK s₁ (mkF m 74 #[oR q1, oI (w0 &&& (255 : Int32)), oN i1, oI 1, oU, oU, oU] [])
    refine own_at (fun t k => XS.aconstNull X0.here hx rfl (hb hby d_prog_18_4_74) k) ?_
    show own_Go p e below KK s₁ (mkF m 75 #[oR q1, oI (w0 &&& (255 : Int32)), oN i1, oI 1, oU, oU, oU] [.null])
    refine own_at (fun t k => XS.goto X0.here hx rfl (pc0 := 75) (pc' := 84) rfl (hb hby d_prog_18_4_75) (by decide) (by decide) k) ?_
    show own_Go p e below KK s₁ (mkF m 84 #[oR q1, oI (w0 &&& (255 : Int32)), oN i1, oI 1, oU, oU, oU] [.null])
    refine own_at (fun t k => XS.astore X0.here hx rfl (hb hby d_prog_18_4_84) rfl rfl (l' := #[oR q1, oI (w0 &&& (255 : Int32)), oN i1, oI 1, .val .null, oU, oU]) rfl k) ?_
    show own_Go p e below KK s₁ (mkF m 86 #[oR q1, oI (w0 &&& (255 : Int32)), oN i1, oI 1, .val .null, oU, oU] [])
    refine own_at (fun t k => XS.iloadN X0.here hx rfl (hb hby d_prog_18_4_86) rfl k) ?_
    show own_Go p e below KK s₁ (mkF m 87 #[oR q1, oI (w0 &&& (255 : Int32)), oN i1, oI 1, .val .null, oU, oU] [(.int 1)])
    refine own_at (fun t k => XS.iloadN X0.here hx rfl (hb hby d_prog_18_4_87) rfl k) ?_
    show own_Go p e below KK s₁ (mkF m 88 #[oR q1, oI (w0 &&& (255 : Int32)), oN i1, oI 1, .val .null, oU, oU] [(.int (Int32.ofNat i1)), (.int 1)])
    refine own_at (fun t k => XS.iadd X0.here hx rfl (hb hby d_prog_18_4_88) rfl k) ?_
    show own_Go p e below KK s₁ (mkF m 89 #[oR q1, oI (w0 &&& (255 : Int32)), oN i1, oI 1, .val .null, oU, oU] [(.int ((1 : Int32) + (Int32.ofNat i1)))])
    rw [show ((1 : Int32) + (Int32.ofNat i1)) = (Int32.ofNat (1 + i1)) from own_add 1 i1]
    show own_Go p e below KK s₁ (mkF m 89 #[oR q1, oI (w0 &&& (255 : Int32)), oN i1, oI 1, .val .null, oU, oU] [(.int (Int32.ofNat (1 + i1)))])
    refine own_at (fun t k => XS.istoreN X0.here hx rfl (hb hby d_prog_18_4_89) rfl (l' := #[oR q1, oI (w0 &&& (255 : Int32)), oN i1, oN (1 + i1), .val .null, oU, oU]) rfl k) ?_
    show own_Go p e below KK s₁ (mkF m 90 #[oR q1, oI (w0 &&& (255 : Int32)), oN i1, oN (1 + i1), .val .null, oU, oU] [])
    refine own_at (fun t k => XS.aconstNull X0.here hx rfl (hb hby d_prog_18_4_90) k) ?_
    show own_Go p e below KK s₁ (mkF m 91 #[oR q1, oI (w0 &&& (255 : Int32)), oN i1, oN (1 + i1), .val .null, oU, oU] [.null])
    refine own_at (fun t k => XS.astore X0.here hx rfl (hb hby d_prog_18_4_91) rfl rfl (l' := #[oR q1, oI (w0 &&& (255 : Int32)), oN i1, oN (1 + i1), .val .null, .val .null, oU]) rfl k) ?_
    show own_Go p e below KK s₁ (mkF m 93 #[oR q1, oI (w0 &&& (255 : Int32)), oN i1, oN (1 + i1), .val .null, .val .null, oU] [])
    refine own_at (fun t k => XS.iloadN X0.here hx rfl (hb hby d_prog_18_4_93) rfl k) ?_
    show own_Go p e below KK s₁ (mkF m 94 #[oR q1, oI (w0 &&& (255 : Int32)), oN i1, oN (1 + i1), .val .null, .val .null, oU] [(.int (w0 &&& (255 : Int32)))])
    refine own_at (fun t k => XS.bipush X0.here hx rfl (hb hby d_prog_18_4_94) k) ?_
    show own_Go p e below KK s₁ (mkF m 96 #[oR q1, oI (w0 &&& (255 : Int32)), oN i1, oN (1 + i1), .val .null, .val .null, oU] [(.int 16), (.int (w0 &&& (255 : Int32)))])
    refine own_at (fun t k => XS.iand X0.here hx rfl (hb hby d_prog_18_4_96) rfl k) ?_
    show own_Go p e below KK s₁ (mkF m 97 #[oR q1, oI (w0 &&& (255 : Int32)), oN i1, oN (1 + i1), .val .null, .val .null, oU] [(.int ((w0 &&& (255 : Int32)) &&& (16 : Int32)))])
    have hc97 : ((w0 &&& (255 : Int32)) &&& (16 : Int32)) = (0 : Int32) := hfl.2.2.2.1.mpr rfl
    refine own_at (fun t k => XS.ifYes X0.here hx rfl (pc0 := 97) (pc' := 137) rfl (hb hby d_prog_18_4_97) rfl (Jvm.Free.XT.i0_eq_t hc97) (by decide) (by decide) k) ?_
    show own_Go p e below KK s₁ (mkF m 137 #[oR q1, oI (w0 &&& (255 : Int32)), oN i1, oN (1 + i1), .val .null, .val .null, oU] [])
    refine own_at (fun t k => XS.iloadN X0.here hx rfl (hb hby d_prog_18_4_137) rfl k) ?_
    show own_Go p e below KK s₁ (mkF m 138 #[oR q1, oI (w0 &&& (255 : Int32)), oN i1, oN (1 + i1), .val .null, .val .null, oU] [(.int (w0 &&& (255 : Int32)))])
    refine own_at (fun t k => XS.bipush X0.here hx rfl (hb hby d_prog_18_4_138) k) ?_
    show own_Go p e below KK s₁ (mkF m 140 #[oR q1, oI (w0 &&& (255 : Int32)), oN i1, oN (1 + i1), .val .null, .val .null, oU] [(.int 8), (.int (w0 &&& (255 : Int32)))])
    refine own_at (fun t k => XS.iand X0.here hx rfl (hb hby d_prog_18_4_140) rfl k) ?_
    show own_Go p e below KK s₁ (mkF m 141 #[oR q1, oI (w0 &&& (255 : Int32)), oN i1, oN (1 + i1), .val .null, .val .null, oU] [(.int ((w0 &&& (255 : Int32)) &&& (8 : Int32)))])
    have hc141 : ¬ (((w0 &&& (255 : Int32)) &&& (8 : Int32)) = (0 : Int32)) := (fun q => Bool.noConfusion (hfl.2.2.2.2.mp q))
    refine own_at (fun t k => XS.ifYes X0.here hx rfl (pc0 := 141) (pc' := 148) rfl (hb hby d_prog_18_4_141) rfl (Jvm.Free.XT.i0_ne_t hc141) (by decide) (by decide) k) ?_
    show own_Go p e below KK s₁ (mkF m 148 #[oR q1, oI (w0 &&& (255 : Int32)), oN i1, oN (1 + i1), .val .null, .val .null, oU] [])
    refine own_at (fun t k => XS.aloadN X0.here hx rfl (hb hby d_prog_18_4_148) rfl rfl k) ?_
    show own_Go p e below KK s₁ (mkF m 149 #[oR q1, oI (w0 &&& (255 : Int32)), oN i1, oN (1 + i1), .val .null, .val .null, oU] [(.ref q1)])
    refine own_at (fun t k => XS.iloadN X0.here hx rfl (hb hby d_prog_18_4_149) rfl k) ?_
    show own_Go p e below KK s₁ (mkF m 150 #[oR q1, oI (w0 &&& (255 : Int32)), oN i1, oN (1 + i1), .val .null, .val .null, oU] [(.int (Int32.ofNat (1 + i1))), (.ref q1)])
    refine own_at (fun t k => XS.aloadN X0.here hx rfl (hb hby d_prog_18_4_150) rfl rfl k) ?_
    show own_Go p e below KK s₁ (mkF m 151 #[oR q1, oI (w0 &&& (255 : Int32)), oN i1, oN (1 + i1), .val .null, .val .null, oU] [(.ref q1), (.int (Int32.ofNat (1 + i1))), (.ref q1)])
    refine own_at (fun t k => own_len X0 hx hZ e0 Aq (N := (Int32.ofNat us.length)) (by rw [List.length_map]) (g := (mkF m 151 #[oR q1, oI (w0 &&& (255 : Int32)), oN i1, oN (1 + i1), .val .null, .val .null, oU] [(.ref q1), (.int (Int32.ofNat (1 + i1))), (.ref q1)])) rfl rfl (hb hby d_prog_18_4_151) t k) ?_
    show own_Go p e below KK s₁ (mkF m 152 #[oR q1, oI (w0 &&& (255 : Int32)), oN i1, oN (1 + i1), .val .null, .val .null, oU] [(.int (Int32.ofNat us.length)), (.int (Int32.ofNat (1 + i1))), (.ref q1)])
    obtain ⟨_, _, ⟨T1, L1, k1, n1⟩, -, X1, ⟨Lc1, hQ1, l1, y1, z1⟩, st1⟩ := Jvm.LawKit.callS X0 hx (y := (⟨"java/util/Arrays", "copyOfRange", "([BII)[B"⟩ : MethodName)) hown (mvT hZ (hw _ (List.mem_of_getElem? (i := 13) rfl))) (mvT hZ (hw _ (List.mem_of_getElem? (i := 14) rfl))) (mvT hZ (hw _ (List.mem_of_getElem? (i := 15) rfl))) (mvT hZ (hw _ (List.mem_of_getElem? (i := 16) rfl))) (by decide) (backOf (W := 0) (rm_cor l Z a0 hw [] q1 (1 + i1) us.length (us.map Value.int) h0 n0 Z0 Aq (by omega) (by omega) (by rw [List.length_map]; exact Nat.le_refl _) (by rw [List.length_map]; exact hl)) hZ (hw _ (List.mem_of_getElem? (i := 16) rfl)) (hw _ (List.mem_of_getElem? (i := 15) rfl)) (by decide) (by decide)) (g := (mkF m 152 #[oR q1, oI (w0 &&& (255 : Int32)), oN i1, oN (1 + i1), .val .null, .val .null, oU] [(.int (Int32.ofNat us.length)), (.int (Int32.ofNat (1 + i1))), (.ref q1)])) rfl (by rw [hml]; rfl) (argsL := [(.ref q1), (.int (Int32.ofNat (1 + i1))), (.int (Int32.ofNat us.length))]) (rest := []) (lenOf pd___BII__B rfl) rfl (by show 2 * 0 + _ ≤ _; exact Nat.le_of_eq rfl) (hb hby d_prog_18_4_152) (fun _ _ => ⟨rfl, e0, (by decide : 0 + 1 ≤ _), (by decide : 0 + 13 ≤ _)⟩)
    dsimp only [Pt.U, Pt.locs, Pt.cells, Pt.slots] at X1 l1 y1 z1 st1 hQ1
    subst l1 y1 z1
    obtain ⟨r1, rfl, N1q, K1, g_r1, s_r1, Aq1⟩ := hQ1
    have ne_q1_r1 : q1 ≠ r1 := Nat.ne_of_lt (Nat.lt_of_lt_of_le Aq.lt s_r1)
    have sz_r1 : h0.size ≤ r1 := Nat.le_trans Kp0.1 s_r1
    have Aq_h1 : own_A Z T1.heap q1 "[B" .byte (us.map Value.int) := Aq.keep K1 nin0
    have Zs1 : n0 ≤ T1.heap.size := Nat.le_trans Z0 K1.1
    have Kp1 : Keep h0 T1.heap [] := Kp0.trans K1 all0
    have A2_r1 : own_A Z T1.heap r1 "[B" .byte (((us.map Value.int).drop (1 + i1)).take (us.length - (1 + i1))) := Aq1
    have N1 := Fr.app N0 N1q
    refine own_of (fun t k => st1 t k) ?_
    show own_Go p e below KK T1 (mkF m 155 #[oR q1, oI (w0 &&& (255 : Int32)), oN i1, oN (1 + i1), .val .null, .val .null, oU] [(.ref r1)])
    refine own_at (fun t k => XS.astore X1.here hx rfl (hb hby d_prog_18_4_155) rfl rfl (l' := #[oR q1, oI (w0 &&& (255 : Int32)), oN i1, oN (1 + i1), .val .null, .val .null, oR r1]) rfl k) ?_
    show own_Go p e below KK T1 (mkF m 157 #[oR q1, oI (w0 &&& (255 : Int32)), oN i1, oN (1 + i1), .val .null, .val .null, oR r1] [])
    refine own_at (fun t k => XS.aload X1.here hx rfl (hb hby d_prog_18_4_157) rfl rfl k) ?_
    show own_Go p e below KK T1 (mkF m 159 #[oR q1, oI (w0 &&& (255 : Int32)), oN i1, oN (1 + i1), .val .null, .val .null, oR r1] [(.ref r1)])
    refine own_at (fun t k => XS.ifnonnullYes X1.here hx rfl (pc0 := 159) (pc' := 185) rfl (hb hby d_prog_18_4_159) rfl (by decide) (by decide) k) ?_
    show own_Go p e below KK T1 (mkF m 185 #[oR q1, oI (w0 &&& (255 : Int32)), oN i1, oN (1 + i1), .val .null, .val .null, oR r1] [])
    obtain ⟨T3, h3, X3, e3, E3, A3, D3, -, st3⟩ := newO X1 hx hZ hown (hw _ (List.mem_of_getElem? (i := 31) rfl)) (hw _ (List.mem_of_getElem? (i := 32) rfl)) (hw _ (List.mem_of_getElem? (i := 8) rfl)) rfl (g := (mkF m 185 #[oR q1, oI (w0 &&& (255 : Int32)), oN i1, oN (1 + i1), .val .null, .val .null, oR r1] [])) rfl (hb hby d_prog_18_4_185) (by decide) (by decide)
    obtain ⟨b3, g3⟩ : ∃ z, z = T1.heap.size := ⟨_, rfl⟩
    rw [← g3] at A3 D3 st3
    have ne_q1_b3 : q1 ≠ b3 := by rw [g3]; exact Nat.ne_of_lt Aq_h1.lt
    have ne_r1_b3 : r1 ≠ b3 := by rw [g3]; exact Nat.ne_of_lt A2_r1.lt
    have g_b3 : n0 ≤ b3 := by rw [g3]; exact Zs1
    have sz_b3 : h0.size ≤ b3 := by rw [g3]; exact Kp1.1
    have Aq_h3 : own_A Z h3 q1 "[B" .byte (us.map Value.int) := Aq_h1.ext E3
    have A2_r1_h3 : own_A Z h3 r1 "[B" .byte (((us.map Value.int).drop (1 + i1)).take (us.length - (1 + i1))) := A2_r1.ext E3
    have Zs3 : n0 ≤ h3.size := Nat.le_trans Zs1 E3.1
    have Kp3 : Keep h0 h3 [] := Kp1.ext E3
    have E4_b3 : Exa Z h3 b3 "com/example/isimud/isimud/oscore/OscoreOption" := A3
    have F5_b3 : Fld Z h3 b3 "com/example/isimud/isimud/oscore/OscoreOption" "partialIv" "[B" .null := D3 (Or.inr (hw _ (List.mem_of_getElem? (i := 40) rfl))) (ty := (.array .byte)) (by decide)
    have F6_b3 : Fld Z h3 b3 "com/example/isimud/isimud/oscore/OscoreOption" "kidContext" "[B" .null := D3 (Or.inr (hw _ (List.mem_of_getElem? (i := 42) rfl))) (ty := (.array .byte)) (by decide)
    have F7_b3 : Fld Z h3 b3 "com/example/isimud/isimud/oscore/OscoreOption" "kid" "[B" .null := D3 (Or.inr (hw _ (List.mem_of_getElem? (i := 44) rfl))) (ty := (.array .byte)) (by decide)
    refine own_of (fun t k => st3 t k) ?_
    show own_Go p e below KK T3 (mkF m 188 #[oR q1, oI (w0 &&& (255 : Int32)), oN i1, oN (1 + i1), .val .null, .val .null, oR r1] [(.ref b3)])
    refine own_at (fun t k => XS.dup X3.here hx rfl (hb hby d_prog_18_4_188) rfl rfl k) ?_
    show own_Go p e below KK T3 (mkF m 189 #[oR q1, oI (w0 &&& (255 : Int32)), oN i1, oN (1 + i1), .val .null, .val .null, oR r1] [(.ref b3), (.ref b3)])
    refine own_at (fun t k => XS.aload X3.here hx rfl (hb hby d_prog_18_4_189) rfl rfl k) ?_
    show own_Go p e below KK T3 (mkF m 191 #[oR q1, oI (w0 &&& (255 : Int32)), oN i1, oN (1 + i1), .val .null, .val .null, oR r1] [.null, (.ref b3), (.ref b3)])
    refine own_at (fun t k => XS.aload X3.here hx rfl (hb hby d_prog_18_4_191) rfl rfl k) ?_
    show own_Go p e below KK T3 (mkF m 193 #[oR q1, oI (w0 &&& (255 : Int32)), oN i1, oN (1 + i1), .val .null, .val .null, oR r1] [.null, .null, (.ref b3), (.ref b3)])
    refine own_at (fun t k => XS.aload X3.here hx rfl (hb hby d_prog_18_4_193) rfl rfl k) ?_
    show own_Go p e below KK T3 (mkF m 195 #[oR q1, oI (w0 &&& (255 : Int32)), oN i1, oN (1 + i1), .val .null, .val .null, oR r1] [(.ref r1), .null, .null, (.ref b3), (.ref b3)])
    obtain ⟨_, _, ⟨T8, L8, k8, n8⟩, -, X8, ⟨Lc8, hQ8, l8, y8, z8⟩, st8⟩ := X3.specialBack hx (y := (⟨"com/example/isimud/isimud/oscore/OscoreOption", "<init>", "([B[B[B)V"⟩ : MethodName)) rfl hown (mvT hZ (hw _ (List.mem_of_getElem? (i := 33) rfl))) (mvT hZ (hw _ (List.mem_of_getElem? (i := 34) rfl))) (mvT hZ (hw _ (List.mem_of_getElem? (i := 35) rfl))) (by decide) (backOf (W := 1) (rm_ctor l Z a0 hw [] b3 .null .null (.ref r1)  h3 n0 Zs3 F5_b3 F6_b3 F7_b3 E4_b3 g_b3 rfl rfl rfl) hZ (hw _ (List.mem_of_getElem? (i := 35) rfl)) (hw _ (List.mem_of_getElem? (i := 8) rfl)) (by decide) (by decide)) (g := (mkF m 195 #[oR q1, oI (w0 &&& (255 : Int32)), oN i1, oN (1 + i1), .val .null, .val .null, oR r1] [(.ref r1), .null, .null, (.ref b3), (.ref b3)])) rfl (by rw [hml]; rfl) (Steps.refl _) (a := b3) (argsL := [.null, .null, (.ref r1)]) (rest := [(.ref b3)]) (lenOf pd___B_B_B_V rfl) rfl (by show 2 * 0 + _ ≤ _; exact Nat.le_of_eq rfl) (hb hby d_prog_18_4_195) (fun _ _ => ⟨rfl, e3, (by decide : 2 + 0 ≤ _), (by decide : 16 + 0 ≤ _)⟩)
    dsimp only [Pt.U, Pt.locs, Pt.cells, Pt.slots] at X8 l8 y8 z8 st8 hQ8
    subst l8 y8 z8
    obtain ⟨rfl, N8q, K8, Ex8, Fx8, Fy8, Fz8⟩ := hQ8
    have Aq_h8 : own_A Z T8.heap q1 "[B" .byte (us.map Value.int) := Aq_h3.keep K8 (ninS ne_q1_b3 nin0)
    have A2_r1_h8 : own_A Z T8.heap r1 "[B" .byte (((us.map Value.int).drop (1 + i1)).take (us.length - (1 + i1))) := A2_r1_h3.keep K8 (ninS ne_r1_b3 nin0)
    have Zs8 : n0 ≤ T8.heap.size := Nat.le_trans Zs3 K8.1
    have Kp8 : Keep h0 T8.heap [] := Kp3.trans K8 (allS (Or.inr sz_b3) all0)
    have E9_b3 : Exa Z T8.heap b3 "com/example/isimud/isimud/oscore/OscoreOption" := Ex8
    have F10_b3 : Fld Z T8.heap b3 "com/example/isimud/isimud/oscore/OscoreOption" "partialIv" "[B" .null := Fx8
    have F11_b3 : Fld Z T8.heap b3 "com/example/isimud/isimud/oscore/OscoreOption" "kidContext" "[B" .null := Fy8
    have F12_b3 : Fld Z T8.heap b3 "com/example/isimud/isimud/oscore/OscoreOption" "kid" "[B" (.ref r1) := Fz8
    have N8 := Fr.app N1 N8q
    refine own_of (fun t k => st8.trans k) ?_
    show own_Go p e below KK T8 (mkF m 198 #[oR q1, oI (w0 &&& (255 : Int32)), oN i1, oN (1 + i1), .val .null, .val .null, oR r1] [(.ref b3)])
    subst hKK
    exact own_retA X8 hx hlk rfl Bd.returns rfl (hb hby d_prog_18_4_198) ⟨b3, .null, .null, (.ref r1), rfl, N8, Kp8, g_b3, sz_b3, E9_b3, F10_b3, F11_b3, F12_b3, own_Oz ((own_eq (b := 0) (by omega) (by omega)).mp hc71), rfl, ⟨r1, rfl, A2_r1_h8⟩⟩ (Nat.le_of_ble_eq_true rfl) (Nat.le_of_ble_eq_true rfl)
  · refine own_at (fun t k => XS.ifYes X0.here hx rfl (pc0 := 71) (pc' := 78) rfl (hb hby d_prog_18_4_71) rfl (Jvm.Free.XT.i0_ne_t hc71) (by decide) (by decide) k) ?_
    show own_Go p e below KK s₁ (mkF m 78 #[oR q1, oI (w0 &&& (255 : Int32)), oN i1, oI 1, oU, oU, oU] [])
    refine own_at (fun t k => XS.aloadN X0.here hx rfl (hb hby d_prog_18_4_78) rfl rfl k) ?_
    show own_Go p e below KK s₁ (mkF m 79 #[oR q1, oI (w0 &&& (255 : Int32)), oN i1, oI 1, oU, oU, oU] [(.ref q1)])
    refine own_at (fun t k => XS.iloadN X0.here hx rfl (hb hby d_prog_18_4_79) rfl k) ?_
    show own_Go p e below KK s₁ (mkF m 80 #[oR q1, oI (w0 &&& (255 : Int32)), oN i1, oI 1, oU, oU, oU] [(.int 1), (.ref q1)])
    refine own_at (fun t k => XS.iloadN X0.here hx rfl (hb hby d_prog_18_4_80) rfl k) ?_
    show own_Go p e below KK s₁ (mkF m 81 #[oR q1, oI (w0 &&& (255 : Int32)), oN i1, oI 1, oU, oU, oU] [(.int (Int32.ofNat i1)), (.int 1), (.ref q1)])
    obtain ⟨_, _, ⟨T13, L13, k13, n13⟩, -, X13, ⟨Lc13, hQ13, l13, y13, z13⟩, st13⟩ := Jvm.LawKit.callS X0 hx (y := (⟨"com/example/isimud/isimud/oscore/OscoreOption", "part", "([BII)[B"⟩ : MethodName)) hown (mvT hZ (hw _ (List.mem_of_getElem? (i := 10) rfl))) (mvT hZ (hw _ (List.mem_of_getElem? (i := 11) rfl))) (mvT hZ (hw _ (List.mem_of_getElem? (i := 8) rfl))) (mvT hZ (hw _ (List.mem_of_getElem? (i := 12) rfl))) (by decide) (backOf (W := 0) (rm_part l Z a0 hw [] q1 1 i1 (us.map Value.int) h0 n0 Z0 Aq (by omega) (by rw [List.length_map]; omega) (by rw [List.length_map]; exact hl)) hZ (hw _ (List.mem_of_getElem? (i := 12) rfl)) (hw _ (List.mem_of_getElem? (i := 8) rfl)) (by decide) (by decide)) (g := (mkF m 81 #[oR q1, oI (w0 &&& (255 : Int32)), oN i1, oI 1, oU, oU, oU] [(.int (Int32.ofNat i1)), (.int 1), (.ref q1)])) rfl (by rw [hml]; rfl) (argsL := [(.ref q1), (.int 1), (.int (Int32.ofNat i1))]) (rest := []) (lenOf pd___BII__B rfl) rfl (by show 2 * 0 + _ ≤ _; exact Nat.le_of_eq rfl) (hb hby d_prog_18_4_81) (fun _ _ => ⟨rfl, e0, (by decide : 0 + 1 ≤ _), (by decide : 0 + 13 ≤ _)⟩)
    dsimp only [Pt.U, Pt.locs, Pt.cells, Pt.slots] at X13 l13 y13 z13 st13 hQ13
    subst l13 y13 z13
    obtain ⟨r13, rfl, N13q, K13, g_r13, s_r13, Aq13⟩ := hQ13
    have ne_q1_r13 : q1 ≠ r13 := Nat.ne_of_lt (Nat.lt_of_lt_of_le Aq.lt s_r13)
    have sz_r13 : h0.size ≤ r13 := Nat.le_trans Kp0.1 s_r13
    have Aq_h13 : own_A Z T13.heap q1 "[B" .byte (us.map Value.int) := Aq.keep K13 nin0
    have Zs13 : n0 ≤ T13.heap.size := Nat.le_trans Z0 K13.1
    have Kp13 : Keep h0 T13.heap [] := Kp0.trans K13 all0
    have A14_r13 : own_A Z T13.heap r13 "[B" .byte (((us.map Value.int).drop 1).take i1) := Aq13
    have N13 := Fr.app N0 N13q
    refine own_of (fun t k => st13 t k) ?_
    show own_Go p e below KK T13 (mkF m 84 #[oR q1, oI (w0 &&& (255 : Int32)), oN i1, oI 1, oU, oU, oU] [(.ref r13)])
    refine own_at (fun t k => XS.astore X13.here hx rfl (hb hby d_prog_18_4_84) rfl rfl (l' := #[oR q1, oI (w0 &&& (255 : Int32)), oN i1, oI 1, oR r13, oU, oU]) rfl k) ?_
    show own_Go p e below KK T13 (mkF m 86 #[oR q1, oI (w0 &&& (255 : Int32)), oN i1, oI 1, oR r13, oU, oU] [])
    refine own_at (fun t k => XS.iloadN X13.here hx rfl (hb hby d_prog_18_4_86) rfl k) ?_
    show own_Go p e below KK T13 (mkF m 87 #[oR q1, oI (w0 &&& (255 : Int32)), oN i1, oI 1, oR r13, oU, oU] [(.int 1)])
    refine own_at (fun t k => XS.iloadN X13.here hx rfl (hb hby d_prog_18_4_87) rfl k) ?_
    show own_Go p e below KK T13 (mkF m 88 #[oR q1, oI (w0 &&& (255 : Int32)), oN i1, oI 1, oR r13, oU, oU] [(.int (Int32.ofNat i1)), (.int 1)])
    refine own_at (fun t k => XS.iadd X13.here hx rfl (hb hby d_prog_18_4_88) rfl k) ?_
    show own_Go p e below KK T13 (mkF m 89 #[oR q1, oI (w0 &&& (255 : Int32)), oN i1, oI 1, oR r13, oU, oU] [(.int ((1 : Int32) + (Int32.ofNat i1)))])
    rw [show ((1 : Int32) + (Int32.ofNat i1)) = (Int32.ofNat (1 + i1)) from own_add 1 i1]
    show own_Go p e below KK T13 (mkF m 89 #[oR q1, oI (w0 &&& (255 : Int32)), oN i1, oI 1, oR r13, oU, oU] [(.int (Int32.ofNat (1 + i1)))])
    refine own_at (fun t k => XS.istoreN X13.here hx rfl (hb hby d_prog_18_4_89) rfl (l' := #[oR q1, oI (w0 &&& (255 : Int32)), oN i1, oN (1 + i1), oR r13, oU, oU]) rfl k) ?_
    show own_Go p e below KK T13 (mkF m 90 #[oR q1, oI (w0 &&& (255 : Int32)), oN i1, oN (1 + i1), oR r13, oU, oU] [])
    refine own_at (fun t k => XS.aconstNull X13.here hx rfl (hb hby d_prog_18_4_90) k) ?_
    show own_Go p e below KK T13 (mkF m 91 #[oR q1, oI (w0 &&& (255 : Int32)), oN i1, oN (1 + i1), oR r13, oU, oU] [.null])
    refine own_at (fun t k => XS.astore X13.here hx rfl (hb hby d_prog_18_4_91) rfl rfl (l' := #[oR q1, oI (w0 &&& (255 : Int32)), oN i1, oN (1 + i1), oR r13, .val .null, oU]) rfl k) ?_
    show own_Go p e below KK T13 (mkF m 93 #[oR q1, oI (w0 &&& (255 : Int32)), oN i1, oN (1 + i1), oR r13, .val .null, oU] [])
    refine own_at (fun t k => XS.iloadN X13.here hx rfl (hb hby d_prog_18_4_93) rfl k) ?_
    show own_Go p e below KK T13 (mkF m 94 #[oR q1, oI (w0 &&& (255 : Int32)), oN i1, oN (1 + i1), oR r13, .val .null, oU] [(.int (w0 &&& (255 : Int32)))])
    refine own_at (fun t k => XS.bipush X13.here hx rfl (hb hby d_prog_18_4_94) k) ?_
    show own_Go p e below KK T13 (mkF m 96 #[oR q1, oI (w0 &&& (255 : Int32)), oN i1, oN (1 + i1), oR r13, .val .null, oU] [(.int 16), (.int (w0 &&& (255 : Int32)))])
    refine own_at (fun t k => XS.iand X13.here hx rfl (hb hby d_prog_18_4_96) rfl k) ?_
    show own_Go p e below KK T13 (mkF m 97 #[oR q1, oI (w0 &&& (255 : Int32)), oN i1, oN (1 + i1), oR r13, .val .null, oU] [(.int ((w0 &&& (255 : Int32)) &&& (16 : Int32)))])
    have hc97 : ((w0 &&& (255 : Int32)) &&& (16 : Int32)) = (0 : Int32) := hfl.2.2.2.1.mpr rfl
    refine own_at (fun t k => XS.ifYes X13.here hx rfl (pc0 := 97) (pc' := 137) rfl (hb hby d_prog_18_4_97) rfl (Jvm.Free.XT.i0_eq_t hc97) (by decide) (by decide) k) ?_
    show own_Go p e below KK T13 (mkF m 137 #[oR q1, oI (w0 &&& (255 : Int32)), oN i1, oN (1 + i1), oR r13, .val .null, oU] [])
    refine own_at (fun t k => XS.iloadN X13.here hx rfl (hb hby d_prog_18_4_137) rfl k) ?_
    show own_Go p e below KK T13 (mkF m 138 #[oR q1, oI (w0 &&& (255 : Int32)), oN i1, oN (1 + i1), oR r13, .val .null, oU] [(.int (w0 &&& (255 : Int32)))])
    refine own_at (fun t k => XS.bipush X13.here hx rfl (hb hby d_prog_18_4_138) k) ?_
    show own_Go p e below KK T13 (mkF m 140 #[oR q1, oI (w0 &&& (255 : Int32)), oN i1, oN (1 + i1), oR r13, .val .null, oU] [(.int 8), (.int (w0 &&& (255 : Int32)))])
    refine own_at (fun t k => XS.iand X13.here hx rfl (hb hby d_prog_18_4_140) rfl k) ?_
    show own_Go p e below KK T13 (mkF m 141 #[oR q1, oI (w0 &&& (255 : Int32)), oN i1, oN (1 + i1), oR r13, .val .null, oU] [(.int ((w0 &&& (255 : Int32)) &&& (8 : Int32)))])
    have hc141 : ¬ (((w0 &&& (255 : Int32)) &&& (8 : Int32)) = (0 : Int32)) := (fun q => Bool.noConfusion (hfl.2.2.2.2.mp q))
    refine own_at (fun t k => XS.ifYes X13.here hx rfl (pc0 := 141) (pc' := 148) rfl (hb hby d_prog_18_4_141) rfl (Jvm.Free.XT.i0_ne_t hc141) (by decide) (by decide) k) ?_
    show own_Go p e below KK T13 (mkF m 148 #[oR q1, oI (w0 &&& (255 : Int32)), oN i1, oN (1 + i1), oR r13, .val .null, oU] [])
    refine own_at (fun t k => XS.aloadN X13.here hx rfl (hb hby d_prog_18_4_148) rfl rfl k) ?_
    show own_Go p e below KK T13 (mkF m 149 #[oR q1, oI (w0 &&& (255 : Int32)), oN i1, oN (1 + i1), oR r13, .val .null, oU] [(.ref q1)])
    refine own_at (fun t k => XS.iloadN X13.here hx rfl (hb hby d_prog_18_4_149) rfl k) ?_
    show own_Go p e below KK T13 (mkF m 150 #[oR q1, oI (w0 &&& (255 : Int32)), oN i1, oN (1 + i1), oR r13, .val .null, oU] [(.int (Int32.ofNat (1 + i1))), (.ref q1)])
    refine own_at (fun t k => XS.aloadN X13.here hx rfl (hb hby d_prog_18_4_150) rfl rfl k) ?_
    show own_Go p e below KK T13 (mkF m 151 #[oR q1, oI (w0 &&& (255 : Int32)), oN i1, oN (1 + i1), oR r13, .val .null, oU] [(.ref q1), (.int (Int32.ofNat (1 + i1))), (.ref q1)])
    refine own_at (fun t k => own_len X13 hx hZ rfl Aq_h13 (N := (Int32.ofNat us.length)) (by rw [List.length_map]) (g := (mkF m 151 #[oR q1, oI (w0 &&& (255 : Int32)), oN i1, oN (1 + i1), oR r13, .val .null, oU] [(.ref q1), (.int (Int32.ofNat (1 + i1))), (.ref q1)])) rfl rfl (hb hby d_prog_18_4_151) t k) ?_
    show own_Go p e below KK T13 (mkF m 152 #[oR q1, oI (w0 &&& (255 : Int32)), oN i1, oN (1 + i1), oR r13, .val .null, oU] [(.int (Int32.ofNat us.length)), (.int (Int32.ofNat (1 + i1))), (.ref q1)])
    obtain ⟨_, _, ⟨T15, L15, k15, n15⟩, -, X15, ⟨Lc15, hQ15, l15, y15, z15⟩, st15⟩ := Jvm.LawKit.callS X13 hx (y := (⟨"java/util/Arrays", "copyOfRange", "([BII)[B"⟩ : MethodName)) hown (mvT hZ (hw _ (List.mem_of_getElem? (i := 13) rfl))) (mvT hZ (hw _ (List.mem_of_getElem? (i := 14) rfl))) (mvT hZ (hw _ (List.mem_of_getElem? (i := 15) rfl))) (mvT hZ (hw _ (List.mem_of_getElem? (i := 16) rfl))) (by decide) (backOf (W := 0) (rm_cor l Z a0 hw [] q1 (1 + i1) us.length (us.map Value.int) T13.heap n0 Zs13 Aq_h13 (by omega) (by omega) (by rw [List.length_map]; exact Nat.le_refl _) (by rw [List.length_map]; exact hl)) hZ (hw _ (List.mem_of_getElem? (i := 16) rfl)) (hw _ (List.mem_of_getElem? (i := 15) rfl)) (by decide) (by decide)) (g := (mkF m 152 #[oR q1, oI (w0 &&& (255 : Int32)), oN i1, oN (1 + i1), oR r13, .val .null, oU] [(.int (Int32.ofNat us.length)), (.int (Int32.ofNat (1 + i1))), (.ref q1)])) rfl (by rw [hml]; rfl) (argsL := [(.ref q1), (.int (Int32.ofNat (1 + i1))), (.int (Int32.ofNat us.length))]) (rest := []) (lenOf pd___BII__B rfl) rfl (by show 2 * 0 + _ ≤ _; exact Nat.le_of_eq rfl) (hb hby d_prog_18_4_152) (fun _ _ => ⟨rfl, rfl, (by decide : 1 + 1 ≤ _), (by decide : 13 + 13 ≤ _)⟩)
    dsimp only [Pt.U, Pt.locs, Pt.cells, Pt.slots] at X15 l15 y15 z15 st15 hQ15
    subst l15 y15 z15
    obtain ⟨r15, rfl, N15q, K15, g_r15, s_r15, Aq15⟩ := hQ15
    have ne_q1_r15 : q1 ≠ r15 := Nat.ne_of_lt (Nat.lt_of_lt_of_le Aq_h13.lt s_r15)
    have ne_r13_r15 : r13 ≠ r15 := Nat.ne_of_lt (Nat.lt_of_lt_of_le A14_r13.lt s_r15)
    have sz_r15 : h0.size ≤ r15 := Nat.le_trans Kp13.1 s_r15
    have Aq_h15 : own_A Z T15.heap q1 "[B" .byte (us.map Value.int) := Aq_h13.keep K15 nin0
    have A14_r13_h15 : own_A Z T15.heap r13 "[B" .byte (((us.map Value.int).drop 1).take i1) := A14_r13.keep K15 nin0
    have Zs15 : n0 ≤ T15.heap.size := Nat.le_trans Zs13 K15.1
    have Kp15 : Keep h0 T15.heap [] := Kp13.trans K15 all0
    have A16_r15 : own_A Z T15.heap r15 "[B" .byte (((us.map Value.int).drop (1 + i1)).take (us.length - (1 + i1))) := Aq15
    have N15 := Fr.app N13 N15q
    refine own_of (fun t k => st15 t k) ?_
    show own_Go p e below KK T15 (mkF m 155 #[oR q1, oI (w0 &&& (255 : Int32)), oN i1, oN (1 + i1), oR r13, .val .null, oU] [(.ref r15)])
    refine own_at (fun t k => XS.astore X15.here hx rfl (hb hby d_prog_18_4_155) rfl rfl (l' := #[oR q1, oI (w0 &&& (255 : Int32)), oN i1, oN (1 + i1), oR r13, .val .null, oR r15]) rfl k) ?_
    show own_Go p e below KK T15 (mkF m 157 #[oR q1, oI (w0 &&& (255 : Int32)), oN i1, oN (1 + i1), oR r13, .val .null, oR r15] [])
    refine own_at (fun t k => XS.aload X15.here hx rfl (hb hby d_prog_18_4_157) rfl rfl k) ?_
    show own_Go p e below KK T15 (mkF m 159 #[oR q1, oI (w0 &&& (255 : Int32)), oN i1, oN (1 + i1), oR r13, .val .null, oR r15] [(.ref r15)])
    refine own_at (fun t k => XS.ifnonnullYes X15.here hx rfl (pc0 := 159) (pc' := 185) rfl (hb hby d_prog_18_4_159) rfl (by decide) (by decide) k) ?_
    show own_Go p e below KK T15 (mkF m 185 #[oR q1, oI (w0 &&& (255 : Int32)), oN i1, oN (1 + i1), oR r13, .val .null, oR r15] [])
    obtain ⟨T17, h17, X17, e17, E17, A17, D17, -, st17⟩ := newO X15 hx hZ hown (hw _ (List.mem_of_getElem? (i := 31) rfl)) (hw _ (List.mem_of_getElem? (i := 32) rfl)) (hw _ (List.mem_of_getElem? (i := 8) rfl)) rfl (g := (mkF m 185 #[oR q1, oI (w0 &&& (255 : Int32)), oN i1, oN (1 + i1), oR r13, .val .null, oR r15] [])) rfl (hb hby d_prog_18_4_185) (by decide) (by decide)
    obtain ⟨b17, g17⟩ : ∃ z, z = T15.heap.size := ⟨_, rfl⟩
    rw [← g17] at A17 D17 st17
    have ne_q1_b17 : q1 ≠ b17 := by rw [g17]; exact Nat.ne_of_lt Aq_h15.lt
    have ne_r13_b17 : r13 ≠ b17 := by rw [g17]; exact Nat.ne_of_lt A14_r13_h15.lt
    have ne_r15_b17 : r15 ≠ b17 := by rw [g17]; exact Nat.ne_of_lt A16_r15.lt
    have g_b17 : n0 ≤ b17 := by rw [g17]; exact Zs15
    have sz_b17 : h0.size ≤ b17 := by rw [g17]; exact Kp15.1
    have Aq_h17 : own_A Z h17 q1 "[B" .byte (us.map Value.int) := Aq_h15.ext E17
    have A14_r13_h17 : own_A Z h17 r13 "[B" .byte (((us.map Value.int).drop 1).take i1) := A14_r13_h15.ext E17
    have A16_r15_h17 : own_A Z h17 r15 "[B" .byte (((us.map Value.int).drop (1 + i1)).take (us.length - (1 + i1))) := A16_r15.ext E17
    have Zs17 : n0 ≤ h17.size := Nat.le_trans Zs15 E17.1
    have Kp17 : Keep h0 h17 [] := Kp15.ext E17
    have E18_b17 : Exa Z h17 b17 "com/example/isimud/isimud/oscore/OscoreOption" := A17
    have F19_b17 : Fld Z h17 b17 "com/example/isimud/isimud/oscore/OscoreOption" "partialIv" "[B" .null := D17 (Or.inr (hw _ (List.mem_of_getElem? (i := 40) rfl))) (ty := (.array .byte)) (by decide)
    have F20_b17 : Fld Z h17 b17 "com/example/isimud/isimud/oscore/OscoreOption" "kidContext" "[B" .null := D17 (Or.inr (hw _ (List.mem_of_getElem? (i := 42) rfl))) (ty := (.array .byte)) (by decide)
    have F21_b17 : Fld Z h17 b17 "com/example/isimud/isimud/oscore/OscoreOption" "kid" "[B" .null := D17 (Or.inr (hw _ (List.mem_of_getElem? (i := 44) rfl))) (ty := (.array .byte)) (by decide)
    refine own_of (fun t k => st17 t k) ?_
    show own_Go p e below KK T17 (mkF m 188 #[oR q1, oI (w0 &&& (255 : Int32)), oN i1, oN (1 + i1), oR r13, .val .null, oR r15] [(.ref b17)])
    refine own_at (fun t k => XS.dup X17.here hx rfl (hb hby d_prog_18_4_188) rfl rfl k) ?_
    show own_Go p e below KK T17 (mkF m 189 #[oR q1, oI (w0 &&& (255 : Int32)), oN i1, oN (1 + i1), oR r13, .val .null, oR r15] [(.ref b17), (.ref b17)])
    refine own_at (fun t k => XS.aload X17.here hx rfl (hb hby d_prog_18_4_189) rfl rfl k) ?_
    show own_Go p e below KK T17 (mkF m 191 #[oR q1, oI (w0 &&& (255 : Int32)), oN i1, oN (1 + i1), oR r13, .val .null, oR r15] [(.ref r13), (.ref b17), (.ref b17)])
    refine own_at (fun t k => XS.aload X17.here hx rfl (hb hby d_prog_18_4_191) rfl rfl k) ?_
    show own_Go p e below KK T17 (mkF m 193 #[oR q1, oI (w0 &&& (255 : Int32)), oN i1, oN (1 + i1), oR r13, .val .null, oR r15] [.null, (.ref r13), (.ref b17), (.ref b17)])
    refine own_at (fun t k => XS.aload X17.here hx rfl (hb hby d_prog_18_4_193) rfl rfl k) ?_
    show own_Go p e below KK T17 (mkF m 195 #[oR q1, oI (w0 &&& (255 : Int32)), oN i1, oN (1 + i1), oR r13, .val .null, oR r15] [(.ref r15), .null, (.ref r13), (.ref b17), (.ref b17)])
    obtain ⟨_, _, ⟨T22, L22, k22, n22⟩, -, X22, ⟨Lc22, hQ22, l22, y22, z22⟩, st22⟩ := X17.specialBack hx (y := (⟨"com/example/isimud/isimud/oscore/OscoreOption", "<init>", "([B[B[B)V"⟩ : MethodName)) rfl hown (mvT hZ (hw _ (List.mem_of_getElem? (i := 33) rfl))) (mvT hZ (hw _ (List.mem_of_getElem? (i := 34) rfl))) (mvT hZ (hw _ (List.mem_of_getElem? (i := 35) rfl))) (by decide) (backOf (W := 1) (rm_ctor l Z a0 hw [] b17 (.ref r13) .null (.ref r15)  h17 n0 Zs17 F19_b17 F20_b17 F21_b17 E18_b17 g_b17 rfl rfl rfl) hZ (hw _ (List.mem_of_getElem? (i := 35) rfl)) (hw _ (List.mem_of_getElem? (i := 8) rfl)) (by decide) (by decide)) (g := (mkF m 195 #[oR q1, oI (w0 &&& (255 : Int32)), oN i1, oN (1 + i1), oR r13, .val .null, oR r15] [(.ref r15), .null, (.ref r13), (.ref b17), (.ref b17)])) rfl (by rw [hml]; rfl) (Steps.refl _) (a := b17) (argsL := [(.ref r13), .null, (.ref r15)]) (rest := [(.ref b17)]) (lenOf pd___B_B_B_V rfl) rfl (by show 2 * 0 + _ ≤ _; exact Nat.le_of_eq rfl) (hb hby d_prog_18_4_195) (fun _ _ => ⟨rfl, e17, (by decide : 3 + 0 ≤ _), (by decide : 29 + 0 ≤ _)⟩)
    dsimp only [Pt.U, Pt.locs, Pt.cells, Pt.slots] at X22 l22 y22 z22 st22 hQ22
    subst l22 y22 z22
    obtain ⟨rfl, N22q, K22, Ex22, Fx22, Fy22, Fz22⟩ := hQ22
    have Aq_h22 : own_A Z T22.heap q1 "[B" .byte (us.map Value.int) := Aq_h17.keep K22 (ninS ne_q1_b17 nin0)
    have A14_r13_h22 : own_A Z T22.heap r13 "[B" .byte (((us.map Value.int).drop 1).take i1) := A14_r13_h17.keep K22 (ninS ne_r13_b17 nin0)
    have A16_r15_h22 : own_A Z T22.heap r15 "[B" .byte (((us.map Value.int).drop (1 + i1)).take (us.length - (1 + i1))) := A16_r15_h17.keep K22 (ninS ne_r15_b17 nin0)
    have Zs22 : n0 ≤ T22.heap.size := Nat.le_trans Zs17 K22.1
    have Kp22 : Keep h0 T22.heap [] := Kp17.trans K22 (allS (Or.inr sz_b17) all0)
    have E23_b17 : Exa Z T22.heap b17 "com/example/isimud/isimud/oscore/OscoreOption" := Ex22
    have F24_b17 : Fld Z T22.heap b17 "com/example/isimud/isimud/oscore/OscoreOption" "partialIv" "[B" (.ref r13) := Fx22
    have F25_b17 : Fld Z T22.heap b17 "com/example/isimud/isimud/oscore/OscoreOption" "kidContext" "[B" .null := Fy22
    have F26_b17 : Fld Z T22.heap b17 "com/example/isimud/isimud/oscore/OscoreOption" "kid" "[B" (.ref r15) := Fz22
    have N22 := Fr.app N15 N22q
    refine own_of (fun t k => st22.trans k) ?_
    show own_Go p e below KK T22 (mkF m 198 #[oR q1, oI (w0 &&& (255 : Int32)), oN i1, oN (1 + i1), oR r13, .val .null, oR r15] [(.ref b17)])
    subst hKK
    exact own_retA X22 hx hlk rfl Bd.returns rfl (hb hby d_prog_18_4_198) ⟨b17, (.ref r13), .null, (.ref r15), rfl, N22, Kp22, g_b17, sz_b17, E23_b17, F24_b17, F25_b17, F26_b17, own_Os (fun q => hc71 (by rw [q]; rfl)) A14_r13_h22, rfl, ⟨r15, rfl, A16_r15_h22⟩⟩ (Nat.le_of_ble_eq_true rfl) (Nat.le_of_ble_eq_true rfl)
theorem d_prog_18_4_100 : decode prog_18_method_4_code 100 = .ok (.iload_n 3, 1) := by decide +kernel
theorem d_prog_18_4_101 : decode prog_18_method_4_code 101 = .ok (.aload_n 0, 1) := by decide +kernel
theorem d_prog_18_4_102 : decode prog_18_method_4_code 102 = .ok (.arraylength, 1) := by decide +kernel
theorem d_prog_18_4_103 : decode prog_18_method_4_code 103 = .ok (.if_icmp .ge 13, 3) := by decide +kernel
theorem d_prog_18_4_106 : decode prog_18_method_4_code 106 = .ok (.aload_n 0, 1) := by decide +kernel
theorem d_prog_18_4_107 : decode prog_18_method_4_code 107 = .ok (.iload_n 3, 1) := by decide +kernel
theorem d_prog_18_4_108 : decode prog_18_method_4_code 108 = .ok (.baload, 1) := by decide +kernel
theorem d_prog_18_4_109 : decode prog_18_method_4_code 109 = .ok (.sipush 255, 3) := by decide +kernel
theorem d_prog_18_4_112 : decode prog_18_method_4_code 112 = .ok (.iand, 1) := by decide +kernel
theorem d_prog_18_4_113 : decode prog_18_method_4_code 113 = .ok (.goto 4, 3) := by decide +kernel
theorem d_prog_18_4_117 : decode prog_18_method_4_code 117 = .ok (.istore 6, 2) := by decide +kernel
theorem d_prog_18_4_119 : decode prog_18_method_4_code 119 = .ok (.aload_n 0, 1) := by decide +kernel
theorem d_prog_18_4_120 : decode prog_18_method_4_code 120 = .ok (.iload_n 3, 1) := by decide +kernel
theorem d_prog_18_4_121 : decode prog_18_method_4_code 121 = .ok (.iconst 1, 1) := by decide +kernel
theorem d_prog_18_4_122 : decode prog_18_method_4_code 122 = .ok (.iadd, 1) := by decide +kernel
theorem d_prog_18_4_123 : decode prog_18_method_4_code 123 = .ok (.iload 6, 2) := by decide +kernel
theorem d_prog_18_4_125 : decode prog_18_method_4_code 125 = .ok (.invokestatic 54, 3) := by decide +kernel
theorem d_prog_18_4_128 : decode prog_18_method_4_code 128 = .ok (.astore 5, 2) := by decide +kernel
theorem d_prog_18_4_130 : decode prog_18_method_4_code 130 = .ok (.iload_n 3, 1) := by decide +kernel
theorem d_prog_18_4_131 : decode prog_18_method_4_code 131 = .ok (.iconst 1, 1) := by decide +kernel
theorem d_prog_18_4_132 : decode prog_18_method_4_code 132 = .ok (.iload 6, 2) := by decide +kernel
theorem d_prog_18_4_134 : decode prog_18_method_4_code 134 = .ok (.iadd, 1) := by decide +kernel
theorem d_prog_18_4_135 : decode prog_18_method_4_code 135 = .ok (.iadd, 1) := by decide +kernel
theorem d_prog_18_4_136 : decode prog_18_method_4_code 136 = .ok (.istore_n 3, 1) := by decide +kernel
set_option maxRecDepth 65536 in
set_option maxHeartbeats 40000000 in
theorem rm_read10 (l : Launch) (Z : State) (a0 : Array Value) (hw : ∀ d ∈ tables_1, d.before a0 Z = true) (ws : List Jvm.Cond) (q1 : Addr) (us : List Int32) (i1 i2 : Nat) (w0 w1 : Int32) (h0 : Heap) (n0 : Nat) (Z0 : n0 ≤ h0.size) (Aq : own_A Z h0 q1 "[B" .byte (us.map Value.int)) (hw0 : us[0]? = some w0) (hfl : own_flag w0 i1 true false) (hi1 : i1 ≤ 5) (hl : us.length ≤ 13) (hw1 : us[1 + i1]? = some w1) (hw1b : (w1 &&& (255 : Int32)) = Int32.ofNat i2) (hi2 : i2 ≤ 3) (hat : ((1 + i1) + (1 + i2)) = us.length) :
    MetFree l (⟨"com/example/isimud/isimud/oscore/OscoreOption", "read", "([B)Lcom/example/isimud/isimud/oscore/OscoreOption;"⟩ : MethodName) (head1 (Jvm.Cond.code (⟨"com/example/isimud/isimud/oscore/OscoreOption", "read", "([B)Lcom/example/isimud/isimud/oscore/OscoreOption;"⟩ : MethodName) prog_18_method_4_code 7 (some (.object "com/example/isimud/isimud/oscore/OscoreOption")) :: ws) ({ frames := 4, cells := 4, slots := 42, locals := 84 } : Room)) (fun a U => a = #[(.ref q1)] ∧ Z.Warmed39 U.vm ∧ U.heap = h0) (fun _ _ _ _ _ => True) (fun _ U o U' => ∃ v L, o = .returned v ∧ own_Qrd Z (if i1 = 0 then none else some (((us.map Value.int).drop 1).take i1)) (some (((us.map Value.int).drop ((1 + i1) + 1)).take i2)) none h0 n0 v U'.heap L ∧ FrameEnd U o U' L ({ frames := 4, cells := 4, slots := 42, locals := 84 } : Room).cells ({ frames := 4, cells := 4, slots := 42, locals := 84 } : Room).slots) := by
  refine MetFree.of_bodySF (plainFor_of_name pn_com_example_isimud_isimud_oscore_OscoreOption) hisR ?_
  intro p e s m args below meth c s₁ Bd hml0 hP hK
  obtain ⟨rfl, hZ, hh⟩ := hP
  have hx := Bd.exec
  have hby := Bd.bytes
  have hlk : meth.locks = false := BodyLoose.notSynchronized Bd
  have hml : c.maxLocals = 7 := hml0
  have hown : s.vm.findClass "com/example/isimud/isimud/oscore/OscoreOption" = some m.cls := findClass_of_methodNamed Bd.named
  have hnm := (name_of_methodNamed Bd.named Bd.method).1
  have X0 : Stand p l e ({ frames := 4, cells := 4, slots := 42, locals := 84 } : Room) s m #[(.ref q1)] below meth c s₁ [] 0 0 := Stand.of_body Bd
  have e0 : s₁.heap = h0 := by rw [← hh, Bd.state]; rfl
  have N0 := Fr.nil n0
  refine own_cast (K := own_K s (own_Qrd Z (if i1 = 0 then none else some (((us.map Value.int).drop 1).take i1)) (some (((us.map Value.int).drop ((1 + i1) + 1)).take i2)) none h0 n0) 4 42) (ef_prog_18_4 m q1) ?_
  generalize hKK : own_K s (own_Qrd Z (if i1 = 0 then none else some (((us.map Value.int).drop 1).take i1)) (some (((us.map Value.int).drop ((1 + i1) + 1)).take i2)) none h0 n0) 4 42 = KK
  show own_Go p e below KK s₁ (mkF m 0 #[oR q1, oU, oU, oU, oU, oU, oU] [])
  have Kp0 : Keep h0 h0 [] := Keep.refl _ _
  refine own_at (fun t k => XS.aloadN X0.here hx rfl (hb hby d_prog_18_4_0) rfl rfl k) ?_
  show own_Go p e below KK s₁ (mkF m 1 #[oR q1, oU, oU, oU, oU, oU, oU] [(.ref q1)])
  refine own_at (fun t k => own_len X0 hx hZ e0 Aq (N := (Int32.ofNat us.length)) (by rw [List.length_map]) (g := (mkF m 1 #[oR q1, oU, oU, oU, oU, oU, oU] [(.ref q1)])) rfl rfl (hb hby d_prog_18_4_1) t k) ?_
  show own_Go p e below KK s₁ (mkF m 2 #[oR q1, oU, oU, oU, oU, oU, oU] [(.int (Int32.ofNat us.length))])
  have hc2 : ¬ ((Int32.ofNat us.length) = (0 : Int32)) := (fun q => absurd ((own_eq (b := 0) (by omega) (by omega)).mp q) (by omega))
  refine own_at (fun t k => XS.ifYes X0.here hx rfl (pc0 := 2) (pc' := 9) rfl (hb hby d_prog_18_4_2) rfl (Jvm.Free.XT.i0_ne_t hc2) (by decide) (by decide) k) ?_
  show own_Go p e below KK s₁ (mkF m 9 #[oR q1, oU, oU, oU, oU, oU, oU] [])
  refine own_at (fun t k => XS.aloadN X0.here hx rfl (hb hby d_prog_18_4_9) rfl rfl k) ?_
  show own_Go p e below KK s₁ (mkF m 10 #[oR q1, oU, oU, oU, oU, oU, oU] [(.ref q1)])
  refine own_at (fun t k => XS.iconst X0.here hx rfl (hb hby d_prog_18_4_10) k) ?_
  show own_Go p e below KK s₁ (mkF m 11 #[oR q1, oU, oU, oU, oU, oU, oU] [(.int 0), (.ref q1)])
  refine own_at (fun t k => own_ldB X0 hx hZ e0 Aq (j := (0 : Int32)) (i := 0) (v := (.int w0)) (by decide) (by decide) (own_mget hw0) (g := (mkF m 11 #[oR q1, oU, oU, oU, oU, oU, oU] [(.int 0), (.ref q1)])) rfl rfl (hb hby d_prog_18_4_11) t k) ?_
  show own_Go p e below KK s₁ (mkF m 12 #[oR q1, oU, oU, oU, oU, oU, oU] [(.int w0)])
  refine own_at (fun t k => XS.sipush X0.here hx rfl (hb hby d_prog_18_4_12) k) ?_
  show own_Go p e below KK s₁ (mkF m 15 #[oR q1, oU, oU, oU, oU, oU, oU] [(.int 255), (.int w0)])
  refine own_at (fun t k => XS.iand X0.here hx rfl (hb hby d_prog_18_4_15) rfl k) ?_
  show own_Go p e below KK s₁ (mkF m 16 #[oR q1, oU, oU, oU, oU, oU, oU] [(.int (w0 &&& (255 : Int32)))])
  refine own_at (fun t k => XS.istoreN X0.here hx rfl (hb hby d_prog_18_4_16) rfl (l' := #[oR q1, oI (w0 &&& (255 : Int32)), oU, oU, oU, oU, oU]) rfl k) ?_
  show own_Go p e below KK s₁ (mkF m 17 #[oR q1, oI (w0 &&& (255 : Int32)), oU, oU, oU, oU, oU] [])
  refine own_at (fun t k => XS.iloadN X0.here hx rfl (hb hby d_prog_18_4_17) rfl k) ?_
  show own_Go p e below KK s₁ (mkF m 18 #[oR q1, oI (w0 &&& (255 : Int32)), oU, oU, oU, oU, oU] [(.int (w0 &&& (255 : Int32)))])
  refine own_at (fun t k => XS.bipush X0.here hx rfl (hb hby d_prog_18_4_18) k) ?_
  show own_Go p e below KK s₁ (mkF m 20 #[oR q1, oI (w0 &&& (255 : Int32)), oU, oU, oU, oU, oU] [(.int 7), (.int (w0 &&& (255 : Int32)))])
  refine own_at (fun t k => XS.iand X0.here hx rfl (hb hby d_prog_18_4_20) rfl k) ?_
  show own_Go p e below KK s₁ (mkF m 21 #[oR q1, oI (w0 &&& (255 : Int32)), oU, oU, oU, oU, oU] [(.int ((w0 &&& (255 : Int32)) &&& (7 : Int32)))])
  rw [show ((w0 &&& (255 : Int32)) &&& (7 : Int32)) = (Int32.ofNat i1) from hfl.2.1]
  show own_Go p e below KK s₁ (mkF m 21 #[oR q1, oI (w0 &&& (255 : Int32)), oU, oU, oU, oU, oU] [(.int (Int32.ofNat i1))])
  refine own_at (fun t k => XS.istoreN X0.here hx rfl (hb hby d_prog_18_4_21) rfl (l' := #[oR q1, oI (w0 &&& (255 : Int32)), oN i1, oU, oU, oU, oU]) rfl k) ?_
  show own_Go p e below KK s₁ (mkF m 22 #[oR q1, oI (w0 &&& (255 : Int32)), oN i1, oU, oU, oU, oU] [])
  refine own_at (fun t k => XS.iloadN X0.here hx rfl (hb hby d_prog_18_4_22) rfl k) ?_
  show own_Go p e below KK s₁ (mkF m 23 #[oR q1, oI (w0 &&& (255 : Int32)), oN i1, oU, oU, oU, oU] [(.int (w0 &&& (255 : Int32)))])
  refine own_at (fun t k => XS.sipush X0.here hx rfl (hb hby d_prog_18_4_23) k) ?_
  show own_Go p e below KK s₁ (mkF m 26 #[oR q1, oI (w0 &&& (255 : Int32)), oN i1, oU, oU, oU, oU] [(.int 224), (.int (w0 &&& (255 : Int32)))])
  refine own_at (fun t k => XS.iand X0.here hx rfl (hb hby d_prog_18_4_26) rfl k) ?_
  show own_Go p e below KK s₁ (mkF m 27 #[oR q1, oI (w0 &&& (255 : Int32)), oN i1, oU, oU, oU, oU] [(.int ((w0 &&& (255 : Int32)) &&& (224 : Int32)))])
  have hc27 : ((w0 &&& (255 : Int32)) &&& (224 : Int32)) = (0 : Int32) := hfl.1
  refine own_at (fun t k => XS.ifNo X0.here hx rfl (hb hby d_prog_18_4_27) rfl (Jvm.Free.XT.i0_ne_f hc27) k) ?_
  show own_Go p e below KK s₁ (mkF m 30 #[oR q1, oI (w0 &&& (255 : Int32)), oN i1, oU, oU, oU, oU] [])
  refine own_at (fun t k => XS.iloadN X0.here hx rfl (hb hby d_prog_18_4_30) rfl k) ?_
  show own_Go p e below KK s₁ (mkF m 31 #[oR q1, oI (w0 &&& (255 : Int32)), oN i1, oU, oU, oU, oU] [(.int (Int32.ofNat i1))])
  refine own_at (fun t k => XS.iconst X0.here hx rfl (hb hby d_prog_18_4_31) k) ?_
  show own_Go p e below KK s₁ (mkF m 32 #[oR q1, oI (w0 &&& (255 : Int32)), oN i1, oU, oU, oU, oU] [(.int 5), (.int (Int32.ofNat i1))])
  have hc32 : ¬ ((5 : Int32) < (Int32.ofNat i1)) := (fun q => absurd ((own_lt (a := 5) (by omega) (by omega)).mp q) (by omega))
  refine own_at (fun t k => XS.icmpNo X0.here hx rfl (hb hby d_prog_18_4_32) rfl (Jvm.Free.XT.ii_gt_f hc32) k) ?_
  show own_Go p e below KK s₁ (mkF m 35 #[oR q1, oI (w0 &&& (255 : Int32)), oN i1, oU, oU, oU, oU] [])
  refine own_at (fun t k => XS.iloadN X0.here hx rfl (hb hby d_prog_18_4_35) rfl k) ?_
  show own_Go p e below KK s₁ (mkF m 36 #[oR q1, oI (w0 &&& (255 : Int32)), oN i1, oU, oU, oU, oU] [(.int (w0 &&& (255 : Int32)))])
  have hc36 : ¬ ((w0 &&& (255 : Int32)) = (0 : Int32)) := hfl.2.2.1
  refine own_at (fun t k => XS.ifYes X0.here hx rfl (pc0 := 36) (pc' := 68) rfl (hb hby d_prog_18_4_36) rfl (Jvm.Free.XT.i0_ne_t hc36) (by decide) (by decide) k) ?_
  show own_Go p e below KK s₁ (mkF m 68 #[oR q1, oI (w0 &&& (255 : Int32)), oN i1, oU, oU, oU, oU] [])
  refine own_at (fun t k => XS.iconst X0.here hx rfl (hb hby d_prog_18_4_68) k) ?_
  show own_Go p e below KK s₁ (mkF m 69 #[oR q1, oI (w0 &&& (255 : Int32)), oN i1, oU, oU, oU, oU] [(.int 1)])
  refine own_at (fun t k => XS.istoreN X0.here hx rfl (hb hby d_prog_18_4_69) rfl (l' := #[oR q1, oI (w0 &&& (255 : Int32)), oN i1, oI 1, oU, oU, oU]) rfl k) ?_
  show own_Go p e below KK s₁ (mkF m 70 #[oR q1, oI (w0 &&& (255 : Int32)), oN i1, oI 1, oU, oU, oU] [])
  refine own_at (fun t k => XS.iloadN X0.here hx rfl (hb hby d_prog_18_4_70) rfl k) ?_
  show own_Go p e below KK s₁ (mkF m 71 #[oR q1, oI (w0 &&& (255 : Int32)), oN i1, oI 1, oU, oU, oU] [(.int (Int32.ofNat i1))])
  by_cases hc71 : (Int32.ofNat i1) = (0 : Int32)
  · refine own_at (fun t k => XS.ifNo X0.here hx rfl (hb hby d_prog_18_4_71) rfl (Jvm.Free.XT.i0_ne_f hc71) k) ?_
    show own_Go p e below KK s₁ (mkF m 74 #[oR q1, oI (w0 &&& (255 : Int32)), oN i1, oI 1, oU, oU, oU] [])
    refine own_at (fun t k => XS.aconstNull X0.here hx rfl (hb hby d_prog_18_4_74) k) ?_
    show own_Go p e below KK s₁ (mkF m 75 #[oR q1, oI (w0 &&& (255 : Int32)), oN i1, oI 1, oU, oU, oU] [.null])
    refine own_at (fun t k => XS.goto X0.here hx rfl (pc0 := 75) (pc' := 84) rfl (hb hby d_prog_18_4_75) (by decide) (by decide) k) ?_
    show own_Go p e below KK s₁ (mkF m 84 #[oR q1, oI (w0 &&& (255 : Int32)), oN i1, oI 1, oU, oU, oU] [.null])
    refine own_at (fun t k => XS.astore X0.here hx rfl (hb hby d_prog_18_4_84) rfl rfl (l' := #[oR q1, oI (w0 &&& (255 : Int32)), oN i1, oI 1, .val .null, oU, oU]) rfl k) ?_
    show own_Go p e below KK s₁ (mkF m 86 #[oR q1, oI (w0 &&& (255 : Int32)), oN i1, oI 1, .val .null, oU, oU] [])
    refine own_at (fun t k => XS.iloadN X0.here hx rfl (hb hby d_prog_18_4_86) rfl k) ?_
    show own_Go p e below KK s₁ (mkF m 87 #[oR q1, oI (w0 &&& (255 : Int32)), oN i1, oI 1, .val .null, oU, oU] [(.int 1)])
    refine own_at (fun t k => XS.iloadN X0.here hx rfl (hb hby d_prog_18_4_87) rfl k) ?_
    show own_Go p e below KK s₁ (mkF m 88 #[oR q1, oI (w0 &&& (255 : Int32)), oN i1, oI 1, .val .null, oU, oU] [(.int (Int32.ofNat i1)), (.int 1)])
    refine own_at (fun t k => XS.iadd X0.here hx rfl (hb hby d_prog_18_4_88) rfl k) ?_
    show own_Go p e below KK s₁ (mkF m 89 #[oR q1, oI (w0 &&& (255 : Int32)), oN i1, oI 1, .val .null, oU, oU] [(.int ((1 : Int32) + (Int32.ofNat i1)))])
    rw [show ((1 : Int32) + (Int32.ofNat i1)) = (Int32.ofNat (1 + i1)) from own_add 1 i1]
    show own_Go p e below KK s₁ (mkF m 89 #[oR q1, oI (w0 &&& (255 : Int32)), oN i1, oI 1, .val .null, oU, oU] [(.int (Int32.ofNat (1 + i1)))])
    refine own_at (fun t k => XS.istoreN X0.here hx rfl (hb hby d_prog_18_4_89) rfl (l' := #[oR q1, oI (w0 &&& (255 : Int32)), oN i1, oN (1 + i1), .val .null, oU, oU]) rfl k) ?_
    show own_Go p e below KK s₁ (mkF m 90 #[oR q1, oI (w0 &&& (255 : Int32)), oN i1, oN (1 + i1), .val .null, oU, oU] [])
    refine own_at (fun t k => XS.aconstNull X0.here hx rfl (hb hby d_prog_18_4_90) k) ?_
    show own_Go p e below KK s₁ (mkF m 91 #[oR q1, oI (w0 &&& (255 : Int32)), oN i1, oN (1 + i1), .val .null, oU, oU] [.null])
    refine own_at (fun t k => XS.astore X0.here hx rfl (hb hby d_prog_18_4_91) rfl rfl (l' := #[oR q1, oI (w0 &&& (255 : Int32)), oN i1, oN (1 + i1), .val .null, .val .null, oU]) rfl k) ?_
    show own_Go p e below KK s₁ (mkF m 93 #[oR q1, oI (w0 &&& (255 : Int32)), oN i1, oN (1 + i1), .val .null, .val .null, oU] [])
    refine own_at (fun t k => XS.iloadN X0.here hx rfl (hb hby d_prog_18_4_93) rfl k) ?_
    show own_Go p e below KK s₁ (mkF m 94 #[oR q1, oI (w0 &&& (255 : Int32)), oN i1, oN (1 + i1), .val .null, .val .null, oU] [(.int (w0 &&& (255 : Int32)))])
    refine own_at (fun t k => XS.bipush X0.here hx rfl (hb hby d_prog_18_4_94) k) ?_
    show own_Go p e below KK s₁ (mkF m 96 #[oR q1, oI (w0 &&& (255 : Int32)), oN i1, oN (1 + i1), .val .null, .val .null, oU] [(.int 16), (.int (w0 &&& (255 : Int32)))])
    refine own_at (fun t k => XS.iand X0.here hx rfl (hb hby d_prog_18_4_96) rfl k) ?_
    show own_Go p e below KK s₁ (mkF m 97 #[oR q1, oI (w0 &&& (255 : Int32)), oN i1, oN (1 + i1), .val .null, .val .null, oU] [(.int ((w0 &&& (255 : Int32)) &&& (16 : Int32)))])
    have hc97 : ¬ (((w0 &&& (255 : Int32)) &&& (16 : Int32)) = (0 : Int32)) := (fun q => Bool.noConfusion (hfl.2.2.2.1.mp q))
    refine own_at (fun t k => XS.ifNo X0.here hx rfl (hb hby d_prog_18_4_97) rfl (Jvm.Free.XT.i0_eq_f hc97) k) ?_
    show own_Go p e below KK s₁ (mkF m 100 #[oR q1, oI (w0 &&& (255 : Int32)), oN i1, oN (1 + i1), .val .null, .val .null, oU] [])
    refine own_at (fun t k => XS.iloadN X0.here hx rfl (hb hby d_prog_18_4_100) rfl k) ?_
    show own_Go p e below KK s₁ (mkF m 101 #[oR q1, oI (w0 &&& (255 : Int32)), oN i1, oN (1 + i1), .val .null, .val .null, oU] [(.int (Int32.ofNat (1 + i1)))])
    refine own_at (fun t k => XS.aloadN X0.here hx rfl (hb hby d_prog_18_4_101) rfl rfl k) ?_
    show own_Go p e below KK s₁ (mkF m 102 #[oR q1, oI (w0 &&& (255 : Int32)), oN i1, oN (1 + i1), .val .null, .val .null, oU] [(.ref q1), (.int (Int32.ofNat (1 + i1)))])
    refine own_at (fun t k => own_len X0 hx hZ e0 Aq (N := (Int32.ofNat us.length)) (by rw [List.length_map]) (g := (mkF m 102 #[oR q1, oI (w0 &&& (255 : Int32)), oN i1, oN (1 + i1), .val .null, .val .null, oU] [(.ref q1), (.int (Int32.ofNat (1 + i1)))])) rfl rfl (hb hby d_prog_18_4_102) t k) ?_
    show own_Go p e below KK s₁ (mkF m 103 #[oR q1, oI (w0 &&& (255 : Int32)), oN i1, oN (1 + i1), .val .null, .val .null, oU] [(.int (Int32.ofNat us.length)), (.int (Int32.ofNat (1 + i1)))])
    have hc103 : (Int32.ofNat (1 + i1)) < (Int32.ofNat us.length) := (own_lt (by omega) (by omega)).mpr (by omega)
    refine own_at (fun t k => XS.icmpNo X0.here hx rfl (hb hby d_prog_18_4_103) rfl (Jvm.Free.XT.ii_ge_f hc103) k) ?_
    show own_Go p e below KK s₁ (mkF m 106 #[oR q1, oI (w0 &&& (255 : Int32)), oN i1, oN (1 + i1), .val .null, .val .null, oU] [])
    refine own_at (fun t k => XS.aloadN X0.here hx rfl (hb hby d_prog_18_4_106) rfl rfl k) ?_
    show own_Go p e below KK s₁ (mkF m 107 #[oR q1, oI (w0 &&& (255 : Int32)), oN i1, oN (1 + i1), .val .null, .val .null, oU] [(.ref q1)])
    refine own_at (fun t k => XS.iloadN X0.here hx rfl (hb hby d_prog_18_4_107) rfl k) ?_
    show own_Go p e below KK s₁ (mkF m 108 #[oR q1, oI (w0 &&& (255 : Int32)), oN i1, oN (1 + i1), .val .null, .val .null, oU] [(.int (Int32.ofNat (1 + i1))), (.ref q1)])
    refine own_at (fun t k => own_ldB X0 hx hZ e0 Aq (j := (Int32.ofNat (1 + i1))) (i := (1 + i1)) (v := (.int w1)) (own_ofNat (by omega)).2.1 (own_ofNat (by omega)).1 (own_mget hw1) (g := (mkF m 108 #[oR q1, oI (w0 &&& (255 : Int32)), oN i1, oN (1 + i1), .val .null, .val .null, oU] [(.int (Int32.ofNat (1 + i1))), (.ref q1)])) rfl rfl (hb hby d_prog_18_4_108) t k) ?_
    show own_Go p e below KK s₁ (mkF m 109 #[oR q1, oI (w0 &&& (255 : Int32)), oN i1, oN (1 + i1), .val .null, .val .null, oU] [(.int w1)])
    refine own_at (fun t k => XS.sipush X0.here hx rfl (hb hby d_prog_18_4_109) k) ?_
    show own_Go p e below KK s₁ (mkF m 112 #[oR q1, oI (w0 &&& (255 : Int32)), oN i1, oN (1 + i1), .val .null, .val .null, oU] [(.int 255), (.int w1)])
    refine own_at (fun t k => XS.iand X0.here hx rfl (hb hby d_prog_18_4_112) rfl k) ?_
    show own_Go p e below KK s₁ (mkF m 113 #[oR q1, oI (w0 &&& (255 : Int32)), oN i1, oN (1 + i1), .val .null, .val .null, oU] [(.int (w1 &&& (255 : Int32)))])
    rw [show (w1 &&& (255 : Int32)) = (Int32.ofNat i2) from hw1b]
    show own_Go p e below KK s₁ (mkF m 113 #[oR q1, oI (w0 &&& (255 : Int32)), oN i1, oN (1 + i1), .val .null, .val .null, oU] [(.int (Int32.ofNat i2))])
    refine own_at (fun t k => XS.goto X0.here hx rfl (pc0 := 113) (pc' := 117) rfl (hb hby d_prog_18_4_113) (by decide) (by decide) k) ?_
    show own_Go p e below KK s₁ (mkF m 117 #[oR q1, oI (w0 &&& (255 : Int32)), oN i1, oN (1 + i1), .val .null, .val .null, oU] [(.int (Int32.ofNat i2))])
    refine own_at (fun t k => XS.istore X0.here hx rfl (hb hby d_prog_18_4_117) rfl (l' := #[oR q1, oI (w0 &&& (255 : Int32)), oN i1, oN (1 + i1), .val .null, .val .null, oN i2]) rfl k) ?_
    show own_Go p e below KK s₁ (mkF m 119 #[oR q1, oI (w0 &&& (255 : Int32)), oN i1, oN (1 + i1), .val .null, .val .null, oN i2] [])
    refine own_at (fun t k => XS.aloadN X0.here hx rfl (hb hby d_prog_18_4_119) rfl rfl k) ?_
    show own_Go p e below KK s₁ (mkF m 120 #[oR q1, oI (w0 &&& (255 : Int32)), oN i1, oN (1 + i1), .val .null, .val .null, oN i2] [(.ref q1)])
    refine own_at (fun t k => XS.iloadN X0.here hx rfl (hb hby d_prog_18_4_120) rfl k) ?_
    show own_Go p e below KK s₁ (mkF m 121 #[oR q1, oI (w0 &&& (255 : Int32)), oN i1, oN (1 + i1), .val .null, .val .null, oN i2] [(.int (Int32.ofNat (1 + i1))), (.ref q1)])
    refine own_at (fun t k => XS.iconst X0.here hx rfl (hb hby d_prog_18_4_121) k) ?_
    show own_Go p e below KK s₁ (mkF m 122 #[oR q1, oI (w0 &&& (255 : Int32)), oN i1, oN (1 + i1), .val .null, .val .null, oN i2] [(.int 1), (.int (Int32.ofNat (1 + i1))), (.ref q1)])
    refine own_at (fun t k => XS.iadd X0.here hx rfl (hb hby d_prog_18_4_122) rfl k) ?_
    show own_Go p e below KK s₁ (mkF m 123 #[oR q1, oI (w0 &&& (255 : Int32)), oN i1, oN (1 + i1), .val .null, .val .null, oN i2] [(.int ((Int32.ofNat (1 + i1)) + (1 : Int32))), (.ref q1)])
    rw [show ((Int32.ofNat (1 + i1)) + (1 : Int32)) = (Int32.ofNat ((1 + i1) + 1)) from own_add (1 + i1) 1]
    show own_Go p e below KK s₁ (mkF m 123 #[oR q1, oI (w0 &&& (255 : Int32)), oN i1, oN (1 + i1), .val .null, .val .null, oN i2] [(.int (Int32.ofNat ((1 + i1) + 1))), (.ref q1)])
    refine own_at (fun t k => XS.iload X0.here hx rfl (hb hby d_prog_18_4_123) rfl k) ?_
    show own_Go p e below KK s₁ (mkF m 125 #[oR q1, oI (w0 &&& (255 : Int32)), oN i1, oN (1 + i1), .val .null, .val .null, oN i2] [(.int (Int32.ofNat i2)), (.int (Int32.ofNat ((1 + i1) + 1))), (.ref q1)])
    obtain ⟨_, _, ⟨T1, L1, k1, n1⟩, -, X1, ⟨Lc1, hQ1, l1, y1, z1⟩, st1⟩ := Jvm.LawKit.callS X0 hx (y := (⟨"com/example/isimud/isimud/oscore/OscoreOption", "part", "([BII)[B"⟩ : MethodName)) hown (mvT hZ (hw _ (List.mem_of_getElem? (i := 10) rfl))) (mvT hZ (hw _ (List.mem_of_getElem? (i := 11) rfl))) (mvT hZ (hw _ (List.mem_of_getElem? (i := 8) rfl))) (mvT hZ (hw _ (List.mem_of_getElem? (i := 12) rfl))) (by decide) (backOf (W := 0) (rm_part l Z a0 hw [] q1 ((1 + i1) + 1) i2 (us.map Value.int) h0 n0 Z0 Aq (by omega) (by rw [List.length_map]; omega) (by rw [List.length_map]; exact hl)) hZ (hw _ (List.mem_of_getElem? (i := 12) rfl)) (hw _ (List.mem_of_getElem? (i := 8) rfl)) (by decide) (by decide)) (g := (mkF m 125 #[oR q1, oI (w0 &&& (255 : Int32)), oN i1, oN (1 + i1), .val .null, .val .null, oN i2] [(.int (Int32.ofNat i2)), (.int (Int32.ofNat ((1 + i1) + 1))), (.ref q1)])) rfl (by rw [hml]; rfl) (argsL := [(.ref q1), (.int (Int32.ofNat ((1 + i1) + 1))), (.int (Int32.ofNat i2))]) (rest := []) (lenOf pd___BII__B rfl) rfl (by show 2 * 0 + _ ≤ _; exact Nat.le_of_eq rfl) (hb hby d_prog_18_4_125) (fun _ _ => ⟨rfl, e0, (by decide : 0 + 1 ≤ _), (by decide : 0 + 13 ≤ _)⟩)
    dsimp only [Pt.U, Pt.locs, Pt.cells, Pt.slots] at X1 l1 y1 z1 st1 hQ1
    subst l1 y1 z1
    obtain ⟨r1, rfl, N1q, K1, g_r1, s_r1, Aq1⟩ := hQ1
    have ne_q1_r1 : q1 ≠ r1 := Nat.ne_of_lt (Nat.lt_of_lt_of_le Aq.lt s_r1)
    have sz_r1 : h0.size ≤ r1 := Nat.le_trans Kp0.1 s_r1
    have Aq_h1 : own_A Z T1.heap q1 "[B" .byte (us.map Value.int) := Aq.keep K1 nin0
    have Zs1 : n0 ≤ T1.heap.size := Nat.le_trans Z0 K1.1
    have Kp1 : Keep h0 T1.heap [] := Kp0.trans K1 all0
    have A2_r1 : own_A Z T1.heap r1 "[B" .byte (((us.map Value.int).drop ((1 + i1) + 1)).take i2) := Aq1
    have N1 := Fr.app N0 N1q
    refine own_of (fun t k => st1 t k) ?_
    show own_Go p e below KK T1 (mkF m 128 #[oR q1, oI (w0 &&& (255 : Int32)), oN i1, oN (1 + i1), .val .null, .val .null, oN i2] [(.ref r1)])
    refine own_at (fun t k => XS.astore X1.here hx rfl (hb hby d_prog_18_4_128) rfl rfl (l' := #[oR q1, oI (w0 &&& (255 : Int32)), oN i1, oN (1 + i1), .val .null, oR r1, oN i2]) rfl k) ?_
    show own_Go p e below KK T1 (mkF m 130 #[oR q1, oI (w0 &&& (255 : Int32)), oN i1, oN (1 + i1), .val .null, oR r1, oN i2] [])
    refine own_at (fun t k => XS.iloadN X1.here hx rfl (hb hby d_prog_18_4_130) rfl k) ?_
    show own_Go p e below KK T1 (mkF m 131 #[oR q1, oI (w0 &&& (255 : Int32)), oN i1, oN (1 + i1), .val .null, oR r1, oN i2] [(.int (Int32.ofNat (1 + i1)))])
    refine own_at (fun t k => XS.iconst X1.here hx rfl (hb hby d_prog_18_4_131) k) ?_
    show own_Go p e below KK T1 (mkF m 132 #[oR q1, oI (w0 &&& (255 : Int32)), oN i1, oN (1 + i1), .val .null, oR r1, oN i2] [(.int 1), (.int (Int32.ofNat (1 + i1)))])
    refine own_at (fun t k => XS.iload X1.here hx rfl (hb hby d_prog_18_4_132) rfl k) ?_
    show own_Go p e below KK T1 (mkF m 134 #[oR q1, oI (w0 &&& (255 : Int32)), oN i1, oN (1 + i1), .val .null, oR r1, oN i2] [(.int (Int32.ofNat i2)), (.int 1), (.int (Int32.ofNat (1 + i1)))])
    refine own_at (fun t k => XS.iadd X1.here hx rfl (hb hby d_prog_18_4_134) rfl k) ?_
    show own_Go p e below KK T1 (mkF m 135 #[oR q1, oI (w0 &&& (255 : Int32)), oN i1, oN (1 + i1), .val .null, oR r1, oN i2] [(.int ((1 : Int32) + (Int32.ofNat i2))), (.int (Int32.ofNat (1 + i1)))])
    rw [show ((1 : Int32) + (Int32.ofNat i2)) = (Int32.ofNat (1 + i2)) from own_add 1 i2]
    show own_Go p e below KK T1 (mkF m 135 #[oR q1, oI (w0 &&& (255 : Int32)), oN i1, oN (1 + i1), .val .null, oR r1, oN i2] [(.int (Int32.ofNat (1 + i2))), (.int (Int32.ofNat (1 + i1)))])
    refine own_at (fun t k => XS.iadd X1.here hx rfl (hb hby d_prog_18_4_135) rfl k) ?_
    show own_Go p e below KK T1 (mkF m 136 #[oR q1, oI (w0 &&& (255 : Int32)), oN i1, oN (1 + i1), .val .null, oR r1, oN i2] [(.int ((Int32.ofNat (1 + i1)) + (Int32.ofNat (1 + i2))))])
    rw [show ((Int32.ofNat (1 + i1)) + (Int32.ofNat (1 + i2))) = (Int32.ofNat ((1 + i1) + (1 + i2))) from own_add (1 + i1) (1 + i2)]
    show own_Go p e below KK T1 (mkF m 136 #[oR q1, oI (w0 &&& (255 : Int32)), oN i1, oN (1 + i1), .val .null, oR r1, oN i2] [(.int (Int32.ofNat ((1 + i1) + (1 + i2))))])
    refine own_at (fun t k => XS.istoreN X1.here hx rfl (hb hby d_prog_18_4_136) rfl (l' := #[oR q1, oI (w0 &&& (255 : Int32)), oN i1, oN ((1 + i1) + (1 + i2)), .val .null, oR r1, oN i2]) rfl k) ?_
    show own_Go p e below KK T1 (mkF m 137 #[oR q1, oI (w0 &&& (255 : Int32)), oN i1, oN ((1 + i1) + (1 + i2)), .val .null, oR r1, oN i2] [])
    refine own_at (fun t k => XS.iloadN X1.here hx rfl (hb hby d_prog_18_4_137) rfl k) ?_
    show own_Go p e below KK T1 (mkF m 138 #[oR q1, oI (w0 &&& (255 : Int32)), oN i1, oN ((1 + i1) + (1 + i2)), .val .null, oR r1, oN i2] [(.int (w0 &&& (255 : Int32)))])
    refine own_at (fun t k => XS.bipush X1.here hx rfl (hb hby d_prog_18_4_138) k) ?_
    show own_Go p e below KK T1 (mkF m 140 #[oR q1, oI (w0 &&& (255 : Int32)), oN i1, oN ((1 + i1) + (1 + i2)), .val .null, oR r1, oN i2] [(.int 8), (.int (w0 &&& (255 : Int32)))])
    refine own_at (fun t k => XS.iand X1.here hx rfl (hb hby d_prog_18_4_140) rfl k) ?_
    show own_Go p e below KK T1 (mkF m 141 #[oR q1, oI (w0 &&& (255 : Int32)), oN i1, oN ((1 + i1) + (1 + i2)), .val .null, oR r1, oN i2] [(.int ((w0 &&& (255 : Int32)) &&& (8 : Int32)))])
    have hc141 : ((w0 &&& (255 : Int32)) &&& (8 : Int32)) = (0 : Int32) := hfl.2.2.2.2.mpr rfl
    refine own_at (fun t k => XS.ifNo X1.here hx rfl (hb hby d_prog_18_4_141) rfl (Jvm.Free.XT.i0_ne_f hc141) k) ?_
    show own_Go p e below KK T1 (mkF m 144 #[oR q1, oI (w0 &&& (255 : Int32)), oN i1, oN ((1 + i1) + (1 + i2)), .val .null, oR r1, oN i2] [])
    refine own_at (fun t k => XS.aconstNull X1.here hx rfl (hb hby d_prog_18_4_144) k) ?_
    show own_Go p e below KK T1 (mkF m 145 #[oR q1, oI (w0 &&& (255 : Int32)), oN i1, oN ((1 + i1) + (1 + i2)), .val .null, oR r1, oN i2] [.null])
    refine own_at (fun t k => XS.goto X1.here hx rfl (pc0 := 145) (pc' := 155) rfl (hb hby d_prog_18_4_145) (by decide) (by decide) k) ?_
    show own_Go p e below KK T1 (mkF m 155 #[oR q1, oI (w0 &&& (255 : Int32)), oN i1, oN ((1 + i1) + (1 + i2)), .val .null, oR r1, oN i2] [.null])
    refine own_at (fun t k => XS.astore X1.here hx rfl (hb hby d_prog_18_4_155) rfl rfl (l' := #[oR q1, oI (w0 &&& (255 : Int32)), oN i1, oN ((1 + i1) + (1 + i2)), .val .null, oR r1, .val .null]) rfl k) ?_
    show own_Go p e below KK T1 (mkF m 157 #[oR q1, oI (w0 &&& (255 : Int32)), oN i1, oN ((1 + i1) + (1 + i2)), .val .null, oR r1, .val .null] [])
    refine own_at (fun t k => XS.aload X1.here hx rfl (hb hby d_prog_18_4_157) rfl rfl k) ?_
    show own_Go p e below KK T1 (mkF m 159 #[oR q1, oI (w0 &&& (255 : Int32)), oN i1, oN ((1 + i1) + (1 + i2)), .val .null, oR r1, .val .null] [.null])
    refine own_at (fun t k => XS.ifnonnullNo X1.here hx rfl (hb hby d_prog_18_4_159) rfl k) ?_
    show own_Go p e below KK T1 (mkF m 162 #[oR q1, oI (w0 &&& (255 : Int32)), oN i1, oN ((1 + i1) + (1 + i2)), .val .null, oR r1, .val .null] [])
    refine own_at (fun t k => XS.iloadN X1.here hx rfl (hb hby d_prog_18_4_162) rfl k) ?_
    show own_Go p e below KK T1 (mkF m 163 #[oR q1, oI (w0 &&& (255 : Int32)), oN i1, oN ((1 + i1) + (1 + i2)), .val .null, oR r1, .val .null] [(.int (Int32.ofNat ((1 + i1) + (1 + i2))))])
    refine own_at (fun t k => XS.aloadN X1.here hx rfl (hb hby d_prog_18_4_163) rfl rfl k) ?_
    show own_Go p e below KK T1 (mkF m 164 #[oR q1, oI (w0 &&& (255 : Int32)), oN i1, oN ((1 + i1) + (1 + i2)), .val .null, oR r1, .val .null] [(.ref q1), (.int (Int32.ofNat ((1 + i1) + (1 + i2))))])
    refine own_at (fun t k => own_len X1 hx hZ rfl Aq_h1 (N := (Int32.ofNat us.length)) (by rw [List.length_map]) (g := (mkF m 164 #[oR q1, oI (w0 &&& (255 : Int32)), oN i1, oN ((1 + i1) + (1 + i2)), .val .null, oR r1, .val .null] [(.ref q1), (.int (Int32.ofNat ((1 + i1) + (1 + i2))))])) rfl rfl (hb hby d_prog_18_4_164) t k) ?_
    show own_Go p e below KK T1 (mkF m 165 #[oR q1, oI (w0 &&& (255 : Int32)), oN i1, oN ((1 + i1) + (1 + i2)), .val .null, oR r1, .val .null] [(.int (Int32.ofNat us.length)), (.int (Int32.ofNat ((1 + i1) + (1 + i2))))])
    have hc165 : (Int32.ofNat ((1 + i1) + (1 + i2))) = (Int32.ofNat us.length) := by rw [hat]
    refine own_at (fun t k => XS.icmpYes X1.here hx rfl (pc0 := 165) (pc' := 185) rfl (hb hby d_prog_18_4_165) rfl (Jvm.Free.XT.ii_eq_t hc165) (by decide) (by decide) k) ?_
    show own_Go p e below KK T1 (mkF m 185 #[oR q1, oI (w0 &&& (255 : Int32)), oN i1, oN ((1 + i1) + (1 + i2)), .val .null, oR r1, .val .null] [])
    obtain ⟨T3, h3, X3, e3, E3, A3, D3, -, st3⟩ := newO X1 hx hZ hown (hw _ (List.mem_of_getElem? (i := 31) rfl)) (hw _ (List.mem_of_getElem? (i := 32) rfl)) (hw _ (List.mem_of_getElem? (i := 8) rfl)) rfl (g := (mkF m 185 #[oR q1, oI (w0 &&& (255 : Int32)), oN i1, oN ((1 + i1) + (1 + i2)), .val .null, oR r1, .val .null] [])) rfl (hb hby d_prog_18_4_185) (by decide) (by decide)
    obtain ⟨b3, g3⟩ : ∃ z, z = T1.heap.size := ⟨_, rfl⟩
    rw [← g3] at A3 D3 st3
    have ne_q1_b3 : q1 ≠ b3 := by rw [g3]; exact Nat.ne_of_lt Aq_h1.lt
    have ne_r1_b3 : r1 ≠ b3 := by rw [g3]; exact Nat.ne_of_lt A2_r1.lt
    have g_b3 : n0 ≤ b3 := by rw [g3]; exact Zs1
    have sz_b3 : h0.size ≤ b3 := by rw [g3]; exact Kp1.1
    have Aq_h3 : own_A Z h3 q1 "[B" .byte (us.map Value.int) := Aq_h1.ext E3
    have A2_r1_h3 : own_A Z h3 r1 "[B" .byte (((us.map Value.int).drop ((1 + i1) + 1)).take i2) := A2_r1.ext E3
    have Zs3 : n0 ≤ h3.size := Nat.le_trans Zs1 E3.1
    have Kp3 : Keep h0 h3 [] := Kp1.ext E3
    have E4_b3 : Exa Z h3 b3 "com/example/isimud/isimud/oscore/OscoreOption" := A3
    have F5_b3 : Fld Z h3 b3 "com/example/isimud/isimud/oscore/OscoreOption" "partialIv" "[B" .null := D3 (Or.inr (hw _ (List.mem_of_getElem? (i := 40) rfl))) (ty := (.array .byte)) (by decide)
    have F6_b3 : Fld Z h3 b3 "com/example/isimud/isimud/oscore/OscoreOption" "kidContext" "[B" .null := D3 (Or.inr (hw _ (List.mem_of_getElem? (i := 42) rfl))) (ty := (.array .byte)) (by decide)
    have F7_b3 : Fld Z h3 b3 "com/example/isimud/isimud/oscore/OscoreOption" "kid" "[B" .null := D3 (Or.inr (hw _ (List.mem_of_getElem? (i := 44) rfl))) (ty := (.array .byte)) (by decide)
    refine own_of (fun t k => st3 t k) ?_
    show own_Go p e below KK T3 (mkF m 188 #[oR q1, oI (w0 &&& (255 : Int32)), oN i1, oN ((1 + i1) + (1 + i2)), .val .null, oR r1, .val .null] [(.ref b3)])
    refine own_at (fun t k => XS.dup X3.here hx rfl (hb hby d_prog_18_4_188) rfl rfl k) ?_
    show own_Go p e below KK T3 (mkF m 189 #[oR q1, oI (w0 &&& (255 : Int32)), oN i1, oN ((1 + i1) + (1 + i2)), .val .null, oR r1, .val .null] [(.ref b3), (.ref b3)])
    refine own_at (fun t k => XS.aload X3.here hx rfl (hb hby d_prog_18_4_189) rfl rfl k) ?_
    show own_Go p e below KK T3 (mkF m 191 #[oR q1, oI (w0 &&& (255 : Int32)), oN i1, oN ((1 + i1) + (1 + i2)), .val .null, oR r1, .val .null] [.null, (.ref b3), (.ref b3)])
    refine own_at (fun t k => XS.aload X3.here hx rfl (hb hby d_prog_18_4_191) rfl rfl k) ?_
    show own_Go p e below KK T3 (mkF m 193 #[oR q1, oI (w0 &&& (255 : Int32)), oN i1, oN ((1 + i1) + (1 + i2)), .val .null, oR r1, .val .null] [(.ref r1), .null, (.ref b3), (.ref b3)])
    refine own_at (fun t k => XS.aload X3.here hx rfl (hb hby d_prog_18_4_193) rfl rfl k) ?_
    show own_Go p e below KK T3 (mkF m 195 #[oR q1, oI (w0 &&& (255 : Int32)), oN i1, oN ((1 + i1) + (1 + i2)), .val .null, oR r1, .val .null] [.null, (.ref r1), .null, (.ref b3), (.ref b3)])
    obtain ⟨_, _, ⟨T8, L8, k8, n8⟩, -, X8, ⟨Lc8, hQ8, l8, y8, z8⟩, st8⟩ := X3.specialBack hx (y := (⟨"com/example/isimud/isimud/oscore/OscoreOption", "<init>", "([B[B[B)V"⟩ : MethodName)) rfl hown (mvT hZ (hw _ (List.mem_of_getElem? (i := 33) rfl))) (mvT hZ (hw _ (List.mem_of_getElem? (i := 34) rfl))) (mvT hZ (hw _ (List.mem_of_getElem? (i := 35) rfl))) (by decide) (backOf (W := 1) (rm_ctor l Z a0 hw [] b3 .null (.ref r1) .null  h3 n0 Zs3 F5_b3 F6_b3 F7_b3 E4_b3 g_b3 rfl rfl rfl) hZ (hw _ (List.mem_of_getElem? (i := 35) rfl)) (hw _ (List.mem_of_getElem? (i := 8) rfl)) (by decide) (by decide)) (g := (mkF m 195 #[oR q1, oI (w0 &&& (255 : Int32)), oN i1, oN ((1 + i1) + (1 + i2)), .val .null, oR r1, .val .null] [.null, (.ref r1), .null, (.ref b3), (.ref b3)])) rfl (by rw [hml]; rfl) (Steps.refl _) (a := b3) (argsL := [.null, (.ref r1), .null]) (rest := [(.ref b3)]) (lenOf pd___B_B_B_V rfl) rfl (by show 2 * 0 + _ ≤ _; exact Nat.le_of_eq rfl) (hb hby d_prog_18_4_195) (fun _ _ => ⟨rfl, e3, (by decide : 2 + 0 ≤ _), (by decide : 16 + 0 ≤ _)⟩)
    dsimp only [Pt.U, Pt.locs, Pt.cells, Pt.slots] at X8 l8 y8 z8 st8 hQ8
    subst l8 y8 z8
    obtain ⟨rfl, N8q, K8, Ex8, Fx8, Fy8, Fz8⟩ := hQ8
    have Aq_h8 : own_A Z T8.heap q1 "[B" .byte (us.map Value.int) := Aq_h3.keep K8 (ninS ne_q1_b3 nin0)
    have A2_r1_h8 : own_A Z T8.heap r1 "[B" .byte (((us.map Value.int).drop ((1 + i1) + 1)).take i2) := A2_r1_h3.keep K8 (ninS ne_r1_b3 nin0)
    have Zs8 : n0 ≤ T8.heap.size := Nat.le_trans Zs3 K8.1
    have Kp8 : Keep h0 T8.heap [] := Kp3.trans K8 (allS (Or.inr sz_b3) all0)
    have E9_b3 : Exa Z T8.heap b3 "com/example/isimud/isimud/oscore/OscoreOption" := Ex8
    have F10_b3 : Fld Z T8.heap b3 "com/example/isimud/isimud/oscore/OscoreOption" "partialIv" "[B" .null := Fx8
    have F11_b3 : Fld Z T8.heap b3 "com/example/isimud/isimud/oscore/OscoreOption" "kidContext" "[B" (.ref r1) := Fy8
    have F12_b3 : Fld Z T8.heap b3 "com/example/isimud/isimud/oscore/OscoreOption" "kid" "[B" .null := Fz8
    have N8 := Fr.app N1 N8q
    refine own_of (fun t k => st8.trans k) ?_
    show own_Go p e below KK T8 (mkF m 198 #[oR q1, oI (w0 &&& (255 : Int32)), oN i1, oN ((1 + i1) + (1 + i2)), .val .null, oR r1, .val .null] [(.ref b3)])
    subst hKK
    exact own_retA X8 hx hlk rfl Bd.returns rfl (hb hby d_prog_18_4_198) ⟨b3, .null, (.ref r1), .null, rfl, N8, Kp8, g_b3, sz_b3, E9_b3, F10_b3, F11_b3, F12_b3, own_Oz ((own_eq (b := 0) (by omega) (by omega)).mp hc71), ⟨r1, rfl, A2_r1_h8⟩, rfl⟩ (Nat.le_of_ble_eq_true rfl) (Nat.le_of_ble_eq_true rfl)
  · refine own_at (fun t k => XS.ifYes X0.here hx rfl (pc0 := 71) (pc' := 78) rfl (hb hby d_prog_18_4_71) rfl (Jvm.Free.XT.i0_ne_t hc71) (by decide) (by decide) k) ?_
    show own_Go p e below KK s₁ (mkF m 78 #[oR q1, oI (w0 &&& (255 : Int32)), oN i1, oI 1, oU, oU, oU] [])
    refine own_at (fun t k => XS.aloadN X0.here hx rfl (hb hby d_prog_18_4_78) rfl rfl k) ?_
    show own_Go p e below KK s₁ (mkF m 79 #[oR q1, oI (w0 &&& (255 : Int32)), oN i1, oI 1, oU, oU, oU] [(.ref q1)])
    refine own_at (fun t k => XS.iloadN X0.here hx rfl (hb hby d_prog_18_4_79) rfl k) ?_
    show own_Go p e below KK s₁ (mkF m 80 #[oR q1, oI (w0 &&& (255 : Int32)), oN i1, oI 1, oU, oU, oU] [(.int 1), (.ref q1)])
    refine own_at (fun t k => XS.iloadN X0.here hx rfl (hb hby d_prog_18_4_80) rfl k) ?_
    show own_Go p e below KK s₁ (mkF m 81 #[oR q1, oI (w0 &&& (255 : Int32)), oN i1, oI 1, oU, oU, oU] [(.int (Int32.ofNat i1)), (.int 1), (.ref q1)])
    obtain ⟨_, _, ⟨T13, L13, k13, n13⟩, -, X13, ⟨Lc13, hQ13, l13, y13, z13⟩, st13⟩ := Jvm.LawKit.callS X0 hx (y := (⟨"com/example/isimud/isimud/oscore/OscoreOption", "part", "([BII)[B"⟩ : MethodName)) hown (mvT hZ (hw _ (List.mem_of_getElem? (i := 10) rfl))) (mvT hZ (hw _ (List.mem_of_getElem? (i := 11) rfl))) (mvT hZ (hw _ (List.mem_of_getElem? (i := 8) rfl))) (mvT hZ (hw _ (List.mem_of_getElem? (i := 12) rfl))) (by decide) (backOf (W := 0) (rm_part l Z a0 hw [] q1 1 i1 (us.map Value.int) h0 n0 Z0 Aq (by omega) (by rw [List.length_map]; omega) (by rw [List.length_map]; exact hl)) hZ (hw _ (List.mem_of_getElem? (i := 12) rfl)) (hw _ (List.mem_of_getElem? (i := 8) rfl)) (by decide) (by decide)) (g := (mkF m 81 #[oR q1, oI (w0 &&& (255 : Int32)), oN i1, oI 1, oU, oU, oU] [(.int (Int32.ofNat i1)), (.int 1), (.ref q1)])) rfl (by rw [hml]; rfl) (argsL := [(.ref q1), (.int 1), (.int (Int32.ofNat i1))]) (rest := []) (lenOf pd___BII__B rfl) rfl (by show 2 * 0 + _ ≤ _; exact Nat.le_of_eq rfl) (hb hby d_prog_18_4_81) (fun _ _ => ⟨rfl, e0, (by decide : 0 + 1 ≤ _), (by decide : 0 + 13 ≤ _)⟩)
    dsimp only [Pt.U, Pt.locs, Pt.cells, Pt.slots] at X13 l13 y13 z13 st13 hQ13
    subst l13 y13 z13
    obtain ⟨r13, rfl, N13q, K13, g_r13, s_r13, Aq13⟩ := hQ13
    have ne_q1_r13 : q1 ≠ r13 := Nat.ne_of_lt (Nat.lt_of_lt_of_le Aq.lt s_r13)
    have sz_r13 : h0.size ≤ r13 := Nat.le_trans Kp0.1 s_r13
    have Aq_h13 : own_A Z T13.heap q1 "[B" .byte (us.map Value.int) := Aq.keep K13 nin0
    have Zs13 : n0 ≤ T13.heap.size := Nat.le_trans Z0 K13.1
    have Kp13 : Keep h0 T13.heap [] := Kp0.trans K13 all0
    have A14_r13 : own_A Z T13.heap r13 "[B" .byte (((us.map Value.int).drop 1).take i1) := Aq13
    have N13 := Fr.app N0 N13q
    refine own_of (fun t k => st13 t k) ?_
    show own_Go p e below KK T13 (mkF m 84 #[oR q1, oI (w0 &&& (255 : Int32)), oN i1, oI 1, oU, oU, oU] [(.ref r13)])
    refine own_at (fun t k => XS.astore X13.here hx rfl (hb hby d_prog_18_4_84) rfl rfl (l' := #[oR q1, oI (w0 &&& (255 : Int32)), oN i1, oI 1, oR r13, oU, oU]) rfl k) ?_
    show own_Go p e below KK T13 (mkF m 86 #[oR q1, oI (w0 &&& (255 : Int32)), oN i1, oI 1, oR r13, oU, oU] [])
    refine own_at (fun t k => XS.iloadN X13.here hx rfl (hb hby d_prog_18_4_86) rfl k) ?_
    show own_Go p e below KK T13 (mkF m 87 #[oR q1, oI (w0 &&& (255 : Int32)), oN i1, oI 1, oR r13, oU, oU] [(.int 1)])
    refine own_at (fun t k => XS.iloadN X13.here hx rfl (hb hby d_prog_18_4_87) rfl k) ?_
    show own_Go p e below KK T13 (mkF m 88 #[oR q1, oI (w0 &&& (255 : Int32)), oN i1, oI 1, oR r13, oU, oU] [(.int (Int32.ofNat i1)), (.int 1)])
    refine own_at (fun t k => XS.iadd X13.here hx rfl (hb hby d_prog_18_4_88) rfl k) ?_
    show own_Go p e below KK T13 (mkF m 89 #[oR q1, oI (w0 &&& (255 : Int32)), oN i1, oI 1, oR r13, oU, oU] [(.int ((1 : Int32) + (Int32.ofNat i1)))])
    rw [show ((1 : Int32) + (Int32.ofNat i1)) = (Int32.ofNat (1 + i1)) from own_add 1 i1]
    show own_Go p e below KK T13 (mkF m 89 #[oR q1, oI (w0 &&& (255 : Int32)), oN i1, oI 1, oR r13, oU, oU] [(.int (Int32.ofNat (1 + i1)))])
    refine own_at (fun t k => XS.istoreN X13.here hx rfl (hb hby d_prog_18_4_89) rfl (l' := #[oR q1, oI (w0 &&& (255 : Int32)), oN i1, oN (1 + i1), oR r13, oU, oU]) rfl k) ?_
    show own_Go p e below KK T13 (mkF m 90 #[oR q1, oI (w0 &&& (255 : Int32)), oN i1, oN (1 + i1), oR r13, oU, oU] [])
    refine own_at (fun t k => XS.aconstNull X13.here hx rfl (hb hby d_prog_18_4_90) k) ?_
    show own_Go p e below KK T13 (mkF m 91 #[oR q1, oI (w0 &&& (255 : Int32)), oN i1, oN (1 + i1), oR r13, oU, oU] [.null])
    refine own_at (fun t k => XS.astore X13.here hx rfl (hb hby d_prog_18_4_91) rfl rfl (l' := #[oR q1, oI (w0 &&& (255 : Int32)), oN i1, oN (1 + i1), oR r13, .val .null, oU]) rfl k) ?_
    show own_Go p e below KK T13 (mkF m 93 #[oR q1, oI (w0 &&& (255 : Int32)), oN i1, oN (1 + i1), oR r13, .val .null, oU] [])
    refine own_at (fun t k => XS.iloadN X13.here hx rfl (hb hby d_prog_18_4_93) rfl k) ?_
    show own_Go p e below KK T13 (mkF m 94 #[oR q1, oI (w0 &&& (255 : Int32)), oN i1, oN (1 + i1), oR r13, .val .null, oU] [(.int (w0 &&& (255 : Int32)))])
    refine own_at (fun t k => XS.bipush X13.here hx rfl (hb hby d_prog_18_4_94) k) ?_
    show own_Go p e below KK T13 (mkF m 96 #[oR q1, oI (w0 &&& (255 : Int32)), oN i1, oN (1 + i1), oR r13, .val .null, oU] [(.int 16), (.int (w0 &&& (255 : Int32)))])
    refine own_at (fun t k => XS.iand X13.here hx rfl (hb hby d_prog_18_4_96) rfl k) ?_
    show own_Go p e below KK T13 (mkF m 97 #[oR q1, oI (w0 &&& (255 : Int32)), oN i1, oN (1 + i1), oR r13, .val .null, oU] [(.int ((w0 &&& (255 : Int32)) &&& (16 : Int32)))])
    have hc97 : ¬ (((w0 &&& (255 : Int32)) &&& (16 : Int32)) = (0 : Int32)) := (fun q => Bool.noConfusion (hfl.2.2.2.1.mp q))
    refine own_at (fun t k => XS.ifNo X13.here hx rfl (hb hby d_prog_18_4_97) rfl (Jvm.Free.XT.i0_eq_f hc97) k) ?_
    show own_Go p e below KK T13 (mkF m 100 #[oR q1, oI (w0 &&& (255 : Int32)), oN i1, oN (1 + i1), oR r13, .val .null, oU] [])
    refine own_at (fun t k => XS.iloadN X13.here hx rfl (hb hby d_prog_18_4_100) rfl k) ?_
    show own_Go p e below KK T13 (mkF m 101 #[oR q1, oI (w0 &&& (255 : Int32)), oN i1, oN (1 + i1), oR r13, .val .null, oU] [(.int (Int32.ofNat (1 + i1)))])
    refine own_at (fun t k => XS.aloadN X13.here hx rfl (hb hby d_prog_18_4_101) rfl rfl k) ?_
    show own_Go p e below KK T13 (mkF m 102 #[oR q1, oI (w0 &&& (255 : Int32)), oN i1, oN (1 + i1), oR r13, .val .null, oU] [(.ref q1), (.int (Int32.ofNat (1 + i1)))])
    refine own_at (fun t k => own_len X13 hx hZ rfl Aq_h13 (N := (Int32.ofNat us.length)) (by rw [List.length_map]) (g := (mkF m 102 #[oR q1, oI (w0 &&& (255 : Int32)), oN i1, oN (1 + i1), oR r13, .val .null, oU] [(.ref q1), (.int (Int32.ofNat (1 + i1)))])) rfl rfl (hb hby d_prog_18_4_102) t k) ?_
    show own_Go p e below KK T13 (mkF m 103 #[oR q1, oI (w0 &&& (255 : Int32)), oN i1, oN (1 + i1), oR r13, .val .null, oU] [(.int (Int32.ofNat us.length)), (.int (Int32.ofNat (1 + i1)))])
    have hc103 : (Int32.ofNat (1 + i1)) < (Int32.ofNat us.length) := (own_lt (by omega) (by omega)).mpr (by omega)
    refine own_at (fun t k => XS.icmpNo X13.here hx rfl (hb hby d_prog_18_4_103) rfl (Jvm.Free.XT.ii_ge_f hc103) k) ?_
    show own_Go p e below KK T13 (mkF m 106 #[oR q1, oI (w0 &&& (255 : Int32)), oN i1, oN (1 + i1), oR r13, .val .null, oU] [])
    refine own_at (fun t k => XS.aloadN X13.here hx rfl (hb hby d_prog_18_4_106) rfl rfl k) ?_
    show own_Go p e below KK T13 (mkF m 107 #[oR q1, oI (w0 &&& (255 : Int32)), oN i1, oN (1 + i1), oR r13, .val .null, oU] [(.ref q1)])
    refine own_at (fun t k => XS.iloadN X13.here hx rfl (hb hby d_prog_18_4_107) rfl k) ?_
    show own_Go p e below KK T13 (mkF m 108 #[oR q1, oI (w0 &&& (255 : Int32)), oN i1, oN (1 + i1), oR r13, .val .null, oU] [(.int (Int32.ofNat (1 + i1))), (.ref q1)])
    refine own_at (fun t k => own_ldB X13 hx hZ rfl Aq_h13 (j := (Int32.ofNat (1 + i1))) (i := (1 + i1)) (v := (.int w1)) (own_ofNat (by omega)).2.1 (own_ofNat (by omega)).1 (own_mget hw1) (g := (mkF m 108 #[oR q1, oI (w0 &&& (255 : Int32)), oN i1, oN (1 + i1), oR r13, .val .null, oU] [(.int (Int32.ofNat (1 + i1))), (.ref q1)])) rfl rfl (hb hby d_prog_18_4_108) t k) ?_
    show own_Go p e below KK T13 (mkF m 109 #[oR q1, oI (w0 &&& (255 : Int32)), oN i1, oN (1 + i1), oR r13, .val .null, oU] [(.int w1)])
    refine own_at (fun t k => XS.sipush X13.here hx rfl (hb hby d_prog_18_4_109) k) ?_
    show own_Go p e below KK T13 (mkF m 112 #[oR q1, oI (w0 &&& (255 : Int32)), oN i1, oN (1 + i1), oR r13, .val .null, oU] [(.int 255), (.int w1)])
    refine own_at (fun t k => XS.iand X13.here hx rfl (hb hby d_prog_18_4_112) rfl k) ?_
    show own_Go p e below KK T13 (mkF m 113 #[oR q1, oI (w0 &&& (255 : Int32)), oN i1, oN (1 + i1), oR r13, .val .null, oU] [(.int (w1 &&& (255 : Int32)))])
    rw [show (w1 &&& (255 : Int32)) = (Int32.ofNat i2) from hw1b]
    show own_Go p e below KK T13 (mkF m 113 #[oR q1, oI (w0 &&& (255 : Int32)), oN i1, oN (1 + i1), oR r13, .val .null, oU] [(.int (Int32.ofNat i2))])
    refine own_at (fun t k => XS.goto X13.here hx rfl (pc0 := 113) (pc' := 117) rfl (hb hby d_prog_18_4_113) (by decide) (by decide) k) ?_
    show own_Go p e below KK T13 (mkF m 117 #[oR q1, oI (w0 &&& (255 : Int32)), oN i1, oN (1 + i1), oR r13, .val .null, oU] [(.int (Int32.ofNat i2))])
    refine own_at (fun t k => XS.istore X13.here hx rfl (hb hby d_prog_18_4_117) rfl (l' := #[oR q1, oI (w0 &&& (255 : Int32)), oN i1, oN (1 + i1), oR r13, .val .null, oN i2]) rfl k) ?_
    show own_Go p e below KK T13 (mkF m 119 #[oR q1, oI (w0 &&& (255 : Int32)), oN i1, oN (1 + i1), oR r13, .val .null, oN i2] [])
    refine own_at (fun t k => XS.aloadN X13.here hx rfl (hb hby d_prog_18_4_119) rfl rfl k) ?_
    show own_Go p e below KK T13 (mkF m 120 #[oR q1, oI (w0 &&& (255 : Int32)), oN i1, oN (1 + i1), oR r13, .val .null, oN i2] [(.ref q1)])
    refine own_at (fun t k => XS.iloadN X13.here hx rfl (hb hby d_prog_18_4_120) rfl k) ?_
    show own_Go p e below KK T13 (mkF m 121 #[oR q1, oI (w0 &&& (255 : Int32)), oN i1, oN (1 + i1), oR r13, .val .null, oN i2] [(.int (Int32.ofNat (1 + i1))), (.ref q1)])
    refine own_at (fun t k => XS.iconst X13.here hx rfl (hb hby d_prog_18_4_121) k) ?_
    show own_Go p e below KK T13 (mkF m 122 #[oR q1, oI (w0 &&& (255 : Int32)), oN i1, oN (1 + i1), oR r13, .val .null, oN i2] [(.int 1), (.int (Int32.ofNat (1 + i1))), (.ref q1)])
    refine own_at (fun t k => XS.iadd X13.here hx rfl (hb hby d_prog_18_4_122) rfl k) ?_
    show own_Go p e below KK T13 (mkF m 123 #[oR q1, oI (w0 &&& (255 : Int32)), oN i1, oN (1 + i1), oR r13, .val .null, oN i2] [(.int ((Int32.ofNat (1 + i1)) + (1 : Int32))), (.ref q1)])
    rw [show ((Int32.ofNat (1 + i1)) + (1 : Int32)) = (Int32.ofNat ((1 + i1) + 1)) from own_add (1 + i1) 1]
    show own_Go p e below KK T13 (mkF m 123 #[oR q1, oI (w0 &&& (255 : Int32)), oN i1, oN (1 + i1), oR r13, .val .null, oN i2] [(.int (Int32.ofNat ((1 + i1) + 1))), (.ref q1)])
    refine own_at (fun t k => XS.iload X13.here hx rfl (hb hby d_prog_18_4_123) rfl k) ?_
    show own_Go p e below KK T13 (mkF m 125 #[oR q1, oI (w0 &&& (255 : Int32)), oN i1, oN (1 + i1), oR r13, .val .null, oN i2] [(.int (Int32.ofNat i2)), (.int (Int32.ofNat ((1 + i1) + 1))), (.ref q1)])
    obtain ⟨_, _, ⟨T15, L15, k15, n15⟩, -, X15, ⟨Lc15, hQ15, l15, y15, z15⟩, st15⟩ := Jvm.LawKit.callS X13 hx (y := (⟨"com/example/isimud/isimud/oscore/OscoreOption", "part", "([BII)[B"⟩ : MethodName)) hown (mvT hZ (hw _ (List.mem_of_getElem? (i := 10) rfl))) (mvT hZ (hw _ (List.mem_of_getElem? (i := 11) rfl))) (mvT hZ (hw _ (List.mem_of_getElem? (i := 8) rfl))) (mvT hZ (hw _ (List.mem_of_getElem? (i := 12) rfl))) (by decide) (backOf (W := 0) (rm_part l Z a0 hw [] q1 ((1 + i1) + 1) i2 (us.map Value.int) T13.heap n0 Zs13 Aq_h13 (by omega) (by rw [List.length_map]; omega) (by rw [List.length_map]; exact hl)) hZ (hw _ (List.mem_of_getElem? (i := 12) rfl)) (hw _ (List.mem_of_getElem? (i := 8) rfl)) (by decide) (by decide)) (g := (mkF m 125 #[oR q1, oI (w0 &&& (255 : Int32)), oN i1, oN (1 + i1), oR r13, .val .null, oN i2] [(.int (Int32.ofNat i2)), (.int (Int32.ofNat ((1 + i1) + 1))), (.ref q1)])) rfl (by rw [hml]; rfl) (argsL := [(.ref q1), (.int (Int32.ofNat ((1 + i1) + 1))), (.int (Int32.ofNat i2))]) (rest := []) (lenOf pd___BII__B rfl) rfl (by show 2 * 0 + _ ≤ _; exact Nat.le_of_eq rfl) (hb hby d_prog_18_4_125) (fun _ _ => ⟨rfl, rfl, (by decide : 1 + 1 ≤ _), (by decide : 13 + 13 ≤ _)⟩)
    dsimp only [Pt.U, Pt.locs, Pt.cells, Pt.slots] at X15 l15 y15 z15 st15 hQ15
    subst l15 y15 z15
    obtain ⟨r15, rfl, N15q, K15, g_r15, s_r15, Aq15⟩ := hQ15
    have ne_q1_r15 : q1 ≠ r15 := Nat.ne_of_lt (Nat.lt_of_lt_of_le Aq_h13.lt s_r15)
    have ne_r13_r15 : r13 ≠ r15 := Nat.ne_of_lt (Nat.lt_of_lt_of_le A14_r13.lt s_r15)
    have sz_r15 : h0.size ≤ r15 := Nat.le_trans Kp13.1 s_r15
    have Aq_h15 : own_A Z T15.heap q1 "[B" .byte (us.map Value.int) := Aq_h13.keep K15 nin0
    have A14_r13_h15 : own_A Z T15.heap r13 "[B" .byte (((us.map Value.int).drop 1).take i1) := A14_r13.keep K15 nin0
    have Zs15 : n0 ≤ T15.heap.size := Nat.le_trans Zs13 K15.1
    have Kp15 : Keep h0 T15.heap [] := Kp13.trans K15 all0
    have A16_r15 : own_A Z T15.heap r15 "[B" .byte (((us.map Value.int).drop ((1 + i1) + 1)).take i2) := Aq15
    have N15 := Fr.app N13 N15q
    refine own_of (fun t k => st15 t k) ?_
    show own_Go p e below KK T15 (mkF m 128 #[oR q1, oI (w0 &&& (255 : Int32)), oN i1, oN (1 + i1), oR r13, .val .null, oN i2] [(.ref r15)])
    refine own_at (fun t k => XS.astore X15.here hx rfl (hb hby d_prog_18_4_128) rfl rfl (l' := #[oR q1, oI (w0 &&& (255 : Int32)), oN i1, oN (1 + i1), oR r13, oR r15, oN i2]) rfl k) ?_
    show own_Go p e below KK T15 (mkF m 130 #[oR q1, oI (w0 &&& (255 : Int32)), oN i1, oN (1 + i1), oR r13, oR r15, oN i2] [])
    refine own_at (fun t k => XS.iloadN X15.here hx rfl (hb hby d_prog_18_4_130) rfl k) ?_
    show own_Go p e below KK T15 (mkF m 131 #[oR q1, oI (w0 &&& (255 : Int32)), oN i1, oN (1 + i1), oR r13, oR r15, oN i2] [(.int (Int32.ofNat (1 + i1)))])
    refine own_at (fun t k => XS.iconst X15.here hx rfl (hb hby d_prog_18_4_131) k) ?_
    show own_Go p e below KK T15 (mkF m 132 #[oR q1, oI (w0 &&& (255 : Int32)), oN i1, oN (1 + i1), oR r13, oR r15, oN i2] [(.int 1), (.int (Int32.ofNat (1 + i1)))])
    refine own_at (fun t k => XS.iload X15.here hx rfl (hb hby d_prog_18_4_132) rfl k) ?_
    show own_Go p e below KK T15 (mkF m 134 #[oR q1, oI (w0 &&& (255 : Int32)), oN i1, oN (1 + i1), oR r13, oR r15, oN i2] [(.int (Int32.ofNat i2)), (.int 1), (.int (Int32.ofNat (1 + i1)))])
    refine own_at (fun t k => XS.iadd X15.here hx rfl (hb hby d_prog_18_4_134) rfl k) ?_
    show own_Go p e below KK T15 (mkF m 135 #[oR q1, oI (w0 &&& (255 : Int32)), oN i1, oN (1 + i1), oR r13, oR r15, oN i2] [(.int ((1 : Int32) + (Int32.ofNat i2))), (.int (Int32.ofNat (1 + i1)))])
    rw [show ((1 : Int32) + (Int32.ofNat i2)) = (Int32.ofNat (1 + i2)) from own_add 1 i2]
    show own_Go p e below KK T15 (mkF m 135 #[oR q1, oI (w0 &&& (255 : Int32)), oN i1, oN (1 + i1), oR r13, oR r15, oN i2] [(.int (Int32.ofNat (1 + i2))), (.int (Int32.ofNat (1 + i1)))])
    refine own_at (fun t k => XS.iadd X15.here hx rfl (hb hby d_prog_18_4_135) rfl k) ?_
    show own_Go p e below KK T15 (mkF m 136 #[oR q1, oI (w0 &&& (255 : Int32)), oN i1, oN (1 + i1), oR r13, oR r15, oN i2] [(.int ((Int32.ofNat (1 + i1)) + (Int32.ofNat (1 + i2))))])
    rw [show ((Int32.ofNat (1 + i1)) + (Int32.ofNat (1 + i2))) = (Int32.ofNat ((1 + i1) + (1 + i2))) from own_add (1 + i1) (1 + i2)]
    show own_Go p e below KK T15 (mkF m 136 #[oR q1, oI (w0 &&& (255 : Int32)), oN i1, oN (1 + i1), oR r13, oR r15, oN i2] [(.int (Int32.ofNat ((1 + i1) + (1 + i2))))])
    refine own_at (fun t k => XS.istoreN X15.here hx rfl (hb hby d_prog_18_4_136) rfl (l' := #[oR q1, oI (w0 &&& (255 : Int32)), oN i1, oN ((1 + i1) + (1 + i2)), oR r13, oR r15, oN i2]) rfl k) ?_
    show own_Go p e below KK T15 (mkF m 137 #[oR q1, oI (w0 &&& (255 : Int32)), oN i1, oN ((1 + i1) + (1 + i2)), oR r13, oR r15, oN i2] [])
    refine own_at (fun t k => XS.iloadN X15.here hx rfl (hb hby d_prog_18_4_137) rfl k) ?_
    show own_Go p e below KK T15 (mkF m 138 #[oR q1, oI (w0 &&& (255 : Int32)), oN i1, oN ((1 + i1) + (1 + i2)), oR r13, oR r15, oN i2] [(.int (w0 &&& (255 : Int32)))])
    refine own_at (fun t k => XS.bipush X15.here hx rfl (hb hby d_prog_18_4_138) k) ?_
    show own_Go p e below KK T15 (mkF m 140 #[oR q1, oI (w0 &&& (255 : Int32)), oN i1, oN ((1 + i1) + (1 + i2)), oR r13, oR r15, oN i2] [(.int 8), (.int (w0 &&& (255 : Int32)))])
    refine own_at (fun t k => XS.iand X15.here hx rfl (hb hby d_prog_18_4_140) rfl k) ?_
    show own_Go p e below KK T15 (mkF m 141 #[oR q1, oI (w0 &&& (255 : Int32)), oN i1, oN ((1 + i1) + (1 + i2)), oR r13, oR r15, oN i2] [(.int ((w0 &&& (255 : Int32)) &&& (8 : Int32)))])
    have hc141 : ((w0 &&& (255 : Int32)) &&& (8 : Int32)) = (0 : Int32) := hfl.2.2.2.2.mpr rfl
    refine own_at (fun t k => XS.ifNo X15.here hx rfl (hb hby d_prog_18_4_141) rfl (Jvm.Free.XT.i0_ne_f hc141) k) ?_
    show own_Go p e below KK T15 (mkF m 144 #[oR q1, oI (w0 &&& (255 : Int32)), oN i1, oN ((1 + i1) + (1 + i2)), oR r13, oR r15, oN i2] [])
    refine own_at (fun t k => XS.aconstNull X15.here hx rfl (hb hby d_prog_18_4_144) k) ?_
    show own_Go p e below KK T15 (mkF m 145 #[oR q1, oI (w0 &&& (255 : Int32)), oN i1, oN ((1 + i1) + (1 + i2)), oR r13, oR r15, oN i2] [.null])
    refine own_at (fun t k => XS.goto X15.here hx rfl (pc0 := 145) (pc' := 155) rfl (hb hby d_prog_18_4_145) (by decide) (by decide) k) ?_
    show own_Go p e below KK T15 (mkF m 155 #[oR q1, oI (w0 &&& (255 : Int32)), oN i1, oN ((1 + i1) + (1 + i2)), oR r13, oR r15, oN i2] [.null])
    refine own_at (fun t k => XS.astore X15.here hx rfl (hb hby d_prog_18_4_155) rfl rfl (l' := #[oR q1, oI (w0 &&& (255 : Int32)), oN i1, oN ((1 + i1) + (1 + i2)), oR r13, oR r15, .val .null]) rfl k) ?_
    show own_Go p e below KK T15 (mkF m 157 #[oR q1, oI (w0 &&& (255 : Int32)), oN i1, oN ((1 + i1) + (1 + i2)), oR r13, oR r15, .val .null] [])
    refine own_at (fun t k => XS.aload X15.here hx rfl (hb hby d_prog_18_4_157) rfl rfl k) ?_
    show own_Go p e below KK T15 (mkF m 159 #[oR q1, oI (w0 &&& (255 : Int32)), oN i1, oN ((1 + i1) + (1 + i2)), oR r13, oR r15, .val .null] [.null])
    refine own_at (fun t k => XS.ifnonnullNo X15.here hx rfl (hb hby d_prog_18_4_159) rfl k) ?_
    show own_Go p e below KK T15 (mkF m 162 #[oR q1, oI (w0 &&& (255 : Int32)), oN i1, oN ((1 + i1) + (1 + i2)), oR r13, oR r15, .val .null] [])
    refine own_at (fun t k => XS.iloadN X15.here hx rfl (hb hby d_prog_18_4_162) rfl k) ?_
    show own_Go p e below KK T15 (mkF m 163 #[oR q1, oI (w0 &&& (255 : Int32)), oN i1, oN ((1 + i1) + (1 + i2)), oR r13, oR r15, .val .null] [(.int (Int32.ofNat ((1 + i1) + (1 + i2))))])
    refine own_at (fun t k => XS.aloadN X15.here hx rfl (hb hby d_prog_18_4_163) rfl rfl k) ?_
    show own_Go p e below KK T15 (mkF m 164 #[oR q1, oI (w0 &&& (255 : Int32)), oN i1, oN ((1 + i1) + (1 + i2)), oR r13, oR r15, .val .null] [(.ref q1), (.int (Int32.ofNat ((1 + i1) + (1 + i2))))])
    refine own_at (fun t k => own_len X15 hx hZ rfl Aq_h15 (N := (Int32.ofNat us.length)) (by rw [List.length_map]) (g := (mkF m 164 #[oR q1, oI (w0 &&& (255 : Int32)), oN i1, oN ((1 + i1) + (1 + i2)), oR r13, oR r15, .val .null] [(.ref q1), (.int (Int32.ofNat ((1 + i1) + (1 + i2))))])) rfl rfl (hb hby d_prog_18_4_164) t k) ?_
    show own_Go p e below KK T15 (mkF m 165 #[oR q1, oI (w0 &&& (255 : Int32)), oN i1, oN ((1 + i1) + (1 + i2)), oR r13, oR r15, .val .null] [(.int (Int32.ofNat us.length)), (.int (Int32.ofNat ((1 + i1) + (1 + i2))))])
    have hc165 : (Int32.ofNat ((1 + i1) + (1 + i2))) = (Int32.ofNat us.length) := by rw [hat]
    refine own_at (fun t k => XS.icmpYes X15.here hx rfl (pc0 := 165) (pc' := 185) rfl (hb hby d_prog_18_4_165) rfl (Jvm.Free.XT.ii_eq_t hc165) (by decide) (by decide) k) ?_
    show own_Go p e below KK T15 (mkF m 185 #[oR q1, oI (w0 &&& (255 : Int32)), oN i1, oN ((1 + i1) + (1 + i2)), oR r13, oR r15, .val .null] [])
    obtain ⟨T17, h17, X17, e17, E17, A17, D17, -, st17⟩ := newO X15 hx hZ hown (hw _ (List.mem_of_getElem? (i := 31) rfl)) (hw _ (List.mem_of_getElem? (i := 32) rfl)) (hw _ (List.mem_of_getElem? (i := 8) rfl)) rfl (g := (mkF m 185 #[oR q1, oI (w0 &&& (255 : Int32)), oN i1, oN ((1 + i1) + (1 + i2)), oR r13, oR r15, .val .null] [])) rfl (hb hby d_prog_18_4_185) (by decide) (by decide)
    obtain ⟨b17, g17⟩ : ∃ z, z = T15.heap.size := ⟨_, rfl⟩
    rw [← g17] at A17 D17 st17
    have ne_q1_b17 : q1 ≠ b17 := by rw [g17]; exact Nat.ne_of_lt Aq_h15.lt
    have ne_r13_b17 : r13 ≠ b17 := by rw [g17]; exact Nat.ne_of_lt A14_r13_h15.lt
    have ne_r15_b17 : r15 ≠ b17 := by rw [g17]; exact Nat.ne_of_lt A16_r15.lt
    have g_b17 : n0 ≤ b17 := by rw [g17]; exact Zs15
    have sz_b17 : h0.size ≤ b17 := by rw [g17]; exact Kp15.1
    have Aq_h17 : own_A Z h17 q1 "[B" .byte (us.map Value.int) := Aq_h15.ext E17
    have A14_r13_h17 : own_A Z h17 r13 "[B" .byte (((us.map Value.int).drop 1).take i1) := A14_r13_h15.ext E17
    have A16_r15_h17 : own_A Z h17 r15 "[B" .byte (((us.map Value.int).drop ((1 + i1) + 1)).take i2) := A16_r15.ext E17
    have Zs17 : n0 ≤ h17.size := Nat.le_trans Zs15 E17.1
    have Kp17 : Keep h0 h17 [] := Kp15.ext E17
    have E18_b17 : Exa Z h17 b17 "com/example/isimud/isimud/oscore/OscoreOption" := A17
    have F19_b17 : Fld Z h17 b17 "com/example/isimud/isimud/oscore/OscoreOption" "partialIv" "[B" .null := D17 (Or.inr (hw _ (List.mem_of_getElem? (i := 40) rfl))) (ty := (.array .byte)) (by decide)
    have F20_b17 : Fld Z h17 b17 "com/example/isimud/isimud/oscore/OscoreOption" "kidContext" "[B" .null := D17 (Or.inr (hw _ (List.mem_of_getElem? (i := 42) rfl))) (ty := (.array .byte)) (by decide)
    have F21_b17 : Fld Z h17 b17 "com/example/isimud/isimud/oscore/OscoreOption" "kid" "[B" .null := D17 (Or.inr (hw _ (List.mem_of_getElem? (i := 44) rfl))) (ty := (.array .byte)) (by decide)
    refine own_of (fun t k => st17 t k) ?_
    show own_Go p e below KK T17 (mkF m 188 #[oR q1, oI (w0 &&& (255 : Int32)), oN i1, oN ((1 + i1) + (1 + i2)), oR r13, oR r15, .val .null] [(.ref b17)])
    refine own_at (fun t k => XS.dup X17.here hx rfl (hb hby d_prog_18_4_188) rfl rfl k) ?_
    show own_Go p e below KK T17 (mkF m 189 #[oR q1, oI (w0 &&& (255 : Int32)), oN i1, oN ((1 + i1) + (1 + i2)), oR r13, oR r15, .val .null] [(.ref b17), (.ref b17)])
    refine own_at (fun t k => XS.aload X17.here hx rfl (hb hby d_prog_18_4_189) rfl rfl k) ?_
    show own_Go p e below KK T17 (mkF m 191 #[oR q1, oI (w0 &&& (255 : Int32)), oN i1, oN ((1 + i1) + (1 + i2)), oR r13, oR r15, .val .null] [(.ref r13), (.ref b17), (.ref b17)])
    refine own_at (fun t k => XS.aload X17.here hx rfl (hb hby d_prog_18_4_191) rfl rfl k) ?_
    show own_Go p e below KK T17 (mkF m 193 #[oR q1, oI (w0 &&& (255 : Int32)), oN i1, oN ((1 + i1) + (1 + i2)), oR r13, oR r15, .val .null] [(.ref r15), (.ref r13), (.ref b17), (.ref b17)])
    refine own_at (fun t k => XS.aload X17.here hx rfl (hb hby d_prog_18_4_193) rfl rfl k) ?_
    show own_Go p e below KK T17 (mkF m 195 #[oR q1, oI (w0 &&& (255 : Int32)), oN i1, oN ((1 + i1) + (1 + i2)), oR r13, oR r15, .val .null] [.null, (.ref r15), (.ref r13), (.ref b17), (.ref b17)])
    obtain ⟨_, _, ⟨T22, L22, k22, n22⟩, -, X22, ⟨Lc22, hQ22, l22, y22, z22⟩, st22⟩ := X17.specialBack hx (y := (⟨"com/example/isimud/isimud/oscore/OscoreOption", "<init>", "([B[B[B)V"⟩ : MethodName)) rfl hown (mvT hZ (hw _ (List.mem_of_getElem? (i := 33) rfl))) (mvT hZ (hw _ (List.mem_of_getElem? (i := 34) rfl))) (mvT hZ (hw _ (List.mem_of_getElem? (i := 35) rfl))) (by decide) (backOf (W := 1) (rm_ctor l Z a0 hw [] b17 (.ref r13) (.ref r15) .null  h17 n0 Zs17 F19_b17 F20_b17 F21_b17 E18_b17 g_b17 rfl rfl rfl) hZ (hw _ (List.mem_of_getElem? (i := 35) rfl)) (hw _ (List.mem_of_getElem? (i := 8) rfl)) (by decide) (by decide)) (g := (mkF m 195 #[oR q1, oI (w0 &&& (255 : Int32)), oN i1, oN ((1 + i1) + (1 + i2)), oR r13, oR r15, .val .null] [.null, (.ref r15), (.ref r13), (.ref b17), (.ref b17)])) rfl (by rw [hml]; rfl) (Steps.refl _) (a := b17) (argsL := [(.ref r13), (.ref r15), .null]) (rest := [(.ref b17)]) (lenOf pd___B_B_B_V rfl) rfl (by show 2 * 0 + _ ≤ _; exact Nat.le_of_eq rfl) (hb hby d_prog_18_4_195) (fun _ _ => ⟨rfl, e17, (by decide : 3 + 0 ≤ _), (by decide : 29 + 0 ≤ _)⟩)
    dsimp only [Pt.U, Pt.locs, Pt.cells, Pt.slots] at X22 l22 y22 z22 st22 hQ22
    subst l22 y22 z22
    obtain ⟨rfl, N22q, K22, Ex22, Fx22, Fy22, Fz22⟩ := hQ22
    have Aq_h22 : own_A Z T22.heap q1 "[B" .byte (us.map Value.int) := Aq_h17.keep K22 (ninS ne_q1_b17 nin0)
    have A14_r13_h22 : own_A Z T22.heap r13 "[B" .byte (((us.map Value.int).drop 1).take i1) := A14_r13_h17.keep K22 (ninS ne_r13_b17 nin0)
    have A16_r15_h22 : own_A Z T22.heap r15 "[B" .byte (((us.map Value.int).drop ((1 + i1) + 1)).take i2) := A16_r15_h17.keep K22 (ninS ne_r15_b17 nin0)
    have Zs22 : n0 ≤ T22.heap.size := Nat.le_trans Zs17 K22.1
    have Kp22 : Keep h0 T22.heap [] := Kp17.trans K22 (allS (Or.inr sz_b17) all0)
    have E23_b17 : Exa Z T22.heap b17 "com/example/isimud/isimud/oscore/OscoreOption" := Ex22
    have F24_b17 : Fld Z T22.heap b17 "com/example/isimud/isimud/oscore/OscoreOption" "partialIv" "[B" (.ref r13) := Fx22
    have F25_b17 : Fld Z T22.heap b17 "com/example/isimud/isimud/oscore/OscoreOption" "kidContext" "[B" (.ref r15) := Fy22
    have F26_b17 : Fld Z T22.heap b17 "com/example/isimud/isimud/oscore/OscoreOption" "kid" "[B" .null := Fz22
    have N22 := Fr.app N15 N22q
    refine own_of (fun t k => st22.trans k) ?_
    show own_Go p e below KK T22 (mkF m 198 #[oR q1, oI (w0 &&& (255 : Int32)), oN i1, oN ((1 + i1) + (1 + i2)), oR r13, oR r15, .val .null] [(.ref b17)])
    subst hKK
    exact own_retA X22 hx hlk rfl Bd.returns rfl (hb hby d_prog_18_4_198) ⟨b17, (.ref r13), (.ref r15), .null, rfl, N22, Kp22, g_b17, sz_b17, E23_b17, F24_b17, F25_b17, F26_b17, own_Os (fun q => hc71 (by rw [q]; rfl)) A14_r13_h22, ⟨r15, rfl, A16_r15_h22⟩, rfl⟩ (Nat.le_of_ble_eq_true rfl) (Nat.le_of_ble_eq_true rfl)
set_option maxRecDepth 65536 in
set_option maxHeartbeats 40000000 in
theorem rm_read11 (l : Launch) (Z : State) (a0 : Array Value) (hw : ∀ d ∈ tables_1, d.before a0 Z = true) (ws : List Jvm.Cond) (q1 : Addr) (us : List Int32) (i1 i2 : Nat) (w0 w1 : Int32) (h0 : Heap) (n0 : Nat) (Z0 : n0 ≤ h0.size) (Aq : own_A Z h0 q1 "[B" .byte (us.map Value.int)) (hw0 : us[0]? = some w0) (hfl : own_flag w0 i1 true true) (hi1 : i1 ≤ 5) (hl : us.length ≤ 13) (hw1 : us[1 + i1]? = some w1) (hw1b : (w1 &&& (255 : Int32)) = Int32.ofNat i2) (hi2 : i2 ≤ 3) (hat : ((1 + i1) + (1 + i2)) ≤ us.length) :
    MetFree l (⟨"com/example/isimud/isimud/oscore/OscoreOption", "read", "([B)Lcom/example/isimud/isimud/oscore/OscoreOption;"⟩ : MethodName) (head1 (Jvm.Cond.code (⟨"com/example/isimud/isimud/oscore/OscoreOption", "read", "([B)Lcom/example/isimud/isimud/oscore/OscoreOption;"⟩ : MethodName) prog_18_method_4_code 7 (some (.object "com/example/isimud/isimud/oscore/OscoreOption")) :: ws) ({ frames := 4, cells := 4, slots := 42, locals := 84 } : Room)) (fun a U => a = #[(.ref q1)] ∧ Z.Warmed39 U.vm ∧ U.heap = h0) (fun _ _ _ _ _ => True) (fun _ U o U' => ∃ v L, o = .returned v ∧ own_Qrd Z (if i1 = 0 then none else some (((us.map Value.int).drop 1).take i1)) (some (((us.map Value.int).drop ((1 + i1) + 1)).take i2)) (some (((us.map Value.int).drop ((1 + i1) + (1 + i2))).take (us.length - ((1 + i1) + (1 + i2))))) h0 n0 v U'.heap L ∧ FrameEnd U o U' L ({ frames := 4, cells := 4, slots := 42, locals := 84 } : Room).cells ({ frames := 4, cells := 4, slots := 42, locals := 84 } : Room).slots) := by
  refine MetFree.of_bodySF (plainFor_of_name pn_com_example_isimud_isimud_oscore_OscoreOption) hisR ?_
  intro p e s m args below meth c s₁ Bd hml0 hP hK
  obtain ⟨rfl, hZ, hh⟩ := hP
  have hx := Bd.exec
  have hby := Bd.bytes
  have hlk : meth.locks = false := BodyLoose.notSynchronized Bd
  have hml : c.maxLocals = 7 := hml0
  have hown : s.vm.findClass "com/example/isimud/isimud/oscore/OscoreOption" = some m.cls := findClass_of_methodNamed Bd.named
  have hnm := (name_of_methodNamed Bd.named Bd.method).1
  have X0 : Stand p l e ({ frames := 4, cells := 4, slots := 42, locals := 84 } : Room) s m #[(.ref q1)] below meth c s₁ [] 0 0 := Stand.of_body Bd
  have e0 : s₁.heap = h0 := by rw [← hh, Bd.state]; rfl
  have N0 := Fr.nil n0
  refine own_cast (K := own_K s (own_Qrd Z (if i1 = 0 then none else some (((us.map Value.int).drop 1).take i1)) (some (((us.map Value.int).drop ((1 + i1) + 1)).take i2)) (some (((us.map Value.int).drop ((1 + i1) + (1 + i2))).take (us.length - ((1 + i1) + (1 + i2))))) h0 n0) 4 42) (ef_prog_18_4 m q1) ?_
  generalize hKK : own_K s (own_Qrd Z (if i1 = 0 then none else some (((us.map Value.int).drop 1).take i1)) (some (((us.map Value.int).drop ((1 + i1) + 1)).take i2)) (some (((us.map Value.int).drop ((1 + i1) + (1 + i2))).take (us.length - ((1 + i1) + (1 + i2))))) h0 n0) 4 42 = KK
  show own_Go p e below KK s₁ (mkF m 0 #[oR q1, oU, oU, oU, oU, oU, oU] [])
  have Kp0 : Keep h0 h0 [] := Keep.refl _ _
  refine own_at (fun t k => XS.aloadN X0.here hx rfl (hb hby d_prog_18_4_0) rfl rfl k) ?_
  show own_Go p e below KK s₁ (mkF m 1 #[oR q1, oU, oU, oU, oU, oU, oU] [(.ref q1)])
  refine own_at (fun t k => own_len X0 hx hZ e0 Aq (N := (Int32.ofNat us.length)) (by rw [List.length_map]) (g := (mkF m 1 #[oR q1, oU, oU, oU, oU, oU, oU] [(.ref q1)])) rfl rfl (hb hby d_prog_18_4_1) t k) ?_
  show own_Go p e below KK s₁ (mkF m 2 #[oR q1, oU, oU, oU, oU, oU, oU] [(.int (Int32.ofNat us.length))])
  have hc2 : ¬ ((Int32.ofNat us.length) = (0 : Int32)) := (fun q => absurd ((own_eq (b := 0) (by omega) (by omega)).mp q) (by omega))
  refine own_at (fun t k => XS.ifYes X0.here hx rfl (pc0 := 2) (pc' := 9) rfl (hb hby d_prog_18_4_2) rfl (Jvm.Free.XT.i0_ne_t hc2) (by decide) (by decide) k) ?_
  show own_Go p e below KK s₁ (mkF m 9 #[oR q1, oU, oU, oU, oU, oU, oU] [])
  refine own_at (fun t k => XS.aloadN X0.here hx rfl (hb hby d_prog_18_4_9) rfl rfl k) ?_
  show own_Go p e below KK s₁ (mkF m 10 #[oR q1, oU, oU, oU, oU, oU, oU] [(.ref q1)])
  refine own_at (fun t k => XS.iconst X0.here hx rfl (hb hby d_prog_18_4_10) k) ?_
  show own_Go p e below KK s₁ (mkF m 11 #[oR q1, oU, oU, oU, oU, oU, oU] [(.int 0), (.ref q1)])
  refine own_at (fun t k => own_ldB X0 hx hZ e0 Aq (j := (0 : Int32)) (i := 0) (v := (.int w0)) (by decide) (by decide) (own_mget hw0) (g := (mkF m 11 #[oR q1, oU, oU, oU, oU, oU, oU] [(.int 0), (.ref q1)])) rfl rfl (hb hby d_prog_18_4_11) t k) ?_
  show own_Go p e below KK s₁ (mkF m 12 #[oR q1, oU, oU, oU, oU, oU, oU] [(.int w0)])
  refine own_at (fun t k => XS.sipush X0.here hx rfl (hb hby d_prog_18_4_12) k) ?_
  show own_Go p e below KK s₁ (mkF m 15 #[oR q1, oU, oU, oU, oU, oU, oU] [(.int 255), (.int w0)])
  refine own_at (fun t k => XS.iand X0.here hx rfl (hb hby d_prog_18_4_15) rfl k) ?_
  show own_Go p e below KK s₁ (mkF m 16 #[oR q1, oU, oU, oU, oU, oU, oU] [(.int (w0 &&& (255 : Int32)))])
  refine own_at (fun t k => XS.istoreN X0.here hx rfl (hb hby d_prog_18_4_16) rfl (l' := #[oR q1, oI (w0 &&& (255 : Int32)), oU, oU, oU, oU, oU]) rfl k) ?_
  show own_Go p e below KK s₁ (mkF m 17 #[oR q1, oI (w0 &&& (255 : Int32)), oU, oU, oU, oU, oU] [])
  refine own_at (fun t k => XS.iloadN X0.here hx rfl (hb hby d_prog_18_4_17) rfl k) ?_
  show own_Go p e below KK s₁ (mkF m 18 #[oR q1, oI (w0 &&& (255 : Int32)), oU, oU, oU, oU, oU] [(.int (w0 &&& (255 : Int32)))])
  refine own_at (fun t k => XS.bipush X0.here hx rfl (hb hby d_prog_18_4_18) k) ?_
  show own_Go p e below KK s₁ (mkF m 20 #[oR q1, oI (w0 &&& (255 : Int32)), oU, oU, oU, oU, oU] [(.int 7), (.int (w0 &&& (255 : Int32)))])
  refine own_at (fun t k => XS.iand X0.here hx rfl (hb hby d_prog_18_4_20) rfl k) ?_
  show own_Go p e below KK s₁ (mkF m 21 #[oR q1, oI (w0 &&& (255 : Int32)), oU, oU, oU, oU, oU] [(.int ((w0 &&& (255 : Int32)) &&& (7 : Int32)))])
  rw [show ((w0 &&& (255 : Int32)) &&& (7 : Int32)) = (Int32.ofNat i1) from hfl.2.1]
  show own_Go p e below KK s₁ (mkF m 21 #[oR q1, oI (w0 &&& (255 : Int32)), oU, oU, oU, oU, oU] [(.int (Int32.ofNat i1))])
  refine own_at (fun t k => XS.istoreN X0.here hx rfl (hb hby d_prog_18_4_21) rfl (l' := #[oR q1, oI (w0 &&& (255 : Int32)), oN i1, oU, oU, oU, oU]) rfl k) ?_
  show own_Go p e below KK s₁ (mkF m 22 #[oR q1, oI (w0 &&& (255 : Int32)), oN i1, oU, oU, oU, oU] [])
  refine own_at (fun t k => XS.iloadN X0.here hx rfl (hb hby d_prog_18_4_22) rfl k) ?_
  show own_Go p e below KK s₁ (mkF m 23 #[oR q1, oI (w0 &&& (255 : Int32)), oN i1, oU, oU, oU, oU] [(.int (w0 &&& (255 : Int32)))])
  refine own_at (fun t k => XS.sipush X0.here hx rfl (hb hby d_prog_18_4_23) k) ?_
  show own_Go p e below KK s₁ (mkF m 26 #[oR q1, oI (w0 &&& (255 : Int32)), oN i1, oU, oU, oU, oU] [(.int 224), (.int (w0 &&& (255 : Int32)))])
  refine own_at (fun t k => XS.iand X0.here hx rfl (hb hby d_prog_18_4_26) rfl k) ?_
  show own_Go p e below KK s₁ (mkF m 27 #[oR q1, oI (w0 &&& (255 : Int32)), oN i1, oU, oU, oU, oU] [(.int ((w0 &&& (255 : Int32)) &&& (224 : Int32)))])
  have hc27 : ((w0 &&& (255 : Int32)) &&& (224 : Int32)) = (0 : Int32) := hfl.1
  refine own_at (fun t k => XS.ifNo X0.here hx rfl (hb hby d_prog_18_4_27) rfl (Jvm.Free.XT.i0_ne_f hc27) k) ?_
  show own_Go p e below KK s₁ (mkF m 30 #[oR q1, oI (w0 &&& (255 : Int32)), oN i1, oU, oU, oU, oU] [])
  refine own_at (fun t k => XS.iloadN X0.here hx rfl (hb hby d_prog_18_4_30) rfl k) ?_
  show own_Go p e below KK s₁ (mkF m 31 #[oR q1, oI (w0 &&& (255 : Int32)), oN i1, oU, oU, oU, oU] [(.int (Int32.ofNat i1))])
  refine own_at (fun t k => XS.iconst X0.here hx rfl (hb hby d_prog_18_4_31) k) ?_
  show own_Go p e below KK s₁ (mkF m 32 #[oR q1, oI (w0 &&& (255 : Int32)), oN i1, oU, oU, oU, oU] [(.int 5), (.int (Int32.ofNat i1))])
  have hc32 : ¬ ((5 : Int32) < (Int32.ofNat i1)) := (fun q => absurd ((own_lt (a := 5) (by omega) (by omega)).mp q) (by omega))
  refine own_at (fun t k => XS.icmpNo X0.here hx rfl (hb hby d_prog_18_4_32) rfl (Jvm.Free.XT.ii_gt_f hc32) k) ?_
  show own_Go p e below KK s₁ (mkF m 35 #[oR q1, oI (w0 &&& (255 : Int32)), oN i1, oU, oU, oU, oU] [])
  refine own_at (fun t k => XS.iloadN X0.here hx rfl (hb hby d_prog_18_4_35) rfl k) ?_
  show own_Go p e below KK s₁ (mkF m 36 #[oR q1, oI (w0 &&& (255 : Int32)), oN i1, oU, oU, oU, oU] [(.int (w0 &&& (255 : Int32)))])
  have hc36 : ¬ ((w0 &&& (255 : Int32)) = (0 : Int32)) := hfl.2.2.1
  refine own_at (fun t k => XS.ifYes X0.here hx rfl (pc0 := 36) (pc' := 68) rfl (hb hby d_prog_18_4_36) rfl (Jvm.Free.XT.i0_ne_t hc36) (by decide) (by decide) k) ?_
  show own_Go p e below KK s₁ (mkF m 68 #[oR q1, oI (w0 &&& (255 : Int32)), oN i1, oU, oU, oU, oU] [])
  refine own_at (fun t k => XS.iconst X0.here hx rfl (hb hby d_prog_18_4_68) k) ?_
  show own_Go p e below KK s₁ (mkF m 69 #[oR q1, oI (w0 &&& (255 : Int32)), oN i1, oU, oU, oU, oU] [(.int 1)])
  refine own_at (fun t k => XS.istoreN X0.here hx rfl (hb hby d_prog_18_4_69) rfl (l' := #[oR q1, oI (w0 &&& (255 : Int32)), oN i1, oI 1, oU, oU, oU]) rfl k) ?_
  show own_Go p e below KK s₁ (mkF m 70 #[oR q1, oI (w0 &&& (255 : Int32)), oN i1, oI 1, oU, oU, oU] [])
  refine own_at (fun t k => XS.iloadN X0.here hx rfl (hb hby d_prog_18_4_70) rfl k) ?_
  show own_Go p e below KK s₁ (mkF m 71 #[oR q1, oI (w0 &&& (255 : Int32)), oN i1, oI 1, oU, oU, oU] [(.int (Int32.ofNat i1))])
  by_cases hc71 : (Int32.ofNat i1) = (0 : Int32)
  · refine own_at (fun t k => XS.ifNo X0.here hx rfl (hb hby d_prog_18_4_71) rfl (Jvm.Free.XT.i0_ne_f hc71) k) ?_
    show own_Go p e below KK s₁ (mkF m 74 #[oR q1, oI (w0 &&& (255 : Int32)), oN i1, oI 1, oU, oU, oU] [])
    refine own_at (fun t k => XS.aconstNull X0.here hx rfl (hb hby d_prog_18_4_74) k) ?_
    show own_Go p e below KK s₁ (mkF m 75 #[oR q1, oI (w0 &&& (255 : Int32)), oN i1, oI 1, oU, oU, oU] [.null])
    refine own_at (fun t k => XS.goto X0.here hx rfl (pc0 := 75) (pc' := 84) rfl (hb hby d_prog_18_4_75) (by decide) (by decide) k) ?_
    show own_Go p e below KK s₁ (mkF m 84 #[oR q1, oI (w0 &&& (255 : Int32)), oN i1, oI 1, oU, oU, oU] [.null])
    refine own_at (fun t k => XS.astore X0.here hx rfl (hb hby d_prog_18_4_84) rfl rfl (l' := #[oR q1, oI (w0 &&& (255 : Int32)), oN i1, oI 1, .val .null, oU, oU]) rfl k) ?_
    show own_Go p e below KK s₁ (mkF m 86 #[oR q1, oI (w0 &&& (255 : Int32)), oN i1, oI 1, .val .null, oU, oU] [])
    refine own_at (fun t k => XS.iloadN X0.here hx rfl (hb hby d_prog_18_4_86) rfl k) ?_
    show own_Go p e below KK s₁ (mkF m 87 #[oR q1, oI (w0 &&& (255 : Int32)), oN i1, oI 1, .val .null, oU, oU] [(.int 1)])
    refine own_at (fun t k => XS.iloadN X0.here hx rfl (hb hby d_prog_18_4_87) rfl k) ?_
    show own_Go p e below KK s₁ (mkF m 88 #[oR q1, oI (w0 &&& (255 : Int32)), oN i1, oI 1, .val .null, oU, oU] [(.int (Int32.ofNat i1)), (.int 1)])
    refine own_at (fun t k => XS.iadd X0.here hx rfl (hb hby d_prog_18_4_88) rfl k) ?_
    show own_Go p e below KK s₁ (mkF m 89 #[oR q1, oI (w0 &&& (255 : Int32)), oN i1, oI 1, .val .null, oU, oU] [(.int ((1 : Int32) + (Int32.ofNat i1)))])
    rw [show ((1 : Int32) + (Int32.ofNat i1)) = (Int32.ofNat (1 + i1)) from own_add 1 i1]
    show own_Go p e below KK s₁ (mkF m 89 #[oR q1, oI (w0 &&& (255 : Int32)), oN i1, oI 1, .val .null, oU, oU] [(.int (Int32.ofNat (1 + i1)))])
    refine own_at (fun t k => XS.istoreN X0.here hx rfl (hb hby d_prog_18_4_89) rfl (l' := #[oR q1, oI (w0 &&& (255 : Int32)), oN i1, oN (1 + i1), .val .null, oU, oU]) rfl k) ?_
    show own_Go p e below KK s₁ (mkF m 90 #[oR q1, oI (w0 &&& (255 : Int32)), oN i1, oN (1 + i1), .val .null, oU, oU] [])
    refine own_at (fun t k => XS.aconstNull X0.here hx rfl (hb hby d_prog_18_4_90) k) ?_
    show own_Go p e below KK s₁ (mkF m 91 #[oR q1, oI (w0 &&& (255 : Int32)), oN i1, oN (1 + i1), .val .null, oU, oU] [.null])
    refine own_at (fun t k => XS.astore X0.here hx rfl (hb hby d_prog_18_4_91) rfl rfl (l' := #[oR q1, oI (w0 &&& (255 : Int32)), oN i1, oN (1 + i1), .val .null, .val .null, oU]) rfl k) ?_
    show own_Go p e below KK s₁ (mkF m 93 #[oR q1, oI (w0 &&& (255 : Int32)), oN i1, oN (1 + i1), .val .null, .val .null, oU] [])
    refine own_at (fun t k => XS.iloadN X0.here hx rfl (hb hby d_prog_18_4_93) rfl k) ?_
    show own_Go p e below KK s₁ (mkF m 94 #[oR q1, oI (w0 &&& (255 : Int32)), oN i1, oN (1 + i1), .val .null, .val .null, oU] [(.int (w0 &&& (255 : Int32)))])
    refine own_at (fun t k => XS.bipush X0.here hx rfl (hb hby d_prog_18_4_94) k) ?_
    show own_Go p e below KK s₁ (mkF m 96 #[oR q1, oI (w0 &&& (255 : Int32)), oN i1, oN (1 + i1), .val .null, .val .null, oU] [(.int 16), (.int (w0 &&& (255 : Int32)))])
    refine own_at (fun t k => XS.iand X0.here hx rfl (hb hby d_prog_18_4_96) rfl k) ?_
    show own_Go p e below KK s₁ (mkF m 97 #[oR q1, oI (w0 &&& (255 : Int32)), oN i1, oN (1 + i1), .val .null, .val .null, oU] [(.int ((w0 &&& (255 : Int32)) &&& (16 : Int32)))])
    have hc97 : ¬ (((w0 &&& (255 : Int32)) &&& (16 : Int32)) = (0 : Int32)) := (fun q => Bool.noConfusion (hfl.2.2.2.1.mp q))
    refine own_at (fun t k => XS.ifNo X0.here hx rfl (hb hby d_prog_18_4_97) rfl (Jvm.Free.XT.i0_eq_f hc97) k) ?_
    show own_Go p e below KK s₁ (mkF m 100 #[oR q1, oI (w0 &&& (255 : Int32)), oN i1, oN (1 + i1), .val .null, .val .null, oU] [])
    refine own_at (fun t k => XS.iloadN X0.here hx rfl (hb hby d_prog_18_4_100) rfl k) ?_
    show own_Go p e below KK s₁ (mkF m 101 #[oR q1, oI (w0 &&& (255 : Int32)), oN i1, oN (1 + i1), .val .null, .val .null, oU] [(.int (Int32.ofNat (1 + i1)))])
    refine own_at (fun t k => XS.aloadN X0.here hx rfl (hb hby d_prog_18_4_101) rfl rfl k) ?_
    show own_Go p e below KK s₁ (mkF m 102 #[oR q1, oI (w0 &&& (255 : Int32)), oN i1, oN (1 + i1), .val .null, .val .null, oU] [(.ref q1), (.int (Int32.ofNat (1 + i1)))])
    refine own_at (fun t k => own_len X0 hx hZ e0 Aq (N := (Int32.ofNat us.length)) (by rw [List.length_map]) (g := (mkF m 102 #[oR q1, oI (w0 &&& (255 : Int32)), oN i1, oN (1 + i1), .val .null, .val .null, oU] [(.ref q1), (.int (Int32.ofNat (1 + i1)))])) rfl rfl (hb hby d_prog_18_4_102) t k) ?_
    show own_Go p e below KK s₁ (mkF m 103 #[oR q1, oI (w0 &&& (255 : Int32)), oN i1, oN (1 + i1), .val .null, .val .null, oU] [(.int (Int32.ofNat us.length)), (.int (Int32.ofNat (1 + i1)))])
    have hc103 : (Int32.ofNat (1 + i1)) < (Int32.ofNat us.length) := (own_lt (by omega) (by omega)).mpr (by omega)
    refine own_at (fun t k => XS.icmpNo X0.here hx rfl (hb hby d_prog_18_4_103) rfl (Jvm.Free.XT.ii_ge_f hc103) k) ?_
    show own_Go p e below KK s₁ (mkF m 106 #[oR q1, oI (w0 &&& (255 : Int32)), oN i1, oN (1 + i1), .val .null, .val .null, oU] [])
    refine own_at (fun t k => XS.aloadN X0.here hx rfl (hb hby d_prog_18_4_106) rfl rfl k) ?_
    show own_Go p e below KK s₁ (mkF m 107 #[oR q1, oI (w0 &&& (255 : Int32)), oN i1, oN (1 + i1), .val .null, .val .null, oU] [(.ref q1)])
    refine own_at (fun t k => XS.iloadN X0.here hx rfl (hb hby d_prog_18_4_107) rfl k) ?_
    show own_Go p e below KK s₁ (mkF m 108 #[oR q1, oI (w0 &&& (255 : Int32)), oN i1, oN (1 + i1), .val .null, .val .null, oU] [(.int (Int32.ofNat (1 + i1))), (.ref q1)])
    refine own_at (fun t k => own_ldB X0 hx hZ e0 Aq (j := (Int32.ofNat (1 + i1))) (i := (1 + i1)) (v := (.int w1)) (own_ofNat (by omega)).2.1 (own_ofNat (by omega)).1 (own_mget hw1) (g := (mkF m 108 #[oR q1, oI (w0 &&& (255 : Int32)), oN i1, oN (1 + i1), .val .null, .val .null, oU] [(.int (Int32.ofNat (1 + i1))), (.ref q1)])) rfl rfl (hb hby d_prog_18_4_108) t k) ?_
    show own_Go p e below KK s₁ (mkF m 109 #[oR q1, oI (w0 &&& (255 : Int32)), oN i1, oN (1 + i1), .val .null, .val .null, oU] [(.int w1)])
    refine own_at (fun t k => XS.sipush X0.here hx rfl (hb hby d_prog_18_4_109) k) ?_
    show own_Go p e below KK s₁ (mkF m 112 #[oR q1, oI (w0 &&& (255 : Int32)), oN i1, oN (1 + i1), .val .null, .val .null, oU] [(.int 255), (.int w1)])
    refine own_at (fun t k => XS.iand X0.here hx rfl (hb hby d_prog_18_4_112) rfl k) ?_
    show own_Go p e below KK s₁ (mkF m 113 #[oR q1, oI (w0 &&& (255 : Int32)), oN i1, oN (1 + i1), .val .null, .val .null, oU] [(.int (w1 &&& (255 : Int32)))])
    rw [show (w1 &&& (255 : Int32)) = (Int32.ofNat i2) from hw1b]
    show own_Go p e below KK s₁ (mkF m 113 #[oR q1, oI (w0 &&& (255 : Int32)), oN i1, oN (1 + i1), .val .null, .val .null, oU] [(.int (Int32.ofNat i2))])
    refine own_at (fun t k => XS.goto X0.here hx rfl (pc0 := 113) (pc' := 117) rfl (hb hby d_prog_18_4_113) (by decide) (by decide) k) ?_
    show own_Go p e below KK s₁ (mkF m 117 #[oR q1, oI (w0 &&& (255 : Int32)), oN i1, oN (1 + i1), .val .null, .val .null, oU] [(.int (Int32.ofNat i2))])
    refine own_at (fun t k => XS.istore X0.here hx rfl (hb hby d_prog_18_4_117) rfl (l' := #[oR q1, oI (w0 &&& (255 : Int32)), oN i1, oN (1 + i1), .val .null, .val .null, oN i2]) rfl k) ?_
    show own_Go p e below KK s₁ (mkF m 119 #[oR q1, oI (w0 &&& (255 : Int32)), oN i1, oN (1 + i1), .val .null, .val .null, oN i2] [])
    refine own_at (fun t k => XS.aloadN X0.here hx rfl (hb hby d_prog_18_4_119) rfl rfl k) ?_
    show own_Go p e below KK s₁ (mkF m 120 #[oR q1, oI (w0 &&& (255 : Int32)), oN i1, oN (1 + i1), .val .null, .val .null, oN i2] [(.ref q1)])
    refine own_at (fun t k => XS.iloadN X0.here hx rfl (hb hby d_prog_18_4_120) rfl k) ?_
    show own_Go p e below KK s₁ (mkF m 121 #[oR q1, oI (w0 &&& (255 : Int32)), oN i1, oN (1 + i1), .val .null, .val .null, oN i2] [(.int (Int32.ofNat (1 + i1))), (.ref q1)])
    refine own_at (fun t k => XS.iconst X0.here hx rfl (hb hby d_prog_18_4_121) k) ?_
    show own_Go p e below KK s₁ (mkF m 122 #[oR q1, oI (w0 &&& (255 : Int32)), oN i1, oN (1 + i1), .val .null, .val .null, oN i2] [(.int 1), (.int (Int32.ofNat (1 + i1))), (.ref q1)])
    refine own_at (fun t k => XS.iadd X0.here hx rfl (hb hby d_prog_18_4_122) rfl k) ?_
    show own_Go p e below KK s₁ (mkF m 123 #[oR q1, oI (w0 &&& (255 : Int32)), oN i1, oN (1 + i1), .val .null, .val .null, oN i2] [(.int ((Int32.ofNat (1 + i1)) + (1 : Int32))), (.ref q1)])
    rw [show ((Int32.ofNat (1 + i1)) + (1 : Int32)) = (Int32.ofNat ((1 + i1) + 1)) from own_add (1 + i1) 1]
    show own_Go p e below KK s₁ (mkF m 123 #[oR q1, oI (w0 &&& (255 : Int32)), oN i1, oN (1 + i1), .val .null, .val .null, oN i2] [(.int (Int32.ofNat ((1 + i1) + 1))), (.ref q1)])
    refine own_at (fun t k => XS.iload X0.here hx rfl (hb hby d_prog_18_4_123) rfl k) ?_
    show own_Go p e below KK s₁ (mkF m 125 #[oR q1, oI (w0 &&& (255 : Int32)), oN i1, oN (1 + i1), .val .null, .val .null, oN i2] [(.int (Int32.ofNat i2)), (.int (Int32.ofNat ((1 + i1) + 1))), (.ref q1)])
    obtain ⟨_, _, ⟨T1, L1, k1, n1⟩, -, X1, ⟨Lc1, hQ1, l1, y1, z1⟩, st1⟩ := Jvm.LawKit.callS X0 hx (y := (⟨"com/example/isimud/isimud/oscore/OscoreOption", "part", "([BII)[B"⟩ : MethodName)) hown (mvT hZ (hw _ (List.mem_of_getElem? (i := 10) rfl))) (mvT hZ (hw _ (List.mem_of_getElem? (i := 11) rfl))) (mvT hZ (hw _ (List.mem_of_getElem? (i := 8) rfl))) (mvT hZ (hw _ (List.mem_of_getElem? (i := 12) rfl))) (by decide) (backOf (W := 0) (rm_part l Z a0 hw [] q1 ((1 + i1) + 1) i2 (us.map Value.int) h0 n0 Z0 Aq (by omega) (by rw [List.length_map]; omega) (by rw [List.length_map]; exact hl)) hZ (hw _ (List.mem_of_getElem? (i := 12) rfl)) (hw _ (List.mem_of_getElem? (i := 8) rfl)) (by decide) (by decide)) (g := (mkF m 125 #[oR q1, oI (w0 &&& (255 : Int32)), oN i1, oN (1 + i1), .val .null, .val .null, oN i2] [(.int (Int32.ofNat i2)), (.int (Int32.ofNat ((1 + i1) + 1))), (.ref q1)])) rfl (by rw [hml]; rfl) (argsL := [(.ref q1), (.int (Int32.ofNat ((1 + i1) + 1))), (.int (Int32.ofNat i2))]) (rest := []) (lenOf pd___BII__B rfl) rfl (by show 2 * 0 + _ ≤ _; exact Nat.le_of_eq rfl) (hb hby d_prog_18_4_125) (fun _ _ => ⟨rfl, e0, (by decide : 0 + 1 ≤ _), (by decide : 0 + 13 ≤ _)⟩)
    dsimp only [Pt.U, Pt.locs, Pt.cells, Pt.slots] at X1 l1 y1 z1 st1 hQ1
    subst l1 y1 z1
    obtain ⟨r1, rfl, N1q, K1, g_r1, s_r1, Aq1⟩ := hQ1
    have ne_q1_r1 : q1 ≠ r1 := Nat.ne_of_lt (Nat.lt_of_lt_of_le Aq.lt s_r1)
    have sz_r1 : h0.size ≤ r1 := Nat.le_trans Kp0.1 s_r1
    have Aq_h1 : own_A Z T1.heap q1 "[B" .byte (us.map Value.int) := Aq.keep K1 nin0
    have Zs1 : n0 ≤ T1.heap.size := Nat.le_trans Z0 K1.1
    have Kp1 : Keep h0 T1.heap [] := Kp0.trans K1 all0
    have A2_r1 : own_A Z T1.heap r1 "[B" .byte (((us.map Value.int).drop ((1 + i1) + 1)).take i2) := Aq1
    have N1 := Fr.app N0 N1q
    refine own_of (fun t k => st1 t k) ?_
    show own_Go p e below KK T1 (mkF m 128 #[oR q1, oI (w0 &&& (255 : Int32)), oN i1, oN (1 + i1), .val .null, .val .null, oN i2] [(.ref r1)])
    refine own_at (fun t k => XS.astore X1.here hx rfl (hb hby d_prog_18_4_128) rfl rfl (l' := #[oR q1, oI (w0 &&& (255 : Int32)), oN i1, oN (1 + i1), .val .null, oR r1, oN i2]) rfl k) ?_
    show own_Go p e below KK T1 (mkF m 130 #[oR q1, oI (w0 &&& (255 : Int32)), oN i1, oN (1 + i1), .val .null, oR r1, oN i2] [])
    refine own_at (fun t k => XS.iloadN X1.here hx rfl (hb hby d_prog_18_4_130) rfl k) ?_
    show own_Go p e below KK T1 (mkF m 131 #[oR q1, oI (w0 &&& (255 : Int32)), oN i1, oN (1 + i1), .val .null, oR r1, oN i2] [(.int (Int32.ofNat (1 + i1)))])
    refine own_at (fun t k => XS.iconst X1.here hx rfl (hb hby d_prog_18_4_131) k) ?_
    show own_Go p e below KK T1 (mkF m 132 #[oR q1, oI (w0 &&& (255 : Int32)), oN i1, oN (1 + i1), .val .null, oR r1, oN i2] [(.int 1), (.int (Int32.ofNat (1 + i1)))])
    refine own_at (fun t k => XS.iload X1.here hx rfl (hb hby d_prog_18_4_132) rfl k) ?_
    show own_Go p e below KK T1 (mkF m 134 #[oR q1, oI (w0 &&& (255 : Int32)), oN i1, oN (1 + i1), .val .null, oR r1, oN i2] [(.int (Int32.ofNat i2)), (.int 1), (.int (Int32.ofNat (1 + i1)))])
    refine own_at (fun t k => XS.iadd X1.here hx rfl (hb hby d_prog_18_4_134) rfl k) ?_
    show own_Go p e below KK T1 (mkF m 135 #[oR q1, oI (w0 &&& (255 : Int32)), oN i1, oN (1 + i1), .val .null, oR r1, oN i2] [(.int ((1 : Int32) + (Int32.ofNat i2))), (.int (Int32.ofNat (1 + i1)))])
    rw [show ((1 : Int32) + (Int32.ofNat i2)) = (Int32.ofNat (1 + i2)) from own_add 1 i2]
    show own_Go p e below KK T1 (mkF m 135 #[oR q1, oI (w0 &&& (255 : Int32)), oN i1, oN (1 + i1), .val .null, oR r1, oN i2] [(.int (Int32.ofNat (1 + i2))), (.int (Int32.ofNat (1 + i1)))])
    refine own_at (fun t k => XS.iadd X1.here hx rfl (hb hby d_prog_18_4_135) rfl k) ?_
    show own_Go p e below KK T1 (mkF m 136 #[oR q1, oI (w0 &&& (255 : Int32)), oN i1, oN (1 + i1), .val .null, oR r1, oN i2] [(.int ((Int32.ofNat (1 + i1)) + (Int32.ofNat (1 + i2))))])
    rw [show ((Int32.ofNat (1 + i1)) + (Int32.ofNat (1 + i2))) = (Int32.ofNat ((1 + i1) + (1 + i2))) from own_add (1 + i1) (1 + i2)]
    show own_Go p e below KK T1 (mkF m 136 #[oR q1, oI (w0 &&& (255 : Int32)), oN i1, oN (1 + i1), .val .null, oR r1, oN i2] [(.int (Int32.ofNat ((1 + i1) + (1 + i2))))])
    refine own_at (fun t k => XS.istoreN X1.here hx rfl (hb hby d_prog_18_4_136) rfl (l' := #[oR q1, oI (w0 &&& (255 : Int32)), oN i1, oN ((1 + i1) + (1 + i2)), .val .null, oR r1, oN i2]) rfl k) ?_
    show own_Go p e below KK T1 (mkF m 137 #[oR q1, oI (w0 &&& (255 : Int32)), oN i1, oN ((1 + i1) + (1 + i2)), .val .null, oR r1, oN i2] [])
    refine own_at (fun t k => XS.iloadN X1.here hx rfl (hb hby d_prog_18_4_137) rfl k) ?_
    show own_Go p e below KK T1 (mkF m 138 #[oR q1, oI (w0 &&& (255 : Int32)), oN i1, oN ((1 + i1) + (1 + i2)), .val .null, oR r1, oN i2] [(.int (w0 &&& (255 : Int32)))])
    refine own_at (fun t k => XS.bipush X1.here hx rfl (hb hby d_prog_18_4_138) k) ?_
    show own_Go p e below KK T1 (mkF m 140 #[oR q1, oI (w0 &&& (255 : Int32)), oN i1, oN ((1 + i1) + (1 + i2)), .val .null, oR r1, oN i2] [(.int 8), (.int (w0 &&& (255 : Int32)))])
    refine own_at (fun t k => XS.iand X1.here hx rfl (hb hby d_prog_18_4_140) rfl k) ?_
    show own_Go p e below KK T1 (mkF m 141 #[oR q1, oI (w0 &&& (255 : Int32)), oN i1, oN ((1 + i1) + (1 + i2)), .val .null, oR r1, oN i2] [(.int ((w0 &&& (255 : Int32)) &&& (8 : Int32)))])
    have hc141 : ¬ (((w0 &&& (255 : Int32)) &&& (8 : Int32)) = (0 : Int32)) := (fun q => Bool.noConfusion (hfl.2.2.2.2.mp q))
    refine own_at (fun t k => XS.ifYes X1.here hx rfl (pc0 := 141) (pc' := 148) rfl (hb hby d_prog_18_4_141) rfl (Jvm.Free.XT.i0_ne_t hc141) (by decide) (by decide) k) ?_
    show own_Go p e below KK T1 (mkF m 148 #[oR q1, oI (w0 &&& (255 : Int32)), oN i1, oN ((1 + i1) + (1 + i2)), .val .null, oR r1, oN i2] [])
    refine own_at (fun t k => XS.aloadN X1.here hx rfl (hb hby d_prog_18_4_148) rfl rfl k) ?_
    show own_Go p e below KK T1 (mkF m 149 #[oR q1, oI (w0 &&& (255 : Int32)), oN i1, oN ((1 + i1) + (1 + i2)), .val .null, oR r1, oN i2] [(.ref q1)])
    refine own_at (fun t k => XS.iloadN X1.here hx rfl (hb hby d_prog_18_4_149) rfl k) ?_
    show own_Go p e below KK T1 (mkF m 150 #[oR q1, oI (w0 &&& (255 : Int32)), oN i1, oN ((1 + i1) + (1 + i2)), .val .null, oR r1, oN i2] [(.int (Int32.ofNat ((1 + i1) + (1 + i2)))), (.ref q1)])
    refine own_at (fun t k => XS.aloadN X1.here hx rfl (hb hby d_prog_18_4_150) rfl rfl k) ?_
    show own_Go p e below KK T1 (mkF m 151 #[oR q1, oI (w0 &&& (255 : Int32)), oN i1, oN ((1 + i1) + (1 + i2)), .val .null, oR r1, oN i2] [(.ref q1), (.int (Int32.ofNat ((1 + i1) + (1 + i2)))), (.ref q1)])
    refine own_at (fun t k => own_len X1 hx hZ rfl Aq_h1 (N := (Int32.ofNat us.length)) (by rw [List.length_map]) (g := (mkF m 151 #[oR q1, oI (w0 &&& (255 : Int32)), oN i1, oN ((1 + i1) + (1 + i2)), .val .null, oR r1, oN i2] [(.ref q1), (.int (Int32.ofNat ((1 + i1) + (1 + i2)))), (.ref q1)])) rfl rfl (hb hby d_prog_18_4_151) t k) ?_
    show own_Go p e below KK T1 (mkF m 152 #[oR q1, oI (w0 &&& (255 : Int32)), oN i1, oN ((1 + i1) + (1 + i2)), .val .null, oR r1, oN i2] [(.int (Int32.ofNat us.length)), (.int (Int32.ofNat ((1 + i1) + (1 + i2)))), (.ref q1)])
    obtain ⟨_, _, ⟨T3, L3, k3, n3⟩, -, X3, ⟨Lc3, hQ3, l3, y3, z3⟩, st3⟩ := Jvm.LawKit.callS X1 hx (y := (⟨"java/util/Arrays", "copyOfRange", "([BII)[B"⟩ : MethodName)) hown (mvT hZ (hw _ (List.mem_of_getElem? (i := 13) rfl))) (mvT hZ (hw _ (List.mem_of_getElem? (i := 14) rfl))) (mvT hZ (hw _ (List.mem_of_getElem? (i := 15) rfl))) (mvT hZ (hw _ (List.mem_of_getElem? (i := 16) rfl))) (by decide) (backOf (W := 0) (rm_cor l Z a0 hw [] q1 ((1 + i1) + (1 + i2)) us.length (us.map Value.int) T1.heap n0 Zs1 Aq_h1 (by omega) (by omega) (by rw [List.length_map]; exact Nat.le_refl _) (by rw [List.length_map]; exact hl)) hZ (hw _ (List.mem_of_getElem? (i := 16) rfl)) (hw _ (List.mem_of_getElem? (i := 15) rfl)) (by decide) (by decide)) (g := (mkF m 152 #[oR q1, oI (w0 &&& (255 : Int32)), oN i1, oN ((1 + i1) + (1 + i2)), .val .null, oR r1, oN i2] [(.int (Int32.ofNat us.length)), (.int (Int32.ofNat ((1 + i1) + (1 + i2)))), (.ref q1)])) rfl (by rw [hml]; rfl) (argsL := [(.ref q1), (.int (Int32.ofNat ((1 + i1) + (1 + i2)))), (.int (Int32.ofNat us.length))]) (rest := []) (lenOf pd___BII__B rfl) rfl (by show 2 * 0 + _ ≤ _; exact Nat.le_of_eq rfl) (hb hby d_prog_18_4_152) (fun _ _ => ⟨rfl, rfl, (by decide : 1 + 1 ≤ _), (by decide : 13 + 13 ≤ _)⟩)
    dsimp only [Pt.U, Pt.locs, Pt.cells, Pt.slots] at X3 l3 y3 z3 st3 hQ3
    subst l3 y3 z3
    obtain ⟨r3, rfl, N3q, K3, g_r3, s_r3, Aq3⟩ := hQ3
    have ne_q1_r3 : q1 ≠ r3 := Nat.ne_of_lt (Nat.lt_of_lt_of_le Aq_h1.lt s_r3)
    have ne_r1_r3 : r1 ≠ r3 := Nat.ne_of_lt (Nat.lt_of_lt_of_le A2_r1.lt s_r3)
    have sz_r3 : h0.size ≤ r3 := Nat.le_trans Kp1.1 s_r3
    have Aq_h3 : own_A Z T3.heap q1 "[B" .byte (us.map Value.int) := Aq_h1.keep K3 nin0
    have A2_r1_h3 : own_A Z T3.heap r1 "[B" .byte (((us.map Value.int).drop ((1 + i1) + 1)).take i2) := A2_r1.keep K3 nin0
    have Zs3 : n0 ≤ T3.heap.size := Nat.le_trans Zs1 K3.1
    have Kp3 : Keep h0 T3.heap [] := Kp1.trans K3 all0
    have A4_r3 : own_A Z T3.heap r3 "[B" .byte (((us.map Value.int).drop ((1 + i1) + (1 + i2))).take (us.length - ((1 + i1) + (1 + i2)))) := Aq3
    have N3 := Fr.app N1 N3q
    refine own_of (fun t k => st3 t k) ?_
    show own_Go p e below KK T3 (mkF m 155 #[oR q1, oI (w0 &&& (255 : Int32)), oN i1, oN ((1 + i1) + (1 + i2)), .val .null, oR r1, oN i2] [(.ref r3)])
    refine own_at (fun t k => XS.astore X3.here hx rfl (hb hby d_prog_18_4_155) rfl rfl (l' := #[oR q1, oI (w0 &&& (255 : Int32)), oN i1, oN ((1 + i1) + (1 + i2)), .val .null, oR r1, oR r3]) rfl k) ?_
    show own_Go p e below KK T3 (mkF m 157 #[oR q1, oI (w0 &&& (255 : Int32)), oN i1, oN ((1 + i1) + (1 + i2)), .val .null, oR r1, oR r3] [])
    refine own_at (fun t k => XS.aload X3.here hx rfl (hb hby d_prog_18_4_157) rfl rfl k) ?_
    show own_Go p e below KK T3 (mkF m 159 #[oR q1, oI (w0 &&& (255 : Int32)), oN i1, oN ((1 + i1) + (1 + i2)), .val .null, oR r1, oR r3] [(.ref r3)])
    refine own_at (fun t k => XS.ifnonnullYes X3.here hx rfl (pc0 := 159) (pc' := 185) rfl (hb hby d_prog_18_4_159) rfl (by decide) (by decide) k) ?_
    show own_Go p e below KK T3 (mkF m 185 #[oR q1, oI (w0 &&& (255 : Int32)), oN i1, oN ((1 + i1) + (1 + i2)), .val .null, oR r1, oR r3] [])
    obtain ⟨T5, h5, X5, e5, E5, A5, D5, -, st5⟩ := newO X3 hx hZ hown (hw _ (List.mem_of_getElem? (i := 31) rfl)) (hw _ (List.mem_of_getElem? (i := 32) rfl)) (hw _ (List.mem_of_getElem? (i := 8) rfl)) rfl (g := (mkF m 185 #[oR q1, oI (w0 &&& (255 : Int32)), oN i1, oN ((1 + i1) + (1 + i2)), .val .null, oR r1, oR r3] [])) rfl (hb hby d_prog_18_4_185) (by decide) (by decide)
    obtain ⟨b5, g5⟩ : ∃ z, z = T3.heap.size := ⟨_, rfl⟩
    rw [← g5] at A5 D5 st5
    have ne_q1_b5 : q1 ≠ b5 := by rw [g5]; exact Nat.ne_of_lt Aq_h3.lt
    have ne_r1_b5 : r1 ≠ b5 := by rw [g5]; exact Nat.ne_of_lt A2_r1_h3.lt
    have ne_r3_b5 : r3 ≠ b5 := by rw [g5]; exact Nat.ne_of_lt A4_r3.lt
    have g_b5 : n0 ≤ b5 := by rw [g5]; exact Zs3
    have sz_b5 : h0.size ≤ b5 := by rw [g5]; exact Kp3.1
    have Aq_h5 : own_A Z h5 q1 "[B" .byte (us.map Value.int) := Aq_h3.ext E5
    have A2_r1_h5 : own_A Z h5 r1 "[B" .byte (((us.map Value.int).drop ((1 + i1) + 1)).take i2) := A2_r1_h3.ext E5
    have A4_r3_h5 : own_A Z h5 r3 "[B" .byte (((us.map Value.int).drop ((1 + i1) + (1 + i2))).take (us.length - ((1 + i1) + (1 + i2)))) := A4_r3.ext E5
    have Zs5 : n0 ≤ h5.size := Nat.le_trans Zs3 E5.1
    have Kp5 : Keep h0 h5 [] := Kp3.ext E5
    have E6_b5 : Exa Z h5 b5 "com/example/isimud/isimud/oscore/OscoreOption" := A5
    have F7_b5 : Fld Z h5 b5 "com/example/isimud/isimud/oscore/OscoreOption" "partialIv" "[B" .null := D5 (Or.inr (hw _ (List.mem_of_getElem? (i := 40) rfl))) (ty := (.array .byte)) (by decide)
    have F8_b5 : Fld Z h5 b5 "com/example/isimud/isimud/oscore/OscoreOption" "kidContext" "[B" .null := D5 (Or.inr (hw _ (List.mem_of_getElem? (i := 42) rfl))) (ty := (.array .byte)) (by decide)
    have F9_b5 : Fld Z h5 b5 "com/example/isimud/isimud/oscore/OscoreOption" "kid" "[B" .null := D5 (Or.inr (hw _ (List.mem_of_getElem? (i := 44) rfl))) (ty := (.array .byte)) (by decide)
    refine own_of (fun t k => st5 t k) ?_
    show own_Go p e below KK T5 (mkF m 188 #[oR q1, oI (w0 &&& (255 : Int32)), oN i1, oN ((1 + i1) + (1 + i2)), .val .null, oR r1, oR r3] [(.ref b5)])
    refine own_at (fun t k => XS.dup X5.here hx rfl (hb hby d_prog_18_4_188) rfl rfl k) ?_
    show own_Go p e below KK T5 (mkF m 189 #[oR q1, oI (w0 &&& (255 : Int32)), oN i1, oN ((1 + i1) + (1 + i2)), .val .null, oR r1, oR r3] [(.ref b5), (.ref b5)])
    refine own_at (fun t k => XS.aload X5.here hx rfl (hb hby d_prog_18_4_189) rfl rfl k) ?_
    show own_Go p e below KK T5 (mkF m 191 #[oR q1, oI (w0 &&& (255 : Int32)), oN i1, oN ((1 + i1) + (1 + i2)), .val .null, oR r1, oR r3] [.null, (.ref b5), (.ref b5)])
    refine own_at (fun t k => XS.aload X5.here hx rfl (hb hby d_prog_18_4_191) rfl rfl k) ?_
    show own_Go p e below KK T5 (mkF m 193 #[oR q1, oI (w0 &&& (255 : Int32)), oN i1, oN ((1 + i1) + (1 + i2)), .val .null, oR r1, oR r3] [(.ref r1), .null, (.ref b5), (.ref b5)])
    refine own_at (fun t k => XS.aload X5.here hx rfl (hb hby d_prog_18_4_193) rfl rfl k) ?_
    show own_Go p e below KK T5 (mkF m 195 #[oR q1, oI (w0 &&& (255 : Int32)), oN i1, oN ((1 + i1) + (1 + i2)), .val .null, oR r1, oR r3] [(.ref r3), (.ref r1), .null, (.ref b5), (.ref b5)])
    obtain ⟨_, _, ⟨T10, L10, k10, n10⟩, -, X10, ⟨Lc10, hQ10, l10, y10, z10⟩, st10⟩ := X5.specialBack hx (y := (⟨"com/example/isimud/isimud/oscore/OscoreOption", "<init>", "([B[B[B)V"⟩ : MethodName)) rfl hown (mvT hZ (hw _ (List.mem_of_getElem? (i := 33) rfl))) (mvT hZ (hw _ (List.mem_of_getElem? (i := 34) rfl))) (mvT hZ (hw _ (List.mem_of_getElem? (i := 35) rfl))) (by decide) (backOf (W := 1) (rm_ctor l Z a0 hw [] b5 .null (.ref r1) (.ref r3)  h5 n0 Zs5 F7_b5 F8_b5 F9_b5 E6_b5 g_b5 rfl rfl rfl) hZ (hw _ (List.mem_of_getElem? (i := 35) rfl)) (hw _ (List.mem_of_getElem? (i := 8) rfl)) (by decide) (by decide)) (g := (mkF m 195 #[oR q1, oI (w0 &&& (255 : Int32)), oN i1, oN ((1 + i1) + (1 + i2)), .val .null, oR r1, oR r3] [(.ref r3), (.ref r1), .null, (.ref b5), (.ref b5)])) rfl (by rw [hml]; rfl) (Steps.refl _) (a := b5) (argsL := [.null, (.ref r1), (.ref r3)]) (rest := [(.ref b5)]) (lenOf pd___B_B_B_V rfl) rfl (by show 2 * 0 + _ ≤ _; exact Nat.le_of_eq rfl) (hb hby d_prog_18_4_195) (fun _ _ => ⟨rfl, e5, (by decide : 3 + 0 ≤ _), (by decide : 29 + 0 ≤ _)⟩)
    dsimp only [Pt.U, Pt.locs, Pt.cells, Pt.slots] at X10 l10 y10 z10 st10 hQ10
    subst l10 y10 z10
    obtain ⟨rfl, N10q, K10, Ex10, Fx10, Fy10, Fz10⟩ := hQ10
    have Aq_h10 : own_A Z T10.heap q1 "[B" .byte (us.map Value.int) := Aq_h5.keep K10 (ninS ne_q1_b5 nin0)
    have A2_r1_h10 : own_A Z T10.heap r1 "[B" .byte (((us.map Value.int).drop ((1 + i1) + 1)).take i2) := A2_r1_h5.keep K10 (ninS ne_r1_b5 nin0)
    have A4_r3_h10 : own_A Z T10.heap r3 "[B" .byte (((us.map Value.int).drop ((1 + i1) + (1 + i2))).take (us.length - ((1 + i1) + (1 + i2)))) := A4_r3_h5.keep K10 (ninS ne_r3_b5 nin0)
    have Zs10 : n0 ≤ T10.heap.size := Nat.le_trans Zs5 K10.1
    have Kp10 : Keep h0 T10.heap [] := Kp5.trans K10 (allS (Or.inr sz_b5) all0)
    have E11_b5 : Exa Z T10.heap b5 "com/example/isimud/isimud/oscore/OscoreOption" := Ex10
    have F12_b5 : Fld Z T10.heap b5 "com/example/isimud/isimud/oscore/OscoreOption" "partialIv" "[B" .null := Fx10
    have F13_b5 : Fld Z T10.heap b5 "com/example/isimud/isimud/oscore/OscoreOption" "kidContext" "[B" (.ref r1) := Fy10
    have F14_b5 : Fld Z T10.heap b5 "com/example/isimud/isimud/oscore/OscoreOption" "kid" "[B" (.ref r3) := Fz10
    have N10 := Fr.app N3 N10q
    refine own_of (fun t k => st10.trans k) ?_
    show own_Go p e below KK T10 (mkF m 198 #[oR q1, oI (w0 &&& (255 : Int32)), oN i1, oN ((1 + i1) + (1 + i2)), .val .null, oR r1, oR r3] [(.ref b5)])
    subst hKK
    exact own_retA X10 hx hlk rfl Bd.returns rfl (hb hby d_prog_18_4_198) ⟨b5, .null, (.ref r1), (.ref r3), rfl, N10, Kp10, g_b5, sz_b5, E11_b5, F12_b5, F13_b5, F14_b5, own_Oz ((own_eq (b := 0) (by omega) (by omega)).mp hc71), ⟨r1, rfl, A2_r1_h10⟩, ⟨r3, rfl, A4_r3_h10⟩⟩ (Nat.le_of_ble_eq_true rfl) (Nat.le_of_ble_eq_true rfl)
  · refine own_at (fun t k => XS.ifYes X0.here hx rfl (pc0 := 71) (pc' := 78) rfl (hb hby d_prog_18_4_71) rfl (Jvm.Free.XT.i0_ne_t hc71) (by decide) (by decide) k) ?_
    show own_Go p e below KK s₁ (mkF m 78 #[oR q1, oI (w0 &&& (255 : Int32)), oN i1, oI 1, oU, oU, oU] [])
    refine own_at (fun t k => XS.aloadN X0.here hx rfl (hb hby d_prog_18_4_78) rfl rfl k) ?_
    show own_Go p e below KK s₁ (mkF m 79 #[oR q1, oI (w0 &&& (255 : Int32)), oN i1, oI 1, oU, oU, oU] [(.ref q1)])
    refine own_at (fun t k => XS.iloadN X0.here hx rfl (hb hby d_prog_18_4_79) rfl k) ?_
    show own_Go p e below KK s₁ (mkF m 80 #[oR q1, oI (w0 &&& (255 : Int32)), oN i1, oI 1, oU, oU, oU] [(.int 1), (.ref q1)])
    refine own_at (fun t k => XS.iloadN X0.here hx rfl (hb hby d_prog_18_4_80) rfl k) ?_
    show own_Go p e below KK s₁ (mkF m 81 #[oR q1, oI (w0 &&& (255 : Int32)), oN i1, oI 1, oU, oU, oU] [(.int (Int32.ofNat i1)), (.int 1), (.ref q1)])
    obtain ⟨_, _, ⟨T15, L15, k15, n15⟩, -, X15, ⟨Lc15, hQ15, l15, y15, z15⟩, st15⟩ := Jvm.LawKit.callS X0 hx (y := (⟨"com/example/isimud/isimud/oscore/OscoreOption", "part", "([BII)[B"⟩ : MethodName)) hown (mvT hZ (hw _ (List.mem_of_getElem? (i := 10) rfl))) (mvT hZ (hw _ (List.mem_of_getElem? (i := 11) rfl))) (mvT hZ (hw _ (List.mem_of_getElem? (i := 8) rfl))) (mvT hZ (hw _ (List.mem_of_getElem? (i := 12) rfl))) (by decide) (backOf (W := 0) (rm_part l Z a0 hw [] q1 1 i1 (us.map Value.int) h0 n0 Z0 Aq (by omega) (by rw [List.length_map]; omega) (by rw [List.length_map]; exact hl)) hZ (hw _ (List.mem_of_getElem? (i := 12) rfl)) (hw _ (List.mem_of_getElem? (i := 8) rfl)) (by decide) (by decide)) (g := (mkF m 81 #[oR q1, oI (w0 &&& (255 : Int32)), oN i1, oI 1, oU, oU, oU] [(.int (Int32.ofNat i1)), (.int 1), (.ref q1)])) rfl (by rw [hml]; rfl) (argsL := [(.ref q1), (.int 1), (.int (Int32.ofNat i1))]) (rest := []) (lenOf pd___BII__B rfl) rfl (by show 2 * 0 + _ ≤ _; exact Nat.le_of_eq rfl) (hb hby d_prog_18_4_81) (fun _ _ => ⟨rfl, e0, (by decide : 0 + 1 ≤ _), (by decide : 0 + 13 ≤ _)⟩)
    dsimp only [Pt.U, Pt.locs, Pt.cells, Pt.slots] at X15 l15 y15 z15 st15 hQ15
    subst l15 y15 z15
    obtain ⟨r15, rfl, N15q, K15, g_r15, s_r15, Aq15⟩ := hQ15
    have ne_q1_r15 : q1 ≠ r15 := Nat.ne_of_lt (Nat.lt_of_lt_of_le Aq.lt s_r15)
    have sz_r15 : h0.size ≤ r15 := Nat.le_trans Kp0.1 s_r15
    have Aq_h15 : own_A Z T15.heap q1 "[B" .byte (us.map Value.int) := Aq.keep K15 nin0
    have Zs15 : n0 ≤ T15.heap.size := Nat.le_trans Z0 K15.1
    have Kp15 : Keep h0 T15.heap [] := Kp0.trans K15 all0
    have A16_r15 : own_A Z T15.heap r15 "[B" .byte (((us.map Value.int).drop 1).take i1) := Aq15
    have N15 := Fr.app N0 N15q
    refine own_of (fun t k => st15 t k) ?_
    show own_Go p e below KK T15 (mkF m 84 #[oR q1, oI (w0 &&& (255 : Int32)), oN i1, oI 1, oU, oU, oU] [(.ref r15)])
    refine own_at (fun t k => XS.astore X15.here hx rfl (hb hby d_prog_18_4_84) rfl rfl (l' := #[oR q1, oI (w0 &&& (255 : Int32)), oN i1, oI 1, oR r15, oU, oU]) rfl k) ?_
    show own_Go p e below KK T15 (mkF m 86 #[oR q1, oI (w0 &&& (255 : Int32)), oN i1, oI 1, oR r15, oU, oU] [])
    refine own_at (fun t k => XS.iloadN X15.here hx rfl (hb hby d_prog_18_4_86) rfl k) ?_
    show own_Go p e below KK T15 (mkF m 87 #[oR q1, oI (w0 &&& (255 : Int32)), oN i1, oI 1, oR r15, oU, oU] [(.int 1)])
    refine own_at (fun t k => XS.iloadN X15.here hx rfl (hb hby d_prog_18_4_87) rfl k) ?_
    show own_Go p e below KK T15 (mkF m 88 #[oR q1, oI (w0 &&& (255 : Int32)), oN i1, oI 1, oR r15, oU, oU] [(.int (Int32.ofNat i1)), (.int 1)])
    refine own_at (fun t k => XS.iadd X15.here hx rfl (hb hby d_prog_18_4_88) rfl k) ?_
    show own_Go p e below KK T15 (mkF m 89 #[oR q1, oI (w0 &&& (255 : Int32)), oN i1, oI 1, oR r15, oU, oU] [(.int ((1 : Int32) + (Int32.ofNat i1)))])
    rw [show ((1 : Int32) + (Int32.ofNat i1)) = (Int32.ofNat (1 + i1)) from own_add 1 i1]
    show own_Go p e below KK T15 (mkF m 89 #[oR q1, oI (w0 &&& (255 : Int32)), oN i1, oI 1, oR r15, oU, oU] [(.int (Int32.ofNat (1 + i1)))])
    refine own_at (fun t k => XS.istoreN X15.here hx rfl (hb hby d_prog_18_4_89) rfl (l' := #[oR q1, oI (w0 &&& (255 : Int32)), oN i1, oN (1 + i1), oR r15, oU, oU]) rfl k) ?_
    show own_Go p e below KK T15 (mkF m 90 #[oR q1, oI (w0 &&& (255 : Int32)), oN i1, oN (1 + i1), oR r15, oU, oU] [])
    refine own_at (fun t k => XS.aconstNull X15.here hx rfl (hb hby d_prog_18_4_90) k) ?_
    show own_Go p e below KK T15 (mkF m 91 #[oR q1, oI (w0 &&& (255 : Int32)), oN i1, oN (1 + i1), oR r15, oU, oU] [.null])
    refine own_at (fun t k => XS.astore X15.here hx rfl (hb hby d_prog_18_4_91) rfl rfl (l' := #[oR q1, oI (w0 &&& (255 : Int32)), oN i1, oN (1 + i1), oR r15, .val .null, oU]) rfl k) ?_
    show own_Go p e below KK T15 (mkF m 93 #[oR q1, oI (w0 &&& (255 : Int32)), oN i1, oN (1 + i1), oR r15, .val .null, oU] [])
    refine own_at (fun t k => XS.iloadN X15.here hx rfl (hb hby d_prog_18_4_93) rfl k) ?_
    show own_Go p e below KK T15 (mkF m 94 #[oR q1, oI (w0 &&& (255 : Int32)), oN i1, oN (1 + i1), oR r15, .val .null, oU] [(.int (w0 &&& (255 : Int32)))])
    refine own_at (fun t k => XS.bipush X15.here hx rfl (hb hby d_prog_18_4_94) k) ?_
    show own_Go p e below KK T15 (mkF m 96 #[oR q1, oI (w0 &&& (255 : Int32)), oN i1, oN (1 + i1), oR r15, .val .null, oU] [(.int 16), (.int (w0 &&& (255 : Int32)))])
    refine own_at (fun t k => XS.iand X15.here hx rfl (hb hby d_prog_18_4_96) rfl k) ?_
    show own_Go p e below KK T15 (mkF m 97 #[oR q1, oI (w0 &&& (255 : Int32)), oN i1, oN (1 + i1), oR r15, .val .null, oU] [(.int ((w0 &&& (255 : Int32)) &&& (16 : Int32)))])
    have hc97 : ¬ (((w0 &&& (255 : Int32)) &&& (16 : Int32)) = (0 : Int32)) := (fun q => Bool.noConfusion (hfl.2.2.2.1.mp q))
    refine own_at (fun t k => XS.ifNo X15.here hx rfl (hb hby d_prog_18_4_97) rfl (Jvm.Free.XT.i0_eq_f hc97) k) ?_
    show own_Go p e below KK T15 (mkF m 100 #[oR q1, oI (w0 &&& (255 : Int32)), oN i1, oN (1 + i1), oR r15, .val .null, oU] [])
    refine own_at (fun t k => XS.iloadN X15.here hx rfl (hb hby d_prog_18_4_100) rfl k) ?_
    show own_Go p e below KK T15 (mkF m 101 #[oR q1, oI (w0 &&& (255 : Int32)), oN i1, oN (1 + i1), oR r15, .val .null, oU] [(.int (Int32.ofNat (1 + i1)))])
    refine own_at (fun t k => XS.aloadN X15.here hx rfl (hb hby d_prog_18_4_101) rfl rfl k) ?_
    show own_Go p e below KK T15 (mkF m 102 #[oR q1, oI (w0 &&& (255 : Int32)), oN i1, oN (1 + i1), oR r15, .val .null, oU] [(.ref q1), (.int (Int32.ofNat (1 + i1)))])
    refine own_at (fun t k => own_len X15 hx hZ rfl Aq_h15 (N := (Int32.ofNat us.length)) (by rw [List.length_map]) (g := (mkF m 102 #[oR q1, oI (w0 &&& (255 : Int32)), oN i1, oN (1 + i1), oR r15, .val .null, oU] [(.ref q1), (.int (Int32.ofNat (1 + i1)))])) rfl rfl (hb hby d_prog_18_4_102) t k) ?_
    show own_Go p e below KK T15 (mkF m 103 #[oR q1, oI (w0 &&& (255 : Int32)), oN i1, oN (1 + i1), oR r15, .val .null, oU] [(.int (Int32.ofNat us.length)), (.int (Int32.ofNat (1 + i1)))])
    have hc103 : (Int32.ofNat (1 + i1)) < (Int32.ofNat us.length) := (own_lt (by omega) (by omega)).mpr (by omega)
    refine own_at (fun t k => XS.icmpNo X15.here hx rfl (hb hby d_prog_18_4_103) rfl (Jvm.Free.XT.ii_ge_f hc103) k) ?_
    show own_Go p e below KK T15 (mkF m 106 #[oR q1, oI (w0 &&& (255 : Int32)), oN i1, oN (1 + i1), oR r15, .val .null, oU] [])
    refine own_at (fun t k => XS.aloadN X15.here hx rfl (hb hby d_prog_18_4_106) rfl rfl k) ?_
    show own_Go p e below KK T15 (mkF m 107 #[oR q1, oI (w0 &&& (255 : Int32)), oN i1, oN (1 + i1), oR r15, .val .null, oU] [(.ref q1)])
    refine own_at (fun t k => XS.iloadN X15.here hx rfl (hb hby d_prog_18_4_107) rfl k) ?_
    show own_Go p e below KK T15 (mkF m 108 #[oR q1, oI (w0 &&& (255 : Int32)), oN i1, oN (1 + i1), oR r15, .val .null, oU] [(.int (Int32.ofNat (1 + i1))), (.ref q1)])
    refine own_at (fun t k => own_ldB X15 hx hZ rfl Aq_h15 (j := (Int32.ofNat (1 + i1))) (i := (1 + i1)) (v := (.int w1)) (own_ofNat (by omega)).2.1 (own_ofNat (by omega)).1 (own_mget hw1) (g := (mkF m 108 #[oR q1, oI (w0 &&& (255 : Int32)), oN i1, oN (1 + i1), oR r15, .val .null, oU] [(.int (Int32.ofNat (1 + i1))), (.ref q1)])) rfl rfl (hb hby d_prog_18_4_108) t k) ?_
    show own_Go p e below KK T15 (mkF m 109 #[oR q1, oI (w0 &&& (255 : Int32)), oN i1, oN (1 + i1), oR r15, .val .null, oU] [(.int w1)])
    refine own_at (fun t k => XS.sipush X15.here hx rfl (hb hby d_prog_18_4_109) k) ?_
    show own_Go p e below KK T15 (mkF m 112 #[oR q1, oI (w0 &&& (255 : Int32)), oN i1, oN (1 + i1), oR r15, .val .null, oU] [(.int 255), (.int w1)])
    refine own_at (fun t k => XS.iand X15.here hx rfl (hb hby d_prog_18_4_112) rfl k) ?_
    show own_Go p e below KK T15 (mkF m 113 #[oR q1, oI (w0 &&& (255 : Int32)), oN i1, oN (1 + i1), oR r15, .val .null, oU] [(.int (w1 &&& (255 : Int32)))])
    rw [show (w1 &&& (255 : Int32)) = (Int32.ofNat i2) from hw1b]
    show own_Go p e below KK T15 (mkF m 113 #[oR q1, oI (w0 &&& (255 : Int32)), oN i1, oN (1 + i1), oR r15, .val .null, oU] [(.int (Int32.ofNat i2))])
    refine own_at (fun t k => XS.goto X15.here hx rfl (pc0 := 113) (pc' := 117) rfl (hb hby d_prog_18_4_113) (by decide) (by decide) k) ?_
    show own_Go p e below KK T15 (mkF m 117 #[oR q1, oI (w0 &&& (255 : Int32)), oN i1, oN (1 + i1), oR r15, .val .null, oU] [(.int (Int32.ofNat i2))])
    refine own_at (fun t k => XS.istore X15.here hx rfl (hb hby d_prog_18_4_117) rfl (l' := #[oR q1, oI (w0 &&& (255 : Int32)), oN i1, oN (1 + i1), oR r15, .val .null, oN i2]) rfl k) ?_
    show own_Go p e below KK T15 (mkF m 119 #[oR q1, oI (w0 &&& (255 : Int32)), oN i1, oN (1 + i1), oR r15, .val .null, oN i2] [])
    refine own_at (fun t k => XS.aloadN X15.here hx rfl (hb hby d_prog_18_4_119) rfl rfl k) ?_
    show own_Go p e below KK T15 (mkF m 120 #[oR q1, oI (w0 &&& (255 : Int32)), oN i1, oN (1 + i1), oR r15, .val .null, oN i2] [(.ref q1)])
    refine own_at (fun t k => XS.iloadN X15.here hx rfl (hb hby d_prog_18_4_120) rfl k) ?_
    show own_Go p e below KK T15 (mkF m 121 #[oR q1, oI (w0 &&& (255 : Int32)), oN i1, oN (1 + i1), oR r15, .val .null, oN i2] [(.int (Int32.ofNat (1 + i1))), (.ref q1)])
    refine own_at (fun t k => XS.iconst X15.here hx rfl (hb hby d_prog_18_4_121) k) ?_
    show own_Go p e below KK T15 (mkF m 122 #[oR q1, oI (w0 &&& (255 : Int32)), oN i1, oN (1 + i1), oR r15, .val .null, oN i2] [(.int 1), (.int (Int32.ofNat (1 + i1))), (.ref q1)])
    refine own_at (fun t k => XS.iadd X15.here hx rfl (hb hby d_prog_18_4_122) rfl k) ?_
    show own_Go p e below KK T15 (mkF m 123 #[oR q1, oI (w0 &&& (255 : Int32)), oN i1, oN (1 + i1), oR r15, .val .null, oN i2] [(.int ((Int32.ofNat (1 + i1)) + (1 : Int32))), (.ref q1)])
    rw [show ((Int32.ofNat (1 + i1)) + (1 : Int32)) = (Int32.ofNat ((1 + i1) + 1)) from own_add (1 + i1) 1]
    show own_Go p e below KK T15 (mkF m 123 #[oR q1, oI (w0 &&& (255 : Int32)), oN i1, oN (1 + i1), oR r15, .val .null, oN i2] [(.int (Int32.ofNat ((1 + i1) + 1))), (.ref q1)])
    refine own_at (fun t k => XS.iload X15.here hx rfl (hb hby d_prog_18_4_123) rfl k) ?_
    show own_Go p e below KK T15 (mkF m 125 #[oR q1, oI (w0 &&& (255 : Int32)), oN i1, oN (1 + i1), oR r15, .val .null, oN i2] [(.int (Int32.ofNat i2)), (.int (Int32.ofNat ((1 + i1) + 1))), (.ref q1)])
    obtain ⟨_, _, ⟨T17, L17, k17, n17⟩, -, X17, ⟨Lc17, hQ17, l17, y17, z17⟩, st17⟩ := Jvm.LawKit.callS X15 hx (y := (⟨"com/example/isimud/isimud/oscore/OscoreOption", "part", "([BII)[B"⟩ : MethodName)) hown (mvT hZ (hw _ (List.mem_of_getElem? (i := 10) rfl))) (mvT hZ (hw _ (List.mem_of_getElem? (i := 11) rfl))) (mvT hZ (hw _ (List.mem_of_getElem? (i := 8) rfl))) (mvT hZ (hw _ (List.mem_of_getElem? (i := 12) rfl))) (by decide) (backOf (W := 0) (rm_part l Z a0 hw [] q1 ((1 + i1) + 1) i2 (us.map Value.int) T15.heap n0 Zs15 Aq_h15 (by omega) (by rw [List.length_map]; omega) (by rw [List.length_map]; exact hl)) hZ (hw _ (List.mem_of_getElem? (i := 12) rfl)) (hw _ (List.mem_of_getElem? (i := 8) rfl)) (by decide) (by decide)) (g := (mkF m 125 #[oR q1, oI (w0 &&& (255 : Int32)), oN i1, oN (1 + i1), oR r15, .val .null, oN i2] [(.int (Int32.ofNat i2)), (.int (Int32.ofNat ((1 + i1) + 1))), (.ref q1)])) rfl (by rw [hml]; rfl) (argsL := [(.ref q1), (.int (Int32.ofNat ((1 + i1) + 1))), (.int (Int32.ofNat i2))]) (rest := []) (lenOf pd___BII__B rfl) rfl (by show 2 * 0 + _ ≤ _; exact Nat.le_of_eq rfl) (hb hby d_prog_18_4_125) (fun _ _ => ⟨rfl, rfl, (by decide : 1 + 1 ≤ _), (by decide : 13 + 13 ≤ _)⟩)
    dsimp only [Pt.U, Pt.locs, Pt.cells, Pt.slots] at X17 l17 y17 z17 st17 hQ17
    subst l17 y17 z17
    obtain ⟨r17, rfl, N17q, K17, g_r17, s_r17, Aq17⟩ := hQ17
    have ne_q1_r17 : q1 ≠ r17 := Nat.ne_of_lt (Nat.lt_of_lt_of_le Aq_h15.lt s_r17)
    have ne_r15_r17 : r15 ≠ r17 := Nat.ne_of_lt (Nat.lt_of_lt_of_le A16_r15.lt s_r17)
    have sz_r17 : h0.size ≤ r17 := Nat.le_trans Kp15.1 s_r17
    have Aq_h17 : own_A Z T17.heap q1 "[B" .byte (us.map Value.int) := Aq_h15.keep K17 nin0
    have A16_r15_h17 : own_A Z T17.heap r15 "[B" .byte (((us.map Value.int).drop 1).take i1) := A16_r15.keep K17 nin0
    have Zs17 : n0 ≤ T17.heap.size := Nat.le_trans Zs15 K17.1
    have Kp17 : Keep h0 T17.heap [] := Kp15.trans K17 all0
    have A18_r17 : own_A Z T17.heap r17 "[B" .byte (((us.map Value.int).drop ((1 + i1) + 1)).take i2) := Aq17
    have N17 := Fr.app N15 N17q
    refine own_of (fun t k => st17 t k) ?_
    show own_Go p e below KK T17 (mkF m 128 #[oR q1, oI (w0 &&& (255 : Int32)), oN i1, oN (1 + i1), oR r15, .val .null, oN i2] [(.ref r17)])
    refine own_at (fun t k => XS.astore X17.here hx rfl (hb hby d_prog_18_4_128) rfl rfl (l' := #[oR q1, oI (w0 &&& (255 : Int32)), oN i1, oN (1 + i1), oR r15, oR r17, oN i2]) rfl k) ?_
    show own_Go p e below KK T17 (mkF m 130 #[oR q1, oI (w0 &&& (255 : Int32)), oN i1, oN (1 + i1), oR r15, oR r17, oN i2] [])
    refine own_at (fun t k => XS.iloadN X17.here hx rfl (hb hby d_prog_18_4_130) rfl k) ?_
    show own_Go p e below KK T17 (mkF m 131 #[oR q1, oI (w0 &&& (255 : Int32)), oN i1, oN (1 + i1), oR r15, oR r17, oN i2] [(.int (Int32.ofNat (1 + i1)))])
    refine own_at (fun t k => XS.iconst X17.here hx rfl (hb hby d_prog_18_4_131) k) ?_
    show own_Go p e below KK T17 (mkF m 132 #[oR q1, oI (w0 &&& (255 : Int32)), oN i1, oN (1 + i1), oR r15, oR r17, oN i2] [(.int 1), (.int (Int32.ofNat (1 + i1)))])
    refine own_at (fun t k => XS.iload X17.here hx rfl (hb hby d_prog_18_4_132) rfl k) ?_
    show own_Go p e below KK T17 (mkF m 134 #[oR q1, oI (w0 &&& (255 : Int32)), oN i1, oN (1 + i1), oR r15, oR r17, oN i2] [(.int (Int32.ofNat i2)), (.int 1), (.int (Int32.ofNat (1 + i1)))])
    refine own_at (fun t k => XS.iadd X17.here hx rfl (hb hby d_prog_18_4_134) rfl k) ?_
    show own_Go p e below KK T17 (mkF m 135 #[oR q1, oI (w0 &&& (255 : Int32)), oN i1, oN (1 + i1), oR r15, oR r17, oN i2] [(.int ((1 : Int32) + (Int32.ofNat i2))), (.int (Int32.ofNat (1 + i1)))])
    rw [show ((1 : Int32) + (Int32.ofNat i2)) = (Int32.ofNat (1 + i2)) from own_add 1 i2]
    show own_Go p e below KK T17 (mkF m 135 #[oR q1, oI (w0 &&& (255 : Int32)), oN i1, oN (1 + i1), oR r15, oR r17, oN i2] [(.int (Int32.ofNat (1 + i2))), (.int (Int32.ofNat (1 + i1)))])
    refine own_at (fun t k => XS.iadd X17.here hx rfl (hb hby d_prog_18_4_135) rfl k) ?_
    show own_Go p e below KK T17 (mkF m 136 #[oR q1, oI (w0 &&& (255 : Int32)), oN i1, oN (1 + i1), oR r15, oR r17, oN i2] [(.int ((Int32.ofNat (1 + i1)) + (Int32.ofNat (1 + i2))))])
    rw [show ((Int32.ofNat (1 + i1)) + (Int32.ofNat (1 + i2))) = (Int32.ofNat ((1 + i1) + (1 + i2))) from own_add (1 + i1) (1 + i2)]
    show own_Go p e below KK T17 (mkF m 136 #[oR q1, oI (w0 &&& (255 : Int32)), oN i1, oN (1 + i1), oR r15, oR r17, oN i2] [(.int (Int32.ofNat ((1 + i1) + (1 + i2))))])
    refine own_at (fun t k => XS.istoreN X17.here hx rfl (hb hby d_prog_18_4_136) rfl (l' := #[oR q1, oI (w0 &&& (255 : Int32)), oN i1, oN ((1 + i1) + (1 + i2)), oR r15, oR r17, oN i2]) rfl k) ?_
    show own_Go p e below KK T17 (mkF m 137 #[oR q1, oI (w0 &&& (255 : Int32)), oN i1, oN ((1 + i1) + (1 + i2)), oR r15, oR r17, oN i2] [])
    refine own_at (fun t k => XS.iloadN X17.here hx rfl (hb hby d_prog_18_4_137) rfl k) ?_
    show own_Go p e below KK T17 (mkF m 138 #[oR q1, oI (w0 &&& (255 : Int32)), oN i1, oN ((1 + i1) + (1 + i2)), oR r15, oR r17, oN i2] [(.int (w0 &&& (255 : Int32)))])
    refine own_at (fun t k => XS.bipush X17.here hx rfl (hb hby d_prog_18_4_138) k) ?_
    show own_Go p e below KK T17 (mkF m 140 #[oR q1, oI (w0 &&& (255 : Int32)), oN i1, oN ((1 + i1) + (1 + i2)), oR r15, oR r17, oN i2] [(.int 8), (.int (w0 &&& (255 : Int32)))])
    refine own_at (fun t k => XS.iand X17.here hx rfl (hb hby d_prog_18_4_140) rfl k) ?_
    show own_Go p e below KK T17 (mkF m 141 #[oR q1, oI (w0 &&& (255 : Int32)), oN i1, oN ((1 + i1) + (1 + i2)), oR r15, oR r17, oN i2] [(.int ((w0 &&& (255 : Int32)) &&& (8 : Int32)))])
    have hc141 : ¬ (((w0 &&& (255 : Int32)) &&& (8 : Int32)) = (0 : Int32)) := (fun q => Bool.noConfusion (hfl.2.2.2.2.mp q))
    refine own_at (fun t k => XS.ifYes X17.here hx rfl (pc0 := 141) (pc' := 148) rfl (hb hby d_prog_18_4_141) rfl (Jvm.Free.XT.i0_ne_t hc141) (by decide) (by decide) k) ?_
    show own_Go p e below KK T17 (mkF m 148 #[oR q1, oI (w0 &&& (255 : Int32)), oN i1, oN ((1 + i1) + (1 + i2)), oR r15, oR r17, oN i2] [])
    refine own_at (fun t k => XS.aloadN X17.here hx rfl (hb hby d_prog_18_4_148) rfl rfl k) ?_
    show own_Go p e below KK T17 (mkF m 149 #[oR q1, oI (w0 &&& (255 : Int32)), oN i1, oN ((1 + i1) + (1 + i2)), oR r15, oR r17, oN i2] [(.ref q1)])
    refine own_at (fun t k => XS.iloadN X17.here hx rfl (hb hby d_prog_18_4_149) rfl k) ?_
    show own_Go p e below KK T17 (mkF m 150 #[oR q1, oI (w0 &&& (255 : Int32)), oN i1, oN ((1 + i1) + (1 + i2)), oR r15, oR r17, oN i2] [(.int (Int32.ofNat ((1 + i1) + (1 + i2)))), (.ref q1)])
    refine own_at (fun t k => XS.aloadN X17.here hx rfl (hb hby d_prog_18_4_150) rfl rfl k) ?_
    show own_Go p e below KK T17 (mkF m 151 #[oR q1, oI (w0 &&& (255 : Int32)), oN i1, oN ((1 + i1) + (1 + i2)), oR r15, oR r17, oN i2] [(.ref q1), (.int (Int32.ofNat ((1 + i1) + (1 + i2)))), (.ref q1)])
    refine own_at (fun t k => own_len X17 hx hZ rfl Aq_h17 (N := (Int32.ofNat us.length)) (by rw [List.length_map]) (g := (mkF m 151 #[oR q1, oI (w0 &&& (255 : Int32)), oN i1, oN ((1 + i1) + (1 + i2)), oR r15, oR r17, oN i2] [(.ref q1), (.int (Int32.ofNat ((1 + i1) + (1 + i2)))), (.ref q1)])) rfl rfl (hb hby d_prog_18_4_151) t k) ?_
    show own_Go p e below KK T17 (mkF m 152 #[oR q1, oI (w0 &&& (255 : Int32)), oN i1, oN ((1 + i1) + (1 + i2)), oR r15, oR r17, oN i2] [(.int (Int32.ofNat us.length)), (.int (Int32.ofNat ((1 + i1) + (1 + i2)))), (.ref q1)])
    obtain ⟨_, _, ⟨T19, L19, k19, n19⟩, -, X19, ⟨Lc19, hQ19, l19, y19, z19⟩, st19⟩ := Jvm.LawKit.callS X17 hx (y := (⟨"java/util/Arrays", "copyOfRange", "([BII)[B"⟩ : MethodName)) hown (mvT hZ (hw _ (List.mem_of_getElem? (i := 13) rfl))) (mvT hZ (hw _ (List.mem_of_getElem? (i := 14) rfl))) (mvT hZ (hw _ (List.mem_of_getElem? (i := 15) rfl))) (mvT hZ (hw _ (List.mem_of_getElem? (i := 16) rfl))) (by decide) (backOf (W := 0) (rm_cor l Z a0 hw [] q1 ((1 + i1) + (1 + i2)) us.length (us.map Value.int) T17.heap n0 Zs17 Aq_h17 (by omega) (by omega) (by rw [List.length_map]; exact Nat.le_refl _) (by rw [List.length_map]; exact hl)) hZ (hw _ (List.mem_of_getElem? (i := 16) rfl)) (hw _ (List.mem_of_getElem? (i := 15) rfl)) (by decide) (by decide)) (g := (mkF m 152 #[oR q1, oI (w0 &&& (255 : Int32)), oN i1, oN ((1 + i1) + (1 + i2)), oR r15, oR r17, oN i2] [(.int (Int32.ofNat us.length)), (.int (Int32.ofNat ((1 + i1) + (1 + i2)))), (.ref q1)])) rfl (by rw [hml]; rfl) (argsL := [(.ref q1), (.int (Int32.ofNat ((1 + i1) + (1 + i2)))), (.int (Int32.ofNat us.length))]) (rest := []) (lenOf pd___BII__B rfl) rfl (by show 2 * 0 + _ ≤ _; exact Nat.le_of_eq rfl) (hb hby d_prog_18_4_152) (fun _ _ => ⟨rfl, rfl, (by decide : 2 + 1 ≤ _), (by decide : 26 + 13 ≤ _)⟩)
    dsimp only [Pt.U, Pt.locs, Pt.cells, Pt.slots] at X19 l19 y19 z19 st19 hQ19
    subst l19 y19 z19
    obtain ⟨r19, rfl, N19q, K19, g_r19, s_r19, Aq19⟩ := hQ19
    have ne_q1_r19 : q1 ≠ r19 := Nat.ne_of_lt (Nat.lt_of_lt_of_le Aq_h17.lt s_r19)
    have ne_r15_r19 : r15 ≠ r19 := Nat.ne_of_lt (Nat.lt_of_lt_of_le A16_r15_h17.lt s_r19)
    have ne_r17_r19 : r17 ≠ r19 := Nat.ne_of_lt (Nat.lt_of_lt_of_le A18_r17.lt s_r19)
    have sz_r19 : h0.size ≤ r19 := Nat.le_trans Kp17.1 s_r19
    have Aq_h19 : own_A Z T19.heap q1 "[B" .byte (us.map Value.int) := Aq_h17.keep K19 nin0
    have A16_r15_h19 : own_A Z T19.heap r15 "[B" .byte (((us.map Value.int).drop 1).take i1) := A16_r15_h17.keep K19 nin0
    have A18_r17_h19 : own_A Z T19.heap r17 "[B" .byte (((us.map Value.int).drop ((1 + i1) + 1)).take i2) := A18_r17.keep K19 nin0
    have Zs19 : n0 ≤ T19.heap.size := Nat.le_trans Zs17 K19.1
    have Kp19 : Keep h0 T19.heap [] := Kp17.trans K19 all0
    have A20_r19 : own_A Z T19.heap r19 "[B" .byte (((us.map Value.int).drop ((1 + i1) + (1 + i2))).take (us.length - ((1 + i1) + (1 + i2)))) := Aq19
    have N19 := Fr.app N17 N19q
    refine own_of (fun t k => st19 t k) ?_
    show own_Go p e below KK T19 (mkF m 155 #[oR q1, oI (w0 &&& (255 : Int32)), oN i1, oN ((1 + i1) + (1 + i2)), oR r15, oR r17, oN i2] [(.ref r19)])
    refine own_at (fun t k => XS.astore X19.here hx rfl (hb hby d_prog_18_4_155) rfl rfl (l' := #[oR q1, oI (w0 &&& (255 : Int32)), oN i1, oN ((1 + i1) + (1 + i2)), oR r15, oR r17, oR r19]) rfl k) ?_
    show own_Go p e below KK T19 (mkF m 157 #[oR q1, oI (w0 &&& (255 : Int32)), oN i1, oN ((1 + i1) + (1 + i2)), oR r15, oR r17, oR r19] [])
    refine own_at (fun t k => XS.aload X19.here hx rfl (hb hby d_prog_18_4_157) rfl rfl k) ?_
    show own_Go p e below KK T19 (mkF m 159 #[oR q1, oI (w0 &&& (255 : Int32)), oN i1, oN ((1 + i1) + (1 + i2)), oR r15, oR r17, oR r19] [(.ref r19)])
    refine own_at (fun t k => XS.ifnonnullYes X19.here hx rfl (pc0 := 159) (pc' := 185) rfl (hb hby d_prog_18_4_159) rfl (by decide) (by decide) k) ?_
    show own_Go p e below KK T19 (mkF m 185 #[oR q1, oI (w0 &&& (255 : Int32)), oN i1, oN ((1 + i1) + (1 + i2)), oR r15, oR r17, oR r19] [])
    obtain ⟨T21, h21, X21, e21, E21, A21, D21, -, st21⟩ := newO X19 hx hZ hown (hw _ (List.mem_of_getElem? (i := 31) rfl)) (hw _ (List.mem_of_getElem? (i := 32) rfl)) (hw _ (List.mem_of_getElem? (i := 8) rfl)) rfl (g := (mkF m 185 #[oR q1, oI (w0 &&& (255 : Int32)), oN i1, oN ((1 + i1) + (1 + i2)), oR r15, oR r17, oR r19] [])) rfl (hb hby d_prog_18_4_185) (by decide) (by decide)
    obtain ⟨b21, g21⟩ : ∃ z, z = T19.heap.size := ⟨_, rfl⟩
    rw [← g21] at A21 D21 st21
    have ne_q1_b21 : q1 ≠ b21 := by rw [g21]; exact Nat.ne_of_lt Aq_h19.lt
    have ne_r15_b21 : r15 ≠ b21 := by rw [g21]; exact Nat.ne_of_lt A16_r15_h19.lt
    have ne_r17_b21 : r17 ≠ b21 := by rw [g21]; exact Nat.ne_of_lt A18_r17_h19.lt
    have ne_r19_b21 : r19 ≠ b21 := by rw [g21]; exact Nat.ne_of_lt A20_r19.lt
    have g_b21 : n0 ≤ b21 := by rw [g21]; exact Zs19
    have sz_b21 : h0.size ≤ b21 := by rw [g21]; exact Kp19.1
    have Aq_h21 : own_A Z h21 q1 "[B" .byte (us.map Value.int) := Aq_h19.ext E21
    have A16_r15_h21 : own_A Z h21 r15 "[B" .byte (((us.map Value.int).drop 1).take i1) := A16_r15_h19.ext E21
    have A18_r17_h21 : own_A Z h21 r17 "[B" .byte (((us.map Value.int).drop ((1 + i1) + 1)).take i2) := A18_r17_h19.ext E21
    have A20_r19_h21 : own_A Z h21 r19 "[B" .byte (((us.map Value.int).drop ((1 + i1) + (1 + i2))).take (us.length - ((1 + i1) + (1 + i2)))) := A20_r19.ext E21
    have Zs21 : n0 ≤ h21.size := Nat.le_trans Zs19 E21.1
    have Kp21 : Keep h0 h21 [] := Kp19.ext E21
    have E22_b21 : Exa Z h21 b21 "com/example/isimud/isimud/oscore/OscoreOption" := A21
    have F23_b21 : Fld Z h21 b21 "com/example/isimud/isimud/oscore/OscoreOption" "partialIv" "[B" .null := D21 (Or.inr (hw _ (List.mem_of_getElem? (i := 40) rfl))) (ty := (.array .byte)) (by decide)
    have F24_b21 : Fld Z h21 b21 "com/example/isimud/isimud/oscore/OscoreOption" "kidContext" "[B" .null := D21 (Or.inr (hw _ (List.mem_of_getElem? (i := 42) rfl))) (ty := (.array .byte)) (by decide)
    have F25_b21 : Fld Z h21 b21 "com/example/isimud/isimud/oscore/OscoreOption" "kid" "[B" .null := D21 (Or.inr (hw _ (List.mem_of_getElem? (i := 44) rfl))) (ty := (.array .byte)) (by decide)
    refine own_of (fun t k => st21 t k) ?_
    show own_Go p e below KK T21 (mkF m 188 #[oR q1, oI (w0 &&& (255 : Int32)), oN i1, oN ((1 + i1) + (1 + i2)), oR r15, oR r17, oR r19] [(.ref b21)])
    refine own_at (fun t k => XS.dup X21.here hx rfl (hb hby d_prog_18_4_188) rfl rfl k) ?_
    show own_Go p e below KK T21 (mkF m 189 #[oR q1, oI (w0 &&& (255 : Int32)), oN i1, oN ((1 + i1) + (1 + i2)), oR r15, oR r17, oR r19] [(.ref b21), (.ref b21)])
    refine own_at (fun t k => XS.aload X21.here hx rfl (hb hby d_prog_18_4_189) rfl rfl k) ?_
    show own_Go p e below KK T21 (mkF m 191 #[oR q1, oI (w0 &&& (255 : Int32)), oN i1, oN ((1 + i1) + (1 + i2)), oR r15, oR r17, oR r19] [(.ref r15), (.ref b21), (.ref b21)])
    refine own_at (fun t k => XS.aload X21.here hx rfl (hb hby d_prog_18_4_191) rfl rfl k) ?_
    show own_Go p e below KK T21 (mkF m 193 #[oR q1, oI (w0 &&& (255 : Int32)), oN i1, oN ((1 + i1) + (1 + i2)), oR r15, oR r17, oR r19] [(.ref r17), (.ref r15), (.ref b21), (.ref b21)])
    refine own_at (fun t k => XS.aload X21.here hx rfl (hb hby d_prog_18_4_193) rfl rfl k) ?_
    show own_Go p e below KK T21 (mkF m 195 #[oR q1, oI (w0 &&& (255 : Int32)), oN i1, oN ((1 + i1) + (1 + i2)), oR r15, oR r17, oR r19] [(.ref r19), (.ref r17), (.ref r15), (.ref b21), (.ref b21)])
    obtain ⟨_, _, ⟨T26, L26, k26, n26⟩, -, X26, ⟨Lc26, hQ26, l26, y26, z26⟩, st26⟩ := X21.specialBack hx (y := (⟨"com/example/isimud/isimud/oscore/OscoreOption", "<init>", "([B[B[B)V"⟩ : MethodName)) rfl hown (mvT hZ (hw _ (List.mem_of_getElem? (i := 33) rfl))) (mvT hZ (hw _ (List.mem_of_getElem? (i := 34) rfl))) (mvT hZ (hw _ (List.mem_of_getElem? (i := 35) rfl))) (by decide) (backOf (W := 1) (rm_ctor l Z a0 hw [] b21 (.ref r15) (.ref r17) (.ref r19)  h21 n0 Zs21 F23_b21 F24_b21 F25_b21 E22_b21 g_b21 rfl rfl rfl) hZ (hw _ (List.mem_of_getElem? (i := 35) rfl)) (hw _ (List.mem_of_getElem? (i := 8) rfl)) (by decide) (by decide)) (g := (mkF m 195 #[oR q1, oI (w0 &&& (255 : Int32)), oN i1, oN ((1 + i1) + (1 + i2)), oR r15, oR r17, oR r19] [(.ref r19), (.ref r17), (.ref r15), (.ref b21), (.ref b21)])) rfl (by rw [hml]; rfl) (Steps.refl _) (a := b21) (argsL := [(.ref r15), (.ref r17), (.ref r19)]) (rest := [(.ref b21)]) (lenOf pd___B_B_B_V rfl) rfl (by show 2 * 0 + _ ≤ _; exact Nat.le_of_eq rfl) (hb hby d_prog_18_4_195) (fun _ _ => ⟨rfl, e21, (by decide : 4 + 0 ≤ _), (by decide : 42 + 0 ≤ _)⟩)
    dsimp only [Pt.U, Pt.locs, Pt.cells, Pt.slots] at X26 l26 y26 z26 st26 hQ26
    subst l26 y26 z26
    obtain ⟨rfl, N26q, K26, Ex26, Fx26, Fy26, Fz26⟩ := hQ26
    have Aq_h26 : own_A Z T26.heap q1 "[B" .byte (us.map Value.int) := Aq_h21.keep K26 (ninS ne_q1_b21 nin0)
    have A16_r15_h26 : own_A Z T26.heap r15 "[B" .byte (((us.map Value.int).drop 1).take i1) := A16_r15_h21.keep K26 (ninS ne_r15_b21 nin0)
    have A18_r17_h26 : own_A Z T26.heap r17 "[B" .byte (((us.map Value.int).drop ((1 + i1) + 1)).take i2) := A18_r17_h21.keep K26 (ninS ne_r17_b21 nin0)
    have A20_r19_h26 : own_A Z T26.heap r19 "[B" .byte (((us.map Value.int).drop ((1 + i1) + (1 + i2))).take (us.length - ((1 + i1) + (1 + i2)))) := A20_r19_h21.keep K26 (ninS ne_r19_b21 nin0)
    have Zs26 : n0 ≤ T26.heap.size := Nat.le_trans Zs21 K26.1
    have Kp26 : Keep h0 T26.heap [] := Kp21.trans K26 (allS (Or.inr sz_b21) all0)
    have E27_b21 : Exa Z T26.heap b21 "com/example/isimud/isimud/oscore/OscoreOption" := Ex26
    have F28_b21 : Fld Z T26.heap b21 "com/example/isimud/isimud/oscore/OscoreOption" "partialIv" "[B" (.ref r15) := Fx26
    have F29_b21 : Fld Z T26.heap b21 "com/example/isimud/isimud/oscore/OscoreOption" "kidContext" "[B" (.ref r17) := Fy26
    have F30_b21 : Fld Z T26.heap b21 "com/example/isimud/isimud/oscore/OscoreOption" "kid" "[B" (.ref r19) := Fz26
    have N26 := Fr.app N19 N26q
    refine own_of (fun t k => st26.trans k) ?_
    show own_Go p e below KK T26 (mkF m 198 #[oR q1, oI (w0 &&& (255 : Int32)), oN i1, oN ((1 + i1) + (1 + i2)), oR r15, oR r17, oR r19] [(.ref b21)])
    subst hKK
    exact own_retA X26 hx hlk rfl Bd.returns rfl (hb hby d_prog_18_4_198) ⟨b21, (.ref r15), (.ref r17), (.ref r19), rfl, N26, Kp26, g_b21, sz_b21, E27_b21, F28_b21, F29_b21, F30_b21, own_Os (fun q => hc71 (by rw [q]; rfl)) A16_r15_h26, ⟨r17, rfl, A18_r17_h26⟩, ⟨r19, rfl, A20_r19_h26⟩⟩ (Nat.le_of_ble_eq_true rfl) (Nat.le_of_ble_eq_true rfl)
theorem ef_prog_18_5 (m : MethodId) (x0 : Addr) : entryFrame m #[(.ref x0)] 1 = mkF m 0 #[oR x0] [] := by first | (simp [entryFrame, mkF, argsToLocals, Value.category]; done) | rfl
theorem d_prog_18_5_0 : decode prog_18_method_5_code 0 = .ok (.aload_n 0, 1) := by decide +kernel
theorem d_prog_18_5_1 : decode prog_18_method_5_code 1 = .ok (.getfield 7, 3) := by decide +kernel
theorem d_prog_18_5_4 : decode prog_18_method_5_code 4 = .ok (.ifnonnull 7, 3) := by decide +kernel
theorem d_prog_18_5_7 : decode prog_18_method_5_code 7 = .ok (.aconst_null, 1) := by decide +kernel
theorem d_prog_18_5_8 : decode prog_18_method_5_code 8 = .ok (.goto 13, 3) := by decide +kernel
theorem d_prog_18_5_21 : decode prog_18_method_5_code 21 = .ok (.areturn, 1) := by decide +kernel
set_option maxRecDepth 65536 in
set_option maxHeartbeats 40000000 in
theorem rm_partialIv0 (l : Launch) (Z : State) (a0 : Array Value) (hw : ∀ d ∈ tables_1, d.before a0 Z = true) (ws : List Jvm.Cond) (q1 : Addr)  (h0 : Heap) (n0 : Nat) (Z0 : n0 ≤ h0.size) (Fq : Fld Z h0 q1 "com/example/isimud/isimud/oscore/OscoreOption" "partialIv" "[B" .null) :
    MetFree l (⟨"com/example/isimud/isimud/oscore/OscoreOption", "partialIv", "()[B"⟩ : MethodName) (head1 (Jvm.Cond.code (⟨"com/example/isimud/isimud/oscore/OscoreOption", "partialIv", "()[B"⟩ : MethodName) prog_18_method_5_code 1 (some (.array .byte)) :: ws) ({ frames := 0, cells := 0, slots := 0, locals := 0 } : Room)) (fun a U => a = #[(.ref q1)] ∧ Z.Warmed39 U.vm ∧ U.heap = h0) (fun _ _ _ _ _ => True) (fun _ U o U' => ∃ v L, o = .returned v ∧ own_P .null h0 n0 v U'.heap L ∧ FrameEnd U o U' L ({ frames := 0, cells := 0, slots := 0, locals := 0 } : Room).cells ({ frames := 0, cells := 0, slots := 0, locals := 0 } : Room).slots) := by
  refine MetFree.of_bodySF (plainFor_of_name pn_com_example_isimud_isimud_oscore_OscoreOption) hisR ?_
  intro p e s m args below meth c s₁ Bd hml0 hP hK
  obtain ⟨rfl, hZ, hh⟩ := hP
  have hx := Bd.exec
  have hby := Bd.bytes
  have hlk : meth.locks = false := BodyLoose.notSynchronized Bd
  have hml : c.maxLocals = 1 := hml0
  have hown : s.vm.findClass "com/example/isimud/isimud/oscore/OscoreOption" = some m.cls := findClass_of_methodNamed Bd.named
  have hnm := (name_of_methodNamed Bd.named Bd.method).1
  have X0 : Stand p l e ({ frames := 0, cells := 0, slots := 0, locals := 0 } : Room) s m #[(.ref q1)] below meth c s₁ [] 0 0 := Stand.of_body Bd
  have e0 : s₁.heap = h0 := by rw [← hh, Bd.state]; rfl
  have N0 := Fr.nil n0
  refine own_cast (K := own_K s (own_P .null h0 n0) 0 0) (ef_prog_18_5 m q1) ?_
  generalize hKK : own_K s (own_P .null h0 n0) 0 0 = KK
  show own_Go p e below KK s₁ (mkF m 0 #[oR q1] [])
  refine own_at (fun t k => XS.aloadN X0.here hx rfl (hb hby d_prog_18_5_0) rfl rfl k) ?_
  show own_Go p e below KK s₁ (mkF m 1 #[oR q1] [(.ref q1)])
  obtain ⟨T1, X1, e1, st1⟩ := getF X0 hx hZ hown (host := "") (Or.inl (hw _ (List.mem_of_getElem? (i := 39) rfl))) Via.refl e0 Fq (g := (mkF m 1 #[oR q1] [(.ref q1)])) rfl rfl (hb hby d_prog_18_5_1)
  refine own_of (fun t k => st1 t k) ?_
  show own_Go p e below KK T1 (mkF m 4 #[oR q1] [.null])
  refine own_at (fun t k => XS.ifnonnullNo X1.here hx rfl (hb hby d_prog_18_5_4) rfl k) ?_
  show own_Go p e below KK T1 (mkF m 7 #[oR q1] [])
  refine own_at (fun t k => XS.aconstNull X1.here hx rfl (hb hby d_prog_18_5_7) k) ?_
  show own_Go p e below KK T1 (mkF m 8 #[oR q1] [.null])
  refine own_at (fun t k => XS.goto X1.here hx rfl (pc0 := 8) (pc' := 21) rfl (hb hby d_prog_18_5_8) (by decide) (by decide) k) ?_
  show own_Go p e below KK T1 (mkF m 21 #[oR q1] [.null])
  subst hKK
  exact own_retA X1 hx hlk rfl Bd.returns rfl (hb hby d_prog_18_5_21) ⟨rfl, N0, e1⟩ (Nat.le_of_ble_eq_true rfl) (Nat.le_of_ble_eq_true rfl)
theorem d_prog_18_5_11 : decode prog_18_method_5_code 11 = .ok (.aload_n 0, 1) := by decide +kernel
theorem d_prog_18_5_12 : decode prog_18_method_5_code 12 = .ok (.getfield 7, 3) := by decide +kernel
theorem d_prog_18_5_15 : decode prog_18_method_5_code 15 = .ok (.invokevirtual 19, 3) := by decide +kernel
theorem d_prog_18_5_18 : decode prog_18_method_5_code 18 = .ok (.checkcast 20, 3) := by decide +kernel
set_option maxRecDepth 65536 in
set_option maxHeartbeats 40000000 in
theorem rm_partialIv (l : Launch) (Z : State) (a0 : Array Value) (hw : ∀ d ∈ tables_1, d.before a0 Z = true) (ws : List Jvm.Cond) (q1 : Addr) (w : Addr) (vs : List Value) (h0 : Heap) (n0 : Nat) (Z0 : n0 ≤ h0.size) (Fq : Fld Z h0 q1 "com/example/isimud/isimud/oscore/OscoreOption" "partialIv" "[B" (.ref w)) (Aq : own_A Z h0 w "[B" .byte vs) (hl : vs.length ≤ 13) :
    MetFree l (⟨"com/example/isimud/isimud/oscore/OscoreOption", "partialIv", "()[B"⟩ : MethodName) (head1 (Jvm.Cond.code (⟨"com/example/isimud/isimud/oscore/OscoreOption", "partialIv", "()[B"⟩ : MethodName) prog_18_method_5_code 1 (some (.array .byte)) :: ws) ({ frames := 1, cells := 1, slots := 13, locals := 14 } : Room)) (fun a U => a = #[(.ref q1)] ∧ Z.Warmed39 U.vm ∧ U.heap = h0) (fun _ _ _ _ _ => True) (fun _ U o U' => ∃ v L, o = .returned v ∧ own_Qf Z vs h0 n0 v U'.heap L ∧ FrameEnd U o U' L ({ frames := 1, cells := 1, slots := 13, locals := 14 } : Room).cells ({ frames := 1, cells := 1, slots := 13, locals := 14 } : Room).slots) := by
  refine MetFree.of_bodySF (plainFor_of_name pn_com_example_isimud_isimud_oscore_OscoreOption) hisR ?_
  intro p e s m args below meth c s₁ Bd hml0 hP hK
  obtain ⟨rfl, hZ, hh⟩ := hP
  have hx := Bd.exec
  have hby := Bd.bytes
  have hlk : meth.locks = false := BodyLoose.notSynchronized Bd
  have hml : c.maxLocals = 1 := hml0
  have hown : s.vm.findClass "com/example/isimud/isimud/oscore/OscoreOption" = some m.cls := findClass_of_methodNamed Bd.named
  have hnm := (name_of_methodNamed Bd.named Bd.method).1
  have X0 : Stand p l e ({ frames := 1, cells := 1, slots := 13, locals := 14 } : Room) s m #[(.ref q1)] below meth c s₁ [] 0 0 := Stand.of_body Bd
  have e0 : s₁.heap = h0 := by rw [← hh, Bd.state]; rfl
  have N0 := Fr.nil n0
  refine own_cast (K := own_K s (own_Qf Z vs h0 n0) 1 13) (ef_prog_18_5 m q1) ?_
  generalize hKK : own_K s (own_Qf Z vs h0 n0) 1 13 = KK
  show own_Go p e below KK s₁ (mkF m 0 #[oR q1] [])
  have Kp0 : Keep h0 h0 [] := Keep.refl _ _
  refine own_at (fun t k => XS.aloadN X0.here hx rfl (hb hby d_prog_18_5_0) rfl rfl k) ?_
  show own_Go p e below KK s₁ (mkF m 1 #[oR q1] [(.ref q1)])
  obtain ⟨T1, X1, e1, st1⟩ := getF X0 hx hZ hown (host := "") (Or.inl (hw _ (List.mem_of_getElem? (i := 39) rfl))) Via.refl e0 Fq (g := (mkF m 1 #[oR q1] [(.ref q1)])) rfl rfl (hb hby d_prog_18_5_1)
  refine own_of (fun t k => st1 t k) ?_
  show own_Go p e below KK T1 (mkF m 4 #[oR q1] [(.ref w)])
  refine own_at (fun t k => XS.ifnonnullYes X1.here hx rfl (pc0 := 4) (pc' := 11) rfl (hb hby d_prog_18_5_4) rfl (by decide) (by decide) k) ?_
  show own_Go p e below KK T1 (mkF m 11 #[oR q1] [])
  refine own_at (fun t k => XS.aloadN X1.here hx rfl (hb hby d_prog_18_5_11) rfl rfl k) ?_
  show own_Go p e below KK T1 (mkF m 12 #[oR q1] [(.ref q1)])
  obtain ⟨T2, X2, e2, st2⟩ := getF X1 hx hZ hown (host := "") (Or.inl (hw _ (List.mem_of_getElem? (i := 39) rfl))) Via.refl e1 Fq (g := (mkF m 12 #[oR q1] [(.ref q1)])) rfl rfl (hb hby d_prog_18_5_12)
  refine own_of (fun t k => st2 t k) ?_
  show own_Go p e below KK T2 (mkF m 15 #[oR q1] [(.ref w)])
  obtain ⟨T3, h3, X3, e3, E3, V3, st3⟩ := own_clone X2 hx hZ hown (hw _ (List.mem_of_getElem? (i := 55) rfl)) (hw _ (List.mem_of_getElem? (i := 56) rfl)) (hw _ (List.mem_of_getElem? (i := 60) rfl)) (hw _ (List.mem_of_getElem? (i := 58) rfl)) (hw _ (List.mem_of_getElem? (i := 59) rfl)) (hw _ (List.mem_of_getElem? (i := 61) rfl)) e2 Aq (g := (mkF m 15 #[oR q1] [(.ref w)])) rfl (by rw [hml]; rfl) rfl (hb hby d_prog_18_5_15) (by decide) (W := 0) (cap := 13) (by show 2 * 0 + _ ≤ _; exact Nat.le_of_eq rfl) (by decide) hl (by decide) (by decide)
  obtain ⟨b3, g3⟩ : ∃ z, z = h0.size := ⟨_, rfl⟩
  rw [← g3] at V3 st3
  have ne_q1_b3 : q1 ≠ b3 := by rw [g3]; exact Nat.ne_of_lt Fq.lt
  have ne_w_b3 : w ≠ b3 := by rw [g3]; exact Nat.ne_of_lt Aq.lt
  have g_b3 : n0 ≤ b3 := by rw [g3]; exact Z0
  have sz_b3 : h0.size ≤ b3 := by rw [g3]; exact Kp0.1
  have Fq_h3 : Fld Z h3 q1 "com/example/isimud/isimud/oscore/OscoreOption" "partialIv" "[B" (.ref w) := Fq.ext E3
  have Aq_h3 : own_A Z h3 w "[B" .byte vs := Aq.ext E3
  have Zs3 : n0 ≤ h3.size := Nat.le_trans Z0 E3.1
  have Kp3 : Keep h0 h3 [] := Kp0.ext E3
  have A4_b3 : own_A Z h3 b3 "[B" .byte vs := V3
  refine own_of (fun t k => st3 t k) ?_
  show own_Go p e below KK T3 (mkF m 18 #[oR q1] [(.ref b3)])
  obtain ⟨T5, X5, e5, st5⟩ := castY X3 hx hZ hown (hw _ (List.mem_of_getElem? (i := 62) rfl)) e3 (Ins.self A4_b3.exa) (g := (mkF m 18 #[oR q1] [(.ref b3)])) rfl rfl (hb hby d_prog_18_5_18)
  refine own_of (fun t k => st5 t k) ?_
  show own_Go p e below KK T5 (mkF m 21 #[oR q1] [(.ref b3)])
  subst hKK
  exact own_retA X5 hx hlk rfl Bd.returns rfl (hb hby d_prog_18_5_21) ⟨b3, rfl, N0, by rw [e5]; exact Kp3, g_b3, sz_b3, by rw [e5]; exact A4_b3⟩ (Nat.le_of_ble_eq_true rfl) (Nat.le_of_ble_eq_true rfl)
theorem ef_prog_18_6 (m : MethodId) (x0 : Addr) : entryFrame m #[(.ref x0)] 1 = mkF m 0 #[oR x0] [] := by first | (simp [entryFrame, mkF, argsToLocals, Value.category]; done) | rfl
theorem d_prog_18_6_0 : decode prog_18_method_6_code 0 = .ok (.aload_n 0, 1) := by decide +kernel
theorem d_prog_18_6_1 : decode prog_18_method_6_code 1 = .ok (.getfield 13, 3) := by decide +kernel
theorem d_prog_18_6_4 : decode prog_18_method_6_code 4 = .ok (.ifnonnull 7, 3) := by decide +kernel
theorem d_prog_18_6_7 : decode prog_18_method_6_code 7 = .ok (.aconst_null, 1) := by decide +kernel
theorem d_prog_18_6_8 : decode prog_18_method_6_code 8 = .ok (.goto 13, 3) := by decide +kernel
theorem d_prog_18_6_21 : decode prog_18_method_6_code 21 = .ok (.areturn, 1) := by decide +kernel
set_option maxRecDepth 65536 in
set_option maxHeartbeats 40000000 in
theorem rm_kidContext0 (l : Launch) (Z : State) (a0 : Array Value) (hw : ∀ d ∈ tables_1, d.before a0 Z = true) (ws : List Jvm.Cond) (q1 : Addr)  (h0 : Heap) (n0 : Nat) (Z0 : n0 ≤ h0.size) (Fq : Fld Z h0 q1 "com/example/isimud/isimud/oscore/OscoreOption" "kidContext" "[B" .null) :
    MetFree l (⟨"com/example/isimud/isimud/oscore/OscoreOption", "kidContext", "()[B"⟩ : MethodName) (head1 (Jvm.Cond.code (⟨"com/example/isimud/isimud/oscore/OscoreOption", "kidContext", "()[B"⟩ : MethodName) prog_18_method_6_code 1 (some (.array .byte)) :: ws) ({ frames := 0, cells := 0, slots := 0, locals := 0 } : Room)) (fun a U => a = #[(.ref q1)] ∧ Z.Warmed39 U.vm ∧ U.heap = h0) (fun _ _ _ _ _ => True) (fun _ U o U' => ∃ v L, o = .returned v ∧ own_P .null h0 n0 v U'.heap L ∧ FrameEnd U o U' L ({ frames := 0, cells := 0, slots := 0, locals := 0 } : Room).cells ({ frames := 0, cells := 0, slots := 0, locals := 0 } : Room).slots) := by
  refine MetFree.of_bodySF (plainFor_of_name pn_com_example_isimud_isimud_oscore_OscoreOption) hisR ?_
  intro p e s m args below meth c s₁ Bd hml0 hP hK
  obtain ⟨rfl, hZ, hh⟩ := hP
  have hx := Bd.exec
  have hby := Bd.bytes
  have hlk : meth.locks = false := BodyLoose.notSynchronized Bd
  have hml : c.maxLocals = 1 := hml0
  have hown : s.vm.findClass "com/example/isimud/isimud/oscore/OscoreOption" = some m.cls := findClass_of_methodNamed Bd.named
  have hnm := (name_of_methodNamed Bd.named Bd.method).1
  have X0 : Stand p l e ({ frames := 0, cells := 0, slots := 0, locals := 0 } : Room) s m #[(.ref q1)] below meth c s₁ [] 0 0 := Stand.of_body Bd
  have e0 : s₁.heap = h0 := by rw [← hh, Bd.state]; rfl
  have N0 := Fr.nil n0
  refine own_cast (K := own_K s (own_P .null h0 n0) 0 0) (ef_prog_18_6 m q1) ?_
  generalize hKK : own_K s (own_P .null h0 n0) 0 0 = KK
  show own_Go p e below KK s₁ (mkF m 0 #[oR q1] [])
  refine own_at (fun t k => XS.aloadN X0.here hx rfl (hb hby d_prog_18_6_0) rfl rfl k) ?_
  show own_Go p e below KK s₁ (mkF m 1 #[oR q1] [(.ref q1)])
  obtain ⟨T1, X1, e1, st1⟩ := getF X0 hx hZ hown (host := "") (Or.inl (hw _ (List.mem_of_getElem? (i := 41) rfl))) Via.refl e0 Fq (g := (mkF m 1 #[oR q1] [(.ref q1)])) rfl rfl (hb hby d_prog_18_6_1)
  refine own_of (fun t k => st1 t k) ?_
  show own_Go p e below KK T1 (mkF m 4 #[oR q1] [.null])
  refine own_at (fun t k => XS.ifnonnullNo X1.here hx rfl (hb hby d_prog_18_6_4) rfl k) ?_
  show own_Go p e below KK T1 (mkF m 7 #[oR q1] [])
  refine own_at (fun t k => XS.aconstNull X1.here hx rfl (hb hby d_prog_18_6_7) k) ?_
  show own_Go p e below KK T1 (mkF m 8 #[oR q1] [.null])
  refine own_at (fun t k => XS.goto X1.here hx rfl (pc0 := 8) (pc' := 21) rfl (hb hby d_prog_18_6_8) (by decide) (by decide) k) ?_
  show own_Go p e below KK T1 (mkF m 21 #[oR q1] [.null])
  subst hKK
  exact own_retA X1 hx hlk rfl Bd.returns rfl (hb hby d_prog_18_6_21) ⟨rfl, N0, e1⟩ (Nat.le_of_ble_eq_true rfl) (Nat.le_of_ble_eq_true rfl)
theorem d_prog_18_6_11 : decode prog_18_method_6_code 11 = .ok (.aload_n 0, 1) := by decide +kernel
theorem d_prog_18_6_12 : decode prog_18_method_6_code 12 = .ok (.getfield 13, 3) := by decide +kernel
theorem d_prog_18_6_15 : decode prog_18_method_6_code 15 = .ok (.invokevirtual 19, 3) := by decide +kernel
theorem d_prog_18_6_18 : decode prog_18_method_6_code 18 = .ok (.checkcast 20, 3) := by decide +kernel
set_option maxRecDepth 65536 in
set_option maxHeartbeats 40000000 in
theorem rm_kidContext (l : Launch) (Z : State) (a0 : Array Value) (hw : ∀ d ∈ tables_1, d.before a0 Z = true) (ws : List Jvm.Cond) (q1 : Addr) (w : Addr) (vs : List Value) (h0 : Heap) (n0 : Nat) (Z0 : n0 ≤ h0.size) (Fq : Fld Z h0 q1 "com/example/isimud/isimud/oscore/OscoreOption" "kidContext" "[B" (.ref w)) (Aq : own_A Z h0 w "[B" .byte vs) (hl : vs.length ≤ 13) :
    MetFree l (⟨"com/example/isimud/isimud/oscore/OscoreOption", "kidContext", "()[B"⟩ : MethodName) (head1 (Jvm.Cond.code (⟨"com/example/isimud/isimud/oscore/OscoreOption", "kidContext", "()[B"⟩ : MethodName) prog_18_method_6_code 1 (some (.array .byte)) :: ws) ({ frames := 1, cells := 1, slots := 13, locals := 14 } : Room)) (fun a U => a = #[(.ref q1)] ∧ Z.Warmed39 U.vm ∧ U.heap = h0) (fun _ _ _ _ _ => True) (fun _ U o U' => ∃ v L, o = .returned v ∧ own_Qf Z vs h0 n0 v U'.heap L ∧ FrameEnd U o U' L ({ frames := 1, cells := 1, slots := 13, locals := 14 } : Room).cells ({ frames := 1, cells := 1, slots := 13, locals := 14 } : Room).slots) := by
  refine MetFree.of_bodySF (plainFor_of_name pn_com_example_isimud_isimud_oscore_OscoreOption) hisR ?_
  intro p e s m args below meth c s₁ Bd hml0 hP hK
  obtain ⟨rfl, hZ, hh⟩ := hP
  have hx := Bd.exec
  have hby := Bd.bytes
  have hlk : meth.locks = false := BodyLoose.notSynchronized Bd
  have hml : c.maxLocals = 1 := hml0
  have hown : s.vm.findClass "com/example/isimud/isimud/oscore/OscoreOption" = some m.cls := findClass_of_methodNamed Bd.named
  have hnm := (name_of_methodNamed Bd.named Bd.method).1
  have X0 : Stand p l e ({ frames := 1, cells := 1, slots := 13, locals := 14 } : Room) s m #[(.ref q1)] below meth c s₁ [] 0 0 := Stand.of_body Bd
  have e0 : s₁.heap = h0 := by rw [← hh, Bd.state]; rfl
  have N0 := Fr.nil n0
  refine own_cast (K := own_K s (own_Qf Z vs h0 n0) 1 13) (ef_prog_18_6 m q1) ?_
  generalize hKK : own_K s (own_Qf Z vs h0 n0) 1 13 = KK
  show own_Go p e below KK s₁ (mkF m 0 #[oR q1] [])
  have Kp0 : Keep h0 h0 [] := Keep.refl _ _
  refine own_at (fun t k => XS.aloadN X0.here hx rfl (hb hby d_prog_18_6_0) rfl rfl k) ?_
  show own_Go p e below KK s₁ (mkF m 1 #[oR q1] [(.ref q1)])
  obtain ⟨T1, X1, e1, st1⟩ := getF X0 hx hZ hown (host := "") (Or.inl (hw _ (List.mem_of_getElem? (i := 41) rfl))) Via.refl e0 Fq (g := (mkF m 1 #[oR q1] [(.ref q1)])) rfl rfl (hb hby d_prog_18_6_1)
  refine own_of (fun t k => st1 t k) ?_
  show own_Go p e below KK T1 (mkF m 4 #[oR q1] [(.ref w)])
  refine own_at (fun t k => XS.ifnonnullYes X1.here hx rfl (pc0 := 4) (pc' := 11) rfl (hb hby d_prog_18_6_4) rfl (by decide) (by decide) k) ?_
  show own_Go p e below KK T1 (mkF m 11 #[oR q1] [])
  refine own_at (fun t k => XS.aloadN X1.here hx rfl (hb hby d_prog_18_6_11) rfl rfl k) ?_
  show own_Go p e below KK T1 (mkF m 12 #[oR q1] [(.ref q1)])
  obtain ⟨T2, X2, e2, st2⟩ := getF X1 hx hZ hown (host := "") (Or.inl (hw _ (List.mem_of_getElem? (i := 41) rfl))) Via.refl e1 Fq (g := (mkF m 12 #[oR q1] [(.ref q1)])) rfl rfl (hb hby d_prog_18_6_12)
  refine own_of (fun t k => st2 t k) ?_
  show own_Go p e below KK T2 (mkF m 15 #[oR q1] [(.ref w)])
  obtain ⟨T3, h3, X3, e3, E3, V3, st3⟩ := own_clone X2 hx hZ hown (hw _ (List.mem_of_getElem? (i := 55) rfl)) (hw _ (List.mem_of_getElem? (i := 56) rfl)) (hw _ (List.mem_of_getElem? (i := 60) rfl)) (hw _ (List.mem_of_getElem? (i := 58) rfl)) (hw _ (List.mem_of_getElem? (i := 59) rfl)) (hw _ (List.mem_of_getElem? (i := 61) rfl)) e2 Aq (g := (mkF m 15 #[oR q1] [(.ref w)])) rfl (by rw [hml]; rfl) rfl (hb hby d_prog_18_6_15) (by decide) (W := 0) (cap := 13) (by show 2 * 0 + _ ≤ _; exact Nat.le_of_eq rfl) (by decide) hl (by decide) (by decide)
  obtain ⟨b3, g3⟩ : ∃ z, z = h0.size := ⟨_, rfl⟩
  rw [← g3] at V3 st3
  have ne_q1_b3 : q1 ≠ b3 := by rw [g3]; exact Nat.ne_of_lt Fq.lt
  have ne_w_b3 : w ≠ b3 := by rw [g3]; exact Nat.ne_of_lt Aq.lt
  have g_b3 : n0 ≤ b3 := by rw [g3]; exact Z0
  have sz_b3 : h0.size ≤ b3 := by rw [g3]; exact Kp0.1
  have Fq_h3 : Fld Z h3 q1 "com/example/isimud/isimud/oscore/OscoreOption" "kidContext" "[B" (.ref w) := Fq.ext E3
  have Aq_h3 : own_A Z h3 w "[B" .byte vs := Aq.ext E3
  have Zs3 : n0 ≤ h3.size := Nat.le_trans Z0 E3.1
  have Kp3 : Keep h0 h3 [] := Kp0.ext E3
  have A4_b3 : own_A Z h3 b3 "[B" .byte vs := V3
  refine own_of (fun t k => st3 t k) ?_
  show own_Go p e below KK T3 (mkF m 18 #[oR q1] [(.ref b3)])
  obtain ⟨T5, X5, e5, st5⟩ := castY X3 hx hZ hown (hw _ (List.mem_of_getElem? (i := 62) rfl)) e3 (Ins.self A4_b3.exa) (g := (mkF m 18 #[oR q1] [(.ref b3)])) rfl rfl (hb hby d_prog_18_6_18)
  refine own_of (fun t k => st5 t k) ?_
  show own_Go p e below KK T5 (mkF m 21 #[oR q1] [(.ref b3)])
  subst hKK
  exact own_retA X5 hx hlk rfl Bd.returns rfl (hb hby d_prog_18_6_21) ⟨b3, rfl, N0, by rw [e5]; exact Kp3, g_b3, sz_b3, by rw [e5]; exact A4_b3⟩ (Nat.le_of_ble_eq_true rfl) (Nat.le_of_ble_eq_true rfl)
theorem ef_prog_18_7 (m : MethodId) (x0 : Addr) : entryFrame m #[(.ref x0)] 1 = mkF m 0 #[oR x0] [] := by first | (simp [entryFrame, mkF, argsToLocals, Value.category]; done) | rfl
theorem d_prog_18_7_0 : decode prog_18_method_7_code 0 = .ok (.aload_n 0, 1) := by decide +kernel
theorem d_prog_18_7_1 : decode prog_18_method_7_code 1 = .ok (.getfield 16, 3) := by decide +kernel
theorem d_prog_18_7_4 : decode prog_18_method_7_code 4 = .ok (.ifnonnull 7, 3) := by decide +kernel
theorem d_prog_18_7_7 : decode prog_18_method_7_code 7 = .ok (.aconst_null, 1) := by decide +kernel
theorem d_prog_18_7_8 : decode prog_18_method_7_code 8 = .ok (.goto 13, 3) := by decide +kernel
theorem d_prog_18_7_21 : decode prog_18_method_7_code 21 = .ok (.areturn, 1) := by decide +kernel
set_option maxRecDepth 65536 in
set_option maxHeartbeats 40000000 in
theorem rm_kid0 (l : Launch) (Z : State) (a0 : Array Value) (hw : ∀ d ∈ tables_1, d.before a0 Z = true) (ws : List Jvm.Cond) (q1 : Addr)  (h0 : Heap) (n0 : Nat) (Z0 : n0 ≤ h0.size) (Fq : Fld Z h0 q1 "com/example/isimud/isimud/oscore/OscoreOption" "kid" "[B" .null) :
    MetFree l (⟨"com/example/isimud/isimud/oscore/OscoreOption", "kid", "()[B"⟩ : MethodName) (head1 (Jvm.Cond.code (⟨"com/example/isimud/isimud/oscore/OscoreOption", "kid", "()[B"⟩ : MethodName) prog_18_method_7_code 1 (some (.array .byte)) :: ws) ({ frames := 0, cells := 0, slots := 0, locals := 0 } : Room)) (fun a U => a = #[(.ref q1)] ∧ Z.Warmed39 U.vm ∧ U.heap = h0) (fun _ _ _ _ _ => True) (fun _ U o U' => ∃ v L, o = .returned v ∧ own_P .null h0 n0 v U'.heap L ∧ FrameEnd U o U' L ({ frames := 0, cells := 0, slots := 0, locals := 0 } : Room).cells ({ frames := 0, cells := 0, slots := 0, locals := 0 } : Room).slots) := by
  refine MetFree.of_bodySF (plainFor_of_name pn_com_example_isimud_isimud_oscore_OscoreOption) hisR ?_
  intro p e s m args below meth c s₁ Bd hml0 hP hK
  obtain ⟨rfl, hZ, hh⟩ := hP
  have hx := Bd.exec
  have hby := Bd.bytes
  have hlk : meth.locks = false := BodyLoose.notSynchronized Bd
  have hml : c.maxLocals = 1 := hml0
  have hown : s.vm.findClass "com/example/isimud/isimud/oscore/OscoreOption" = some m.cls := findClass_of_methodNamed Bd.named
  have hnm := (name_of_methodNamed Bd.named Bd.method).1
  have X0 : Stand p l e ({ frames := 0, cells := 0, slots := 0, locals := 0 } : Room) s m #[(.ref q1)] below meth c s₁ [] 0 0 := Stand.of_body Bd
  have e0 : s₁.heap = h0 := by rw [← hh, Bd.state]; rfl
  have N0 := Fr.nil n0
  refine own_cast (K := own_K s (own_P .null h0 n0) 0 0) (ef_prog_18_7 m q1) ?_
  generalize hKK : own_K s (own_P .null h0 n0) 0 0 = KK
  show own_Go p e below KK s₁ (mkF m 0 #[oR q1] [])
  refine own_at (fun t k => XS.aloadN X0.here hx rfl (hb hby d_prog_18_7_0) rfl rfl k) ?_
  show own_Go p e below KK s₁ (mkF m 1 #[oR q1] [(.ref q1)])
  obtain ⟨T1, X1, e1, st1⟩ := getF X0 hx hZ hown (host := "") (Or.inl (hw _ (List.mem_of_getElem? (i := 43) rfl))) Via.refl e0 Fq (g := (mkF m 1 #[oR q1] [(.ref q1)])) rfl rfl (hb hby d_prog_18_7_1)
  refine own_of (fun t k => st1 t k) ?_
  show own_Go p e below KK T1 (mkF m 4 #[oR q1] [.null])
  refine own_at (fun t k => XS.ifnonnullNo X1.here hx rfl (hb hby d_prog_18_7_4) rfl k) ?_
  show own_Go p e below KK T1 (mkF m 7 #[oR q1] [])
  refine own_at (fun t k => XS.aconstNull X1.here hx rfl (hb hby d_prog_18_7_7) k) ?_
  show own_Go p e below KK T1 (mkF m 8 #[oR q1] [.null])
  refine own_at (fun t k => XS.goto X1.here hx rfl (pc0 := 8) (pc' := 21) rfl (hb hby d_prog_18_7_8) (by decide) (by decide) k) ?_
  show own_Go p e below KK T1 (mkF m 21 #[oR q1] [.null])
  subst hKK
  exact own_retA X1 hx hlk rfl Bd.returns rfl (hb hby d_prog_18_7_21) ⟨rfl, N0, e1⟩ (Nat.le_of_ble_eq_true rfl) (Nat.le_of_ble_eq_true rfl)
theorem d_prog_18_7_11 : decode prog_18_method_7_code 11 = .ok (.aload_n 0, 1) := by decide +kernel
theorem d_prog_18_7_12 : decode prog_18_method_7_code 12 = .ok (.getfield 16, 3) := by decide +kernel
theorem d_prog_18_7_15 : decode prog_18_method_7_code 15 = .ok (.invokevirtual 19, 3) := by decide +kernel
theorem d_prog_18_7_18 : decode prog_18_method_7_code 18 = .ok (.checkcast 20, 3) := by decide +kernel
set_option maxRecDepth 65536 in
set_option maxHeartbeats 40000000 in
theorem rm_kid (l : Launch) (Z : State) (a0 : Array Value) (hw : ∀ d ∈ tables_1, d.before a0 Z = true) (ws : List Jvm.Cond) (q1 : Addr) (w : Addr) (vs : List Value) (h0 : Heap) (n0 : Nat) (Z0 : n0 ≤ h0.size) (Fq : Fld Z h0 q1 "com/example/isimud/isimud/oscore/OscoreOption" "kid" "[B" (.ref w)) (Aq : own_A Z h0 w "[B" .byte vs) (hl : vs.length ≤ 13) :
    MetFree l (⟨"com/example/isimud/isimud/oscore/OscoreOption", "kid", "()[B"⟩ : MethodName) (head1 (Jvm.Cond.code (⟨"com/example/isimud/isimud/oscore/OscoreOption", "kid", "()[B"⟩ : MethodName) prog_18_method_7_code 1 (some (.array .byte)) :: ws) ({ frames := 1, cells := 1, slots := 13, locals := 14 } : Room)) (fun a U => a = #[(.ref q1)] ∧ Z.Warmed39 U.vm ∧ U.heap = h0) (fun _ _ _ _ _ => True) (fun _ U o U' => ∃ v L, o = .returned v ∧ own_Qf Z vs h0 n0 v U'.heap L ∧ FrameEnd U o U' L ({ frames := 1, cells := 1, slots := 13, locals := 14 } : Room).cells ({ frames := 1, cells := 1, slots := 13, locals := 14 } : Room).slots) := by
  refine MetFree.of_bodySF (plainFor_of_name pn_com_example_isimud_isimud_oscore_OscoreOption) hisR ?_
  intro p e s m args below meth c s₁ Bd hml0 hP hK
  obtain ⟨rfl, hZ, hh⟩ := hP
  have hx := Bd.exec
  have hby := Bd.bytes
  have hlk : meth.locks = false := BodyLoose.notSynchronized Bd
  have hml : c.maxLocals = 1 := hml0
  have hown : s.vm.findClass "com/example/isimud/isimud/oscore/OscoreOption" = some m.cls := findClass_of_methodNamed Bd.named
  have hnm := (name_of_methodNamed Bd.named Bd.method).1
  have X0 : Stand p l e ({ frames := 1, cells := 1, slots := 13, locals := 14 } : Room) s m #[(.ref q1)] below meth c s₁ [] 0 0 := Stand.of_body Bd
  have e0 : s₁.heap = h0 := by rw [← hh, Bd.state]; rfl
  have N0 := Fr.nil n0
  refine own_cast (K := own_K s (own_Qf Z vs h0 n0) 1 13) (ef_prog_18_7 m q1) ?_
  generalize hKK : own_K s (own_Qf Z vs h0 n0) 1 13 = KK
  show own_Go p e below KK s₁ (mkF m 0 #[oR q1] [])
  have Kp0 : Keep h0 h0 [] := Keep.refl _ _
  refine own_at (fun t k => XS.aloadN X0.here hx rfl (hb hby d_prog_18_7_0) rfl rfl k) ?_
  show own_Go p e below KK s₁ (mkF m 1 #[oR q1] [(.ref q1)])
  obtain ⟨T1, X1, e1, st1⟩ := getF X0 hx hZ hown (host := "") (Or.inl (hw _ (List.mem_of_getElem? (i := 43) rfl))) Via.refl e0 Fq (g := (mkF m 1 #[oR q1] [(.ref q1)])) rfl rfl (hb hby d_prog_18_7_1)
  refine own_of (fun t k => st1 t k) ?_
  show own_Go p e below KK T1 (mkF m 4 #[oR q1] [(.ref w)])
  refine own_at (fun t k => XS.ifnonnullYes X1.here hx rfl (pc0 := 4) (pc' := 11) rfl (hb hby d_prog_18_7_4) rfl (by decide) (by decide) k) ?_
  show own_Go p e below KK T1 (mkF m 11 #[oR q1] [])
  refine own_at (fun t k => XS.aloadN X1.here hx rfl (hb hby d_prog_18_7_11) rfl rfl k) ?_
  show own_Go p e below KK T1 (mkF m 12 #[oR q1] [(.ref q1)])
  obtain ⟨T2, X2, e2, st2⟩ := getF X1 hx hZ hown (host := "") (Or.inl (hw _ (List.mem_of_getElem? (i := 43) rfl))) Via.refl e1 Fq (g := (mkF m 12 #[oR q1] [(.ref q1)])) rfl rfl (hb hby d_prog_18_7_12)
  refine own_of (fun t k => st2 t k) ?_
  show own_Go p e below KK T2 (mkF m 15 #[oR q1] [(.ref w)])
  obtain ⟨T3, h3, X3, e3, E3, V3, st3⟩ := own_clone X2 hx hZ hown (hw _ (List.mem_of_getElem? (i := 55) rfl)) (hw _ (List.mem_of_getElem? (i := 56) rfl)) (hw _ (List.mem_of_getElem? (i := 60) rfl)) (hw _ (List.mem_of_getElem? (i := 58) rfl)) (hw _ (List.mem_of_getElem? (i := 59) rfl)) (hw _ (List.mem_of_getElem? (i := 61) rfl)) e2 Aq (g := (mkF m 15 #[oR q1] [(.ref w)])) rfl (by rw [hml]; rfl) rfl (hb hby d_prog_18_7_15) (by decide) (W := 0) (cap := 13) (by show 2 * 0 + _ ≤ _; exact Nat.le_of_eq rfl) (by decide) hl (by decide) (by decide)
  obtain ⟨b3, g3⟩ : ∃ z, z = h0.size := ⟨_, rfl⟩
  rw [← g3] at V3 st3
  have ne_q1_b3 : q1 ≠ b3 := by rw [g3]; exact Nat.ne_of_lt Fq.lt
  have ne_w_b3 : w ≠ b3 := by rw [g3]; exact Nat.ne_of_lt Aq.lt
  have g_b3 : n0 ≤ b3 := by rw [g3]; exact Z0
  have sz_b3 : h0.size ≤ b3 := by rw [g3]; exact Kp0.1
  have Fq_h3 : Fld Z h3 q1 "com/example/isimud/isimud/oscore/OscoreOption" "kid" "[B" (.ref w) := Fq.ext E3
  have Aq_h3 : own_A Z h3 w "[B" .byte vs := Aq.ext E3
  have Zs3 : n0 ≤ h3.size := Nat.le_trans Z0 E3.1
  have Kp3 : Keep h0 h3 [] := Kp0.ext E3
  have A4_b3 : own_A Z h3 b3 "[B" .byte vs := V3
  refine own_of (fun t k => st3 t k) ?_
  show own_Go p e below KK T3 (mkF m 18 #[oR q1] [(.ref b3)])
  obtain ⟨T5, X5, e5, st5⟩ := castY X3 hx hZ hown (hw _ (List.mem_of_getElem? (i := 62) rfl)) e3 (Ins.self A4_b3.exa) (g := (mkF m 18 #[oR q1] [(.ref b3)])) rfl rfl (hb hby d_prog_18_7_18)
  refine own_of (fun t k => st5 t k) ?_
  show own_Go p e below KK T5 (mkF m 21 #[oR q1] [(.ref b3)])
  subst hKK
  exact own_retA X5 hx hlk rfl Bd.returns rfl (hb hby d_prog_18_7_21) ⟨b3, rfl, N0, by rw [e5]; exact Kp3, g_b3, sz_b3, by rw [e5]; exact A4_b3⟩ (Nat.le_of_ble_eq_true rfl) (Nat.le_of_ble_eq_true rfl)
theorem own_tl {us : List Int32} {f n : Nat} (h : f + n ≤ us.length) : (((us.map Value.int).drop f).take n).length = n := by
  rw [List.length_take, List.length_drop, List.length_map]; omega
theorem own_mg {us : List Int32} {i : Nat} (h : i < us.length) : (us.map Value.int)[i]? = some (.int (us.getD i 0)) := by
  simp [List.getD_eq_getElem?_getD, h]
theorem own_tg {us : List Int32} {f n i : Nat} (hi : i < n) (h : f + n ≤ us.length) : (((us.map Value.int).drop f).take n)[i]? = some (.int (us.getD (f + i) 0)) := by
  rw [List.getElem?_take_of_lt hi, List.getElem?_drop]; exact own_mg (by omega)
theorem ef_method_4 (m : MethodId) (x0 : Addr) (x1 : Addr) (x2 : Int32) (x3 : Int32) : entryFrame m #[(.ref x0), (.ref x1), (.int x2), (.int x3)] 4 = mkF m 0 #[oR x0, oR x1, oI x2, oI x3] [] := by first | (simp [entryFrame, mkF, argsToLocals, Value.category]; done) | rfl
theorem d_method_4_0 : decode method_4_code 0 = .ok (.aload_n 0, 1) := by decide +kernel
theorem d_method_4_1 : decode method_4_code 1 = .ok (.ifnull 9, 3) := by decide +kernel
theorem d_method_4_4 : decode method_4_code 4 = .ok (.aload_n 0, 1) := by decide +kernel
theorem d_method_4_5 : decode method_4_code 5 = .ok (.arraylength, 1) := by decide +kernel
theorem d_method_4_6 : decode method_4_code 6 = .ok (.iload_n 3, 1) := by decide +kernel
theorem d_method_4_7 : decode method_4_code 7 = .ok (.if_icmp .eq 5, 3) := by decide +kernel
theorem d_method_4_12 : decode method_4_code 12 = .ok (.iload_n 3, 1) := by decide +kernel
theorem d_method_4_13 : decode method_4_code 13 = .ok (.ifCond .le 12, 3) := by decide +kernel
theorem d_method_4_25 : decode method_4_code 25 = .ok (.iload_n 3, 1) := by decide +kernel
theorem d_method_4_26 : decode method_4_code 26 = .ok (.iconst 1, 1) := by decide +kernel
theorem d_method_4_27 : decode method_4_code 27 = .ok (.if_icmp .le 14, 3) := by decide +kernel
theorem d_method_4_41 : decode method_4_code 41 = .ok (.iload_n 3, 1) := by decide +kernel
theorem d_method_4_42 : decode method_4_code 42 = .ok (.iconst 2, 1) := by decide +kernel
theorem d_method_4_43 : decode method_4_code 43 = .ok (.if_icmp .le 14, 3) := by decide +kernel
theorem d_method_4_57 : decode method_4_code 57 = .ok (.iload_n 3, 1) := by decide +kernel
theorem d_method_4_58 : decode method_4_code 58 = .ok (.iconst 3, 1) := by decide +kernel
theorem d_method_4_59 : decode method_4_code 59 = .ok (.if_icmp .le 14, 3) := by decide +kernel
theorem d_method_4_73 : decode method_4_code 73 = .ok (.iload_n 3, 1) := by decide +kernel
theorem d_method_4_74 : decode method_4_code 74 = .ok (.iconst 4, 1) := by decide +kernel
theorem d_method_4_75 : decode method_4_code 75 = .ok (.if_icmp .le 14, 3) := by decide +kernel
theorem d_method_4_89 : decode method_4_code 89 = .ok (.iconst 1, 1) := by decide +kernel
theorem d_method_4_90 : decode method_4_code 90 = .ok (.goto 4, 3) := by decide +kernel
theorem d_method_4_94 : decode method_4_code 94 = .ok (.ireturn, 1) := by decide +kernel
set_option maxRecDepth 65536 in
set_option maxHeartbeats 40000000 in
theorem rm_same0 (l : Launch) (Z : State) (a0 : Array Value) (hw : ∀ d ∈ tables_1, d.before a0 Z = true) (ws : List Jvm.Cond) (q1 : Addr) (q2 : Addr) (f : Nat) (us : List Int32) (h0 : Heap) (n0 : Nat) (Z0 : n0 ≤ h0.size) (Aq1 : own_A Z h0 q1 "[B" .byte (((us.map Value.int).drop f).take 0)) (Aq2 : own_A Z h0 q2 "[B" .byte (us.map Value.int)) (hfn : f + 0 ≤ us.length) (hl : us.length ≤ 13) :
    MetFree l (⟨"com/example/isimud/isimud/oscore/OscoreOptionReadPinLaw", "same", "([B[BII)Z"⟩ : MethodName) (head1 (Jvm.Cond.code (⟨"com/example/isimud/isimud/oscore/OscoreOptionReadPinLaw", "same", "([B[BII)Z"⟩ : MethodName) method_4_code 4 (some .boolean) :: ws) ({ frames := 0, cells := 0, slots := 0, locals := 0 } : Room)) (fun a U => a = #[(.ref q1), (.ref q2), (.int (Int32.ofNat f)), (.int 0)] ∧ Z.Warmed39 U.vm ∧ U.heap = h0) (fun _ _ _ _ _ => True) (fun _ U o U' => ∃ v L, o = .returned v ∧ own_P (.int 1) h0 n0 v U'.heap L ∧ FrameEnd U o U' L ({ frames := 0, cells := 0, slots := 0, locals := 0 } : Room).cells ({ frames := 0, cells := 0, slots := 0, locals := 0 } : Room).slots) := by
  refine MetFree.of_bodySF (plainFor_of_name pn_com_example_isimud_isimud_oscore_OscoreOptionReadPinLaw) hisR ?_
  intro p e s m args below meth c s₁ Bd hml0 hP hK
  obtain ⟨rfl, hZ, hh⟩ := hP
  have hx := Bd.exec
  have hby := Bd.bytes
  have hlk : meth.locks = false := BodyLoose.notSynchronized Bd
  have hml : c.maxLocals = 4 := hml0
  have hown : s.vm.findClass "com/example/isimud/isimud/oscore/OscoreOptionReadPinLaw" = some m.cls := findClass_of_methodNamed Bd.named
  have hnm := (name_of_methodNamed Bd.named Bd.method).1
  have X0 : Stand p l e ({ frames := 0, cells := 0, slots := 0, locals := 0 } : Room) s m #[(.ref q1), (.ref q2), (.int (Int32.ofNat f)), (.int 0)] below meth c s₁ [] 0 0 := Stand.of_body Bd
  have e0 : s₁.heap = h0 := by rw [← hh, Bd.state]; rfl
  have N0 := Fr.nil n0
  refine own_cast (K := own_K s (own_P (.int 1) h0 n0) 0 0) (ef_method_4 m q1 q2 (Int32.ofNat f) (0 : Int32)) ?_
  generalize hKK : own_K s (own_P (.int 1) h0 n0) 0 0 = KK
  show own_Go p e below KK s₁ (mkF m 0 #[oR q1, oR q2, oN f, oI 0] [])
  refine own_at (fun t k => XS.aloadN X0.here hx rfl (hb hby d_method_4_0) rfl rfl k) ?_
  show own_Go p e below KK s₁ (mkF m 1 #[oR q1, oR q2, oN f, oI 0] [(.ref q1)])
  refine own_at (fun t k => XS.ifnullNo X0.here hx rfl (hb hby d_method_4_1) rfl k) ?_
  show own_Go p e below KK s₁ (mkF m 4 #[oR q1, oR q2, oN f, oI 0] [])
  refine own_at (fun t k => XS.aloadN X0.here hx rfl (hb hby d_method_4_4) rfl rfl k) ?_
  show own_Go p e below KK s₁ (mkF m 5 #[oR q1, oR q2, oN f, oI 0] [(.ref q1)])
  refine own_at (fun t k => own_len X0 hx hZ e0 Aq1 (N := (0 : Int32)) (by rw [own_tl hfn]; rfl) (g := (mkF m 5 #[oR q1, oR q2, oN f, oI 0] [(.ref q1)])) rfl rfl (hb hby d_method_4_5) t k) ?_
  show own_Go p e below KK s₁ (mkF m 6 #[oR q1, oR q2, oN f, oI 0] [(.int 0)])
  refine own_at (fun t k => XS.iloadN X0.here hx rfl (hb hby d_method_4_6) rfl k) ?_
  show own_Go p e below KK s₁ (mkF m 7 #[oR q1, oR q2, oN f, oI 0] [(.int 0), (.int 0)])
  have hc7 : (0 : Int32) = (0 : Int32) := by decide
  refine own_at (fun t k => XS.icmpYes X0.here hx rfl (pc0 := 7) (pc' := 12) rfl (hb hby d_method_4_7) rfl (Jvm.Free.XT.ii_eq_t hc7) (by decide) (by decide) k) ?_
  show own_Go p e below KK s₁ (mkF m 12 #[oR q1, oR q2, oN f, oI 0] [])
  refine own_at (fun t k => XS.iloadN X0.here hx rfl (hb hby d_method_4_12) rfl k) ?_
  show own_Go p e below KK s₁ (mkF m 13 #[oR q1, oR q2, oN f, oI 0] [(.int 0)])
  have hc13 : ¬ ((0 : Int32) < (0 : Int32)) := by decide
  refine own_at (fun t k => XS.ifYes X0.here hx rfl (pc0 := 13) (pc' := 25) rfl (hb hby d_method_4_13) rfl (Jvm.Free.XT.i0_le_t hc13) (by decide) (by decide) k) ?_
  show own_Go p e below KK s₁ (mkF m 25 #[oR q1, oR q2, oN f, oI 0] [])
  refine own_at (fun t k => XS.iloadN X0.here hx rfl (hb hby d_method_4_25) rfl k) ?_
  show own_Go p e below KK s₁ (mkF m 26 #[oR q1, oR q2, oN f, oI 0] [(.int 0)])
  refine own_at (fun t k => XS.iconst X0.here hx rfl (hb hby d_method_4_26) k) ?_
  show own_Go p e below KK s₁ (mkF m 27 #[oR q1, oR q2, oN f, oI 0] [(.int 1), (.int 0)])
  have hc27 : ¬ ((1 : Int32) < (0 : Int32)) := by decide
  refine own_at (fun t k => XS.icmpYes X0.here hx rfl (pc0 := 27) (pc' := 41) rfl (hb hby d_method_4_27) rfl (Jvm.Free.XT.ii_le_t hc27) (by decide) (by decide) k) ?_
  show own_Go p e below KK s₁ (mkF m 41 #[oR q1, oR q2, oN f, oI 0] [])
  refine own_at (fun t k => XS.iloadN X0.here hx rfl (hb hby d_method_4_41) rfl k) ?_
  show own_Go p e below KK s₁ (mkF m 42 #[oR q1, oR q2, oN f, oI 0] [(.int 0)])
  refine own_at (fun t k => XS.iconst X0.here hx rfl (hb hby d_method_4_42) k) ?_
  show own_Go p e below KK s₁ (mkF m 43 #[oR q1, oR q2, oN f, oI 0] [(.int 2), (.int 0)])
  have hc43 : ¬ ((2 : Int32) < (0 : Int32)) := by decide
  refine own_at (fun t k => XS.icmpYes X0.here hx rfl (pc0 := 43) (pc' := 57) rfl (hb hby d_method_4_43) rfl (Jvm.Free.XT.ii_le_t hc43) (by decide) (by decide) k) ?_
  show own_Go p e below KK s₁ (mkF m 57 #[oR q1, oR q2, oN f, oI 0] [])
  refine own_at (fun t k => XS.iloadN X0.here hx rfl (hb hby d_method_4_57) rfl k) ?_
  show own_Go p e below KK s₁ (mkF m 58 #[oR q1, oR q2, oN f, oI 0] [(.int 0)])
  refine own_at (fun t k => XS.iconst X0.here hx rfl (hb hby d_method_4_58) k) ?_
  show own_Go p e below KK s₁ (mkF m 59 #[oR q1, oR q2, oN f, oI 0] [(.int 3), (.int 0)])
  have hc59 : ¬ ((3 : Int32) < (0 : Int32)) := by decide
  refine own_at (fun t k => XS.icmpYes X0.here hx rfl (pc0 := 59) (pc' := 73) rfl (hb hby d_method_4_59) rfl (Jvm.Free.XT.ii_le_t hc59) (by decide) (by decide) k) ?_
  show own_Go p e below KK s₁ (mkF m 73 #[oR q1, oR q2, oN f, oI 0] [])
  refine own_at (fun t k => XS.iloadN X0.here hx rfl (hb hby d_method_4_73) rfl k) ?_
  show own_Go p e below KK s₁ (mkF m 74 #[oR q1, oR q2, oN f, oI 0] [(.int 0)])
  refine own_at (fun t k => XS.iconst X0.here hx rfl (hb hby d_method_4_74) k) ?_
  show own_Go p e below KK s₁ (mkF m 75 #[oR q1, oR q2, oN f, oI 0] [(.int 4), (.int 0)])
  have hc75 : ¬ ((4 : Int32) < (0 : Int32)) := by decide
  refine own_at (fun t k => XS.icmpYes X0.here hx rfl (pc0 := 75) (pc' := 89) rfl (hb hby d_method_4_75) rfl (Jvm.Free.XT.ii_le_t hc75) (by decide) (by decide) k) ?_
  show own_Go p e below KK s₁ (mkF m 89 #[oR q1, oR q2, oN f, oI 0] [])
  refine own_at (fun t k => XS.iconst X0.here hx rfl (hb hby d_method_4_89) k) ?_
  show own_Go p e below KK s₁ (mkF m 90 #[oR q1, oR q2, oN f, oI 0] [(.int 1)])
  refine own_at (fun t k => XS.goto X0.here hx rfl (pc0 := 90) (pc' := 94) rfl (hb hby d_method_4_90) (by decide) (by decide) k) ?_
  show own_Go p e below KK s₁ (mkF m 94 #[oR q1, oR q2, oN f, oI 0] [(.int 1)])
  subst hKK
  exact own_retN X0 hx hlk (t := .boolean) Bd.returns (by simp) (hb hby d_method_4_94) (w := (1 : Int32)) (show nar .boolean (1 : Int32) = 1 from by decide) ⟨rfl, N0, e0⟩ (Nat.le_of_ble_eq_true rfl) (Nat.le_of_ble_eq_true rfl)
theorem d_method_4_16 : decode method_4_code 16 = .ok (.aload_n 0, 1) := by decide +kernel
theorem d_method_4_17 : decode method_4_code 17 = .ok (.iconst 0, 1) := by decide +kernel
theorem d_method_4_18 : decode method_4_code 18 = .ok (.baload, 1) := by decide +kernel
theorem d_method_4_19 : decode method_4_code 19 = .ok (.aload_n 1, 1) := by decide +kernel
theorem d_method_4_20 : decode method_4_code 20 = .ok (.iload_n 2, 1) := by decide +kernel
theorem d_method_4_21 : decode method_4_code 21 = .ok (.baload, 1) := by decide +kernel
theorem d_method_4_22 : decode method_4_code 22 = .ok (.if_icmp .ne 71, 3) := by decide +kernel
set_option maxRecDepth 65536 in
set_option maxHeartbeats 40000000 in
theorem rm_same1 (l : Launch) (Z : State) (a0 : Array Value) (hw : ∀ d ∈ tables_1, d.before a0 Z = true) (ws : List Jvm.Cond) (q1 : Addr) (q2 : Addr) (f : Nat) (us : List Int32) (h0 : Heap) (n0 : Nat) (Z0 : n0 ≤ h0.size) (Aq1 : own_A Z h0 q1 "[B" .byte (((us.map Value.int).drop f).take 1)) (Aq2 : own_A Z h0 q2 "[B" .byte (us.map Value.int)) (hfn : f + 1 ≤ us.length) (hl : us.length ≤ 13) :
    MetFree l (⟨"com/example/isimud/isimud/oscore/OscoreOptionReadPinLaw", "same", "([B[BII)Z"⟩ : MethodName) (head1 (Jvm.Cond.code (⟨"com/example/isimud/isimud/oscore/OscoreOptionReadPinLaw", "same", "([B[BII)Z"⟩ : MethodName) method_4_code 4 (some .boolean) :: ws) ({ frames := 0, cells := 0, slots := 0, locals := 0 } : Room)) (fun a U => a = #[(.ref q1), (.ref q2), (.int (Int32.ofNat f)), (.int 1)] ∧ Z.Warmed39 U.vm ∧ U.heap = h0) (fun _ _ _ _ _ => True) (fun _ U o U' => ∃ v L, o = .returned v ∧ own_P (.int 1) h0 n0 v U'.heap L ∧ FrameEnd U o U' L ({ frames := 0, cells := 0, slots := 0, locals := 0 } : Room).cells ({ frames := 0, cells := 0, slots := 0, locals := 0 } : Room).slots) := by
  refine MetFree.of_bodySF (plainFor_of_name pn_com_example_isimud_isimud_oscore_OscoreOptionReadPinLaw) hisR ?_
  intro p e s m args below meth c s₁ Bd hml0 hP hK
  obtain ⟨rfl, hZ, hh⟩ := hP
  have hx := Bd.exec
  have hby := Bd.bytes
  have hlk : meth.locks = false := BodyLoose.notSynchronized Bd
  have hml : c.maxLocals = 4 := hml0
  have hown : s.vm.findClass "com/example/isimud/isimud/oscore/OscoreOptionReadPinLaw" = some m.cls := findClass_of_methodNamed Bd.named
  have hnm := (name_of_methodNamed Bd.named Bd.method).1
  have X0 : Stand p l e ({ frames := 0, cells := 0, slots := 0, locals := 0 } : Room) s m #[(.ref q1), (.ref q2), (.int (Int32.ofNat f)), (.int 1)] below meth c s₁ [] 0 0 := Stand.of_body Bd
  have e0 : s₁.heap = h0 := by rw [← hh, Bd.state]; rfl
  have N0 := Fr.nil n0
  refine own_cast (K := own_K s (own_P (.int 1) h0 n0) 0 0) (ef_method_4 m q1 q2 (Int32.ofNat f) (1 : Int32)) ?_
  generalize hKK : own_K s (own_P (.int 1) h0 n0) 0 0 = KK
  show own_Go p e below KK s₁ (mkF m 0 #[oR q1, oR q2, oN f, oI 1] [])
  refine own_at (fun t k => XS.aloadN X0.here hx rfl (hb hby d_method_4_0) rfl rfl k) ?_
  show own_Go p e below KK s₁ (mkF m 1 #[oR q1, oR q2, oN f, oI 1] [(.ref q1)])
  refine own_at (fun t k => XS.ifnullNo X0.here hx rfl (hb hby d_method_4_1) rfl k) ?_
  show own_Go p e below KK s₁ (mkF m 4 #[oR q1, oR q2, oN f, oI 1] [])
  refine own_at (fun t k => XS.aloadN X0.here hx rfl (hb hby d_method_4_4) rfl rfl k) ?_
  show own_Go p e below KK s₁ (mkF m 5 #[oR q1, oR q2, oN f, oI 1] [(.ref q1)])
  refine own_at (fun t k => own_len X0 hx hZ e0 Aq1 (N := (1 : Int32)) (by rw [own_tl hfn]; rfl) (g := (mkF m 5 #[oR q1, oR q2, oN f, oI 1] [(.ref q1)])) rfl rfl (hb hby d_method_4_5) t k) ?_
  show own_Go p e below KK s₁ (mkF m 6 #[oR q1, oR q2, oN f, oI 1] [(.int 1)])
  refine own_at (fun t k => XS.iloadN X0.here hx rfl (hb hby d_method_4_6) rfl k) ?_
  show own_Go p e below KK s₁ (mkF m 7 #[oR q1, oR q2, oN f, oI 1] [(.int 1), (.int 1)])
  have hc7 : (1 : Int32) = (1 : Int32) := by decide
  refine own_at (fun t k => XS.icmpYes X0.here hx rfl (pc0 := 7) (pc' := 12) rfl (hb hby d_method_4_7) rfl (Jvm.Free.XT.ii_eq_t hc7) (by decide) (by decide) k) ?_
  show own_Go p e below KK s₁ (mkF m 12 #[oR q1, oR q2, oN f, oI 1] [])
  refine own_at (fun t k => XS.iloadN X0.here hx rfl (hb hby d_method_4_12) rfl k) ?_
  show own_Go p e below KK s₁ (mkF m 13 #[oR q1, oR q2, oN f, oI 1] [(.int 1)])
  have hc13 : (0 : Int32) < (1 : Int32) := by decide
  refine own_at (fun t k => XS.ifNo X0.here hx rfl (hb hby d_method_4_13) rfl (Jvm.Free.XT.i0_le_f hc13) k) ?_
  show own_Go p e below KK s₁ (mkF m 16 #[oR q1, oR q2, oN f, oI 1] [])
  refine own_at (fun t k => XS.aloadN X0.here hx rfl (hb hby d_method_4_16) rfl rfl k) ?_
  show own_Go p e below KK s₁ (mkF m 17 #[oR q1, oR q2, oN f, oI 1] [(.ref q1)])
  refine own_at (fun t k => XS.iconst X0.here hx rfl (hb hby d_method_4_17) k) ?_
  show own_Go p e below KK s₁ (mkF m 18 #[oR q1, oR q2, oN f, oI 1] [(.int 0), (.ref q1)])
  refine own_at (fun t k => own_ldB X0 hx hZ e0 Aq1 (j := (0 : Int32)) (i := 0) (v := (.int (us.getD f 0))) (by decide) (by decide) (own_tg (n := 1) (i := 0) (by decide) hfn) (g := (mkF m 18 #[oR q1, oR q2, oN f, oI 1] [(.int 0), (.ref q1)])) rfl rfl (hb hby d_method_4_18) t k) ?_
  show own_Go p e below KK s₁ (mkF m 19 #[oR q1, oR q2, oN f, oI 1] [(.int (us.getD f 0))])
  refine own_at (fun t k => XS.aloadN X0.here hx rfl (hb hby d_method_4_19) rfl rfl k) ?_
  show own_Go p e below KK s₁ (mkF m 20 #[oR q1, oR q2, oN f, oI 1] [(.ref q2), (.int (us.getD f 0))])
  refine own_at (fun t k => XS.iloadN X0.here hx rfl (hb hby d_method_4_20) rfl k) ?_
  show own_Go p e below KK s₁ (mkF m 21 #[oR q1, oR q2, oN f, oI 1] [(.int (Int32.ofNat f)), (.ref q2), (.int (us.getD f 0))])
  refine own_at (fun t k => own_ldB X0 hx hZ e0 Aq2 (j := (Int32.ofNat f)) (i := f) (v := (.int (us.getD f 0))) (own_ofNat (by omega)).2.1 (own_ofNat (by omega)).1 (own_mg (by omega)) (g := (mkF m 21 #[oR q1, oR q2, oN f, oI 1] [(.int (Int32.ofNat f)), (.ref q2), (.int (us.getD f 0))])) rfl rfl (hb hby d_method_4_21) t k) ?_
  show own_Go p e below KK s₁ (mkF m 22 #[oR q1, oR q2, oN f, oI 1] [(.int (us.getD f 0)), (.int (us.getD f 0))])
  have hc22 : (us.getD f 0) = (us.getD f 0) := rfl
  refine own_at (fun t k => XS.icmpNo X0.here hx rfl (hb hby d_method_4_22) rfl (Jvm.Free.XT.ii_ne_f hc22) k) ?_
  show own_Go p e below KK s₁ (mkF m 25 #[oR q1, oR q2, oN f, oI 1] [])
  refine own_at (fun t k => XS.iloadN X0.here hx rfl (hb hby d_method_4_25) rfl k) ?_
  show own_Go p e below KK s₁ (mkF m 26 #[oR q1, oR q2, oN f, oI 1] [(.int 1)])
  refine own_at (fun t k => XS.iconst X0.here hx rfl (hb hby d_method_4_26) k) ?_
  show own_Go p e below KK s₁ (mkF m 27 #[oR q1, oR q2, oN f, oI 1] [(.int 1), (.int 1)])
  have hc27 : ¬ ((1 : Int32) < (1 : Int32)) := by decide
  refine own_at (fun t k => XS.icmpYes X0.here hx rfl (pc0 := 27) (pc' := 41) rfl (hb hby d_method_4_27) rfl (Jvm.Free.XT.ii_le_t hc27) (by decide) (by decide) k) ?_
  show own_Go p e below KK s₁ (mkF m 41 #[oR q1, oR q2, oN f, oI 1] [])
  refine own_at (fun t k => XS.iloadN X0.here hx rfl (hb hby d_method_4_41) rfl k) ?_
  show own_Go p e below KK s₁ (mkF m 42 #[oR q1, oR q2, oN f, oI 1] [(.int 1)])
  refine own_at (fun t k => XS.iconst X0.here hx rfl (hb hby d_method_4_42) k) ?_
  show own_Go p e below KK s₁ (mkF m 43 #[oR q1, oR q2, oN f, oI 1] [(.int 2), (.int 1)])
  have hc43 : ¬ ((2 : Int32) < (1 : Int32)) := by decide
  refine own_at (fun t k => XS.icmpYes X0.here hx rfl (pc0 := 43) (pc' := 57) rfl (hb hby d_method_4_43) rfl (Jvm.Free.XT.ii_le_t hc43) (by decide) (by decide) k) ?_
  show own_Go p e below KK s₁ (mkF m 57 #[oR q1, oR q2, oN f, oI 1] [])
  refine own_at (fun t k => XS.iloadN X0.here hx rfl (hb hby d_method_4_57) rfl k) ?_
  show own_Go p e below KK s₁ (mkF m 58 #[oR q1, oR q2, oN f, oI 1] [(.int 1)])
  refine own_at (fun t k => XS.iconst X0.here hx rfl (hb hby d_method_4_58) k) ?_
  show own_Go p e below KK s₁ (mkF m 59 #[oR q1, oR q2, oN f, oI 1] [(.int 3), (.int 1)])
  have hc59 : ¬ ((3 : Int32) < (1 : Int32)) := by decide
  refine own_at (fun t k => XS.icmpYes X0.here hx rfl (pc0 := 59) (pc' := 73) rfl (hb hby d_method_4_59) rfl (Jvm.Free.XT.ii_le_t hc59) (by decide) (by decide) k) ?_
  show own_Go p e below KK s₁ (mkF m 73 #[oR q1, oR q2, oN f, oI 1] [])
  refine own_at (fun t k => XS.iloadN X0.here hx rfl (hb hby d_method_4_73) rfl k) ?_
  show own_Go p e below KK s₁ (mkF m 74 #[oR q1, oR q2, oN f, oI 1] [(.int 1)])
  refine own_at (fun t k => XS.iconst X0.here hx rfl (hb hby d_method_4_74) k) ?_
  show own_Go p e below KK s₁ (mkF m 75 #[oR q1, oR q2, oN f, oI 1] [(.int 4), (.int 1)])
  have hc75 : ¬ ((4 : Int32) < (1 : Int32)) := by decide
  refine own_at (fun t k => XS.icmpYes X0.here hx rfl (pc0 := 75) (pc' := 89) rfl (hb hby d_method_4_75) rfl (Jvm.Free.XT.ii_le_t hc75) (by decide) (by decide) k) ?_
  show own_Go p e below KK s₁ (mkF m 89 #[oR q1, oR q2, oN f, oI 1] [])
  refine own_at (fun t k => XS.iconst X0.here hx rfl (hb hby d_method_4_89) k) ?_
  show own_Go p e below KK s₁ (mkF m 90 #[oR q1, oR q2, oN f, oI 1] [(.int 1)])
  refine own_at (fun t k => XS.goto X0.here hx rfl (pc0 := 90) (pc' := 94) rfl (hb hby d_method_4_90) (by decide) (by decide) k) ?_
  show own_Go p e below KK s₁ (mkF m 94 #[oR q1, oR q2, oN f, oI 1] [(.int 1)])
  subst hKK
  exact own_retN X0 hx hlk (t := .boolean) Bd.returns (by simp) (hb hby d_method_4_94) (w := (1 : Int32)) (show nar .boolean (1 : Int32) = 1 from by decide) ⟨rfl, N0, e0⟩ (Nat.le_of_ble_eq_true rfl) (Nat.le_of_ble_eq_true rfl)
theorem d_method_4_30 : decode method_4_code 30 = .ok (.aload_n 0, 1) := by decide +kernel
theorem d_method_4_31 : decode method_4_code 31 = .ok (.iconst 1, 1) := by decide +kernel
theorem d_method_4_32 : decode method_4_code 32 = .ok (.baload, 1) := by decide +kernel
theorem d_method_4_33 : decode method_4_code 33 = .ok (.aload_n 1, 1) := by decide +kernel
theorem d_method_4_34 : decode method_4_code 34 = .ok (.iload_n 2, 1) := by decide +kernel
theorem d_method_4_35 : decode method_4_code 35 = .ok (.iconst 1, 1) := by decide +kernel
theorem d_method_4_36 : decode method_4_code 36 = .ok (.iadd, 1) := by decide +kernel
theorem d_method_4_37 : decode method_4_code 37 = .ok (.baload, 1) := by decide +kernel
theorem d_method_4_38 : decode method_4_code 38 = .ok (.if_icmp .ne 55, 3) := by decide +kernel
set_option maxRecDepth 65536 in
set_option maxHeartbeats 40000000 in
theorem rm_same2 (l : Launch) (Z : State) (a0 : Array Value) (hw : ∀ d ∈ tables_1, d.before a0 Z = true) (ws : List Jvm.Cond) (q1 : Addr) (q2 : Addr) (f : Nat) (us : List Int32) (h0 : Heap) (n0 : Nat) (Z0 : n0 ≤ h0.size) (Aq1 : own_A Z h0 q1 "[B" .byte (((us.map Value.int).drop f).take 2)) (Aq2 : own_A Z h0 q2 "[B" .byte (us.map Value.int)) (hfn : f + 2 ≤ us.length) (hl : us.length ≤ 13) :
    MetFree l (⟨"com/example/isimud/isimud/oscore/OscoreOptionReadPinLaw", "same", "([B[BII)Z"⟩ : MethodName) (head1 (Jvm.Cond.code (⟨"com/example/isimud/isimud/oscore/OscoreOptionReadPinLaw", "same", "([B[BII)Z"⟩ : MethodName) method_4_code 4 (some .boolean) :: ws) ({ frames := 0, cells := 0, slots := 0, locals := 0 } : Room)) (fun a U => a = #[(.ref q1), (.ref q2), (.int (Int32.ofNat f)), (.int 2)] ∧ Z.Warmed39 U.vm ∧ U.heap = h0) (fun _ _ _ _ _ => True) (fun _ U o U' => ∃ v L, o = .returned v ∧ own_P (.int 1) h0 n0 v U'.heap L ∧ FrameEnd U o U' L ({ frames := 0, cells := 0, slots := 0, locals := 0 } : Room).cells ({ frames := 0, cells := 0, slots := 0, locals := 0 } : Room).slots) := by
  refine MetFree.of_bodySF (plainFor_of_name pn_com_example_isimud_isimud_oscore_OscoreOptionReadPinLaw) hisR ?_
  intro p e s m args below meth c s₁ Bd hml0 hP hK
  obtain ⟨rfl, hZ, hh⟩ := hP
  have hx := Bd.exec
  have hby := Bd.bytes
  have hlk : meth.locks = false := BodyLoose.notSynchronized Bd
  have hml : c.maxLocals = 4 := hml0
  have hown : s.vm.findClass "com/example/isimud/isimud/oscore/OscoreOptionReadPinLaw" = some m.cls := findClass_of_methodNamed Bd.named
  have hnm := (name_of_methodNamed Bd.named Bd.method).1
  have X0 : Stand p l e ({ frames := 0, cells := 0, slots := 0, locals := 0 } : Room) s m #[(.ref q1), (.ref q2), (.int (Int32.ofNat f)), (.int 2)] below meth c s₁ [] 0 0 := Stand.of_body Bd
  have e0 : s₁.heap = h0 := by rw [← hh, Bd.state]; rfl
  have N0 := Fr.nil n0
  refine own_cast (K := own_K s (own_P (.int 1) h0 n0) 0 0) (ef_method_4 m q1 q2 (Int32.ofNat f) (2 : Int32)) ?_
  generalize hKK : own_K s (own_P (.int 1) h0 n0) 0 0 = KK
  show own_Go p e below KK s₁ (mkF m 0 #[oR q1, oR q2, oN f, oI 2] [])
  refine own_at (fun t k => XS.aloadN X0.here hx rfl (hb hby d_method_4_0) rfl rfl k) ?_
  show own_Go p e below KK s₁ (mkF m 1 #[oR q1, oR q2, oN f, oI 2] [(.ref q1)])
  refine own_at (fun t k => XS.ifnullNo X0.here hx rfl (hb hby d_method_4_1) rfl k) ?_
  show own_Go p e below KK s₁ (mkF m 4 #[oR q1, oR q2, oN f, oI 2] [])
  refine own_at (fun t k => XS.aloadN X0.here hx rfl (hb hby d_method_4_4) rfl rfl k) ?_
  show own_Go p e below KK s₁ (mkF m 5 #[oR q1, oR q2, oN f, oI 2] [(.ref q1)])
  refine own_at (fun t k => own_len X0 hx hZ e0 Aq1 (N := (2 : Int32)) (by rw [own_tl hfn]; rfl) (g := (mkF m 5 #[oR q1, oR q2, oN f, oI 2] [(.ref q1)])) rfl rfl (hb hby d_method_4_5) t k) ?_
  show own_Go p e below KK s₁ (mkF m 6 #[oR q1, oR q2, oN f, oI 2] [(.int 2)])
  refine own_at (fun t k => XS.iloadN X0.here hx rfl (hb hby d_method_4_6) rfl k) ?_
  show own_Go p e below KK s₁ (mkF m 7 #[oR q1, oR q2, oN f, oI 2] [(.int 2), (.int 2)])
  have hc7 : (2 : Int32) = (2 : Int32) := by decide
  refine own_at (fun t k => XS.icmpYes X0.here hx rfl (pc0 := 7) (pc' := 12) rfl (hb hby d_method_4_7) rfl (Jvm.Free.XT.ii_eq_t hc7) (by decide) (by decide) k) ?_
  show own_Go p e below KK s₁ (mkF m 12 #[oR q1, oR q2, oN f, oI 2] [])
  refine own_at (fun t k => XS.iloadN X0.here hx rfl (hb hby d_method_4_12) rfl k) ?_
  show own_Go p e below KK s₁ (mkF m 13 #[oR q1, oR q2, oN f, oI 2] [(.int 2)])
  have hc13 : (0 : Int32) < (2 : Int32) := by decide
  refine own_at (fun t k => XS.ifNo X0.here hx rfl (hb hby d_method_4_13) rfl (Jvm.Free.XT.i0_le_f hc13) k) ?_
  show own_Go p e below KK s₁ (mkF m 16 #[oR q1, oR q2, oN f, oI 2] [])
  refine own_at (fun t k => XS.aloadN X0.here hx rfl (hb hby d_method_4_16) rfl rfl k) ?_
  show own_Go p e below KK s₁ (mkF m 17 #[oR q1, oR q2, oN f, oI 2] [(.ref q1)])
  refine own_at (fun t k => XS.iconst X0.here hx rfl (hb hby d_method_4_17) k) ?_
  show own_Go p e below KK s₁ (mkF m 18 #[oR q1, oR q2, oN f, oI 2] [(.int 0), (.ref q1)])
  refine own_at (fun t k => own_ldB X0 hx hZ e0 Aq1 (j := (0 : Int32)) (i := 0) (v := (.int (us.getD f 0))) (by decide) (by decide) (own_tg (n := 2) (i := 0) (by decide) hfn) (g := (mkF m 18 #[oR q1, oR q2, oN f, oI 2] [(.int 0), (.ref q1)])) rfl rfl (hb hby d_method_4_18) t k) ?_
  show own_Go p e below KK s₁ (mkF m 19 #[oR q1, oR q2, oN f, oI 2] [(.int (us.getD f 0))])
  refine own_at (fun t k => XS.aloadN X0.here hx rfl (hb hby d_method_4_19) rfl rfl k) ?_
  show own_Go p e below KK s₁ (mkF m 20 #[oR q1, oR q2, oN f, oI 2] [(.ref q2), (.int (us.getD f 0))])
  refine own_at (fun t k => XS.iloadN X0.here hx rfl (hb hby d_method_4_20) rfl k) ?_
  show own_Go p e below KK s₁ (mkF m 21 #[oR q1, oR q2, oN f, oI 2] [(.int (Int32.ofNat f)), (.ref q2), (.int (us.getD f 0))])
  refine own_at (fun t k => own_ldB X0 hx hZ e0 Aq2 (j := (Int32.ofNat f)) (i := f) (v := (.int (us.getD f 0))) (own_ofNat (by omega)).2.1 (own_ofNat (by omega)).1 (own_mg (by omega)) (g := (mkF m 21 #[oR q1, oR q2, oN f, oI 2] [(.int (Int32.ofNat f)), (.ref q2), (.int (us.getD f 0))])) rfl rfl (hb hby d_method_4_21) t k) ?_
  show own_Go p e below KK s₁ (mkF m 22 #[oR q1, oR q2, oN f, oI 2] [(.int (us.getD f 0)), (.int (us.getD f 0))])
  have hc22 : (us.getD f 0) = (us.getD f 0) := rfl
  refine own_at (fun t k => XS.icmpNo X0.here hx rfl (hb hby d_method_4_22) rfl (Jvm.Free.XT.ii_ne_f hc22) k) ?_
  show own_Go p e below KK s₁ (mkF m 25 #[oR q1, oR q2, oN f, oI 2] [])
  refine own_at (fun t k => XS.iloadN X0.here hx rfl (hb hby d_method_4_25) rfl k) ?_
  show own_Go p e below KK s₁ (mkF m 26 #[oR q1, oR q2, oN f, oI 2] [(.int 2)])
  refine own_at (fun t k => XS.iconst X0.here hx rfl (hb hby d_method_4_26) k) ?_
  show own_Go p e below KK s₁ (mkF m 27 #[oR q1, oR q2, oN f, oI 2] [(.int 1), (.int 2)])
  have hc27 : (1 : Int32) < (2 : Int32) := by decide
  refine own_at (fun t k => XS.icmpNo X0.here hx rfl (hb hby d_method_4_27) rfl (Jvm.Free.XT.ii_le_f hc27) k) ?_
  show own_Go p e below KK s₁ (mkF m 30 #[oR q1, oR q2, oN f, oI 2] [])
  refine own_at (fun t k => XS.aloadN X0.here hx rfl (hb hby d_method_4_30) rfl rfl k) ?_
  show own_Go p e below KK s₁ (mkF m 31 #[oR q1, oR q2, oN f, oI 2] [(.ref q1)])
  refine own_at (fun t k => XS.iconst X0.here hx rfl (hb hby d_method_4_31) k) ?_
  show own_Go p e below KK s₁ (mkF m 32 #[oR q1, oR q2, oN f, oI 2] [(.int 1), (.ref q1)])
  refine own_at (fun t k => own_ldB X0 hx hZ e0 Aq1 (j := (1 : Int32)) (i := 1) (v := (.int (us.getD (f + 1) 0))) (by decide) (by decide) (own_tg (n := 2) (i := 1) (by decide) hfn) (g := (mkF m 32 #[oR q1, oR q2, oN f, oI 2] [(.int 1), (.ref q1)])) rfl rfl (hb hby d_method_4_32) t k) ?_
  show own_Go p e below KK s₁ (mkF m 33 #[oR q1, oR q2, oN f, oI 2] [(.int (us.getD (f + 1) 0))])
  refine own_at (fun t k => XS.aloadN X0.here hx rfl (hb hby d_method_4_33) rfl rfl k) ?_
  show own_Go p e below KK s₁ (mkF m 34 #[oR q1, oR q2, oN f, oI 2] [(.ref q2), (.int (us.getD (f + 1) 0))])
  refine own_at (fun t k => XS.iloadN X0.here hx rfl (hb hby d_method_4_34) rfl k) ?_
  show own_Go p e below KK s₁ (mkF m 35 #[oR q1, oR q2, oN f, oI 2] [(.int (Int32.ofNat f)), (.ref q2), (.int (us.getD (f + 1) 0))])
  refine own_at (fun t k => XS.iconst X0.here hx rfl (hb hby d_method_4_35) k) ?_
  show own_Go p e below KK s₁ (mkF m 36 #[oR q1, oR q2, oN f, oI 2] [(.int 1), (.int (Int32.ofNat f)), (.ref q2), (.int (us.getD (f + 1) 0))])
  refine own_at (fun t k => XS.iadd X0.here hx rfl (hb hby d_method_4_36) rfl k) ?_
  show own_Go p e below KK s₁ (mkF m 37 #[oR q1, oR q2, oN f, oI 2] [(.int ((Int32.ofNat f) + (1 : Int32))), (.ref q2), (.int (us.getD (f + 1) 0))])
  rw [show ((Int32.ofNat f) + (1 : Int32)) = (Int32.ofNat (f + 1)) from own_add f 1]
  show own_Go p e below KK s₁ (mkF m 37 #[oR q1, oR q2, oN f, oI 2] [(.int (Int32.ofNat (f + 1))), (.ref q2), (.int (us.getD (f + 1) 0))])
  refine own_at (fun t k => own_ldB X0 hx hZ e0 Aq2 (j := (Int32.ofNat (f + 1))) (i := (f + 1)) (v := (.int (us.getD (f + 1) 0))) (own_ofNat (by omega)).2.1 (own_ofNat (by omega)).1 (own_mg (by omega)) (g := (mkF m 37 #[oR q1, oR q2, oN f, oI 2] [(.int (Int32.ofNat (f + 1))), (.ref q2), (.int (us.getD (f + 1) 0))])) rfl rfl (hb hby d_method_4_37) t k) ?_
  show own_Go p e below KK s₁ (mkF m 38 #[oR q1, oR q2, oN f, oI 2] [(.int (us.getD (f + 1) 0)), (.int (us.getD (f + 1) 0))])
  have hc38 : (us.getD (f + 1) 0) = (us.getD (f + 1) 0) := rfl
  refine own_at (fun t k => XS.icmpNo X0.here hx rfl (hb hby d_method_4_38) rfl (Jvm.Free.XT.ii_ne_f hc38) k) ?_
  show own_Go p e below KK s₁ (mkF m 41 #[oR q1, oR q2, oN f, oI 2] [])
  refine own_at (fun t k => XS.iloadN X0.here hx rfl (hb hby d_method_4_41) rfl k) ?_
  show own_Go p e below KK s₁ (mkF m 42 #[oR q1, oR q2, oN f, oI 2] [(.int 2)])
  refine own_at (fun t k => XS.iconst X0.here hx rfl (hb hby d_method_4_42) k) ?_
  show own_Go p e below KK s₁ (mkF m 43 #[oR q1, oR q2, oN f, oI 2] [(.int 2), (.int 2)])
  have hc43 : ¬ ((2 : Int32) < (2 : Int32)) := by decide
  refine own_at (fun t k => XS.icmpYes X0.here hx rfl (pc0 := 43) (pc' := 57) rfl (hb hby d_method_4_43) rfl (Jvm.Free.XT.ii_le_t hc43) (by decide) (by decide) k) ?_
  show own_Go p e below KK s₁ (mkF m 57 #[oR q1, oR q2, oN f, oI 2] [])
  refine own_at (fun t k => XS.iloadN X0.here hx rfl (hb hby d_method_4_57) rfl k) ?_
  show own_Go p e below KK s₁ (mkF m 58 #[oR q1, oR q2, oN f, oI 2] [(.int 2)])
  refine own_at (fun t k => XS.iconst X0.here hx rfl (hb hby d_method_4_58) k) ?_
  show own_Go p e below KK s₁ (mkF m 59 #[oR q1, oR q2, oN f, oI 2] [(.int 3), (.int 2)])
  have hc59 : ¬ ((3 : Int32) < (2 : Int32)) := by decide
  refine own_at (fun t k => XS.icmpYes X0.here hx rfl (pc0 := 59) (pc' := 73) rfl (hb hby d_method_4_59) rfl (Jvm.Free.XT.ii_le_t hc59) (by decide) (by decide) k) ?_
  show own_Go p e below KK s₁ (mkF m 73 #[oR q1, oR q2, oN f, oI 2] [])
  refine own_at (fun t k => XS.iloadN X0.here hx rfl (hb hby d_method_4_73) rfl k) ?_
  show own_Go p e below KK s₁ (mkF m 74 #[oR q1, oR q2, oN f, oI 2] [(.int 2)])
  refine own_at (fun t k => XS.iconst X0.here hx rfl (hb hby d_method_4_74) k) ?_
  show own_Go p e below KK s₁ (mkF m 75 #[oR q1, oR q2, oN f, oI 2] [(.int 4), (.int 2)])
  have hc75 : ¬ ((4 : Int32) < (2 : Int32)) := by decide
  refine own_at (fun t k => XS.icmpYes X0.here hx rfl (pc0 := 75) (pc' := 89) rfl (hb hby d_method_4_75) rfl (Jvm.Free.XT.ii_le_t hc75) (by decide) (by decide) k) ?_
  show own_Go p e below KK s₁ (mkF m 89 #[oR q1, oR q2, oN f, oI 2] [])
  refine own_at (fun t k => XS.iconst X0.here hx rfl (hb hby d_method_4_89) k) ?_
  show own_Go p e below KK s₁ (mkF m 90 #[oR q1, oR q2, oN f, oI 2] [(.int 1)])
  refine own_at (fun t k => XS.goto X0.here hx rfl (pc0 := 90) (pc' := 94) rfl (hb hby d_method_4_90) (by decide) (by decide) k) ?_
  show own_Go p e below KK s₁ (mkF m 94 #[oR q1, oR q2, oN f, oI 2] [(.int 1)])
  subst hKK
  exact own_retN X0 hx hlk (t := .boolean) Bd.returns (by simp) (hb hby d_method_4_94) (w := (1 : Int32)) (show nar .boolean (1 : Int32) = 1 from by decide) ⟨rfl, N0, e0⟩ (Nat.le_of_ble_eq_true rfl) (Nat.le_of_ble_eq_true rfl)
theorem d_method_4_46 : decode method_4_code 46 = .ok (.aload_n 0, 1) := by decide +kernel
theorem d_method_4_47 : decode method_4_code 47 = .ok (.iconst 2, 1) := by decide +kernel
theorem d_method_4_48 : decode method_4_code 48 = .ok (.baload, 1) := by decide +kernel
theorem d_method_4_49 : decode method_4_code 49 = .ok (.aload_n 1, 1) := by decide +kernel
theorem d_method_4_50 : decode method_4_code 50 = .ok (.iload_n 2, 1) := by decide +kernel
theorem d_method_4_51 : decode method_4_code 51 = .ok (.iconst 2, 1) := by decide +kernel
theorem d_method_4_52 : decode method_4_code 52 = .ok (.iadd, 1) := by decide +kernel
theorem d_method_4_53 : decode method_4_code 53 = .ok (.baload, 1) := by decide +kernel
theorem d_method_4_54 : decode method_4_code 54 = .ok (.if_icmp .ne 39, 3) := by decide +kernel
set_option maxRecDepth 65536 in
set_option maxHeartbeats 40000000 in
theorem rm_same3 (l : Launch) (Z : State) (a0 : Array Value) (hw : ∀ d ∈ tables_1, d.before a0 Z = true) (ws : List Jvm.Cond) (q1 : Addr) (q2 : Addr) (f : Nat) (us : List Int32) (h0 : Heap) (n0 : Nat) (Z0 : n0 ≤ h0.size) (Aq1 : own_A Z h0 q1 "[B" .byte (((us.map Value.int).drop f).take 3)) (Aq2 : own_A Z h0 q2 "[B" .byte (us.map Value.int)) (hfn : f + 3 ≤ us.length) (hl : us.length ≤ 13) :
    MetFree l (⟨"com/example/isimud/isimud/oscore/OscoreOptionReadPinLaw", "same", "([B[BII)Z"⟩ : MethodName) (head1 (Jvm.Cond.code (⟨"com/example/isimud/isimud/oscore/OscoreOptionReadPinLaw", "same", "([B[BII)Z"⟩ : MethodName) method_4_code 4 (some .boolean) :: ws) ({ frames := 0, cells := 0, slots := 0, locals := 0 } : Room)) (fun a U => a = #[(.ref q1), (.ref q2), (.int (Int32.ofNat f)), (.int 3)] ∧ Z.Warmed39 U.vm ∧ U.heap = h0) (fun _ _ _ _ _ => True) (fun _ U o U' => ∃ v L, o = .returned v ∧ own_P (.int 1) h0 n0 v U'.heap L ∧ FrameEnd U o U' L ({ frames := 0, cells := 0, slots := 0, locals := 0 } : Room).cells ({ frames := 0, cells := 0, slots := 0, locals := 0 } : Room).slots) := by
  refine MetFree.of_bodySF (plainFor_of_name pn_com_example_isimud_isimud_oscore_OscoreOptionReadPinLaw) hisR ?_
  intro p e s m args below meth c s₁ Bd hml0 hP hK
  obtain ⟨rfl, hZ, hh⟩ := hP
  have hx := Bd.exec
  have hby := Bd.bytes
  have hlk : meth.locks = false := BodyLoose.notSynchronized Bd
  have hml : c.maxLocals = 4 := hml0
  have hown : s.vm.findClass "com/example/isimud/isimud/oscore/OscoreOptionReadPinLaw" = some m.cls := findClass_of_methodNamed Bd.named
  have hnm := (name_of_methodNamed Bd.named Bd.method).1
  have X0 : Stand p l e ({ frames := 0, cells := 0, slots := 0, locals := 0 } : Room) s m #[(.ref q1), (.ref q2), (.int (Int32.ofNat f)), (.int 3)] below meth c s₁ [] 0 0 := Stand.of_body Bd
  have e0 : s₁.heap = h0 := by rw [← hh, Bd.state]; rfl
  have N0 := Fr.nil n0
  refine own_cast (K := own_K s (own_P (.int 1) h0 n0) 0 0) (ef_method_4 m q1 q2 (Int32.ofNat f) (3 : Int32)) ?_
  generalize hKK : own_K s (own_P (.int 1) h0 n0) 0 0 = KK
  show own_Go p e below KK s₁ (mkF m 0 #[oR q1, oR q2, oN f, oI 3] [])
  refine own_at (fun t k => XS.aloadN X0.here hx rfl (hb hby d_method_4_0) rfl rfl k) ?_
  show own_Go p e below KK s₁ (mkF m 1 #[oR q1, oR q2, oN f, oI 3] [(.ref q1)])
  refine own_at (fun t k => XS.ifnullNo X0.here hx rfl (hb hby d_method_4_1) rfl k) ?_
  show own_Go p e below KK s₁ (mkF m 4 #[oR q1, oR q2, oN f, oI 3] [])
  refine own_at (fun t k => XS.aloadN X0.here hx rfl (hb hby d_method_4_4) rfl rfl k) ?_
  show own_Go p e below KK s₁ (mkF m 5 #[oR q1, oR q2, oN f, oI 3] [(.ref q1)])
  refine own_at (fun t k => own_len X0 hx hZ e0 Aq1 (N := (3 : Int32)) (by rw [own_tl hfn]; rfl) (g := (mkF m 5 #[oR q1, oR q2, oN f, oI 3] [(.ref q1)])) rfl rfl (hb hby d_method_4_5) t k) ?_
  show own_Go p e below KK s₁ (mkF m 6 #[oR q1, oR q2, oN f, oI 3] [(.int 3)])
  refine own_at (fun t k => XS.iloadN X0.here hx rfl (hb hby d_method_4_6) rfl k) ?_
  show own_Go p e below KK s₁ (mkF m 7 #[oR q1, oR q2, oN f, oI 3] [(.int 3), (.int 3)])
  have hc7 : (3 : Int32) = (3 : Int32) := by decide
  refine own_at (fun t k => XS.icmpYes X0.here hx rfl (pc0 := 7) (pc' := 12) rfl (hb hby d_method_4_7) rfl (Jvm.Free.XT.ii_eq_t hc7) (by decide) (by decide) k) ?_
  show own_Go p e below KK s₁ (mkF m 12 #[oR q1, oR q2, oN f, oI 3] [])
  refine own_at (fun t k => XS.iloadN X0.here hx rfl (hb hby d_method_4_12) rfl k) ?_
  show own_Go p e below KK s₁ (mkF m 13 #[oR q1, oR q2, oN f, oI 3] [(.int 3)])
  have hc13 : (0 : Int32) < (3 : Int32) := by decide
  refine own_at (fun t k => XS.ifNo X0.here hx rfl (hb hby d_method_4_13) rfl (Jvm.Free.XT.i0_le_f hc13) k) ?_
  show own_Go p e below KK s₁ (mkF m 16 #[oR q1, oR q2, oN f, oI 3] [])
  refine own_at (fun t k => XS.aloadN X0.here hx rfl (hb hby d_method_4_16) rfl rfl k) ?_
  show own_Go p e below KK s₁ (mkF m 17 #[oR q1, oR q2, oN f, oI 3] [(.ref q1)])
  refine own_at (fun t k => XS.iconst X0.here hx rfl (hb hby d_method_4_17) k) ?_
  show own_Go p e below KK s₁ (mkF m 18 #[oR q1, oR q2, oN f, oI 3] [(.int 0), (.ref q1)])
  refine own_at (fun t k => own_ldB X0 hx hZ e0 Aq1 (j := (0 : Int32)) (i := 0) (v := (.int (us.getD f 0))) (by decide) (by decide) (own_tg (n := 3) (i := 0) (by decide) hfn) (g := (mkF m 18 #[oR q1, oR q2, oN f, oI 3] [(.int 0), (.ref q1)])) rfl rfl (hb hby d_method_4_18) t k) ?_
  show own_Go p e below KK s₁ (mkF m 19 #[oR q1, oR q2, oN f, oI 3] [(.int (us.getD f 0))])
  refine own_at (fun t k => XS.aloadN X0.here hx rfl (hb hby d_method_4_19) rfl rfl k) ?_
  show own_Go p e below KK s₁ (mkF m 20 #[oR q1, oR q2, oN f, oI 3] [(.ref q2), (.int (us.getD f 0))])
  refine own_at (fun t k => XS.iloadN X0.here hx rfl (hb hby d_method_4_20) rfl k) ?_
  show own_Go p e below KK s₁ (mkF m 21 #[oR q1, oR q2, oN f, oI 3] [(.int (Int32.ofNat f)), (.ref q2), (.int (us.getD f 0))])
  refine own_at (fun t k => own_ldB X0 hx hZ e0 Aq2 (j := (Int32.ofNat f)) (i := f) (v := (.int (us.getD f 0))) (own_ofNat (by omega)).2.1 (own_ofNat (by omega)).1 (own_mg (by omega)) (g := (mkF m 21 #[oR q1, oR q2, oN f, oI 3] [(.int (Int32.ofNat f)), (.ref q2), (.int (us.getD f 0))])) rfl rfl (hb hby d_method_4_21) t k) ?_
  show own_Go p e below KK s₁ (mkF m 22 #[oR q1, oR q2, oN f, oI 3] [(.int (us.getD f 0)), (.int (us.getD f 0))])
  have hc22 : (us.getD f 0) = (us.getD f 0) := rfl
  refine own_at (fun t k => XS.icmpNo X0.here hx rfl (hb hby d_method_4_22) rfl (Jvm.Free.XT.ii_ne_f hc22) k) ?_
  show own_Go p e below KK s₁ (mkF m 25 #[oR q1, oR q2, oN f, oI 3] [])
  refine own_at (fun t k => XS.iloadN X0.here hx rfl (hb hby d_method_4_25) rfl k) ?_
  show own_Go p e below KK s₁ (mkF m 26 #[oR q1, oR q2, oN f, oI 3] [(.int 3)])
  refine own_at (fun t k => XS.iconst X0.here hx rfl (hb hby d_method_4_26) k) ?_
  show own_Go p e below KK s₁ (mkF m 27 #[oR q1, oR q2, oN f, oI 3] [(.int 1), (.int 3)])
  have hc27 : (1 : Int32) < (3 : Int32) := by decide
  refine own_at (fun t k => XS.icmpNo X0.here hx rfl (hb hby d_method_4_27) rfl (Jvm.Free.XT.ii_le_f hc27) k) ?_
  show own_Go p e below KK s₁ (mkF m 30 #[oR q1, oR q2, oN f, oI 3] [])
  refine own_at (fun t k => XS.aloadN X0.here hx rfl (hb hby d_method_4_30) rfl rfl k) ?_
  show own_Go p e below KK s₁ (mkF m 31 #[oR q1, oR q2, oN f, oI 3] [(.ref q1)])
  refine own_at (fun t k => XS.iconst X0.here hx rfl (hb hby d_method_4_31) k) ?_
  show own_Go p e below KK s₁ (mkF m 32 #[oR q1, oR q2, oN f, oI 3] [(.int 1), (.ref q1)])
  refine own_at (fun t k => own_ldB X0 hx hZ e0 Aq1 (j := (1 : Int32)) (i := 1) (v := (.int (us.getD (f + 1) 0))) (by decide) (by decide) (own_tg (n := 3) (i := 1) (by decide) hfn) (g := (mkF m 32 #[oR q1, oR q2, oN f, oI 3] [(.int 1), (.ref q1)])) rfl rfl (hb hby d_method_4_32) t k) ?_
  show own_Go p e below KK s₁ (mkF m 33 #[oR q1, oR q2, oN f, oI 3] [(.int (us.getD (f + 1) 0))])
  refine own_at (fun t k => XS.aloadN X0.here hx rfl (hb hby d_method_4_33) rfl rfl k) ?_
  show own_Go p e below KK s₁ (mkF m 34 #[oR q1, oR q2, oN f, oI 3] [(.ref q2), (.int (us.getD (f + 1) 0))])
  refine own_at (fun t k => XS.iloadN X0.here hx rfl (hb hby d_method_4_34) rfl k) ?_
  show own_Go p e below KK s₁ (mkF m 35 #[oR q1, oR q2, oN f, oI 3] [(.int (Int32.ofNat f)), (.ref q2), (.int (us.getD (f + 1) 0))])
  refine own_at (fun t k => XS.iconst X0.here hx rfl (hb hby d_method_4_35) k) ?_
  show own_Go p e below KK s₁ (mkF m 36 #[oR q1, oR q2, oN f, oI 3] [(.int 1), (.int (Int32.ofNat f)), (.ref q2), (.int (us.getD (f + 1) 0))])
  refine own_at (fun t k => XS.iadd X0.here hx rfl (hb hby d_method_4_36) rfl k) ?_
  show own_Go p e below KK s₁ (mkF m 37 #[oR q1, oR q2, oN f, oI 3] [(.int ((Int32.ofNat f) + (1 : Int32))), (.ref q2), (.int (us.getD (f + 1) 0))])
  rw [show ((Int32.ofNat f) + (1 : Int32)) = (Int32.ofNat (f + 1)) from own_add f 1]
  show own_Go p e below KK s₁ (mkF m 37 #[oR q1, oR q2, oN f, oI 3] [(.int (Int32.ofNat (f + 1))), (.ref q2), (.int (us.getD (f + 1) 0))])
  refine own_at (fun t k => own_ldB X0 hx hZ e0 Aq2 (j := (Int32.ofNat (f + 1))) (i := (f + 1)) (v := (.int (us.getD (f + 1) 0))) (own_ofNat (by omega)).2.1 (own_ofNat (by omega)).1 (own_mg (by omega)) (g := (mkF m 37 #[oR q1, oR q2, oN f, oI 3] [(.int (Int32.ofNat (f + 1))), (.ref q2), (.int (us.getD (f + 1) 0))])) rfl rfl (hb hby d_method_4_37) t k) ?_
  show own_Go p e below KK s₁ (mkF m 38 #[oR q1, oR q2, oN f, oI 3] [(.int (us.getD (f + 1) 0)), (.int (us.getD (f + 1) 0))])
  have hc38 : (us.getD (f + 1) 0) = (us.getD (f + 1) 0) := rfl
  refine own_at (fun t k => XS.icmpNo X0.here hx rfl (hb hby d_method_4_38) rfl (Jvm.Free.XT.ii_ne_f hc38) k) ?_
  show own_Go p e below KK s₁ (mkF m 41 #[oR q1, oR q2, oN f, oI 3] [])
  refine own_at (fun t k => XS.iloadN X0.here hx rfl (hb hby d_method_4_41) rfl k) ?_
  show own_Go p e below KK s₁ (mkF m 42 #[oR q1, oR q2, oN f, oI 3] [(.int 3)])
  refine own_at (fun t k => XS.iconst X0.here hx rfl (hb hby d_method_4_42) k) ?_
  show own_Go p e below KK s₁ (mkF m 43 #[oR q1, oR q2, oN f, oI 3] [(.int 2), (.int 3)])
  have hc43 : (2 : Int32) < (3 : Int32) := by decide
  refine own_at (fun t k => XS.icmpNo X0.here hx rfl (hb hby d_method_4_43) rfl (Jvm.Free.XT.ii_le_f hc43) k) ?_
  show own_Go p e below KK s₁ (mkF m 46 #[oR q1, oR q2, oN f, oI 3] [])
  refine own_at (fun t k => XS.aloadN X0.here hx rfl (hb hby d_method_4_46) rfl rfl k) ?_
  show own_Go p e below KK s₁ (mkF m 47 #[oR q1, oR q2, oN f, oI 3] [(.ref q1)])
  refine own_at (fun t k => XS.iconst X0.here hx rfl (hb hby d_method_4_47) k) ?_
  show own_Go p e below KK s₁ (mkF m 48 #[oR q1, oR q2, oN f, oI 3] [(.int 2), (.ref q1)])
  refine own_at (fun t k => own_ldB X0 hx hZ e0 Aq1 (j := (2 : Int32)) (i := 2) (v := (.int (us.getD (f + 2) 0))) (by decide) (by decide) (own_tg (n := 3) (i := 2) (by decide) hfn) (g := (mkF m 48 #[oR q1, oR q2, oN f, oI 3] [(.int 2), (.ref q1)])) rfl rfl (hb hby d_method_4_48) t k) ?_
  show own_Go p e below KK s₁ (mkF m 49 #[oR q1, oR q2, oN f, oI 3] [(.int (us.getD (f + 2) 0))])
  refine own_at (fun t k => XS.aloadN X0.here hx rfl (hb hby d_method_4_49) rfl rfl k) ?_
  show own_Go p e below KK s₁ (mkF m 50 #[oR q1, oR q2, oN f, oI 3] [(.ref q2), (.int (us.getD (f + 2) 0))])
  refine own_at (fun t k => XS.iloadN X0.here hx rfl (hb hby d_method_4_50) rfl k) ?_
  show own_Go p e below KK s₁ (mkF m 51 #[oR q1, oR q2, oN f, oI 3] [(.int (Int32.ofNat f)), (.ref q2), (.int (us.getD (f + 2) 0))])
  refine own_at (fun t k => XS.iconst X0.here hx rfl (hb hby d_method_4_51) k) ?_
  show own_Go p e below KK s₁ (mkF m 52 #[oR q1, oR q2, oN f, oI 3] [(.int 2), (.int (Int32.ofNat f)), (.ref q2), (.int (us.getD (f + 2) 0))])
  refine own_at (fun t k => XS.iadd X0.here hx rfl (hb hby d_method_4_52) rfl k) ?_
  show own_Go p e below KK s₁ (mkF m 53 #[oR q1, oR q2, oN f, oI 3] [(.int ((Int32.ofNat f) + (2 : Int32))), (.ref q2), (.int (us.getD (f + 2) 0))])
  rw [show ((Int32.ofNat f) + (2 : Int32)) = (Int32.ofNat (f + 2)) from own_add f 2]
  show own_Go p e below KK s₁ (mkF m 53 #[oR q1, oR q2, oN f, oI 3] [(.int (Int32.ofNat (f + 2))), (.ref q2), (.int (us.getD (f + 2) 0))])
  refine own_at (fun t k => own_ldB X0 hx hZ e0 Aq2 (j := (Int32.ofNat (f + 2))) (i := (f + 2)) (v := (.int (us.getD (f + 2) 0))) (own_ofNat (by omega)).2.1 (own_ofNat (by omega)).1 (own_mg (by omega)) (g := (mkF m 53 #[oR q1, oR q2, oN f, oI 3] [(.int (Int32.ofNat (f + 2))), (.ref q2), (.int (us.getD (f + 2) 0))])) rfl rfl (hb hby d_method_4_53) t k) ?_
  show own_Go p e below KK s₁ (mkF m 54 #[oR q1, oR q2, oN f, oI 3] [(.int (us.getD (f + 2) 0)), (.int (us.getD (f + 2) 0))])
  have hc54 : (us.getD (f + 2) 0) = (us.getD (f + 2) 0) := rfl
  refine own_at (fun t k => XS.icmpNo X0.here hx rfl (hb hby d_method_4_54) rfl (Jvm.Free.XT.ii_ne_f hc54) k) ?_
  show own_Go p e below KK s₁ (mkF m 57 #[oR q1, oR q2, oN f, oI 3] [])
  refine own_at (fun t k => XS.iloadN X0.here hx rfl (hb hby d_method_4_57) rfl k) ?_
  show own_Go p e below KK s₁ (mkF m 58 #[oR q1, oR q2, oN f, oI 3] [(.int 3)])
  refine own_at (fun t k => XS.iconst X0.here hx rfl (hb hby d_method_4_58) k) ?_
  show own_Go p e below KK s₁ (mkF m 59 #[oR q1, oR q2, oN f, oI 3] [(.int 3), (.int 3)])
  have hc59 : ¬ ((3 : Int32) < (3 : Int32)) := by decide
  refine own_at (fun t k => XS.icmpYes X0.here hx rfl (pc0 := 59) (pc' := 73) rfl (hb hby d_method_4_59) rfl (Jvm.Free.XT.ii_le_t hc59) (by decide) (by decide) k) ?_
  show own_Go p e below KK s₁ (mkF m 73 #[oR q1, oR q2, oN f, oI 3] [])
  refine own_at (fun t k => XS.iloadN X0.here hx rfl (hb hby d_method_4_73) rfl k) ?_
  show own_Go p e below KK s₁ (mkF m 74 #[oR q1, oR q2, oN f, oI 3] [(.int 3)])
  refine own_at (fun t k => XS.iconst X0.here hx rfl (hb hby d_method_4_74) k) ?_
  show own_Go p e below KK s₁ (mkF m 75 #[oR q1, oR q2, oN f, oI 3] [(.int 4), (.int 3)])
  have hc75 : ¬ ((4 : Int32) < (3 : Int32)) := by decide
  refine own_at (fun t k => XS.icmpYes X0.here hx rfl (pc0 := 75) (pc' := 89) rfl (hb hby d_method_4_75) rfl (Jvm.Free.XT.ii_le_t hc75) (by decide) (by decide) k) ?_
  show own_Go p e below KK s₁ (mkF m 89 #[oR q1, oR q2, oN f, oI 3] [])
  refine own_at (fun t k => XS.iconst X0.here hx rfl (hb hby d_method_4_89) k) ?_
  show own_Go p e below KK s₁ (mkF m 90 #[oR q1, oR q2, oN f, oI 3] [(.int 1)])
  refine own_at (fun t k => XS.goto X0.here hx rfl (pc0 := 90) (pc' := 94) rfl (hb hby d_method_4_90) (by decide) (by decide) k) ?_
  show own_Go p e below KK s₁ (mkF m 94 #[oR q1, oR q2, oN f, oI 3] [(.int 1)])
  subst hKK
  exact own_retN X0 hx hlk (t := .boolean) Bd.returns (by simp) (hb hby d_method_4_94) (w := (1 : Int32)) (show nar .boolean (1 : Int32) = 1 from by decide) ⟨rfl, N0, e0⟩ (Nat.le_of_ble_eq_true rfl) (Nat.le_of_ble_eq_true rfl)
theorem d_method_4_62 : decode method_4_code 62 = .ok (.aload_n 0, 1) := by decide +kernel
theorem d_method_4_63 : decode method_4_code 63 = .ok (.iconst 3, 1) := by decide +kernel
theorem d_method_4_64 : decode method_4_code 64 = .ok (.baload, 1) := by decide +kernel
theorem d_method_4_65 : decode method_4_code 65 = .ok (.aload_n 1, 1) := by decide +kernel
theorem d_method_4_66 : decode method_4_code 66 = .ok (.iload_n 2, 1) := by decide +kernel
theorem d_method_4_67 : decode method_4_code 67 = .ok (.iconst 3, 1) := by decide +kernel
theorem d_method_4_68 : decode method_4_code 68 = .ok (.iadd, 1) := by decide +kernel
theorem d_method_4_69 : decode method_4_code 69 = .ok (.baload, 1) := by decide +kernel
theorem d_method_4_70 : decode method_4_code 70 = .ok (.if_icmp .ne 23, 3) := by decide +kernel
set_option maxRecDepth 65536 in
set_option maxHeartbeats 40000000 in
theorem rm_same4 (l : Launch) (Z : State) (a0 : Array Value) (hw : ∀ d ∈ tables_1, d.before a0 Z = true) (ws : List Jvm.Cond) (q1 : Addr) (q2 : Addr) (f : Nat) (us : List Int32) (h0 : Heap) (n0 : Nat) (Z0 : n0 ≤ h0.size) (Aq1 : own_A Z h0 q1 "[B" .byte (((us.map Value.int).drop f).take 4)) (Aq2 : own_A Z h0 q2 "[B" .byte (us.map Value.int)) (hfn : f + 4 ≤ us.length) (hl : us.length ≤ 13) :
    MetFree l (⟨"com/example/isimud/isimud/oscore/OscoreOptionReadPinLaw", "same", "([B[BII)Z"⟩ : MethodName) (head1 (Jvm.Cond.code (⟨"com/example/isimud/isimud/oscore/OscoreOptionReadPinLaw", "same", "([B[BII)Z"⟩ : MethodName) method_4_code 4 (some .boolean) :: ws) ({ frames := 0, cells := 0, slots := 0, locals := 0 } : Room)) (fun a U => a = #[(.ref q1), (.ref q2), (.int (Int32.ofNat f)), (.int 4)] ∧ Z.Warmed39 U.vm ∧ U.heap = h0) (fun _ _ _ _ _ => True) (fun _ U o U' => ∃ v L, o = .returned v ∧ own_P (.int 1) h0 n0 v U'.heap L ∧ FrameEnd U o U' L ({ frames := 0, cells := 0, slots := 0, locals := 0 } : Room).cells ({ frames := 0, cells := 0, slots := 0, locals := 0 } : Room).slots) := by
  refine MetFree.of_bodySF (plainFor_of_name pn_com_example_isimud_isimud_oscore_OscoreOptionReadPinLaw) hisR ?_
  intro p e s m args below meth c s₁ Bd hml0 hP hK
  obtain ⟨rfl, hZ, hh⟩ := hP
  have hx := Bd.exec
  have hby := Bd.bytes
  have hlk : meth.locks = false := BodyLoose.notSynchronized Bd
  have hml : c.maxLocals = 4 := hml0
  have hown : s.vm.findClass "com/example/isimud/isimud/oscore/OscoreOptionReadPinLaw" = some m.cls := findClass_of_methodNamed Bd.named
  have hnm := (name_of_methodNamed Bd.named Bd.method).1
  have X0 : Stand p l e ({ frames := 0, cells := 0, slots := 0, locals := 0 } : Room) s m #[(.ref q1), (.ref q2), (.int (Int32.ofNat f)), (.int 4)] below meth c s₁ [] 0 0 := Stand.of_body Bd
  have e0 : s₁.heap = h0 := by rw [← hh, Bd.state]; rfl
  have N0 := Fr.nil n0
  refine own_cast (K := own_K s (own_P (.int 1) h0 n0) 0 0) (ef_method_4 m q1 q2 (Int32.ofNat f) (4 : Int32)) ?_
  generalize hKK : own_K s (own_P (.int 1) h0 n0) 0 0 = KK
  show own_Go p e below KK s₁ (mkF m 0 #[oR q1, oR q2, oN f, oI 4] [])
  refine own_at (fun t k => XS.aloadN X0.here hx rfl (hb hby d_method_4_0) rfl rfl k) ?_
  show own_Go p e below KK s₁ (mkF m 1 #[oR q1, oR q2, oN f, oI 4] [(.ref q1)])
  refine own_at (fun t k => XS.ifnullNo X0.here hx rfl (hb hby d_method_4_1) rfl k) ?_
  show own_Go p e below KK s₁ (mkF m 4 #[oR q1, oR q2, oN f, oI 4] [])
  refine own_at (fun t k => XS.aloadN X0.here hx rfl (hb hby d_method_4_4) rfl rfl k) ?_
  show own_Go p e below KK s₁ (mkF m 5 #[oR q1, oR q2, oN f, oI 4] [(.ref q1)])
  refine own_at (fun t k => own_len X0 hx hZ e0 Aq1 (N := (4 : Int32)) (by rw [own_tl hfn]; rfl) (g := (mkF m 5 #[oR q1, oR q2, oN f, oI 4] [(.ref q1)])) rfl rfl (hb hby d_method_4_5) t k) ?_
  show own_Go p e below KK s₁ (mkF m 6 #[oR q1, oR q2, oN f, oI 4] [(.int 4)])
  refine own_at (fun t k => XS.iloadN X0.here hx rfl (hb hby d_method_4_6) rfl k) ?_
  show own_Go p e below KK s₁ (mkF m 7 #[oR q1, oR q2, oN f, oI 4] [(.int 4), (.int 4)])
  have hc7 : (4 : Int32) = (4 : Int32) := by decide
  refine own_at (fun t k => XS.icmpYes X0.here hx rfl (pc0 := 7) (pc' := 12) rfl (hb hby d_method_4_7) rfl (Jvm.Free.XT.ii_eq_t hc7) (by decide) (by decide) k) ?_
  show own_Go p e below KK s₁ (mkF m 12 #[oR q1, oR q2, oN f, oI 4] [])
  refine own_at (fun t k => XS.iloadN X0.here hx rfl (hb hby d_method_4_12) rfl k) ?_
  show own_Go p e below KK s₁ (mkF m 13 #[oR q1, oR q2, oN f, oI 4] [(.int 4)])
  have hc13 : (0 : Int32) < (4 : Int32) := by decide
  refine own_at (fun t k => XS.ifNo X0.here hx rfl (hb hby d_method_4_13) rfl (Jvm.Free.XT.i0_le_f hc13) k) ?_
  show own_Go p e below KK s₁ (mkF m 16 #[oR q1, oR q2, oN f, oI 4] [])
  refine own_at (fun t k => XS.aloadN X0.here hx rfl (hb hby d_method_4_16) rfl rfl k) ?_
  show own_Go p e below KK s₁ (mkF m 17 #[oR q1, oR q2, oN f, oI 4] [(.ref q1)])
  refine own_at (fun t k => XS.iconst X0.here hx rfl (hb hby d_method_4_17) k) ?_
  show own_Go p e below KK s₁ (mkF m 18 #[oR q1, oR q2, oN f, oI 4] [(.int 0), (.ref q1)])
  refine own_at (fun t k => own_ldB X0 hx hZ e0 Aq1 (j := (0 : Int32)) (i := 0) (v := (.int (us.getD f 0))) (by decide) (by decide) (own_tg (n := 4) (i := 0) (by decide) hfn) (g := (mkF m 18 #[oR q1, oR q2, oN f, oI 4] [(.int 0), (.ref q1)])) rfl rfl (hb hby d_method_4_18) t k) ?_
  show own_Go p e below KK s₁ (mkF m 19 #[oR q1, oR q2, oN f, oI 4] [(.int (us.getD f 0))])
  refine own_at (fun t k => XS.aloadN X0.here hx rfl (hb hby d_method_4_19) rfl rfl k) ?_
  show own_Go p e below KK s₁ (mkF m 20 #[oR q1, oR q2, oN f, oI 4] [(.ref q2), (.int (us.getD f 0))])
  refine own_at (fun t k => XS.iloadN X0.here hx rfl (hb hby d_method_4_20) rfl k) ?_
  show own_Go p e below KK s₁ (mkF m 21 #[oR q1, oR q2, oN f, oI 4] [(.int (Int32.ofNat f)), (.ref q2), (.int (us.getD f 0))])
  refine own_at (fun t k => own_ldB X0 hx hZ e0 Aq2 (j := (Int32.ofNat f)) (i := f) (v := (.int (us.getD f 0))) (own_ofNat (by omega)).2.1 (own_ofNat (by omega)).1 (own_mg (by omega)) (g := (mkF m 21 #[oR q1, oR q2, oN f, oI 4] [(.int (Int32.ofNat f)), (.ref q2), (.int (us.getD f 0))])) rfl rfl (hb hby d_method_4_21) t k) ?_
  show own_Go p e below KK s₁ (mkF m 22 #[oR q1, oR q2, oN f, oI 4] [(.int (us.getD f 0)), (.int (us.getD f 0))])
  have hc22 : (us.getD f 0) = (us.getD f 0) := rfl
  refine own_at (fun t k => XS.icmpNo X0.here hx rfl (hb hby d_method_4_22) rfl (Jvm.Free.XT.ii_ne_f hc22) k) ?_
  show own_Go p e below KK s₁ (mkF m 25 #[oR q1, oR q2, oN f, oI 4] [])
  refine own_at (fun t k => XS.iloadN X0.here hx rfl (hb hby d_method_4_25) rfl k) ?_
  show own_Go p e below KK s₁ (mkF m 26 #[oR q1, oR q2, oN f, oI 4] [(.int 4)])
  refine own_at (fun t k => XS.iconst X0.here hx rfl (hb hby d_method_4_26) k) ?_
  show own_Go p e below KK s₁ (mkF m 27 #[oR q1, oR q2, oN f, oI 4] [(.int 1), (.int 4)])
  have hc27 : (1 : Int32) < (4 : Int32) := by decide
  refine own_at (fun t k => XS.icmpNo X0.here hx rfl (hb hby d_method_4_27) rfl (Jvm.Free.XT.ii_le_f hc27) k) ?_
  show own_Go p e below KK s₁ (mkF m 30 #[oR q1, oR q2, oN f, oI 4] [])
  refine own_at (fun t k => XS.aloadN X0.here hx rfl (hb hby d_method_4_30) rfl rfl k) ?_
  show own_Go p e below KK s₁ (mkF m 31 #[oR q1, oR q2, oN f, oI 4] [(.ref q1)])
  refine own_at (fun t k => XS.iconst X0.here hx rfl (hb hby d_method_4_31) k) ?_
  show own_Go p e below KK s₁ (mkF m 32 #[oR q1, oR q2, oN f, oI 4] [(.int 1), (.ref q1)])
  refine own_at (fun t k => own_ldB X0 hx hZ e0 Aq1 (j := (1 : Int32)) (i := 1) (v := (.int (us.getD (f + 1) 0))) (by decide) (by decide) (own_tg (n := 4) (i := 1) (by decide) hfn) (g := (mkF m 32 #[oR q1, oR q2, oN f, oI 4] [(.int 1), (.ref q1)])) rfl rfl (hb hby d_method_4_32) t k) ?_
  show own_Go p e below KK s₁ (mkF m 33 #[oR q1, oR q2, oN f, oI 4] [(.int (us.getD (f + 1) 0))])
  refine own_at (fun t k => XS.aloadN X0.here hx rfl (hb hby d_method_4_33) rfl rfl k) ?_
  show own_Go p e below KK s₁ (mkF m 34 #[oR q1, oR q2, oN f, oI 4] [(.ref q2), (.int (us.getD (f + 1) 0))])
  refine own_at (fun t k => XS.iloadN X0.here hx rfl (hb hby d_method_4_34) rfl k) ?_
  show own_Go p e below KK s₁ (mkF m 35 #[oR q1, oR q2, oN f, oI 4] [(.int (Int32.ofNat f)), (.ref q2), (.int (us.getD (f + 1) 0))])
  refine own_at (fun t k => XS.iconst X0.here hx rfl (hb hby d_method_4_35) k) ?_
  show own_Go p e below KK s₁ (mkF m 36 #[oR q1, oR q2, oN f, oI 4] [(.int 1), (.int (Int32.ofNat f)), (.ref q2), (.int (us.getD (f + 1) 0))])
  refine own_at (fun t k => XS.iadd X0.here hx rfl (hb hby d_method_4_36) rfl k) ?_
  show own_Go p e below KK s₁ (mkF m 37 #[oR q1, oR q2, oN f, oI 4] [(.int ((Int32.ofNat f) + (1 : Int32))), (.ref q2), (.int (us.getD (f + 1) 0))])
  rw [show ((Int32.ofNat f) + (1 : Int32)) = (Int32.ofNat (f + 1)) from own_add f 1]
  show own_Go p e below KK s₁ (mkF m 37 #[oR q1, oR q2, oN f, oI 4] [(.int (Int32.ofNat (f + 1))), (.ref q2), (.int (us.getD (f + 1) 0))])
  refine own_at (fun t k => own_ldB X0 hx hZ e0 Aq2 (j := (Int32.ofNat (f + 1))) (i := (f + 1)) (v := (.int (us.getD (f + 1) 0))) (own_ofNat (by omega)).2.1 (own_ofNat (by omega)).1 (own_mg (by omega)) (g := (mkF m 37 #[oR q1, oR q2, oN f, oI 4] [(.int (Int32.ofNat (f + 1))), (.ref q2), (.int (us.getD (f + 1) 0))])) rfl rfl (hb hby d_method_4_37) t k) ?_
  show own_Go p e below KK s₁ (mkF m 38 #[oR q1, oR q2, oN f, oI 4] [(.int (us.getD (f + 1) 0)), (.int (us.getD (f + 1) 0))])
  have hc38 : (us.getD (f + 1) 0) = (us.getD (f + 1) 0) := rfl
  refine own_at (fun t k => XS.icmpNo X0.here hx rfl (hb hby d_method_4_38) rfl (Jvm.Free.XT.ii_ne_f hc38) k) ?_
  show own_Go p e below KK s₁ (mkF m 41 #[oR q1, oR q2, oN f, oI 4] [])
  refine own_at (fun t k => XS.iloadN X0.here hx rfl (hb hby d_method_4_41) rfl k) ?_
  show own_Go p e below KK s₁ (mkF m 42 #[oR q1, oR q2, oN f, oI 4] [(.int 4)])
  refine own_at (fun t k => XS.iconst X0.here hx rfl (hb hby d_method_4_42) k) ?_
  show own_Go p e below KK s₁ (mkF m 43 #[oR q1, oR q2, oN f, oI 4] [(.int 2), (.int 4)])
  have hc43 : (2 : Int32) < (4 : Int32) := by decide
  refine own_at (fun t k => XS.icmpNo X0.here hx rfl (hb hby d_method_4_43) rfl (Jvm.Free.XT.ii_le_f hc43) k) ?_
  show own_Go p e below KK s₁ (mkF m 46 #[oR q1, oR q2, oN f, oI 4] [])
  refine own_at (fun t k => XS.aloadN X0.here hx rfl (hb hby d_method_4_46) rfl rfl k) ?_
  show own_Go p e below KK s₁ (mkF m 47 #[oR q1, oR q2, oN f, oI 4] [(.ref q1)])
  refine own_at (fun t k => XS.iconst X0.here hx rfl (hb hby d_method_4_47) k) ?_
  show own_Go p e below KK s₁ (mkF m 48 #[oR q1, oR q2, oN f, oI 4] [(.int 2), (.ref q1)])
  refine own_at (fun t k => own_ldB X0 hx hZ e0 Aq1 (j := (2 : Int32)) (i := 2) (v := (.int (us.getD (f + 2) 0))) (by decide) (by decide) (own_tg (n := 4) (i := 2) (by decide) hfn) (g := (mkF m 48 #[oR q1, oR q2, oN f, oI 4] [(.int 2), (.ref q1)])) rfl rfl (hb hby d_method_4_48) t k) ?_
  show own_Go p e below KK s₁ (mkF m 49 #[oR q1, oR q2, oN f, oI 4] [(.int (us.getD (f + 2) 0))])
  refine own_at (fun t k => XS.aloadN X0.here hx rfl (hb hby d_method_4_49) rfl rfl k) ?_
  show own_Go p e below KK s₁ (mkF m 50 #[oR q1, oR q2, oN f, oI 4] [(.ref q2), (.int (us.getD (f + 2) 0))])
  refine own_at (fun t k => XS.iloadN X0.here hx rfl (hb hby d_method_4_50) rfl k) ?_
  show own_Go p e below KK s₁ (mkF m 51 #[oR q1, oR q2, oN f, oI 4] [(.int (Int32.ofNat f)), (.ref q2), (.int (us.getD (f + 2) 0))])
  refine own_at (fun t k => XS.iconst X0.here hx rfl (hb hby d_method_4_51) k) ?_
  show own_Go p e below KK s₁ (mkF m 52 #[oR q1, oR q2, oN f, oI 4] [(.int 2), (.int (Int32.ofNat f)), (.ref q2), (.int (us.getD (f + 2) 0))])
  refine own_at (fun t k => XS.iadd X0.here hx rfl (hb hby d_method_4_52) rfl k) ?_
  show own_Go p e below KK s₁ (mkF m 53 #[oR q1, oR q2, oN f, oI 4] [(.int ((Int32.ofNat f) + (2 : Int32))), (.ref q2), (.int (us.getD (f + 2) 0))])
  rw [show ((Int32.ofNat f) + (2 : Int32)) = (Int32.ofNat (f + 2)) from own_add f 2]
  show own_Go p e below KK s₁ (mkF m 53 #[oR q1, oR q2, oN f, oI 4] [(.int (Int32.ofNat (f + 2))), (.ref q2), (.int (us.getD (f + 2) 0))])
  refine own_at (fun t k => own_ldB X0 hx hZ e0 Aq2 (j := (Int32.ofNat (f + 2))) (i := (f + 2)) (v := (.int (us.getD (f + 2) 0))) (own_ofNat (by omega)).2.1 (own_ofNat (by omega)).1 (own_mg (by omega)) (g := (mkF m 53 #[oR q1, oR q2, oN f, oI 4] [(.int (Int32.ofNat (f + 2))), (.ref q2), (.int (us.getD (f + 2) 0))])) rfl rfl (hb hby d_method_4_53) t k) ?_
  show own_Go p e below KK s₁ (mkF m 54 #[oR q1, oR q2, oN f, oI 4] [(.int (us.getD (f + 2) 0)), (.int (us.getD (f + 2) 0))])
  have hc54 : (us.getD (f + 2) 0) = (us.getD (f + 2) 0) := rfl
  refine own_at (fun t k => XS.icmpNo X0.here hx rfl (hb hby d_method_4_54) rfl (Jvm.Free.XT.ii_ne_f hc54) k) ?_
  show own_Go p e below KK s₁ (mkF m 57 #[oR q1, oR q2, oN f, oI 4] [])
  refine own_at (fun t k => XS.iloadN X0.here hx rfl (hb hby d_method_4_57) rfl k) ?_
  show own_Go p e below KK s₁ (mkF m 58 #[oR q1, oR q2, oN f, oI 4] [(.int 4)])
  refine own_at (fun t k => XS.iconst X0.here hx rfl (hb hby d_method_4_58) k) ?_
  show own_Go p e below KK s₁ (mkF m 59 #[oR q1, oR q2, oN f, oI 4] [(.int 3), (.int 4)])
  have hc59 : (3 : Int32) < (4 : Int32) := by decide
  refine own_at (fun t k => XS.icmpNo X0.here hx rfl (hb hby d_method_4_59) rfl (Jvm.Free.XT.ii_le_f hc59) k) ?_
  show own_Go p e below KK s₁ (mkF m 62 #[oR q1, oR q2, oN f, oI 4] [])
  refine own_at (fun t k => XS.aloadN X0.here hx rfl (hb hby d_method_4_62) rfl rfl k) ?_
  show own_Go p e below KK s₁ (mkF m 63 #[oR q1, oR q2, oN f, oI 4] [(.ref q1)])
  refine own_at (fun t k => XS.iconst X0.here hx rfl (hb hby d_method_4_63) k) ?_
  show own_Go p e below KK s₁ (mkF m 64 #[oR q1, oR q2, oN f, oI 4] [(.int 3), (.ref q1)])
  refine own_at (fun t k => own_ldB X0 hx hZ e0 Aq1 (j := (3 : Int32)) (i := 3) (v := (.int (us.getD (f + 3) 0))) (by decide) (by decide) (own_tg (n := 4) (i := 3) (by decide) hfn) (g := (mkF m 64 #[oR q1, oR q2, oN f, oI 4] [(.int 3), (.ref q1)])) rfl rfl (hb hby d_method_4_64) t k) ?_
  show own_Go p e below KK s₁ (mkF m 65 #[oR q1, oR q2, oN f, oI 4] [(.int (us.getD (f + 3) 0))])
  refine own_at (fun t k => XS.aloadN X0.here hx rfl (hb hby d_method_4_65) rfl rfl k) ?_
  show own_Go p e below KK s₁ (mkF m 66 #[oR q1, oR q2, oN f, oI 4] [(.ref q2), (.int (us.getD (f + 3) 0))])
  refine own_at (fun t k => XS.iloadN X0.here hx rfl (hb hby d_method_4_66) rfl k) ?_
  show own_Go p e below KK s₁ (mkF m 67 #[oR q1, oR q2, oN f, oI 4] [(.int (Int32.ofNat f)), (.ref q2), (.int (us.getD (f + 3) 0))])
  refine own_at (fun t k => XS.iconst X0.here hx rfl (hb hby d_method_4_67) k) ?_
  show own_Go p e below KK s₁ (mkF m 68 #[oR q1, oR q2, oN f, oI 4] [(.int 3), (.int (Int32.ofNat f)), (.ref q2), (.int (us.getD (f + 3) 0))])
  refine own_at (fun t k => XS.iadd X0.here hx rfl (hb hby d_method_4_68) rfl k) ?_
  show own_Go p e below KK s₁ (mkF m 69 #[oR q1, oR q2, oN f, oI 4] [(.int ((Int32.ofNat f) + (3 : Int32))), (.ref q2), (.int (us.getD (f + 3) 0))])
  rw [show ((Int32.ofNat f) + (3 : Int32)) = (Int32.ofNat (f + 3)) from own_add f 3]
  show own_Go p e below KK s₁ (mkF m 69 #[oR q1, oR q2, oN f, oI 4] [(.int (Int32.ofNat (f + 3))), (.ref q2), (.int (us.getD (f + 3) 0))])
  refine own_at (fun t k => own_ldB X0 hx hZ e0 Aq2 (j := (Int32.ofNat (f + 3))) (i := (f + 3)) (v := (.int (us.getD (f + 3) 0))) (own_ofNat (by omega)).2.1 (own_ofNat (by omega)).1 (own_mg (by omega)) (g := (mkF m 69 #[oR q1, oR q2, oN f, oI 4] [(.int (Int32.ofNat (f + 3))), (.ref q2), (.int (us.getD (f + 3) 0))])) rfl rfl (hb hby d_method_4_69) t k) ?_
  show own_Go p e below KK s₁ (mkF m 70 #[oR q1, oR q2, oN f, oI 4] [(.int (us.getD (f + 3) 0)), (.int (us.getD (f + 3) 0))])
  have hc70 : (us.getD (f + 3) 0) = (us.getD (f + 3) 0) := rfl
  refine own_at (fun t k => XS.icmpNo X0.here hx rfl (hb hby d_method_4_70) rfl (Jvm.Free.XT.ii_ne_f hc70) k) ?_
  show own_Go p e below KK s₁ (mkF m 73 #[oR q1, oR q2, oN f, oI 4] [])
  refine own_at (fun t k => XS.iloadN X0.here hx rfl (hb hby d_method_4_73) rfl k) ?_
  show own_Go p e below KK s₁ (mkF m 74 #[oR q1, oR q2, oN f, oI 4] [(.int 4)])
  refine own_at (fun t k => XS.iconst X0.here hx rfl (hb hby d_method_4_74) k) ?_
  show own_Go p e below KK s₁ (mkF m 75 #[oR q1, oR q2, oN f, oI 4] [(.int 4), (.int 4)])
  have hc75 : ¬ ((4 : Int32) < (4 : Int32)) := by decide
  refine own_at (fun t k => XS.icmpYes X0.here hx rfl (pc0 := 75) (pc' := 89) rfl (hb hby d_method_4_75) rfl (Jvm.Free.XT.ii_le_t hc75) (by decide) (by decide) k) ?_
  show own_Go p e below KK s₁ (mkF m 89 #[oR q1, oR q2, oN f, oI 4] [])
  refine own_at (fun t k => XS.iconst X0.here hx rfl (hb hby d_method_4_89) k) ?_
  show own_Go p e below KK s₁ (mkF m 90 #[oR q1, oR q2, oN f, oI 4] [(.int 1)])
  refine own_at (fun t k => XS.goto X0.here hx rfl (pc0 := 90) (pc' := 94) rfl (hb hby d_method_4_90) (by decide) (by decide) k) ?_
  show own_Go p e below KK s₁ (mkF m 94 #[oR q1, oR q2, oN f, oI 4] [(.int 1)])
  subst hKK
  exact own_retN X0 hx hlk (t := .boolean) Bd.returns (by simp) (hb hby d_method_4_94) (w := (1 : Int32)) (show nar .boolean (1 : Int32) = 1 from by decide) ⟨rfl, N0, e0⟩ (Nat.le_of_ble_eq_true rfl) (Nat.le_of_ble_eq_true rfl)
theorem d_method_4_78 : decode method_4_code 78 = .ok (.aload_n 0, 1) := by decide +kernel
theorem d_method_4_79 : decode method_4_code 79 = .ok (.iconst 4, 1) := by decide +kernel
theorem d_method_4_80 : decode method_4_code 80 = .ok (.baload, 1) := by decide +kernel
theorem d_method_4_81 : decode method_4_code 81 = .ok (.aload_n 1, 1) := by decide +kernel
theorem d_method_4_82 : decode method_4_code 82 = .ok (.iload_n 2, 1) := by decide +kernel
theorem d_method_4_83 : decode method_4_code 83 = .ok (.iconst 4, 1) := by decide +kernel
theorem d_method_4_84 : decode method_4_code 84 = .ok (.iadd, 1) := by decide +kernel
theorem d_method_4_85 : decode method_4_code 85 = .ok (.baload, 1) := by decide +kernel
theorem d_method_4_86 : decode method_4_code 86 = .ok (.if_icmp .ne 7, 3) := by decide +kernel
set_option maxRecDepth 65536 in
set_option maxHeartbeats 40000000 in
theorem rm_same5 (l : Launch) (Z : State) (a0 : Array Value) (hw : ∀ d ∈ tables_1, d.before a0 Z = true) (ws : List Jvm.Cond) (q1 : Addr) (q2 : Addr) (f : Nat) (us : List Int32) (h0 : Heap) (n0 : Nat) (Z0 : n0 ≤ h0.size) (Aq1 : own_A Z h0 q1 "[B" .byte (((us.map Value.int).drop f).take 5)) (Aq2 : own_A Z h0 q2 "[B" .byte (us.map Value.int)) (hfn : f + 5 ≤ us.length) (hl : us.length ≤ 13) :
    MetFree l (⟨"com/example/isimud/isimud/oscore/OscoreOptionReadPinLaw", "same", "([B[BII)Z"⟩ : MethodName) (head1 (Jvm.Cond.code (⟨"com/example/isimud/isimud/oscore/OscoreOptionReadPinLaw", "same", "([B[BII)Z"⟩ : MethodName) method_4_code 4 (some .boolean) :: ws) ({ frames := 0, cells := 0, slots := 0, locals := 0 } : Room)) (fun a U => a = #[(.ref q1), (.ref q2), (.int (Int32.ofNat f)), (.int 5)] ∧ Z.Warmed39 U.vm ∧ U.heap = h0) (fun _ _ _ _ _ => True) (fun _ U o U' => ∃ v L, o = .returned v ∧ own_P (.int 1) h0 n0 v U'.heap L ∧ FrameEnd U o U' L ({ frames := 0, cells := 0, slots := 0, locals := 0 } : Room).cells ({ frames := 0, cells := 0, slots := 0, locals := 0 } : Room).slots) := by
  refine MetFree.of_bodySF (plainFor_of_name pn_com_example_isimud_isimud_oscore_OscoreOptionReadPinLaw) hisR ?_
  intro p e s m args below meth c s₁ Bd hml0 hP hK
  obtain ⟨rfl, hZ, hh⟩ := hP
  have hx := Bd.exec
  have hby := Bd.bytes
  have hlk : meth.locks = false := BodyLoose.notSynchronized Bd
  have hml : c.maxLocals = 4 := hml0
  have hown : s.vm.findClass "com/example/isimud/isimud/oscore/OscoreOptionReadPinLaw" = some m.cls := findClass_of_methodNamed Bd.named
  have hnm := (name_of_methodNamed Bd.named Bd.method).1
  have X0 : Stand p l e ({ frames := 0, cells := 0, slots := 0, locals := 0 } : Room) s m #[(.ref q1), (.ref q2), (.int (Int32.ofNat f)), (.int 5)] below meth c s₁ [] 0 0 := Stand.of_body Bd
  have e0 : s₁.heap = h0 := by rw [← hh, Bd.state]; rfl
  have N0 := Fr.nil n0
  refine own_cast (K := own_K s (own_P (.int 1) h0 n0) 0 0) (ef_method_4 m q1 q2 (Int32.ofNat f) (5 : Int32)) ?_
  generalize hKK : own_K s (own_P (.int 1) h0 n0) 0 0 = KK
  show own_Go p e below KK s₁ (mkF m 0 #[oR q1, oR q2, oN f, oI 5] [])
  refine own_at (fun t k => XS.aloadN X0.here hx rfl (hb hby d_method_4_0) rfl rfl k) ?_
  show own_Go p e below KK s₁ (mkF m 1 #[oR q1, oR q2, oN f, oI 5] [(.ref q1)])
  refine own_at (fun t k => XS.ifnullNo X0.here hx rfl (hb hby d_method_4_1) rfl k) ?_
  show own_Go p e below KK s₁ (mkF m 4 #[oR q1, oR q2, oN f, oI 5] [])
  refine own_at (fun t k => XS.aloadN X0.here hx rfl (hb hby d_method_4_4) rfl rfl k) ?_
  show own_Go p e below KK s₁ (mkF m 5 #[oR q1, oR q2, oN f, oI 5] [(.ref q1)])
  refine own_at (fun t k => own_len X0 hx hZ e0 Aq1 (N := (5 : Int32)) (by rw [own_tl hfn]; rfl) (g := (mkF m 5 #[oR q1, oR q2, oN f, oI 5] [(.ref q1)])) rfl rfl (hb hby d_method_4_5) t k) ?_
  show own_Go p e below KK s₁ (mkF m 6 #[oR q1, oR q2, oN f, oI 5] [(.int 5)])
  refine own_at (fun t k => XS.iloadN X0.here hx rfl (hb hby d_method_4_6) rfl k) ?_
  show own_Go p e below KK s₁ (mkF m 7 #[oR q1, oR q2, oN f, oI 5] [(.int 5), (.int 5)])
  have hc7 : (5 : Int32) = (5 : Int32) := by decide
  refine own_at (fun t k => XS.icmpYes X0.here hx rfl (pc0 := 7) (pc' := 12) rfl (hb hby d_method_4_7) rfl (Jvm.Free.XT.ii_eq_t hc7) (by decide) (by decide) k) ?_
  show own_Go p e below KK s₁ (mkF m 12 #[oR q1, oR q2, oN f, oI 5] [])
  refine own_at (fun t k => XS.iloadN X0.here hx rfl (hb hby d_method_4_12) rfl k) ?_
  show own_Go p e below KK s₁ (mkF m 13 #[oR q1, oR q2, oN f, oI 5] [(.int 5)])
  have hc13 : (0 : Int32) < (5 : Int32) := by decide
  refine own_at (fun t k => XS.ifNo X0.here hx rfl (hb hby d_method_4_13) rfl (Jvm.Free.XT.i0_le_f hc13) k) ?_
  show own_Go p e below KK s₁ (mkF m 16 #[oR q1, oR q2, oN f, oI 5] [])
  refine own_at (fun t k => XS.aloadN X0.here hx rfl (hb hby d_method_4_16) rfl rfl k) ?_
  show own_Go p e below KK s₁ (mkF m 17 #[oR q1, oR q2, oN f, oI 5] [(.ref q1)])
  refine own_at (fun t k => XS.iconst X0.here hx rfl (hb hby d_method_4_17) k) ?_
  show own_Go p e below KK s₁ (mkF m 18 #[oR q1, oR q2, oN f, oI 5] [(.int 0), (.ref q1)])
  refine own_at (fun t k => own_ldB X0 hx hZ e0 Aq1 (j := (0 : Int32)) (i := 0) (v := (.int (us.getD f 0))) (by decide) (by decide) (own_tg (n := 5) (i := 0) (by decide) hfn) (g := (mkF m 18 #[oR q1, oR q2, oN f, oI 5] [(.int 0), (.ref q1)])) rfl rfl (hb hby d_method_4_18) t k) ?_
  show own_Go p e below KK s₁ (mkF m 19 #[oR q1, oR q2, oN f, oI 5] [(.int (us.getD f 0))])
  refine own_at (fun t k => XS.aloadN X0.here hx rfl (hb hby d_method_4_19) rfl rfl k) ?_
  show own_Go p e below KK s₁ (mkF m 20 #[oR q1, oR q2, oN f, oI 5] [(.ref q2), (.int (us.getD f 0))])
  refine own_at (fun t k => XS.iloadN X0.here hx rfl (hb hby d_method_4_20) rfl k) ?_
  show own_Go p e below KK s₁ (mkF m 21 #[oR q1, oR q2, oN f, oI 5] [(.int (Int32.ofNat f)), (.ref q2), (.int (us.getD f 0))])
  refine own_at (fun t k => own_ldB X0 hx hZ e0 Aq2 (j := (Int32.ofNat f)) (i := f) (v := (.int (us.getD f 0))) (own_ofNat (by omega)).2.1 (own_ofNat (by omega)).1 (own_mg (by omega)) (g := (mkF m 21 #[oR q1, oR q2, oN f, oI 5] [(.int (Int32.ofNat f)), (.ref q2), (.int (us.getD f 0))])) rfl rfl (hb hby d_method_4_21) t k) ?_
  show own_Go p e below KK s₁ (mkF m 22 #[oR q1, oR q2, oN f, oI 5] [(.int (us.getD f 0)), (.int (us.getD f 0))])
  have hc22 : (us.getD f 0) = (us.getD f 0) := rfl
  refine own_at (fun t k => XS.icmpNo X0.here hx rfl (hb hby d_method_4_22) rfl (Jvm.Free.XT.ii_ne_f hc22) k) ?_
  show own_Go p e below KK s₁ (mkF m 25 #[oR q1, oR q2, oN f, oI 5] [])
  refine own_at (fun t k => XS.iloadN X0.here hx rfl (hb hby d_method_4_25) rfl k) ?_
  show own_Go p e below KK s₁ (mkF m 26 #[oR q1, oR q2, oN f, oI 5] [(.int 5)])
  refine own_at (fun t k => XS.iconst X0.here hx rfl (hb hby d_method_4_26) k) ?_
  show own_Go p e below KK s₁ (mkF m 27 #[oR q1, oR q2, oN f, oI 5] [(.int 1), (.int 5)])
  have hc27 : (1 : Int32) < (5 : Int32) := by decide
  refine own_at (fun t k => XS.icmpNo X0.here hx rfl (hb hby d_method_4_27) rfl (Jvm.Free.XT.ii_le_f hc27) k) ?_
  show own_Go p e below KK s₁ (mkF m 30 #[oR q1, oR q2, oN f, oI 5] [])
  refine own_at (fun t k => XS.aloadN X0.here hx rfl (hb hby d_method_4_30) rfl rfl k) ?_
  show own_Go p e below KK s₁ (mkF m 31 #[oR q1, oR q2, oN f, oI 5] [(.ref q1)])
  refine own_at (fun t k => XS.iconst X0.here hx rfl (hb hby d_method_4_31) k) ?_
  show own_Go p e below KK s₁ (mkF m 32 #[oR q1, oR q2, oN f, oI 5] [(.int 1), (.ref q1)])
  refine own_at (fun t k => own_ldB X0 hx hZ e0 Aq1 (j := (1 : Int32)) (i := 1) (v := (.int (us.getD (f + 1) 0))) (by decide) (by decide) (own_tg (n := 5) (i := 1) (by decide) hfn) (g := (mkF m 32 #[oR q1, oR q2, oN f, oI 5] [(.int 1), (.ref q1)])) rfl rfl (hb hby d_method_4_32) t k) ?_
  show own_Go p e below KK s₁ (mkF m 33 #[oR q1, oR q2, oN f, oI 5] [(.int (us.getD (f + 1) 0))])
  refine own_at (fun t k => XS.aloadN X0.here hx rfl (hb hby d_method_4_33) rfl rfl k) ?_
  show own_Go p e below KK s₁ (mkF m 34 #[oR q1, oR q2, oN f, oI 5] [(.ref q2), (.int (us.getD (f + 1) 0))])
  refine own_at (fun t k => XS.iloadN X0.here hx rfl (hb hby d_method_4_34) rfl k) ?_
  show own_Go p e below KK s₁ (mkF m 35 #[oR q1, oR q2, oN f, oI 5] [(.int (Int32.ofNat f)), (.ref q2), (.int (us.getD (f + 1) 0))])
  refine own_at (fun t k => XS.iconst X0.here hx rfl (hb hby d_method_4_35) k) ?_
  show own_Go p e below KK s₁ (mkF m 36 #[oR q1, oR q2, oN f, oI 5] [(.int 1), (.int (Int32.ofNat f)), (.ref q2), (.int (us.getD (f + 1) 0))])
  refine own_at (fun t k => XS.iadd X0.here hx rfl (hb hby d_method_4_36) rfl k) ?_
  show own_Go p e below KK s₁ (mkF m 37 #[oR q1, oR q2, oN f, oI 5] [(.int ((Int32.ofNat f) + (1 : Int32))), (.ref q2), (.int (us.getD (f + 1) 0))])
  rw [show ((Int32.ofNat f) + (1 : Int32)) = (Int32.ofNat (f + 1)) from own_add f 1]
  show own_Go p e below KK s₁ (mkF m 37 #[oR q1, oR q2, oN f, oI 5] [(.int (Int32.ofNat (f + 1))), (.ref q2), (.int (us.getD (f + 1) 0))])
  refine own_at (fun t k => own_ldB X0 hx hZ e0 Aq2 (j := (Int32.ofNat (f + 1))) (i := (f + 1)) (v := (.int (us.getD (f + 1) 0))) (own_ofNat (by omega)).2.1 (own_ofNat (by omega)).1 (own_mg (by omega)) (g := (mkF m 37 #[oR q1, oR q2, oN f, oI 5] [(.int (Int32.ofNat (f + 1))), (.ref q2), (.int (us.getD (f + 1) 0))])) rfl rfl (hb hby d_method_4_37) t k) ?_
  show own_Go p e below KK s₁ (mkF m 38 #[oR q1, oR q2, oN f, oI 5] [(.int (us.getD (f + 1) 0)), (.int (us.getD (f + 1) 0))])
  have hc38 : (us.getD (f + 1) 0) = (us.getD (f + 1) 0) := rfl
  refine own_at (fun t k => XS.icmpNo X0.here hx rfl (hb hby d_method_4_38) rfl (Jvm.Free.XT.ii_ne_f hc38) k) ?_
  show own_Go p e below KK s₁ (mkF m 41 #[oR q1, oR q2, oN f, oI 5] [])
  refine own_at (fun t k => XS.iloadN X0.here hx rfl (hb hby d_method_4_41) rfl k) ?_
  show own_Go p e below KK s₁ (mkF m 42 #[oR q1, oR q2, oN f, oI 5] [(.int 5)])
  refine own_at (fun t k => XS.iconst X0.here hx rfl (hb hby d_method_4_42) k) ?_
  show own_Go p e below KK s₁ (mkF m 43 #[oR q1, oR q2, oN f, oI 5] [(.int 2), (.int 5)])
  have hc43 : (2 : Int32) < (5 : Int32) := by decide
  refine own_at (fun t k => XS.icmpNo X0.here hx rfl (hb hby d_method_4_43) rfl (Jvm.Free.XT.ii_le_f hc43) k) ?_
  show own_Go p e below KK s₁ (mkF m 46 #[oR q1, oR q2, oN f, oI 5] [])
  refine own_at (fun t k => XS.aloadN X0.here hx rfl (hb hby d_method_4_46) rfl rfl k) ?_
  show own_Go p e below KK s₁ (mkF m 47 #[oR q1, oR q2, oN f, oI 5] [(.ref q1)])
  refine own_at (fun t k => XS.iconst X0.here hx rfl (hb hby d_method_4_47) k) ?_
  show own_Go p e below KK s₁ (mkF m 48 #[oR q1, oR q2, oN f, oI 5] [(.int 2), (.ref q1)])
  refine own_at (fun t k => own_ldB X0 hx hZ e0 Aq1 (j := (2 : Int32)) (i := 2) (v := (.int (us.getD (f + 2) 0))) (by decide) (by decide) (own_tg (n := 5) (i := 2) (by decide) hfn) (g := (mkF m 48 #[oR q1, oR q2, oN f, oI 5] [(.int 2), (.ref q1)])) rfl rfl (hb hby d_method_4_48) t k) ?_
  show own_Go p e below KK s₁ (mkF m 49 #[oR q1, oR q2, oN f, oI 5] [(.int (us.getD (f + 2) 0))])
  refine own_at (fun t k => XS.aloadN X0.here hx rfl (hb hby d_method_4_49) rfl rfl k) ?_
  show own_Go p e below KK s₁ (mkF m 50 #[oR q1, oR q2, oN f, oI 5] [(.ref q2), (.int (us.getD (f + 2) 0))])
  refine own_at (fun t k => XS.iloadN X0.here hx rfl (hb hby d_method_4_50) rfl k) ?_
  show own_Go p e below KK s₁ (mkF m 51 #[oR q1, oR q2, oN f, oI 5] [(.int (Int32.ofNat f)), (.ref q2), (.int (us.getD (f + 2) 0))])
  refine own_at (fun t k => XS.iconst X0.here hx rfl (hb hby d_method_4_51) k) ?_
  show own_Go p e below KK s₁ (mkF m 52 #[oR q1, oR q2, oN f, oI 5] [(.int 2), (.int (Int32.ofNat f)), (.ref q2), (.int (us.getD (f + 2) 0))])
  refine own_at (fun t k => XS.iadd X0.here hx rfl (hb hby d_method_4_52) rfl k) ?_
  show own_Go p e below KK s₁ (mkF m 53 #[oR q1, oR q2, oN f, oI 5] [(.int ((Int32.ofNat f) + (2 : Int32))), (.ref q2), (.int (us.getD (f + 2) 0))])
  rw [show ((Int32.ofNat f) + (2 : Int32)) = (Int32.ofNat (f + 2)) from own_add f 2]
  show own_Go p e below KK s₁ (mkF m 53 #[oR q1, oR q2, oN f, oI 5] [(.int (Int32.ofNat (f + 2))), (.ref q2), (.int (us.getD (f + 2) 0))])
  refine own_at (fun t k => own_ldB X0 hx hZ e0 Aq2 (j := (Int32.ofNat (f + 2))) (i := (f + 2)) (v := (.int (us.getD (f + 2) 0))) (own_ofNat (by omega)).2.1 (own_ofNat (by omega)).1 (own_mg (by omega)) (g := (mkF m 53 #[oR q1, oR q2, oN f, oI 5] [(.int (Int32.ofNat (f + 2))), (.ref q2), (.int (us.getD (f + 2) 0))])) rfl rfl (hb hby d_method_4_53) t k) ?_
  show own_Go p e below KK s₁ (mkF m 54 #[oR q1, oR q2, oN f, oI 5] [(.int (us.getD (f + 2) 0)), (.int (us.getD (f + 2) 0))])
  have hc54 : (us.getD (f + 2) 0) = (us.getD (f + 2) 0) := rfl
  refine own_at (fun t k => XS.icmpNo X0.here hx rfl (hb hby d_method_4_54) rfl (Jvm.Free.XT.ii_ne_f hc54) k) ?_
  show own_Go p e below KK s₁ (mkF m 57 #[oR q1, oR q2, oN f, oI 5] [])
  refine own_at (fun t k => XS.iloadN X0.here hx rfl (hb hby d_method_4_57) rfl k) ?_
  show own_Go p e below KK s₁ (mkF m 58 #[oR q1, oR q2, oN f, oI 5] [(.int 5)])
  refine own_at (fun t k => XS.iconst X0.here hx rfl (hb hby d_method_4_58) k) ?_
  show own_Go p e below KK s₁ (mkF m 59 #[oR q1, oR q2, oN f, oI 5] [(.int 3), (.int 5)])
  have hc59 : (3 : Int32) < (5 : Int32) := by decide
  refine own_at (fun t k => XS.icmpNo X0.here hx rfl (hb hby d_method_4_59) rfl (Jvm.Free.XT.ii_le_f hc59) k) ?_
  show own_Go p e below KK s₁ (mkF m 62 #[oR q1, oR q2, oN f, oI 5] [])
  refine own_at (fun t k => XS.aloadN X0.here hx rfl (hb hby d_method_4_62) rfl rfl k) ?_
  show own_Go p e below KK s₁ (mkF m 63 #[oR q1, oR q2, oN f, oI 5] [(.ref q1)])
  refine own_at (fun t k => XS.iconst X0.here hx rfl (hb hby d_method_4_63) k) ?_
  show own_Go p e below KK s₁ (mkF m 64 #[oR q1, oR q2, oN f, oI 5] [(.int 3), (.ref q1)])
  refine own_at (fun t k => own_ldB X0 hx hZ e0 Aq1 (j := (3 : Int32)) (i := 3) (v := (.int (us.getD (f + 3) 0))) (by decide) (by decide) (own_tg (n := 5) (i := 3) (by decide) hfn) (g := (mkF m 64 #[oR q1, oR q2, oN f, oI 5] [(.int 3), (.ref q1)])) rfl rfl (hb hby d_method_4_64) t k) ?_
  show own_Go p e below KK s₁ (mkF m 65 #[oR q1, oR q2, oN f, oI 5] [(.int (us.getD (f + 3) 0))])
  refine own_at (fun t k => XS.aloadN X0.here hx rfl (hb hby d_method_4_65) rfl rfl k) ?_
  show own_Go p e below KK s₁ (mkF m 66 #[oR q1, oR q2, oN f, oI 5] [(.ref q2), (.int (us.getD (f + 3) 0))])
  refine own_at (fun t k => XS.iloadN X0.here hx rfl (hb hby d_method_4_66) rfl k) ?_
  show own_Go p e below KK s₁ (mkF m 67 #[oR q1, oR q2, oN f, oI 5] [(.int (Int32.ofNat f)), (.ref q2), (.int (us.getD (f + 3) 0))])
  refine own_at (fun t k => XS.iconst X0.here hx rfl (hb hby d_method_4_67) k) ?_
  show own_Go p e below KK s₁ (mkF m 68 #[oR q1, oR q2, oN f, oI 5] [(.int 3), (.int (Int32.ofNat f)), (.ref q2), (.int (us.getD (f + 3) 0))])
  refine own_at (fun t k => XS.iadd X0.here hx rfl (hb hby d_method_4_68) rfl k) ?_
  show own_Go p e below KK s₁ (mkF m 69 #[oR q1, oR q2, oN f, oI 5] [(.int ((Int32.ofNat f) + (3 : Int32))), (.ref q2), (.int (us.getD (f + 3) 0))])
  rw [show ((Int32.ofNat f) + (3 : Int32)) = (Int32.ofNat (f + 3)) from own_add f 3]
  show own_Go p e below KK s₁ (mkF m 69 #[oR q1, oR q2, oN f, oI 5] [(.int (Int32.ofNat (f + 3))), (.ref q2), (.int (us.getD (f + 3) 0))])
  refine own_at (fun t k => own_ldB X0 hx hZ e0 Aq2 (j := (Int32.ofNat (f + 3))) (i := (f + 3)) (v := (.int (us.getD (f + 3) 0))) (own_ofNat (by omega)).2.1 (own_ofNat (by omega)).1 (own_mg (by omega)) (g := (mkF m 69 #[oR q1, oR q2, oN f, oI 5] [(.int (Int32.ofNat (f + 3))), (.ref q2), (.int (us.getD (f + 3) 0))])) rfl rfl (hb hby d_method_4_69) t k) ?_
  show own_Go p e below KK s₁ (mkF m 70 #[oR q1, oR q2, oN f, oI 5] [(.int (us.getD (f + 3) 0)), (.int (us.getD (f + 3) 0))])
  have hc70 : (us.getD (f + 3) 0) = (us.getD (f + 3) 0) := rfl
  refine own_at (fun t k => XS.icmpNo X0.here hx rfl (hb hby d_method_4_70) rfl (Jvm.Free.XT.ii_ne_f hc70) k) ?_
  show own_Go p e below KK s₁ (mkF m 73 #[oR q1, oR q2, oN f, oI 5] [])
  refine own_at (fun t k => XS.iloadN X0.here hx rfl (hb hby d_method_4_73) rfl k) ?_
  show own_Go p e below KK s₁ (mkF m 74 #[oR q1, oR q2, oN f, oI 5] [(.int 5)])
  refine own_at (fun t k => XS.iconst X0.here hx rfl (hb hby d_method_4_74) k) ?_
  show own_Go p e below KK s₁ (mkF m 75 #[oR q1, oR q2, oN f, oI 5] [(.int 4), (.int 5)])
  have hc75 : (4 : Int32) < (5 : Int32) := by decide
  refine own_at (fun t k => XS.icmpNo X0.here hx rfl (hb hby d_method_4_75) rfl (Jvm.Free.XT.ii_le_f hc75) k) ?_
  show own_Go p e below KK s₁ (mkF m 78 #[oR q1, oR q2, oN f, oI 5] [])
  refine own_at (fun t k => XS.aloadN X0.here hx rfl (hb hby d_method_4_78) rfl rfl k) ?_
  show own_Go p e below KK s₁ (mkF m 79 #[oR q1, oR q2, oN f, oI 5] [(.ref q1)])
  refine own_at (fun t k => XS.iconst X0.here hx rfl (hb hby d_method_4_79) k) ?_
  show own_Go p e below KK s₁ (mkF m 80 #[oR q1, oR q2, oN f, oI 5] [(.int 4), (.ref q1)])
  refine own_at (fun t k => own_ldB X0 hx hZ e0 Aq1 (j := (4 : Int32)) (i := 4) (v := (.int (us.getD (f + 4) 0))) (by decide) (by decide) (own_tg (n := 5) (i := 4) (by decide) hfn) (g := (mkF m 80 #[oR q1, oR q2, oN f, oI 5] [(.int 4), (.ref q1)])) rfl rfl (hb hby d_method_4_80) t k) ?_
  show own_Go p e below KK s₁ (mkF m 81 #[oR q1, oR q2, oN f, oI 5] [(.int (us.getD (f + 4) 0))])
  refine own_at (fun t k => XS.aloadN X0.here hx rfl (hb hby d_method_4_81) rfl rfl k) ?_
  show own_Go p e below KK s₁ (mkF m 82 #[oR q1, oR q2, oN f, oI 5] [(.ref q2), (.int (us.getD (f + 4) 0))])
  refine own_at (fun t k => XS.iloadN X0.here hx rfl (hb hby d_method_4_82) rfl k) ?_
  show own_Go p e below KK s₁ (mkF m 83 #[oR q1, oR q2, oN f, oI 5] [(.int (Int32.ofNat f)), (.ref q2), (.int (us.getD (f + 4) 0))])
  refine own_at (fun t k => XS.iconst X0.here hx rfl (hb hby d_method_4_83) k) ?_
  show own_Go p e below KK s₁ (mkF m 84 #[oR q1, oR q2, oN f, oI 5] [(.int 4), (.int (Int32.ofNat f)), (.ref q2), (.int (us.getD (f + 4) 0))])
  refine own_at (fun t k => XS.iadd X0.here hx rfl (hb hby d_method_4_84) rfl k) ?_
  show own_Go p e below KK s₁ (mkF m 85 #[oR q1, oR q2, oN f, oI 5] [(.int ((Int32.ofNat f) + (4 : Int32))), (.ref q2), (.int (us.getD (f + 4) 0))])
  rw [show ((Int32.ofNat f) + (4 : Int32)) = (Int32.ofNat (f + 4)) from own_add f 4]
  show own_Go p e below KK s₁ (mkF m 85 #[oR q1, oR q2, oN f, oI 5] [(.int (Int32.ofNat (f + 4))), (.ref q2), (.int (us.getD (f + 4) 0))])
  refine own_at (fun t k => own_ldB X0 hx hZ e0 Aq2 (j := (Int32.ofNat (f + 4))) (i := (f + 4)) (v := (.int (us.getD (f + 4) 0))) (own_ofNat (by omega)).2.1 (own_ofNat (by omega)).1 (own_mg (by omega)) (g := (mkF m 85 #[oR q1, oR q2, oN f, oI 5] [(.int (Int32.ofNat (f + 4))), (.ref q2), (.int (us.getD (f + 4) 0))])) rfl rfl (hb hby d_method_4_85) t k) ?_
  show own_Go p e below KK s₁ (mkF m 86 #[oR q1, oR q2, oN f, oI 5] [(.int (us.getD (f + 4) 0)), (.int (us.getD (f + 4) 0))])
  have hc86 : (us.getD (f + 4) 0) = (us.getD (f + 4) 0) := rfl
  refine own_at (fun t k => XS.icmpNo X0.here hx rfl (hb hby d_method_4_86) rfl (Jvm.Free.XT.ii_ne_f hc86) k) ?_
  show own_Go p e below KK s₁ (mkF m 89 #[oR q1, oR q2, oN f, oI 5] [])
  refine own_at (fun t k => XS.iconst X0.here hx rfl (hb hby d_method_4_89) k) ?_
  show own_Go p e below KK s₁ (mkF m 90 #[oR q1, oR q2, oN f, oI 5] [(.int 1)])
  refine own_at (fun t k => XS.goto X0.here hx rfl (pc0 := 90) (pc' := 94) rfl (hb hby d_method_4_90) (by decide) (by decide) k) ?_
  show own_Go p e below KK s₁ (mkF m 94 #[oR q1, oR q2, oN f, oI 5] [(.int 1)])
  subst hKK
  exact own_retN X0 hx hlk (t := .boolean) Bd.returns (by simp) (hb hby d_method_4_94) (w := (1 : Int32)) (show nar .boolean (1 : Int32) = 1 from by decide) ⟨rfl, N0, e0⟩ (Nat.le_of_ble_eq_true rfl) (Nat.le_of_ble_eq_true rfl)
theorem rm_same (l : Launch) (Z : State) (a0 : Array Value) (hw : ∀ d ∈ tables_1, d.before a0 Z = true) (ws : List Jvm.Cond) (q1 q2 : Addr) (f n : Nat) (us : List Int32) (h0 : Heap) (n0 : Nat) (Z0 : n0 ≤ h0.size) (hn : n ≤ 5) (Aq1 : own_A Z h0 q1 "[B" .byte (((us.map Value.int).drop f).take n)) (Aq2 : own_A Z h0 q2 "[B" .byte (us.map Value.int)) (hfn : f + n ≤ us.length) (hl : us.length ≤ 13) :
    MetFree l (⟨"com/example/isimud/isimud/oscore/OscoreOptionReadPinLaw", "same", "([B[BII)Z"⟩ : MethodName) (head1 (Jvm.Cond.code (⟨"com/example/isimud/isimud/oscore/OscoreOptionReadPinLaw", "same", "([B[BII)Z"⟩ : MethodName) method_4_code 4 (some .boolean) :: ws) ({ frames := 0, cells := 0, slots := 0, locals := 0 } : Room)) (fun a U => a = #[(.ref q1), (.ref q2), (.int (Int32.ofNat f)), (.int (Int32.ofNat n))] ∧ Z.Warmed39 U.vm ∧ U.heap = h0) (fun _ _ _ _ _ => True) (fun _ U o U' => ∃ v L, o = .returned v ∧ own_P (.int 1) h0 n0 v U'.heap L ∧ FrameEnd U o U' L ({ frames := 0, cells := 0, slots := 0, locals := 0 } : Room).cells ({ frames := 0, cells := 0, slots := 0, locals := 0 } : Room).slots) := by
  match n, hn with
  | 0, _ => exact rm_same0 l Z a0 hw ws q1 q2 f us h0 n0 Z0 Aq1 Aq2 hfn hl
  | 1, _ => exact rm_same1 l Z a0 hw ws q1 q2 f us h0 n0 Z0 Aq1 Aq2 hfn hl
  | 2, _ => exact rm_same2 l Z a0 hw ws q1 q2 f us h0 n0 Z0 Aq1 Aq2 hfn hl
  | 3, _ => exact rm_same3 l Z a0 hw ws q1 q2 f us h0 n0 Z0 Aq1 Aq2 hfn hl
  | 4, _ => exact rm_same4 l Z a0 hw ws q1 q2 f us h0 n0 Z0 Aq1 Aq2 hfn hl
  | 5, _ => exact rm_same5 l Z a0 hw ws q1 q2 f us h0 n0 Z0 Aq1 Aq2 hfn hl
  | n + 6, h => exact absurd h (by omega)
theorem own_toN {z : Int32} {k : Nat} (h : 0 ≤ z.toInt ∧ z.toInt ≤ k) : ∃ n : Nat, n ≤ k ∧ z = Int32.ofNat n := by
  have r := rng32 z
  refine ⟨z.toInt.toNat, by omega, ?_⟩
  apply Int32.toInt_inj.mp
  rw [(own_ofNat (by omega)).2.2]; omega
theorem own_n6 {x z : Int32} (h : z = (x &&& (2147483647 : Int32)) - ((x &&& (2147483647 : Int32)) / (6 : Int32)) * (6 : Int32)) : ∃ n : Nat, n ≤ 5 ∧ z = Int32.ofNat n := by
  have a1 := c_and x 2147483647 (by decide)
  have a2 := (c_irem (x &&& (2147483647 : Int32)) 6 6 (by decide)).1 a1.1
  rw [← irem_eq_mod, ← h] at a2
  exact own_toN (by omega)
theorem own_n3 {x z : Int32} (h : z = (x &&& (3 : Int32))) : ∃ n : Nat, n ≤ 3 ∧ z = Int32.ofNat n := by
  have h1 := c_and x 3 (by decide)
  rw [← h, show (3 : Int32).toInt = 3 from rfl] at h1
  exact own_toN (by omega)
theorem own_sb {i2 : Nat} (h : i2 ≤ 3) : (((Int32.ofNat i2).toInt8.toInt32) &&& (255 : Int32)) = Int32.ofNat i2 := by
  match i2, h with
  | 0, _ => decide
  | 1, _ => decide
  | 2, _ => decide
  | 3, _ => decide
  | n + 4, h => exact absurd h (by omega)
theorem own_s0 {u : List Int32} {y : Int32} (h : 0 < u.length) : (u.set 0 y)[0]? = some y := by rw [List.getElem?_set_self h]
theorem own_s1 {u : List Int32} {y y2 : Int32} {n : Nat} (h : 0 < u.length) : ((u.set 0 y).set (1 + n) y2)[0]? = some y := by rw [List.getElem?_set_ne (by omega)]; exact own_s0 h
theorem own_s2 {u : List Int32} {y y2 : Int32} {n : Nat} (h : 1 + n < u.length) : ((u.set 0 y).set (1 + n) y2)[1 + n]? = some y2 := by rw [List.getElem?_set_self (by rw [List.length_set]; exact h)]
theorem own_fl00 {i1 : Nat} (h : i1 ≤ 5) (hn0 : ¬ i1 = 0) : own_flag ((((Int32.ofNat i1) ||| (0 : Int32)) ||| (0 : Int32)).toInt8.toInt32) i1 false false := by
  unfold own_flag
  match i1, h with
  | 0, _ => exact absurd rfl hn0
  | 1, _ => decide
  | 2, _ => decide
  | 3, _ => decide
  | 4, _ => decide
  | 5, _ => decide
  | n + 6, h => exact absurd h (by omega)
theorem own_z {i1 : Nat} (h : i1 ≤ 5) (q : (((Int32.ofNat i1) ||| (0 : Int32)) ||| (0 : Int32)) = (0 : Int32)) : i1 = 0 := by
  match i1, h with
  | 0, _ => rfl
  | 1, _ => exact absurd q (by decide)
  | 2, _ => exact absurd q (by decide)
  | 3, _ => exact absurd q (by decide)
  | 4, _ => exact absurd q (by decide)
  | 5, _ => exact absurd q (by decide)
  | n + 6, h => exact absurd h (by omega)
theorem own_z' {i1 : Nat} (q : ¬ (((Int32.ofNat i1) ||| (0 : Int32)) ||| (0 : Int32)) = (0 : Int32)) : ¬ i1 = 0 := fun r => q (by rw [r]; decide)
theorem own_fl01 {i1 : Nat} (h : i1 ≤ 5) : own_flag ((((Int32.ofNat i1) ||| (8 : Int32)) ||| (0 : Int32)).toInt8.toInt32) i1 false true := by
  unfold own_flag
  match i1, h with
  | 0, _ => decide
  | 1, _ => decide
  | 2, _ => decide
  | 3, _ => decide
  | 4, _ => decide
  | 5, _ => decide
  | n + 6, h => exact absurd h (by omega)
theorem own_nz01 {i1 : Nat} (h : i1 ≤ 5) : ¬ (((Int32.ofNat i1) ||| (8 : Int32)) ||| (0 : Int32)) = (0 : Int32) := by
  match i1, h with
  | 0, _ => decide
  | 1, _ => decide
  | 2, _ => decide
  | 3, _ => decide
  | 4, _ => decide
  | 5, _ => decide
  | n + 6, h => exact absurd h (by omega)
theorem own_fl10 {i1 : Nat} (h : i1 ≤ 5) : own_flag ((((Int32.ofNat i1) ||| (0 : Int32)) ||| (16 : Int32)).toInt8.toInt32) i1 true false := by
  unfold own_flag
  match i1, h with
  | 0, _ => decide
  | 1, _ => decide
  | 2, _ => decide
  | 3, _ => decide
  | 4, _ => decide
  | 5, _ => decide
  | n + 6, h => exact absurd h (by omega)
theorem own_nz10 {i1 : Nat} (h : i1 ≤ 5) : ¬ (((Int32.ofNat i1) ||| (0 : Int32)) ||| (16 : Int32)) = (0 : Int32) := by
  match i1, h with
  | 0, _ => decide
  | 1, _ => decide
  | 2, _ => decide
  | 3, _ => decide
  | 4, _ => decide
  | 5, _ => decide
  | n + 6, h => exact absurd h (by omega)
theorem own_fl11 {i1 : Nat} (h : i1 ≤ 5) : own_flag ((((Int32.ofNat i1) ||| (8 : Int32)) ||| (16 : Int32)).toInt8.toInt32) i1 true true := by
  unfold own_flag
  match i1, h with
  | 0, _ => decide
  | 1, _ => decide
  | 2, _ => decide
  | 3, _ => decide
  | 4, _ => decide
  | 5, _ => decide
  | n + 6, h => exact absurd h (by omega)
theorem own_nz11 {i1 : Nat} (h : i1 ≤ 5) : ¬ (((Int32.ofNat i1) ||| (8 : Int32)) ||| (16 : Int32)) = (0 : Int32) := by
  match i1, h with
  | 0, _ => decide
  | 1, _ => decide
  | 2, _ => decide
  | 3, _ => decide
  | 4, _ => decide
  | 5, _ => decide
  | n + 6, h => exact absurd h (by omega)
theorem ef_law (m : MethodId) (x0 : Int32) (x1 : Int32) (x2 : Int64) (x3 : Int64) : entryFrame m #[(.int x0), (.int x1), (.long x2), (.long x3)] maxLocals = mkF m 0 #[oI x0, oI x1, oJ x2, o2, oJ x3, o2, oU, oU, oU, oU, oU, oU, oU, oU, oU, oU, oU, oU, oU, oU, oU, oU, oU] [] := by first | (simp [entryFrame, mkF, argsToLocals, Value.category, maxLocals]; done) | rfl
theorem pd___B_Lcom_example_isimud_isimud_oscore_OscoreOption_ : parseMethodDescriptor "([B)Lcom/example/isimud/isimud/oscore/OscoreOption;" = some ⟨[(.array .byte)], some (.object "com/example/isimud/isimud/oscore/OscoreOption")⟩ := by decide +kernel
theorem pd____B : parseMethodDescriptor "()[B" = some ⟨[], some (.array .byte)⟩ := by decide +kernel
theorem pd___BJJ_V : parseMethodDescriptor "([BJJ)V" = some ⟨[(.array .byte), .long, .long], none⟩ := by decide +kernel
theorem pd___B_BII_Z : parseMethodDescriptor "([B[BII)Z" = some ⟨[(.array .byte), (.array .byte), .int, .int], some .boolean⟩ := by decide +kernel
def own_Q (n0 : Nat) (v : Option Value) (h : Heap) (L : List Loc) : Prop := v = some (.int 1) ∧ Fr n0 L
set_option maxRecDepth 65536 in
set_option maxHeartbeats 40000000 in
theorem rm_law (l : Launch) (Z : State) (a0 : Array Value) (hw : ∀ d ∈ tables_1, d.before a0 Z = true) (ws : List Jvm.Cond) (p1 : Int32) (p2 : Int32) (p3 : Int64) (p4 : Int64)  (h0 : Heap) (n0 : Nat) (Z0 : n0 ≤ h0.size)  :
    MetFree l x (head1 (Jvm.Cond.code x code maxLocals ret :: ws) room_1) (fun a U => a = #[(.int p1), (.int p2), (.long p3), (.long p4)] ∧ Z.Warmed39 U.vm ∧ U.heap = h0) (fun _ _ _ _ _ => True) (fun _ U o U' => ∃ v L, o = .returned v ∧ own_Q n0 v U'.heap L ∧ FrameEnd U o U' L room_1.cells room_1.slots) := by
  refine MetFree.of_bodySF (plainFor_of_name pn_com_example_isimud_isimud_oscore_OscoreOptionReadPinLaw) hisR ?_
  intro p e s m args below meth c s₁ Bd hml0 hP hK
  obtain ⟨rfl, hZ, hh⟩ := hP
  have hx := Bd.exec
  have hby := Bd.bytes
  have hlk : meth.locks = false := BodyLoose.notSynchronized Bd
  have hml : c.maxLocals = 23 := hml0
  have hown : s.vm.findClass "com/example/isimud/isimud/oscore/OscoreOptionReadPinLaw" = some m.cls := findClass_of_methodNamed Bd.named
  have hnm := (name_of_methodNamed Bd.named Bd.method).1
  have X0 : Stand p l e room_1 s m #[(.int p1), (.int p2), (.long p3), (.long p4)] below meth c s₁ [] 0 0 := Stand.of_body Bd
  have e0 : s₁.heap = h0 := by rw [← hh, Bd.state]; rfl
  have N0 := Fr.nil n0
  refine own_cast (K := own_K s (own_Q n0) room_1.cells room_1.slots) (ef_law m p1 p2 p3 p4) ?_
  generalize hKK : own_K s (own_Q n0) room_1.cells room_1.slots = KK
  show own_Go p e below KK s₁ (mkF m 0 #[oI p1, oI p2, oJ p3, o2, oJ p4, o2, oU, oU, oU, oU, oU, oU, oU, oU, oU, oU, oU, oU, oU, oU, oU, oU, oU] [])
  refine own_at (fun t k => XS.iloadN X0.here hx rfl (hb hby at_0) rfl k) ?_
  show own_Go p e below KK s₁ (mkF m 1 #[oI p1, oI p2, oJ p3, o2, oJ p4, o2, oU, oU, oU, oU, oU, oU, oU, oU, oU, oU, oU, oU, oU, oU, oU, oU, oU] [(.int p1)])
  refine own_at (fun t k => X0.ldcInt hx hown (mvT hZ (hw _ (List.mem_of_getElem? (i := 0) rfl))) (g := (mkF m 1 #[oI p1, oI p2, oJ p3, o2, oJ p4, o2, oU, oU, oU, oU, oU, oU, oU, oU, oU, oU, oU, oU, oU, oU, oU, oU, oU] [(.int p1)])) rfl (hb hby at_1) t k) ?_
  show own_Go p e below KK s₁ (mkF m 3 #[oI p1, oI p2, oJ p3, o2, oJ p4, o2, oU, oU, oU, oU, oU, oU, oU, oU, oU, oU, oU, oU, oU, oU, oU, oU, oU] [(.int 2147483647), (.int p1)])
  refine own_at (fun t k => XS.iand X0.here hx rfl (hb hby at_3) rfl k) ?_
  show own_Go p e below KK s₁ (mkF m 4 #[oI p1, oI p2, oJ p3, o2, oJ p4, o2, oU, oU, oU, oU, oU, oU, oU, oU, oU, oU, oU, oU, oU, oU, oU, oU, oU] [(.int (p1 &&& (2147483647 : Int32)))])
  refine own_at (fun t k => XS.bipush X0.here hx rfl (hb hby at_4) k) ?_
  show own_Go p e below KK s₁ (mkF m 6 #[oI p1, oI p2, oJ p3, o2, oJ p4, o2, oU, oU, oU, oU, oU, oU, oU, oU, oU, oU, oU, oU, oU, oU, oU, oU, oU] [(.int 6), (.int (p1 &&& (2147483647 : Int32)))])
  refine own_at (fun t k => XS.irem X0.here hx rfl (hb hby at_6) rfl (by decide) k) ?_
  show own_Go p e below KK s₁ (mkF m 7 #[oI p1, oI p2, oJ p3, o2, oJ p4, o2, oU, oU, oU, oU, oU, oU, oU, oU, oU, oU, oU, oU, oU, oU, oU, oU, oU] [(.int ((p1 &&& (2147483647 : Int32)) - ((p1 &&& (2147483647 : Int32)) / (6 : Int32)) * (6 : Int32)))])
  obtain ⟨na, hna⟩ : ∃ z, z = ((p1 &&& (2147483647 : Int32)) - ((p1 &&& (2147483647 : Int32)) / (6 : Int32)) * (6 : Int32)) := ⟨_, rfl⟩
  rw [← hna]
  show own_Go p e below KK s₁ (mkF m 7 #[oI p1, oI p2, oJ p3, o2, oJ p4, o2, oU, oU, oU, oU, oU, oU, oU, oU, oU, oU, oU, oU, oU, oU, oU, oU, oU] [(.int na)])
  obtain ⟨i1, hi1, ei1⟩ := own_n6 hna
  subst ei1
  show own_Go p e below KK s₁ (mkF m 7 #[oI p1, oI p2, oJ p3, o2, oJ p4, o2, oU, oU, oU, oU, oU, oU, oU, oU, oU, oU, oU, oU, oU, oU, oU, oU, oU] [(.int (Int32.ofNat i1))])
  refine own_at (fun t k => XS.istore X0.here hx rfl (hb hby at_7) rfl (l' := #[oI p1, oI p2, oJ p3, o2, oJ p4, o2, oN i1, oU, oU, oU, oU, oU, oU, oU, oU, oU, oU, oU, oU, oU, oU, oU, oU]) rfl k) ?_
  show own_Go p e below KK s₁ (mkF m 9 #[oI p1, oI p2, oJ p3, o2, oJ p4, o2, oN i1, oU, oU, oU, oU, oU, oU, oU, oU, oU, oU, oU, oU, oU, oU, oU, oU] [])
  refine own_at (fun t k => XS.iloadN X0.here hx rfl (hb hby at_9) rfl k) ?_
  show own_Go p e below KK s₁ (mkF m 10 #[oI p1, oI p2, oJ p3, o2, oJ p4, o2, oN i1, oU, oU, oU, oU, oU, oU, oU, oU, oU, oU, oU, oU, oU, oU, oU, oU] [(.int p2)])
  refine own_at (fun t k => XS.iconst X0.here hx rfl (hb hby at_10) k) ?_
  show own_Go p e below KK s₁ (mkF m 11 #[oI p1, oI p2, oJ p3, o2, oJ p4, o2, oN i1, oU, oU, oU, oU, oU, oU, oU, oU, oU, oU, oU, oU, oU, oU, oU, oU] [(.int 1), (.int p2)])
  refine own_at (fun t k => XS.iand X0.here hx rfl (hb hby at_11) rfl k) ?_
  show own_Go p e below KK s₁ (mkF m 12 #[oI p1, oI p2, oJ p3, o2, oJ p4, o2, oN i1, oU, oU, oU, oU, oU, oU, oU, oU, oU, oU, oU, oU, oU, oU, oU, oU] [(.int (p2 &&& (1 : Int32)))])
  by_cases hc12 : (p2 &&& (1 : Int32)) = (0 : Int32)
  · refine own_at (fun t k => XS.ifYes X0.here hx rfl (pc0 := 12) (pc' := 19) rfl (hb hby at_12) rfl (Jvm.Free.XT.i0_eq_t hc12) (by decide) (by decide) k) ?_
    show own_Go p e below KK s₁ (mkF m 19 #[oI p1, oI p2, oJ p3, o2, oJ p4, o2, oN i1, oU, oU, oU, oU, oU, oU, oU, oU, oU, oU, oU, oU, oU, oU, oU, oU] [])
    refine own_at (fun t k => XS.iconst X0.here hx rfl (hb hby at_19) k) ?_
    show own_Go p e below KK s₁ (mkF m 20 #[oI p1, oI p2, oJ p3, o2, oJ p4, o2, oN i1, oU, oU, oU, oU, oU, oU, oU, oU, oU, oU, oU, oU, oU, oU, oU, oU] [(.int 0)])
    refine own_at (fun t k => XS.istore X0.here hx rfl (hb hby at_20) rfl (l' := #[oI p1, oI p2, oJ p3, o2, oJ p4, o2, oN i1, oI 0, oU, oU, oU, oU, oU, oU, oU, oU, oU, oU, oU, oU, oU, oU, oU]) rfl k) ?_
    show own_Go p e below KK s₁ (mkF m 22 #[oI p1, oI p2, oJ p3, o2, oJ p4, o2, oN i1, oI 0, oU, oU, oU, oU, oU, oU, oU, oU, oU, oU, oU, oU, oU, oU, oU] [])
    refine own_at (fun t k => XS.iloadN X0.here hx rfl (hb hby at_22) rfl k) ?_
    show own_Go p e below KK s₁ (mkF m 23 #[oI p1, oI p2, oJ p3, o2, oJ p4, o2, oN i1, oI 0, oU, oU, oU, oU, oU, oU, oU, oU, oU, oU, oU, oU, oU, oU, oU] [(.int p2)])
    refine own_at (fun t k => XS.iconst X0.here hx rfl (hb hby at_23) k) ?_
    show own_Go p e below KK s₁ (mkF m 24 #[oI p1, oI p2, oJ p3, o2, oJ p4, o2, oN i1, oI 0, oU, oU, oU, oU, oU, oU, oU, oU, oU, oU, oU, oU, oU, oU, oU] [(.int 2), (.int p2)])
    refine own_at (fun t k => XS.iand X0.here hx rfl (hb hby at_24) rfl k) ?_
    show own_Go p e below KK s₁ (mkF m 25 #[oI p1, oI p2, oJ p3, o2, oJ p4, o2, oN i1, oI 0, oU, oU, oU, oU, oU, oU, oU, oU, oU, oU, oU, oU, oU, oU, oU] [(.int (p2 &&& (2 : Int32)))])
    by_cases hc25 : (p2 &&& (2 : Int32)) = (0 : Int32)
    · refine own_at (fun t k => XS.ifYes X0.here hx rfl (pc0 := 25) (pc' := 32) rfl (hb hby at_25) rfl (Jvm.Free.XT.i0_eq_t hc25) (by decide) (by decide) k) ?_
      show own_Go p e below KK s₁ (mkF m 32 #[oI p1, oI p2, oJ p3, o2, oJ p4, o2, oN i1, oI 0, oU, oU, oU, oU, oU, oU, oU, oU, oU, oU, oU, oU, oU, oU, oU] [])
      refine own_at (fun t k => XS.iconst X0.here hx rfl (hb hby at_32) k) ?_
      show own_Go p e below KK s₁ (mkF m 33 #[oI p1, oI p2, oJ p3, o2, oJ p4, o2, oN i1, oI 0, oU, oU, oU, oU, oU, oU, oU, oU, oU, oU, oU, oU, oU, oU, oU] [(.int 0)])
      refine own_at (fun t k => XS.istore X0.here hx rfl (hb hby at_33) rfl (l' := #[oI p1, oI p2, oJ p3, o2, oJ p4, o2, oN i1, oI 0, oI 0, oU, oU, oU, oU, oU, oU, oU, oU, oU, oU, oU, oU, oU, oU]) rfl k) ?_
      show own_Go p e below KK s₁ (mkF m 35 #[oI p1, oI p2, oJ p3, o2, oJ p4, o2, oN i1, oI 0, oI 0, oU, oU, oU, oU, oU, oU, oU, oU, oU, oU, oU, oU, oU, oU] [])
      refine own_at (fun t k => XS.iloadN X0.here hx rfl (hb hby at_35) rfl k) ?_
      show own_Go p e below KK s₁ (mkF m 36 #[oI p1, oI p2, oJ p3, o2, oJ p4, o2, oN i1, oI 0, oI 0, oU, oU, oU, oU, oU, oU, oU, oU, oU, oU, oU, oU, oU, oU] [(.int p2)])
      refine own_at (fun t k => XS.iconst X0.here hx rfl (hb hby at_36) k) ?_
      show own_Go p e below KK s₁ (mkF m 37 #[oI p1, oI p2, oJ p3, o2, oJ p4, o2, oN i1, oI 0, oI 0, oU, oU, oU, oU, oU, oU, oU, oU, oU, oU, oU, oU, oU, oU] [(.int 2), (.int p2)])
      refine own_at (fun t k => XS.iushr X0.here hx rfl (hb hby at_37) rfl k) ?_
      show own_Go p e below KK s₁ (mkF m 38 #[oI p1, oI p2, oJ p3, o2, oJ p4, o2, oN i1, oI 0, oI 0, oU, oU, oU, oU, oU, oU, oU, oU, oU, oU, oU, oU, oU, oU] [(.int ((p2.toUInt32 >>> ((2 : Int32) &&& 31).toUInt32).toInt32))])
      refine own_at (fun t k => XS.iconst X0.here hx rfl (hb hby at_38) k) ?_
      show own_Go p e below KK s₁ (mkF m 39 #[oI p1, oI p2, oJ p3, o2, oJ p4, o2, oN i1, oI 0, oI 0, oU, oU, oU, oU, oU, oU, oU, oU, oU, oU, oU, oU, oU, oU] [(.int 3), (.int ((p2.toUInt32 >>> ((2 : Int32) &&& 31).toUInt32).toInt32))])
      refine own_at (fun t k => XS.iand X0.here hx rfl (hb hby at_39) rfl k) ?_
      show own_Go p e below KK s₁ (mkF m 40 #[oI p1, oI p2, oJ p3, o2, oJ p4, o2, oN i1, oI 0, oI 0, oU, oU, oU, oU, oU, oU, oU, oU, oU, oU, oU, oU, oU, oU] [(.int (((p2.toUInt32 >>> ((2 : Int32) &&& 31).toUInt32).toInt32) &&& (3 : Int32)))])
      obtain ⟨nb, hnb⟩ : ∃ z, z = (((p2.toUInt32 >>> ((2 : Int32) &&& 31).toUInt32).toInt32) &&& (3 : Int32)) := ⟨_, rfl⟩
      rw [← hnb]
      show own_Go p e below KK s₁ (mkF m 40 #[oI p1, oI p2, oJ p3, o2, oJ p4, o2, oN i1, oI 0, oI 0, oU, oU, oU, oU, oU, oU, oU, oU, oU, oU, oU, oU, oU, oU] [(.int nb)])
      obtain ⟨i2, hi2, ei2⟩ := own_n3 hnb
      subst ei2
      show own_Go p e below KK s₁ (mkF m 40 #[oI p1, oI p2, oJ p3, o2, oJ p4, o2, oN i1, oI 0, oI 0, oU, oU, oU, oU, oU, oU, oU, oU, oU, oU, oU, oU, oU, oU] [(.int (Int32.ofNat i2))])
      refine own_at (fun t k => XS.istore X0.here hx rfl (hb hby at_40) rfl (l' := #[oI p1, oI p2, oJ p3, o2, oJ p4, o2, oN i1, oI 0, oI 0, oN i2, oU, oU, oU, oU, oU, oU, oU, oU, oU, oU, oU, oU, oU]) rfl k) ?_
      show own_Go p e below KK s₁ (mkF m 42 #[oI p1, oI p2, oJ p3, o2, oJ p4, o2, oN i1, oI 0, oI 0, oN i2, oU, oU, oU, oU, oU, oU, oU, oU, oU, oU, oU, oU, oU] [])
      refine own_at (fun t k => XS.iloadN X0.here hx rfl (hb hby at_42) rfl k) ?_
      show own_Go p e below KK s₁ (mkF m 43 #[oI p1, oI p2, oJ p3, o2, oJ p4, o2, oN i1, oI 0, oI 0, oN i2, oU, oU, oU, oU, oU, oU, oU, oU, oU, oU, oU, oU, oU] [(.int p2)])
      refine own_at (fun t k => XS.iconst X0.here hx rfl (hb hby at_43) k) ?_
      show own_Go p e below KK s₁ (mkF m 44 #[oI p1, oI p2, oJ p3, o2, oJ p4, o2, oN i1, oI 0, oI 0, oN i2, oU, oU, oU, oU, oU, oU, oU, oU, oU, oU, oU, oU, oU] [(.int 4), (.int p2)])
      refine own_at (fun t k => XS.iushr X0.here hx rfl (hb hby at_44) rfl k) ?_
      show own_Go p e below KK s₁ (mkF m 45 #[oI p1, oI p2, oJ p3, o2, oJ p4, o2, oN i1, oI 0, oI 0, oN i2, oU, oU, oU, oU, oU, oU, oU, oU, oU, oU, oU, oU, oU] [(.int ((p2.toUInt32 >>> ((4 : Int32) &&& 31).toUInt32).toInt32))])
      refine own_at (fun t k => XS.iconst X0.here hx rfl (hb hby at_45) k) ?_
      show own_Go p e below KK s₁ (mkF m 46 #[oI p1, oI p2, oJ p3, o2, oJ p4, o2, oN i1, oI 0, oI 0, oN i2, oU, oU, oU, oU, oU, oU, oU, oU, oU, oU, oU, oU, oU] [(.int 3), (.int ((p2.toUInt32 >>> ((4 : Int32) &&& 31).toUInt32).toInt32))])
      refine own_at (fun t k => XS.iand X0.here hx rfl (hb hby at_46) rfl k) ?_
      show own_Go p e below KK s₁ (mkF m 47 #[oI p1, oI p2, oJ p3, o2, oJ p4, o2, oN i1, oI 0, oI 0, oN i2, oU, oU, oU, oU, oU, oU, oU, oU, oU, oU, oU, oU, oU] [(.int (((p2.toUInt32 >>> ((4 : Int32) &&& 31).toUInt32).toInt32) &&& (3 : Int32)))])
      obtain ⟨nc, hnc⟩ : ∃ z, z = (((p2.toUInt32 >>> ((4 : Int32) &&& 31).toUInt32).toInt32) &&& (3 : Int32)) := ⟨_, rfl⟩
      rw [← hnc]
      show own_Go p e below KK s₁ (mkF m 47 #[oI p1, oI p2, oJ p3, o2, oJ p4, o2, oN i1, oI 0, oI 0, oN i2, oU, oU, oU, oU, oU, oU, oU, oU, oU, oU, oU, oU, oU] [(.int nc)])
      obtain ⟨i3, hi3, ei3⟩ := own_n3 hnc
      subst ei3
      show own_Go p e below KK s₁ (mkF m 47 #[oI p1, oI p2, oJ p3, o2, oJ p4, o2, oN i1, oI 0, oI 0, oN i2, oU, oU, oU, oU, oU, oU, oU, oU, oU, oU, oU, oU, oU] [(.int (Int32.ofNat i3))])
      refine own_at (fun t k => XS.istore X0.here hx rfl (hb hby at_47) rfl (l' := #[oI p1, oI p2, oJ p3, o2, oJ p4, o2, oN i1, oI 0, oI 0, oN i2, oN i3, oU, oU, oU, oU, oU, oU, oU, oU, oU, oU, oU, oU]) rfl k) ?_
      show own_Go p e below KK s₁ (mkF m 49 #[oI p1, oI p2, oJ p3, o2, oJ p4, o2, oN i1, oI 0, oI 0, oN i2, oN i3, oU, oU, oU, oU, oU, oU, oU, oU, oU, oU, oU, oU] [])
      refine own_at (fun t k => XS.iload X0.here hx rfl (hb hby at_49) rfl k) ?_
      show own_Go p e below KK s₁ (mkF m 51 #[oI p1, oI p2, oJ p3, o2, oJ p4, o2, oN i1, oI 0, oI 0, oN i2, oN i3, oU, oU, oU, oU, oU, oU, oU, oU, oU, oU, oU, oU] [(.int (Int32.ofNat i1))])
      refine own_at (fun t k => XS.iload X0.here hx rfl (hb hby at_51) rfl k) ?_
      show own_Go p e below KK s₁ (mkF m 53 #[oI p1, oI p2, oJ p3, o2, oJ p4, o2, oN i1, oI 0, oI 0, oN i2, oN i3, oU, oU, oU, oU, oU, oU, oU, oU, oU, oU, oU, oU] [(.int 0), (.int (Int32.ofNat i1))])
      have hc53 : (0 : Int32) = (0 : Int32) := by decide
      refine own_at (fun t k => XS.ifYes X0.here hx rfl (pc0 := 53) (pc' := 61) rfl (hb hby at_53) rfl (Jvm.Free.XT.i0_eq_t hc53) (by decide) (by decide) k) ?_
      show own_Go p e below KK s₁ (mkF m 61 #[oI p1, oI p2, oJ p3, o2, oJ p4, o2, oN i1, oI 0, oI 0, oN i2, oN i3, oU, oU, oU, oU, oU, oU, oU, oU, oU, oU, oU, oU] [(.int (Int32.ofNat i1))])
      refine own_at (fun t k => XS.iconst X0.here hx rfl (hb hby at_61) k) ?_
      show own_Go p e below KK s₁ (mkF m 62 #[oI p1, oI p2, oJ p3, o2, oJ p4, o2, oN i1, oI 0, oI 0, oN i2, oN i3, oU, oU, oU, oU, oU, oU, oU, oU, oU, oU, oU, oU] [(.int 0), (.int (Int32.ofNat i1))])
      refine own_at (fun t k => XS.ior X0.here hx rfl (hb hby at_62) rfl k) ?_
      show own_Go p e below KK s₁ (mkF m 63 #[oI p1, oI p2, oJ p3, o2, oJ p4, o2, oN i1, oI 0, oI 0, oN i2, oN i3, oU, oU, oU, oU, oU, oU, oU, oU, oU, oU, oU, oU] [(.int ((Int32.ofNat i1) ||| (0 : Int32)))])
      refine own_at (fun t k => XS.iload X0.here hx rfl (hb hby at_63) rfl k) ?_
      show own_Go p e below KK s₁ (mkF m 65 #[oI p1, oI p2, oJ p3, o2, oJ p4, o2, oN i1, oI 0, oI 0, oN i2, oN i3, oU, oU, oU, oU, oU, oU, oU, oU, oU, oU, oU, oU] [(.int 0), (.int ((Int32.ofNat i1) ||| (0 : Int32)))])
      have hc65 : (0 : Int32) = (0 : Int32) := by decide
      refine own_at (fun t k => XS.ifYes X0.here hx rfl (pc0 := 65) (pc' := 73) rfl (hb hby at_65) rfl (Jvm.Free.XT.i0_eq_t hc65) (by decide) (by decide) k) ?_
      show own_Go p e below KK s₁ (mkF m 73 #[oI p1, oI p2, oJ p3, o2, oJ p4, o2, oN i1, oI 0, oI 0, oN i2, oN i3, oU, oU, oU, oU, oU, oU, oU, oU, oU, oU, oU, oU] [(.int ((Int32.ofNat i1) ||| (0 : Int32)))])
      refine own_at (fun t k => XS.iconst X0.here hx rfl (hb hby at_73) k) ?_
      show own_Go p e below KK s₁ (mkF m 74 #[oI p1, oI p2, oJ p3, o2, oJ p4, o2, oN i1, oI 0, oI 0, oN i2, oN i3, oU, oU, oU, oU, oU, oU, oU, oU, oU, oU, oU, oU] [(.int 0), (.int ((Int32.ofNat i1) ||| (0 : Int32)))])
      refine own_at (fun t k => XS.ior X0.here hx rfl (hb hby at_74) rfl k) ?_
      show own_Go p e below KK s₁ (mkF m 75 #[oI p1, oI p2, oJ p3, o2, oJ p4, o2, oN i1, oI 0, oI 0, oN i2, oN i3, oU, oU, oU, oU, oU, oU, oU, oU, oU, oU, oU, oU] [(.int (((Int32.ofNat i1) ||| (0 : Int32)) ||| (0 : Int32)))])
      refine own_at (fun t k => XS.istore X0.here hx rfl (hb hby at_75) rfl (l' := #[oI p1, oI p2, oJ p3, o2, oJ p4, o2, oN i1, oI 0, oI 0, oN i2, oN i3, oI (((Int32.ofNat i1) ||| (0 : Int32)) ||| (0 : Int32)), oU, oU, oU, oU, oU, oU, oU, oU, oU, oU, oU]) rfl k) ?_
      show own_Go p e below KK s₁ (mkF m 77 #[oI p1, oI p2, oJ p3, o2, oJ p4, o2, oN i1, oI 0, oI 0, oN i2, oN i3, oI (((Int32.ofNat i1) ||| (0 : Int32)) ||| (0 : Int32)), oU, oU, oU, oU, oU, oU, oU, oU, oU, oU, oU] [])
      refine own_at (fun t k => XS.iload X0.here hx rfl (hb hby at_77) rfl k) ?_
      show own_Go p e below KK s₁ (mkF m 79 #[oI p1, oI p2, oJ p3, o2, oJ p4, o2, oN i1, oI 0, oI 0, oN i2, oN i3, oI (((Int32.ofNat i1) ||| (0 : Int32)) ||| (0 : Int32)), oU, oU, oU, oU, oU, oU, oU, oU, oU, oU, oU] [(.int (((Int32.ofNat i1) ||| (0 : Int32)) ||| (0 : Int32)))])
      by_cases hc79 : (((Int32.ofNat i1) ||| (0 : Int32)) ||| (0 : Int32)) = (0 : Int32)
      · refine own_at (fun t k => XS.ifNo X0.here hx rfl (hb hby at_79) rfl (Jvm.Free.XT.i0_ne_f hc79) k) ?_
        show own_Go p e below KK s₁ (mkF m 82 #[oI p1, oI p2, oJ p3, o2, oJ p4, o2, oN i1, oI 0, oI 0, oN i2, oN i3, oI (((Int32.ofNat i1) ||| (0 : Int32)) ||| (0 : Int32)), oU, oU, oU, oU, oU, oU, oU, oU, oU, oU, oU] [])
        refine own_at (fun t k => XS.iconst X0.here hx rfl (hb hby at_82) k) ?_
        show own_Go p e below KK s₁ (mkF m 83 #[oI p1, oI p2, oJ p3, o2, oJ p4, o2, oN i1, oI 0, oI 0, oN i2, oN i3, oI (((Int32.ofNat i1) ||| (0 : Int32)) ||| (0 : Int32)), oU, oU, oU, oU, oU, oU, oU, oU, oU, oU, oU] [(.int 0)])
        obtain ⟨T1, h1, X1, e1, E1, V1, st1⟩ := own_newA X0 hx hZ (hw _ (List.mem_of_getElem? (i := 1) rfl)) e0 (g := (mkF m 83 #[oI p1, oI p2, oJ p3, o2, oJ p4, o2, oN i1, oI 0, oI 0, oN i2, oN i3, oI (((Int32.ofNat i1) ||| (0 : Int32)) ||| (0 : Int32)), oU, oU, oU, oU, oU, oU, oU, oU, oU, oU, oU] [(.int 0)])) rfl (hb hby at_83) rfl (by decide) (N := 0) (by decide) (cap := 0) (by decide) (by decide) (by decide) (by decide) (d := "[B") (by first | rfl | decide +kernel) (vs := []) rfl
        obtain ⟨b1, g1⟩ : ∃ z, z = h0.size := ⟨_, rfl⟩
        rw [← g1] at V1 st1
        have g_b1 : n0 ≤ b1 := by rw [g1]; exact Z0
        have Zs1 : n0 ≤ h1.size := Nat.le_trans Z0 E1.1
        have A2_b1 : own_A Z h1 b1 "[B" .byte [] := V1
        refine own_of (fun t k => st1 t k) ?_
        show own_Go p e below KK T1 (mkF m 85 #[oI p1, oI p2, oJ p3, o2, oJ p4, o2, oN i1, oI 0, oI 0, oN i2, oN i3, oI (((Int32.ofNat i1) ||| (0 : Int32)) ||| (0 : Int32)), oU, oU, oU, oU, oU, oU, oU, oU, oU, oU, oU] [(.ref b1)])
        obtain ⟨_, _, ⟨T3, L3, k3, n3⟩, -, X3, ⟨Lc3, hQ3, l3, y3, z3⟩, st3⟩ := Jvm.LawKit.callS X1 hx (y := (⟨"com/example/isimud/isimud/oscore/OscoreOption", "read", "([B)Lcom/example/isimud/isimud/oscore/OscoreOption;"⟩ : MethodName)) hown (mvT hZ (hw _ (List.mem_of_getElem? (i := 6) rfl))) (mvT hZ (hw _ (List.mem_of_getElem? (i := 7) rfl))) (mvT hZ (hw _ (List.mem_of_getElem? (i := 8) rfl))) (mvT hZ (hw _ (List.mem_of_getElem? (i := 9) rfl))) (by decide) (backOf (W := 0) (rm_read0 l Z a0 hw [] b1  h1 n0 Zs1 A2_b1) hZ (hw _ (List.mem_of_getElem? (i := 9) rfl)) (hw _ (List.mem_of_getElem? (i := 8) rfl)) (by decide) (by decide)) (g := (mkF m 85 #[oI p1, oI p2, oJ p3, o2, oJ p4, o2, oN i1, oI 0, oI 0, oN i2, oN i3, oI (((Int32.ofNat i1) ||| (0 : Int32)) ||| (0 : Int32)), oU, oU, oU, oU, oU, oU, oU, oU, oU, oU, oU] [(.ref b1)])) rfl (by rw [hml]; rfl) (argsL := [(.ref b1)]) (rest := []) (lenOf pd___B_Lcom_example_isimud_isimud_oscore_OscoreOption_ rfl) rfl (by show 2 * 0 + _ ≤ _; exact Nat.le_of_eq rfl) (hb hby at_85) (fun _ _ => ⟨rfl, e1, (by decide : 1 + 1 ≤ _), (by decide : 0 + 3 ≤ _)⟩)
        dsimp only [Pt.U, Pt.locs, Pt.cells, Pt.slots] at X3 l3 y3 z3 st3 hQ3
        subst l3 y3 z3
        obtain ⟨r3, x3a, x3b, x3c, rfl, N3q, K3, g_r3, s_r3, Ex3, Fx3, Fy3, Fz3, Oa3, Ob3, Oc3⟩ := hQ3
        have ne_b1_r3 : b1 ≠ r3 := Nat.ne_of_lt (Nat.lt_of_lt_of_le A2_b1.lt s_r3)
        have A2_b1_h3 : own_A Z T3.heap b1 "[B" .byte [] := A2_b1.keep K3 nin0
        have Zs3 : n0 ≤ T3.heap.size := Nat.le_trans Zs1 K3.1
        have E4_r3 : Exa Z T3.heap r3 "com/example/isimud/isimud/oscore/OscoreOption" := Ex3
        have F5_r3 : Fld Z T3.heap r3 "com/example/isimud/isimud/oscore/OscoreOption" "partialIv" "[B" x3a := Fx3
        have F6_r3 : Fld Z T3.heap r3 "com/example/isimud/isimud/oscore/OscoreOption" "kidContext" "[B" x3b := Fy3
        have F7_r3 : Fld Z T3.heap r3 "com/example/isimud/isimud/oscore/OscoreOption" "kid" "[B" x3c := Fz3
        have N3 := Fr.app N0 N3q
        refine own_of (fun t k => st3 t k) ?_
        show own_Go p e below KK T3 (mkF m 88 #[oI p1, oI p2, oJ p3, o2, oJ p4, o2, oN i1, oI 0, oI 0, oN i2, oN i3, oI (((Int32.ofNat i1) ||| (0 : Int32)) ||| (0 : Int32)), oU, oU, oU, oU, oU, oU, oU, oU, oU, oU, oU] [(.ref r3)])
        have Oa3' : x3a = Value.null := Oa3
        subst Oa3'
        have Ob3' : x3b = Value.null := Ob3
        subst Ob3'
        have Oc3' : x3c = Value.null := Oc3
        subst Oc3'
        refine own_at (fun t k => XS.astore X3.here hx rfl (hb hby at_88) rfl rfl (l' := #[oI p1, oI p2, oJ p3, o2, oJ p4, o2, oN i1, oI 0, oI 0, oN i2, oN i3, oI (((Int32.ofNat i1) ||| (0 : Int32)) ||| (0 : Int32)), oR r3, oU, oU, oU, oU, oU, oU, oU, oU, oU, oU]) rfl k) ?_
        show own_Go p e below KK T3 (mkF m 90 #[oI p1, oI p2, oJ p3, o2, oJ p4, o2, oN i1, oI 0, oI 0, oN i2, oN i3, oI (((Int32.ofNat i1) ||| (0 : Int32)) ||| (0 : Int32)), oR r3, oU, oU, oU, oU, oU, oU, oU, oU, oU, oU] [])
        refine own_at (fun t k => XS.aload X3.here hx rfl (hb hby at_90) rfl rfl k) ?_
        show own_Go p e below KK T3 (mkF m 92 #[oI p1, oI p2, oJ p3, o2, oJ p4, o2, oN i1, oI 0, oI 0, oN i2, oN i3, oI (((Int32.ofNat i1) ||| (0 : Int32)) ||| (0 : Int32)), oR r3, oU, oU, oU, oU, oU, oU, oU, oU, oU, oU] [(.ref r3)])
        obtain ⟨cq8, kq8, q8a, q8b, q8c⟩ := isOf hZ rfl E4_r3
        obtain ⟨_, _, ⟨T8, L8, k8, n8⟩, -, X8, ⟨Lc8, hQ8, l8, y8, z8⟩, st8⟩ := X3.virtualBack hx (y := (⟨"com/example/isimud/isimud/oscore/OscoreOption", "partialIv", "()[B"⟩ : MethodName)) (z := (⟨"com/example/isimud/isimud/oscore/OscoreOption", "partialIv", "()[B"⟩ : MethodName)) hown (mvT hZ (hw _ (List.mem_of_getElem? (i := 45) rfl))) (mvT hZ (hw _ (List.mem_of_getElem? (i := 46) rfl))) (notFace_of_selects (args := #[]) (mvT hZ (hw _ (List.mem_of_getElem? (i := 48) rfl)))) (mvT hZ (hw _ (List.mem_of_getElem? (i := 48) rfl))) (mvT hZ (hw _ (List.mem_of_getElem? (i := 47) rfl))) (by decide) (backOf (W := 0) (rm_partialIv0 l Z a0 hw [] r3   T3.heap n0 Zs3 F5_r3) hZ (hw _ (List.mem_of_getElem? (i := 49) rfl)) (hw _ (List.mem_of_getElem? (i := 8) rfl)) (by decide) (by decide)) q8a q8c (g := (mkF m 92 #[oI p1, oI p2, oJ p3, o2, oJ p4, o2, oN i1, oI 0, oI 0, oN i2, oN i3, oI (((Int32.ofNat i1) ||| (0 : Int32)) ||| (0 : Int32)), oR r3, oU, oU, oU, oU, oU, oU, oU, oU, oU, oU] [(.ref r3)])) rfl (by rw [hml]; rfl) (Steps.refl _) (argsL := []) (rest := []) (lenOf pd____B rfl) rfl (by show 2 * 0 + _ ≤ _; exact Nat.le_of_eq rfl) (hb hby at_92) (fun _ _ => ⟨rfl, rfl, (by decide : 2 + 0 ≤ _), (by decide : 3 + 0 ≤ _)⟩)
        dsimp only [Pt.U, Pt.locs, Pt.cells, Pt.slots] at X8 l8 y8 z8 st8 hQ8
        subst l8 y8 z8
        obtain ⟨rfl, N8q, e8⟩ := hQ8
        have N8 := Fr.app N3 N8q
        refine own_of (fun t k => st8.trans k) ?_
        show own_Go p e below KK T8 (mkF m 95 #[oI p1, oI p2, oJ p3, o2, oJ p4, o2, oN i1, oI 0, oI 0, oN i2, oN i3, oI (((Int32.ofNat i1) ||| (0 : Int32)) ||| (0 : Int32)), oR r3, oU, oU, oU, oU, oU, oU, oU, oU, oU, oU] [.null])
        refine own_at (fun t k => XS.ifnonnullNo X8.here hx rfl (hb hby at_95) rfl k) ?_
        show own_Go p e below KK T8 (mkF m 98 #[oI p1, oI p2, oJ p3, o2, oJ p4, o2, oN i1, oI 0, oI 0, oN i2, oN i3, oI (((Int32.ofNat i1) ||| (0 : Int32)) ||| (0 : Int32)), oR r3, oU, oU, oU, oU, oU, oU, oU, oU, oU, oU] [])
        refine own_at (fun t k => XS.aload X8.here hx rfl (hb hby at_98) rfl rfl k) ?_
        show own_Go p e below KK T8 (mkF m 100 #[oI p1, oI p2, oJ p3, o2, oJ p4, o2, oN i1, oI 0, oI 0, oN i2, oN i3, oI (((Int32.ofNat i1) ||| (0 : Int32)) ||| (0 : Int32)), oR r3, oU, oU, oU, oU, oU, oU, oU, oU, oU, oU] [(.ref r3)])
        obtain ⟨cq9, kq9, q9a, q9b, q9c⟩ := isOf hZ e8 E4_r3
        obtain ⟨_, _, ⟨T9, L9, k9, n9⟩, -, X9, ⟨Lc9, hQ9, l9, y9, z9⟩, st9⟩ := X8.virtualBack hx (y := (⟨"com/example/isimud/isimud/oscore/OscoreOption", "kidContext", "()[B"⟩ : MethodName)) (z := (⟨"com/example/isimud/isimud/oscore/OscoreOption", "kidContext", "()[B"⟩ : MethodName)) hown (mvT hZ (hw _ (List.mem_of_getElem? (i := 50) rfl))) (mvT hZ (hw _ (List.mem_of_getElem? (i := 51) rfl))) (notFace_of_selects (args := #[]) (mvT hZ (hw _ (List.mem_of_getElem? (i := 53) rfl)))) (mvT hZ (hw _ (List.mem_of_getElem? (i := 53) rfl))) (mvT hZ (hw _ (List.mem_of_getElem? (i := 52) rfl))) (by decide) (backOf (W := 0) (rm_kidContext0 l Z a0 hw [] r3   T3.heap n0 Zs3 F6_r3) hZ (hw _ (List.mem_of_getElem? (i := 54) rfl)) (hw _ (List.mem_of_getElem? (i := 8) rfl)) (by decide) (by decide)) q9a q9c (g := (mkF m 100 #[oI p1, oI p2, oJ p3, o2, oJ p4, o2, oN i1, oI 0, oI 0, oN i2, oN i3, oI (((Int32.ofNat i1) ||| (0 : Int32)) ||| (0 : Int32)), oR r3, oU, oU, oU, oU, oU, oU, oU, oU, oU, oU] [(.ref r3)])) rfl (by rw [hml]; rfl) (Steps.refl _) (argsL := []) (rest := []) (lenOf pd____B rfl) rfl (by show 2 * 0 + _ ≤ _; exact Nat.le_of_eq rfl) (hb hby at_100) (fun _ _ => ⟨rfl, e8, (by decide : 2 + 0 ≤ _), (by decide : 3 + 0 ≤ _)⟩)
        dsimp only [Pt.U, Pt.locs, Pt.cells, Pt.slots] at X9 l9 y9 z9 st9 hQ9
        subst l9 y9 z9
        obtain ⟨rfl, N9q, e9⟩ := hQ9
        have N9 := Fr.app N8 N9q
        refine own_of (fun t k => st9.trans k) ?_
        show own_Go p e below KK T9 (mkF m 103 #[oI p1, oI p2, oJ p3, o2, oJ p4, o2, oN i1, oI 0, oI 0, oN i2, oN i3, oI (((Int32.ofNat i1) ||| (0 : Int32)) ||| (0 : Int32)), oR r3, oU, oU, oU, oU, oU, oU, oU, oU, oU, oU] [.null])
        refine own_at (fun t k => XS.ifnonnullNo X9.here hx rfl (hb hby at_103) rfl k) ?_
        show own_Go p e below KK T9 (mkF m 106 #[oI p1, oI p2, oJ p3, o2, oJ p4, o2, oN i1, oI 0, oI 0, oN i2, oN i3, oI (((Int32.ofNat i1) ||| (0 : Int32)) ||| (0 : Int32)), oR r3, oU, oU, oU, oU, oU, oU, oU, oU, oU, oU] [])
        refine own_at (fun t k => XS.aload X9.here hx rfl (hb hby at_106) rfl rfl k) ?_
        show own_Go p e below KK T9 (mkF m 108 #[oI p1, oI p2, oJ p3, o2, oJ p4, o2, oN i1, oI 0, oI 0, oN i2, oN i3, oI (((Int32.ofNat i1) ||| (0 : Int32)) ||| (0 : Int32)), oR r3, oU, oU, oU, oU, oU, oU, oU, oU, oU, oU] [(.ref r3)])
        obtain ⟨cq10, kq10, q10a, q10b, q10c⟩ := isOf hZ e9 E4_r3
        obtain ⟨_, _, ⟨T10, L10, k10, n10⟩, -, X10, ⟨Lc10, hQ10, l10, y10, z10⟩, st10⟩ := X9.virtualBack hx (y := (⟨"com/example/isimud/isimud/oscore/OscoreOption", "kid", "()[B"⟩ : MethodName)) (z := (⟨"com/example/isimud/isimud/oscore/OscoreOption", "kid", "()[B"⟩ : MethodName)) hown (mvT hZ (hw _ (List.mem_of_getElem? (i := 64) rfl))) (mvT hZ (hw _ (List.mem_of_getElem? (i := 65) rfl))) (notFace_of_selects (args := #[]) (mvT hZ (hw _ (List.mem_of_getElem? (i := 67) rfl)))) (mvT hZ (hw _ (List.mem_of_getElem? (i := 67) rfl))) (mvT hZ (hw _ (List.mem_of_getElem? (i := 66) rfl))) (by decide) (backOf (W := 0) (rm_kid0 l Z a0 hw [] r3   T3.heap n0 Zs3 F7_r3) hZ (hw _ (List.mem_of_getElem? (i := 68) rfl)) (hw _ (List.mem_of_getElem? (i := 8) rfl)) (by decide) (by decide)) q10a q10c (g := (mkF m 108 #[oI p1, oI p2, oJ p3, o2, oJ p4, o2, oN i1, oI 0, oI 0, oN i2, oN i3, oI (((Int32.ofNat i1) ||| (0 : Int32)) ||| (0 : Int32)), oR r3, oU, oU, oU, oU, oU, oU, oU, oU, oU, oU] [(.ref r3)])) rfl (by rw [hml]; rfl) (Steps.refl _) (argsL := []) (rest := []) (lenOf pd____B rfl) rfl (by show 2 * 0 + _ ≤ _; exact Nat.le_of_eq rfl) (hb hby at_108) (fun _ _ => ⟨rfl, e9, (by decide : 2 + 0 ≤ _), (by decide : 3 + 0 ≤ _)⟩)
        dsimp only [Pt.U, Pt.locs, Pt.cells, Pt.slots] at X10 l10 y10 z10 st10 hQ10
        subst l10 y10 z10
        obtain ⟨rfl, N10q, e10⟩ := hQ10
        have N10 := Fr.app N9 N10q
        refine own_of (fun t k => st10.trans k) ?_
        show own_Go p e below KK T10 (mkF m 111 #[oI p1, oI p2, oJ p3, o2, oJ p4, o2, oN i1, oI 0, oI 0, oN i2, oN i3, oI (((Int32.ofNat i1) ||| (0 : Int32)) ||| (0 : Int32)), oR r3, oU, oU, oU, oU, oU, oU, oU, oU, oU, oU] [.null])
        refine own_at (fun t k => XS.ifnonnullNo X10.here hx rfl (hb hby at_111) rfl k) ?_
        show own_Go p e below KK T10 (mkF m 114 #[oI p1, oI p2, oJ p3, o2, oJ p4, o2, oN i1, oI 0, oI 0, oN i2, oN i3, oI (((Int32.ofNat i1) ||| (0 : Int32)) ||| (0 : Int32)), oR r3, oU, oU, oU, oU, oU, oU, oU, oU, oU, oU] [])
        refine own_at (fun t k => XS.iconst X10.here hx rfl (hb hby at_114) k) ?_
        show own_Go p e below KK T10 (mkF m 115 #[oI p1, oI p2, oJ p3, o2, oJ p4, o2, oN i1, oI 0, oI 0, oN i2, oN i3, oI (((Int32.ofNat i1) ||| (0 : Int32)) ||| (0 : Int32)), oR r3, oU, oU, oU, oU, oU, oU, oU, oU, oU, oU] [(.int 1)])
        refine own_at (fun t k => XS.goto X10.here hx rfl (pc0 := 115) (pc' := 119) rfl (hb hby at_115) (by decide) (by decide) k) ?_
        show own_Go p e below KK T10 (mkF m 119 #[oI p1, oI p2, oJ p3, o2, oJ p4, o2, oN i1, oI 0, oI 0, oN i2, oN i3, oI (((Int32.ofNat i1) ||| (0 : Int32)) ||| (0 : Int32)), oR r3, oU, oU, oU, oU, oU, oU, oU, oU, oU, oU] [(.int 1)])
        subst hKK
        exact own_retN X10 hx hlk (t := .boolean) Bd.returns (by simp) (hb hby at_119) (w := (1 : Int32)) (show nar .boolean (1 : Int32) = 1 from by decide) ⟨rfl, N10⟩ (Nat.le_of_ble_eq_true rfl) (Nat.le_of_ble_eq_true rfl)
      · refine own_at (fun t k => XS.ifYes X0.here hx rfl (pc0 := 79) (pc' := 120) rfl (hb hby at_79) rfl (Jvm.Free.XT.i0_ne_t hc79) (by decide) (by decide) k) ?_
        show own_Go p e below KK s₁ (mkF m 120 #[oI p1, oI p2, oJ p3, o2, oJ p4, o2, oN i1, oI 0, oI 0, oN i2, oN i3, oI (((Int32.ofNat i1) ||| (0 : Int32)) ||| (0 : Int32)), oU, oU, oU, oU, oU, oU, oU, oU, oU, oU, oU] [])
        have hn0 := own_z' hc79
        refine own_at (fun t k => XS.iconst X0.here hx rfl (hb hby at_120) k) ?_
        show own_Go p e below KK s₁ (mkF m 121 #[oI p1, oI p2, oJ p3, o2, oJ p4, o2, oN i1, oI 0, oI 0, oN i2, oN i3, oI (((Int32.ofNat i1) ||| (0 : Int32)) ||| (0 : Int32)), oU, oU, oU, oU, oU, oU, oU, oU, oU, oU, oU] [(.int 1)])
        refine own_at (fun t k => XS.iload X0.here hx rfl (hb hby at_121) rfl k) ?_
        show own_Go p e below KK s₁ (mkF m 123 #[oI p1, oI p2, oJ p3, o2, oJ p4, o2, oN i1, oI 0, oI 0, oN i2, oN i3, oI (((Int32.ofNat i1) ||| (0 : Int32)) ||| (0 : Int32)), oU, oU, oU, oU, oU, oU, oU, oU, oU, oU, oU] [(.int (Int32.ofNat i1)), (.int 1)])
        refine own_at (fun t k => XS.iadd X0.here hx rfl (hb hby at_123) rfl k) ?_
        show own_Go p e below KK s₁ (mkF m 124 #[oI p1, oI p2, oJ p3, o2, oJ p4, o2, oN i1, oI 0, oI 0, oN i2, oN i3, oI (((Int32.ofNat i1) ||| (0 : Int32)) ||| (0 : Int32)), oU, oU, oU, oU, oU, oU, oU, oU, oU, oU, oU] [(.int ((1 : Int32) + (Int32.ofNat i1)))])
        rw [show ((1 : Int32) + (Int32.ofNat i1)) = (Int32.ofNat (1 + i1)) from own_add 1 i1]
        show own_Go p e below KK s₁ (mkF m 124 #[oI p1, oI p2, oJ p3, o2, oJ p4, o2, oN i1, oI 0, oI 0, oN i2, oN i3, oI (((Int32.ofNat i1) ||| (0 : Int32)) ||| (0 : Int32)), oU, oU, oU, oU, oU, oU, oU, oU, oU, oU, oU] [(.int (Int32.ofNat (1 + i1)))])
        refine own_at (fun t k => XS.istore X0.here hx rfl (hb hby at_124) rfl (l' := #[oI p1, oI p2, oJ p3, o2, oJ p4, o2, oN i1, oI 0, oI 0, oN i2, oN i3, oI (((Int32.ofNat i1) ||| (0 : Int32)) ||| (0 : Int32)), oN (1 + i1), oU, oU, oU, oU, oU, oU, oU, oU, oU, oU]) rfl k) ?_
        show own_Go p e below KK s₁ (mkF m 126 #[oI p1, oI p2, oJ p3, o2, oJ p4, o2, oN i1, oI 0, oI 0, oN i2, oN i3, oI (((Int32.ofNat i1) ||| (0 : Int32)) ||| (0 : Int32)), oN (1 + i1), oU, oU, oU, oU, oU, oU, oU, oU, oU, oU] [])
        refine own_at (fun t k => XS.iload X0.here hx rfl (hb hby at_126) rfl k) ?_
        show own_Go p e below KK s₁ (mkF m 128 #[oI p1, oI p2, oJ p3, o2, oJ p4, o2, oN i1, oI 0, oI 0, oN i2, oN i3, oI (((Int32.ofNat i1) ||| (0 : Int32)) ||| (0 : Int32)), oN (1 + i1), oU, oU, oU, oU, oU, oU, oU, oU, oU, oU] [(.int (Int32.ofNat (1 + i1)))])
        refine own_at (fun t k => XS.iload X0.here hx rfl (hb hby at_128) rfl k) ?_
        show own_Go p e below KK s₁ (mkF m 130 #[oI p1, oI p2, oJ p3, o2, oJ p4, o2, oN i1, oI 0, oI 0, oN i2, oN i3, oI (((Int32.ofNat i1) ||| (0 : Int32)) ||| (0 : Int32)), oN (1 + i1), oU, oU, oU, oU, oU, oU, oU, oU, oU, oU] [(.int 0), (.int (Int32.ofNat (1 + i1)))])
        have hc130 : (0 : Int32) = (0 : Int32) := by decide
        refine own_at (fun t k => XS.ifYes X0.here hx rfl (pc0 := 130) (pc' := 140) rfl (hb hby at_130) rfl (Jvm.Free.XT.i0_eq_t hc130) (by decide) (by decide) k) ?_
        show own_Go p e below KK s₁ (mkF m 140 #[oI p1, oI p2, oJ p3, o2, oJ p4, o2, oN i1, oI 0, oI 0, oN i2, oN i3, oI (((Int32.ofNat i1) ||| (0 : Int32)) ||| (0 : Int32)), oN (1 + i1), oU, oU, oU, oU, oU, oU, oU, oU, oU, oU] [(.int (Int32.ofNat (1 + i1)))])
        refine own_at (fun t k => XS.iconst X0.here hx rfl (hb hby at_140) k) ?_
        show own_Go p e below KK s₁ (mkF m 141 #[oI p1, oI p2, oJ p3, o2, oJ p4, o2, oN i1, oI 0, oI 0, oN i2, oN i3, oI (((Int32.ofNat i1) ||| (0 : Int32)) ||| (0 : Int32)), oN (1 + i1), oU, oU, oU, oU, oU, oU, oU, oU, oU, oU] [(.int 0), (.int (Int32.ofNat (1 + i1)))])
        refine own_at (fun t k => XS.iadd X0.here hx rfl (hb hby at_141) rfl k) ?_
        show own_Go p e below KK s₁ (mkF m 142 #[oI p1, oI p2, oJ p3, o2, oJ p4, o2, oN i1, oI 0, oI 0, oN i2, oN i3, oI (((Int32.ofNat i1) ||| (0 : Int32)) ||| (0 : Int32)), oN (1 + i1), oU, oU, oU, oU, oU, oU, oU, oU, oU, oU] [(.int ((Int32.ofNat (1 + i1)) + (0 : Int32)))])
        rw [show ((Int32.ofNat (1 + i1)) + (0 : Int32)) = (Int32.ofNat (1 + i1)) from Int32.add_zero _]
        show own_Go p e below KK s₁ (mkF m 142 #[oI p1, oI p2, oJ p3, o2, oJ p4, o2, oN i1, oI 0, oI 0, oN i2, oN i3, oI (((Int32.ofNat i1) ||| (0 : Int32)) ||| (0 : Int32)), oN (1 + i1), oU, oU, oU, oU, oU, oU, oU, oU, oU, oU] [(.int (Int32.ofNat (1 + i1)))])
        refine own_at (fun t k => XS.istore X0.here hx rfl (hb hby at_142) rfl (l' := #[oI p1, oI p2, oJ p3, o2, oJ p4, o2, oN i1, oI 0, oI 0, oN i2, oN i3, oI (((Int32.ofNat i1) ||| (0 : Int32)) ||| (0 : Int32)), oN (1 + i1), oN (1 + i1), oU, oU, oU, oU, oU, oU, oU, oU, oU]) rfl k) ?_
        show own_Go p e below KK s₁ (mkF m 144 #[oI p1, oI p2, oJ p3, o2, oJ p4, o2, oN i1, oI 0, oI 0, oN i2, oN i3, oI (((Int32.ofNat i1) ||| (0 : Int32)) ||| (0 : Int32)), oN (1 + i1), oN (1 + i1), oU, oU, oU, oU, oU, oU, oU, oU, oU] [])
        refine own_at (fun t k => XS.iload X0.here hx rfl (hb hby at_144) rfl k) ?_
        show own_Go p e below KK s₁ (mkF m 146 #[oI p1, oI p2, oJ p3, o2, oJ p4, o2, oN i1, oI 0, oI 0, oN i2, oN i3, oI (((Int32.ofNat i1) ||| (0 : Int32)) ||| (0 : Int32)), oN (1 + i1), oN (1 + i1), oU, oU, oU, oU, oU, oU, oU, oU, oU] [(.int (Int32.ofNat (1 + i1)))])
        refine own_at (fun t k => XS.iload X0.here hx rfl (hb hby at_146) rfl k) ?_
        show own_Go p e below KK s₁ (mkF m 148 #[oI p1, oI p2, oJ p3, o2, oJ p4, o2, oN i1, oI 0, oI 0, oN i2, oN i3, oI (((Int32.ofNat i1) ||| (0 : Int32)) ||| (0 : Int32)), oN (1 + i1), oN (1 + i1), oU, oU, oU, oU, oU, oU, oU, oU, oU] [(.int 0), (.int (Int32.ofNat (1 + i1)))])
        have hc148 : (0 : Int32) = (0 : Int32) := by decide
        refine own_at (fun t k => XS.ifYes X0.here hx rfl (pc0 := 148) (pc' := 156) rfl (hb hby at_148) rfl (Jvm.Free.XT.i0_eq_t hc148) (by decide) (by decide) k) ?_
        show own_Go p e below KK s₁ (mkF m 156 #[oI p1, oI p2, oJ p3, o2, oJ p4, o2, oN i1, oI 0, oI 0, oN i2, oN i3, oI (((Int32.ofNat i1) ||| (0 : Int32)) ||| (0 : Int32)), oN (1 + i1), oN (1 + i1), oU, oU, oU, oU, oU, oU, oU, oU, oU] [(.int (Int32.ofNat (1 + i1)))])
        refine own_at (fun t k => XS.iconst X0.here hx rfl (hb hby at_156) k) ?_
        show own_Go p e below KK s₁ (mkF m 157 #[oI p1, oI p2, oJ p3, o2, oJ p4, o2, oN i1, oI 0, oI 0, oN i2, oN i3, oI (((Int32.ofNat i1) ||| (0 : Int32)) ||| (0 : Int32)), oN (1 + i1), oN (1 + i1), oU, oU, oU, oU, oU, oU, oU, oU, oU] [(.int 0), (.int (Int32.ofNat (1 + i1)))])
        refine own_at (fun t k => XS.iadd X0.here hx rfl (hb hby at_157) rfl k) ?_
        show own_Go p e below KK s₁ (mkF m 158 #[oI p1, oI p2, oJ p3, o2, oJ p4, o2, oN i1, oI 0, oI 0, oN i2, oN i3, oI (((Int32.ofNat i1) ||| (0 : Int32)) ||| (0 : Int32)), oN (1 + i1), oN (1 + i1), oU, oU, oU, oU, oU, oU, oU, oU, oU] [(.int ((Int32.ofNat (1 + i1)) + (0 : Int32)))])
        rw [show ((Int32.ofNat (1 + i1)) + (0 : Int32)) = (Int32.ofNat (1 + i1)) from Int32.add_zero _]
        show own_Go p e below KK s₁ (mkF m 158 #[oI p1, oI p2, oJ p3, o2, oJ p4, o2, oN i1, oI 0, oI 0, oN i2, oN i3, oI (((Int32.ofNat i1) ||| (0 : Int32)) ||| (0 : Int32)), oN (1 + i1), oN (1 + i1), oU, oU, oU, oU, oU, oU, oU, oU, oU] [(.int (Int32.ofNat (1 + i1)))])
        refine own_at (fun t k => XS.istore X0.here hx rfl (hb hby at_158) rfl (l' := #[oI p1, oI p2, oJ p3, o2, oJ p4, o2, oN i1, oI 0, oI 0, oN i2, oN i3, oI (((Int32.ofNat i1) ||| (0 : Int32)) ||| (0 : Int32)), oN (1 + i1), oN (1 + i1), oN (1 + i1), oU, oU, oU, oU, oU, oU, oU, oU]) rfl k) ?_
        show own_Go p e below KK s₁ (mkF m 160 #[oI p1, oI p2, oJ p3, o2, oJ p4, o2, oN i1, oI 0, oI 0, oN i2, oN i3, oI (((Int32.ofNat i1) ||| (0 : Int32)) ||| (0 : Int32)), oN (1 + i1), oN (1 + i1), oN (1 + i1), oU, oU, oU, oU, oU, oU, oU, oU] [])
        refine own_at (fun t k => XS.iload X0.here hx rfl (hb hby at_160) rfl k) ?_
        show own_Go p e below KK s₁ (mkF m 162 #[oI p1, oI p2, oJ p3, o2, oJ p4, o2, oN i1, oI 0, oI 0, oN i2, oN i3, oI (((Int32.ofNat i1) ||| (0 : Int32)) ||| (0 : Int32)), oN (1 + i1), oN (1 + i1), oN (1 + i1), oU, oU, oU, oU, oU, oU, oU, oU] [(.int (Int32.ofNat (1 + i1)))])
        obtain ⟨T11, h11, X11, e11, E11, V11, st11⟩ := own_newA X0 hx hZ (hw _ (List.mem_of_getElem? (i := 1) rfl)) e0 (g := (mkF m 162 #[oI p1, oI p2, oJ p3, o2, oJ p4, o2, oN i1, oI 0, oI 0, oN i2, oN i3, oI (((Int32.ofNat i1) ||| (0 : Int32)) ||| (0 : Int32)), oN (1 + i1), oN (1 + i1), oN (1 + i1), oU, oU, oU, oU, oU, oU, oU, oU] [(.int (Int32.ofNat (1 + i1)))])) rfl (hb hby at_162) rfl (own_ofNat (by omega)).2.1 (N := (1 + i1)) (own_ofNat (by omega)).1 (cap := 13) (by omega) (by decide) (by decide) (by decide) (d := "[B") (by first | rfl | decide +kernel) (vs := ((List.replicate (1 + i1) (0 : Int32)).map Value.int)) (by rw [List.map_replicate]; rfl)
        obtain ⟨b11, g11⟩ : ∃ z, z = h0.size := ⟨_, rfl⟩
        rw [← g11] at V11 st11
        have g_b11 : n0 ≤ b11 := by rw [g11]; exact Z0
        have Zs11 : n0 ≤ h11.size := Nat.le_trans Z0 E11.1
        have A12_b11 : own_A Z h11 b11 "[B" .byte ((List.replicate (1 + i1) (0 : Int32)).map Value.int) := V11
        refine own_of (fun t k => st11 t k) ?_
        show own_Go p e below KK T11 (mkF m 164 #[oI p1, oI p2, oJ p3, o2, oJ p4, o2, oN i1, oI 0, oI 0, oN i2, oN i3, oI (((Int32.ofNat i1) ||| (0 : Int32)) ||| (0 : Int32)), oN (1 + i1), oN (1 + i1), oN (1 + i1), oU, oU, oU, oU, oU, oU, oU, oU] [(.ref b11)])
        refine own_at (fun t k => XS.astore X11.here hx rfl (hb hby at_164) rfl rfl (l' := #[oI p1, oI p2, oJ p3, o2, oJ p4, o2, oN i1, oI 0, oI 0, oN i2, oN i3, oI (((Int32.ofNat i1) ||| (0 : Int32)) ||| (0 : Int32)), oN (1 + i1), oN (1 + i1), oN (1 + i1), oR b11, oU, oU, oU, oU, oU, oU, oU]) rfl k) ?_
        show own_Go p e below KK T11 (mkF m 166 #[oI p1, oI p2, oJ p3, o2, oJ p4, o2, oN i1, oI 0, oI 0, oN i2, oN i3, oI (((Int32.ofNat i1) ||| (0 : Int32)) ||| (0 : Int32)), oN (1 + i1), oN (1 + i1), oN (1 + i1), oR b11, oU, oU, oU, oU, oU, oU, oU] [])
        refine own_at (fun t k => XS.aload X11.here hx rfl (hb hby at_166) rfl rfl k) ?_
        show own_Go p e below KK T11 (mkF m 168 #[oI p1, oI p2, oJ p3, o2, oJ p4, o2, oN i1, oI 0, oI 0, oN i2, oN i3, oI (((Int32.ofNat i1) ||| (0 : Int32)) ||| (0 : Int32)), oN (1 + i1), oN (1 + i1), oN (1 + i1), oR b11, oU, oU, oU, oU, oU, oU, oU] [(.ref b11)])
        refine own_at (fun t k => XS.lloadN X11.here hx rfl (hb hby at_168) rfl k) ?_
        show own_Go p e below KK T11 (mkF m 169 #[oI p1, oI p2, oJ p3, o2, oJ p4, o2, oN i1, oI 0, oI 0, oN i2, oN i3, oI (((Int32.ofNat i1) ||| (0 : Int32)) ||| (0 : Int32)), oN (1 + i1), oN (1 + i1), oN (1 + i1), oR b11, oU, oU, oU, oU, oU, oU, oU] [(.long p3), (.ref b11)])
        refine own_at (fun t k => XS.lload X11.here hx rfl (hb hby at_169) rfl k) ?_
        show own_Go p e below KK T11 (mkF m 171 #[oI p1, oI p2, oJ p3, o2, oJ p4, o2, oN i1, oI 0, oI 0, oN i2, oN i3, oI (((Int32.ofNat i1) ||| (0 : Int32)) ||| (0 : Int32)), oN (1 + i1), oN (1 + i1), oN (1 + i1), oR b11, oU, oU, oU, oU, oU, oU, oU] [(.long p4), (.long p3), (.ref b11)])
        obtain ⟨_, _, ⟨T13, L13, k13, n13⟩, -, X13, ⟨Lc13, hQ13, l13, y13, z13⟩, st13⟩ := Jvm.LawKit.callS X11 hx (y := (⟨"com/example/isimud/isimud/oscore/OscoreOptionReadPinLaw", "fill", "([BJJ)V"⟩ : MethodName)) hown (mvT hZ (hw _ (List.mem_of_getElem? (i := 2) rfl))) (mvT hZ (hw _ (List.mem_of_getElem? (i := 3) rfl))) (mvT hZ (hw _ (List.mem_of_getElem? (i := 4) rfl))) (mvT hZ (hw _ (List.mem_of_getElem? (i := 5) rfl))) (by decide) (backOf (W := 0) (rm_fill l Z a0 hw [] b11 p3 p4 (List.replicate (1 + i1) (0 : Int32)) h11 n0 Zs11 A12_b11 (by rw [List.length_replicate]; omega) g_b11) hZ (hw _ (List.mem_of_getElem? (i := 5) rfl)) (hw _ (List.mem_of_getElem? (i := 4) rfl)) (by decide) (by decide)) (g := (mkF m 171 #[oI p1, oI p2, oJ p3, o2, oJ p4, o2, oN i1, oI 0, oI 0, oN i2, oN i3, oI (((Int32.ofNat i1) ||| (0 : Int32)) ||| (0 : Int32)), oN (1 + i1), oN (1 + i1), oN (1 + i1), oR b11, oU, oU, oU, oU, oU, oU, oU] [(.long p4), (.long p3), (.ref b11)])) rfl (by rw [hml]; rfl) (argsL := [(.ref b11), (.long p3), (.long p4)]) (rest := []) (lenOf pd___BJJ_V rfl) rfl (by show 2 * 0 + _ ≤ _; exact Nat.le_of_eq rfl) (hb hby at_171) (fun _ _ => ⟨rfl, e11, (by decide : 1 + 0 ≤ _), (by decide : 13 + 0 ≤ _)⟩)
        dsimp only [Pt.U, Pt.locs, Pt.cells, Pt.slots] at X13 l13 y13 z13 st13 hQ13
        subst l13 y13 z13
        obtain ⟨rfl, N13q, K13, u13, hu13, Aq13⟩ := hQ13
        rw [List.length_replicate] at hu13
        have Zs13 : n0 ≤ T13.heap.size := Nat.le_trans Zs11 K13.1
        have A14_b11 : own_A Z T13.heap b11 "[B" .byte (u13.map Value.int) := Aq13
        have N13 := Fr.app N0 N13q
        refine own_of (fun t k => st13 t k) ?_
        show own_Go p e below KK T13 (mkF m 174 #[oI p1, oI p2, oJ p3, o2, oJ p4, o2, oN i1, oI 0, oI 0, oN i2, oN i3, oI (((Int32.ofNat i1) ||| (0 : Int32)) ||| (0 : Int32)), oN (1 + i1), oN (1 + i1), oN (1 + i1), oR b11, oU, oU, oU, oU, oU, oU, oU] [])
        refine own_at (fun t k => XS.aload X13.here hx rfl (hb hby at_174) rfl rfl k) ?_
        show own_Go p e below KK T13 (mkF m 176 #[oI p1, oI p2, oJ p3, o2, oJ p4, o2, oN i1, oI 0, oI 0, oN i2, oN i3, oI (((Int32.ofNat i1) ||| (0 : Int32)) ||| (0 : Int32)), oN (1 + i1), oN (1 + i1), oN (1 + i1), oR b11, oU, oU, oU, oU, oU, oU, oU] [(.ref b11)])
        refine own_at (fun t k => XS.iconst X13.here hx rfl (hb hby at_176) k) ?_
        show own_Go p e below KK T13 (mkF m 177 #[oI p1, oI p2, oJ p3, o2, oJ p4, o2, oN i1, oI 0, oI 0, oN i2, oN i3, oI (((Int32.ofNat i1) ||| (0 : Int32)) ||| (0 : Int32)), oN (1 + i1), oN (1 + i1), oN (1 + i1), oR b11, oU, oU, oU, oU, oU, oU, oU] [(.int 0), (.ref b11)])
        refine own_at (fun t k => XS.iload X13.here hx rfl (hb hby at_177) rfl k) ?_
        show own_Go p e below KK T13 (mkF m 179 #[oI p1, oI p2, oJ p3, o2, oJ p4, o2, oN i1, oI 0, oI 0, oN i2, oN i3, oI (((Int32.ofNat i1) ||| (0 : Int32)) ||| (0 : Int32)), oN (1 + i1), oN (1 + i1), oN (1 + i1), oR b11, oU, oU, oU, oU, oU, oU, oU] [(.int (((Int32.ofNat i1) ||| (0 : Int32)) ||| (0 : Int32))), (.int 0), (.ref b11)])
        refine own_at (fun t k => XS.i2b X13.here hx rfl (hb hby at_179) rfl k) ?_
        show own_Go p e below KK T13 (mkF m 180 #[oI p1, oI p2, oJ p3, o2, oJ p4, o2, oN i1, oI 0, oI 0, oN i2, oN i3, oI (((Int32.ofNat i1) ||| (0 : Int32)) ||| (0 : Int32)), oN (1 + i1), oN (1 + i1), oN (1 + i1), oR b11, oU, oU, oU, oU, oU, oU, oU] [(.int ((((Int32.ofNat i1) ||| (0 : Int32)) ||| (0 : Int32)).toInt8.toInt32)), (.int 0), (.ref b11)])
        obtain ⟨T15, h15, X15, e15, W15, V15, st15⟩ := own_stB X13 hx hZ rfl A14_b11 (j := (0 : Int32)) (y := ((((Int32.ofNat i1) ||| (0 : Int32)) ||| (0 : Int32)).toInt8.toInt32)) (own_narB _) (i := 0) (by decide) (by decide) (by rw [List.length_map, hu13]; omega) (g := (mkF m 180 #[oI p1, oI p2, oJ p3, o2, oJ p4, o2, oN i1, oI 0, oI 0, oN i2, oN i3, oI (((Int32.ofNat i1) ||| (0 : Int32)) ||| (0 : Int32)), oN (1 + i1), oN (1 + i1), oN (1 + i1), oR b11, oU, oU, oU, oU, oU, oU, oU] [(.int ((((Int32.ofNat i1) ||| (0 : Int32)) ||| (0 : Int32)).toInt8.toInt32)), (.int 0), (.ref b11)])) rfl rfl (hb hby at_180)
        have N15 := Fr.snoc X15 N13 g_b11
        have Zs15 : n0 ≤ h15.size := (by rw [W15.size]; exact Zs13)
        have A16_b11 : own_A Z h15 b11 "[B" .byte ((u13.set 0 ((((Int32.ofNat i1) ||| (0 : Int32)) ||| (0 : Int32)).toInt8.toInt32)).map Value.int) := by rw [← own_mset]; exact V15
        refine own_of (fun t k => st15 t k) ?_
        show own_Go p e below KK T15 (mkF m 181 #[oI p1, oI p2, oJ p3, o2, oJ p4, o2, oN i1, oI 0, oI 0, oN i2, oN i3, oI (((Int32.ofNat i1) ||| (0 : Int32)) ||| (0 : Int32)), oN (1 + i1), oN (1 + i1), oN (1 + i1), oR b11, oU, oU, oU, oU, oU, oU, oU] [])
        refine own_at (fun t k => XS.iload X15.here hx rfl (hb hby at_181) rfl k) ?_
        show own_Go p e below KK T15 (mkF m 183 #[oI p1, oI p2, oJ p3, o2, oJ p4, o2, oN i1, oI 0, oI 0, oN i2, oN i3, oI (((Int32.ofNat i1) ||| (0 : Int32)) ||| (0 : Int32)), oN (1 + i1), oN (1 + i1), oN (1 + i1), oR b11, oU, oU, oU, oU, oU, oU, oU] [(.int 0)])
        have hc183 : (0 : Int32) = (0 : Int32) := by decide
        refine own_at (fun t k => XS.ifYes X15.here hx rfl (pc0 := 183) (pc' := 194) rfl (hb hby at_183) rfl (Jvm.Free.XT.i0_eq_t hc183) (by decide) (by decide) k) ?_
        show own_Go p e below KK T15 (mkF m 194 #[oI p1, oI p2, oJ p3, o2, oJ p4, o2, oN i1, oI 0, oI 0, oN i2, oN i3, oI (((Int32.ofNat i1) ||| (0 : Int32)) ||| (0 : Int32)), oN (1 + i1), oN (1 + i1), oN (1 + i1), oR b11, oU, oU, oU, oU, oU, oU, oU] [])
        obtain ⟨us, hus⟩ : ∃ z, z = (u13.set 0 ((((Int32.ofNat i1) ||| (0 : Int32)) ||| (0 : Int32)).toInt8.toInt32)) := ⟨_, rfl⟩
        have hul : us.length = (1 + i1) := by rw [hus]; simp only [List.length_set]; exact hu13
        have hu0 : us[0]? = some ((((Int32.ofNat i1) ||| (0 : Int32)) ||| (0 : Int32)).toInt8.toInt32) := by rw [hus]; exact own_s0 (by rw [hu13]; omega)
        have A17_b11 : own_A Z h15 b11 "[B" .byte (us.map Value.int) := by rw [hus]; exact A16_b11
        refine own_at (fun t k => XS.aload X15.here hx rfl (hb hby at_194) rfl rfl k) ?_
        show own_Go p e below KK T15 (mkF m 196 #[oI p1, oI p2, oJ p3, o2, oJ p4, o2, oN i1, oI 0, oI 0, oN i2, oN i3, oI (((Int32.ofNat i1) ||| (0 : Int32)) ||| (0 : Int32)), oN (1 + i1), oN (1 + i1), oN (1 + i1), oR b11, oU, oU, oU, oU, oU, oU, oU] [(.ref b11)])
        obtain ⟨_, _, ⟨T18, L18, k18, n18⟩, -, X18, ⟨Lc18, hQ18, l18, y18, z18⟩, st18⟩ := Jvm.LawKit.callS X15 hx (y := (⟨"com/example/isimud/isimud/oscore/OscoreOption", "read", "([B)Lcom/example/isimud/isimud/oscore/OscoreOption;"⟩ : MethodName)) hown (mvT hZ (hw _ (List.mem_of_getElem? (i := 6) rfl))) (mvT hZ (hw _ (List.mem_of_getElem? (i := 7) rfl))) (mvT hZ (hw _ (List.mem_of_getElem? (i := 8) rfl))) (mvT hZ (hw _ (List.mem_of_getElem? (i := 9) rfl))) (by decide) (backOf (W := 0) (rm_read00 l Z a0 hw [] b11 us i1 ((((Int32.ofNat i1) ||| (0 : Int32)) ||| (0 : Int32)).toInt8.toInt32) h15 n0 Zs15 A17_b11 hu0 (own_fl00 hi1 hn0) hi1 (by omega) (by omega)) hZ (hw _ (List.mem_of_getElem? (i := 9) rfl)) (hw _ (List.mem_of_getElem? (i := 8) rfl)) (by decide) (by decide)) (g := (mkF m 196 #[oI p1, oI p2, oJ p3, o2, oJ p4, o2, oN i1, oI 0, oI 0, oN i2, oN i3, oI (((Int32.ofNat i1) ||| (0 : Int32)) ||| (0 : Int32)), oN (1 + i1), oN (1 + i1), oN (1 + i1), oR b11, oU, oU, oU, oU, oU, oU, oU] [(.ref b11)])) rfl (by rw [hml]; rfl) (argsL := [(.ref b11)]) (rest := []) (lenOf pd___B_Lcom_example_isimud_isimud_oscore_OscoreOption_ rfl) rfl (by show 2 * 0 + _ ≤ _; exact Nat.le_of_eq rfl) (hb hby at_196) (fun _ _ => ⟨rfl, e15, (by decide : 1 + 4 ≤ _), (by decide : 13 + 42 ≤ _)⟩)
        dsimp only [Pt.U, Pt.locs, Pt.cells, Pt.slots] at X18 l18 y18 z18 st18 hQ18
        subst l18 y18 z18
        obtain ⟨r18, x18a, x18b, x18c, rfl, N18q, K18, g_r18, s_r18, Ex18, Fx18, Fy18, Fz18, Oa18, Ob18, Oc18⟩ := hQ18
        have ne_b11_r18 : b11 ≠ r18 := Nat.ne_of_lt (Nat.lt_of_lt_of_le A17_b11.lt s_r18)
        have A17_b11_h18 : own_A Z T18.heap b11 "[B" .byte (us.map Value.int) := A17_b11.keep K18 nin0
        have Zs18 : n0 ≤ T18.heap.size := Nat.le_trans Zs15 K18.1
        have E19_r18 : Exa Z T18.heap r18 "com/example/isimud/isimud/oscore/OscoreOption" := Ex18
        have F20_r18 : Fld Z T18.heap r18 "com/example/isimud/isimud/oscore/OscoreOption" "partialIv" "[B" x18a := Fx18
        have F21_r18 : Fld Z T18.heap r18 "com/example/isimud/isimud/oscore/OscoreOption" "kidContext" "[B" x18b := Fy18
        have F22_r18 : Fld Z T18.heap r18 "com/example/isimud/isimud/oscore/OscoreOption" "kid" "[B" x18c := Fz18
        have N18 := Fr.app N15 N18q
        refine own_of (fun t k => st18 t k) ?_
        show own_Go p e below KK T18 (mkF m 199 #[oI p1, oI p2, oJ p3, o2, oJ p4, o2, oN i1, oI 0, oI 0, oN i2, oN i3, oI (((Int32.ofNat i1) ||| (0 : Int32)) ||| (0 : Int32)), oN (1 + i1), oN (1 + i1), oN (1 + i1), oR b11, oU, oU, oU, oU, oU, oU, oU] [(.ref r18)])
        have Ob18' : x18b = Value.null := Ob18
        subst Ob18'
        have Oc18' : x18c = Value.null := Oc18
        subst Oc18'
        rw [if_neg hn0] at Oa18
        obtain ⟨y18a, rfl, AOa18⟩ := Oa18
        have A23_y18a : own_A Z T18.heap y18a "[B" .byte (((us.map Value.int).drop 1).take i1) := AOa18
        refine own_at (fun t k => XS.astore X18.here hx rfl (hb hby at_199) rfl rfl (l' := #[oI p1, oI p2, oJ p3, o2, oJ p4, o2, oN i1, oI 0, oI 0, oN i2, oN i3, oI (((Int32.ofNat i1) ||| (0 : Int32)) ||| (0 : Int32)), oN (1 + i1), oN (1 + i1), oN (1 + i1), oR b11, oR r18, oU, oU, oU, oU, oU, oU]) rfl k) ?_
        show own_Go p e below KK T18 (mkF m 201 #[oI p1, oI p2, oJ p3, o2, oJ p4, o2, oN i1, oI 0, oI 0, oN i2, oN i3, oI (((Int32.ofNat i1) ||| (0 : Int32)) ||| (0 : Int32)), oN (1 + i1), oN (1 + i1), oN (1 + i1), oR b11, oR r18, oU, oU, oU, oU, oU, oU] [])
        refine own_at (fun t k => XS.aload X18.here hx rfl (hb hby at_201) rfl rfl k) ?_
        show own_Go p e below KK T18 (mkF m 203 #[oI p1, oI p2, oJ p3, o2, oJ p4, o2, oN i1, oI 0, oI 0, oN i2, oN i3, oI (((Int32.ofNat i1) ||| (0 : Int32)) ||| (0 : Int32)), oN (1 + i1), oN (1 + i1), oN (1 + i1), oR b11, oR r18, oU, oU, oU, oU, oU, oU] [(.ref r18)])
        obtain ⟨cq24, kq24, q24a, q24b, q24c⟩ := isOf hZ rfl E19_r18
        obtain ⟨_, _, ⟨T24, L24, k24, n24⟩, -, X24, ⟨Lc24, hQ24, l24, y24, z24⟩, st24⟩ := X18.virtualBack hx (y := (⟨"com/example/isimud/isimud/oscore/OscoreOption", "partialIv", "()[B"⟩ : MethodName)) (z := (⟨"com/example/isimud/isimud/oscore/OscoreOption", "partialIv", "()[B"⟩ : MethodName)) hown (mvT hZ (hw _ (List.mem_of_getElem? (i := 45) rfl))) (mvT hZ (hw _ (List.mem_of_getElem? (i := 46) rfl))) (notFace_of_selects (args := #[]) (mvT hZ (hw _ (List.mem_of_getElem? (i := 48) rfl)))) (mvT hZ (hw _ (List.mem_of_getElem? (i := 48) rfl))) (mvT hZ (hw _ (List.mem_of_getElem? (i := 47) rfl))) (by decide) (backOf (W := 0) (rm_partialIv l Z a0 hw [] r18  y18a (((us.map Value.int).drop 1).take i1) T18.heap n0 Zs18 F20_r18 A23_y18a (by simp only [List.length_take, List.length_drop, List.length_map]; omega)) hZ (hw _ (List.mem_of_getElem? (i := 49) rfl)) (hw _ (List.mem_of_getElem? (i := 8) rfl)) (by decide) (by decide)) q24a q24c (g := (mkF m 203 #[oI p1, oI p2, oJ p3, o2, oJ p4, o2, oN i1, oI 0, oI 0, oN i2, oN i3, oI (((Int32.ofNat i1) ||| (0 : Int32)) ||| (0 : Int32)), oN (1 + i1), oN (1 + i1), oN (1 + i1), oR b11, oR r18, oU, oU, oU, oU, oU, oU] [(.ref r18)])) rfl (by rw [hml]; rfl) (Steps.refl _) (argsL := []) (rest := []) (lenOf pd____B rfl) rfl (by show 2 * 0 + _ ≤ _; exact Nat.le_of_eq rfl) (hb hby at_203) (fun _ _ => ⟨rfl, rfl, (by decide : 5 + 1 ≤ _), (by decide : 55 + 13 ≤ _)⟩)
        dsimp only [Pt.U, Pt.locs, Pt.cells, Pt.slots] at X24 l24 y24 z24 st24 hQ24
        subst l24 y24 z24
        obtain ⟨r24, rfl, N24q, K24, g_r24, s_r24, Aq24⟩ := hQ24
        have ne_b11_r24 : b11 ≠ r24 := Nat.ne_of_lt (Nat.lt_of_lt_of_le A17_b11_h18.lt s_r24)
        have ne_r18_r24 : r18 ≠ r24 := Nat.ne_of_lt (Nat.lt_of_lt_of_le E19_r18.lt s_r24)
        have ne_y18a_r24 : y18a ≠ r24 := Nat.ne_of_lt (Nat.lt_of_lt_of_le A23_y18a.lt s_r24)
        have A17_b11_h24 : own_A Z T24.heap b11 "[B" .byte (us.map Value.int) := A17_b11_h18.keep K24 nin0
        have E19_r18_h24 : Exa Z T24.heap r18 "com/example/isimud/isimud/oscore/OscoreOption" := E19_r18.keep K24
        have F20_r18_h24 : Fld Z T24.heap r18 "com/example/isimud/isimud/oscore/OscoreOption" "partialIv" "[B" (.ref y18a) := F20_r18.keep K24 nin0
        have F21_r18_h24 : Fld Z T24.heap r18 "com/example/isimud/isimud/oscore/OscoreOption" "kidContext" "[B" .null := F21_r18.keep K24 nin0
        have F22_r18_h24 : Fld Z T24.heap r18 "com/example/isimud/isimud/oscore/OscoreOption" "kid" "[B" .null := F22_r18.keep K24 nin0
        have A23_y18a_h24 : own_A Z T24.heap y18a "[B" .byte (((us.map Value.int).drop 1).take i1) := A23_y18a.keep K24 nin0
        have Zs24 : n0 ≤ T24.heap.size := Nat.le_trans Zs18 K24.1
        have A25_r24 : own_A Z T24.heap r24 "[B" .byte (((us.map Value.int).drop 1).take i1) := Aq24
        have N24 := Fr.app N18 N24q
        refine own_of (fun t k => st24.trans k) ?_
        show own_Go p e below KK T24 (mkF m 206 #[oI p1, oI p2, oJ p3, o2, oJ p4, o2, oN i1, oI 0, oI 0, oN i2, oN i3, oI (((Int32.ofNat i1) ||| (0 : Int32)) ||| (0 : Int32)), oN (1 + i1), oN (1 + i1), oN (1 + i1), oR b11, oR r18, oU, oU, oU, oU, oU, oU] [(.ref r24)])
        refine own_at (fun t k => XS.astore X24.here hx rfl (hb hby at_206) rfl rfl (l' := #[oI p1, oI p2, oJ p3, o2, oJ p4, o2, oN i1, oI 0, oI 0, oN i2, oN i3, oI (((Int32.ofNat i1) ||| (0 : Int32)) ||| (0 : Int32)), oN (1 + i1), oN (1 + i1), oN (1 + i1), oR b11, oR r18, oR r24, oU, oU, oU, oU, oU]) rfl k) ?_
        show own_Go p e below KK T24 (mkF m 208 #[oI p1, oI p2, oJ p3, o2, oJ p4, o2, oN i1, oI 0, oI 0, oN i2, oN i3, oI (((Int32.ofNat i1) ||| (0 : Int32)) ||| (0 : Int32)), oN (1 + i1), oN (1 + i1), oN (1 + i1), oR b11, oR r18, oR r24, oU, oU, oU, oU, oU] [])
        refine own_at (fun t k => XS.aload X24.here hx rfl (hb hby at_208) rfl rfl k) ?_
        show own_Go p e below KK T24 (mkF m 210 #[oI p1, oI p2, oJ p3, o2, oJ p4, o2, oN i1, oI 0, oI 0, oN i2, oN i3, oI (((Int32.ofNat i1) ||| (0 : Int32)) ||| (0 : Int32)), oN (1 + i1), oN (1 + i1), oN (1 + i1), oR b11, oR r18, oR r24, oU, oU, oU, oU, oU] [(.ref r18)])
        obtain ⟨cq26, kq26, q26a, q26b, q26c⟩ := isOf hZ rfl E19_r18_h24
        obtain ⟨_, _, ⟨T26, L26, k26, n26⟩, -, X26, ⟨Lc26, hQ26, l26, y26, z26⟩, st26⟩ := X24.virtualBack hx (y := (⟨"com/example/isimud/isimud/oscore/OscoreOption", "kidContext", "()[B"⟩ : MethodName)) (z := (⟨"com/example/isimud/isimud/oscore/OscoreOption", "kidContext", "()[B"⟩ : MethodName)) hown (mvT hZ (hw _ (List.mem_of_getElem? (i := 50) rfl))) (mvT hZ (hw _ (List.mem_of_getElem? (i := 51) rfl))) (notFace_of_selects (args := #[]) (mvT hZ (hw _ (List.mem_of_getElem? (i := 53) rfl)))) (mvT hZ (hw _ (List.mem_of_getElem? (i := 53) rfl))) (mvT hZ (hw _ (List.mem_of_getElem? (i := 52) rfl))) (by decide) (backOf (W := 0) (rm_kidContext0 l Z a0 hw [] r18   T24.heap n0 Zs24 F21_r18_h24) hZ (hw _ (List.mem_of_getElem? (i := 54) rfl)) (hw _ (List.mem_of_getElem? (i := 8) rfl)) (by decide) (by decide)) q26a q26c (g := (mkF m 210 #[oI p1, oI p2, oJ p3, o2, oJ p4, o2, oN i1, oI 0, oI 0, oN i2, oN i3, oI (((Int32.ofNat i1) ||| (0 : Int32)) ||| (0 : Int32)), oN (1 + i1), oN (1 + i1), oN (1 + i1), oR b11, oR r18, oR r24, oU, oU, oU, oU, oU] [(.ref r18)])) rfl (by rw [hml]; rfl) (Steps.refl _) (argsL := []) (rest := []) (lenOf pd____B rfl) rfl (by show 2 * 0 + _ ≤ _; exact Nat.le_of_eq rfl) (hb hby at_210) (fun _ _ => ⟨rfl, rfl, (by decide : 6 + 0 ≤ _), (by decide : 68 + 0 ≤ _)⟩)
        dsimp only [Pt.U, Pt.locs, Pt.cells, Pt.slots] at X26 l26 y26 z26 st26 hQ26
        subst l26 y26 z26
        obtain ⟨rfl, N26q, e26⟩ := hQ26
        have N26 := Fr.app N24 N26q
        refine own_of (fun t k => st26.trans k) ?_
        show own_Go p e below KK T26 (mkF m 213 #[oI p1, oI p2, oJ p3, o2, oJ p4, o2, oN i1, oI 0, oI 0, oN i2, oN i3, oI (((Int32.ofNat i1) ||| (0 : Int32)) ||| (0 : Int32)), oN (1 + i1), oN (1 + i1), oN (1 + i1), oR b11, oR r18, oR r24, oU, oU, oU, oU, oU] [.null])
        refine own_at (fun t k => XS.astore X26.here hx rfl (hb hby at_213) rfl rfl (l' := #[oI p1, oI p2, oJ p3, o2, oJ p4, o2, oN i1, oI 0, oI 0, oN i2, oN i3, oI (((Int32.ofNat i1) ||| (0 : Int32)) ||| (0 : Int32)), oN (1 + i1), oN (1 + i1), oN (1 + i1), oR b11, oR r18, oR r24, .val .null, oU, oU, oU, oU]) rfl k) ?_
        show own_Go p e below KK T26 (mkF m 215 #[oI p1, oI p2, oJ p3, o2, oJ p4, o2, oN i1, oI 0, oI 0, oN i2, oN i3, oI (((Int32.ofNat i1) ||| (0 : Int32)) ||| (0 : Int32)), oN (1 + i1), oN (1 + i1), oN (1 + i1), oR b11, oR r18, oR r24, .val .null, oU, oU, oU, oU] [])
        refine own_at (fun t k => XS.aload X26.here hx rfl (hb hby at_215) rfl rfl k) ?_
        show own_Go p e below KK T26 (mkF m 217 #[oI p1, oI p2, oJ p3, o2, oJ p4, o2, oN i1, oI 0, oI 0, oN i2, oN i3, oI (((Int32.ofNat i1) ||| (0 : Int32)) ||| (0 : Int32)), oN (1 + i1), oN (1 + i1), oN (1 + i1), oR b11, oR r18, oR r24, .val .null, oU, oU, oU, oU] [(.ref r18)])
        obtain ⟨cq27, kq27, q27a, q27b, q27c⟩ := isOf hZ e26 E19_r18_h24
        obtain ⟨_, _, ⟨T27, L27, k27, n27⟩, -, X27, ⟨Lc27, hQ27, l27, y27, z27⟩, st27⟩ := X26.virtualBack hx (y := (⟨"com/example/isimud/isimud/oscore/OscoreOption", "kid", "()[B"⟩ : MethodName)) (z := (⟨"com/example/isimud/isimud/oscore/OscoreOption", "kid", "()[B"⟩ : MethodName)) hown (mvT hZ (hw _ (List.mem_of_getElem? (i := 64) rfl))) (mvT hZ (hw _ (List.mem_of_getElem? (i := 65) rfl))) (notFace_of_selects (args := #[]) (mvT hZ (hw _ (List.mem_of_getElem? (i := 67) rfl)))) (mvT hZ (hw _ (List.mem_of_getElem? (i := 67) rfl))) (mvT hZ (hw _ (List.mem_of_getElem? (i := 66) rfl))) (by decide) (backOf (W := 0) (rm_kid0 l Z a0 hw [] r18   T24.heap n0 Zs24 F22_r18_h24) hZ (hw _ (List.mem_of_getElem? (i := 68) rfl)) (hw _ (List.mem_of_getElem? (i := 8) rfl)) (by decide) (by decide)) q27a q27c (g := (mkF m 217 #[oI p1, oI p2, oJ p3, o2, oJ p4, o2, oN i1, oI 0, oI 0, oN i2, oN i3, oI (((Int32.ofNat i1) ||| (0 : Int32)) ||| (0 : Int32)), oN (1 + i1), oN (1 + i1), oN (1 + i1), oR b11, oR r18, oR r24, .val .null, oU, oU, oU, oU] [(.ref r18)])) rfl (by rw [hml]; rfl) (Steps.refl _) (argsL := []) (rest := []) (lenOf pd____B rfl) rfl (by show 2 * 0 + _ ≤ _; exact Nat.le_of_eq rfl) (hb hby at_217) (fun _ _ => ⟨rfl, e26, (by decide : 6 + 0 ≤ _), (by decide : 68 + 0 ≤ _)⟩)
        dsimp only [Pt.U, Pt.locs, Pt.cells, Pt.slots] at X27 l27 y27 z27 st27 hQ27
        subst l27 y27 z27
        obtain ⟨rfl, N27q, e27⟩ := hQ27
        have N27 := Fr.app N26 N27q
        refine own_of (fun t k => st27.trans k) ?_
        show own_Go p e below KK T27 (mkF m 220 #[oI p1, oI p2, oJ p3, o2, oJ p4, o2, oN i1, oI 0, oI 0, oN i2, oN i3, oI (((Int32.ofNat i1) ||| (0 : Int32)) ||| (0 : Int32)), oN (1 + i1), oN (1 + i1), oN (1 + i1), oR b11, oR r18, oR r24, .val .null, oU, oU, oU, oU] [.null])
        refine own_at (fun t k => XS.astore X27.here hx rfl (hb hby at_220) rfl rfl (l' := #[oI p1, oI p2, oJ p3, o2, oJ p4, o2, oN i1, oI 0, oI 0, oN i2, oN i3, oI (((Int32.ofNat i1) ||| (0 : Int32)) ||| (0 : Int32)), oN (1 + i1), oN (1 + i1), oN (1 + i1), oR b11, oR r18, oR r24, .val .null, .val .null, oU, oU, oU]) rfl k) ?_
        show own_Go p e below KK T27 (mkF m 222 #[oI p1, oI p2, oJ p3, o2, oJ p4, o2, oN i1, oI 0, oI 0, oN i2, oN i3, oI (((Int32.ofNat i1) ||| (0 : Int32)) ||| (0 : Int32)), oN (1 + i1), oN (1 + i1), oN (1 + i1), oR b11, oR r18, oR r24, .val .null, .val .null, oU, oU, oU] [])
        refine own_at (fun t k => XS.iload X27.here hx rfl (hb hby at_222) rfl k) ?_
        show own_Go p e below KK T27 (mkF m 224 #[oI p1, oI p2, oJ p3, o2, oJ p4, o2, oN i1, oI 0, oI 0, oN i2, oN i3, oI (((Int32.ofNat i1) ||| (0 : Int32)) ||| (0 : Int32)), oN (1 + i1), oN (1 + i1), oN (1 + i1), oR b11, oR r18, oR r24, .val .null, .val .null, oU, oU, oU] [(.int (Int32.ofNat i1))])
        have hc224 : ¬ ((Int32.ofNat i1) = (0 : Int32)) := (fun q => hn0 ((own_eq (b := 0) (by omega) (by omega)).mp q))
        refine own_at (fun t k => XS.ifYes X27.here hx rfl (pc0 := 224) (pc' := 240) rfl (hb hby at_224) rfl (Jvm.Free.XT.i0_ne_t hc224) (by decide) (by decide) k) ?_
        show own_Go p e below KK T27 (mkF m 240 #[oI p1, oI p2, oJ p3, o2, oJ p4, o2, oN i1, oI 0, oI 0, oN i2, oN i3, oI (((Int32.ofNat i1) ||| (0 : Int32)) ||| (0 : Int32)), oN (1 + i1), oN (1 + i1), oN (1 + i1), oR b11, oR r18, oR r24, .val .null, .val .null, oU, oU, oU] [])
        refine own_at (fun t k => XS.aload X27.here hx rfl (hb hby at_240) rfl rfl k) ?_
        show own_Go p e below KK T27 (mkF m 242 #[oI p1, oI p2, oJ p3, o2, oJ p4, o2, oN i1, oI 0, oI 0, oN i2, oN i3, oI (((Int32.ofNat i1) ||| (0 : Int32)) ||| (0 : Int32)), oN (1 + i1), oN (1 + i1), oN (1 + i1), oR b11, oR r18, oR r24, .val .null, .val .null, oU, oU, oU] [(.ref r24)])
        refine own_at (fun t k => XS.aload X27.here hx rfl (hb hby at_242) rfl rfl k) ?_
        show own_Go p e below KK T27 (mkF m 244 #[oI p1, oI p2, oJ p3, o2, oJ p4, o2, oN i1, oI 0, oI 0, oN i2, oN i3, oI (((Int32.ofNat i1) ||| (0 : Int32)) ||| (0 : Int32)), oN (1 + i1), oN (1 + i1), oN (1 + i1), oR b11, oR r18, oR r24, .val .null, .val .null, oU, oU, oU] [(.ref b11), (.ref r24)])
        refine own_at (fun t k => XS.iconst X27.here hx rfl (hb hby at_244) k) ?_
        show own_Go p e below KK T27 (mkF m 245 #[oI p1, oI p2, oJ p3, o2, oJ p4, o2, oN i1, oI 0, oI 0, oN i2, oN i3, oI (((Int32.ofNat i1) ||| (0 : Int32)) ||| (0 : Int32)), oN (1 + i1), oN (1 + i1), oN (1 + i1), oR b11, oR r18, oR r24, .val .null, .val .null, oU, oU, oU] [(.int 1), (.ref b11), (.ref r24)])
        refine own_at (fun t k => XS.iload X27.here hx rfl (hb hby at_245) rfl k) ?_
        show own_Go p e below KK T27 (mkF m 247 #[oI p1, oI p2, oJ p3, o2, oJ p4, o2, oN i1, oI 0, oI 0, oN i2, oN i3, oI (((Int32.ofNat i1) ||| (0 : Int32)) ||| (0 : Int32)), oN (1 + i1), oN (1 + i1), oN (1 + i1), oR b11, oR r18, oR r24, .val .null, .val .null, oU, oU, oU] [(.int (Int32.ofNat i1)), (.int 1), (.ref b11), (.ref r24)])
        obtain ⟨_, _, ⟨T28, L28, k28, n28⟩, -, X28, ⟨Lc28, hQ28, l28, y28, z28⟩, st28⟩ := Jvm.LawKit.callS X27 hx (y := (⟨"com/example/isimud/isimud/oscore/OscoreOptionReadPinLaw", "same", "([B[BII)Z"⟩ : MethodName)) hown (mvT hZ (hw _ (List.mem_of_getElem? (i := 69) rfl))) (mvT hZ (hw _ (List.mem_of_getElem? (i := 70) rfl))) (mvT hZ (hw _ (List.mem_of_getElem? (i := 4) rfl))) (mvT hZ (hw _ (List.mem_of_getElem? (i := 71) rfl))) (by decide) (backOf (W := 0) (rm_same l Z a0 hw [] r24 b11 1 i1 us T24.heap n0 Zs24 (by omega) A25_r24 A17_b11_h24 (by omega) (by omega)) hZ (hw _ (List.mem_of_getElem? (i := 71) rfl)) (hw _ (List.mem_of_getElem? (i := 4) rfl)) (by decide) (by decide)) (g := (mkF m 247 #[oI p1, oI p2, oJ p3, o2, oJ p4, o2, oN i1, oI 0, oI 0, oN i2, oN i3, oI (((Int32.ofNat i1) ||| (0 : Int32)) ||| (0 : Int32)), oN (1 + i1), oN (1 + i1), oN (1 + i1), oR b11, oR r18, oR r24, .val .null, .val .null, oU, oU, oU] [(.int (Int32.ofNat i1)), (.int 1), (.ref b11), (.ref r24)])) rfl (by rw [hml]; rfl) (argsL := [(.ref r24), (.ref b11), (.int 1), (.int (Int32.ofNat i1))]) (rest := []) (lenOf pd___B_BII_Z rfl) rfl (by show 2 * 0 + _ ≤ _; exact Nat.le_of_eq rfl) (hb hby at_247) (fun _ _ => ⟨rfl, e27, (by decide : 6 + 0 ≤ _), (by decide : 68 + 0 ≤ _)⟩)
        dsimp only [Pt.U, Pt.locs, Pt.cells, Pt.slots] at X28 l28 y28 z28 st28 hQ28
        subst l28 y28 z28
        obtain ⟨rfl, N28q, e28⟩ := hQ28
        have N28 := Fr.app N27 N28q
        refine own_of (fun t k => st28 t k) ?_
        show own_Go p e below KK T28 (mkF m 250 #[oI p1, oI p2, oJ p3, o2, oJ p4, o2, oN i1, oI 0, oI 0, oN i2, oN i3, oI (((Int32.ofNat i1) ||| (0 : Int32)) ||| (0 : Int32)), oN (1 + i1), oN (1 + i1), oN (1 + i1), oR b11, oR r18, oR r24, .val .null, .val .null, oU, oU, oU] [(.int 1)])
        refine own_at (fun t k => XS.istore X28.here hx rfl (hb hby at_250) rfl (l' := #[oI p1, oI p2, oJ p3, o2, oJ p4, o2, oN i1, oI 0, oI 0, oN i2, oN i3, oI (((Int32.ofNat i1) ||| (0 : Int32)) ||| (0 : Int32)), oN (1 + i1), oN (1 + i1), oN (1 + i1), oR b11, oR r18, oR r24, .val .null, .val .null, oI 1, oU, oU]) rfl k) ?_
        show own_Go p e below KK T28 (mkF m 252 #[oI p1, oI p2, oJ p3, o2, oJ p4, o2, oN i1, oI 0, oI 0, oN i2, oN i3, oI (((Int32.ofNat i1) ||| (0 : Int32)) ||| (0 : Int32)), oN (1 + i1), oN (1 + i1), oN (1 + i1), oR b11, oR r18, oR r24, .val .null, .val .null, oI 1, oU, oU] [])
        refine own_at (fun t k => XS.iload X28.here hx rfl (hb hby at_252) rfl k) ?_
        show own_Go p e below KK T28 (mkF m 254 #[oI p1, oI p2, oJ p3, o2, oJ p4, o2, oN i1, oI 0, oI 0, oN i2, oN i3, oI (((Int32.ofNat i1) ||| (0 : Int32)) ||| (0 : Int32)), oN (1 + i1), oN (1 + i1), oN (1 + i1), oR b11, oR r18, oR r24, .val .null, .val .null, oI 1, oU, oU] [(.int 0)])
        have hc254 : (0 : Int32) = (0 : Int32) := by decide
        refine own_at (fun t k => XS.ifYes X28.here hx rfl (pc0 := 254) (pc' := 273) rfl (hb hby at_254) rfl (Jvm.Free.XT.i0_eq_t hc254) (by decide) (by decide) k) ?_
        show own_Go p e below KK T28 (mkF m 273 #[oI p1, oI p2, oJ p3, o2, oJ p4, o2, oN i1, oI 0, oI 0, oN i2, oN i3, oI (((Int32.ofNat i1) ||| (0 : Int32)) ||| (0 : Int32)), oN (1 + i1), oN (1 + i1), oN (1 + i1), oR b11, oR r18, oR r24, .val .null, .val .null, oI 1, oU, oU] [])
        refine own_at (fun t k => XS.aload X28.here hx rfl (hb hby at_273) rfl rfl k) ?_
        show own_Go p e below KK T28 (mkF m 275 #[oI p1, oI p2, oJ p3, o2, oJ p4, o2, oN i1, oI 0, oI 0, oN i2, oN i3, oI (((Int32.ofNat i1) ||| (0 : Int32)) ||| (0 : Int32)), oN (1 + i1), oN (1 + i1), oN (1 + i1), oR b11, oR r18, oR r24, .val .null, .val .null, oI 1, oU, oU] [.null])
        refine own_at (fun t k => XS.ifnonnullNo X28.here hx rfl (hb hby at_275) rfl k) ?_
        show own_Go p e below KK T28 (mkF m 278 #[oI p1, oI p2, oJ p3, o2, oJ p4, o2, oN i1, oI 0, oI 0, oN i2, oN i3, oI (((Int32.ofNat i1) ||| (0 : Int32)) ||| (0 : Int32)), oN (1 + i1), oN (1 + i1), oN (1 + i1), oR b11, oR r18, oR r24, .val .null, .val .null, oI 1, oU, oU] [])
        refine own_at (fun t k => XS.iconst X28.here hx rfl (hb hby at_278) k) ?_
        show own_Go p e below KK T28 (mkF m 279 #[oI p1, oI p2, oJ p3, o2, oJ p4, o2, oN i1, oI 0, oI 0, oN i2, oN i3, oI (((Int32.ofNat i1) ||| (0 : Int32)) ||| (0 : Int32)), oN (1 + i1), oN (1 + i1), oN (1 + i1), oR b11, oR r18, oR r24, .val .null, .val .null, oI 1, oU, oU] [(.int 1)])
        refine own_at (fun t k => XS.goto X28.here hx rfl (pc0 := 279) (pc' := 283) rfl (hb hby at_279) (by decide) (by decide) k) ?_
        show own_Go p e below KK T28 (mkF m 283 #[oI p1, oI p2, oJ p3, o2, oJ p4, o2, oN i1, oI 0, oI 0, oN i2, oN i3, oI (((Int32.ofNat i1) ||| (0 : Int32)) ||| (0 : Int32)), oN (1 + i1), oN (1 + i1), oN (1 + i1), oR b11, oR r18, oR r24, .val .null, .val .null, oI 1, oU, oU] [(.int 1)])
        refine own_at (fun t k => XS.istore X28.here hx rfl (hb hby at_283) rfl (l' := #[oI p1, oI p2, oJ p3, o2, oJ p4, o2, oN i1, oI 0, oI 0, oN i2, oN i3, oI (((Int32.ofNat i1) ||| (0 : Int32)) ||| (0 : Int32)), oN (1 + i1), oN (1 + i1), oN (1 + i1), oR b11, oR r18, oR r24, .val .null, .val .null, oI 1, oI 1, oU]) rfl k) ?_
        show own_Go p e below KK T28 (mkF m 285 #[oI p1, oI p2, oJ p3, o2, oJ p4, o2, oN i1, oI 0, oI 0, oN i2, oN i3, oI (((Int32.ofNat i1) ||| (0 : Int32)) ||| (0 : Int32)), oN (1 + i1), oN (1 + i1), oN (1 + i1), oR b11, oR r18, oR r24, .val .null, .val .null, oI 1, oI 1, oU] [])
        refine own_at (fun t k => XS.iload X28.here hx rfl (hb hby at_285) rfl k) ?_
        show own_Go p e below KK T28 (mkF m 287 #[oI p1, oI p2, oJ p3, o2, oJ p4, o2, oN i1, oI 0, oI 0, oN i2, oN i3, oI (((Int32.ofNat i1) ||| (0 : Int32)) ||| (0 : Int32)), oN (1 + i1), oN (1 + i1), oN (1 + i1), oR b11, oR r18, oR r24, .val .null, .val .null, oI 1, oI 1, oU] [(.int 0)])
        have hc287 : (0 : Int32) = (0 : Int32) := by decide
        refine own_at (fun t k => XS.ifYes X28.here hx rfl (pc0 := 287) (pc' := 304) rfl (hb hby at_287) rfl (Jvm.Free.XT.i0_eq_t hc287) (by decide) (by decide) k) ?_
        show own_Go p e below KK T28 (mkF m 304 #[oI p1, oI p2, oJ p3, o2, oJ p4, o2, oN i1, oI 0, oI 0, oN i2, oN i3, oI (((Int32.ofNat i1) ||| (0 : Int32)) ||| (0 : Int32)), oN (1 + i1), oN (1 + i1), oN (1 + i1), oR b11, oR r18, oR r24, .val .null, .val .null, oI 1, oI 1, oU] [])
        refine own_at (fun t k => XS.aload X28.here hx rfl (hb hby at_304) rfl rfl k) ?_
        show own_Go p e below KK T28 (mkF m 306 #[oI p1, oI p2, oJ p3, o2, oJ p4, o2, oN i1, oI 0, oI 0, oN i2, oN i3, oI (((Int32.ofNat i1) ||| (0 : Int32)) ||| (0 : Int32)), oN (1 + i1), oN (1 + i1), oN (1 + i1), oR b11, oR r18, oR r24, .val .null, .val .null, oI 1, oI 1, oU] [.null])
        refine own_at (fun t k => XS.ifnonnullNo X28.here hx rfl (hb hby at_306) rfl k) ?_
        show own_Go p e below KK T28 (mkF m 309 #[oI p1, oI p2, oJ p3, o2, oJ p4, o2, oN i1, oI 0, oI 0, oN i2, oN i3, oI (((Int32.ofNat i1) ||| (0 : Int32)) ||| (0 : Int32)), oN (1 + i1), oN (1 + i1), oN (1 + i1), oR b11, oR r18, oR r24, .val .null, .val .null, oI 1, oI 1, oU] [])
        refine own_at (fun t k => XS.iconst X28.here hx rfl (hb hby at_309) k) ?_
        show own_Go p e below KK T28 (mkF m 310 #[oI p1, oI p2, oJ p3, o2, oJ p4, o2, oN i1, oI 0, oI 0, oN i2, oN i3, oI (((Int32.ofNat i1) ||| (0 : Int32)) ||| (0 : Int32)), oN (1 + i1), oN (1 + i1), oN (1 + i1), oR b11, oR r18, oR r24, .val .null, .val .null, oI 1, oI 1, oU] [(.int 1)])
        refine own_at (fun t k => XS.goto X28.here hx rfl (pc0 := 310) (pc' := 314) rfl (hb hby at_310) (by decide) (by decide) k) ?_
        show own_Go p e below KK T28 (mkF m 314 #[oI p1, oI p2, oJ p3, o2, oJ p4, o2, oN i1, oI 0, oI 0, oN i2, oN i3, oI (((Int32.ofNat i1) ||| (0 : Int32)) ||| (0 : Int32)), oN (1 + i1), oN (1 + i1), oN (1 + i1), oR b11, oR r18, oR r24, .val .null, .val .null, oI 1, oI 1, oU] [(.int 1)])
        refine own_at (fun t k => XS.istore X28.here hx rfl (hb hby at_314) rfl (l' := #[oI p1, oI p2, oJ p3, o2, oJ p4, o2, oN i1, oI 0, oI 0, oN i2, oN i3, oI (((Int32.ofNat i1) ||| (0 : Int32)) ||| (0 : Int32)), oN (1 + i1), oN (1 + i1), oN (1 + i1), oR b11, oR r18, oR r24, .val .null, .val .null, oI 1, oI 1, oI 1]) rfl k) ?_
        show own_Go p e below KK T28 (mkF m 316 #[oI p1, oI p2, oJ p3, o2, oJ p4, o2, oN i1, oI 0, oI 0, oN i2, oN i3, oI (((Int32.ofNat i1) ||| (0 : Int32)) ||| (0 : Int32)), oN (1 + i1), oN (1 + i1), oN (1 + i1), oR b11, oR r18, oR r24, .val .null, .val .null, oI 1, oI 1, oI 1] [])
        refine own_at (fun t k => XS.iload X28.here hx rfl (hb hby at_316) rfl k) ?_
        show own_Go p e below KK T28 (mkF m 318 #[oI p1, oI p2, oJ p3, o2, oJ p4, o2, oN i1, oI 0, oI 0, oN i2, oN i3, oI (((Int32.ofNat i1) ||| (0 : Int32)) ||| (0 : Int32)), oN (1 + i1), oN (1 + i1), oN (1 + i1), oR b11, oR r18, oR r24, .val .null, .val .null, oI 1, oI 1, oI 1] [(.int 1)])
        have hc318 : ¬ ((1 : Int32) = (0 : Int32)) := by decide
        refine own_at (fun t k => XS.ifNo X28.here hx rfl (hb hby at_318) rfl (Jvm.Free.XT.i0_eq_f hc318) k) ?_
        show own_Go p e below KK T28 (mkF m 321 #[oI p1, oI p2, oJ p3, o2, oJ p4, o2, oN i1, oI 0, oI 0, oN i2, oN i3, oI (((Int32.ofNat i1) ||| (0 : Int32)) ||| (0 : Int32)), oN (1 + i1), oN (1 + i1), oN (1 + i1), oR b11, oR r18, oR r24, .val .null, .val .null, oI 1, oI 1, oI 1] [])
        refine own_at (fun t k => XS.iload X28.here hx rfl (hb hby at_321) rfl k) ?_
        show own_Go p e below KK T28 (mkF m 323 #[oI p1, oI p2, oJ p3, o2, oJ p4, o2, oN i1, oI 0, oI 0, oN i2, oN i3, oI (((Int32.ofNat i1) ||| (0 : Int32)) ||| (0 : Int32)), oN (1 + i1), oN (1 + i1), oN (1 + i1), oR b11, oR r18, oR r24, .val .null, .val .null, oI 1, oI 1, oI 1] [(.int 1)])
        have hc323 : ¬ ((1 : Int32) = (0 : Int32)) := by decide
        refine own_at (fun t k => XS.ifNo X28.here hx rfl (hb hby at_323) rfl (Jvm.Free.XT.i0_eq_f hc323) k) ?_
        show own_Go p e below KK T28 (mkF m 326 #[oI p1, oI p2, oJ p3, o2, oJ p4, o2, oN i1, oI 0, oI 0, oN i2, oN i3, oI (((Int32.ofNat i1) ||| (0 : Int32)) ||| (0 : Int32)), oN (1 + i1), oN (1 + i1), oN (1 + i1), oR b11, oR r18, oR r24, .val .null, .val .null, oI 1, oI 1, oI 1] [])
        refine own_at (fun t k => XS.iload X28.here hx rfl (hb hby at_326) rfl k) ?_
        show own_Go p e below KK T28 (mkF m 328 #[oI p1, oI p2, oJ p3, o2, oJ p4, o2, oN i1, oI 0, oI 0, oN i2, oN i3, oI (((Int32.ofNat i1) ||| (0 : Int32)) ||| (0 : Int32)), oN (1 + i1), oN (1 + i1), oN (1 + i1), oR b11, oR r18, oR r24, .val .null, .val .null, oI 1, oI 1, oI 1] [(.int 1)])
        have hc328 : ¬ ((1 : Int32) = (0 : Int32)) := by decide
        refine own_at (fun t k => XS.ifNo X28.here hx rfl (hb hby at_328) rfl (Jvm.Free.XT.i0_eq_f hc328) k) ?_
        show own_Go p e below KK T28 (mkF m 331 #[oI p1, oI p2, oJ p3, o2, oJ p4, o2, oN i1, oI 0, oI 0, oN i2, oN i3, oI (((Int32.ofNat i1) ||| (0 : Int32)) ||| (0 : Int32)), oN (1 + i1), oN (1 + i1), oN (1 + i1), oR b11, oR r18, oR r24, .val .null, .val .null, oI 1, oI 1, oI 1] [])
        refine own_at (fun t k => XS.iconst X28.here hx rfl (hb hby at_331) k) ?_
        show own_Go p e below KK T28 (mkF m 332 #[oI p1, oI p2, oJ p3, o2, oJ p4, o2, oN i1, oI 0, oI 0, oN i2, oN i3, oI (((Int32.ofNat i1) ||| (0 : Int32)) ||| (0 : Int32)), oN (1 + i1), oN (1 + i1), oN (1 + i1), oR b11, oR r18, oR r24, .val .null, .val .null, oI 1, oI 1, oI 1] [(.int 1)])
        refine own_at (fun t k => XS.goto X28.here hx rfl (pc0 := 332) (pc' := 336) rfl (hb hby at_332) (by decide) (by decide) k) ?_
        show own_Go p e below KK T28 (mkF m 336 #[oI p1, oI p2, oJ p3, o2, oJ p4, o2, oN i1, oI 0, oI 0, oN i2, oN i3, oI (((Int32.ofNat i1) ||| (0 : Int32)) ||| (0 : Int32)), oN (1 + i1), oN (1 + i1), oN (1 + i1), oR b11, oR r18, oR r24, .val .null, .val .null, oI 1, oI 1, oI 1] [(.int 1)])
        subst hKK
        exact own_retN X28 hx hlk (t := .boolean) Bd.returns (by simp) (hb hby at_336) (w := (1 : Int32)) (show nar .boolean (1 : Int32) = 1 from by decide) ⟨rfl, N28⟩ (Nat.le_of_ble_eq_true rfl) (Nat.le_of_ble_eq_true rfl)
    · refine own_at (fun t k => XS.ifNo X0.here hx rfl (hb hby at_25) rfl (Jvm.Free.XT.i0_eq_f hc25) k) ?_
      show own_Go p e below KK s₁ (mkF m 28 #[oI p1, oI p2, oJ p3, o2, oJ p4, o2, oN i1, oI 0, oU, oU, oU, oU, oU, oU, oU, oU, oU, oU, oU, oU, oU, oU, oU] [])
      refine own_at (fun t k => XS.iconst X0.here hx rfl (hb hby at_28) k) ?_
      show own_Go p e below KK s₁ (mkF m 29 #[oI p1, oI p2, oJ p3, o2, oJ p4, o2, oN i1, oI 0, oU, oU, oU, oU, oU, oU, oU, oU, oU, oU, oU, oU, oU, oU, oU] [(.int 1)])
      refine own_at (fun t k => XS.goto X0.here hx rfl (pc0 := 29) (pc' := 33) rfl (hb hby at_29) (by decide) (by decide) k) ?_
      show own_Go p e below KK s₁ (mkF m 33 #[oI p1, oI p2, oJ p3, o2, oJ p4, o2, oN i1, oI 0, oU, oU, oU, oU, oU, oU, oU, oU, oU, oU, oU, oU, oU, oU, oU] [(.int 1)])
      refine own_at (fun t k => XS.istore X0.here hx rfl (hb hby at_33) rfl (l' := #[oI p1, oI p2, oJ p3, o2, oJ p4, o2, oN i1, oI 0, oI 1, oU, oU, oU, oU, oU, oU, oU, oU, oU, oU, oU, oU, oU, oU]) rfl k) ?_
      show own_Go p e below KK s₁ (mkF m 35 #[oI p1, oI p2, oJ p3, o2, oJ p4, o2, oN i1, oI 0, oI 1, oU, oU, oU, oU, oU, oU, oU, oU, oU, oU, oU, oU, oU, oU] [])
      refine own_at (fun t k => XS.iloadN X0.here hx rfl (hb hby at_35) rfl k) ?_
      show own_Go p e below KK s₁ (mkF m 36 #[oI p1, oI p2, oJ p3, o2, oJ p4, o2, oN i1, oI 0, oI 1, oU, oU, oU, oU, oU, oU, oU, oU, oU, oU, oU, oU, oU, oU] [(.int p2)])
      refine own_at (fun t k => XS.iconst X0.here hx rfl (hb hby at_36) k) ?_
      show own_Go p e below KK s₁ (mkF m 37 #[oI p1, oI p2, oJ p3, o2, oJ p4, o2, oN i1, oI 0, oI 1, oU, oU, oU, oU, oU, oU, oU, oU, oU, oU, oU, oU, oU, oU] [(.int 2), (.int p2)])
      refine own_at (fun t k => XS.iushr X0.here hx rfl (hb hby at_37) rfl k) ?_
      show own_Go p e below KK s₁ (mkF m 38 #[oI p1, oI p2, oJ p3, o2, oJ p4, o2, oN i1, oI 0, oI 1, oU, oU, oU, oU, oU, oU, oU, oU, oU, oU, oU, oU, oU, oU] [(.int ((p2.toUInt32 >>> ((2 : Int32) &&& 31).toUInt32).toInt32))])
      refine own_at (fun t k => XS.iconst X0.here hx rfl (hb hby at_38) k) ?_
      show own_Go p e below KK s₁ (mkF m 39 #[oI p1, oI p2, oJ p3, o2, oJ p4, o2, oN i1, oI 0, oI 1, oU, oU, oU, oU, oU, oU, oU, oU, oU, oU, oU, oU, oU, oU] [(.int 3), (.int ((p2.toUInt32 >>> ((2 : Int32) &&& 31).toUInt32).toInt32))])
      refine own_at (fun t k => XS.iand X0.here hx rfl (hb hby at_39) rfl k) ?_
      show own_Go p e below KK s₁ (mkF m 40 #[oI p1, oI p2, oJ p3, o2, oJ p4, o2, oN i1, oI 0, oI 1, oU, oU, oU, oU, oU, oU, oU, oU, oU, oU, oU, oU, oU, oU] [(.int (((p2.toUInt32 >>> ((2 : Int32) &&& 31).toUInt32).toInt32) &&& (3 : Int32)))])
      obtain ⟨nb, hnb⟩ : ∃ z, z = (((p2.toUInt32 >>> ((2 : Int32) &&& 31).toUInt32).toInt32) &&& (3 : Int32)) := ⟨_, rfl⟩
      rw [← hnb]
      show own_Go p e below KK s₁ (mkF m 40 #[oI p1, oI p2, oJ p3, o2, oJ p4, o2, oN i1, oI 0, oI 1, oU, oU, oU, oU, oU, oU, oU, oU, oU, oU, oU, oU, oU, oU] [(.int nb)])
      obtain ⟨i2, hi2, ei2⟩ := own_n3 hnb
      subst ei2
      show own_Go p e below KK s₁ (mkF m 40 #[oI p1, oI p2, oJ p3, o2, oJ p4, o2, oN i1, oI 0, oI 1, oU, oU, oU, oU, oU, oU, oU, oU, oU, oU, oU, oU, oU, oU] [(.int (Int32.ofNat i2))])
      refine own_at (fun t k => XS.istore X0.here hx rfl (hb hby at_40) rfl (l' := #[oI p1, oI p2, oJ p3, o2, oJ p4, o2, oN i1, oI 0, oI 1, oN i2, oU, oU, oU, oU, oU, oU, oU, oU, oU, oU, oU, oU, oU]) rfl k) ?_
      show own_Go p e below KK s₁ (mkF m 42 #[oI p1, oI p2, oJ p3, o2, oJ p4, o2, oN i1, oI 0, oI 1, oN i2, oU, oU, oU, oU, oU, oU, oU, oU, oU, oU, oU, oU, oU] [])
      refine own_at (fun t k => XS.iloadN X0.here hx rfl (hb hby at_42) rfl k) ?_
      show own_Go p e below KK s₁ (mkF m 43 #[oI p1, oI p2, oJ p3, o2, oJ p4, o2, oN i1, oI 0, oI 1, oN i2, oU, oU, oU, oU, oU, oU, oU, oU, oU, oU, oU, oU, oU] [(.int p2)])
      refine own_at (fun t k => XS.iconst X0.here hx rfl (hb hby at_43) k) ?_
      show own_Go p e below KK s₁ (mkF m 44 #[oI p1, oI p2, oJ p3, o2, oJ p4, o2, oN i1, oI 0, oI 1, oN i2, oU, oU, oU, oU, oU, oU, oU, oU, oU, oU, oU, oU, oU] [(.int 4), (.int p2)])
      refine own_at (fun t k => XS.iushr X0.here hx rfl (hb hby at_44) rfl k) ?_
      show own_Go p e below KK s₁ (mkF m 45 #[oI p1, oI p2, oJ p3, o2, oJ p4, o2, oN i1, oI 0, oI 1, oN i2, oU, oU, oU, oU, oU, oU, oU, oU, oU, oU, oU, oU, oU] [(.int ((p2.toUInt32 >>> ((4 : Int32) &&& 31).toUInt32).toInt32))])
      refine own_at (fun t k => XS.iconst X0.here hx rfl (hb hby at_45) k) ?_
      show own_Go p e below KK s₁ (mkF m 46 #[oI p1, oI p2, oJ p3, o2, oJ p4, o2, oN i1, oI 0, oI 1, oN i2, oU, oU, oU, oU, oU, oU, oU, oU, oU, oU, oU, oU, oU] [(.int 3), (.int ((p2.toUInt32 >>> ((4 : Int32) &&& 31).toUInt32).toInt32))])
      refine own_at (fun t k => XS.iand X0.here hx rfl (hb hby at_46) rfl k) ?_
      show own_Go p e below KK s₁ (mkF m 47 #[oI p1, oI p2, oJ p3, o2, oJ p4, o2, oN i1, oI 0, oI 1, oN i2, oU, oU, oU, oU, oU, oU, oU, oU, oU, oU, oU, oU, oU] [(.int (((p2.toUInt32 >>> ((4 : Int32) &&& 31).toUInt32).toInt32) &&& (3 : Int32)))])
      obtain ⟨nc, hnc⟩ : ∃ z, z = (((p2.toUInt32 >>> ((4 : Int32) &&& 31).toUInt32).toInt32) &&& (3 : Int32)) := ⟨_, rfl⟩
      rw [← hnc]
      show own_Go p e below KK s₁ (mkF m 47 #[oI p1, oI p2, oJ p3, o2, oJ p4, o2, oN i1, oI 0, oI 1, oN i2, oU, oU, oU, oU, oU, oU, oU, oU, oU, oU, oU, oU, oU] [(.int nc)])
      obtain ⟨i3, hi3, ei3⟩ := own_n3 hnc
      subst ei3
      show own_Go p e below KK s₁ (mkF m 47 #[oI p1, oI p2, oJ p3, o2, oJ p4, o2, oN i1, oI 0, oI 1, oN i2, oU, oU, oU, oU, oU, oU, oU, oU, oU, oU, oU, oU, oU] [(.int (Int32.ofNat i3))])
      refine own_at (fun t k => XS.istore X0.here hx rfl (hb hby at_47) rfl (l' := #[oI p1, oI p2, oJ p3, o2, oJ p4, o2, oN i1, oI 0, oI 1, oN i2, oN i3, oU, oU, oU, oU, oU, oU, oU, oU, oU, oU, oU, oU]) rfl k) ?_
      show own_Go p e below KK s₁ (mkF m 49 #[oI p1, oI p2, oJ p3, o2, oJ p4, o2, oN i1, oI 0, oI 1, oN i2, oN i3, oU, oU, oU, oU, oU, oU, oU, oU, oU, oU, oU, oU] [])
      refine own_at (fun t k => XS.iload X0.here hx rfl (hb hby at_49) rfl k) ?_
      show own_Go p e below KK s₁ (mkF m 51 #[oI p1, oI p2, oJ p3, o2, oJ p4, o2, oN i1, oI 0, oI 1, oN i2, oN i3, oU, oU, oU, oU, oU, oU, oU, oU, oU, oU, oU, oU] [(.int (Int32.ofNat i1))])
      refine own_at (fun t k => XS.iload X0.here hx rfl (hb hby at_51) rfl k) ?_
      show own_Go p e below KK s₁ (mkF m 53 #[oI p1, oI p2, oJ p3, o2, oJ p4, o2, oN i1, oI 0, oI 1, oN i2, oN i3, oU, oU, oU, oU, oU, oU, oU, oU, oU, oU, oU, oU] [(.int 1), (.int (Int32.ofNat i1))])
      have hc53 : ¬ ((1 : Int32) = (0 : Int32)) := by decide
      refine own_at (fun t k => XS.ifNo X0.here hx rfl (hb hby at_53) rfl (Jvm.Free.XT.i0_eq_f hc53) k) ?_
      show own_Go p e below KK s₁ (mkF m 56 #[oI p1, oI p2, oJ p3, o2, oJ p4, o2, oN i1, oI 0, oI 1, oN i2, oN i3, oU, oU, oU, oU, oU, oU, oU, oU, oU, oU, oU, oU] [(.int (Int32.ofNat i1))])
      refine own_at (fun t k => XS.bipush X0.here hx rfl (hb hby at_56) k) ?_
      show own_Go p e below KK s₁ (mkF m 58 #[oI p1, oI p2, oJ p3, o2, oJ p4, o2, oN i1, oI 0, oI 1, oN i2, oN i3, oU, oU, oU, oU, oU, oU, oU, oU, oU, oU, oU, oU] [(.int 8), (.int (Int32.ofNat i1))])
      refine own_at (fun t k => XS.goto X0.here hx rfl (pc0 := 58) (pc' := 62) rfl (hb hby at_58) (by decide) (by decide) k) ?_
      show own_Go p e below KK s₁ (mkF m 62 #[oI p1, oI p2, oJ p3, o2, oJ p4, o2, oN i1, oI 0, oI 1, oN i2, oN i3, oU, oU, oU, oU, oU, oU, oU, oU, oU, oU, oU, oU] [(.int 8), (.int (Int32.ofNat i1))])
      refine own_at (fun t k => XS.ior X0.here hx rfl (hb hby at_62) rfl k) ?_
      show own_Go p e below KK s₁ (mkF m 63 #[oI p1, oI p2, oJ p3, o2, oJ p4, o2, oN i1, oI 0, oI 1, oN i2, oN i3, oU, oU, oU, oU, oU, oU, oU, oU, oU, oU, oU, oU] [(.int ((Int32.ofNat i1) ||| (8 : Int32)))])
      refine own_at (fun t k => XS.iload X0.here hx rfl (hb hby at_63) rfl k) ?_
      show own_Go p e below KK s₁ (mkF m 65 #[oI p1, oI p2, oJ p3, o2, oJ p4, o2, oN i1, oI 0, oI 1, oN i2, oN i3, oU, oU, oU, oU, oU, oU, oU, oU, oU, oU, oU, oU] [(.int 0), (.int ((Int32.ofNat i1) ||| (8 : Int32)))])
      have hc65 : (0 : Int32) = (0 : Int32) := by decide
      refine own_at (fun t k => XS.ifYes X0.here hx rfl (pc0 := 65) (pc' := 73) rfl (hb hby at_65) rfl (Jvm.Free.XT.i0_eq_t hc65) (by decide) (by decide) k) ?_
      show own_Go p e below KK s₁ (mkF m 73 #[oI p1, oI p2, oJ p3, o2, oJ p4, o2, oN i1, oI 0, oI 1, oN i2, oN i3, oU, oU, oU, oU, oU, oU, oU, oU, oU, oU, oU, oU] [(.int ((Int32.ofNat i1) ||| (8 : Int32)))])
      refine own_at (fun t k => XS.iconst X0.here hx rfl (hb hby at_73) k) ?_
      show own_Go p e below KK s₁ (mkF m 74 #[oI p1, oI p2, oJ p3, o2, oJ p4, o2, oN i1, oI 0, oI 1, oN i2, oN i3, oU, oU, oU, oU, oU, oU, oU, oU, oU, oU, oU, oU] [(.int 0), (.int ((Int32.ofNat i1) ||| (8 : Int32)))])
      refine own_at (fun t k => XS.ior X0.here hx rfl (hb hby at_74) rfl k) ?_
      show own_Go p e below KK s₁ (mkF m 75 #[oI p1, oI p2, oJ p3, o2, oJ p4, o2, oN i1, oI 0, oI 1, oN i2, oN i3, oU, oU, oU, oU, oU, oU, oU, oU, oU, oU, oU, oU] [(.int (((Int32.ofNat i1) ||| (8 : Int32)) ||| (0 : Int32)))])
      refine own_at (fun t k => XS.istore X0.here hx rfl (hb hby at_75) rfl (l' := #[oI p1, oI p2, oJ p3, o2, oJ p4, o2, oN i1, oI 0, oI 1, oN i2, oN i3, oI (((Int32.ofNat i1) ||| (8 : Int32)) ||| (0 : Int32)), oU, oU, oU, oU, oU, oU, oU, oU, oU, oU, oU]) rfl k) ?_
      show own_Go p e below KK s₁ (mkF m 77 #[oI p1, oI p2, oJ p3, o2, oJ p4, o2, oN i1, oI 0, oI 1, oN i2, oN i3, oI (((Int32.ofNat i1) ||| (8 : Int32)) ||| (0 : Int32)), oU, oU, oU, oU, oU, oU, oU, oU, oU, oU, oU] [])
      refine own_at (fun t k => XS.iload X0.here hx rfl (hb hby at_77) rfl k) ?_
      show own_Go p e below KK s₁ (mkF m 79 #[oI p1, oI p2, oJ p3, o2, oJ p4, o2, oN i1, oI 0, oI 1, oN i2, oN i3, oI (((Int32.ofNat i1) ||| (8 : Int32)) ||| (0 : Int32)), oU, oU, oU, oU, oU, oU, oU, oU, oU, oU, oU] [(.int (((Int32.ofNat i1) ||| (8 : Int32)) ||| (0 : Int32)))])
      have hc79 : ¬ ((((Int32.ofNat i1) ||| (8 : Int32)) ||| (0 : Int32)) = (0 : Int32)) := own_nz01 hi1
      refine own_at (fun t k => XS.ifYes X0.here hx rfl (pc0 := 79) (pc' := 120) rfl (hb hby at_79) rfl (Jvm.Free.XT.i0_ne_t hc79) (by decide) (by decide) k) ?_
      show own_Go p e below KK s₁ (mkF m 120 #[oI p1, oI p2, oJ p3, o2, oJ p4, o2, oN i1, oI 0, oI 1, oN i2, oN i3, oI (((Int32.ofNat i1) ||| (8 : Int32)) ||| (0 : Int32)), oU, oU, oU, oU, oU, oU, oU, oU, oU, oU, oU] [])
      refine own_at (fun t k => XS.iconst X0.here hx rfl (hb hby at_120) k) ?_
      show own_Go p e below KK s₁ (mkF m 121 #[oI p1, oI p2, oJ p3, o2, oJ p4, o2, oN i1, oI 0, oI 1, oN i2, oN i3, oI (((Int32.ofNat i1) ||| (8 : Int32)) ||| (0 : Int32)), oU, oU, oU, oU, oU, oU, oU, oU, oU, oU, oU] [(.int 1)])
      refine own_at (fun t k => XS.iload X0.here hx rfl (hb hby at_121) rfl k) ?_
      show own_Go p e below KK s₁ (mkF m 123 #[oI p1, oI p2, oJ p3, o2, oJ p4, o2, oN i1, oI 0, oI 1, oN i2, oN i3, oI (((Int32.ofNat i1) ||| (8 : Int32)) ||| (0 : Int32)), oU, oU, oU, oU, oU, oU, oU, oU, oU, oU, oU] [(.int (Int32.ofNat i1)), (.int 1)])
      refine own_at (fun t k => XS.iadd X0.here hx rfl (hb hby at_123) rfl k) ?_
      show own_Go p e below KK s₁ (mkF m 124 #[oI p1, oI p2, oJ p3, o2, oJ p4, o2, oN i1, oI 0, oI 1, oN i2, oN i3, oI (((Int32.ofNat i1) ||| (8 : Int32)) ||| (0 : Int32)), oU, oU, oU, oU, oU, oU, oU, oU, oU, oU, oU] [(.int ((1 : Int32) + (Int32.ofNat i1)))])
      rw [show ((1 : Int32) + (Int32.ofNat i1)) = (Int32.ofNat (1 + i1)) from own_add 1 i1]
      show own_Go p e below KK s₁ (mkF m 124 #[oI p1, oI p2, oJ p3, o2, oJ p4, o2, oN i1, oI 0, oI 1, oN i2, oN i3, oI (((Int32.ofNat i1) ||| (8 : Int32)) ||| (0 : Int32)), oU, oU, oU, oU, oU, oU, oU, oU, oU, oU, oU] [(.int (Int32.ofNat (1 + i1)))])
      refine own_at (fun t k => XS.istore X0.here hx rfl (hb hby at_124) rfl (l' := #[oI p1, oI p2, oJ p3, o2, oJ p4, o2, oN i1, oI 0, oI 1, oN i2, oN i3, oI (((Int32.ofNat i1) ||| (8 : Int32)) ||| (0 : Int32)), oN (1 + i1), oU, oU, oU, oU, oU, oU, oU, oU, oU, oU]) rfl k) ?_
      show own_Go p e below KK s₁ (mkF m 126 #[oI p1, oI p2, oJ p3, o2, oJ p4, o2, oN i1, oI 0, oI 1, oN i2, oN i3, oI (((Int32.ofNat i1) ||| (8 : Int32)) ||| (0 : Int32)), oN (1 + i1), oU, oU, oU, oU, oU, oU, oU, oU, oU, oU] [])
      refine own_at (fun t k => XS.iload X0.here hx rfl (hb hby at_126) rfl k) ?_
      show own_Go p e below KK s₁ (mkF m 128 #[oI p1, oI p2, oJ p3, o2, oJ p4, o2, oN i1, oI 0, oI 1, oN i2, oN i3, oI (((Int32.ofNat i1) ||| (8 : Int32)) ||| (0 : Int32)), oN (1 + i1), oU, oU, oU, oU, oU, oU, oU, oU, oU, oU] [(.int (Int32.ofNat (1 + i1)))])
      refine own_at (fun t k => XS.iload X0.here hx rfl (hb hby at_128) rfl k) ?_
      show own_Go p e below KK s₁ (mkF m 130 #[oI p1, oI p2, oJ p3, o2, oJ p4, o2, oN i1, oI 0, oI 1, oN i2, oN i3, oI (((Int32.ofNat i1) ||| (8 : Int32)) ||| (0 : Int32)), oN (1 + i1), oU, oU, oU, oU, oU, oU, oU, oU, oU, oU] [(.int 0), (.int (Int32.ofNat (1 + i1)))])
      have hc130 : (0 : Int32) = (0 : Int32) := by decide
      refine own_at (fun t k => XS.ifYes X0.here hx rfl (pc0 := 130) (pc' := 140) rfl (hb hby at_130) rfl (Jvm.Free.XT.i0_eq_t hc130) (by decide) (by decide) k) ?_
      show own_Go p e below KK s₁ (mkF m 140 #[oI p1, oI p2, oJ p3, o2, oJ p4, o2, oN i1, oI 0, oI 1, oN i2, oN i3, oI (((Int32.ofNat i1) ||| (8 : Int32)) ||| (0 : Int32)), oN (1 + i1), oU, oU, oU, oU, oU, oU, oU, oU, oU, oU] [(.int (Int32.ofNat (1 + i1)))])
      refine own_at (fun t k => XS.iconst X0.here hx rfl (hb hby at_140) k) ?_
      show own_Go p e below KK s₁ (mkF m 141 #[oI p1, oI p2, oJ p3, o2, oJ p4, o2, oN i1, oI 0, oI 1, oN i2, oN i3, oI (((Int32.ofNat i1) ||| (8 : Int32)) ||| (0 : Int32)), oN (1 + i1), oU, oU, oU, oU, oU, oU, oU, oU, oU, oU] [(.int 0), (.int (Int32.ofNat (1 + i1)))])
      refine own_at (fun t k => XS.iadd X0.here hx rfl (hb hby at_141) rfl k) ?_
      show own_Go p e below KK s₁ (mkF m 142 #[oI p1, oI p2, oJ p3, o2, oJ p4, o2, oN i1, oI 0, oI 1, oN i2, oN i3, oI (((Int32.ofNat i1) ||| (8 : Int32)) ||| (0 : Int32)), oN (1 + i1), oU, oU, oU, oU, oU, oU, oU, oU, oU, oU] [(.int ((Int32.ofNat (1 + i1)) + (0 : Int32)))])
      rw [show ((Int32.ofNat (1 + i1)) + (0 : Int32)) = (Int32.ofNat (1 + i1)) from Int32.add_zero _]
      show own_Go p e below KK s₁ (mkF m 142 #[oI p1, oI p2, oJ p3, o2, oJ p4, o2, oN i1, oI 0, oI 1, oN i2, oN i3, oI (((Int32.ofNat i1) ||| (8 : Int32)) ||| (0 : Int32)), oN (1 + i1), oU, oU, oU, oU, oU, oU, oU, oU, oU, oU] [(.int (Int32.ofNat (1 + i1)))])
      refine own_at (fun t k => XS.istore X0.here hx rfl (hb hby at_142) rfl (l' := #[oI p1, oI p2, oJ p3, o2, oJ p4, o2, oN i1, oI 0, oI 1, oN i2, oN i3, oI (((Int32.ofNat i1) ||| (8 : Int32)) ||| (0 : Int32)), oN (1 + i1), oN (1 + i1), oU, oU, oU, oU, oU, oU, oU, oU, oU]) rfl k) ?_
      show own_Go p e below KK s₁ (mkF m 144 #[oI p1, oI p2, oJ p3, o2, oJ p4, o2, oN i1, oI 0, oI 1, oN i2, oN i3, oI (((Int32.ofNat i1) ||| (8 : Int32)) ||| (0 : Int32)), oN (1 + i1), oN (1 + i1), oU, oU, oU, oU, oU, oU, oU, oU, oU] [])
      refine own_at (fun t k => XS.iload X0.here hx rfl (hb hby at_144) rfl k) ?_
      show own_Go p e below KK s₁ (mkF m 146 #[oI p1, oI p2, oJ p3, o2, oJ p4, o2, oN i1, oI 0, oI 1, oN i2, oN i3, oI (((Int32.ofNat i1) ||| (8 : Int32)) ||| (0 : Int32)), oN (1 + i1), oN (1 + i1), oU, oU, oU, oU, oU, oU, oU, oU, oU] [(.int (Int32.ofNat (1 + i1)))])
      refine own_at (fun t k => XS.iload X0.here hx rfl (hb hby at_146) rfl k) ?_
      show own_Go p e below KK s₁ (mkF m 148 #[oI p1, oI p2, oJ p3, o2, oJ p4, o2, oN i1, oI 0, oI 1, oN i2, oN i3, oI (((Int32.ofNat i1) ||| (8 : Int32)) ||| (0 : Int32)), oN (1 + i1), oN (1 + i1), oU, oU, oU, oU, oU, oU, oU, oU, oU] [(.int 1), (.int (Int32.ofNat (1 + i1)))])
      have hc148 : ¬ ((1 : Int32) = (0 : Int32)) := by decide
      refine own_at (fun t k => XS.ifNo X0.here hx rfl (hb hby at_148) rfl (Jvm.Free.XT.i0_eq_f hc148) k) ?_
      show own_Go p e below KK s₁ (mkF m 151 #[oI p1, oI p2, oJ p3, o2, oJ p4, o2, oN i1, oI 0, oI 1, oN i2, oN i3, oI (((Int32.ofNat i1) ||| (8 : Int32)) ||| (0 : Int32)), oN (1 + i1), oN (1 + i1), oU, oU, oU, oU, oU, oU, oU, oU, oU] [(.int (Int32.ofNat (1 + i1)))])
      refine own_at (fun t k => XS.iload X0.here hx rfl (hb hby at_151) rfl k) ?_
      show own_Go p e below KK s₁ (mkF m 153 #[oI p1, oI p2, oJ p3, o2, oJ p4, o2, oN i1, oI 0, oI 1, oN i2, oN i3, oI (((Int32.ofNat i1) ||| (8 : Int32)) ||| (0 : Int32)), oN (1 + i1), oN (1 + i1), oU, oU, oU, oU, oU, oU, oU, oU, oU] [(.int (Int32.ofNat i3)), (.int (Int32.ofNat (1 + i1)))])
      refine own_at (fun t k => XS.goto X0.here hx rfl (pc0 := 153) (pc' := 157) rfl (hb hby at_153) (by decide) (by decide) k) ?_
      show own_Go p e below KK s₁ (mkF m 157 #[oI p1, oI p2, oJ p3, o2, oJ p4, o2, oN i1, oI 0, oI 1, oN i2, oN i3, oI (((Int32.ofNat i1) ||| (8 : Int32)) ||| (0 : Int32)), oN (1 + i1), oN (1 + i1), oU, oU, oU, oU, oU, oU, oU, oU, oU] [(.int (Int32.ofNat i3)), (.int (Int32.ofNat (1 + i1)))])
      refine own_at (fun t k => XS.iadd X0.here hx rfl (hb hby at_157) rfl k) ?_
      show own_Go p e below KK s₁ (mkF m 158 #[oI p1, oI p2, oJ p3, o2, oJ p4, o2, oN i1, oI 0, oI 1, oN i2, oN i3, oI (((Int32.ofNat i1) ||| (8 : Int32)) ||| (0 : Int32)), oN (1 + i1), oN (1 + i1), oU, oU, oU, oU, oU, oU, oU, oU, oU] [(.int ((Int32.ofNat (1 + i1)) + (Int32.ofNat i3)))])
      rw [show ((Int32.ofNat (1 + i1)) + (Int32.ofNat i3)) = (Int32.ofNat ((1 + i1) + i3)) from own_add (1 + i1) i3]
      show own_Go p e below KK s₁ (mkF m 158 #[oI p1, oI p2, oJ p3, o2, oJ p4, o2, oN i1, oI 0, oI 1, oN i2, oN i3, oI (((Int32.ofNat i1) ||| (8 : Int32)) ||| (0 : Int32)), oN (1 + i1), oN (1 + i1), oU, oU, oU, oU, oU, oU, oU, oU, oU] [(.int (Int32.ofNat ((1 + i1) + i3)))])
      refine own_at (fun t k => XS.istore X0.here hx rfl (hb hby at_158) rfl (l' := #[oI p1, oI p2, oJ p3, o2, oJ p4, o2, oN i1, oI 0, oI 1, oN i2, oN i3, oI (((Int32.ofNat i1) ||| (8 : Int32)) ||| (0 : Int32)), oN (1 + i1), oN (1 + i1), oN ((1 + i1) + i3), oU, oU, oU, oU, oU, oU, oU, oU]) rfl k) ?_
      show own_Go p e below KK s₁ (mkF m 160 #[oI p1, oI p2, oJ p3, o2, oJ p4, o2, oN i1, oI 0, oI 1, oN i2, oN i3, oI (((Int32.ofNat i1) ||| (8 : Int32)) ||| (0 : Int32)), oN (1 + i1), oN (1 + i1), oN ((1 + i1) + i3), oU, oU, oU, oU, oU, oU, oU, oU] [])
      refine own_at (fun t k => XS.iload X0.here hx rfl (hb hby at_160) rfl k) ?_
      show own_Go p e below KK s₁ (mkF m 162 #[oI p1, oI p2, oJ p3, o2, oJ p4, o2, oN i1, oI 0, oI 1, oN i2, oN i3, oI (((Int32.ofNat i1) ||| (8 : Int32)) ||| (0 : Int32)), oN (1 + i1), oN (1 + i1), oN ((1 + i1) + i3), oU, oU, oU, oU, oU, oU, oU, oU] [(.int (Int32.ofNat ((1 + i1) + i3)))])
      obtain ⟨T29, h29, X29, e29, E29, V29, st29⟩ := own_newA X0 hx hZ (hw _ (List.mem_of_getElem? (i := 1) rfl)) e0 (g := (mkF m 162 #[oI p1, oI p2, oJ p3, o2, oJ p4, o2, oN i1, oI 0, oI 1, oN i2, oN i3, oI (((Int32.ofNat i1) ||| (8 : Int32)) ||| (0 : Int32)), oN (1 + i1), oN (1 + i1), oN ((1 + i1) + i3), oU, oU, oU, oU, oU, oU, oU, oU] [(.int (Int32.ofNat ((1 + i1) + i3)))])) rfl (hb hby at_162) rfl (own_ofNat (by omega)).2.1 (N := ((1 + i1) + i3)) (own_ofNat (by omega)).1 (cap := 13) (by omega) (by decide) (by decide) (by decide) (d := "[B") (by first | rfl | decide +kernel) (vs := ((List.replicate ((1 + i1) + i3) (0 : Int32)).map Value.int)) (by rw [List.map_replicate]; rfl)
      obtain ⟨b29, g29⟩ : ∃ z, z = h0.size := ⟨_, rfl⟩
      rw [← g29] at V29 st29
      have g_b29 : n0 ≤ b29 := by rw [g29]; exact Z0
      have Zs29 : n0 ≤ h29.size := Nat.le_trans Z0 E29.1
      have A30_b29 : own_A Z h29 b29 "[B" .byte ((List.replicate ((1 + i1) + i3) (0 : Int32)).map Value.int) := V29
      refine own_of (fun t k => st29 t k) ?_
      show own_Go p e below KK T29 (mkF m 164 #[oI p1, oI p2, oJ p3, o2, oJ p4, o2, oN i1, oI 0, oI 1, oN i2, oN i3, oI (((Int32.ofNat i1) ||| (8 : Int32)) ||| (0 : Int32)), oN (1 + i1), oN (1 + i1), oN ((1 + i1) + i3), oU, oU, oU, oU, oU, oU, oU, oU] [(.ref b29)])
      refine own_at (fun t k => XS.astore X29.here hx rfl (hb hby at_164) rfl rfl (l' := #[oI p1, oI p2, oJ p3, o2, oJ p4, o2, oN i1, oI 0, oI 1, oN i2, oN i3, oI (((Int32.ofNat i1) ||| (8 : Int32)) ||| (0 : Int32)), oN (1 + i1), oN (1 + i1), oN ((1 + i1) + i3), oR b29, oU, oU, oU, oU, oU, oU, oU]) rfl k) ?_
      show own_Go p e below KK T29 (mkF m 166 #[oI p1, oI p2, oJ p3, o2, oJ p4, o2, oN i1, oI 0, oI 1, oN i2, oN i3, oI (((Int32.ofNat i1) ||| (8 : Int32)) ||| (0 : Int32)), oN (1 + i1), oN (1 + i1), oN ((1 + i1) + i3), oR b29, oU, oU, oU, oU, oU, oU, oU] [])
      refine own_at (fun t k => XS.aload X29.here hx rfl (hb hby at_166) rfl rfl k) ?_
      show own_Go p e below KK T29 (mkF m 168 #[oI p1, oI p2, oJ p3, o2, oJ p4, o2, oN i1, oI 0, oI 1, oN i2, oN i3, oI (((Int32.ofNat i1) ||| (8 : Int32)) ||| (0 : Int32)), oN (1 + i1), oN (1 + i1), oN ((1 + i1) + i3), oR b29, oU, oU, oU, oU, oU, oU, oU] [(.ref b29)])
      refine own_at (fun t k => XS.lloadN X29.here hx rfl (hb hby at_168) rfl k) ?_
      show own_Go p e below KK T29 (mkF m 169 #[oI p1, oI p2, oJ p3, o2, oJ p4, o2, oN i1, oI 0, oI 1, oN i2, oN i3, oI (((Int32.ofNat i1) ||| (8 : Int32)) ||| (0 : Int32)), oN (1 + i1), oN (1 + i1), oN ((1 + i1) + i3), oR b29, oU, oU, oU, oU, oU, oU, oU] [(.long p3), (.ref b29)])
      refine own_at (fun t k => XS.lload X29.here hx rfl (hb hby at_169) rfl k) ?_
      show own_Go p e below KK T29 (mkF m 171 #[oI p1, oI p2, oJ p3, o2, oJ p4, o2, oN i1, oI 0, oI 1, oN i2, oN i3, oI (((Int32.ofNat i1) ||| (8 : Int32)) ||| (0 : Int32)), oN (1 + i1), oN (1 + i1), oN ((1 + i1) + i3), oR b29, oU, oU, oU, oU, oU, oU, oU] [(.long p4), (.long p3), (.ref b29)])
      obtain ⟨_, _, ⟨T31, L31, k31, n31⟩, -, X31, ⟨Lc31, hQ31, l31, y31, z31⟩, st31⟩ := Jvm.LawKit.callS X29 hx (y := (⟨"com/example/isimud/isimud/oscore/OscoreOptionReadPinLaw", "fill", "([BJJ)V"⟩ : MethodName)) hown (mvT hZ (hw _ (List.mem_of_getElem? (i := 2) rfl))) (mvT hZ (hw _ (List.mem_of_getElem? (i := 3) rfl))) (mvT hZ (hw _ (List.mem_of_getElem? (i := 4) rfl))) (mvT hZ (hw _ (List.mem_of_getElem? (i := 5) rfl))) (by decide) (backOf (W := 0) (rm_fill l Z a0 hw [] b29 p3 p4 (List.replicate ((1 + i1) + i3) (0 : Int32)) h29 n0 Zs29 A30_b29 (by rw [List.length_replicate]; omega) g_b29) hZ (hw _ (List.mem_of_getElem? (i := 5) rfl)) (hw _ (List.mem_of_getElem? (i := 4) rfl)) (by decide) (by decide)) (g := (mkF m 171 #[oI p1, oI p2, oJ p3, o2, oJ p4, o2, oN i1, oI 0, oI 1, oN i2, oN i3, oI (((Int32.ofNat i1) ||| (8 : Int32)) ||| (0 : Int32)), oN (1 + i1), oN (1 + i1), oN ((1 + i1) + i3), oR b29, oU, oU, oU, oU, oU, oU, oU] [(.long p4), (.long p3), (.ref b29)])) rfl (by rw [hml]; rfl) (argsL := [(.ref b29), (.long p3), (.long p4)]) (rest := []) (lenOf pd___BJJ_V rfl) rfl (by show 2 * 0 + _ ≤ _; exact Nat.le_of_eq rfl) (hb hby at_171) (fun _ _ => ⟨rfl, e29, (by decide : 1 + 0 ≤ _), (by decide : 13 + 0 ≤ _)⟩)
      dsimp only [Pt.U, Pt.locs, Pt.cells, Pt.slots] at X31 l31 y31 z31 st31 hQ31
      subst l31 y31 z31
      obtain ⟨rfl, N31q, K31, u31, hu31, Aq31⟩ := hQ31
      rw [List.length_replicate] at hu31
      have Zs31 : n0 ≤ T31.heap.size := Nat.le_trans Zs29 K31.1
      have A32_b29 : own_A Z T31.heap b29 "[B" .byte (u31.map Value.int) := Aq31
      have N31 := Fr.app N0 N31q
      refine own_of (fun t k => st31 t k) ?_
      show own_Go p e below KK T31 (mkF m 174 #[oI p1, oI p2, oJ p3, o2, oJ p4, o2, oN i1, oI 0, oI 1, oN i2, oN i3, oI (((Int32.ofNat i1) ||| (8 : Int32)) ||| (0 : Int32)), oN (1 + i1), oN (1 + i1), oN ((1 + i1) + i3), oR b29, oU, oU, oU, oU, oU, oU, oU] [])
      refine own_at (fun t k => XS.aload X31.here hx rfl (hb hby at_174) rfl rfl k) ?_
      show own_Go p e below KK T31 (mkF m 176 #[oI p1, oI p2, oJ p3, o2, oJ p4, o2, oN i1, oI 0, oI 1, oN i2, oN i3, oI (((Int32.ofNat i1) ||| (8 : Int32)) ||| (0 : Int32)), oN (1 + i1), oN (1 + i1), oN ((1 + i1) + i3), oR b29, oU, oU, oU, oU, oU, oU, oU] [(.ref b29)])
      refine own_at (fun t k => XS.iconst X31.here hx rfl (hb hby at_176) k) ?_
      show own_Go p e below KK T31 (mkF m 177 #[oI p1, oI p2, oJ p3, o2, oJ p4, o2, oN i1, oI 0, oI 1, oN i2, oN i3, oI (((Int32.ofNat i1) ||| (8 : Int32)) ||| (0 : Int32)), oN (1 + i1), oN (1 + i1), oN ((1 + i1) + i3), oR b29, oU, oU, oU, oU, oU, oU, oU] [(.int 0), (.ref b29)])
      refine own_at (fun t k => XS.iload X31.here hx rfl (hb hby at_177) rfl k) ?_
      show own_Go p e below KK T31 (mkF m 179 #[oI p1, oI p2, oJ p3, o2, oJ p4, o2, oN i1, oI 0, oI 1, oN i2, oN i3, oI (((Int32.ofNat i1) ||| (8 : Int32)) ||| (0 : Int32)), oN (1 + i1), oN (1 + i1), oN ((1 + i1) + i3), oR b29, oU, oU, oU, oU, oU, oU, oU] [(.int (((Int32.ofNat i1) ||| (8 : Int32)) ||| (0 : Int32))), (.int 0), (.ref b29)])
      refine own_at (fun t k => XS.i2b X31.here hx rfl (hb hby at_179) rfl k) ?_
      show own_Go p e below KK T31 (mkF m 180 #[oI p1, oI p2, oJ p3, o2, oJ p4, o2, oN i1, oI 0, oI 1, oN i2, oN i3, oI (((Int32.ofNat i1) ||| (8 : Int32)) ||| (0 : Int32)), oN (1 + i1), oN (1 + i1), oN ((1 + i1) + i3), oR b29, oU, oU, oU, oU, oU, oU, oU] [(.int ((((Int32.ofNat i1) ||| (8 : Int32)) ||| (0 : Int32)).toInt8.toInt32)), (.int 0), (.ref b29)])
      obtain ⟨T33, h33, X33, e33, W33, V33, st33⟩ := own_stB X31 hx hZ rfl A32_b29 (j := (0 : Int32)) (y := ((((Int32.ofNat i1) ||| (8 : Int32)) ||| (0 : Int32)).toInt8.toInt32)) (own_narB _) (i := 0) (by decide) (by decide) (by rw [List.length_map, hu31]; omega) (g := (mkF m 180 #[oI p1, oI p2, oJ p3, o2, oJ p4, o2, oN i1, oI 0, oI 1, oN i2, oN i3, oI (((Int32.ofNat i1) ||| (8 : Int32)) ||| (0 : Int32)), oN (1 + i1), oN (1 + i1), oN ((1 + i1) + i3), oR b29, oU, oU, oU, oU, oU, oU, oU] [(.int ((((Int32.ofNat i1) ||| (8 : Int32)) ||| (0 : Int32)).toInt8.toInt32)), (.int 0), (.ref b29)])) rfl rfl (hb hby at_180)
      have N33 := Fr.snoc X33 N31 g_b29
      have Zs33 : n0 ≤ h33.size := (by rw [W33.size]; exact Zs31)
      have A34_b29 : own_A Z h33 b29 "[B" .byte ((u31.set 0 ((((Int32.ofNat i1) ||| (8 : Int32)) ||| (0 : Int32)).toInt8.toInt32)).map Value.int) := by rw [← own_mset]; exact V33
      refine own_of (fun t k => st33 t k) ?_
      show own_Go p e below KK T33 (mkF m 181 #[oI p1, oI p2, oJ p3, o2, oJ p4, o2, oN i1, oI 0, oI 1, oN i2, oN i3, oI (((Int32.ofNat i1) ||| (8 : Int32)) ||| (0 : Int32)), oN (1 + i1), oN (1 + i1), oN ((1 + i1) + i3), oR b29, oU, oU, oU, oU, oU, oU, oU] [])
      refine own_at (fun t k => XS.iload X33.here hx rfl (hb hby at_181) rfl k) ?_
      show own_Go p e below KK T33 (mkF m 183 #[oI p1, oI p2, oJ p3, o2, oJ p4, o2, oN i1, oI 0, oI 1, oN i2, oN i3, oI (((Int32.ofNat i1) ||| (8 : Int32)) ||| (0 : Int32)), oN (1 + i1), oN (1 + i1), oN ((1 + i1) + i3), oR b29, oU, oU, oU, oU, oU, oU, oU] [(.int 0)])
      have hc183 : (0 : Int32) = (0 : Int32) := by decide
      refine own_at (fun t k => XS.ifYes X33.here hx rfl (pc0 := 183) (pc' := 194) rfl (hb hby at_183) rfl (Jvm.Free.XT.i0_eq_t hc183) (by decide) (by decide) k) ?_
      show own_Go p e below KK T33 (mkF m 194 #[oI p1, oI p2, oJ p3, o2, oJ p4, o2, oN i1, oI 0, oI 1, oN i2, oN i3, oI (((Int32.ofNat i1) ||| (8 : Int32)) ||| (0 : Int32)), oN (1 + i1), oN (1 + i1), oN ((1 + i1) + i3), oR b29, oU, oU, oU, oU, oU, oU, oU] [])
      obtain ⟨us, hus⟩ : ∃ z, z = (u31.set 0 ((((Int32.ofNat i1) ||| (8 : Int32)) ||| (0 : Int32)).toInt8.toInt32)) := ⟨_, rfl⟩
      have hul : us.length = ((1 + i1) + i3) := by rw [hus]; simp only [List.length_set]; exact hu31
      have hu0 : us[0]? = some ((((Int32.ofNat i1) ||| (8 : Int32)) ||| (0 : Int32)).toInt8.toInt32) := by rw [hus]; exact own_s0 (by rw [hu31]; omega)
      have A35_b29 : own_A Z h33 b29 "[B" .byte (us.map Value.int) := by rw [hus]; exact A34_b29
      refine own_at (fun t k => XS.aload X33.here hx rfl (hb hby at_194) rfl rfl k) ?_
      show own_Go p e below KK T33 (mkF m 196 #[oI p1, oI p2, oJ p3, o2, oJ p4, o2, oN i1, oI 0, oI 1, oN i2, oN i3, oI (((Int32.ofNat i1) ||| (8 : Int32)) ||| (0 : Int32)), oN (1 + i1), oN (1 + i1), oN ((1 + i1) + i3), oR b29, oU, oU, oU, oU, oU, oU, oU] [(.ref b29)])
      obtain ⟨_, _, ⟨T36, L36, k36, n36⟩, -, X36, ⟨Lc36, hQ36, l36, y36, z36⟩, st36⟩ := Jvm.LawKit.callS X33 hx (y := (⟨"com/example/isimud/isimud/oscore/OscoreOption", "read", "([B)Lcom/example/isimud/isimud/oscore/OscoreOption;"⟩ : MethodName)) hown (mvT hZ (hw _ (List.mem_of_getElem? (i := 6) rfl))) (mvT hZ (hw _ (List.mem_of_getElem? (i := 7) rfl))) (mvT hZ (hw _ (List.mem_of_getElem? (i := 8) rfl))) (mvT hZ (hw _ (List.mem_of_getElem? (i := 9) rfl))) (by decide) (backOf (W := 0) (rm_read01 l Z a0 hw [] b29 us i1 ((((Int32.ofNat i1) ||| (8 : Int32)) ||| (0 : Int32)).toInt8.toInt32) h33 n0 Zs33 A35_b29 hu0 (own_fl01 hi1) hi1 (by omega) (by omega)) hZ (hw _ (List.mem_of_getElem? (i := 9) rfl)) (hw _ (List.mem_of_getElem? (i := 8) rfl)) (by decide) (by decide)) (g := (mkF m 196 #[oI p1, oI p2, oJ p3, o2, oJ p4, o2, oN i1, oI 0, oI 1, oN i2, oN i3, oI (((Int32.ofNat i1) ||| (8 : Int32)) ||| (0 : Int32)), oN (1 + i1), oN (1 + i1), oN ((1 + i1) + i3), oR b29, oU, oU, oU, oU, oU, oU, oU] [(.ref b29)])) rfl (by rw [hml]; rfl) (argsL := [(.ref b29)]) (rest := []) (lenOf pd___B_Lcom_example_isimud_isimud_oscore_OscoreOption_ rfl) rfl (by show 2 * 0 + _ ≤ _; exact Nat.le_of_eq rfl) (hb hby at_196) (fun _ _ => ⟨rfl, e33, (by decide : 1 + 4 ≤ _), (by decide : 13 + 42 ≤ _)⟩)
      dsimp only [Pt.U, Pt.locs, Pt.cells, Pt.slots] at X36 l36 y36 z36 st36 hQ36
      subst l36 y36 z36
      obtain ⟨r36, x36a, x36b, x36c, rfl, N36q, K36, g_r36, s_r36, Ex36, Fx36, Fy36, Fz36, Oa36, Ob36, Oc36⟩ := hQ36
      have ne_b29_r36 : b29 ≠ r36 := Nat.ne_of_lt (Nat.lt_of_lt_of_le A35_b29.lt s_r36)
      have A35_b29_h36 : own_A Z T36.heap b29 "[B" .byte (us.map Value.int) := A35_b29.keep K36 nin0
      have Zs36 : n0 ≤ T36.heap.size := Nat.le_trans Zs33 K36.1
      have E37_r36 : Exa Z T36.heap r36 "com/example/isimud/isimud/oscore/OscoreOption" := Ex36
      have F38_r36 : Fld Z T36.heap r36 "com/example/isimud/isimud/oscore/OscoreOption" "partialIv" "[B" x36a := Fx36
      have F39_r36 : Fld Z T36.heap r36 "com/example/isimud/isimud/oscore/OscoreOption" "kidContext" "[B" x36b := Fy36
      have F40_r36 : Fld Z T36.heap r36 "com/example/isimud/isimud/oscore/OscoreOption" "kid" "[B" x36c := Fz36
      have N36 := Fr.app N33 N36q
      refine own_of (fun t k => st36 t k) ?_
      show own_Go p e below KK T36 (mkF m 199 #[oI p1, oI p2, oJ p3, o2, oJ p4, o2, oN i1, oI 0, oI 1, oN i2, oN i3, oI (((Int32.ofNat i1) ||| (8 : Int32)) ||| (0 : Int32)), oN (1 + i1), oN (1 + i1), oN ((1 + i1) + i3), oR b29, oU, oU, oU, oU, oU, oU, oU] [(.ref r36)])
      have Ob36' : x36b = Value.null := Ob36
      subst Ob36'
      obtain ⟨y36c, rfl, AOc36⟩ := Oc36
      have A41_y36c : own_A Z T36.heap y36c "[B" .byte (((us.map Value.int).drop (1 + i1)).take (us.length - (1 + i1))) := AOc36
      by_cases hn0 : i1 = 0
      · rw [if_pos hn0] at Oa36
        have Oa36' : x36a = Value.null := Oa36
        subst Oa36'
        refine own_at (fun t k => XS.astore X36.here hx rfl (hb hby at_199) rfl rfl (l' := #[oI p1, oI p2, oJ p3, o2, oJ p4, o2, oN i1, oI 0, oI 1, oN i2, oN i3, oI (((Int32.ofNat i1) ||| (8 : Int32)) ||| (0 : Int32)), oN (1 + i1), oN (1 + i1), oN ((1 + i1) + i3), oR b29, oR r36, oU, oU, oU, oU, oU, oU]) rfl k) ?_
        show own_Go p e below KK T36 (mkF m 201 #[oI p1, oI p2, oJ p3, o2, oJ p4, o2, oN i1, oI 0, oI 1, oN i2, oN i3, oI (((Int32.ofNat i1) ||| (8 : Int32)) ||| (0 : Int32)), oN (1 + i1), oN (1 + i1), oN ((1 + i1) + i3), oR b29, oR r36, oU, oU, oU, oU, oU, oU] [])
        refine own_at (fun t k => XS.aload X36.here hx rfl (hb hby at_201) rfl rfl k) ?_
        show own_Go p e below KK T36 (mkF m 203 #[oI p1, oI p2, oJ p3, o2, oJ p4, o2, oN i1, oI 0, oI 1, oN i2, oN i3, oI (((Int32.ofNat i1) ||| (8 : Int32)) ||| (0 : Int32)), oN (1 + i1), oN (1 + i1), oN ((1 + i1) + i3), oR b29, oR r36, oU, oU, oU, oU, oU, oU] [(.ref r36)])
        obtain ⟨cq42, kq42, q42a, q42b, q42c⟩ := isOf hZ rfl E37_r36
        obtain ⟨_, _, ⟨T42, L42, k42, n42⟩, -, X42, ⟨Lc42, hQ42, l42, y42, z42⟩, st42⟩ := X36.virtualBack hx (y := (⟨"com/example/isimud/isimud/oscore/OscoreOption", "partialIv", "()[B"⟩ : MethodName)) (z := (⟨"com/example/isimud/isimud/oscore/OscoreOption", "partialIv", "()[B"⟩ : MethodName)) hown (mvT hZ (hw _ (List.mem_of_getElem? (i := 45) rfl))) (mvT hZ (hw _ (List.mem_of_getElem? (i := 46) rfl))) (notFace_of_selects (args := #[]) (mvT hZ (hw _ (List.mem_of_getElem? (i := 48) rfl)))) (mvT hZ (hw _ (List.mem_of_getElem? (i := 48) rfl))) (mvT hZ (hw _ (List.mem_of_getElem? (i := 47) rfl))) (by decide) (backOf (W := 0) (rm_partialIv0 l Z a0 hw [] r36   T36.heap n0 Zs36 F38_r36) hZ (hw _ (List.mem_of_getElem? (i := 49) rfl)) (hw _ (List.mem_of_getElem? (i := 8) rfl)) (by decide) (by decide)) q42a q42c (g := (mkF m 203 #[oI p1, oI p2, oJ p3, o2, oJ p4, o2, oN i1, oI 0, oI 1, oN i2, oN i3, oI (((Int32.ofNat i1) ||| (8 : Int32)) ||| (0 : Int32)), oN (1 + i1), oN (1 + i1), oN ((1 + i1) + i3), oR b29, oR r36, oU, oU, oU, oU, oU, oU] [(.ref r36)])) rfl (by rw [hml]; rfl) (Steps.refl _) (argsL := []) (rest := []) (lenOf pd____B rfl) rfl (by show 2 * 0 + _ ≤ _; exact Nat.le_of_eq rfl) (hb hby at_203) (fun _ _ => ⟨rfl, rfl, (by decide : 5 + 0 ≤ _), (by decide : 55 + 0 ≤ _)⟩)
        dsimp only [Pt.U, Pt.locs, Pt.cells, Pt.slots] at X42 l42 y42 z42 st42 hQ42
        subst l42 y42 z42
        obtain ⟨rfl, N42q, e42⟩ := hQ42
        have N42 := Fr.app N36 N42q
        refine own_of (fun t k => st42.trans k) ?_
        show own_Go p e below KK T42 (mkF m 206 #[oI p1, oI p2, oJ p3, o2, oJ p4, o2, oN i1, oI 0, oI 1, oN i2, oN i3, oI (((Int32.ofNat i1) ||| (8 : Int32)) ||| (0 : Int32)), oN (1 + i1), oN (1 + i1), oN ((1 + i1) + i3), oR b29, oR r36, oU, oU, oU, oU, oU, oU] [.null])
        refine own_at (fun t k => XS.astore X42.here hx rfl (hb hby at_206) rfl rfl (l' := #[oI p1, oI p2, oJ p3, o2, oJ p4, o2, oN i1, oI 0, oI 1, oN i2, oN i3, oI (((Int32.ofNat i1) ||| (8 : Int32)) ||| (0 : Int32)), oN (1 + i1), oN (1 + i1), oN ((1 + i1) + i3), oR b29, oR r36, .val .null, oU, oU, oU, oU, oU]) rfl k) ?_
        show own_Go p e below KK T42 (mkF m 208 #[oI p1, oI p2, oJ p3, o2, oJ p4, o2, oN i1, oI 0, oI 1, oN i2, oN i3, oI (((Int32.ofNat i1) ||| (8 : Int32)) ||| (0 : Int32)), oN (1 + i1), oN (1 + i1), oN ((1 + i1) + i3), oR b29, oR r36, .val .null, oU, oU, oU, oU, oU] [])
        refine own_at (fun t k => XS.aload X42.here hx rfl (hb hby at_208) rfl rfl k) ?_
        show own_Go p e below KK T42 (mkF m 210 #[oI p1, oI p2, oJ p3, o2, oJ p4, o2, oN i1, oI 0, oI 1, oN i2, oN i3, oI (((Int32.ofNat i1) ||| (8 : Int32)) ||| (0 : Int32)), oN (1 + i1), oN (1 + i1), oN ((1 + i1) + i3), oR b29, oR r36, .val .null, oU, oU, oU, oU, oU] [(.ref r36)])
        obtain ⟨cq43, kq43, q43a, q43b, q43c⟩ := isOf hZ e42 E37_r36
        obtain ⟨_, _, ⟨T43, L43, k43, n43⟩, -, X43, ⟨Lc43, hQ43, l43, y43, z43⟩, st43⟩ := X42.virtualBack hx (y := (⟨"com/example/isimud/isimud/oscore/OscoreOption", "kidContext", "()[B"⟩ : MethodName)) (z := (⟨"com/example/isimud/isimud/oscore/OscoreOption", "kidContext", "()[B"⟩ : MethodName)) hown (mvT hZ (hw _ (List.mem_of_getElem? (i := 50) rfl))) (mvT hZ (hw _ (List.mem_of_getElem? (i := 51) rfl))) (notFace_of_selects (args := #[]) (mvT hZ (hw _ (List.mem_of_getElem? (i := 53) rfl)))) (mvT hZ (hw _ (List.mem_of_getElem? (i := 53) rfl))) (mvT hZ (hw _ (List.mem_of_getElem? (i := 52) rfl))) (by decide) (backOf (W := 0) (rm_kidContext0 l Z a0 hw [] r36   T36.heap n0 Zs36 F39_r36) hZ (hw _ (List.mem_of_getElem? (i := 54) rfl)) (hw _ (List.mem_of_getElem? (i := 8) rfl)) (by decide) (by decide)) q43a q43c (g := (mkF m 210 #[oI p1, oI p2, oJ p3, o2, oJ p4, o2, oN i1, oI 0, oI 1, oN i2, oN i3, oI (((Int32.ofNat i1) ||| (8 : Int32)) ||| (0 : Int32)), oN (1 + i1), oN (1 + i1), oN ((1 + i1) + i3), oR b29, oR r36, .val .null, oU, oU, oU, oU, oU] [(.ref r36)])) rfl (by rw [hml]; rfl) (Steps.refl _) (argsL := []) (rest := []) (lenOf pd____B rfl) rfl (by show 2 * 0 + _ ≤ _; exact Nat.le_of_eq rfl) (hb hby at_210) (fun _ _ => ⟨rfl, e42, (by decide : 5 + 0 ≤ _), (by decide : 55 + 0 ≤ _)⟩)
        dsimp only [Pt.U, Pt.locs, Pt.cells, Pt.slots] at X43 l43 y43 z43 st43 hQ43
        subst l43 y43 z43
        obtain ⟨rfl, N43q, e43⟩ := hQ43
        have N43 := Fr.app N42 N43q
        refine own_of (fun t k => st43.trans k) ?_
        show own_Go p e below KK T43 (mkF m 213 #[oI p1, oI p2, oJ p3, o2, oJ p4, o2, oN i1, oI 0, oI 1, oN i2, oN i3, oI (((Int32.ofNat i1) ||| (8 : Int32)) ||| (0 : Int32)), oN (1 + i1), oN (1 + i1), oN ((1 + i1) + i3), oR b29, oR r36, .val .null, oU, oU, oU, oU, oU] [.null])
        refine own_at (fun t k => XS.astore X43.here hx rfl (hb hby at_213) rfl rfl (l' := #[oI p1, oI p2, oJ p3, o2, oJ p4, o2, oN i1, oI 0, oI 1, oN i2, oN i3, oI (((Int32.ofNat i1) ||| (8 : Int32)) ||| (0 : Int32)), oN (1 + i1), oN (1 + i1), oN ((1 + i1) + i3), oR b29, oR r36, .val .null, .val .null, oU, oU, oU, oU]) rfl k) ?_
        show own_Go p e below KK T43 (mkF m 215 #[oI p1, oI p2, oJ p3, o2, oJ p4, o2, oN i1, oI 0, oI 1, oN i2, oN i3, oI (((Int32.ofNat i1) ||| (8 : Int32)) ||| (0 : Int32)), oN (1 + i1), oN (1 + i1), oN ((1 + i1) + i3), oR b29, oR r36, .val .null, .val .null, oU, oU, oU, oU] [])
        refine own_at (fun t k => XS.aload X43.here hx rfl (hb hby at_215) rfl rfl k) ?_
        show own_Go p e below KK T43 (mkF m 217 #[oI p1, oI p2, oJ p3, o2, oJ p4, o2, oN i1, oI 0, oI 1, oN i2, oN i3, oI (((Int32.ofNat i1) ||| (8 : Int32)) ||| (0 : Int32)), oN (1 + i1), oN (1 + i1), oN ((1 + i1) + i3), oR b29, oR r36, .val .null, .val .null, oU, oU, oU, oU] [(.ref r36)])
        obtain ⟨cq44, kq44, q44a, q44b, q44c⟩ := isOf hZ e43 E37_r36
        obtain ⟨_, _, ⟨T44, L44, k44, n44⟩, -, X44, ⟨Lc44, hQ44, l44, y44, z44⟩, st44⟩ := X43.virtualBack hx (y := (⟨"com/example/isimud/isimud/oscore/OscoreOption", "kid", "()[B"⟩ : MethodName)) (z := (⟨"com/example/isimud/isimud/oscore/OscoreOption", "kid", "()[B"⟩ : MethodName)) hown (mvT hZ (hw _ (List.mem_of_getElem? (i := 64) rfl))) (mvT hZ (hw _ (List.mem_of_getElem? (i := 65) rfl))) (notFace_of_selects (args := #[]) (mvT hZ (hw _ (List.mem_of_getElem? (i := 67) rfl)))) (mvT hZ (hw _ (List.mem_of_getElem? (i := 67) rfl))) (mvT hZ (hw _ (List.mem_of_getElem? (i := 66) rfl))) (by decide) (backOf (W := 0) (rm_kid l Z a0 hw [] r36  y36c (((us.map Value.int).drop (1 + i1)).take (us.length - (1 + i1))) T36.heap n0 Zs36 F40_r36 A41_y36c (by simp only [List.length_take, List.length_drop, List.length_map]; omega)) hZ (hw _ (List.mem_of_getElem? (i := 68) rfl)) (hw _ (List.mem_of_getElem? (i := 8) rfl)) (by decide) (by decide)) q44a q44c (g := (mkF m 217 #[oI p1, oI p2, oJ p3, o2, oJ p4, o2, oN i1, oI 0, oI 1, oN i2, oN i3, oI (((Int32.ofNat i1) ||| (8 : Int32)) ||| (0 : Int32)), oN (1 + i1), oN (1 + i1), oN ((1 + i1) + i3), oR b29, oR r36, .val .null, .val .null, oU, oU, oU, oU] [(.ref r36)])) rfl (by rw [hml]; rfl) (Steps.refl _) (argsL := []) (rest := []) (lenOf pd____B rfl) rfl (by show 2 * 0 + _ ≤ _; exact Nat.le_of_eq rfl) (hb hby at_217) (fun _ _ => ⟨rfl, e43, (by decide : 5 + 1 ≤ _), (by decide : 55 + 13 ≤ _)⟩)
        dsimp only [Pt.U, Pt.locs, Pt.cells, Pt.slots] at X44 l44 y44 z44 st44 hQ44
        subst l44 y44 z44
        obtain ⟨r44, rfl, N44q, K44, g_r44, s_r44, Aq44⟩ := hQ44
        have ne_b29_r44 : b29 ≠ r44 := Nat.ne_of_lt (Nat.lt_of_lt_of_le A35_b29_h36.lt s_r44)
        have ne_r36_r44 : r36 ≠ r44 := Nat.ne_of_lt (Nat.lt_of_lt_of_le E37_r36.lt s_r44)
        have ne_y36c_r44 : y36c ≠ r44 := Nat.ne_of_lt (Nat.lt_of_lt_of_le A41_y36c.lt s_r44)
        have A35_b29_h44 : own_A Z T44.heap b29 "[B" .byte (us.map Value.int) := A35_b29_h36.keep K44 nin0
        have E37_r36_h44 : Exa Z T44.heap r36 "com/example/isimud/isimud/oscore/OscoreOption" := E37_r36.keep K44
        have F38_r36_h44 : Fld Z T44.heap r36 "com/example/isimud/isimud/oscore/OscoreOption" "partialIv" "[B" .null := F38_r36.keep K44 nin0
        have F39_r36_h44 : Fld Z T44.heap r36 "com/example/isimud/isimud/oscore/OscoreOption" "kidContext" "[B" .null := F39_r36.keep K44 nin0
        have F40_r36_h44 : Fld Z T44.heap r36 "com/example/isimud/isimud/oscore/OscoreOption" "kid" "[B" (.ref y36c) := F40_r36.keep K44 nin0
        have A41_y36c_h44 : own_A Z T44.heap y36c "[B" .byte (((us.map Value.int).drop (1 + i1)).take (us.length - (1 + i1))) := A41_y36c.keep K44 nin0
        have Zs44 : n0 ≤ T44.heap.size := Nat.le_trans Zs36 K44.1
        have A45_r44 : own_A Z T44.heap r44 "[B" .byte (((us.map Value.int).drop (1 + i1)).take (us.length - (1 + i1))) := Aq44
        have N44 := Fr.app N43 N44q
        refine own_of (fun t k => st44.trans k) ?_
        show own_Go p e below KK T44 (mkF m 220 #[oI p1, oI p2, oJ p3, o2, oJ p4, o2, oN i1, oI 0, oI 1, oN i2, oN i3, oI (((Int32.ofNat i1) ||| (8 : Int32)) ||| (0 : Int32)), oN (1 + i1), oN (1 + i1), oN ((1 + i1) + i3), oR b29, oR r36, .val .null, .val .null, oU, oU, oU, oU] [(.ref r44)])
        refine own_at (fun t k => XS.astore X44.here hx rfl (hb hby at_220) rfl rfl (l' := #[oI p1, oI p2, oJ p3, o2, oJ p4, o2, oN i1, oI 0, oI 1, oN i2, oN i3, oI (((Int32.ofNat i1) ||| (8 : Int32)) ||| (0 : Int32)), oN (1 + i1), oN (1 + i1), oN ((1 + i1) + i3), oR b29, oR r36, .val .null, .val .null, oR r44, oU, oU, oU]) rfl k) ?_
        show own_Go p e below KK T44 (mkF m 222 #[oI p1, oI p2, oJ p3, o2, oJ p4, o2, oN i1, oI 0, oI 1, oN i2, oN i3, oI (((Int32.ofNat i1) ||| (8 : Int32)) ||| (0 : Int32)), oN (1 + i1), oN (1 + i1), oN ((1 + i1) + i3), oR b29, oR r36, .val .null, .val .null, oR r44, oU, oU, oU] [])
        refine own_at (fun t k => XS.iload X44.here hx rfl (hb hby at_222) rfl k) ?_
        show own_Go p e below KK T44 (mkF m 224 #[oI p1, oI p2, oJ p3, o2, oJ p4, o2, oN i1, oI 0, oI 1, oN i2, oN i3, oI (((Int32.ofNat i1) ||| (8 : Int32)) ||| (0 : Int32)), oN (1 + i1), oN (1 + i1), oN ((1 + i1) + i3), oR b29, oR r36, .val .null, .val .null, oR r44, oU, oU, oU] [(.int (Int32.ofNat i1))])
        have hc224 : (Int32.ofNat i1) = (0 : Int32) := by rw [hn0]; rfl
        refine own_at (fun t k => XS.ifNo X44.here hx rfl (hb hby at_224) rfl (Jvm.Free.XT.i0_ne_f hc224) k) ?_
        show own_Go p e below KK T44 (mkF m 227 #[oI p1, oI p2, oJ p3, o2, oJ p4, o2, oN i1, oI 0, oI 1, oN i2, oN i3, oI (((Int32.ofNat i1) ||| (8 : Int32)) ||| (0 : Int32)), oN (1 + i1), oN (1 + i1), oN ((1 + i1) + i3), oR b29, oR r36, .val .null, .val .null, oR r44, oU, oU, oU] [])
        refine own_at (fun t k => XS.aload X44.here hx rfl (hb hby at_227) rfl rfl k) ?_
        show own_Go p e below KK T44 (mkF m 229 #[oI p1, oI p2, oJ p3, o2, oJ p4, o2, oN i1, oI 0, oI 1, oN i2, oN i3, oI (((Int32.ofNat i1) ||| (8 : Int32)) ||| (0 : Int32)), oN (1 + i1), oN (1 + i1), oN ((1 + i1) + i3), oR b29, oR r36, .val .null, .val .null, oR r44, oU, oU, oU] [.null])
        refine own_at (fun t k => XS.ifnonnullNo X44.here hx rfl (hb hby at_229) rfl k) ?_
        show own_Go p e below KK T44 (mkF m 232 #[oI p1, oI p2, oJ p3, o2, oJ p4, o2, oN i1, oI 0, oI 1, oN i2, oN i3, oI (((Int32.ofNat i1) ||| (8 : Int32)) ||| (0 : Int32)), oN (1 + i1), oN (1 + i1), oN ((1 + i1) + i3), oR b29, oR r36, .val .null, .val .null, oR r44, oU, oU, oU] [])
        refine own_at (fun t k => XS.iconst X44.here hx rfl (hb hby at_232) k) ?_
        show own_Go p e below KK T44 (mkF m 233 #[oI p1, oI p2, oJ p3, o2, oJ p4, o2, oN i1, oI 0, oI 1, oN i2, oN i3, oI (((Int32.ofNat i1) ||| (8 : Int32)) ||| (0 : Int32)), oN (1 + i1), oN (1 + i1), oN ((1 + i1) + i3), oR b29, oR r36, .val .null, .val .null, oR r44, oU, oU, oU] [(.int 1)])
        refine own_at (fun t k => XS.goto X44.here hx rfl (pc0 := 233) (pc' := 250) rfl (hb hby at_233) (by decide) (by decide) k) ?_
        show own_Go p e below KK T44 (mkF m 250 #[oI p1, oI p2, oJ p3, o2, oJ p4, o2, oN i1, oI 0, oI 1, oN i2, oN i3, oI (((Int32.ofNat i1) ||| (8 : Int32)) ||| (0 : Int32)), oN (1 + i1), oN (1 + i1), oN ((1 + i1) + i3), oR b29, oR r36, .val .null, .val .null, oR r44, oU, oU, oU] [(.int 1)])
        refine own_at (fun t k => XS.istore X44.here hx rfl (hb hby at_250) rfl (l' := #[oI p1, oI p2, oJ p3, o2, oJ p4, o2, oN i1, oI 0, oI 1, oN i2, oN i3, oI (((Int32.ofNat i1) ||| (8 : Int32)) ||| (0 : Int32)), oN (1 + i1), oN (1 + i1), oN ((1 + i1) + i3), oR b29, oR r36, .val .null, .val .null, oR r44, oI 1, oU, oU]) rfl k) ?_
        show own_Go p e below KK T44 (mkF m 252 #[oI p1, oI p2, oJ p3, o2, oJ p4, o2, oN i1, oI 0, oI 1, oN i2, oN i3, oI (((Int32.ofNat i1) ||| (8 : Int32)) ||| (0 : Int32)), oN (1 + i1), oN (1 + i1), oN ((1 + i1) + i3), oR b29, oR r36, .val .null, .val .null, oR r44, oI 1, oU, oU] [])
        refine own_at (fun t k => XS.iload X44.here hx rfl (hb hby at_252) rfl k) ?_
        show own_Go p e below KK T44 (mkF m 254 #[oI p1, oI p2, oJ p3, o2, oJ p4, o2, oN i1, oI 0, oI 1, oN i2, oN i3, oI (((Int32.ofNat i1) ||| (8 : Int32)) ||| (0 : Int32)), oN (1 + i1), oN (1 + i1), oN ((1 + i1) + i3), oR b29, oR r36, .val .null, .val .null, oR r44, oI 1, oU, oU] [(.int 0)])
        have hc254 : (0 : Int32) = (0 : Int32) := by decide
        refine own_at (fun t k => XS.ifYes X44.here hx rfl (pc0 := 254) (pc' := 273) rfl (hb hby at_254) rfl (Jvm.Free.XT.i0_eq_t hc254) (by decide) (by decide) k) ?_
        show own_Go p e below KK T44 (mkF m 273 #[oI p1, oI p2, oJ p3, o2, oJ p4, o2, oN i1, oI 0, oI 1, oN i2, oN i3, oI (((Int32.ofNat i1) ||| (8 : Int32)) ||| (0 : Int32)), oN (1 + i1), oN (1 + i1), oN ((1 + i1) + i3), oR b29, oR r36, .val .null, .val .null, oR r44, oI 1, oU, oU] [])
        refine own_at (fun t k => XS.aload X44.here hx rfl (hb hby at_273) rfl rfl k) ?_
        show own_Go p e below KK T44 (mkF m 275 #[oI p1, oI p2, oJ p3, o2, oJ p4, o2, oN i1, oI 0, oI 1, oN i2, oN i3, oI (((Int32.ofNat i1) ||| (8 : Int32)) ||| (0 : Int32)), oN (1 + i1), oN (1 + i1), oN ((1 + i1) + i3), oR b29, oR r36, .val .null, .val .null, oR r44, oI 1, oU, oU] [.null])
        refine own_at (fun t k => XS.ifnonnullNo X44.here hx rfl (hb hby at_275) rfl k) ?_
        show own_Go p e below KK T44 (mkF m 278 #[oI p1, oI p2, oJ p3, o2, oJ p4, o2, oN i1, oI 0, oI 1, oN i2, oN i3, oI (((Int32.ofNat i1) ||| (8 : Int32)) ||| (0 : Int32)), oN (1 + i1), oN (1 + i1), oN ((1 + i1) + i3), oR b29, oR r36, .val .null, .val .null, oR r44, oI 1, oU, oU] [])
        refine own_at (fun t k => XS.iconst X44.here hx rfl (hb hby at_278) k) ?_
        show own_Go p e below KK T44 (mkF m 279 #[oI p1, oI p2, oJ p3, o2, oJ p4, o2, oN i1, oI 0, oI 1, oN i2, oN i3, oI (((Int32.ofNat i1) ||| (8 : Int32)) ||| (0 : Int32)), oN (1 + i1), oN (1 + i1), oN ((1 + i1) + i3), oR b29, oR r36, .val .null, .val .null, oR r44, oI 1, oU, oU] [(.int 1)])
        refine own_at (fun t k => XS.goto X44.here hx rfl (pc0 := 279) (pc' := 283) rfl (hb hby at_279) (by decide) (by decide) k) ?_
        show own_Go p e below KK T44 (mkF m 283 #[oI p1, oI p2, oJ p3, o2, oJ p4, o2, oN i1, oI 0, oI 1, oN i2, oN i3, oI (((Int32.ofNat i1) ||| (8 : Int32)) ||| (0 : Int32)), oN (1 + i1), oN (1 + i1), oN ((1 + i1) + i3), oR b29, oR r36, .val .null, .val .null, oR r44, oI 1, oU, oU] [(.int 1)])
        refine own_at (fun t k => XS.istore X44.here hx rfl (hb hby at_283) rfl (l' := #[oI p1, oI p2, oJ p3, o2, oJ p4, o2, oN i1, oI 0, oI 1, oN i2, oN i3, oI (((Int32.ofNat i1) ||| (8 : Int32)) ||| (0 : Int32)), oN (1 + i1), oN (1 + i1), oN ((1 + i1) + i3), oR b29, oR r36, .val .null, .val .null, oR r44, oI 1, oI 1, oU]) rfl k) ?_
        show own_Go p e below KK T44 (mkF m 285 #[oI p1, oI p2, oJ p3, o2, oJ p4, o2, oN i1, oI 0, oI 1, oN i2, oN i3, oI (((Int32.ofNat i1) ||| (8 : Int32)) ||| (0 : Int32)), oN (1 + i1), oN (1 + i1), oN ((1 + i1) + i3), oR b29, oR r36, .val .null, .val .null, oR r44, oI 1, oI 1, oU] [])
        refine own_at (fun t k => XS.iload X44.here hx rfl (hb hby at_285) rfl k) ?_
        show own_Go p e below KK T44 (mkF m 287 #[oI p1, oI p2, oJ p3, o2, oJ p4, o2, oN i1, oI 0, oI 1, oN i2, oN i3, oI (((Int32.ofNat i1) ||| (8 : Int32)) ||| (0 : Int32)), oN (1 + i1), oN (1 + i1), oN ((1 + i1) + i3), oR b29, oR r36, .val .null, .val .null, oR r44, oI 1, oI 1, oU] [(.int 1)])
        have hc287 : ¬ ((1 : Int32) = (0 : Int32)) := by decide
        refine own_at (fun t k => XS.ifNo X44.here hx rfl (hb hby at_287) rfl (Jvm.Free.XT.i0_eq_f hc287) k) ?_
        show own_Go p e below KK T44 (mkF m 290 #[oI p1, oI p2, oJ p3, o2, oJ p4, o2, oN i1, oI 0, oI 1, oN i2, oN i3, oI (((Int32.ofNat i1) ||| (8 : Int32)) ||| (0 : Int32)), oN (1 + i1), oN (1 + i1), oN ((1 + i1) + i3), oR b29, oR r36, .val .null, .val .null, oR r44, oI 1, oI 1, oU] [])
        refine own_at (fun t k => XS.aload X44.here hx rfl (hb hby at_290) rfl rfl k) ?_
        show own_Go p e below KK T44 (mkF m 292 #[oI p1, oI p2, oJ p3, o2, oJ p4, o2, oN i1, oI 0, oI 1, oN i2, oN i3, oI (((Int32.ofNat i1) ||| (8 : Int32)) ||| (0 : Int32)), oN (1 + i1), oN (1 + i1), oN ((1 + i1) + i3), oR b29, oR r36, .val .null, .val .null, oR r44, oI 1, oI 1, oU] [(.ref r44)])
        refine own_at (fun t k => XS.aload X44.here hx rfl (hb hby at_292) rfl rfl k) ?_
        show own_Go p e below KK T44 (mkF m 294 #[oI p1, oI p2, oJ p3, o2, oJ p4, o2, oN i1, oI 0, oI 1, oN i2, oN i3, oI (((Int32.ofNat i1) ||| (8 : Int32)) ||| (0 : Int32)), oN (1 + i1), oN (1 + i1), oN ((1 + i1) + i3), oR b29, oR r36, .val .null, .val .null, oR r44, oI 1, oI 1, oU] [(.ref b29), (.ref r44)])
        refine own_at (fun t k => XS.iload X44.here hx rfl (hb hby at_294) rfl k) ?_
        show own_Go p e below KK T44 (mkF m 296 #[oI p1, oI p2, oJ p3, o2, oJ p4, o2, oN i1, oI 0, oI 1, oN i2, oN i3, oI (((Int32.ofNat i1) ||| (8 : Int32)) ||| (0 : Int32)), oN (1 + i1), oN (1 + i1), oN ((1 + i1) + i3), oR b29, oR r36, .val .null, .val .null, oR r44, oI 1, oI 1, oU] [(.int (Int32.ofNat (1 + i1))), (.ref b29), (.ref r44)])
        refine own_at (fun t k => XS.iload X44.here hx rfl (hb hby at_296) rfl k) ?_
        show own_Go p e below KK T44 (mkF m 298 #[oI p1, oI p2, oJ p3, o2, oJ p4, o2, oN i1, oI 0, oI 1, oN i2, oN i3, oI (((Int32.ofNat i1) ||| (8 : Int32)) ||| (0 : Int32)), oN (1 + i1), oN (1 + i1), oN ((1 + i1) + i3), oR b29, oR r36, .val .null, .val .null, oR r44, oI 1, oI 1, oU] [(.int (Int32.ofNat i3)), (.int (Int32.ofNat (1 + i1))), (.ref b29), (.ref r44)])
        obtain ⟨_, _, ⟨T46, L46, k46, n46⟩, -, X46, ⟨Lc46, hQ46, l46, y46, z46⟩, st46⟩ := Jvm.LawKit.callS X44 hx (y := (⟨"com/example/isimud/isimud/oscore/OscoreOptionReadPinLaw", "same", "([B[BII)Z"⟩ : MethodName)) hown (mvT hZ (hw _ (List.mem_of_getElem? (i := 69) rfl))) (mvT hZ (hw _ (List.mem_of_getElem? (i := 70) rfl))) (mvT hZ (hw _ (List.mem_of_getElem? (i := 4) rfl))) (mvT hZ (hw _ (List.mem_of_getElem? (i := 71) rfl))) (by decide) (backOf (W := 0) (rm_same l Z a0 hw [] r44 b29 (1 + i1) i3 us T44.heap n0 Zs44 (by omega) (by rw [show i3 = us.length - (1 + i1) from by omega]; exact A45_r44) A35_b29_h44 (by omega) (by omega)) hZ (hw _ (List.mem_of_getElem? (i := 71) rfl)) (hw _ (List.mem_of_getElem? (i := 4) rfl)) (by decide) (by decide)) (g := (mkF m 298 #[oI p1, oI p2, oJ p3, o2, oJ p4, o2, oN i1, oI 0, oI 1, oN i2, oN i3, oI (((Int32.ofNat i1) ||| (8 : Int32)) ||| (0 : Int32)), oN (1 + i1), oN (1 + i1), oN ((1 + i1) + i3), oR b29, oR r36, .val .null, .val .null, oR r44, oI 1, oI 1, oU] [(.int (Int32.ofNat i3)), (.int (Int32.ofNat (1 + i1))), (.ref b29), (.ref r44)])) rfl (by rw [hml]; rfl) (argsL := [(.ref r44), (.ref b29), (.int (Int32.ofNat (1 + i1))), (.int (Int32.ofNat i3))]) (rest := []) (lenOf pd___B_BII_Z rfl) rfl (by show 2 * 0 + _ ≤ _; exact Nat.le_of_eq rfl) (hb hby at_298) (fun _ _ => ⟨rfl, rfl, (by decide : 6 + 0 ≤ _), (by decide : 68 + 0 ≤ _)⟩)
        dsimp only [Pt.U, Pt.locs, Pt.cells, Pt.slots] at X46 l46 y46 z46 st46 hQ46
        subst l46 y46 z46
        obtain ⟨rfl, N46q, e46⟩ := hQ46
        have N46 := Fr.app N44 N46q
        refine own_of (fun t k => st46 t k) ?_
        show own_Go p e below KK T46 (mkF m 301 #[oI p1, oI p2, oJ p3, o2, oJ p4, o2, oN i1, oI 0, oI 1, oN i2, oN i3, oI (((Int32.ofNat i1) ||| (8 : Int32)) ||| (0 : Int32)), oN (1 + i1), oN (1 + i1), oN ((1 + i1) + i3), oR b29, oR r36, .val .null, .val .null, oR r44, oI 1, oI 1, oU] [(.int 1)])
        refine own_at (fun t k => XS.goto X46.here hx rfl (pc0 := 301) (pc' := 314) rfl (hb hby at_301) (by decide) (by decide) k) ?_
        show own_Go p e below KK T46 (mkF m 314 #[oI p1, oI p2, oJ p3, o2, oJ p4, o2, oN i1, oI 0, oI 1, oN i2, oN i3, oI (((Int32.ofNat i1) ||| (8 : Int32)) ||| (0 : Int32)), oN (1 + i1), oN (1 + i1), oN ((1 + i1) + i3), oR b29, oR r36, .val .null, .val .null, oR r44, oI 1, oI 1, oU] [(.int 1)])
        refine own_at (fun t k => XS.istore X46.here hx rfl (hb hby at_314) rfl (l' := #[oI p1, oI p2, oJ p3, o2, oJ p4, o2, oN i1, oI 0, oI 1, oN i2, oN i3, oI (((Int32.ofNat i1) ||| (8 : Int32)) ||| (0 : Int32)), oN (1 + i1), oN (1 + i1), oN ((1 + i1) + i3), oR b29, oR r36, .val .null, .val .null, oR r44, oI 1, oI 1, oI 1]) rfl k) ?_
        show own_Go p e below KK T46 (mkF m 316 #[oI p1, oI p2, oJ p3, o2, oJ p4, o2, oN i1, oI 0, oI 1, oN i2, oN i3, oI (((Int32.ofNat i1) ||| (8 : Int32)) ||| (0 : Int32)), oN (1 + i1), oN (1 + i1), oN ((1 + i1) + i3), oR b29, oR r36, .val .null, .val .null, oR r44, oI 1, oI 1, oI 1] [])
        refine own_at (fun t k => XS.iload X46.here hx rfl (hb hby at_316) rfl k) ?_
        show own_Go p e below KK T46 (mkF m 318 #[oI p1, oI p2, oJ p3, o2, oJ p4, o2, oN i1, oI 0, oI 1, oN i2, oN i3, oI (((Int32.ofNat i1) ||| (8 : Int32)) ||| (0 : Int32)), oN (1 + i1), oN (1 + i1), oN ((1 + i1) + i3), oR b29, oR r36, .val .null, .val .null, oR r44, oI 1, oI 1, oI 1] [(.int 1)])
        have hc318 : ¬ ((1 : Int32) = (0 : Int32)) := by decide
        refine own_at (fun t k => XS.ifNo X46.here hx rfl (hb hby at_318) rfl (Jvm.Free.XT.i0_eq_f hc318) k) ?_
        show own_Go p e below KK T46 (mkF m 321 #[oI p1, oI p2, oJ p3, o2, oJ p4, o2, oN i1, oI 0, oI 1, oN i2, oN i3, oI (((Int32.ofNat i1) ||| (8 : Int32)) ||| (0 : Int32)), oN (1 + i1), oN (1 + i1), oN ((1 + i1) + i3), oR b29, oR r36, .val .null, .val .null, oR r44, oI 1, oI 1, oI 1] [])
        refine own_at (fun t k => XS.iload X46.here hx rfl (hb hby at_321) rfl k) ?_
        show own_Go p e below KK T46 (mkF m 323 #[oI p1, oI p2, oJ p3, o2, oJ p4, o2, oN i1, oI 0, oI 1, oN i2, oN i3, oI (((Int32.ofNat i1) ||| (8 : Int32)) ||| (0 : Int32)), oN (1 + i1), oN (1 + i1), oN ((1 + i1) + i3), oR b29, oR r36, .val .null, .val .null, oR r44, oI 1, oI 1, oI 1] [(.int 1)])
        have hc323 : ¬ ((1 : Int32) = (0 : Int32)) := by decide
        refine own_at (fun t k => XS.ifNo X46.here hx rfl (hb hby at_323) rfl (Jvm.Free.XT.i0_eq_f hc323) k) ?_
        show own_Go p e below KK T46 (mkF m 326 #[oI p1, oI p2, oJ p3, o2, oJ p4, o2, oN i1, oI 0, oI 1, oN i2, oN i3, oI (((Int32.ofNat i1) ||| (8 : Int32)) ||| (0 : Int32)), oN (1 + i1), oN (1 + i1), oN ((1 + i1) + i3), oR b29, oR r36, .val .null, .val .null, oR r44, oI 1, oI 1, oI 1] [])
        refine own_at (fun t k => XS.iload X46.here hx rfl (hb hby at_326) rfl k) ?_
        show own_Go p e below KK T46 (mkF m 328 #[oI p1, oI p2, oJ p3, o2, oJ p4, o2, oN i1, oI 0, oI 1, oN i2, oN i3, oI (((Int32.ofNat i1) ||| (8 : Int32)) ||| (0 : Int32)), oN (1 + i1), oN (1 + i1), oN ((1 + i1) + i3), oR b29, oR r36, .val .null, .val .null, oR r44, oI 1, oI 1, oI 1] [(.int 1)])
        have hc328 : ¬ ((1 : Int32) = (0 : Int32)) := by decide
        refine own_at (fun t k => XS.ifNo X46.here hx rfl (hb hby at_328) rfl (Jvm.Free.XT.i0_eq_f hc328) k) ?_
        show own_Go p e below KK T46 (mkF m 331 #[oI p1, oI p2, oJ p3, o2, oJ p4, o2, oN i1, oI 0, oI 1, oN i2, oN i3, oI (((Int32.ofNat i1) ||| (8 : Int32)) ||| (0 : Int32)), oN (1 + i1), oN (1 + i1), oN ((1 + i1) + i3), oR b29, oR r36, .val .null, .val .null, oR r44, oI 1, oI 1, oI 1] [])
        refine own_at (fun t k => XS.iconst X46.here hx rfl (hb hby at_331) k) ?_
        show own_Go p e below KK T46 (mkF m 332 #[oI p1, oI p2, oJ p3, o2, oJ p4, o2, oN i1, oI 0, oI 1, oN i2, oN i3, oI (((Int32.ofNat i1) ||| (8 : Int32)) ||| (0 : Int32)), oN (1 + i1), oN (1 + i1), oN ((1 + i1) + i3), oR b29, oR r36, .val .null, .val .null, oR r44, oI 1, oI 1, oI 1] [(.int 1)])
        refine own_at (fun t k => XS.goto X46.here hx rfl (pc0 := 332) (pc' := 336) rfl (hb hby at_332) (by decide) (by decide) k) ?_
        show own_Go p e below KK T46 (mkF m 336 #[oI p1, oI p2, oJ p3, o2, oJ p4, o2, oN i1, oI 0, oI 1, oN i2, oN i3, oI (((Int32.ofNat i1) ||| (8 : Int32)) ||| (0 : Int32)), oN (1 + i1), oN (1 + i1), oN ((1 + i1) + i3), oR b29, oR r36, .val .null, .val .null, oR r44, oI 1, oI 1, oI 1] [(.int 1)])
        subst hKK
        exact own_retN X46 hx hlk (t := .boolean) Bd.returns (by simp) (hb hby at_336) (w := (1 : Int32)) (show nar .boolean (1 : Int32) = 1 from by decide) ⟨rfl, N46⟩ (Nat.le_of_ble_eq_true rfl) (Nat.le_of_ble_eq_true rfl)
      · rw [if_neg hn0] at Oa36
        obtain ⟨y36a, rfl, AOa36⟩ := Oa36
        have A47_y36a : own_A Z T36.heap y36a "[B" .byte (((us.map Value.int).drop 1).take i1) := AOa36
        refine own_at (fun t k => XS.astore X36.here hx rfl (hb hby at_199) rfl rfl (l' := #[oI p1, oI p2, oJ p3, o2, oJ p4, o2, oN i1, oI 0, oI 1, oN i2, oN i3, oI (((Int32.ofNat i1) ||| (8 : Int32)) ||| (0 : Int32)), oN (1 + i1), oN (1 + i1), oN ((1 + i1) + i3), oR b29, oR r36, oU, oU, oU, oU, oU, oU]) rfl k) ?_
        show own_Go p e below KK T36 (mkF m 201 #[oI p1, oI p2, oJ p3, o2, oJ p4, o2, oN i1, oI 0, oI 1, oN i2, oN i3, oI (((Int32.ofNat i1) ||| (8 : Int32)) ||| (0 : Int32)), oN (1 + i1), oN (1 + i1), oN ((1 + i1) + i3), oR b29, oR r36, oU, oU, oU, oU, oU, oU] [])
        refine own_at (fun t k => XS.aload X36.here hx rfl (hb hby at_201) rfl rfl k) ?_
        show own_Go p e below KK T36 (mkF m 203 #[oI p1, oI p2, oJ p3, o2, oJ p4, o2, oN i1, oI 0, oI 1, oN i2, oN i3, oI (((Int32.ofNat i1) ||| (8 : Int32)) ||| (0 : Int32)), oN (1 + i1), oN (1 + i1), oN ((1 + i1) + i3), oR b29, oR r36, oU, oU, oU, oU, oU, oU] [(.ref r36)])
        obtain ⟨cq48, kq48, q48a, q48b, q48c⟩ := isOf hZ rfl E37_r36
        obtain ⟨_, _, ⟨T48, L48, k48, n48⟩, -, X48, ⟨Lc48, hQ48, l48, y48, z48⟩, st48⟩ := X36.virtualBack hx (y := (⟨"com/example/isimud/isimud/oscore/OscoreOption", "partialIv", "()[B"⟩ : MethodName)) (z := (⟨"com/example/isimud/isimud/oscore/OscoreOption", "partialIv", "()[B"⟩ : MethodName)) hown (mvT hZ (hw _ (List.mem_of_getElem? (i := 45) rfl))) (mvT hZ (hw _ (List.mem_of_getElem? (i := 46) rfl))) (notFace_of_selects (args := #[]) (mvT hZ (hw _ (List.mem_of_getElem? (i := 48) rfl)))) (mvT hZ (hw _ (List.mem_of_getElem? (i := 48) rfl))) (mvT hZ (hw _ (List.mem_of_getElem? (i := 47) rfl))) (by decide) (backOf (W := 0) (rm_partialIv l Z a0 hw [] r36  y36a (((us.map Value.int).drop 1).take i1) T36.heap n0 Zs36 F38_r36 A47_y36a (by simp only [List.length_take, List.length_drop, List.length_map]; omega)) hZ (hw _ (List.mem_of_getElem? (i := 49) rfl)) (hw _ (List.mem_of_getElem? (i := 8) rfl)) (by decide) (by decide)) q48a q48c (g := (mkF m 203 #[oI p1, oI p2, oJ p3, o2, oJ p4, o2, oN i1, oI 0, oI 1, oN i2, oN i3, oI (((Int32.ofNat i1) ||| (8 : Int32)) ||| (0 : Int32)), oN (1 + i1), oN (1 + i1), oN ((1 + i1) + i3), oR b29, oR r36, oU, oU, oU, oU, oU, oU] [(.ref r36)])) rfl (by rw [hml]; rfl) (Steps.refl _) (argsL := []) (rest := []) (lenOf pd____B rfl) rfl (by show 2 * 0 + _ ≤ _; exact Nat.le_of_eq rfl) (hb hby at_203) (fun _ _ => ⟨rfl, rfl, (by decide : 5 + 1 ≤ _), (by decide : 55 + 13 ≤ _)⟩)
        dsimp only [Pt.U, Pt.locs, Pt.cells, Pt.slots] at X48 l48 y48 z48 st48 hQ48
        subst l48 y48 z48
        obtain ⟨r48, rfl, N48q, K48, g_r48, s_r48, Aq48⟩ := hQ48
        have ne_b29_r48 : b29 ≠ r48 := Nat.ne_of_lt (Nat.lt_of_lt_of_le A35_b29_h36.lt s_r48)
        have ne_r36_r48 : r36 ≠ r48 := Nat.ne_of_lt (Nat.lt_of_lt_of_le E37_r36.lt s_r48)
        have ne_y36a_r48 : y36a ≠ r48 := Nat.ne_of_lt (Nat.lt_of_lt_of_le A47_y36a.lt s_r48)
        have ne_y36c_r48 : y36c ≠ r48 := Nat.ne_of_lt (Nat.lt_of_lt_of_le A41_y36c.lt s_r48)
        have A35_b29_h48 : own_A Z T48.heap b29 "[B" .byte (us.map Value.int) := A35_b29_h36.keep K48 nin0
        have E37_r36_h48 : Exa Z T48.heap r36 "com/example/isimud/isimud/oscore/OscoreOption" := E37_r36.keep K48
        have F38_r36_h48 : Fld Z T48.heap r36 "com/example/isimud/isimud/oscore/OscoreOption" "partialIv" "[B" (.ref y36a) := F38_r36.keep K48 nin0
        have F39_r36_h48 : Fld Z T48.heap r36 "com/example/isimud/isimud/oscore/OscoreOption" "kidContext" "[B" .null := F39_r36.keep K48 nin0
        have F40_r36_h48 : Fld Z T48.heap r36 "com/example/isimud/isimud/oscore/OscoreOption" "kid" "[B" (.ref y36c) := F40_r36.keep K48 nin0
        have A41_y36c_h48 : own_A Z T48.heap y36c "[B" .byte (((us.map Value.int).drop (1 + i1)).take (us.length - (1 + i1))) := A41_y36c.keep K48 nin0
        have A47_y36a_h48 : own_A Z T48.heap y36a "[B" .byte (((us.map Value.int).drop 1).take i1) := A47_y36a.keep K48 nin0
        have Zs48 : n0 ≤ T48.heap.size := Nat.le_trans Zs36 K48.1
        have A49_r48 : own_A Z T48.heap r48 "[B" .byte (((us.map Value.int).drop 1).take i1) := Aq48
        have N48 := Fr.app N36 N48q
        refine own_of (fun t k => st48.trans k) ?_
        show own_Go p e below KK T48 (mkF m 206 #[oI p1, oI p2, oJ p3, o2, oJ p4, o2, oN i1, oI 0, oI 1, oN i2, oN i3, oI (((Int32.ofNat i1) ||| (8 : Int32)) ||| (0 : Int32)), oN (1 + i1), oN (1 + i1), oN ((1 + i1) + i3), oR b29, oR r36, oU, oU, oU, oU, oU, oU] [(.ref r48)])
        refine own_at (fun t k => XS.astore X48.here hx rfl (hb hby at_206) rfl rfl (l' := #[oI p1, oI p2, oJ p3, o2, oJ p4, o2, oN i1, oI 0, oI 1, oN i2, oN i3, oI (((Int32.ofNat i1) ||| (8 : Int32)) ||| (0 : Int32)), oN (1 + i1), oN (1 + i1), oN ((1 + i1) + i3), oR b29, oR r36, oR r48, oU, oU, oU, oU, oU]) rfl k) ?_
        show own_Go p e below KK T48 (mkF m 208 #[oI p1, oI p2, oJ p3, o2, oJ p4, o2, oN i1, oI 0, oI 1, oN i2, oN i3, oI (((Int32.ofNat i1) ||| (8 : Int32)) ||| (0 : Int32)), oN (1 + i1), oN (1 + i1), oN ((1 + i1) + i3), oR b29, oR r36, oR r48, oU, oU, oU, oU, oU] [])
        refine own_at (fun t k => XS.aload X48.here hx rfl (hb hby at_208) rfl rfl k) ?_
        show own_Go p e below KK T48 (mkF m 210 #[oI p1, oI p2, oJ p3, o2, oJ p4, o2, oN i1, oI 0, oI 1, oN i2, oN i3, oI (((Int32.ofNat i1) ||| (8 : Int32)) ||| (0 : Int32)), oN (1 + i1), oN (1 + i1), oN ((1 + i1) + i3), oR b29, oR r36, oR r48, oU, oU, oU, oU, oU] [(.ref r36)])
        obtain ⟨cq50, kq50, q50a, q50b, q50c⟩ := isOf hZ rfl E37_r36_h48
        obtain ⟨_, _, ⟨T50, L50, k50, n50⟩, -, X50, ⟨Lc50, hQ50, l50, y50, z50⟩, st50⟩ := X48.virtualBack hx (y := (⟨"com/example/isimud/isimud/oscore/OscoreOption", "kidContext", "()[B"⟩ : MethodName)) (z := (⟨"com/example/isimud/isimud/oscore/OscoreOption", "kidContext", "()[B"⟩ : MethodName)) hown (mvT hZ (hw _ (List.mem_of_getElem? (i := 50) rfl))) (mvT hZ (hw _ (List.mem_of_getElem? (i := 51) rfl))) (notFace_of_selects (args := #[]) (mvT hZ (hw _ (List.mem_of_getElem? (i := 53) rfl)))) (mvT hZ (hw _ (List.mem_of_getElem? (i := 53) rfl))) (mvT hZ (hw _ (List.mem_of_getElem? (i := 52) rfl))) (by decide) (backOf (W := 0) (rm_kidContext0 l Z a0 hw [] r36   T48.heap n0 Zs48 F39_r36_h48) hZ (hw _ (List.mem_of_getElem? (i := 54) rfl)) (hw _ (List.mem_of_getElem? (i := 8) rfl)) (by decide) (by decide)) q50a q50c (g := (mkF m 210 #[oI p1, oI p2, oJ p3, o2, oJ p4, o2, oN i1, oI 0, oI 1, oN i2, oN i3, oI (((Int32.ofNat i1) ||| (8 : Int32)) ||| (0 : Int32)), oN (1 + i1), oN (1 + i1), oN ((1 + i1) + i3), oR b29, oR r36, oR r48, oU, oU, oU, oU, oU] [(.ref r36)])) rfl (by rw [hml]; rfl) (Steps.refl _) (argsL := []) (rest := []) (lenOf pd____B rfl) rfl (by show 2 * 0 + _ ≤ _; exact Nat.le_of_eq rfl) (hb hby at_210) (fun _ _ => ⟨rfl, rfl, (by decide : 6 + 0 ≤ _), (by decide : 68 + 0 ≤ _)⟩)
        dsimp only [Pt.U, Pt.locs, Pt.cells, Pt.slots] at X50 l50 y50 z50 st50 hQ50
        subst l50 y50 z50
        obtain ⟨rfl, N50q, e50⟩ := hQ50
        have N50 := Fr.app N48 N50q
        refine own_of (fun t k => st50.trans k) ?_
        show own_Go p e below KK T50 (mkF m 213 #[oI p1, oI p2, oJ p3, o2, oJ p4, o2, oN i1, oI 0, oI 1, oN i2, oN i3, oI (((Int32.ofNat i1) ||| (8 : Int32)) ||| (0 : Int32)), oN (1 + i1), oN (1 + i1), oN ((1 + i1) + i3), oR b29, oR r36, oR r48, oU, oU, oU, oU, oU] [.null])
        refine own_at (fun t k => XS.astore X50.here hx rfl (hb hby at_213) rfl rfl (l' := #[oI p1, oI p2, oJ p3, o2, oJ p4, o2, oN i1, oI 0, oI 1, oN i2, oN i3, oI (((Int32.ofNat i1) ||| (8 : Int32)) ||| (0 : Int32)), oN (1 + i1), oN (1 + i1), oN ((1 + i1) + i3), oR b29, oR r36, oR r48, .val .null, oU, oU, oU, oU]) rfl k) ?_
        show own_Go p e below KK T50 (mkF m 215 #[oI p1, oI p2, oJ p3, o2, oJ p4, o2, oN i1, oI 0, oI 1, oN i2, oN i3, oI (((Int32.ofNat i1) ||| (8 : Int32)) ||| (0 : Int32)), oN (1 + i1), oN (1 + i1), oN ((1 + i1) + i3), oR b29, oR r36, oR r48, .val .null, oU, oU, oU, oU] [])
        refine own_at (fun t k => XS.aload X50.here hx rfl (hb hby at_215) rfl rfl k) ?_
        show own_Go p e below KK T50 (mkF m 217 #[oI p1, oI p2, oJ p3, o2, oJ p4, o2, oN i1, oI 0, oI 1, oN i2, oN i3, oI (((Int32.ofNat i1) ||| (8 : Int32)) ||| (0 : Int32)), oN (1 + i1), oN (1 + i1), oN ((1 + i1) + i3), oR b29, oR r36, oR r48, .val .null, oU, oU, oU, oU] [(.ref r36)])
        obtain ⟨cq51, kq51, q51a, q51b, q51c⟩ := isOf hZ e50 E37_r36_h48
        obtain ⟨_, _, ⟨T51, L51, k51, n51⟩, -, X51, ⟨Lc51, hQ51, l51, y51, z51⟩, st51⟩ := X50.virtualBack hx (y := (⟨"com/example/isimud/isimud/oscore/OscoreOption", "kid", "()[B"⟩ : MethodName)) (z := (⟨"com/example/isimud/isimud/oscore/OscoreOption", "kid", "()[B"⟩ : MethodName)) hown (mvT hZ (hw _ (List.mem_of_getElem? (i := 64) rfl))) (mvT hZ (hw _ (List.mem_of_getElem? (i := 65) rfl))) (notFace_of_selects (args := #[]) (mvT hZ (hw _ (List.mem_of_getElem? (i := 67) rfl)))) (mvT hZ (hw _ (List.mem_of_getElem? (i := 67) rfl))) (mvT hZ (hw _ (List.mem_of_getElem? (i := 66) rfl))) (by decide) (backOf (W := 0) (rm_kid l Z a0 hw [] r36  y36c (((us.map Value.int).drop (1 + i1)).take (us.length - (1 + i1))) T48.heap n0 Zs48 F40_r36_h48 A41_y36c_h48 (by simp only [List.length_take, List.length_drop, List.length_map]; omega)) hZ (hw _ (List.mem_of_getElem? (i := 68) rfl)) (hw _ (List.mem_of_getElem? (i := 8) rfl)) (by decide) (by decide)) q51a q51c (g := (mkF m 217 #[oI p1, oI p2, oJ p3, o2, oJ p4, o2, oN i1, oI 0, oI 1, oN i2, oN i3, oI (((Int32.ofNat i1) ||| (8 : Int32)) ||| (0 : Int32)), oN (1 + i1), oN (1 + i1), oN ((1 + i1) + i3), oR b29, oR r36, oR r48, .val .null, oU, oU, oU, oU] [(.ref r36)])) rfl (by rw [hml]; rfl) (Steps.refl _) (argsL := []) (rest := []) (lenOf pd____B rfl) rfl (by show 2 * 0 + _ ≤ _; exact Nat.le_of_eq rfl) (hb hby at_217) (fun _ _ => ⟨rfl, e50, (by decide : 6 + 1 ≤ _), (by decide : 68 + 13 ≤ _)⟩)
        dsimp only [Pt.U, Pt.locs, Pt.cells, Pt.slots] at X51 l51 y51 z51 st51 hQ51
        subst l51 y51 z51
        obtain ⟨r51, rfl, N51q, K51, g_r51, s_r51, Aq51⟩ := hQ51
        have ne_b29_r51 : b29 ≠ r51 := Nat.ne_of_lt (Nat.lt_of_lt_of_le A35_b29_h48.lt s_r51)
        have ne_r36_r51 : r36 ≠ r51 := Nat.ne_of_lt (Nat.lt_of_lt_of_le E37_r36_h48.lt s_r51)
        have ne_r48_r51 : r48 ≠ r51 := Nat.ne_of_lt (Nat.lt_of_lt_of_le A49_r48.lt s_r51)
        have ne_y36a_r51 : y36a ≠ r51 := Nat.ne_of_lt (Nat.lt_of_lt_of_le A47_y36a_h48.lt s_r51)
        have ne_y36c_r51 : y36c ≠ r51 := Nat.ne_of_lt (Nat.lt_of_lt_of_le A41_y36c_h48.lt s_r51)
        have A35_b29_h51 : own_A Z T51.heap b29 "[B" .byte (us.map Value.int) := A35_b29_h48.keep K51 nin0
        have E37_r36_h51 : Exa Z T51.heap r36 "com/example/isimud/isimud/oscore/OscoreOption" := E37_r36_h48.keep K51
        have F38_r36_h51 : Fld Z T51.heap r36 "com/example/isimud/isimud/oscore/OscoreOption" "partialIv" "[B" (.ref y36a) := F38_r36_h48.keep K51 nin0
        have F39_r36_h51 : Fld Z T51.heap r36 "com/example/isimud/isimud/oscore/OscoreOption" "kidContext" "[B" .null := F39_r36_h48.keep K51 nin0
        have F40_r36_h51 : Fld Z T51.heap r36 "com/example/isimud/isimud/oscore/OscoreOption" "kid" "[B" (.ref y36c) := F40_r36_h48.keep K51 nin0
        have A41_y36c_h51 : own_A Z T51.heap y36c "[B" .byte (((us.map Value.int).drop (1 + i1)).take (us.length - (1 + i1))) := A41_y36c_h48.keep K51 nin0
        have A47_y36a_h51 : own_A Z T51.heap y36a "[B" .byte (((us.map Value.int).drop 1).take i1) := A47_y36a_h48.keep K51 nin0
        have A49_r48_h51 : own_A Z T51.heap r48 "[B" .byte (((us.map Value.int).drop 1).take i1) := A49_r48.keep K51 nin0
        have Zs51 : n0 ≤ T51.heap.size := Nat.le_trans Zs48 K51.1
        have A52_r51 : own_A Z T51.heap r51 "[B" .byte (((us.map Value.int).drop (1 + i1)).take (us.length - (1 + i1))) := Aq51
        have N51 := Fr.app N50 N51q
        refine own_of (fun t k => st51.trans k) ?_
        show own_Go p e below KK T51 (mkF m 220 #[oI p1, oI p2, oJ p3, o2, oJ p4, o2, oN i1, oI 0, oI 1, oN i2, oN i3, oI (((Int32.ofNat i1) ||| (8 : Int32)) ||| (0 : Int32)), oN (1 + i1), oN (1 + i1), oN ((1 + i1) + i3), oR b29, oR r36, oR r48, .val .null, oU, oU, oU, oU] [(.ref r51)])
        refine own_at (fun t k => XS.astore X51.here hx rfl (hb hby at_220) rfl rfl (l' := #[oI p1, oI p2, oJ p3, o2, oJ p4, o2, oN i1, oI 0, oI 1, oN i2, oN i3, oI (((Int32.ofNat i1) ||| (8 : Int32)) ||| (0 : Int32)), oN (1 + i1), oN (1 + i1), oN ((1 + i1) + i3), oR b29, oR r36, oR r48, .val .null, oR r51, oU, oU, oU]) rfl k) ?_
        show own_Go p e below KK T51 (mkF m 222 #[oI p1, oI p2, oJ p3, o2, oJ p4, o2, oN i1, oI 0, oI 1, oN i2, oN i3, oI (((Int32.ofNat i1) ||| (8 : Int32)) ||| (0 : Int32)), oN (1 + i1), oN (1 + i1), oN ((1 + i1) + i3), oR b29, oR r36, oR r48, .val .null, oR r51, oU, oU, oU] [])
        refine own_at (fun t k => XS.iload X51.here hx rfl (hb hby at_222) rfl k) ?_
        show own_Go p e below KK T51 (mkF m 224 #[oI p1, oI p2, oJ p3, o2, oJ p4, o2, oN i1, oI 0, oI 1, oN i2, oN i3, oI (((Int32.ofNat i1) ||| (8 : Int32)) ||| (0 : Int32)), oN (1 + i1), oN (1 + i1), oN ((1 + i1) + i3), oR b29, oR r36, oR r48, .val .null, oR r51, oU, oU, oU] [(.int (Int32.ofNat i1))])
        have hc224 : ¬ ((Int32.ofNat i1) = (0 : Int32)) := (fun q => hn0 ((own_eq (b := 0) (by omega) (by omega)).mp q))
        refine own_at (fun t k => XS.ifYes X51.here hx rfl (pc0 := 224) (pc' := 240) rfl (hb hby at_224) rfl (Jvm.Free.XT.i0_ne_t hc224) (by decide) (by decide) k) ?_
        show own_Go p e below KK T51 (mkF m 240 #[oI p1, oI p2, oJ p3, o2, oJ p4, o2, oN i1, oI 0, oI 1, oN i2, oN i3, oI (((Int32.ofNat i1) ||| (8 : Int32)) ||| (0 : Int32)), oN (1 + i1), oN (1 + i1), oN ((1 + i1) + i3), oR b29, oR r36, oR r48, .val .null, oR r51, oU, oU, oU] [])
        refine own_at (fun t k => XS.aload X51.here hx rfl (hb hby at_240) rfl rfl k) ?_
        show own_Go p e below KK T51 (mkF m 242 #[oI p1, oI p2, oJ p3, o2, oJ p4, o2, oN i1, oI 0, oI 1, oN i2, oN i3, oI (((Int32.ofNat i1) ||| (8 : Int32)) ||| (0 : Int32)), oN (1 + i1), oN (1 + i1), oN ((1 + i1) + i3), oR b29, oR r36, oR r48, .val .null, oR r51, oU, oU, oU] [(.ref r48)])
        refine own_at (fun t k => XS.aload X51.here hx rfl (hb hby at_242) rfl rfl k) ?_
        show own_Go p e below KK T51 (mkF m 244 #[oI p1, oI p2, oJ p3, o2, oJ p4, o2, oN i1, oI 0, oI 1, oN i2, oN i3, oI (((Int32.ofNat i1) ||| (8 : Int32)) ||| (0 : Int32)), oN (1 + i1), oN (1 + i1), oN ((1 + i1) + i3), oR b29, oR r36, oR r48, .val .null, oR r51, oU, oU, oU] [(.ref b29), (.ref r48)])
        refine own_at (fun t k => XS.iconst X51.here hx rfl (hb hby at_244) k) ?_
        show own_Go p e below KK T51 (mkF m 245 #[oI p1, oI p2, oJ p3, o2, oJ p4, o2, oN i1, oI 0, oI 1, oN i2, oN i3, oI (((Int32.ofNat i1) ||| (8 : Int32)) ||| (0 : Int32)), oN (1 + i1), oN (1 + i1), oN ((1 + i1) + i3), oR b29, oR r36, oR r48, .val .null, oR r51, oU, oU, oU] [(.int 1), (.ref b29), (.ref r48)])
        refine own_at (fun t k => XS.iload X51.here hx rfl (hb hby at_245) rfl k) ?_
        show own_Go p e below KK T51 (mkF m 247 #[oI p1, oI p2, oJ p3, o2, oJ p4, o2, oN i1, oI 0, oI 1, oN i2, oN i3, oI (((Int32.ofNat i1) ||| (8 : Int32)) ||| (0 : Int32)), oN (1 + i1), oN (1 + i1), oN ((1 + i1) + i3), oR b29, oR r36, oR r48, .val .null, oR r51, oU, oU, oU] [(.int (Int32.ofNat i1)), (.int 1), (.ref b29), (.ref r48)])
        obtain ⟨_, _, ⟨T53, L53, k53, n53⟩, -, X53, ⟨Lc53, hQ53, l53, y53, z53⟩, st53⟩ := Jvm.LawKit.callS X51 hx (y := (⟨"com/example/isimud/isimud/oscore/OscoreOptionReadPinLaw", "same", "([B[BII)Z"⟩ : MethodName)) hown (mvT hZ (hw _ (List.mem_of_getElem? (i := 69) rfl))) (mvT hZ (hw _ (List.mem_of_getElem? (i := 70) rfl))) (mvT hZ (hw _ (List.mem_of_getElem? (i := 4) rfl))) (mvT hZ (hw _ (List.mem_of_getElem? (i := 71) rfl))) (by decide) (backOf (W := 0) (rm_same l Z a0 hw [] r48 b29 1 i1 us T51.heap n0 Zs51 (by omega) A49_r48_h51 A35_b29_h51 (by omega) (by omega)) hZ (hw _ (List.mem_of_getElem? (i := 71) rfl)) (hw _ (List.mem_of_getElem? (i := 4) rfl)) (by decide) (by decide)) (g := (mkF m 247 #[oI p1, oI p2, oJ p3, o2, oJ p4, o2, oN i1, oI 0, oI 1, oN i2, oN i3, oI (((Int32.ofNat i1) ||| (8 : Int32)) ||| (0 : Int32)), oN (1 + i1), oN (1 + i1), oN ((1 + i1) + i3), oR b29, oR r36, oR r48, .val .null, oR r51, oU, oU, oU] [(.int (Int32.ofNat i1)), (.int 1), (.ref b29), (.ref r48)])) rfl (by rw [hml]; rfl) (argsL := [(.ref r48), (.ref b29), (.int 1), (.int (Int32.ofNat i1))]) (rest := []) (lenOf pd___B_BII_Z rfl) rfl (by show 2 * 0 + _ ≤ _; exact Nat.le_of_eq rfl) (hb hby at_247) (fun _ _ => ⟨rfl, rfl, (by decide : 7 + 0 ≤ _), (by decide : 81 + 0 ≤ _)⟩)
        dsimp only [Pt.U, Pt.locs, Pt.cells, Pt.slots] at X53 l53 y53 z53 st53 hQ53
        subst l53 y53 z53
        obtain ⟨rfl, N53q, e53⟩ := hQ53
        have N53 := Fr.app N51 N53q
        refine own_of (fun t k => st53 t k) ?_
        show own_Go p e below KK T53 (mkF m 250 #[oI p1, oI p2, oJ p3, o2, oJ p4, o2, oN i1, oI 0, oI 1, oN i2, oN i3, oI (((Int32.ofNat i1) ||| (8 : Int32)) ||| (0 : Int32)), oN (1 + i1), oN (1 + i1), oN ((1 + i1) + i3), oR b29, oR r36, oR r48, .val .null, oR r51, oU, oU, oU] [(.int 1)])
        refine own_at (fun t k => XS.istore X53.here hx rfl (hb hby at_250) rfl (l' := #[oI p1, oI p2, oJ p3, o2, oJ p4, o2, oN i1, oI 0, oI 1, oN i2, oN i3, oI (((Int32.ofNat i1) ||| (8 : Int32)) ||| (0 : Int32)), oN (1 + i1), oN (1 + i1), oN ((1 + i1) + i3), oR b29, oR r36, oR r48, .val .null, oR r51, oI 1, oU, oU]) rfl k) ?_
        show own_Go p e below KK T53 (mkF m 252 #[oI p1, oI p2, oJ p3, o2, oJ p4, o2, oN i1, oI 0, oI 1, oN i2, oN i3, oI (((Int32.ofNat i1) ||| (8 : Int32)) ||| (0 : Int32)), oN (1 + i1), oN (1 + i1), oN ((1 + i1) + i3), oR b29, oR r36, oR r48, .val .null, oR r51, oI 1, oU, oU] [])
        refine own_at (fun t k => XS.iload X53.here hx rfl (hb hby at_252) rfl k) ?_
        show own_Go p e below KK T53 (mkF m 254 #[oI p1, oI p2, oJ p3, o2, oJ p4, o2, oN i1, oI 0, oI 1, oN i2, oN i3, oI (((Int32.ofNat i1) ||| (8 : Int32)) ||| (0 : Int32)), oN (1 + i1), oN (1 + i1), oN ((1 + i1) + i3), oR b29, oR r36, oR r48, .val .null, oR r51, oI 1, oU, oU] [(.int 0)])
        have hc254 : (0 : Int32) = (0 : Int32) := by decide
        refine own_at (fun t k => XS.ifYes X53.here hx rfl (pc0 := 254) (pc' := 273) rfl (hb hby at_254) rfl (Jvm.Free.XT.i0_eq_t hc254) (by decide) (by decide) k) ?_
        show own_Go p e below KK T53 (mkF m 273 #[oI p1, oI p2, oJ p3, o2, oJ p4, o2, oN i1, oI 0, oI 1, oN i2, oN i3, oI (((Int32.ofNat i1) ||| (8 : Int32)) ||| (0 : Int32)), oN (1 + i1), oN (1 + i1), oN ((1 + i1) + i3), oR b29, oR r36, oR r48, .val .null, oR r51, oI 1, oU, oU] [])
        refine own_at (fun t k => XS.aload X53.here hx rfl (hb hby at_273) rfl rfl k) ?_
        show own_Go p e below KK T53 (mkF m 275 #[oI p1, oI p2, oJ p3, o2, oJ p4, o2, oN i1, oI 0, oI 1, oN i2, oN i3, oI (((Int32.ofNat i1) ||| (8 : Int32)) ||| (0 : Int32)), oN (1 + i1), oN (1 + i1), oN ((1 + i1) + i3), oR b29, oR r36, oR r48, .val .null, oR r51, oI 1, oU, oU] [.null])
        refine own_at (fun t k => XS.ifnonnullNo X53.here hx rfl (hb hby at_275) rfl k) ?_
        show own_Go p e below KK T53 (mkF m 278 #[oI p1, oI p2, oJ p3, o2, oJ p4, o2, oN i1, oI 0, oI 1, oN i2, oN i3, oI (((Int32.ofNat i1) ||| (8 : Int32)) ||| (0 : Int32)), oN (1 + i1), oN (1 + i1), oN ((1 + i1) + i3), oR b29, oR r36, oR r48, .val .null, oR r51, oI 1, oU, oU] [])
        refine own_at (fun t k => XS.iconst X53.here hx rfl (hb hby at_278) k) ?_
        show own_Go p e below KK T53 (mkF m 279 #[oI p1, oI p2, oJ p3, o2, oJ p4, o2, oN i1, oI 0, oI 1, oN i2, oN i3, oI (((Int32.ofNat i1) ||| (8 : Int32)) ||| (0 : Int32)), oN (1 + i1), oN (1 + i1), oN ((1 + i1) + i3), oR b29, oR r36, oR r48, .val .null, oR r51, oI 1, oU, oU] [(.int 1)])
        refine own_at (fun t k => XS.goto X53.here hx rfl (pc0 := 279) (pc' := 283) rfl (hb hby at_279) (by decide) (by decide) k) ?_
        show own_Go p e below KK T53 (mkF m 283 #[oI p1, oI p2, oJ p3, o2, oJ p4, o2, oN i1, oI 0, oI 1, oN i2, oN i3, oI (((Int32.ofNat i1) ||| (8 : Int32)) ||| (0 : Int32)), oN (1 + i1), oN (1 + i1), oN ((1 + i1) + i3), oR b29, oR r36, oR r48, .val .null, oR r51, oI 1, oU, oU] [(.int 1)])
        refine own_at (fun t k => XS.istore X53.here hx rfl (hb hby at_283) rfl (l' := #[oI p1, oI p2, oJ p3, o2, oJ p4, o2, oN i1, oI 0, oI 1, oN i2, oN i3, oI (((Int32.ofNat i1) ||| (8 : Int32)) ||| (0 : Int32)), oN (1 + i1), oN (1 + i1), oN ((1 + i1) + i3), oR b29, oR r36, oR r48, .val .null, oR r51, oI 1, oI 1, oU]) rfl k) ?_
        show own_Go p e below KK T53 (mkF m 285 #[oI p1, oI p2, oJ p3, o2, oJ p4, o2, oN i1, oI 0, oI 1, oN i2, oN i3, oI (((Int32.ofNat i1) ||| (8 : Int32)) ||| (0 : Int32)), oN (1 + i1), oN (1 + i1), oN ((1 + i1) + i3), oR b29, oR r36, oR r48, .val .null, oR r51, oI 1, oI 1, oU] [])
        refine own_at (fun t k => XS.iload X53.here hx rfl (hb hby at_285) rfl k) ?_
        show own_Go p e below KK T53 (mkF m 287 #[oI p1, oI p2, oJ p3, o2, oJ p4, o2, oN i1, oI 0, oI 1, oN i2, oN i3, oI (((Int32.ofNat i1) ||| (8 : Int32)) ||| (0 : Int32)), oN (1 + i1), oN (1 + i1), oN ((1 + i1) + i3), oR b29, oR r36, oR r48, .val .null, oR r51, oI 1, oI 1, oU] [(.int 1)])
        have hc287 : ¬ ((1 : Int32) = (0 : Int32)) := by decide
        refine own_at (fun t k => XS.ifNo X53.here hx rfl (hb hby at_287) rfl (Jvm.Free.XT.i0_eq_f hc287) k) ?_
        show own_Go p e below KK T53 (mkF m 290 #[oI p1, oI p2, oJ p3, o2, oJ p4, o2, oN i1, oI 0, oI 1, oN i2, oN i3, oI (((Int32.ofNat i1) ||| (8 : Int32)) ||| (0 : Int32)), oN (1 + i1), oN (1 + i1), oN ((1 + i1) + i3), oR b29, oR r36, oR r48, .val .null, oR r51, oI 1, oI 1, oU] [])
        refine own_at (fun t k => XS.aload X53.here hx rfl (hb hby at_290) rfl rfl k) ?_
        show own_Go p e below KK T53 (mkF m 292 #[oI p1, oI p2, oJ p3, o2, oJ p4, o2, oN i1, oI 0, oI 1, oN i2, oN i3, oI (((Int32.ofNat i1) ||| (8 : Int32)) ||| (0 : Int32)), oN (1 + i1), oN (1 + i1), oN ((1 + i1) + i3), oR b29, oR r36, oR r48, .val .null, oR r51, oI 1, oI 1, oU] [(.ref r51)])
        refine own_at (fun t k => XS.aload X53.here hx rfl (hb hby at_292) rfl rfl k) ?_
        show own_Go p e below KK T53 (mkF m 294 #[oI p1, oI p2, oJ p3, o2, oJ p4, o2, oN i1, oI 0, oI 1, oN i2, oN i3, oI (((Int32.ofNat i1) ||| (8 : Int32)) ||| (0 : Int32)), oN (1 + i1), oN (1 + i1), oN ((1 + i1) + i3), oR b29, oR r36, oR r48, .val .null, oR r51, oI 1, oI 1, oU] [(.ref b29), (.ref r51)])
        refine own_at (fun t k => XS.iload X53.here hx rfl (hb hby at_294) rfl k) ?_
        show own_Go p e below KK T53 (mkF m 296 #[oI p1, oI p2, oJ p3, o2, oJ p4, o2, oN i1, oI 0, oI 1, oN i2, oN i3, oI (((Int32.ofNat i1) ||| (8 : Int32)) ||| (0 : Int32)), oN (1 + i1), oN (1 + i1), oN ((1 + i1) + i3), oR b29, oR r36, oR r48, .val .null, oR r51, oI 1, oI 1, oU] [(.int (Int32.ofNat (1 + i1))), (.ref b29), (.ref r51)])
        refine own_at (fun t k => XS.iload X53.here hx rfl (hb hby at_296) rfl k) ?_
        show own_Go p e below KK T53 (mkF m 298 #[oI p1, oI p2, oJ p3, o2, oJ p4, o2, oN i1, oI 0, oI 1, oN i2, oN i3, oI (((Int32.ofNat i1) ||| (8 : Int32)) ||| (0 : Int32)), oN (1 + i1), oN (1 + i1), oN ((1 + i1) + i3), oR b29, oR r36, oR r48, .val .null, oR r51, oI 1, oI 1, oU] [(.int (Int32.ofNat i3)), (.int (Int32.ofNat (1 + i1))), (.ref b29), (.ref r51)])
        obtain ⟨_, _, ⟨T54, L54, k54, n54⟩, -, X54, ⟨Lc54, hQ54, l54, y54, z54⟩, st54⟩ := Jvm.LawKit.callS X53 hx (y := (⟨"com/example/isimud/isimud/oscore/OscoreOptionReadPinLaw", "same", "([B[BII)Z"⟩ : MethodName)) hown (mvT hZ (hw _ (List.mem_of_getElem? (i := 69) rfl))) (mvT hZ (hw _ (List.mem_of_getElem? (i := 70) rfl))) (mvT hZ (hw _ (List.mem_of_getElem? (i := 4) rfl))) (mvT hZ (hw _ (List.mem_of_getElem? (i := 71) rfl))) (by decide) (backOf (W := 0) (rm_same l Z a0 hw [] r51 b29 (1 + i1) i3 us T51.heap n0 Zs51 (by omega) (by rw [show i3 = us.length - (1 + i1) from by omega]; exact A52_r51) A35_b29_h51 (by omega) (by omega)) hZ (hw _ (List.mem_of_getElem? (i := 71) rfl)) (hw _ (List.mem_of_getElem? (i := 4) rfl)) (by decide) (by decide)) (g := (mkF m 298 #[oI p1, oI p2, oJ p3, o2, oJ p4, o2, oN i1, oI 0, oI 1, oN i2, oN i3, oI (((Int32.ofNat i1) ||| (8 : Int32)) ||| (0 : Int32)), oN (1 + i1), oN (1 + i1), oN ((1 + i1) + i3), oR b29, oR r36, oR r48, .val .null, oR r51, oI 1, oI 1, oU] [(.int (Int32.ofNat i3)), (.int (Int32.ofNat (1 + i1))), (.ref b29), (.ref r51)])) rfl (by rw [hml]; rfl) (argsL := [(.ref r51), (.ref b29), (.int (Int32.ofNat (1 + i1))), (.int (Int32.ofNat i3))]) (rest := []) (lenOf pd___B_BII_Z rfl) rfl (by show 2 * 0 + _ ≤ _; exact Nat.le_of_eq rfl) (hb hby at_298) (fun _ _ => ⟨rfl, e53, (by decide : 7 + 0 ≤ _), (by decide : 81 + 0 ≤ _)⟩)
        dsimp only [Pt.U, Pt.locs, Pt.cells, Pt.slots] at X54 l54 y54 z54 st54 hQ54
        subst l54 y54 z54
        obtain ⟨rfl, N54q, e54⟩ := hQ54
        have N54 := Fr.app N53 N54q
        refine own_of (fun t k => st54 t k) ?_
        show own_Go p e below KK T54 (mkF m 301 #[oI p1, oI p2, oJ p3, o2, oJ p4, o2, oN i1, oI 0, oI 1, oN i2, oN i3, oI (((Int32.ofNat i1) ||| (8 : Int32)) ||| (0 : Int32)), oN (1 + i1), oN (1 + i1), oN ((1 + i1) + i3), oR b29, oR r36, oR r48, .val .null, oR r51, oI 1, oI 1, oU] [(.int 1)])
        refine own_at (fun t k => XS.goto X54.here hx rfl (pc0 := 301) (pc' := 314) rfl (hb hby at_301) (by decide) (by decide) k) ?_
        show own_Go p e below KK T54 (mkF m 314 #[oI p1, oI p2, oJ p3, o2, oJ p4, o2, oN i1, oI 0, oI 1, oN i2, oN i3, oI (((Int32.ofNat i1) ||| (8 : Int32)) ||| (0 : Int32)), oN (1 + i1), oN (1 + i1), oN ((1 + i1) + i3), oR b29, oR r36, oR r48, .val .null, oR r51, oI 1, oI 1, oU] [(.int 1)])
        refine own_at (fun t k => XS.istore X54.here hx rfl (hb hby at_314) rfl (l' := #[oI p1, oI p2, oJ p3, o2, oJ p4, o2, oN i1, oI 0, oI 1, oN i2, oN i3, oI (((Int32.ofNat i1) ||| (8 : Int32)) ||| (0 : Int32)), oN (1 + i1), oN (1 + i1), oN ((1 + i1) + i3), oR b29, oR r36, oR r48, .val .null, oR r51, oI 1, oI 1, oI 1]) rfl k) ?_
        show own_Go p e below KK T54 (mkF m 316 #[oI p1, oI p2, oJ p3, o2, oJ p4, o2, oN i1, oI 0, oI 1, oN i2, oN i3, oI (((Int32.ofNat i1) ||| (8 : Int32)) ||| (0 : Int32)), oN (1 + i1), oN (1 + i1), oN ((1 + i1) + i3), oR b29, oR r36, oR r48, .val .null, oR r51, oI 1, oI 1, oI 1] [])
        refine own_at (fun t k => XS.iload X54.here hx rfl (hb hby at_316) rfl k) ?_
        show own_Go p e below KK T54 (mkF m 318 #[oI p1, oI p2, oJ p3, o2, oJ p4, o2, oN i1, oI 0, oI 1, oN i2, oN i3, oI (((Int32.ofNat i1) ||| (8 : Int32)) ||| (0 : Int32)), oN (1 + i1), oN (1 + i1), oN ((1 + i1) + i3), oR b29, oR r36, oR r48, .val .null, oR r51, oI 1, oI 1, oI 1] [(.int 1)])
        have hc318 : ¬ ((1 : Int32) = (0 : Int32)) := by decide
        refine own_at (fun t k => XS.ifNo X54.here hx rfl (hb hby at_318) rfl (Jvm.Free.XT.i0_eq_f hc318) k) ?_
        show own_Go p e below KK T54 (mkF m 321 #[oI p1, oI p2, oJ p3, o2, oJ p4, o2, oN i1, oI 0, oI 1, oN i2, oN i3, oI (((Int32.ofNat i1) ||| (8 : Int32)) ||| (0 : Int32)), oN (1 + i1), oN (1 + i1), oN ((1 + i1) + i3), oR b29, oR r36, oR r48, .val .null, oR r51, oI 1, oI 1, oI 1] [])
        refine own_at (fun t k => XS.iload X54.here hx rfl (hb hby at_321) rfl k) ?_
        show own_Go p e below KK T54 (mkF m 323 #[oI p1, oI p2, oJ p3, o2, oJ p4, o2, oN i1, oI 0, oI 1, oN i2, oN i3, oI (((Int32.ofNat i1) ||| (8 : Int32)) ||| (0 : Int32)), oN (1 + i1), oN (1 + i1), oN ((1 + i1) + i3), oR b29, oR r36, oR r48, .val .null, oR r51, oI 1, oI 1, oI 1] [(.int 1)])
        have hc323 : ¬ ((1 : Int32) = (0 : Int32)) := by decide
        refine own_at (fun t k => XS.ifNo X54.here hx rfl (hb hby at_323) rfl (Jvm.Free.XT.i0_eq_f hc323) k) ?_
        show own_Go p e below KK T54 (mkF m 326 #[oI p1, oI p2, oJ p3, o2, oJ p4, o2, oN i1, oI 0, oI 1, oN i2, oN i3, oI (((Int32.ofNat i1) ||| (8 : Int32)) ||| (0 : Int32)), oN (1 + i1), oN (1 + i1), oN ((1 + i1) + i3), oR b29, oR r36, oR r48, .val .null, oR r51, oI 1, oI 1, oI 1] [])
        refine own_at (fun t k => XS.iload X54.here hx rfl (hb hby at_326) rfl k) ?_
        show own_Go p e below KK T54 (mkF m 328 #[oI p1, oI p2, oJ p3, o2, oJ p4, o2, oN i1, oI 0, oI 1, oN i2, oN i3, oI (((Int32.ofNat i1) ||| (8 : Int32)) ||| (0 : Int32)), oN (1 + i1), oN (1 + i1), oN ((1 + i1) + i3), oR b29, oR r36, oR r48, .val .null, oR r51, oI 1, oI 1, oI 1] [(.int 1)])
        have hc328 : ¬ ((1 : Int32) = (0 : Int32)) := by decide
        refine own_at (fun t k => XS.ifNo X54.here hx rfl (hb hby at_328) rfl (Jvm.Free.XT.i0_eq_f hc328) k) ?_
        show own_Go p e below KK T54 (mkF m 331 #[oI p1, oI p2, oJ p3, o2, oJ p4, o2, oN i1, oI 0, oI 1, oN i2, oN i3, oI (((Int32.ofNat i1) ||| (8 : Int32)) ||| (0 : Int32)), oN (1 + i1), oN (1 + i1), oN ((1 + i1) + i3), oR b29, oR r36, oR r48, .val .null, oR r51, oI 1, oI 1, oI 1] [])
        refine own_at (fun t k => XS.iconst X54.here hx rfl (hb hby at_331) k) ?_
        show own_Go p e below KK T54 (mkF m 332 #[oI p1, oI p2, oJ p3, o2, oJ p4, o2, oN i1, oI 0, oI 1, oN i2, oN i3, oI (((Int32.ofNat i1) ||| (8 : Int32)) ||| (0 : Int32)), oN (1 + i1), oN (1 + i1), oN ((1 + i1) + i3), oR b29, oR r36, oR r48, .val .null, oR r51, oI 1, oI 1, oI 1] [(.int 1)])
        refine own_at (fun t k => XS.goto X54.here hx rfl (pc0 := 332) (pc' := 336) rfl (hb hby at_332) (by decide) (by decide) k) ?_
        show own_Go p e below KK T54 (mkF m 336 #[oI p1, oI p2, oJ p3, o2, oJ p4, o2, oN i1, oI 0, oI 1, oN i2, oN i3, oI (((Int32.ofNat i1) ||| (8 : Int32)) ||| (0 : Int32)), oN (1 + i1), oN (1 + i1), oN ((1 + i1) + i3), oR b29, oR r36, oR r48, .val .null, oR r51, oI 1, oI 1, oI 1] [(.int 1)])
        subst hKK
        exact own_retN X54 hx hlk (t := .boolean) Bd.returns (by simp) (hb hby at_336) (w := (1 : Int32)) (show nar .boolean (1 : Int32) = 1 from by decide) ⟨rfl, N54⟩ (Nat.le_of_ble_eq_true rfl) (Nat.le_of_ble_eq_true rfl)
  · refine own_at (fun t k => XS.ifNo X0.here hx rfl (hb hby at_12) rfl (Jvm.Free.XT.i0_eq_f hc12) k) ?_
    show own_Go p e below KK s₁ (mkF m 15 #[oI p1, oI p2, oJ p3, o2, oJ p4, o2, oN i1, oU, oU, oU, oU, oU, oU, oU, oU, oU, oU, oU, oU, oU, oU, oU, oU] [])
    refine own_at (fun t k => XS.iconst X0.here hx rfl (hb hby at_15) k) ?_
    show own_Go p e below KK s₁ (mkF m 16 #[oI p1, oI p2, oJ p3, o2, oJ p4, o2, oN i1, oU, oU, oU, oU, oU, oU, oU, oU, oU, oU, oU, oU, oU, oU, oU, oU] [(.int 1)])
    refine own_at (fun t k => XS.goto X0.here hx rfl (pc0 := 16) (pc' := 20) rfl (hb hby at_16) (by decide) (by decide) k) ?_
    show own_Go p e below KK s₁ (mkF m 20 #[oI p1, oI p2, oJ p3, o2, oJ p4, o2, oN i1, oU, oU, oU, oU, oU, oU, oU, oU, oU, oU, oU, oU, oU, oU, oU, oU] [(.int 1)])
    refine own_at (fun t k => XS.istore X0.here hx rfl (hb hby at_20) rfl (l' := #[oI p1, oI p2, oJ p3, o2, oJ p4, o2, oN i1, oI 1, oU, oU, oU, oU, oU, oU, oU, oU, oU, oU, oU, oU, oU, oU, oU]) rfl k) ?_
    show own_Go p e below KK s₁ (mkF m 22 #[oI p1, oI p2, oJ p3, o2, oJ p4, o2, oN i1, oI 1, oU, oU, oU, oU, oU, oU, oU, oU, oU, oU, oU, oU, oU, oU, oU] [])
    refine own_at (fun t k => XS.iloadN X0.here hx rfl (hb hby at_22) rfl k) ?_
    show own_Go p e below KK s₁ (mkF m 23 #[oI p1, oI p2, oJ p3, o2, oJ p4, o2, oN i1, oI 1, oU, oU, oU, oU, oU, oU, oU, oU, oU, oU, oU, oU, oU, oU, oU] [(.int p2)])
    refine own_at (fun t k => XS.iconst X0.here hx rfl (hb hby at_23) k) ?_
    show own_Go p e below KK s₁ (mkF m 24 #[oI p1, oI p2, oJ p3, o2, oJ p4, o2, oN i1, oI 1, oU, oU, oU, oU, oU, oU, oU, oU, oU, oU, oU, oU, oU, oU, oU] [(.int 2), (.int p2)])
    refine own_at (fun t k => XS.iand X0.here hx rfl (hb hby at_24) rfl k) ?_
    show own_Go p e below KK s₁ (mkF m 25 #[oI p1, oI p2, oJ p3, o2, oJ p4, o2, oN i1, oI 1, oU, oU, oU, oU, oU, oU, oU, oU, oU, oU, oU, oU, oU, oU, oU] [(.int (p2 &&& (2 : Int32)))])
    by_cases hc25 : (p2 &&& (2 : Int32)) = (0 : Int32)
    · refine own_at (fun t k => XS.ifYes X0.here hx rfl (pc0 := 25) (pc' := 32) rfl (hb hby at_25) rfl (Jvm.Free.XT.i0_eq_t hc25) (by decide) (by decide) k) ?_
      show own_Go p e below KK s₁ (mkF m 32 #[oI p1, oI p2, oJ p3, o2, oJ p4, o2, oN i1, oI 1, oU, oU, oU, oU, oU, oU, oU, oU, oU, oU, oU, oU, oU, oU, oU] [])
      refine own_at (fun t k => XS.iconst X0.here hx rfl (hb hby at_32) k) ?_
      show own_Go p e below KK s₁ (mkF m 33 #[oI p1, oI p2, oJ p3, o2, oJ p4, o2, oN i1, oI 1, oU, oU, oU, oU, oU, oU, oU, oU, oU, oU, oU, oU, oU, oU, oU] [(.int 0)])
      refine own_at (fun t k => XS.istore X0.here hx rfl (hb hby at_33) rfl (l' := #[oI p1, oI p2, oJ p3, o2, oJ p4, o2, oN i1, oI 1, oI 0, oU, oU, oU, oU, oU, oU, oU, oU, oU, oU, oU, oU, oU, oU]) rfl k) ?_
      show own_Go p e below KK s₁ (mkF m 35 #[oI p1, oI p2, oJ p3, o2, oJ p4, o2, oN i1, oI 1, oI 0, oU, oU, oU, oU, oU, oU, oU, oU, oU, oU, oU, oU, oU, oU] [])
      refine own_at (fun t k => XS.iloadN X0.here hx rfl (hb hby at_35) rfl k) ?_
      show own_Go p e below KK s₁ (mkF m 36 #[oI p1, oI p2, oJ p3, o2, oJ p4, o2, oN i1, oI 1, oI 0, oU, oU, oU, oU, oU, oU, oU, oU, oU, oU, oU, oU, oU, oU] [(.int p2)])
      refine own_at (fun t k => XS.iconst X0.here hx rfl (hb hby at_36) k) ?_
      show own_Go p e below KK s₁ (mkF m 37 #[oI p1, oI p2, oJ p3, o2, oJ p4, o2, oN i1, oI 1, oI 0, oU, oU, oU, oU, oU, oU, oU, oU, oU, oU, oU, oU, oU, oU] [(.int 2), (.int p2)])
      refine own_at (fun t k => XS.iushr X0.here hx rfl (hb hby at_37) rfl k) ?_
      show own_Go p e below KK s₁ (mkF m 38 #[oI p1, oI p2, oJ p3, o2, oJ p4, o2, oN i1, oI 1, oI 0, oU, oU, oU, oU, oU, oU, oU, oU, oU, oU, oU, oU, oU, oU] [(.int ((p2.toUInt32 >>> ((2 : Int32) &&& 31).toUInt32).toInt32))])
      refine own_at (fun t k => XS.iconst X0.here hx rfl (hb hby at_38) k) ?_
      show own_Go p e below KK s₁ (mkF m 39 #[oI p1, oI p2, oJ p3, o2, oJ p4, o2, oN i1, oI 1, oI 0, oU, oU, oU, oU, oU, oU, oU, oU, oU, oU, oU, oU, oU, oU] [(.int 3), (.int ((p2.toUInt32 >>> ((2 : Int32) &&& 31).toUInt32).toInt32))])
      refine own_at (fun t k => XS.iand X0.here hx rfl (hb hby at_39) rfl k) ?_
      show own_Go p e below KK s₁ (mkF m 40 #[oI p1, oI p2, oJ p3, o2, oJ p4, o2, oN i1, oI 1, oI 0, oU, oU, oU, oU, oU, oU, oU, oU, oU, oU, oU, oU, oU, oU] [(.int (((p2.toUInt32 >>> ((2 : Int32) &&& 31).toUInt32).toInt32) &&& (3 : Int32)))])
      obtain ⟨nb, hnb⟩ : ∃ z, z = (((p2.toUInt32 >>> ((2 : Int32) &&& 31).toUInt32).toInt32) &&& (3 : Int32)) := ⟨_, rfl⟩
      rw [← hnb]
      show own_Go p e below KK s₁ (mkF m 40 #[oI p1, oI p2, oJ p3, o2, oJ p4, o2, oN i1, oI 1, oI 0, oU, oU, oU, oU, oU, oU, oU, oU, oU, oU, oU, oU, oU, oU] [(.int nb)])
      obtain ⟨i2, hi2, ei2⟩ := own_n3 hnb
      subst ei2
      show own_Go p e below KK s₁ (mkF m 40 #[oI p1, oI p2, oJ p3, o2, oJ p4, o2, oN i1, oI 1, oI 0, oU, oU, oU, oU, oU, oU, oU, oU, oU, oU, oU, oU, oU, oU] [(.int (Int32.ofNat i2))])
      refine own_at (fun t k => XS.istore X0.here hx rfl (hb hby at_40) rfl (l' := #[oI p1, oI p2, oJ p3, o2, oJ p4, o2, oN i1, oI 1, oI 0, oN i2, oU, oU, oU, oU, oU, oU, oU, oU, oU, oU, oU, oU, oU]) rfl k) ?_
      show own_Go p e below KK s₁ (mkF m 42 #[oI p1, oI p2, oJ p3, o2, oJ p4, o2, oN i1, oI 1, oI 0, oN i2, oU, oU, oU, oU, oU, oU, oU, oU, oU, oU, oU, oU, oU] [])
      refine own_at (fun t k => XS.iloadN X0.here hx rfl (hb hby at_42) rfl k) ?_
      show own_Go p e below KK s₁ (mkF m 43 #[oI p1, oI p2, oJ p3, o2, oJ p4, o2, oN i1, oI 1, oI 0, oN i2, oU, oU, oU, oU, oU, oU, oU, oU, oU, oU, oU, oU, oU] [(.int p2)])
      refine own_at (fun t k => XS.iconst X0.here hx rfl (hb hby at_43) k) ?_
      show own_Go p e below KK s₁ (mkF m 44 #[oI p1, oI p2, oJ p3, o2, oJ p4, o2, oN i1, oI 1, oI 0, oN i2, oU, oU, oU, oU, oU, oU, oU, oU, oU, oU, oU, oU, oU] [(.int 4), (.int p2)])
      refine own_at (fun t k => XS.iushr X0.here hx rfl (hb hby at_44) rfl k) ?_
      show own_Go p e below KK s₁ (mkF m 45 #[oI p1, oI p2, oJ p3, o2, oJ p4, o2, oN i1, oI 1, oI 0, oN i2, oU, oU, oU, oU, oU, oU, oU, oU, oU, oU, oU, oU, oU] [(.int ((p2.toUInt32 >>> ((4 : Int32) &&& 31).toUInt32).toInt32))])
      refine own_at (fun t k => XS.iconst X0.here hx rfl (hb hby at_45) k) ?_
      show own_Go p e below KK s₁ (mkF m 46 #[oI p1, oI p2, oJ p3, o2, oJ p4, o2, oN i1, oI 1, oI 0, oN i2, oU, oU, oU, oU, oU, oU, oU, oU, oU, oU, oU, oU, oU] [(.int 3), (.int ((p2.toUInt32 >>> ((4 : Int32) &&& 31).toUInt32).toInt32))])
      refine own_at (fun t k => XS.iand X0.here hx rfl (hb hby at_46) rfl k) ?_
      show own_Go p e below KK s₁ (mkF m 47 #[oI p1, oI p2, oJ p3, o2, oJ p4, o2, oN i1, oI 1, oI 0, oN i2, oU, oU, oU, oU, oU, oU, oU, oU, oU, oU, oU, oU, oU] [(.int (((p2.toUInt32 >>> ((4 : Int32) &&& 31).toUInt32).toInt32) &&& (3 : Int32)))])
      obtain ⟨nc, hnc⟩ : ∃ z, z = (((p2.toUInt32 >>> ((4 : Int32) &&& 31).toUInt32).toInt32) &&& (3 : Int32)) := ⟨_, rfl⟩
      rw [← hnc]
      show own_Go p e below KK s₁ (mkF m 47 #[oI p1, oI p2, oJ p3, o2, oJ p4, o2, oN i1, oI 1, oI 0, oN i2, oU, oU, oU, oU, oU, oU, oU, oU, oU, oU, oU, oU, oU] [(.int nc)])
      obtain ⟨i3, hi3, ei3⟩ := own_n3 hnc
      subst ei3
      show own_Go p e below KK s₁ (mkF m 47 #[oI p1, oI p2, oJ p3, o2, oJ p4, o2, oN i1, oI 1, oI 0, oN i2, oU, oU, oU, oU, oU, oU, oU, oU, oU, oU, oU, oU, oU] [(.int (Int32.ofNat i3))])
      refine own_at (fun t k => XS.istore X0.here hx rfl (hb hby at_47) rfl (l' := #[oI p1, oI p2, oJ p3, o2, oJ p4, o2, oN i1, oI 1, oI 0, oN i2, oN i3, oU, oU, oU, oU, oU, oU, oU, oU, oU, oU, oU, oU]) rfl k) ?_
      show own_Go p e below KK s₁ (mkF m 49 #[oI p1, oI p2, oJ p3, o2, oJ p4, o2, oN i1, oI 1, oI 0, oN i2, oN i3, oU, oU, oU, oU, oU, oU, oU, oU, oU, oU, oU, oU] [])
      refine own_at (fun t k => XS.iload X0.here hx rfl (hb hby at_49) rfl k) ?_
      show own_Go p e below KK s₁ (mkF m 51 #[oI p1, oI p2, oJ p3, o2, oJ p4, o2, oN i1, oI 1, oI 0, oN i2, oN i3, oU, oU, oU, oU, oU, oU, oU, oU, oU, oU, oU, oU] [(.int (Int32.ofNat i1))])
      refine own_at (fun t k => XS.iload X0.here hx rfl (hb hby at_51) rfl k) ?_
      show own_Go p e below KK s₁ (mkF m 53 #[oI p1, oI p2, oJ p3, o2, oJ p4, o2, oN i1, oI 1, oI 0, oN i2, oN i3, oU, oU, oU, oU, oU, oU, oU, oU, oU, oU, oU, oU] [(.int 0), (.int (Int32.ofNat i1))])
      have hc53 : (0 : Int32) = (0 : Int32) := by decide
      refine own_at (fun t k => XS.ifYes X0.here hx rfl (pc0 := 53) (pc' := 61) rfl (hb hby at_53) rfl (Jvm.Free.XT.i0_eq_t hc53) (by decide) (by decide) k) ?_
      show own_Go p e below KK s₁ (mkF m 61 #[oI p1, oI p2, oJ p3, o2, oJ p4, o2, oN i1, oI 1, oI 0, oN i2, oN i3, oU, oU, oU, oU, oU, oU, oU, oU, oU, oU, oU, oU] [(.int (Int32.ofNat i1))])
      refine own_at (fun t k => XS.iconst X0.here hx rfl (hb hby at_61) k) ?_
      show own_Go p e below KK s₁ (mkF m 62 #[oI p1, oI p2, oJ p3, o2, oJ p4, o2, oN i1, oI 1, oI 0, oN i2, oN i3, oU, oU, oU, oU, oU, oU, oU, oU, oU, oU, oU, oU] [(.int 0), (.int (Int32.ofNat i1))])
      refine own_at (fun t k => XS.ior X0.here hx rfl (hb hby at_62) rfl k) ?_
      show own_Go p e below KK s₁ (mkF m 63 #[oI p1, oI p2, oJ p3, o2, oJ p4, o2, oN i1, oI 1, oI 0, oN i2, oN i3, oU, oU, oU, oU, oU, oU, oU, oU, oU, oU, oU, oU] [(.int ((Int32.ofNat i1) ||| (0 : Int32)))])
      refine own_at (fun t k => XS.iload X0.here hx rfl (hb hby at_63) rfl k) ?_
      show own_Go p e below KK s₁ (mkF m 65 #[oI p1, oI p2, oJ p3, o2, oJ p4, o2, oN i1, oI 1, oI 0, oN i2, oN i3, oU, oU, oU, oU, oU, oU, oU, oU, oU, oU, oU, oU] [(.int 1), (.int ((Int32.ofNat i1) ||| (0 : Int32)))])
      have hc65 : ¬ ((1 : Int32) = (0 : Int32)) := by decide
      refine own_at (fun t k => XS.ifNo X0.here hx rfl (hb hby at_65) rfl (Jvm.Free.XT.i0_eq_f hc65) k) ?_
      show own_Go p e below KK s₁ (mkF m 68 #[oI p1, oI p2, oJ p3, o2, oJ p4, o2, oN i1, oI 1, oI 0, oN i2, oN i3, oU, oU, oU, oU, oU, oU, oU, oU, oU, oU, oU, oU] [(.int ((Int32.ofNat i1) ||| (0 : Int32)))])
      refine own_at (fun t k => XS.bipush X0.here hx rfl (hb hby at_68) k) ?_
      show own_Go p e below KK s₁ (mkF m 70 #[oI p1, oI p2, oJ p3, o2, oJ p4, o2, oN i1, oI 1, oI 0, oN i2, oN i3, oU, oU, oU, oU, oU, oU, oU, oU, oU, oU, oU, oU] [(.int 16), (.int ((Int32.ofNat i1) ||| (0 : Int32)))])
      refine own_at (fun t k => XS.goto X0.here hx rfl (pc0 := 70) (pc' := 74) rfl (hb hby at_70) (by decide) (by decide) k) ?_
      show own_Go p e below KK s₁ (mkF m 74 #[oI p1, oI p2, oJ p3, o2, oJ p4, o2, oN i1, oI 1, oI 0, oN i2, oN i3, oU, oU, oU, oU, oU, oU, oU, oU, oU, oU, oU, oU] [(.int 16), (.int ((Int32.ofNat i1) ||| (0 : Int32)))])
      refine own_at (fun t k => XS.ior X0.here hx rfl (hb hby at_74) rfl k) ?_
      show own_Go p e below KK s₁ (mkF m 75 #[oI p1, oI p2, oJ p3, o2, oJ p4, o2, oN i1, oI 1, oI 0, oN i2, oN i3, oU, oU, oU, oU, oU, oU, oU, oU, oU, oU, oU, oU] [(.int (((Int32.ofNat i1) ||| (0 : Int32)) ||| (16 : Int32)))])
      refine own_at (fun t k => XS.istore X0.here hx rfl (hb hby at_75) rfl (l' := #[oI p1, oI p2, oJ p3, o2, oJ p4, o2, oN i1, oI 1, oI 0, oN i2, oN i3, oI (((Int32.ofNat i1) ||| (0 : Int32)) ||| (16 : Int32)), oU, oU, oU, oU, oU, oU, oU, oU, oU, oU, oU]) rfl k) ?_
      show own_Go p e below KK s₁ (mkF m 77 #[oI p1, oI p2, oJ p3, o2, oJ p4, o2, oN i1, oI 1, oI 0, oN i2, oN i3, oI (((Int32.ofNat i1) ||| (0 : Int32)) ||| (16 : Int32)), oU, oU, oU, oU, oU, oU, oU, oU, oU, oU, oU] [])
      refine own_at (fun t k => XS.iload X0.here hx rfl (hb hby at_77) rfl k) ?_
      show own_Go p e below KK s₁ (mkF m 79 #[oI p1, oI p2, oJ p3, o2, oJ p4, o2, oN i1, oI 1, oI 0, oN i2, oN i3, oI (((Int32.ofNat i1) ||| (0 : Int32)) ||| (16 : Int32)), oU, oU, oU, oU, oU, oU, oU, oU, oU, oU, oU] [(.int (((Int32.ofNat i1) ||| (0 : Int32)) ||| (16 : Int32)))])
      have hc79 : ¬ ((((Int32.ofNat i1) ||| (0 : Int32)) ||| (16 : Int32)) = (0 : Int32)) := own_nz10 hi1
      refine own_at (fun t k => XS.ifYes X0.here hx rfl (pc0 := 79) (pc' := 120) rfl (hb hby at_79) rfl (Jvm.Free.XT.i0_ne_t hc79) (by decide) (by decide) k) ?_
      show own_Go p e below KK s₁ (mkF m 120 #[oI p1, oI p2, oJ p3, o2, oJ p4, o2, oN i1, oI 1, oI 0, oN i2, oN i3, oI (((Int32.ofNat i1) ||| (0 : Int32)) ||| (16 : Int32)), oU, oU, oU, oU, oU, oU, oU, oU, oU, oU, oU] [])
      refine own_at (fun t k => XS.iconst X0.here hx rfl (hb hby at_120) k) ?_
      show own_Go p e below KK s₁ (mkF m 121 #[oI p1, oI p2, oJ p3, o2, oJ p4, o2, oN i1, oI 1, oI 0, oN i2, oN i3, oI (((Int32.ofNat i1) ||| (0 : Int32)) ||| (16 : Int32)), oU, oU, oU, oU, oU, oU, oU, oU, oU, oU, oU] [(.int 1)])
      refine own_at (fun t k => XS.iload X0.here hx rfl (hb hby at_121) rfl k) ?_
      show own_Go p e below KK s₁ (mkF m 123 #[oI p1, oI p2, oJ p3, o2, oJ p4, o2, oN i1, oI 1, oI 0, oN i2, oN i3, oI (((Int32.ofNat i1) ||| (0 : Int32)) ||| (16 : Int32)), oU, oU, oU, oU, oU, oU, oU, oU, oU, oU, oU] [(.int (Int32.ofNat i1)), (.int 1)])
      refine own_at (fun t k => XS.iadd X0.here hx rfl (hb hby at_123) rfl k) ?_
      show own_Go p e below KK s₁ (mkF m 124 #[oI p1, oI p2, oJ p3, o2, oJ p4, o2, oN i1, oI 1, oI 0, oN i2, oN i3, oI (((Int32.ofNat i1) ||| (0 : Int32)) ||| (16 : Int32)), oU, oU, oU, oU, oU, oU, oU, oU, oU, oU, oU] [(.int ((1 : Int32) + (Int32.ofNat i1)))])
      rw [show ((1 : Int32) + (Int32.ofNat i1)) = (Int32.ofNat (1 + i1)) from own_add 1 i1]
      show own_Go p e below KK s₁ (mkF m 124 #[oI p1, oI p2, oJ p3, o2, oJ p4, o2, oN i1, oI 1, oI 0, oN i2, oN i3, oI (((Int32.ofNat i1) ||| (0 : Int32)) ||| (16 : Int32)), oU, oU, oU, oU, oU, oU, oU, oU, oU, oU, oU] [(.int (Int32.ofNat (1 + i1)))])
      refine own_at (fun t k => XS.istore X0.here hx rfl (hb hby at_124) rfl (l' := #[oI p1, oI p2, oJ p3, o2, oJ p4, o2, oN i1, oI 1, oI 0, oN i2, oN i3, oI (((Int32.ofNat i1) ||| (0 : Int32)) ||| (16 : Int32)), oN (1 + i1), oU, oU, oU, oU, oU, oU, oU, oU, oU, oU]) rfl k) ?_
      show own_Go p e below KK s₁ (mkF m 126 #[oI p1, oI p2, oJ p3, o2, oJ p4, o2, oN i1, oI 1, oI 0, oN i2, oN i3, oI (((Int32.ofNat i1) ||| (0 : Int32)) ||| (16 : Int32)), oN (1 + i1), oU, oU, oU, oU, oU, oU, oU, oU, oU, oU] [])
      refine own_at (fun t k => XS.iload X0.here hx rfl (hb hby at_126) rfl k) ?_
      show own_Go p e below KK s₁ (mkF m 128 #[oI p1, oI p2, oJ p3, o2, oJ p4, o2, oN i1, oI 1, oI 0, oN i2, oN i3, oI (((Int32.ofNat i1) ||| (0 : Int32)) ||| (16 : Int32)), oN (1 + i1), oU, oU, oU, oU, oU, oU, oU, oU, oU, oU] [(.int (Int32.ofNat (1 + i1)))])
      refine own_at (fun t k => XS.iload X0.here hx rfl (hb hby at_128) rfl k) ?_
      show own_Go p e below KK s₁ (mkF m 130 #[oI p1, oI p2, oJ p3, o2, oJ p4, o2, oN i1, oI 1, oI 0, oN i2, oN i3, oI (((Int32.ofNat i1) ||| (0 : Int32)) ||| (16 : Int32)), oN (1 + i1), oU, oU, oU, oU, oU, oU, oU, oU, oU, oU] [(.int 1), (.int (Int32.ofNat (1 + i1)))])
      have hc130 : ¬ ((1 : Int32) = (0 : Int32)) := by decide
      refine own_at (fun t k => XS.ifNo X0.here hx rfl (hb hby at_130) rfl (Jvm.Free.XT.i0_eq_f hc130) k) ?_
      show own_Go p e below KK s₁ (mkF m 133 #[oI p1, oI p2, oJ p3, o2, oJ p4, o2, oN i1, oI 1, oI 0, oN i2, oN i3, oI (((Int32.ofNat i1) ||| (0 : Int32)) ||| (16 : Int32)), oN (1 + i1), oU, oU, oU, oU, oU, oU, oU, oU, oU, oU] [(.int (Int32.ofNat (1 + i1)))])
      refine own_at (fun t k => XS.iconst X0.here hx rfl (hb hby at_133) k) ?_
      show own_Go p e below KK s₁ (mkF m 134 #[oI p1, oI p2, oJ p3, o2, oJ p4, o2, oN i1, oI 1, oI 0, oN i2, oN i3, oI (((Int32.ofNat i1) ||| (0 : Int32)) ||| (16 : Int32)), oN (1 + i1), oU, oU, oU, oU, oU, oU, oU, oU, oU, oU] [(.int 1), (.int (Int32.ofNat (1 + i1)))])
      refine own_at (fun t k => XS.iload X0.here hx rfl (hb hby at_134) rfl k) ?_
      show own_Go p e below KK s₁ (mkF m 136 #[oI p1, oI p2, oJ p3, o2, oJ p4, o2, oN i1, oI 1, oI 0, oN i2, oN i3, oI (((Int32.ofNat i1) ||| (0 : Int32)) ||| (16 : Int32)), oN (1 + i1), oU, oU, oU, oU, oU, oU, oU, oU, oU, oU] [(.int (Int32.ofNat i2)), (.int 1), (.int (Int32.ofNat (1 + i1)))])
      refine own_at (fun t k => XS.iadd X0.here hx rfl (hb hby at_136) rfl k) ?_
      show own_Go p e below KK s₁ (mkF m 137 #[oI p1, oI p2, oJ p3, o2, oJ p4, o2, oN i1, oI 1, oI 0, oN i2, oN i3, oI (((Int32.ofNat i1) ||| (0 : Int32)) ||| (16 : Int32)), oN (1 + i1), oU, oU, oU, oU, oU, oU, oU, oU, oU, oU] [(.int ((1 : Int32) + (Int32.ofNat i2))), (.int (Int32.ofNat (1 + i1)))])
      rw [show ((1 : Int32) + (Int32.ofNat i2)) = (Int32.ofNat (1 + i2)) from own_add 1 i2]
      show own_Go p e below KK s₁ (mkF m 137 #[oI p1, oI p2, oJ p3, o2, oJ p4, o2, oN i1, oI 1, oI 0, oN i2, oN i3, oI (((Int32.ofNat i1) ||| (0 : Int32)) ||| (16 : Int32)), oN (1 + i1), oU, oU, oU, oU, oU, oU, oU, oU, oU, oU] [(.int (Int32.ofNat (1 + i2))), (.int (Int32.ofNat (1 + i1)))])
      refine own_at (fun t k => XS.goto X0.here hx rfl (pc0 := 137) (pc' := 141) rfl (hb hby at_137) (by decide) (by decide) k) ?_
      show own_Go p e below KK s₁ (mkF m 141 #[oI p1, oI p2, oJ p3, o2, oJ p4, o2, oN i1, oI 1, oI 0, oN i2, oN i3, oI (((Int32.ofNat i1) ||| (0 : Int32)) ||| (16 : Int32)), oN (1 + i1), oU, oU, oU, oU, oU, oU, oU, oU, oU, oU] [(.int (Int32.ofNat (1 + i2))), (.int (Int32.ofNat (1 + i1)))])
      refine own_at (fun t k => XS.iadd X0.here hx rfl (hb hby at_141) rfl k) ?_
      show own_Go p e below KK s₁ (mkF m 142 #[oI p1, oI p2, oJ p3, o2, oJ p4, o2, oN i1, oI 1, oI 0, oN i2, oN i3, oI (((Int32.ofNat i1) ||| (0 : Int32)) ||| (16 : Int32)), oN (1 + i1), oU, oU, oU, oU, oU, oU, oU, oU, oU, oU] [(.int ((Int32.ofNat (1 + i1)) + (Int32.ofNat (1 + i2))))])
      rw [show ((Int32.ofNat (1 + i1)) + (Int32.ofNat (1 + i2))) = (Int32.ofNat ((1 + i1) + (1 + i2))) from own_add (1 + i1) (1 + i2)]
      show own_Go p e below KK s₁ (mkF m 142 #[oI p1, oI p2, oJ p3, o2, oJ p4, o2, oN i1, oI 1, oI 0, oN i2, oN i3, oI (((Int32.ofNat i1) ||| (0 : Int32)) ||| (16 : Int32)), oN (1 + i1), oU, oU, oU, oU, oU, oU, oU, oU, oU, oU] [(.int (Int32.ofNat ((1 + i1) + (1 + i2))))])
      refine own_at (fun t k => XS.istore X0.here hx rfl (hb hby at_142) rfl (l' := #[oI p1, oI p2, oJ p3, o2, oJ p4, o2, oN i1, oI 1, oI 0, oN i2, oN i3, oI (((Int32.ofNat i1) ||| (0 : Int32)) ||| (16 : Int32)), oN (1 + i1), oN ((1 + i1) + (1 + i2)), oU, oU, oU, oU, oU, oU, oU, oU, oU]) rfl k) ?_
      show own_Go p e below KK s₁ (mkF m 144 #[oI p1, oI p2, oJ p3, o2, oJ p4, o2, oN i1, oI 1, oI 0, oN i2, oN i3, oI (((Int32.ofNat i1) ||| (0 : Int32)) ||| (16 : Int32)), oN (1 + i1), oN ((1 + i1) + (1 + i2)), oU, oU, oU, oU, oU, oU, oU, oU, oU] [])
      refine own_at (fun t k => XS.iload X0.here hx rfl (hb hby at_144) rfl k) ?_
      show own_Go p e below KK s₁ (mkF m 146 #[oI p1, oI p2, oJ p3, o2, oJ p4, o2, oN i1, oI 1, oI 0, oN i2, oN i3, oI (((Int32.ofNat i1) ||| (0 : Int32)) ||| (16 : Int32)), oN (1 + i1), oN ((1 + i1) + (1 + i2)), oU, oU, oU, oU, oU, oU, oU, oU, oU] [(.int (Int32.ofNat ((1 + i1) + (1 + i2))))])
      refine own_at (fun t k => XS.iload X0.here hx rfl (hb hby at_146) rfl k) ?_
      show own_Go p e below KK s₁ (mkF m 148 #[oI p1, oI p2, oJ p3, o2, oJ p4, o2, oN i1, oI 1, oI 0, oN i2, oN i3, oI (((Int32.ofNat i1) ||| (0 : Int32)) ||| (16 : Int32)), oN (1 + i1), oN ((1 + i1) + (1 + i2)), oU, oU, oU, oU, oU, oU, oU, oU, oU] [(.int 0), (.int (Int32.ofNat ((1 + i1) + (1 + i2))))])
      have hc148 : (0 : Int32) = (0 : Int32) := by decide
      refine own_at (fun t k => XS.ifYes X0.here hx rfl (pc0 := 148) (pc' := 156) rfl (hb hby at_148) rfl (Jvm.Free.XT.i0_eq_t hc148) (by decide) (by decide) k) ?_
      show own_Go p e below KK s₁ (mkF m 156 #[oI p1, oI p2, oJ p3, o2, oJ p4, o2, oN i1, oI 1, oI 0, oN i2, oN i3, oI (((Int32.ofNat i1) ||| (0 : Int32)) ||| (16 : Int32)), oN (1 + i1), oN ((1 + i1) + (1 + i2)), oU, oU, oU, oU, oU, oU, oU, oU, oU] [(.int (Int32.ofNat ((1 + i1) + (1 + i2))))])
      refine own_at (fun t k => XS.iconst X0.here hx rfl (hb hby at_156) k) ?_
      show own_Go p e below KK s₁ (mkF m 157 #[oI p1, oI p2, oJ p3, o2, oJ p4, o2, oN i1, oI 1, oI 0, oN i2, oN i3, oI (((Int32.ofNat i1) ||| (0 : Int32)) ||| (16 : Int32)), oN (1 + i1), oN ((1 + i1) + (1 + i2)), oU, oU, oU, oU, oU, oU, oU, oU, oU] [(.int 0), (.int (Int32.ofNat ((1 + i1) + (1 + i2))))])
      refine own_at (fun t k => XS.iadd X0.here hx rfl (hb hby at_157) rfl k) ?_
      show own_Go p e below KK s₁ (mkF m 158 #[oI p1, oI p2, oJ p3, o2, oJ p4, o2, oN i1, oI 1, oI 0, oN i2, oN i3, oI (((Int32.ofNat i1) ||| (0 : Int32)) ||| (16 : Int32)), oN (1 + i1), oN ((1 + i1) + (1 + i2)), oU, oU, oU, oU, oU, oU, oU, oU, oU] [(.int ((Int32.ofNat ((1 + i1) + (1 + i2))) + (0 : Int32)))])
      rw [show ((Int32.ofNat ((1 + i1) + (1 + i2))) + (0 : Int32)) = (Int32.ofNat ((1 + i1) + (1 + i2))) from Int32.add_zero _]
      show own_Go p e below KK s₁ (mkF m 158 #[oI p1, oI p2, oJ p3, o2, oJ p4, o2, oN i1, oI 1, oI 0, oN i2, oN i3, oI (((Int32.ofNat i1) ||| (0 : Int32)) ||| (16 : Int32)), oN (1 + i1), oN ((1 + i1) + (1 + i2)), oU, oU, oU, oU, oU, oU, oU, oU, oU] [(.int (Int32.ofNat ((1 + i1) + (1 + i2))))])
      refine own_at (fun t k => XS.istore X0.here hx rfl (hb hby at_158) rfl (l' := #[oI p1, oI p2, oJ p3, o2, oJ p4, o2, oN i1, oI 1, oI 0, oN i2, oN i3, oI (((Int32.ofNat i1) ||| (0 : Int32)) ||| (16 : Int32)), oN (1 + i1), oN ((1 + i1) + (1 + i2)), oN ((1 + i1) + (1 + i2)), oU, oU, oU, oU, oU, oU, oU, oU]) rfl k) ?_
      show own_Go p e below KK s₁ (mkF m 160 #[oI p1, oI p2, oJ p3, o2, oJ p4, o2, oN i1, oI 1, oI 0, oN i2, oN i3, oI (((Int32.ofNat i1) ||| (0 : Int32)) ||| (16 : Int32)), oN (1 + i1), oN ((1 + i1) + (1 + i2)), oN ((1 + i1) + (1 + i2)), oU, oU, oU, oU, oU, oU, oU, oU] [])
      refine own_at (fun t k => XS.iload X0.here hx rfl (hb hby at_160) rfl k) ?_
      show own_Go p e below KK s₁ (mkF m 162 #[oI p1, oI p2, oJ p3, o2, oJ p4, o2, oN i1, oI 1, oI 0, oN i2, oN i3, oI (((Int32.ofNat i1) ||| (0 : Int32)) ||| (16 : Int32)), oN (1 + i1), oN ((1 + i1) + (1 + i2)), oN ((1 + i1) + (1 + i2)), oU, oU, oU, oU, oU, oU, oU, oU] [(.int (Int32.ofNat ((1 + i1) + (1 + i2))))])
      obtain ⟨T55, h55, X55, e55, E55, V55, st55⟩ := own_newA X0 hx hZ (hw _ (List.mem_of_getElem? (i := 1) rfl)) e0 (g := (mkF m 162 #[oI p1, oI p2, oJ p3, o2, oJ p4, o2, oN i1, oI 1, oI 0, oN i2, oN i3, oI (((Int32.ofNat i1) ||| (0 : Int32)) ||| (16 : Int32)), oN (1 + i1), oN ((1 + i1) + (1 + i2)), oN ((1 + i1) + (1 + i2)), oU, oU, oU, oU, oU, oU, oU, oU] [(.int (Int32.ofNat ((1 + i1) + (1 + i2))))])) rfl (hb hby at_162) rfl (own_ofNat (by omega)).2.1 (N := ((1 + i1) + (1 + i2))) (own_ofNat (by omega)).1 (cap := 13) (by omega) (by decide) (by decide) (by decide) (d := "[B") (by first | rfl | decide +kernel) (vs := ((List.replicate ((1 + i1) + (1 + i2)) (0 : Int32)).map Value.int)) (by rw [List.map_replicate]; rfl)
      obtain ⟨b55, g55⟩ : ∃ z, z = h0.size := ⟨_, rfl⟩
      rw [← g55] at V55 st55
      have g_b55 : n0 ≤ b55 := by rw [g55]; exact Z0
      have Zs55 : n0 ≤ h55.size := Nat.le_trans Z0 E55.1
      have A56_b55 : own_A Z h55 b55 "[B" .byte ((List.replicate ((1 + i1) + (1 + i2)) (0 : Int32)).map Value.int) := V55
      refine own_of (fun t k => st55 t k) ?_
      show own_Go p e below KK T55 (mkF m 164 #[oI p1, oI p2, oJ p3, o2, oJ p4, o2, oN i1, oI 1, oI 0, oN i2, oN i3, oI (((Int32.ofNat i1) ||| (0 : Int32)) ||| (16 : Int32)), oN (1 + i1), oN ((1 + i1) + (1 + i2)), oN ((1 + i1) + (1 + i2)), oU, oU, oU, oU, oU, oU, oU, oU] [(.ref b55)])
      refine own_at (fun t k => XS.astore X55.here hx rfl (hb hby at_164) rfl rfl (l' := #[oI p1, oI p2, oJ p3, o2, oJ p4, o2, oN i1, oI 1, oI 0, oN i2, oN i3, oI (((Int32.ofNat i1) ||| (0 : Int32)) ||| (16 : Int32)), oN (1 + i1), oN ((1 + i1) + (1 + i2)), oN ((1 + i1) + (1 + i2)), oR b55, oU, oU, oU, oU, oU, oU, oU]) rfl k) ?_
      show own_Go p e below KK T55 (mkF m 166 #[oI p1, oI p2, oJ p3, o2, oJ p4, o2, oN i1, oI 1, oI 0, oN i2, oN i3, oI (((Int32.ofNat i1) ||| (0 : Int32)) ||| (16 : Int32)), oN (1 + i1), oN ((1 + i1) + (1 + i2)), oN ((1 + i1) + (1 + i2)), oR b55, oU, oU, oU, oU, oU, oU, oU] [])
      refine own_at (fun t k => XS.aload X55.here hx rfl (hb hby at_166) rfl rfl k) ?_
      show own_Go p e below KK T55 (mkF m 168 #[oI p1, oI p2, oJ p3, o2, oJ p4, o2, oN i1, oI 1, oI 0, oN i2, oN i3, oI (((Int32.ofNat i1) ||| (0 : Int32)) ||| (16 : Int32)), oN (1 + i1), oN ((1 + i1) + (1 + i2)), oN ((1 + i1) + (1 + i2)), oR b55, oU, oU, oU, oU, oU, oU, oU] [(.ref b55)])
      refine own_at (fun t k => XS.lloadN X55.here hx rfl (hb hby at_168) rfl k) ?_
      show own_Go p e below KK T55 (mkF m 169 #[oI p1, oI p2, oJ p3, o2, oJ p4, o2, oN i1, oI 1, oI 0, oN i2, oN i3, oI (((Int32.ofNat i1) ||| (0 : Int32)) ||| (16 : Int32)), oN (1 + i1), oN ((1 + i1) + (1 + i2)), oN ((1 + i1) + (1 + i2)), oR b55, oU, oU, oU, oU, oU, oU, oU] [(.long p3), (.ref b55)])
      refine own_at (fun t k => XS.lload X55.here hx rfl (hb hby at_169) rfl k) ?_
      show own_Go p e below KK T55 (mkF m 171 #[oI p1, oI p2, oJ p3, o2, oJ p4, o2, oN i1, oI 1, oI 0, oN i2, oN i3, oI (((Int32.ofNat i1) ||| (0 : Int32)) ||| (16 : Int32)), oN (1 + i1), oN ((1 + i1) + (1 + i2)), oN ((1 + i1) + (1 + i2)), oR b55, oU, oU, oU, oU, oU, oU, oU] [(.long p4), (.long p3), (.ref b55)])
      obtain ⟨_, _, ⟨T57, L57, k57, n57⟩, -, X57, ⟨Lc57, hQ57, l57, y57, z57⟩, st57⟩ := Jvm.LawKit.callS X55 hx (y := (⟨"com/example/isimud/isimud/oscore/OscoreOptionReadPinLaw", "fill", "([BJJ)V"⟩ : MethodName)) hown (mvT hZ (hw _ (List.mem_of_getElem? (i := 2) rfl))) (mvT hZ (hw _ (List.mem_of_getElem? (i := 3) rfl))) (mvT hZ (hw _ (List.mem_of_getElem? (i := 4) rfl))) (mvT hZ (hw _ (List.mem_of_getElem? (i := 5) rfl))) (by decide) (backOf (W := 0) (rm_fill l Z a0 hw [] b55 p3 p4 (List.replicate ((1 + i1) + (1 + i2)) (0 : Int32)) h55 n0 Zs55 A56_b55 (by rw [List.length_replicate]; omega) g_b55) hZ (hw _ (List.mem_of_getElem? (i := 5) rfl)) (hw _ (List.mem_of_getElem? (i := 4) rfl)) (by decide) (by decide)) (g := (mkF m 171 #[oI p1, oI p2, oJ p3, o2, oJ p4, o2, oN i1, oI 1, oI 0, oN i2, oN i3, oI (((Int32.ofNat i1) ||| (0 : Int32)) ||| (16 : Int32)), oN (1 + i1), oN ((1 + i1) + (1 + i2)), oN ((1 + i1) + (1 + i2)), oR b55, oU, oU, oU, oU, oU, oU, oU] [(.long p4), (.long p3), (.ref b55)])) rfl (by rw [hml]; rfl) (argsL := [(.ref b55), (.long p3), (.long p4)]) (rest := []) (lenOf pd___BJJ_V rfl) rfl (by show 2 * 0 + _ ≤ _; exact Nat.le_of_eq rfl) (hb hby at_171) (fun _ _ => ⟨rfl, e55, (by decide : 1 + 0 ≤ _), (by decide : 13 + 0 ≤ _)⟩)
      dsimp only [Pt.U, Pt.locs, Pt.cells, Pt.slots] at X57 l57 y57 z57 st57 hQ57
      subst l57 y57 z57
      obtain ⟨rfl, N57q, K57, u57, hu57, Aq57⟩ := hQ57
      rw [List.length_replicate] at hu57
      have Zs57 : n0 ≤ T57.heap.size := Nat.le_trans Zs55 K57.1
      have A58_b55 : own_A Z T57.heap b55 "[B" .byte (u57.map Value.int) := Aq57
      have N57 := Fr.app N0 N57q
      refine own_of (fun t k => st57 t k) ?_
      show own_Go p e below KK T57 (mkF m 174 #[oI p1, oI p2, oJ p3, o2, oJ p4, o2, oN i1, oI 1, oI 0, oN i2, oN i3, oI (((Int32.ofNat i1) ||| (0 : Int32)) ||| (16 : Int32)), oN (1 + i1), oN ((1 + i1) + (1 + i2)), oN ((1 + i1) + (1 + i2)), oR b55, oU, oU, oU, oU, oU, oU, oU] [])
      refine own_at (fun t k => XS.aload X57.here hx rfl (hb hby at_174) rfl rfl k) ?_
      show own_Go p e below KK T57 (mkF m 176 #[oI p1, oI p2, oJ p3, o2, oJ p4, o2, oN i1, oI 1, oI 0, oN i2, oN i3, oI (((Int32.ofNat i1) ||| (0 : Int32)) ||| (16 : Int32)), oN (1 + i1), oN ((1 + i1) + (1 + i2)), oN ((1 + i1) + (1 + i2)), oR b55, oU, oU, oU, oU, oU, oU, oU] [(.ref b55)])
      refine own_at (fun t k => XS.iconst X57.here hx rfl (hb hby at_176) k) ?_
      show own_Go p e below KK T57 (mkF m 177 #[oI p1, oI p2, oJ p3, o2, oJ p4, o2, oN i1, oI 1, oI 0, oN i2, oN i3, oI (((Int32.ofNat i1) ||| (0 : Int32)) ||| (16 : Int32)), oN (1 + i1), oN ((1 + i1) + (1 + i2)), oN ((1 + i1) + (1 + i2)), oR b55, oU, oU, oU, oU, oU, oU, oU] [(.int 0), (.ref b55)])
      refine own_at (fun t k => XS.iload X57.here hx rfl (hb hby at_177) rfl k) ?_
      show own_Go p e below KK T57 (mkF m 179 #[oI p1, oI p2, oJ p3, o2, oJ p4, o2, oN i1, oI 1, oI 0, oN i2, oN i3, oI (((Int32.ofNat i1) ||| (0 : Int32)) ||| (16 : Int32)), oN (1 + i1), oN ((1 + i1) + (1 + i2)), oN ((1 + i1) + (1 + i2)), oR b55, oU, oU, oU, oU, oU, oU, oU] [(.int (((Int32.ofNat i1) ||| (0 : Int32)) ||| (16 : Int32))), (.int 0), (.ref b55)])
      refine own_at (fun t k => XS.i2b X57.here hx rfl (hb hby at_179) rfl k) ?_
      show own_Go p e below KK T57 (mkF m 180 #[oI p1, oI p2, oJ p3, o2, oJ p4, o2, oN i1, oI 1, oI 0, oN i2, oN i3, oI (((Int32.ofNat i1) ||| (0 : Int32)) ||| (16 : Int32)), oN (1 + i1), oN ((1 + i1) + (1 + i2)), oN ((1 + i1) + (1 + i2)), oR b55, oU, oU, oU, oU, oU, oU, oU] [(.int ((((Int32.ofNat i1) ||| (0 : Int32)) ||| (16 : Int32)).toInt8.toInt32)), (.int 0), (.ref b55)])
      obtain ⟨T59, h59, X59, e59, W59, V59, st59⟩ := own_stB X57 hx hZ rfl A58_b55 (j := (0 : Int32)) (y := ((((Int32.ofNat i1) ||| (0 : Int32)) ||| (16 : Int32)).toInt8.toInt32)) (own_narB _) (i := 0) (by decide) (by decide) (by rw [List.length_map, hu57]; omega) (g := (mkF m 180 #[oI p1, oI p2, oJ p3, o2, oJ p4, o2, oN i1, oI 1, oI 0, oN i2, oN i3, oI (((Int32.ofNat i1) ||| (0 : Int32)) ||| (16 : Int32)), oN (1 + i1), oN ((1 + i1) + (1 + i2)), oN ((1 + i1) + (1 + i2)), oR b55, oU, oU, oU, oU, oU, oU, oU] [(.int ((((Int32.ofNat i1) ||| (0 : Int32)) ||| (16 : Int32)).toInt8.toInt32)), (.int 0), (.ref b55)])) rfl rfl (hb hby at_180)
      have N59 := Fr.snoc X59 N57 g_b55
      have Zs59 : n0 ≤ h59.size := (by rw [W59.size]; exact Zs57)
      have A60_b55 : own_A Z h59 b55 "[B" .byte ((u57.set 0 ((((Int32.ofNat i1) ||| (0 : Int32)) ||| (16 : Int32)).toInt8.toInt32)).map Value.int) := by rw [← own_mset]; exact V59
      refine own_of (fun t k => st59 t k) ?_
      show own_Go p e below KK T59 (mkF m 181 #[oI p1, oI p2, oJ p3, o2, oJ p4, o2, oN i1, oI 1, oI 0, oN i2, oN i3, oI (((Int32.ofNat i1) ||| (0 : Int32)) ||| (16 : Int32)), oN (1 + i1), oN ((1 + i1) + (1 + i2)), oN ((1 + i1) + (1 + i2)), oR b55, oU, oU, oU, oU, oU, oU, oU] [])
      refine own_at (fun t k => XS.iload X59.here hx rfl (hb hby at_181) rfl k) ?_
      show own_Go p e below KK T59 (mkF m 183 #[oI p1, oI p2, oJ p3, o2, oJ p4, o2, oN i1, oI 1, oI 0, oN i2, oN i3, oI (((Int32.ofNat i1) ||| (0 : Int32)) ||| (16 : Int32)), oN (1 + i1), oN ((1 + i1) + (1 + i2)), oN ((1 + i1) + (1 + i2)), oR b55, oU, oU, oU, oU, oU, oU, oU] [(.int 1)])
      have hc183 : ¬ ((1 : Int32) = (0 : Int32)) := by decide
      refine own_at (fun t k => XS.ifNo X59.here hx rfl (hb hby at_183) rfl (Jvm.Free.XT.i0_eq_f hc183) k) ?_
      show own_Go p e below KK T59 (mkF m 186 #[oI p1, oI p2, oJ p3, o2, oJ p4, o2, oN i1, oI 1, oI 0, oN i2, oN i3, oI (((Int32.ofNat i1) ||| (0 : Int32)) ||| (16 : Int32)), oN (1 + i1), oN ((1 + i1) + (1 + i2)), oN ((1 + i1) + (1 + i2)), oR b55, oU, oU, oU, oU, oU, oU, oU] [])
      refine own_at (fun t k => XS.aload X59.here hx rfl (hb hby at_186) rfl rfl k) ?_
      show own_Go p e below KK T59 (mkF m 188 #[oI p1, oI p2, oJ p3, o2, oJ p4, o2, oN i1, oI 1, oI 0, oN i2, oN i3, oI (((Int32.ofNat i1) ||| (0 : Int32)) ||| (16 : Int32)), oN (1 + i1), oN ((1 + i1) + (1 + i2)), oN ((1 + i1) + (1 + i2)), oR b55, oU, oU, oU, oU, oU, oU, oU] [(.ref b55)])
      refine own_at (fun t k => XS.iload X59.here hx rfl (hb hby at_188) rfl k) ?_
      show own_Go p e below KK T59 (mkF m 190 #[oI p1, oI p2, oJ p3, o2, oJ p4, o2, oN i1, oI 1, oI 0, oN i2, oN i3, oI (((Int32.ofNat i1) ||| (0 : Int32)) ||| (16 : Int32)), oN (1 + i1), oN ((1 + i1) + (1 + i2)), oN ((1 + i1) + (1 + i2)), oR b55, oU, oU, oU, oU, oU, oU, oU] [(.int (Int32.ofNat (1 + i1))), (.ref b55)])
      refine own_at (fun t k => XS.iload X59.here hx rfl (hb hby at_190) rfl k) ?_
      show own_Go p e below KK T59 (mkF m 192 #[oI p1, oI p2, oJ p3, o2, oJ p4, o2, oN i1, oI 1, oI 0, oN i2, oN i3, oI (((Int32.ofNat i1) ||| (0 : Int32)) ||| (16 : Int32)), oN (1 + i1), oN ((1 + i1) + (1 + i2)), oN ((1 + i1) + (1 + i2)), oR b55, oU, oU, oU, oU, oU, oU, oU] [(.int (Int32.ofNat i2)), (.int (Int32.ofNat (1 + i1))), (.ref b55)])
      refine own_at (fun t k => XS.i2b X59.here hx rfl (hb hby at_192) rfl k) ?_
      show own_Go p e below KK T59 (mkF m 193 #[oI p1, oI p2, oJ p3, o2, oJ p4, o2, oN i1, oI 1, oI 0, oN i2, oN i3, oI (((Int32.ofNat i1) ||| (0 : Int32)) ||| (16 : Int32)), oN (1 + i1), oN ((1 + i1) + (1 + i2)), oN ((1 + i1) + (1 + i2)), oR b55, oU, oU, oU, oU, oU, oU, oU] [(.int ((Int32.ofNat i2).toInt8.toInt32)), (.int (Int32.ofNat (1 + i1))), (.ref b55)])
      obtain ⟨T61, h61, X61, e61, W61, V61, st61⟩ := own_stB X59 hx hZ e59 A60_b55 (j := (Int32.ofNat (1 + i1))) (y := ((Int32.ofNat i2).toInt8.toInt32)) (own_narB _) (i := (1 + i1)) (own_ofNat (by omega)).2.1 (own_ofNat (by omega)).1 (by rw [List.length_map, List.length_set, hu57]; omega) (g := (mkF m 193 #[oI p1, oI p2, oJ p3, o2, oJ p4, o2, oN i1, oI 1, oI 0, oN i2, oN i3, oI (((Int32.ofNat i1) ||| (0 : Int32)) ||| (16 : Int32)), oN (1 + i1), oN ((1 + i1) + (1 + i2)), oN ((1 + i1) + (1 + i2)), oR b55, oU, oU, oU, oU, oU, oU, oU] [(.int ((Int32.ofNat i2).toInt8.toInt32)), (.int (Int32.ofNat (1 + i1))), (.ref b55)])) rfl rfl (hb hby at_193)
      have N61 := Fr.snoc X61 N59 g_b55
      have Zs61 : n0 ≤ h61.size := (by rw [W61.size]; exact Zs59)
      have A62_b55 : own_A Z h61 b55 "[B" .byte (((u57.set 0 ((((Int32.ofNat i1) ||| (0 : Int32)) ||| (16 : Int32)).toInt8.toInt32)).set (1 + i1) ((Int32.ofNat i2).toInt8.toInt32)).map Value.int) := by rw [← own_mset]; exact V61
      refine own_of (fun t k => st61 t k) ?_
      show own_Go p e below KK T61 (mkF m 194 #[oI p1, oI p2, oJ p3, o2, oJ p4, o2, oN i1, oI 1, oI 0, oN i2, oN i3, oI (((Int32.ofNat i1) ||| (0 : Int32)) ||| (16 : Int32)), oN (1 + i1), oN ((1 + i1) + (1 + i2)), oN ((1 + i1) + (1 + i2)), oR b55, oU, oU, oU, oU, oU, oU, oU] [])
      obtain ⟨us, hus⟩ : ∃ z, z = ((u57.set 0 ((((Int32.ofNat i1) ||| (0 : Int32)) ||| (16 : Int32)).toInt8.toInt32)).set (1 + i1) ((Int32.ofNat i2).toInt8.toInt32)) := ⟨_, rfl⟩
      have hul : us.length = ((1 + i1) + (1 + i2)) := by rw [hus]; simp only [List.length_set]; exact hu57
      have hu0 : us[0]? = some ((((Int32.ofNat i1) ||| (0 : Int32)) ||| (16 : Int32)).toInt8.toInt32) := by rw [hus]; exact own_s1 (by rw [hu57]; omega)
      have hu1 : us[1 + i1]? = some ((Int32.ofNat i2).toInt8.toInt32) := by rw [hus]; exact own_s2 (by rw [hu57]; omega)
      have A63_b55 : own_A Z h61 b55 "[B" .byte (us.map Value.int) := by rw [hus]; exact A62_b55
      refine own_at (fun t k => XS.aload X61.here hx rfl (hb hby at_194) rfl rfl k) ?_
      show own_Go p e below KK T61 (mkF m 196 #[oI p1, oI p2, oJ p3, o2, oJ p4, o2, oN i1, oI 1, oI 0, oN i2, oN i3, oI (((Int32.ofNat i1) ||| (0 : Int32)) ||| (16 : Int32)), oN (1 + i1), oN ((1 + i1) + (1 + i2)), oN ((1 + i1) + (1 + i2)), oR b55, oU, oU, oU, oU, oU, oU, oU] [(.ref b55)])
      obtain ⟨_, _, ⟨T64, L64, k64, n64⟩, -, X64, ⟨Lc64, hQ64, l64, y64, z64⟩, st64⟩ := Jvm.LawKit.callS X61 hx (y := (⟨"com/example/isimud/isimud/oscore/OscoreOption", "read", "([B)Lcom/example/isimud/isimud/oscore/OscoreOption;"⟩ : MethodName)) hown (mvT hZ (hw _ (List.mem_of_getElem? (i := 6) rfl))) (mvT hZ (hw _ (List.mem_of_getElem? (i := 7) rfl))) (mvT hZ (hw _ (List.mem_of_getElem? (i := 8) rfl))) (mvT hZ (hw _ (List.mem_of_getElem? (i := 9) rfl))) (by decide) (backOf (W := 0) (rm_read10 l Z a0 hw [] b55 us i1 i2 ((((Int32.ofNat i1) ||| (0 : Int32)) ||| (16 : Int32)).toInt8.toInt32) ((Int32.ofNat i2).toInt8.toInt32) h61 n0 Zs61 A63_b55 hu0 (own_fl10 hi1) hi1 (by omega) hu1 (own_sb hi2) hi2 (by omega)) hZ (hw _ (List.mem_of_getElem? (i := 9) rfl)) (hw _ (List.mem_of_getElem? (i := 8) rfl)) (by decide) (by decide)) (g := (mkF m 196 #[oI p1, oI p2, oJ p3, o2, oJ p4, o2, oN i1, oI 1, oI 0, oN i2, oN i3, oI (((Int32.ofNat i1) ||| (0 : Int32)) ||| (16 : Int32)), oN (1 + i1), oN ((1 + i1) + (1 + i2)), oN ((1 + i1) + (1 + i2)), oR b55, oU, oU, oU, oU, oU, oU, oU] [(.ref b55)])) rfl (by rw [hml]; rfl) (argsL := [(.ref b55)]) (rest := []) (lenOf pd___B_Lcom_example_isimud_isimud_oscore_OscoreOption_ rfl) rfl (by show 2 * 0 + _ ≤ _; exact Nat.le_of_eq rfl) (hb hby at_196) (fun _ _ => ⟨rfl, e61, (by decide : 1 + 4 ≤ _), (by decide : 13 + 42 ≤ _)⟩)
      dsimp only [Pt.U, Pt.locs, Pt.cells, Pt.slots] at X64 l64 y64 z64 st64 hQ64
      subst l64 y64 z64
      obtain ⟨r64, x64a, x64b, x64c, rfl, N64q, K64, g_r64, s_r64, Ex64, Fx64, Fy64, Fz64, Oa64, Ob64, Oc64⟩ := hQ64
      have ne_b55_r64 : b55 ≠ r64 := Nat.ne_of_lt (Nat.lt_of_lt_of_le A63_b55.lt s_r64)
      have A63_b55_h64 : own_A Z T64.heap b55 "[B" .byte (us.map Value.int) := A63_b55.keep K64 nin0
      have Zs64 : n0 ≤ T64.heap.size := Nat.le_trans Zs61 K64.1
      have E65_r64 : Exa Z T64.heap r64 "com/example/isimud/isimud/oscore/OscoreOption" := Ex64
      have F66_r64 : Fld Z T64.heap r64 "com/example/isimud/isimud/oscore/OscoreOption" "partialIv" "[B" x64a := Fx64
      have F67_r64 : Fld Z T64.heap r64 "com/example/isimud/isimud/oscore/OscoreOption" "kidContext" "[B" x64b := Fy64
      have F68_r64 : Fld Z T64.heap r64 "com/example/isimud/isimud/oscore/OscoreOption" "kid" "[B" x64c := Fz64
      have N64 := Fr.app N61 N64q
      refine own_of (fun t k => st64 t k) ?_
      show own_Go p e below KK T64 (mkF m 199 #[oI p1, oI p2, oJ p3, o2, oJ p4, o2, oN i1, oI 1, oI 0, oN i2, oN i3, oI (((Int32.ofNat i1) ||| (0 : Int32)) ||| (16 : Int32)), oN (1 + i1), oN ((1 + i1) + (1 + i2)), oN ((1 + i1) + (1 + i2)), oR b55, oU, oU, oU, oU, oU, oU, oU] [(.ref r64)])
      obtain ⟨y64b, rfl, AOb64⟩ := Ob64
      have A69_y64b : own_A Z T64.heap y64b "[B" .byte (((us.map Value.int).drop ((1 + i1) + 1)).take i2) := AOb64
      have Oc64' : x64c = Value.null := Oc64
      subst Oc64'
      by_cases hn0 : i1 = 0
      · rw [if_pos hn0] at Oa64
        have Oa64' : x64a = Value.null := Oa64
        subst Oa64'
        refine own_at (fun t k => XS.astore X64.here hx rfl (hb hby at_199) rfl rfl (l' := #[oI p1, oI p2, oJ p3, o2, oJ p4, o2, oN i1, oI 1, oI 0, oN i2, oN i3, oI (((Int32.ofNat i1) ||| (0 : Int32)) ||| (16 : Int32)), oN (1 + i1), oN ((1 + i1) + (1 + i2)), oN ((1 + i1) + (1 + i2)), oR b55, oR r64, oU, oU, oU, oU, oU, oU]) rfl k) ?_
        show own_Go p e below KK T64 (mkF m 201 #[oI p1, oI p2, oJ p3, o2, oJ p4, o2, oN i1, oI 1, oI 0, oN i2, oN i3, oI (((Int32.ofNat i1) ||| (0 : Int32)) ||| (16 : Int32)), oN (1 + i1), oN ((1 + i1) + (1 + i2)), oN ((1 + i1) + (1 + i2)), oR b55, oR r64, oU, oU, oU, oU, oU, oU] [])
        refine own_at (fun t k => XS.aload X64.here hx rfl (hb hby at_201) rfl rfl k) ?_
        show own_Go p e below KK T64 (mkF m 203 #[oI p1, oI p2, oJ p3, o2, oJ p4, o2, oN i1, oI 1, oI 0, oN i2, oN i3, oI (((Int32.ofNat i1) ||| (0 : Int32)) ||| (16 : Int32)), oN (1 + i1), oN ((1 + i1) + (1 + i2)), oN ((1 + i1) + (1 + i2)), oR b55, oR r64, oU, oU, oU, oU, oU, oU] [(.ref r64)])
        obtain ⟨cq70, kq70, q70a, q70b, q70c⟩ := isOf hZ rfl E65_r64
        obtain ⟨_, _, ⟨T70, L70, k70, n70⟩, -, X70, ⟨Lc70, hQ70, l70, y70, z70⟩, st70⟩ := X64.virtualBack hx (y := (⟨"com/example/isimud/isimud/oscore/OscoreOption", "partialIv", "()[B"⟩ : MethodName)) (z := (⟨"com/example/isimud/isimud/oscore/OscoreOption", "partialIv", "()[B"⟩ : MethodName)) hown (mvT hZ (hw _ (List.mem_of_getElem? (i := 45) rfl))) (mvT hZ (hw _ (List.mem_of_getElem? (i := 46) rfl))) (notFace_of_selects (args := #[]) (mvT hZ (hw _ (List.mem_of_getElem? (i := 48) rfl)))) (mvT hZ (hw _ (List.mem_of_getElem? (i := 48) rfl))) (mvT hZ (hw _ (List.mem_of_getElem? (i := 47) rfl))) (by decide) (backOf (W := 0) (rm_partialIv0 l Z a0 hw [] r64   T64.heap n0 Zs64 F66_r64) hZ (hw _ (List.mem_of_getElem? (i := 49) rfl)) (hw _ (List.mem_of_getElem? (i := 8) rfl)) (by decide) (by decide)) q70a q70c (g := (mkF m 203 #[oI p1, oI p2, oJ p3, o2, oJ p4, o2, oN i1, oI 1, oI 0, oN i2, oN i3, oI (((Int32.ofNat i1) ||| (0 : Int32)) ||| (16 : Int32)), oN (1 + i1), oN ((1 + i1) + (1 + i2)), oN ((1 + i1) + (1 + i2)), oR b55, oR r64, oU, oU, oU, oU, oU, oU] [(.ref r64)])) rfl (by rw [hml]; rfl) (Steps.refl _) (argsL := []) (rest := []) (lenOf pd____B rfl) rfl (by show 2 * 0 + _ ≤ _; exact Nat.le_of_eq rfl) (hb hby at_203) (fun _ _ => ⟨rfl, rfl, (by decide : 5 + 0 ≤ _), (by decide : 55 + 0 ≤ _)⟩)
        dsimp only [Pt.U, Pt.locs, Pt.cells, Pt.slots] at X70 l70 y70 z70 st70 hQ70
        subst l70 y70 z70
        obtain ⟨rfl, N70q, e70⟩ := hQ70
        have N70 := Fr.app N64 N70q
        refine own_of (fun t k => st70.trans k) ?_
        show own_Go p e below KK T70 (mkF m 206 #[oI p1, oI p2, oJ p3, o2, oJ p4, o2, oN i1, oI 1, oI 0, oN i2, oN i3, oI (((Int32.ofNat i1) ||| (0 : Int32)) ||| (16 : Int32)), oN (1 + i1), oN ((1 + i1) + (1 + i2)), oN ((1 + i1) + (1 + i2)), oR b55, oR r64, oU, oU, oU, oU, oU, oU] [.null])
        refine own_at (fun t k => XS.astore X70.here hx rfl (hb hby at_206) rfl rfl (l' := #[oI p1, oI p2, oJ p3, o2, oJ p4, o2, oN i1, oI 1, oI 0, oN i2, oN i3, oI (((Int32.ofNat i1) ||| (0 : Int32)) ||| (16 : Int32)), oN (1 + i1), oN ((1 + i1) + (1 + i2)), oN ((1 + i1) + (1 + i2)), oR b55, oR r64, .val .null, oU, oU, oU, oU, oU]) rfl k) ?_
        show own_Go p e below KK T70 (mkF m 208 #[oI p1, oI p2, oJ p3, o2, oJ p4, o2, oN i1, oI 1, oI 0, oN i2, oN i3, oI (((Int32.ofNat i1) ||| (0 : Int32)) ||| (16 : Int32)), oN (1 + i1), oN ((1 + i1) + (1 + i2)), oN ((1 + i1) + (1 + i2)), oR b55, oR r64, .val .null, oU, oU, oU, oU, oU] [])
        refine own_at (fun t k => XS.aload X70.here hx rfl (hb hby at_208) rfl rfl k) ?_
        show own_Go p e below KK T70 (mkF m 210 #[oI p1, oI p2, oJ p3, o2, oJ p4, o2, oN i1, oI 1, oI 0, oN i2, oN i3, oI (((Int32.ofNat i1) ||| (0 : Int32)) ||| (16 : Int32)), oN (1 + i1), oN ((1 + i1) + (1 + i2)), oN ((1 + i1) + (1 + i2)), oR b55, oR r64, .val .null, oU, oU, oU, oU, oU] [(.ref r64)])
        obtain ⟨cq71, kq71, q71a, q71b, q71c⟩ := isOf hZ e70 E65_r64
        obtain ⟨_, _, ⟨T71, L71, k71, n71⟩, -, X71, ⟨Lc71, hQ71, l71, y71, z71⟩, st71⟩ := X70.virtualBack hx (y := (⟨"com/example/isimud/isimud/oscore/OscoreOption", "kidContext", "()[B"⟩ : MethodName)) (z := (⟨"com/example/isimud/isimud/oscore/OscoreOption", "kidContext", "()[B"⟩ : MethodName)) hown (mvT hZ (hw _ (List.mem_of_getElem? (i := 50) rfl))) (mvT hZ (hw _ (List.mem_of_getElem? (i := 51) rfl))) (notFace_of_selects (args := #[]) (mvT hZ (hw _ (List.mem_of_getElem? (i := 53) rfl)))) (mvT hZ (hw _ (List.mem_of_getElem? (i := 53) rfl))) (mvT hZ (hw _ (List.mem_of_getElem? (i := 52) rfl))) (by decide) (backOf (W := 0) (rm_kidContext l Z a0 hw [] r64  y64b (((us.map Value.int).drop ((1 + i1) + 1)).take i2) T64.heap n0 Zs64 F67_r64 A69_y64b (by simp only [List.length_take, List.length_drop, List.length_map]; omega)) hZ (hw _ (List.mem_of_getElem? (i := 54) rfl)) (hw _ (List.mem_of_getElem? (i := 8) rfl)) (by decide) (by decide)) q71a q71c (g := (mkF m 210 #[oI p1, oI p2, oJ p3, o2, oJ p4, o2, oN i1, oI 1, oI 0, oN i2, oN i3, oI (((Int32.ofNat i1) ||| (0 : Int32)) ||| (16 : Int32)), oN (1 + i1), oN ((1 + i1) + (1 + i2)), oN ((1 + i1) + (1 + i2)), oR b55, oR r64, .val .null, oU, oU, oU, oU, oU] [(.ref r64)])) rfl (by rw [hml]; rfl) (Steps.refl _) (argsL := []) (rest := []) (lenOf pd____B rfl) rfl (by show 2 * 0 + _ ≤ _; exact Nat.le_of_eq rfl) (hb hby at_210) (fun _ _ => ⟨rfl, e70, (by decide : 5 + 1 ≤ _), (by decide : 55 + 13 ≤ _)⟩)
        dsimp only [Pt.U, Pt.locs, Pt.cells, Pt.slots] at X71 l71 y71 z71 st71 hQ71
        subst l71 y71 z71
        obtain ⟨r71, rfl, N71q, K71, g_r71, s_r71, Aq71⟩ := hQ71
        have ne_b55_r71 : b55 ≠ r71 := Nat.ne_of_lt (Nat.lt_of_lt_of_le A63_b55_h64.lt s_r71)
        have ne_r64_r71 : r64 ≠ r71 := Nat.ne_of_lt (Nat.lt_of_lt_of_le E65_r64.lt s_r71)
        have ne_y64b_r71 : y64b ≠ r71 := Nat.ne_of_lt (Nat.lt_of_lt_of_le A69_y64b.lt s_r71)
        have A63_b55_h71 : own_A Z T71.heap b55 "[B" .byte (us.map Value.int) := A63_b55_h64.keep K71 nin0
        have E65_r64_h71 : Exa Z T71.heap r64 "com/example/isimud/isimud/oscore/OscoreOption" := E65_r64.keep K71
        have F66_r64_h71 : Fld Z T71.heap r64 "com/example/isimud/isimud/oscore/OscoreOption" "partialIv" "[B" .null := F66_r64.keep K71 nin0
        have F67_r64_h71 : Fld Z T71.heap r64 "com/example/isimud/isimud/oscore/OscoreOption" "kidContext" "[B" (.ref y64b) := F67_r64.keep K71 nin0
        have F68_r64_h71 : Fld Z T71.heap r64 "com/example/isimud/isimud/oscore/OscoreOption" "kid" "[B" .null := F68_r64.keep K71 nin0
        have A69_y64b_h71 : own_A Z T71.heap y64b "[B" .byte (((us.map Value.int).drop ((1 + i1) + 1)).take i2) := A69_y64b.keep K71 nin0
        have Zs71 : n0 ≤ T71.heap.size := Nat.le_trans Zs64 K71.1
        have A72_r71 : own_A Z T71.heap r71 "[B" .byte (((us.map Value.int).drop ((1 + i1) + 1)).take i2) := Aq71
        have N71 := Fr.app N70 N71q
        refine own_of (fun t k => st71.trans k) ?_
        show own_Go p e below KK T71 (mkF m 213 #[oI p1, oI p2, oJ p3, o2, oJ p4, o2, oN i1, oI 1, oI 0, oN i2, oN i3, oI (((Int32.ofNat i1) ||| (0 : Int32)) ||| (16 : Int32)), oN (1 + i1), oN ((1 + i1) + (1 + i2)), oN ((1 + i1) + (1 + i2)), oR b55, oR r64, .val .null, oU, oU, oU, oU, oU] [(.ref r71)])
        refine own_at (fun t k => XS.astore X71.here hx rfl (hb hby at_213) rfl rfl (l' := #[oI p1, oI p2, oJ p3, o2, oJ p4, o2, oN i1, oI 1, oI 0, oN i2, oN i3, oI (((Int32.ofNat i1) ||| (0 : Int32)) ||| (16 : Int32)), oN (1 + i1), oN ((1 + i1) + (1 + i2)), oN ((1 + i1) + (1 + i2)), oR b55, oR r64, .val .null, oR r71, oU, oU, oU, oU]) rfl k) ?_
        show own_Go p e below KK T71 (mkF m 215 #[oI p1, oI p2, oJ p3, o2, oJ p4, o2, oN i1, oI 1, oI 0, oN i2, oN i3, oI (((Int32.ofNat i1) ||| (0 : Int32)) ||| (16 : Int32)), oN (1 + i1), oN ((1 + i1) + (1 + i2)), oN ((1 + i1) + (1 + i2)), oR b55, oR r64, .val .null, oR r71, oU, oU, oU, oU] [])
        refine own_at (fun t k => XS.aload X71.here hx rfl (hb hby at_215) rfl rfl k) ?_
        show own_Go p e below KK T71 (mkF m 217 #[oI p1, oI p2, oJ p3, o2, oJ p4, o2, oN i1, oI 1, oI 0, oN i2, oN i3, oI (((Int32.ofNat i1) ||| (0 : Int32)) ||| (16 : Int32)), oN (1 + i1), oN ((1 + i1) + (1 + i2)), oN ((1 + i1) + (1 + i2)), oR b55, oR r64, .val .null, oR r71, oU, oU, oU, oU] [(.ref r64)])
        obtain ⟨cq73, kq73, q73a, q73b, q73c⟩ := isOf hZ rfl E65_r64_h71
        obtain ⟨_, _, ⟨T73, L73, k73, n73⟩, -, X73, ⟨Lc73, hQ73, l73, y73, z73⟩, st73⟩ := X71.virtualBack hx (y := (⟨"com/example/isimud/isimud/oscore/OscoreOption", "kid", "()[B"⟩ : MethodName)) (z := (⟨"com/example/isimud/isimud/oscore/OscoreOption", "kid", "()[B"⟩ : MethodName)) hown (mvT hZ (hw _ (List.mem_of_getElem? (i := 64) rfl))) (mvT hZ (hw _ (List.mem_of_getElem? (i := 65) rfl))) (notFace_of_selects (args := #[]) (mvT hZ (hw _ (List.mem_of_getElem? (i := 67) rfl)))) (mvT hZ (hw _ (List.mem_of_getElem? (i := 67) rfl))) (mvT hZ (hw _ (List.mem_of_getElem? (i := 66) rfl))) (by decide) (backOf (W := 0) (rm_kid0 l Z a0 hw [] r64   T71.heap n0 Zs71 F68_r64_h71) hZ (hw _ (List.mem_of_getElem? (i := 68) rfl)) (hw _ (List.mem_of_getElem? (i := 8) rfl)) (by decide) (by decide)) q73a q73c (g := (mkF m 217 #[oI p1, oI p2, oJ p3, o2, oJ p4, o2, oN i1, oI 1, oI 0, oN i2, oN i3, oI (((Int32.ofNat i1) ||| (0 : Int32)) ||| (16 : Int32)), oN (1 + i1), oN ((1 + i1) + (1 + i2)), oN ((1 + i1) + (1 + i2)), oR b55, oR r64, .val .null, oR r71, oU, oU, oU, oU] [(.ref r64)])) rfl (by rw [hml]; rfl) (Steps.refl _) (argsL := []) (rest := []) (lenOf pd____B rfl) rfl (by show 2 * 0 + _ ≤ _; exact Nat.le_of_eq rfl) (hb hby at_217) (fun _ _ => ⟨rfl, rfl, (by decide : 6 + 0 ≤ _), (by decide : 68 + 0 ≤ _)⟩)
        dsimp only [Pt.U, Pt.locs, Pt.cells, Pt.slots] at X73 l73 y73 z73 st73 hQ73
        subst l73 y73 z73
        obtain ⟨rfl, N73q, e73⟩ := hQ73
        have N73 := Fr.app N71 N73q
        refine own_of (fun t k => st73.trans k) ?_
        show own_Go p e below KK T73 (mkF m 220 #[oI p1, oI p2, oJ p3, o2, oJ p4, o2, oN i1, oI 1, oI 0, oN i2, oN i3, oI (((Int32.ofNat i1) ||| (0 : Int32)) ||| (16 : Int32)), oN (1 + i1), oN ((1 + i1) + (1 + i2)), oN ((1 + i1) + (1 + i2)), oR b55, oR r64, .val .null, oR r71, oU, oU, oU, oU] [.null])
        refine own_at (fun t k => XS.astore X73.here hx rfl (hb hby at_220) rfl rfl (l' := #[oI p1, oI p2, oJ p3, o2, oJ p4, o2, oN i1, oI 1, oI 0, oN i2, oN i3, oI (((Int32.ofNat i1) ||| (0 : Int32)) ||| (16 : Int32)), oN (1 + i1), oN ((1 + i1) + (1 + i2)), oN ((1 + i1) + (1 + i2)), oR b55, oR r64, .val .null, oR r71, .val .null, oU, oU, oU]) rfl k) ?_
        show own_Go p e below KK T73 (mkF m 222 #[oI p1, oI p2, oJ p3, o2, oJ p4, o2, oN i1, oI 1, oI 0, oN i2, oN i3, oI (((Int32.ofNat i1) ||| (0 : Int32)) ||| (16 : Int32)), oN (1 + i1), oN ((1 + i1) + (1 + i2)), oN ((1 + i1) + (1 + i2)), oR b55, oR r64, .val .null, oR r71, .val .null, oU, oU, oU] [])
        refine own_at (fun t k => XS.iload X73.here hx rfl (hb hby at_222) rfl k) ?_
        show own_Go p e below KK T73 (mkF m 224 #[oI p1, oI p2, oJ p3, o2, oJ p4, o2, oN i1, oI 1, oI 0, oN i2, oN i3, oI (((Int32.ofNat i1) ||| (0 : Int32)) ||| (16 : Int32)), oN (1 + i1), oN ((1 + i1) + (1 + i2)), oN ((1 + i1) + (1 + i2)), oR b55, oR r64, .val .null, oR r71, .val .null, oU, oU, oU] [(.int (Int32.ofNat i1))])
        have hc224 : (Int32.ofNat i1) = (0 : Int32) := by rw [hn0]; rfl
        refine own_at (fun t k => XS.ifNo X73.here hx rfl (hb hby at_224) rfl (Jvm.Free.XT.i0_ne_f hc224) k) ?_
        show own_Go p e below KK T73 (mkF m 227 #[oI p1, oI p2, oJ p3, o2, oJ p4, o2, oN i1, oI 1, oI 0, oN i2, oN i3, oI (((Int32.ofNat i1) ||| (0 : Int32)) ||| (16 : Int32)), oN (1 + i1), oN ((1 + i1) + (1 + i2)), oN ((1 + i1) + (1 + i2)), oR b55, oR r64, .val .null, oR r71, .val .null, oU, oU, oU] [])
        refine own_at (fun t k => XS.aload X73.here hx rfl (hb hby at_227) rfl rfl k) ?_
        show own_Go p e below KK T73 (mkF m 229 #[oI p1, oI p2, oJ p3, o2, oJ p4, o2, oN i1, oI 1, oI 0, oN i2, oN i3, oI (((Int32.ofNat i1) ||| (0 : Int32)) ||| (16 : Int32)), oN (1 + i1), oN ((1 + i1) + (1 + i2)), oN ((1 + i1) + (1 + i2)), oR b55, oR r64, .val .null, oR r71, .val .null, oU, oU, oU] [.null])
        refine own_at (fun t k => XS.ifnonnullNo X73.here hx rfl (hb hby at_229) rfl k) ?_
        show own_Go p e below KK T73 (mkF m 232 #[oI p1, oI p2, oJ p3, o2, oJ p4, o2, oN i1, oI 1, oI 0, oN i2, oN i3, oI (((Int32.ofNat i1) ||| (0 : Int32)) ||| (16 : Int32)), oN (1 + i1), oN ((1 + i1) + (1 + i2)), oN ((1 + i1) + (1 + i2)), oR b55, oR r64, .val .null, oR r71, .val .null, oU, oU, oU] [])
        refine own_at (fun t k => XS.iconst X73.here hx rfl (hb hby at_232) k) ?_
        show own_Go p e below KK T73 (mkF m 233 #[oI p1, oI p2, oJ p3, o2, oJ p4, o2, oN i1, oI 1, oI 0, oN i2, oN i3, oI (((Int32.ofNat i1) ||| (0 : Int32)) ||| (16 : Int32)), oN (1 + i1), oN ((1 + i1) + (1 + i2)), oN ((1 + i1) + (1 + i2)), oR b55, oR r64, .val .null, oR r71, .val .null, oU, oU, oU] [(.int 1)])
        refine own_at (fun t k => XS.goto X73.here hx rfl (pc0 := 233) (pc' := 250) rfl (hb hby at_233) (by decide) (by decide) k) ?_
        show own_Go p e below KK T73 (mkF m 250 #[oI p1, oI p2, oJ p3, o2, oJ p4, o2, oN i1, oI 1, oI 0, oN i2, oN i3, oI (((Int32.ofNat i1) ||| (0 : Int32)) ||| (16 : Int32)), oN (1 + i1), oN ((1 + i1) + (1 + i2)), oN ((1 + i1) + (1 + i2)), oR b55, oR r64, .val .null, oR r71, .val .null, oU, oU, oU] [(.int 1)])
        refine own_at (fun t k => XS.istore X73.here hx rfl (hb hby at_250) rfl (l' := #[oI p1, oI p2, oJ p3, o2, oJ p4, o2, oN i1, oI 1, oI 0, oN i2, oN i3, oI (((Int32.ofNat i1) ||| (0 : Int32)) ||| (16 : Int32)), oN (1 + i1), oN ((1 + i1) + (1 + i2)), oN ((1 + i1) + (1 + i2)), oR b55, oR r64, .val .null, oR r71, .val .null, oI 1, oU, oU]) rfl k) ?_
        show own_Go p e below KK T73 (mkF m 252 #[oI p1, oI p2, oJ p3, o2, oJ p4, o2, oN i1, oI 1, oI 0, oN i2, oN i3, oI (((Int32.ofNat i1) ||| (0 : Int32)) ||| (16 : Int32)), oN (1 + i1), oN ((1 + i1) + (1 + i2)), oN ((1 + i1) + (1 + i2)), oR b55, oR r64, .val .null, oR r71, .val .null, oI 1, oU, oU] [])
        refine own_at (fun t k => XS.iload X73.here hx rfl (hb hby at_252) rfl k) ?_
        show own_Go p e below KK T73 (mkF m 254 #[oI p1, oI p2, oJ p3, o2, oJ p4, o2, oN i1, oI 1, oI 0, oN i2, oN i3, oI (((Int32.ofNat i1) ||| (0 : Int32)) ||| (16 : Int32)), oN (1 + i1), oN ((1 + i1) + (1 + i2)), oN ((1 + i1) + (1 + i2)), oR b55, oR r64, .val .null, oR r71, .val .null, oI 1, oU, oU] [(.int 1)])
        have hc254 : ¬ ((1 : Int32) = (0 : Int32)) := by decide
        refine own_at (fun t k => XS.ifNo X73.here hx rfl (hb hby at_254) rfl (Jvm.Free.XT.i0_eq_f hc254) k) ?_
        show own_Go p e below KK T73 (mkF m 257 #[oI p1, oI p2, oJ p3, o2, oJ p4, o2, oN i1, oI 1, oI 0, oN i2, oN i3, oI (((Int32.ofNat i1) ||| (0 : Int32)) ||| (16 : Int32)), oN (1 + i1), oN ((1 + i1) + (1 + i2)), oN ((1 + i1) + (1 + i2)), oR b55, oR r64, .val .null, oR r71, .val .null, oI 1, oU, oU] [])
        refine own_at (fun t k => XS.aload X73.here hx rfl (hb hby at_257) rfl rfl k) ?_
        show own_Go p e below KK T73 (mkF m 259 #[oI p1, oI p2, oJ p3, o2, oJ p4, o2, oN i1, oI 1, oI 0, oN i2, oN i3, oI (((Int32.ofNat i1) ||| (0 : Int32)) ||| (16 : Int32)), oN (1 + i1), oN ((1 + i1) + (1 + i2)), oN ((1 + i1) + (1 + i2)), oR b55, oR r64, .val .null, oR r71, .val .null, oI 1, oU, oU] [(.ref r71)])
        refine own_at (fun t k => XS.aload X73.here hx rfl (hb hby at_259) rfl rfl k) ?_
        show own_Go p e below KK T73 (mkF m 261 #[oI p1, oI p2, oJ p3, o2, oJ p4, o2, oN i1, oI 1, oI 0, oN i2, oN i3, oI (((Int32.ofNat i1) ||| (0 : Int32)) ||| (16 : Int32)), oN (1 + i1), oN ((1 + i1) + (1 + i2)), oN ((1 + i1) + (1 + i2)), oR b55, oR r64, .val .null, oR r71, .val .null, oI 1, oU, oU] [(.ref b55), (.ref r71)])
        refine own_at (fun t k => XS.iload X73.here hx rfl (hb hby at_261) rfl k) ?_
        show own_Go p e below KK T73 (mkF m 263 #[oI p1, oI p2, oJ p3, o2, oJ p4, o2, oN i1, oI 1, oI 0, oN i2, oN i3, oI (((Int32.ofNat i1) ||| (0 : Int32)) ||| (16 : Int32)), oN (1 + i1), oN ((1 + i1) + (1 + i2)), oN ((1 + i1) + (1 + i2)), oR b55, oR r64, .val .null, oR r71, .val .null, oI 1, oU, oU] [(.int (Int32.ofNat (1 + i1))), (.ref b55), (.ref r71)])
        refine own_at (fun t k => XS.iconst X73.here hx rfl (hb hby at_263) k) ?_
        show own_Go p e below KK T73 (mkF m 264 #[oI p1, oI p2, oJ p3, o2, oJ p4, o2, oN i1, oI 1, oI 0, oN i2, oN i3, oI (((Int32.ofNat i1) ||| (0 : Int32)) ||| (16 : Int32)), oN (1 + i1), oN ((1 + i1) + (1 + i2)), oN ((1 + i1) + (1 + i2)), oR b55, oR r64, .val .null, oR r71, .val .null, oI 1, oU, oU] [(.int 1), (.int (Int32.ofNat (1 + i1))), (.ref b55), (.ref r71)])
        refine own_at (fun t k => XS.iadd X73.here hx rfl (hb hby at_264) rfl k) ?_
        show own_Go p e below KK T73 (mkF m 265 #[oI p1, oI p2, oJ p3, o2, oJ p4, o2, oN i1, oI 1, oI 0, oN i2, oN i3, oI (((Int32.ofNat i1) ||| (0 : Int32)) ||| (16 : Int32)), oN (1 + i1), oN ((1 + i1) + (1 + i2)), oN ((1 + i1) + (1 + i2)), oR b55, oR r64, .val .null, oR r71, .val .null, oI 1, oU, oU] [(.int ((Int32.ofNat (1 + i1)) + (1 : Int32))), (.ref b55), (.ref r71)])
        rw [show ((Int32.ofNat (1 + i1)) + (1 : Int32)) = (Int32.ofNat ((1 + i1) + 1)) from own_add (1 + i1) 1]
        show own_Go p e below KK T73 (mkF m 265 #[oI p1, oI p2, oJ p3, o2, oJ p4, o2, oN i1, oI 1, oI 0, oN i2, oN i3, oI (((Int32.ofNat i1) ||| (0 : Int32)) ||| (16 : Int32)), oN (1 + i1), oN ((1 + i1) + (1 + i2)), oN ((1 + i1) + (1 + i2)), oR b55, oR r64, .val .null, oR r71, .val .null, oI 1, oU, oU] [(.int (Int32.ofNat ((1 + i1) + 1))), (.ref b55), (.ref r71)])
        refine own_at (fun t k => XS.iload X73.here hx rfl (hb hby at_265) rfl k) ?_
        show own_Go p e below KK T73 (mkF m 267 #[oI p1, oI p2, oJ p3, o2, oJ p4, o2, oN i1, oI 1, oI 0, oN i2, oN i3, oI (((Int32.ofNat i1) ||| (0 : Int32)) ||| (16 : Int32)), oN (1 + i1), oN ((1 + i1) + (1 + i2)), oN ((1 + i1) + (1 + i2)), oR b55, oR r64, .val .null, oR r71, .val .null, oI 1, oU, oU] [(.int (Int32.ofNat i2)), (.int (Int32.ofNat ((1 + i1) + 1))), (.ref b55), (.ref r71)])
        obtain ⟨_, _, ⟨T74, L74, k74, n74⟩, -, X74, ⟨Lc74, hQ74, l74, y74, z74⟩, st74⟩ := Jvm.LawKit.callS X73 hx (y := (⟨"com/example/isimud/isimud/oscore/OscoreOptionReadPinLaw", "same", "([B[BII)Z"⟩ : MethodName)) hown (mvT hZ (hw _ (List.mem_of_getElem? (i := 69) rfl))) (mvT hZ (hw _ (List.mem_of_getElem? (i := 70) rfl))) (mvT hZ (hw _ (List.mem_of_getElem? (i := 4) rfl))) (mvT hZ (hw _ (List.mem_of_getElem? (i := 71) rfl))) (by decide) (backOf (W := 0) (rm_same l Z a0 hw [] r71 b55 ((1 + i1) + 1) i2 us T71.heap n0 Zs71 (by omega) A72_r71 A63_b55_h71 (by omega) (by omega)) hZ (hw _ (List.mem_of_getElem? (i := 71) rfl)) (hw _ (List.mem_of_getElem? (i := 4) rfl)) (by decide) (by decide)) (g := (mkF m 267 #[oI p1, oI p2, oJ p3, o2, oJ p4, o2, oN i1, oI 1, oI 0, oN i2, oN i3, oI (((Int32.ofNat i1) ||| (0 : Int32)) ||| (16 : Int32)), oN (1 + i1), oN ((1 + i1) + (1 + i2)), oN ((1 + i1) + (1 + i2)), oR b55, oR r64, .val .null, oR r71, .val .null, oI 1, oU, oU] [(.int (Int32.ofNat i2)), (.int (Int32.ofNat ((1 + i1) + 1))), (.ref b55), (.ref r71)])) rfl (by rw [hml]; rfl) (argsL := [(.ref r71), (.ref b55), (.int (Int32.ofNat ((1 + i1) + 1))), (.int (Int32.ofNat i2))]) (rest := []) (lenOf pd___B_BII_Z rfl) rfl (by show 2 * 0 + _ ≤ _; exact Nat.le_of_eq rfl) (hb hby at_267) (fun _ _ => ⟨rfl, e73, (by decide : 6 + 0 ≤ _), (by decide : 68 + 0 ≤ _)⟩)
        dsimp only [Pt.U, Pt.locs, Pt.cells, Pt.slots] at X74 l74 y74 z74 st74 hQ74
        subst l74 y74 z74
        obtain ⟨rfl, N74q, e74⟩ := hQ74
        have N74 := Fr.app N73 N74q
        refine own_of (fun t k => st74 t k) ?_
        show own_Go p e below KK T74 (mkF m 270 #[oI p1, oI p2, oJ p3, o2, oJ p4, o2, oN i1, oI 1, oI 0, oN i2, oN i3, oI (((Int32.ofNat i1) ||| (0 : Int32)) ||| (16 : Int32)), oN (1 + i1), oN ((1 + i1) + (1 + i2)), oN ((1 + i1) + (1 + i2)), oR b55, oR r64, .val .null, oR r71, .val .null, oI 1, oU, oU] [(.int 1)])
        refine own_at (fun t k => XS.goto X74.here hx rfl (pc0 := 270) (pc' := 283) rfl (hb hby at_270) (by decide) (by decide) k) ?_
        show own_Go p e below KK T74 (mkF m 283 #[oI p1, oI p2, oJ p3, o2, oJ p4, o2, oN i1, oI 1, oI 0, oN i2, oN i3, oI (((Int32.ofNat i1) ||| (0 : Int32)) ||| (16 : Int32)), oN (1 + i1), oN ((1 + i1) + (1 + i2)), oN ((1 + i1) + (1 + i2)), oR b55, oR r64, .val .null, oR r71, .val .null, oI 1, oU, oU] [(.int 1)])
        refine own_at (fun t k => XS.istore X74.here hx rfl (hb hby at_283) rfl (l' := #[oI p1, oI p2, oJ p3, o2, oJ p4, o2, oN i1, oI 1, oI 0, oN i2, oN i3, oI (((Int32.ofNat i1) ||| (0 : Int32)) ||| (16 : Int32)), oN (1 + i1), oN ((1 + i1) + (1 + i2)), oN ((1 + i1) + (1 + i2)), oR b55, oR r64, .val .null, oR r71, .val .null, oI 1, oI 1, oU]) rfl k) ?_
        show own_Go p e below KK T74 (mkF m 285 #[oI p1, oI p2, oJ p3, o2, oJ p4, o2, oN i1, oI 1, oI 0, oN i2, oN i3, oI (((Int32.ofNat i1) ||| (0 : Int32)) ||| (16 : Int32)), oN (1 + i1), oN ((1 + i1) + (1 + i2)), oN ((1 + i1) + (1 + i2)), oR b55, oR r64, .val .null, oR r71, .val .null, oI 1, oI 1, oU] [])
        refine own_at (fun t k => XS.iload X74.here hx rfl (hb hby at_285) rfl k) ?_
        show own_Go p e below KK T74 (mkF m 287 #[oI p1, oI p2, oJ p3, o2, oJ p4, o2, oN i1, oI 1, oI 0, oN i2, oN i3, oI (((Int32.ofNat i1) ||| (0 : Int32)) ||| (16 : Int32)), oN (1 + i1), oN ((1 + i1) + (1 + i2)), oN ((1 + i1) + (1 + i2)), oR b55, oR r64, .val .null, oR r71, .val .null, oI 1, oI 1, oU] [(.int 0)])
        have hc287 : (0 : Int32) = (0 : Int32) := by decide
        refine own_at (fun t k => XS.ifYes X74.here hx rfl (pc0 := 287) (pc' := 304) rfl (hb hby at_287) rfl (Jvm.Free.XT.i0_eq_t hc287) (by decide) (by decide) k) ?_
        show own_Go p e below KK T74 (mkF m 304 #[oI p1, oI p2, oJ p3, o2, oJ p4, o2, oN i1, oI 1, oI 0, oN i2, oN i3, oI (((Int32.ofNat i1) ||| (0 : Int32)) ||| (16 : Int32)), oN (1 + i1), oN ((1 + i1) + (1 + i2)), oN ((1 + i1) + (1 + i2)), oR b55, oR r64, .val .null, oR r71, .val .null, oI 1, oI 1, oU] [])
        refine own_at (fun t k => XS.aload X74.here hx rfl (hb hby at_304) rfl rfl k) ?_
        show own_Go p e below KK T74 (mkF m 306 #[oI p1, oI p2, oJ p3, o2, oJ p4, o2, oN i1, oI 1, oI 0, oN i2, oN i3, oI (((Int32.ofNat i1) ||| (0 : Int32)) ||| (16 : Int32)), oN (1 + i1), oN ((1 + i1) + (1 + i2)), oN ((1 + i1) + (1 + i2)), oR b55, oR r64, .val .null, oR r71, .val .null, oI 1, oI 1, oU] [.null])
        refine own_at (fun t k => XS.ifnonnullNo X74.here hx rfl (hb hby at_306) rfl k) ?_
        show own_Go p e below KK T74 (mkF m 309 #[oI p1, oI p2, oJ p3, o2, oJ p4, o2, oN i1, oI 1, oI 0, oN i2, oN i3, oI (((Int32.ofNat i1) ||| (0 : Int32)) ||| (16 : Int32)), oN (1 + i1), oN ((1 + i1) + (1 + i2)), oN ((1 + i1) + (1 + i2)), oR b55, oR r64, .val .null, oR r71, .val .null, oI 1, oI 1, oU] [])
        refine own_at (fun t k => XS.iconst X74.here hx rfl (hb hby at_309) k) ?_
        show own_Go p e below KK T74 (mkF m 310 #[oI p1, oI p2, oJ p3, o2, oJ p4, o2, oN i1, oI 1, oI 0, oN i2, oN i3, oI (((Int32.ofNat i1) ||| (0 : Int32)) ||| (16 : Int32)), oN (1 + i1), oN ((1 + i1) + (1 + i2)), oN ((1 + i1) + (1 + i2)), oR b55, oR r64, .val .null, oR r71, .val .null, oI 1, oI 1, oU] [(.int 1)])
        refine own_at (fun t k => XS.goto X74.here hx rfl (pc0 := 310) (pc' := 314) rfl (hb hby at_310) (by decide) (by decide) k) ?_
        show own_Go p e below KK T74 (mkF m 314 #[oI p1, oI p2, oJ p3, o2, oJ p4, o2, oN i1, oI 1, oI 0, oN i2, oN i3, oI (((Int32.ofNat i1) ||| (0 : Int32)) ||| (16 : Int32)), oN (1 + i1), oN ((1 + i1) + (1 + i2)), oN ((1 + i1) + (1 + i2)), oR b55, oR r64, .val .null, oR r71, .val .null, oI 1, oI 1, oU] [(.int 1)])
        refine own_at (fun t k => XS.istore X74.here hx rfl (hb hby at_314) rfl (l' := #[oI p1, oI p2, oJ p3, o2, oJ p4, o2, oN i1, oI 1, oI 0, oN i2, oN i3, oI (((Int32.ofNat i1) ||| (0 : Int32)) ||| (16 : Int32)), oN (1 + i1), oN ((1 + i1) + (1 + i2)), oN ((1 + i1) + (1 + i2)), oR b55, oR r64, .val .null, oR r71, .val .null, oI 1, oI 1, oI 1]) rfl k) ?_
        show own_Go p e below KK T74 (mkF m 316 #[oI p1, oI p2, oJ p3, o2, oJ p4, o2, oN i1, oI 1, oI 0, oN i2, oN i3, oI (((Int32.ofNat i1) ||| (0 : Int32)) ||| (16 : Int32)), oN (1 + i1), oN ((1 + i1) + (1 + i2)), oN ((1 + i1) + (1 + i2)), oR b55, oR r64, .val .null, oR r71, .val .null, oI 1, oI 1, oI 1] [])
        refine own_at (fun t k => XS.iload X74.here hx rfl (hb hby at_316) rfl k) ?_
        show own_Go p e below KK T74 (mkF m 318 #[oI p1, oI p2, oJ p3, o2, oJ p4, o2, oN i1, oI 1, oI 0, oN i2, oN i3, oI (((Int32.ofNat i1) ||| (0 : Int32)) ||| (16 : Int32)), oN (1 + i1), oN ((1 + i1) + (1 + i2)), oN ((1 + i1) + (1 + i2)), oR b55, oR r64, .val .null, oR r71, .val .null, oI 1, oI 1, oI 1] [(.int 1)])
        have hc318 : ¬ ((1 : Int32) = (0 : Int32)) := by decide
        refine own_at (fun t k => XS.ifNo X74.here hx rfl (hb hby at_318) rfl (Jvm.Free.XT.i0_eq_f hc318) k) ?_
        show own_Go p e below KK T74 (mkF m 321 #[oI p1, oI p2, oJ p3, o2, oJ p4, o2, oN i1, oI 1, oI 0, oN i2, oN i3, oI (((Int32.ofNat i1) ||| (0 : Int32)) ||| (16 : Int32)), oN (1 + i1), oN ((1 + i1) + (1 + i2)), oN ((1 + i1) + (1 + i2)), oR b55, oR r64, .val .null, oR r71, .val .null, oI 1, oI 1, oI 1] [])
        refine own_at (fun t k => XS.iload X74.here hx rfl (hb hby at_321) rfl k) ?_
        show own_Go p e below KK T74 (mkF m 323 #[oI p1, oI p2, oJ p3, o2, oJ p4, o2, oN i1, oI 1, oI 0, oN i2, oN i3, oI (((Int32.ofNat i1) ||| (0 : Int32)) ||| (16 : Int32)), oN (1 + i1), oN ((1 + i1) + (1 + i2)), oN ((1 + i1) + (1 + i2)), oR b55, oR r64, .val .null, oR r71, .val .null, oI 1, oI 1, oI 1] [(.int 1)])
        have hc323 : ¬ ((1 : Int32) = (0 : Int32)) := by decide
        refine own_at (fun t k => XS.ifNo X74.here hx rfl (hb hby at_323) rfl (Jvm.Free.XT.i0_eq_f hc323) k) ?_
        show own_Go p e below KK T74 (mkF m 326 #[oI p1, oI p2, oJ p3, o2, oJ p4, o2, oN i1, oI 1, oI 0, oN i2, oN i3, oI (((Int32.ofNat i1) ||| (0 : Int32)) ||| (16 : Int32)), oN (1 + i1), oN ((1 + i1) + (1 + i2)), oN ((1 + i1) + (1 + i2)), oR b55, oR r64, .val .null, oR r71, .val .null, oI 1, oI 1, oI 1] [])
        refine own_at (fun t k => XS.iload X74.here hx rfl (hb hby at_326) rfl k) ?_
        show own_Go p e below KK T74 (mkF m 328 #[oI p1, oI p2, oJ p3, o2, oJ p4, o2, oN i1, oI 1, oI 0, oN i2, oN i3, oI (((Int32.ofNat i1) ||| (0 : Int32)) ||| (16 : Int32)), oN (1 + i1), oN ((1 + i1) + (1 + i2)), oN ((1 + i1) + (1 + i2)), oR b55, oR r64, .val .null, oR r71, .val .null, oI 1, oI 1, oI 1] [(.int 1)])
        have hc328 : ¬ ((1 : Int32) = (0 : Int32)) := by decide
        refine own_at (fun t k => XS.ifNo X74.here hx rfl (hb hby at_328) rfl (Jvm.Free.XT.i0_eq_f hc328) k) ?_
        show own_Go p e below KK T74 (mkF m 331 #[oI p1, oI p2, oJ p3, o2, oJ p4, o2, oN i1, oI 1, oI 0, oN i2, oN i3, oI (((Int32.ofNat i1) ||| (0 : Int32)) ||| (16 : Int32)), oN (1 + i1), oN ((1 + i1) + (1 + i2)), oN ((1 + i1) + (1 + i2)), oR b55, oR r64, .val .null, oR r71, .val .null, oI 1, oI 1, oI 1] [])
        refine own_at (fun t k => XS.iconst X74.here hx rfl (hb hby at_331) k) ?_
        show own_Go p e below KK T74 (mkF m 332 #[oI p1, oI p2, oJ p3, o2, oJ p4, o2, oN i1, oI 1, oI 0, oN i2, oN i3, oI (((Int32.ofNat i1) ||| (0 : Int32)) ||| (16 : Int32)), oN (1 + i1), oN ((1 + i1) + (1 + i2)), oN ((1 + i1) + (1 + i2)), oR b55, oR r64, .val .null, oR r71, .val .null, oI 1, oI 1, oI 1] [(.int 1)])
        refine own_at (fun t k => XS.goto X74.here hx rfl (pc0 := 332) (pc' := 336) rfl (hb hby at_332) (by decide) (by decide) k) ?_
        show own_Go p e below KK T74 (mkF m 336 #[oI p1, oI p2, oJ p3, o2, oJ p4, o2, oN i1, oI 1, oI 0, oN i2, oN i3, oI (((Int32.ofNat i1) ||| (0 : Int32)) ||| (16 : Int32)), oN (1 + i1), oN ((1 + i1) + (1 + i2)), oN ((1 + i1) + (1 + i2)), oR b55, oR r64, .val .null, oR r71, .val .null, oI 1, oI 1, oI 1] [(.int 1)])
        subst hKK
        exact own_retN X74 hx hlk (t := .boolean) Bd.returns (by simp) (hb hby at_336) (w := (1 : Int32)) (show nar .boolean (1 : Int32) = 1 from by decide) ⟨rfl, N74⟩ (Nat.le_of_ble_eq_true rfl) (Nat.le_of_ble_eq_true rfl)
      · rw [if_neg hn0] at Oa64
        obtain ⟨y64a, rfl, AOa64⟩ := Oa64
        have A75_y64a : own_A Z T64.heap y64a "[B" .byte (((us.map Value.int).drop 1).take i1) := AOa64
        refine own_at (fun t k => XS.astore X64.here hx rfl (hb hby at_199) rfl rfl (l' := #[oI p1, oI p2, oJ p3, o2, oJ p4, o2, oN i1, oI 1, oI 0, oN i2, oN i3, oI (((Int32.ofNat i1) ||| (0 : Int32)) ||| (16 : Int32)), oN (1 + i1), oN ((1 + i1) + (1 + i2)), oN ((1 + i1) + (1 + i2)), oR b55, oR r64, oU, oU, oU, oU, oU, oU]) rfl k) ?_
        show own_Go p e below KK T64 (mkF m 201 #[oI p1, oI p2, oJ p3, o2, oJ p4, o2, oN i1, oI 1, oI 0, oN i2, oN i3, oI (((Int32.ofNat i1) ||| (0 : Int32)) ||| (16 : Int32)), oN (1 + i1), oN ((1 + i1) + (1 + i2)), oN ((1 + i1) + (1 + i2)), oR b55, oR r64, oU, oU, oU, oU, oU, oU] [])
        refine own_at (fun t k => XS.aload X64.here hx rfl (hb hby at_201) rfl rfl k) ?_
        show own_Go p e below KK T64 (mkF m 203 #[oI p1, oI p2, oJ p3, o2, oJ p4, o2, oN i1, oI 1, oI 0, oN i2, oN i3, oI (((Int32.ofNat i1) ||| (0 : Int32)) ||| (16 : Int32)), oN (1 + i1), oN ((1 + i1) + (1 + i2)), oN ((1 + i1) + (1 + i2)), oR b55, oR r64, oU, oU, oU, oU, oU, oU] [(.ref r64)])
        obtain ⟨cq76, kq76, q76a, q76b, q76c⟩ := isOf hZ rfl E65_r64
        obtain ⟨_, _, ⟨T76, L76, k76, n76⟩, -, X76, ⟨Lc76, hQ76, l76, y76, z76⟩, st76⟩ := X64.virtualBack hx (y := (⟨"com/example/isimud/isimud/oscore/OscoreOption", "partialIv", "()[B"⟩ : MethodName)) (z := (⟨"com/example/isimud/isimud/oscore/OscoreOption", "partialIv", "()[B"⟩ : MethodName)) hown (mvT hZ (hw _ (List.mem_of_getElem? (i := 45) rfl))) (mvT hZ (hw _ (List.mem_of_getElem? (i := 46) rfl))) (notFace_of_selects (args := #[]) (mvT hZ (hw _ (List.mem_of_getElem? (i := 48) rfl)))) (mvT hZ (hw _ (List.mem_of_getElem? (i := 48) rfl))) (mvT hZ (hw _ (List.mem_of_getElem? (i := 47) rfl))) (by decide) (backOf (W := 0) (rm_partialIv l Z a0 hw [] r64  y64a (((us.map Value.int).drop 1).take i1) T64.heap n0 Zs64 F66_r64 A75_y64a (by simp only [List.length_take, List.length_drop, List.length_map]; omega)) hZ (hw _ (List.mem_of_getElem? (i := 49) rfl)) (hw _ (List.mem_of_getElem? (i := 8) rfl)) (by decide) (by decide)) q76a q76c (g := (mkF m 203 #[oI p1, oI p2, oJ p3, o2, oJ p4, o2, oN i1, oI 1, oI 0, oN i2, oN i3, oI (((Int32.ofNat i1) ||| (0 : Int32)) ||| (16 : Int32)), oN (1 + i1), oN ((1 + i1) + (1 + i2)), oN ((1 + i1) + (1 + i2)), oR b55, oR r64, oU, oU, oU, oU, oU, oU] [(.ref r64)])) rfl (by rw [hml]; rfl) (Steps.refl _) (argsL := []) (rest := []) (lenOf pd____B rfl) rfl (by show 2 * 0 + _ ≤ _; exact Nat.le_of_eq rfl) (hb hby at_203) (fun _ _ => ⟨rfl, rfl, (by decide : 5 + 1 ≤ _), (by decide : 55 + 13 ≤ _)⟩)
        dsimp only [Pt.U, Pt.locs, Pt.cells, Pt.slots] at X76 l76 y76 z76 st76 hQ76
        subst l76 y76 z76
        obtain ⟨r76, rfl, N76q, K76, g_r76, s_r76, Aq76⟩ := hQ76
        have ne_b55_r76 : b55 ≠ r76 := Nat.ne_of_lt (Nat.lt_of_lt_of_le A63_b55_h64.lt s_r76)
        have ne_r64_r76 : r64 ≠ r76 := Nat.ne_of_lt (Nat.lt_of_lt_of_le E65_r64.lt s_r76)
        have ne_y64a_r76 : y64a ≠ r76 := Nat.ne_of_lt (Nat.lt_of_lt_of_le A75_y64a.lt s_r76)
        have ne_y64b_r76 : y64b ≠ r76 := Nat.ne_of_lt (Nat.lt_of_lt_of_le A69_y64b.lt s_r76)
        have A63_b55_h76 : own_A Z T76.heap b55 "[B" .byte (us.map Value.int) := A63_b55_h64.keep K76 nin0
        have E65_r64_h76 : Exa Z T76.heap r64 "com/example/isimud/isimud/oscore/OscoreOption" := E65_r64.keep K76
        have F66_r64_h76 : Fld Z T76.heap r64 "com/example/isimud/isimud/oscore/OscoreOption" "partialIv" "[B" (.ref y64a) := F66_r64.keep K76 nin0
        have F67_r64_h76 : Fld Z T76.heap r64 "com/example/isimud/isimud/oscore/OscoreOption" "kidContext" "[B" (.ref y64b) := F67_r64.keep K76 nin0
        have F68_r64_h76 : Fld Z T76.heap r64 "com/example/isimud/isimud/oscore/OscoreOption" "kid" "[B" .null := F68_r64.keep K76 nin0
        have A69_y64b_h76 : own_A Z T76.heap y64b "[B" .byte (((us.map Value.int).drop ((1 + i1) + 1)).take i2) := A69_y64b.keep K76 nin0
        have A75_y64a_h76 : own_A Z T76.heap y64a "[B" .byte (((us.map Value.int).drop 1).take i1) := A75_y64a.keep K76 nin0
        have Zs76 : n0 ≤ T76.heap.size := Nat.le_trans Zs64 K76.1
        have A77_r76 : own_A Z T76.heap r76 "[B" .byte (((us.map Value.int).drop 1).take i1) := Aq76
        have N76 := Fr.app N64 N76q
        refine own_of (fun t k => st76.trans k) ?_
        show own_Go p e below KK T76 (mkF m 206 #[oI p1, oI p2, oJ p3, o2, oJ p4, o2, oN i1, oI 1, oI 0, oN i2, oN i3, oI (((Int32.ofNat i1) ||| (0 : Int32)) ||| (16 : Int32)), oN (1 + i1), oN ((1 + i1) + (1 + i2)), oN ((1 + i1) + (1 + i2)), oR b55, oR r64, oU, oU, oU, oU, oU, oU] [(.ref r76)])
        refine own_at (fun t k => XS.astore X76.here hx rfl (hb hby at_206) rfl rfl (l' := #[oI p1, oI p2, oJ p3, o2, oJ p4, o2, oN i1, oI 1, oI 0, oN i2, oN i3, oI (((Int32.ofNat i1) ||| (0 : Int32)) ||| (16 : Int32)), oN (1 + i1), oN ((1 + i1) + (1 + i2)), oN ((1 + i1) + (1 + i2)), oR b55, oR r64, oR r76, oU, oU, oU, oU, oU]) rfl k) ?_
        show own_Go p e below KK T76 (mkF m 208 #[oI p1, oI p2, oJ p3, o2, oJ p4, o2, oN i1, oI 1, oI 0, oN i2, oN i3, oI (((Int32.ofNat i1) ||| (0 : Int32)) ||| (16 : Int32)), oN (1 + i1), oN ((1 + i1) + (1 + i2)), oN ((1 + i1) + (1 + i2)), oR b55, oR r64, oR r76, oU, oU, oU, oU, oU] [])
        refine own_at (fun t k => XS.aload X76.here hx rfl (hb hby at_208) rfl rfl k) ?_
        show own_Go p e below KK T76 (mkF m 210 #[oI p1, oI p2, oJ p3, o2, oJ p4, o2, oN i1, oI 1, oI 0, oN i2, oN i3, oI (((Int32.ofNat i1) ||| (0 : Int32)) ||| (16 : Int32)), oN (1 + i1), oN ((1 + i1) + (1 + i2)), oN ((1 + i1) + (1 + i2)), oR b55, oR r64, oR r76, oU, oU, oU, oU, oU] [(.ref r64)])
        obtain ⟨cq78, kq78, q78a, q78b, q78c⟩ := isOf hZ rfl E65_r64_h76
        obtain ⟨_, _, ⟨T78, L78, k78, n78⟩, -, X78, ⟨Lc78, hQ78, l78, y78, z78⟩, st78⟩ := X76.virtualBack hx (y := (⟨"com/example/isimud/isimud/oscore/OscoreOption", "kidContext", "()[B"⟩ : MethodName)) (z := (⟨"com/example/isimud/isimud/oscore/OscoreOption", "kidContext", "()[B"⟩ : MethodName)) hown (mvT hZ (hw _ (List.mem_of_getElem? (i := 50) rfl))) (mvT hZ (hw _ (List.mem_of_getElem? (i := 51) rfl))) (notFace_of_selects (args := #[]) (mvT hZ (hw _ (List.mem_of_getElem? (i := 53) rfl)))) (mvT hZ (hw _ (List.mem_of_getElem? (i := 53) rfl))) (mvT hZ (hw _ (List.mem_of_getElem? (i := 52) rfl))) (by decide) (backOf (W := 0) (rm_kidContext l Z a0 hw [] r64  y64b (((us.map Value.int).drop ((1 + i1) + 1)).take i2) T76.heap n0 Zs76 F67_r64_h76 A69_y64b_h76 (by simp only [List.length_take, List.length_drop, List.length_map]; omega)) hZ (hw _ (List.mem_of_getElem? (i := 54) rfl)) (hw _ (List.mem_of_getElem? (i := 8) rfl)) (by decide) (by decide)) q78a q78c (g := (mkF m 210 #[oI p1, oI p2, oJ p3, o2, oJ p4, o2, oN i1, oI 1, oI 0, oN i2, oN i3, oI (((Int32.ofNat i1) ||| (0 : Int32)) ||| (16 : Int32)), oN (1 + i1), oN ((1 + i1) + (1 + i2)), oN ((1 + i1) + (1 + i2)), oR b55, oR r64, oR r76, oU, oU, oU, oU, oU] [(.ref r64)])) rfl (by rw [hml]; rfl) (Steps.refl _) (argsL := []) (rest := []) (lenOf pd____B rfl) rfl (by show 2 * 0 + _ ≤ _; exact Nat.le_of_eq rfl) (hb hby at_210) (fun _ _ => ⟨rfl, rfl, (by decide : 6 + 1 ≤ _), (by decide : 68 + 13 ≤ _)⟩)
        dsimp only [Pt.U, Pt.locs, Pt.cells, Pt.slots] at X78 l78 y78 z78 st78 hQ78
        subst l78 y78 z78
        obtain ⟨r78, rfl, N78q, K78, g_r78, s_r78, Aq78⟩ := hQ78
        have ne_b55_r78 : b55 ≠ r78 := Nat.ne_of_lt (Nat.lt_of_lt_of_le A63_b55_h76.lt s_r78)
        have ne_r64_r78 : r64 ≠ r78 := Nat.ne_of_lt (Nat.lt_of_lt_of_le E65_r64_h76.lt s_r78)
        have ne_r76_r78 : r76 ≠ r78 := Nat.ne_of_lt (Nat.lt_of_lt_of_le A77_r76.lt s_r78)
        have ne_y64a_r78 : y64a ≠ r78 := Nat.ne_of_lt (Nat.lt_of_lt_of_le A75_y64a_h76.lt s_r78)
        have ne_y64b_r78 : y64b ≠ r78 := Nat.ne_of_lt (Nat.lt_of_lt_of_le A69_y64b_h76.lt s_r78)
        have A63_b55_h78 : own_A Z T78.heap b55 "[B" .byte (us.map Value.int) := A63_b55_h76.keep K78 nin0
        have E65_r64_h78 : Exa Z T78.heap r64 "com/example/isimud/isimud/oscore/OscoreOption" := E65_r64_h76.keep K78
        have F66_r64_h78 : Fld Z T78.heap r64 "com/example/isimud/isimud/oscore/OscoreOption" "partialIv" "[B" (.ref y64a) := F66_r64_h76.keep K78 nin0
        have F67_r64_h78 : Fld Z T78.heap r64 "com/example/isimud/isimud/oscore/OscoreOption" "kidContext" "[B" (.ref y64b) := F67_r64_h76.keep K78 nin0
        have F68_r64_h78 : Fld Z T78.heap r64 "com/example/isimud/isimud/oscore/OscoreOption" "kid" "[B" .null := F68_r64_h76.keep K78 nin0
        have A69_y64b_h78 : own_A Z T78.heap y64b "[B" .byte (((us.map Value.int).drop ((1 + i1) + 1)).take i2) := A69_y64b_h76.keep K78 nin0
        have A75_y64a_h78 : own_A Z T78.heap y64a "[B" .byte (((us.map Value.int).drop 1).take i1) := A75_y64a_h76.keep K78 nin0
        have A77_r76_h78 : own_A Z T78.heap r76 "[B" .byte (((us.map Value.int).drop 1).take i1) := A77_r76.keep K78 nin0
        have Zs78 : n0 ≤ T78.heap.size := Nat.le_trans Zs76 K78.1
        have A79_r78 : own_A Z T78.heap r78 "[B" .byte (((us.map Value.int).drop ((1 + i1) + 1)).take i2) := Aq78
        have N78 := Fr.app N76 N78q
        refine own_of (fun t k => st78.trans k) ?_
        show own_Go p e below KK T78 (mkF m 213 #[oI p1, oI p2, oJ p3, o2, oJ p4, o2, oN i1, oI 1, oI 0, oN i2, oN i3, oI (((Int32.ofNat i1) ||| (0 : Int32)) ||| (16 : Int32)), oN (1 + i1), oN ((1 + i1) + (1 + i2)), oN ((1 + i1) + (1 + i2)), oR b55, oR r64, oR r76, oU, oU, oU, oU, oU] [(.ref r78)])
        refine own_at (fun t k => XS.astore X78.here hx rfl (hb hby at_213) rfl rfl (l' := #[oI p1, oI p2, oJ p3, o2, oJ p4, o2, oN i1, oI 1, oI 0, oN i2, oN i3, oI (((Int32.ofNat i1) ||| (0 : Int32)) ||| (16 : Int32)), oN (1 + i1), oN ((1 + i1) + (1 + i2)), oN ((1 + i1) + (1 + i2)), oR b55, oR r64, oR r76, oR r78, oU, oU, oU, oU]) rfl k) ?_
        show own_Go p e below KK T78 (mkF m 215 #[oI p1, oI p2, oJ p3, o2, oJ p4, o2, oN i1, oI 1, oI 0, oN i2, oN i3, oI (((Int32.ofNat i1) ||| (0 : Int32)) ||| (16 : Int32)), oN (1 + i1), oN ((1 + i1) + (1 + i2)), oN ((1 + i1) + (1 + i2)), oR b55, oR r64, oR r76, oR r78, oU, oU, oU, oU] [])
        refine own_at (fun t k => XS.aload X78.here hx rfl (hb hby at_215) rfl rfl k) ?_
        show own_Go p e below KK T78 (mkF m 217 #[oI p1, oI p2, oJ p3, o2, oJ p4, o2, oN i1, oI 1, oI 0, oN i2, oN i3, oI (((Int32.ofNat i1) ||| (0 : Int32)) ||| (16 : Int32)), oN (1 + i1), oN ((1 + i1) + (1 + i2)), oN ((1 + i1) + (1 + i2)), oR b55, oR r64, oR r76, oR r78, oU, oU, oU, oU] [(.ref r64)])
        obtain ⟨cq80, kq80, q80a, q80b, q80c⟩ := isOf hZ rfl E65_r64_h78
        obtain ⟨_, _, ⟨T80, L80, k80, n80⟩, -, X80, ⟨Lc80, hQ80, l80, y80, z80⟩, st80⟩ := X78.virtualBack hx (y := (⟨"com/example/isimud/isimud/oscore/OscoreOption", "kid", "()[B"⟩ : MethodName)) (z := (⟨"com/example/isimud/isimud/oscore/OscoreOption", "kid", "()[B"⟩ : MethodName)) hown (mvT hZ (hw _ (List.mem_of_getElem? (i := 64) rfl))) (mvT hZ (hw _ (List.mem_of_getElem? (i := 65) rfl))) (notFace_of_selects (args := #[]) (mvT hZ (hw _ (List.mem_of_getElem? (i := 67) rfl)))) (mvT hZ (hw _ (List.mem_of_getElem? (i := 67) rfl))) (mvT hZ (hw _ (List.mem_of_getElem? (i := 66) rfl))) (by decide) (backOf (W := 0) (rm_kid0 l Z a0 hw [] r64   T78.heap n0 Zs78 F68_r64_h78) hZ (hw _ (List.mem_of_getElem? (i := 68) rfl)) (hw _ (List.mem_of_getElem? (i := 8) rfl)) (by decide) (by decide)) q80a q80c (g := (mkF m 217 #[oI p1, oI p2, oJ p3, o2, oJ p4, o2, oN i1, oI 1, oI 0, oN i2, oN i3, oI (((Int32.ofNat i1) ||| (0 : Int32)) ||| (16 : Int32)), oN (1 + i1), oN ((1 + i1) + (1 + i2)), oN ((1 + i1) + (1 + i2)), oR b55, oR r64, oR r76, oR r78, oU, oU, oU, oU] [(.ref r64)])) rfl (by rw [hml]; rfl) (Steps.refl _) (argsL := []) (rest := []) (lenOf pd____B rfl) rfl (by show 2 * 0 + _ ≤ _; exact Nat.le_of_eq rfl) (hb hby at_217) (fun _ _ => ⟨rfl, rfl, (by decide : 7 + 0 ≤ _), (by decide : 81 + 0 ≤ _)⟩)
        dsimp only [Pt.U, Pt.locs, Pt.cells, Pt.slots] at X80 l80 y80 z80 st80 hQ80
        subst l80 y80 z80
        obtain ⟨rfl, N80q, e80⟩ := hQ80
        have N80 := Fr.app N78 N80q
        refine own_of (fun t k => st80.trans k) ?_
        show own_Go p e below KK T80 (mkF m 220 #[oI p1, oI p2, oJ p3, o2, oJ p4, o2, oN i1, oI 1, oI 0, oN i2, oN i3, oI (((Int32.ofNat i1) ||| (0 : Int32)) ||| (16 : Int32)), oN (1 + i1), oN ((1 + i1) + (1 + i2)), oN ((1 + i1) + (1 + i2)), oR b55, oR r64, oR r76, oR r78, oU, oU, oU, oU] [.null])
        refine own_at (fun t k => XS.astore X80.here hx rfl (hb hby at_220) rfl rfl (l' := #[oI p1, oI p2, oJ p3, o2, oJ p4, o2, oN i1, oI 1, oI 0, oN i2, oN i3, oI (((Int32.ofNat i1) ||| (0 : Int32)) ||| (16 : Int32)), oN (1 + i1), oN ((1 + i1) + (1 + i2)), oN ((1 + i1) + (1 + i2)), oR b55, oR r64, oR r76, oR r78, .val .null, oU, oU, oU]) rfl k) ?_
        show own_Go p e below KK T80 (mkF m 222 #[oI p1, oI p2, oJ p3, o2, oJ p4, o2, oN i1, oI 1, oI 0, oN i2, oN i3, oI (((Int32.ofNat i1) ||| (0 : Int32)) ||| (16 : Int32)), oN (1 + i1), oN ((1 + i1) + (1 + i2)), oN ((1 + i1) + (1 + i2)), oR b55, oR r64, oR r76, oR r78, .val .null, oU, oU, oU] [])
        refine own_at (fun t k => XS.iload X80.here hx rfl (hb hby at_222) rfl k) ?_
        show own_Go p e below KK T80 (mkF m 224 #[oI p1, oI p2, oJ p3, o2, oJ p4, o2, oN i1, oI 1, oI 0, oN i2, oN i3, oI (((Int32.ofNat i1) ||| (0 : Int32)) ||| (16 : Int32)), oN (1 + i1), oN ((1 + i1) + (1 + i2)), oN ((1 + i1) + (1 + i2)), oR b55, oR r64, oR r76, oR r78, .val .null, oU, oU, oU] [(.int (Int32.ofNat i1))])
        have hc224 : ¬ ((Int32.ofNat i1) = (0 : Int32)) := (fun q => hn0 ((own_eq (b := 0) (by omega) (by omega)).mp q))
        refine own_at (fun t k => XS.ifYes X80.here hx rfl (pc0 := 224) (pc' := 240) rfl (hb hby at_224) rfl (Jvm.Free.XT.i0_ne_t hc224) (by decide) (by decide) k) ?_
        show own_Go p e below KK T80 (mkF m 240 #[oI p1, oI p2, oJ p3, o2, oJ p4, o2, oN i1, oI 1, oI 0, oN i2, oN i3, oI (((Int32.ofNat i1) ||| (0 : Int32)) ||| (16 : Int32)), oN (1 + i1), oN ((1 + i1) + (1 + i2)), oN ((1 + i1) + (1 + i2)), oR b55, oR r64, oR r76, oR r78, .val .null, oU, oU, oU] [])
        refine own_at (fun t k => XS.aload X80.here hx rfl (hb hby at_240) rfl rfl k) ?_
        show own_Go p e below KK T80 (mkF m 242 #[oI p1, oI p2, oJ p3, o2, oJ p4, o2, oN i1, oI 1, oI 0, oN i2, oN i3, oI (((Int32.ofNat i1) ||| (0 : Int32)) ||| (16 : Int32)), oN (1 + i1), oN ((1 + i1) + (1 + i2)), oN ((1 + i1) + (1 + i2)), oR b55, oR r64, oR r76, oR r78, .val .null, oU, oU, oU] [(.ref r76)])
        refine own_at (fun t k => XS.aload X80.here hx rfl (hb hby at_242) rfl rfl k) ?_
        show own_Go p e below KK T80 (mkF m 244 #[oI p1, oI p2, oJ p3, o2, oJ p4, o2, oN i1, oI 1, oI 0, oN i2, oN i3, oI (((Int32.ofNat i1) ||| (0 : Int32)) ||| (16 : Int32)), oN (1 + i1), oN ((1 + i1) + (1 + i2)), oN ((1 + i1) + (1 + i2)), oR b55, oR r64, oR r76, oR r78, .val .null, oU, oU, oU] [(.ref b55), (.ref r76)])
        refine own_at (fun t k => XS.iconst X80.here hx rfl (hb hby at_244) k) ?_
        show own_Go p e below KK T80 (mkF m 245 #[oI p1, oI p2, oJ p3, o2, oJ p4, o2, oN i1, oI 1, oI 0, oN i2, oN i3, oI (((Int32.ofNat i1) ||| (0 : Int32)) ||| (16 : Int32)), oN (1 + i1), oN ((1 + i1) + (1 + i2)), oN ((1 + i1) + (1 + i2)), oR b55, oR r64, oR r76, oR r78, .val .null, oU, oU, oU] [(.int 1), (.ref b55), (.ref r76)])
        refine own_at (fun t k => XS.iload X80.here hx rfl (hb hby at_245) rfl k) ?_
        show own_Go p e below KK T80 (mkF m 247 #[oI p1, oI p2, oJ p3, o2, oJ p4, o2, oN i1, oI 1, oI 0, oN i2, oN i3, oI (((Int32.ofNat i1) ||| (0 : Int32)) ||| (16 : Int32)), oN (1 + i1), oN ((1 + i1) + (1 + i2)), oN ((1 + i1) + (1 + i2)), oR b55, oR r64, oR r76, oR r78, .val .null, oU, oU, oU] [(.int (Int32.ofNat i1)), (.int 1), (.ref b55), (.ref r76)])
        obtain ⟨_, _, ⟨T81, L81, k81, n81⟩, -, X81, ⟨Lc81, hQ81, l81, y81, z81⟩, st81⟩ := Jvm.LawKit.callS X80 hx (y := (⟨"com/example/isimud/isimud/oscore/OscoreOptionReadPinLaw", "same", "([B[BII)Z"⟩ : MethodName)) hown (mvT hZ (hw _ (List.mem_of_getElem? (i := 69) rfl))) (mvT hZ (hw _ (List.mem_of_getElem? (i := 70) rfl))) (mvT hZ (hw _ (List.mem_of_getElem? (i := 4) rfl))) (mvT hZ (hw _ (List.mem_of_getElem? (i := 71) rfl))) (by decide) (backOf (W := 0) (rm_same l Z a0 hw [] r76 b55 1 i1 us T78.heap n0 Zs78 (by omega) A77_r76_h78 A63_b55_h78 (by omega) (by omega)) hZ (hw _ (List.mem_of_getElem? (i := 71) rfl)) (hw _ (List.mem_of_getElem? (i := 4) rfl)) (by decide) (by decide)) (g := (mkF m 247 #[oI p1, oI p2, oJ p3, o2, oJ p4, o2, oN i1, oI 1, oI 0, oN i2, oN i3, oI (((Int32.ofNat i1) ||| (0 : Int32)) ||| (16 : Int32)), oN (1 + i1), oN ((1 + i1) + (1 + i2)), oN ((1 + i1) + (1 + i2)), oR b55, oR r64, oR r76, oR r78, .val .null, oU, oU, oU] [(.int (Int32.ofNat i1)), (.int 1), (.ref b55), (.ref r76)])) rfl (by rw [hml]; rfl) (argsL := [(.ref r76), (.ref b55), (.int 1), (.int (Int32.ofNat i1))]) (rest := []) (lenOf pd___B_BII_Z rfl) rfl (by show 2 * 0 + _ ≤ _; exact Nat.le_of_eq rfl) (hb hby at_247) (fun _ _ => ⟨rfl, e80, (by decide : 7 + 0 ≤ _), (by decide : 81 + 0 ≤ _)⟩)
        dsimp only [Pt.U, Pt.locs, Pt.cells, Pt.slots] at X81 l81 y81 z81 st81 hQ81
        subst l81 y81 z81
        obtain ⟨rfl, N81q, e81⟩ := hQ81
        have N81 := Fr.app N80 N81q
        refine own_of (fun t k => st81 t k) ?_
        show own_Go p e below KK T81 (mkF m 250 #[oI p1, oI p2, oJ p3, o2, oJ p4, o2, oN i1, oI 1, oI 0, oN i2, oN i3, oI (((Int32.ofNat i1) ||| (0 : Int32)) ||| (16 : Int32)), oN (1 + i1), oN ((1 + i1) + (1 + i2)), oN ((1 + i1) + (1 + i2)), oR b55, oR r64, oR r76, oR r78, .val .null, oU, oU, oU] [(.int 1)])
        refine own_at (fun t k => XS.istore X81.here hx rfl (hb hby at_250) rfl (l' := #[oI p1, oI p2, oJ p3, o2, oJ p4, o2, oN i1, oI 1, oI 0, oN i2, oN i3, oI (((Int32.ofNat i1) ||| (0 : Int32)) ||| (16 : Int32)), oN (1 + i1), oN ((1 + i1) + (1 + i2)), oN ((1 + i1) + (1 + i2)), oR b55, oR r64, oR r76, oR r78, .val .null, oI 1, oU, oU]) rfl k) ?_
        show own_Go p e below KK T81 (mkF m 252 #[oI p1, oI p2, oJ p3, o2, oJ p4, o2, oN i1, oI 1, oI 0, oN i2, oN i3, oI (((Int32.ofNat i1) ||| (0 : Int32)) ||| (16 : Int32)), oN (1 + i1), oN ((1 + i1) + (1 + i2)), oN ((1 + i1) + (1 + i2)), oR b55, oR r64, oR r76, oR r78, .val .null, oI 1, oU, oU] [])
        refine own_at (fun t k => XS.iload X81.here hx rfl (hb hby at_252) rfl k) ?_
        show own_Go p e below KK T81 (mkF m 254 #[oI p1, oI p2, oJ p3, o2, oJ p4, o2, oN i1, oI 1, oI 0, oN i2, oN i3, oI (((Int32.ofNat i1) ||| (0 : Int32)) ||| (16 : Int32)), oN (1 + i1), oN ((1 + i1) + (1 + i2)), oN ((1 + i1) + (1 + i2)), oR b55, oR r64, oR r76, oR r78, .val .null, oI 1, oU, oU] [(.int 1)])
        have hc254 : ¬ ((1 : Int32) = (0 : Int32)) := by decide
        refine own_at (fun t k => XS.ifNo X81.here hx rfl (hb hby at_254) rfl (Jvm.Free.XT.i0_eq_f hc254) k) ?_
        show own_Go p e below KK T81 (mkF m 257 #[oI p1, oI p2, oJ p3, o2, oJ p4, o2, oN i1, oI 1, oI 0, oN i2, oN i3, oI (((Int32.ofNat i1) ||| (0 : Int32)) ||| (16 : Int32)), oN (1 + i1), oN ((1 + i1) + (1 + i2)), oN ((1 + i1) + (1 + i2)), oR b55, oR r64, oR r76, oR r78, .val .null, oI 1, oU, oU] [])
        refine own_at (fun t k => XS.aload X81.here hx rfl (hb hby at_257) rfl rfl k) ?_
        show own_Go p e below KK T81 (mkF m 259 #[oI p1, oI p2, oJ p3, o2, oJ p4, o2, oN i1, oI 1, oI 0, oN i2, oN i3, oI (((Int32.ofNat i1) ||| (0 : Int32)) ||| (16 : Int32)), oN (1 + i1), oN ((1 + i1) + (1 + i2)), oN ((1 + i1) + (1 + i2)), oR b55, oR r64, oR r76, oR r78, .val .null, oI 1, oU, oU] [(.ref r78)])
        refine own_at (fun t k => XS.aload X81.here hx rfl (hb hby at_259) rfl rfl k) ?_
        show own_Go p e below KK T81 (mkF m 261 #[oI p1, oI p2, oJ p3, o2, oJ p4, o2, oN i1, oI 1, oI 0, oN i2, oN i3, oI (((Int32.ofNat i1) ||| (0 : Int32)) ||| (16 : Int32)), oN (1 + i1), oN ((1 + i1) + (1 + i2)), oN ((1 + i1) + (1 + i2)), oR b55, oR r64, oR r76, oR r78, .val .null, oI 1, oU, oU] [(.ref b55), (.ref r78)])
        refine own_at (fun t k => XS.iload X81.here hx rfl (hb hby at_261) rfl k) ?_
        show own_Go p e below KK T81 (mkF m 263 #[oI p1, oI p2, oJ p3, o2, oJ p4, o2, oN i1, oI 1, oI 0, oN i2, oN i3, oI (((Int32.ofNat i1) ||| (0 : Int32)) ||| (16 : Int32)), oN (1 + i1), oN ((1 + i1) + (1 + i2)), oN ((1 + i1) + (1 + i2)), oR b55, oR r64, oR r76, oR r78, .val .null, oI 1, oU, oU] [(.int (Int32.ofNat (1 + i1))), (.ref b55), (.ref r78)])
        refine own_at (fun t k => XS.iconst X81.here hx rfl (hb hby at_263) k) ?_
        show own_Go p e below KK T81 (mkF m 264 #[oI p1, oI p2, oJ p3, o2, oJ p4, o2, oN i1, oI 1, oI 0, oN i2, oN i3, oI (((Int32.ofNat i1) ||| (0 : Int32)) ||| (16 : Int32)), oN (1 + i1), oN ((1 + i1) + (1 + i2)), oN ((1 + i1) + (1 + i2)), oR b55, oR r64, oR r76, oR r78, .val .null, oI 1, oU, oU] [(.int 1), (.int (Int32.ofNat (1 + i1))), (.ref b55), (.ref r78)])
        refine own_at (fun t k => XS.iadd X81.here hx rfl (hb hby at_264) rfl k) ?_
        show own_Go p e below KK T81 (mkF m 265 #[oI p1, oI p2, oJ p3, o2, oJ p4, o2, oN i1, oI 1, oI 0, oN i2, oN i3, oI (((Int32.ofNat i1) ||| (0 : Int32)) ||| (16 : Int32)), oN (1 + i1), oN ((1 + i1) + (1 + i2)), oN ((1 + i1) + (1 + i2)), oR b55, oR r64, oR r76, oR r78, .val .null, oI 1, oU, oU] [(.int ((Int32.ofNat (1 + i1)) + (1 : Int32))), (.ref b55), (.ref r78)])
        rw [show ((Int32.ofNat (1 + i1)) + (1 : Int32)) = (Int32.ofNat ((1 + i1) + 1)) from own_add (1 + i1) 1]
        show own_Go p e below KK T81 (mkF m 265 #[oI p1, oI p2, oJ p3, o2, oJ p4, o2, oN i1, oI 1, oI 0, oN i2, oN i3, oI (((Int32.ofNat i1) ||| (0 : Int32)) ||| (16 : Int32)), oN (1 + i1), oN ((1 + i1) + (1 + i2)), oN ((1 + i1) + (1 + i2)), oR b55, oR r64, oR r76, oR r78, .val .null, oI 1, oU, oU] [(.int (Int32.ofNat ((1 + i1) + 1))), (.ref b55), (.ref r78)])
        refine own_at (fun t k => XS.iload X81.here hx rfl (hb hby at_265) rfl k) ?_
        show own_Go p e below KK T81 (mkF m 267 #[oI p1, oI p2, oJ p3, o2, oJ p4, o2, oN i1, oI 1, oI 0, oN i2, oN i3, oI (((Int32.ofNat i1) ||| (0 : Int32)) ||| (16 : Int32)), oN (1 + i1), oN ((1 + i1) + (1 + i2)), oN ((1 + i1) + (1 + i2)), oR b55, oR r64, oR r76, oR r78, .val .null, oI 1, oU, oU] [(.int (Int32.ofNat i2)), (.int (Int32.ofNat ((1 + i1) + 1))), (.ref b55), (.ref r78)])
        obtain ⟨_, _, ⟨T82, L82, k82, n82⟩, -, X82, ⟨Lc82, hQ82, l82, y82, z82⟩, st82⟩ := Jvm.LawKit.callS X81 hx (y := (⟨"com/example/isimud/isimud/oscore/OscoreOptionReadPinLaw", "same", "([B[BII)Z"⟩ : MethodName)) hown (mvT hZ (hw _ (List.mem_of_getElem? (i := 69) rfl))) (mvT hZ (hw _ (List.mem_of_getElem? (i := 70) rfl))) (mvT hZ (hw _ (List.mem_of_getElem? (i := 4) rfl))) (mvT hZ (hw _ (List.mem_of_getElem? (i := 71) rfl))) (by decide) (backOf (W := 0) (rm_same l Z a0 hw [] r78 b55 ((1 + i1) + 1) i2 us T78.heap n0 Zs78 (by omega) A79_r78 A63_b55_h78 (by omega) (by omega)) hZ (hw _ (List.mem_of_getElem? (i := 71) rfl)) (hw _ (List.mem_of_getElem? (i := 4) rfl)) (by decide) (by decide)) (g := (mkF m 267 #[oI p1, oI p2, oJ p3, o2, oJ p4, o2, oN i1, oI 1, oI 0, oN i2, oN i3, oI (((Int32.ofNat i1) ||| (0 : Int32)) ||| (16 : Int32)), oN (1 + i1), oN ((1 + i1) + (1 + i2)), oN ((1 + i1) + (1 + i2)), oR b55, oR r64, oR r76, oR r78, .val .null, oI 1, oU, oU] [(.int (Int32.ofNat i2)), (.int (Int32.ofNat ((1 + i1) + 1))), (.ref b55), (.ref r78)])) rfl (by rw [hml]; rfl) (argsL := [(.ref r78), (.ref b55), (.int (Int32.ofNat ((1 + i1) + 1))), (.int (Int32.ofNat i2))]) (rest := []) (lenOf pd___B_BII_Z rfl) rfl (by show 2 * 0 + _ ≤ _; exact Nat.le_of_eq rfl) (hb hby at_267) (fun _ _ => ⟨rfl, e81, (by decide : 7 + 0 ≤ _), (by decide : 81 + 0 ≤ _)⟩)
        dsimp only [Pt.U, Pt.locs, Pt.cells, Pt.slots] at X82 l82 y82 z82 st82 hQ82
        subst l82 y82 z82
        obtain ⟨rfl, N82q, e82⟩ := hQ82
        have N82 := Fr.app N81 N82q
        refine own_of (fun t k => st82 t k) ?_
        show own_Go p e below KK T82 (mkF m 270 #[oI p1, oI p2, oJ p3, o2, oJ p4, o2, oN i1, oI 1, oI 0, oN i2, oN i3, oI (((Int32.ofNat i1) ||| (0 : Int32)) ||| (16 : Int32)), oN (1 + i1), oN ((1 + i1) + (1 + i2)), oN ((1 + i1) + (1 + i2)), oR b55, oR r64, oR r76, oR r78, .val .null, oI 1, oU, oU] [(.int 1)])
        refine own_at (fun t k => XS.goto X82.here hx rfl (pc0 := 270) (pc' := 283) rfl (hb hby at_270) (by decide) (by decide) k) ?_
        show own_Go p e below KK T82 (mkF m 283 #[oI p1, oI p2, oJ p3, o2, oJ p4, o2, oN i1, oI 1, oI 0, oN i2, oN i3, oI (((Int32.ofNat i1) ||| (0 : Int32)) ||| (16 : Int32)), oN (1 + i1), oN ((1 + i1) + (1 + i2)), oN ((1 + i1) + (1 + i2)), oR b55, oR r64, oR r76, oR r78, .val .null, oI 1, oU, oU] [(.int 1)])
        refine own_at (fun t k => XS.istore X82.here hx rfl (hb hby at_283) rfl (l' := #[oI p1, oI p2, oJ p3, o2, oJ p4, o2, oN i1, oI 1, oI 0, oN i2, oN i3, oI (((Int32.ofNat i1) ||| (0 : Int32)) ||| (16 : Int32)), oN (1 + i1), oN ((1 + i1) + (1 + i2)), oN ((1 + i1) + (1 + i2)), oR b55, oR r64, oR r76, oR r78, .val .null, oI 1, oI 1, oU]) rfl k) ?_
        show own_Go p e below KK T82 (mkF m 285 #[oI p1, oI p2, oJ p3, o2, oJ p4, o2, oN i1, oI 1, oI 0, oN i2, oN i3, oI (((Int32.ofNat i1) ||| (0 : Int32)) ||| (16 : Int32)), oN (1 + i1), oN ((1 + i1) + (1 + i2)), oN ((1 + i1) + (1 + i2)), oR b55, oR r64, oR r76, oR r78, .val .null, oI 1, oI 1, oU] [])
        refine own_at (fun t k => XS.iload X82.here hx rfl (hb hby at_285) rfl k) ?_
        show own_Go p e below KK T82 (mkF m 287 #[oI p1, oI p2, oJ p3, o2, oJ p4, o2, oN i1, oI 1, oI 0, oN i2, oN i3, oI (((Int32.ofNat i1) ||| (0 : Int32)) ||| (16 : Int32)), oN (1 + i1), oN ((1 + i1) + (1 + i2)), oN ((1 + i1) + (1 + i2)), oR b55, oR r64, oR r76, oR r78, .val .null, oI 1, oI 1, oU] [(.int 0)])
        have hc287 : (0 : Int32) = (0 : Int32) := by decide
        refine own_at (fun t k => XS.ifYes X82.here hx rfl (pc0 := 287) (pc' := 304) rfl (hb hby at_287) rfl (Jvm.Free.XT.i0_eq_t hc287) (by decide) (by decide) k) ?_
        show own_Go p e below KK T82 (mkF m 304 #[oI p1, oI p2, oJ p3, o2, oJ p4, o2, oN i1, oI 1, oI 0, oN i2, oN i3, oI (((Int32.ofNat i1) ||| (0 : Int32)) ||| (16 : Int32)), oN (1 + i1), oN ((1 + i1) + (1 + i2)), oN ((1 + i1) + (1 + i2)), oR b55, oR r64, oR r76, oR r78, .val .null, oI 1, oI 1, oU] [])
        refine own_at (fun t k => XS.aload X82.here hx rfl (hb hby at_304) rfl rfl k) ?_
        show own_Go p e below KK T82 (mkF m 306 #[oI p1, oI p2, oJ p3, o2, oJ p4, o2, oN i1, oI 1, oI 0, oN i2, oN i3, oI (((Int32.ofNat i1) ||| (0 : Int32)) ||| (16 : Int32)), oN (1 + i1), oN ((1 + i1) + (1 + i2)), oN ((1 + i1) + (1 + i2)), oR b55, oR r64, oR r76, oR r78, .val .null, oI 1, oI 1, oU] [.null])
        refine own_at (fun t k => XS.ifnonnullNo X82.here hx rfl (hb hby at_306) rfl k) ?_
        show own_Go p e below KK T82 (mkF m 309 #[oI p1, oI p2, oJ p3, o2, oJ p4, o2, oN i1, oI 1, oI 0, oN i2, oN i3, oI (((Int32.ofNat i1) ||| (0 : Int32)) ||| (16 : Int32)), oN (1 + i1), oN ((1 + i1) + (1 + i2)), oN ((1 + i1) + (1 + i2)), oR b55, oR r64, oR r76, oR r78, .val .null, oI 1, oI 1, oU] [])
        refine own_at (fun t k => XS.iconst X82.here hx rfl (hb hby at_309) k) ?_
        show own_Go p e below KK T82 (mkF m 310 #[oI p1, oI p2, oJ p3, o2, oJ p4, o2, oN i1, oI 1, oI 0, oN i2, oN i3, oI (((Int32.ofNat i1) ||| (0 : Int32)) ||| (16 : Int32)), oN (1 + i1), oN ((1 + i1) + (1 + i2)), oN ((1 + i1) + (1 + i2)), oR b55, oR r64, oR r76, oR r78, .val .null, oI 1, oI 1, oU] [(.int 1)])
        refine own_at (fun t k => XS.goto X82.here hx rfl (pc0 := 310) (pc' := 314) rfl (hb hby at_310) (by decide) (by decide) k) ?_
        show own_Go p e below KK T82 (mkF m 314 #[oI p1, oI p2, oJ p3, o2, oJ p4, o2, oN i1, oI 1, oI 0, oN i2, oN i3, oI (((Int32.ofNat i1) ||| (0 : Int32)) ||| (16 : Int32)), oN (1 + i1), oN ((1 + i1) + (1 + i2)), oN ((1 + i1) + (1 + i2)), oR b55, oR r64, oR r76, oR r78, .val .null, oI 1, oI 1, oU] [(.int 1)])
        refine own_at (fun t k => XS.istore X82.here hx rfl (hb hby at_314) rfl (l' := #[oI p1, oI p2, oJ p3, o2, oJ p4, o2, oN i1, oI 1, oI 0, oN i2, oN i3, oI (((Int32.ofNat i1) ||| (0 : Int32)) ||| (16 : Int32)), oN (1 + i1), oN ((1 + i1) + (1 + i2)), oN ((1 + i1) + (1 + i2)), oR b55, oR r64, oR r76, oR r78, .val .null, oI 1, oI 1, oI 1]) rfl k) ?_
        show own_Go p e below KK T82 (mkF m 316 #[oI p1, oI p2, oJ p3, o2, oJ p4, o2, oN i1, oI 1, oI 0, oN i2, oN i3, oI (((Int32.ofNat i1) ||| (0 : Int32)) ||| (16 : Int32)), oN (1 + i1), oN ((1 + i1) + (1 + i2)), oN ((1 + i1) + (1 + i2)), oR b55, oR r64, oR r76, oR r78, .val .null, oI 1, oI 1, oI 1] [])
        refine own_at (fun t k => XS.iload X82.here hx rfl (hb hby at_316) rfl k) ?_
        show own_Go p e below KK T82 (mkF m 318 #[oI p1, oI p2, oJ p3, o2, oJ p4, o2, oN i1, oI 1, oI 0, oN i2, oN i3, oI (((Int32.ofNat i1) ||| (0 : Int32)) ||| (16 : Int32)), oN (1 + i1), oN ((1 + i1) + (1 + i2)), oN ((1 + i1) + (1 + i2)), oR b55, oR r64, oR r76, oR r78, .val .null, oI 1, oI 1, oI 1] [(.int 1)])
        have hc318 : ¬ ((1 : Int32) = (0 : Int32)) := by decide
        refine own_at (fun t k => XS.ifNo X82.here hx rfl (hb hby at_318) rfl (Jvm.Free.XT.i0_eq_f hc318) k) ?_
        show own_Go p e below KK T82 (mkF m 321 #[oI p1, oI p2, oJ p3, o2, oJ p4, o2, oN i1, oI 1, oI 0, oN i2, oN i3, oI (((Int32.ofNat i1) ||| (0 : Int32)) ||| (16 : Int32)), oN (1 + i1), oN ((1 + i1) + (1 + i2)), oN ((1 + i1) + (1 + i2)), oR b55, oR r64, oR r76, oR r78, .val .null, oI 1, oI 1, oI 1] [])
        refine own_at (fun t k => XS.iload X82.here hx rfl (hb hby at_321) rfl k) ?_
        show own_Go p e below KK T82 (mkF m 323 #[oI p1, oI p2, oJ p3, o2, oJ p4, o2, oN i1, oI 1, oI 0, oN i2, oN i3, oI (((Int32.ofNat i1) ||| (0 : Int32)) ||| (16 : Int32)), oN (1 + i1), oN ((1 + i1) + (1 + i2)), oN ((1 + i1) + (1 + i2)), oR b55, oR r64, oR r76, oR r78, .val .null, oI 1, oI 1, oI 1] [(.int 1)])
        have hc323 : ¬ ((1 : Int32) = (0 : Int32)) := by decide
        refine own_at (fun t k => XS.ifNo X82.here hx rfl (hb hby at_323) rfl (Jvm.Free.XT.i0_eq_f hc323) k) ?_
        show own_Go p e below KK T82 (mkF m 326 #[oI p1, oI p2, oJ p3, o2, oJ p4, o2, oN i1, oI 1, oI 0, oN i2, oN i3, oI (((Int32.ofNat i1) ||| (0 : Int32)) ||| (16 : Int32)), oN (1 + i1), oN ((1 + i1) + (1 + i2)), oN ((1 + i1) + (1 + i2)), oR b55, oR r64, oR r76, oR r78, .val .null, oI 1, oI 1, oI 1] [])
        refine own_at (fun t k => XS.iload X82.here hx rfl (hb hby at_326) rfl k) ?_
        show own_Go p e below KK T82 (mkF m 328 #[oI p1, oI p2, oJ p3, o2, oJ p4, o2, oN i1, oI 1, oI 0, oN i2, oN i3, oI (((Int32.ofNat i1) ||| (0 : Int32)) ||| (16 : Int32)), oN (1 + i1), oN ((1 + i1) + (1 + i2)), oN ((1 + i1) + (1 + i2)), oR b55, oR r64, oR r76, oR r78, .val .null, oI 1, oI 1, oI 1] [(.int 1)])
        have hc328 : ¬ ((1 : Int32) = (0 : Int32)) := by decide
        refine own_at (fun t k => XS.ifNo X82.here hx rfl (hb hby at_328) rfl (Jvm.Free.XT.i0_eq_f hc328) k) ?_
        show own_Go p e below KK T82 (mkF m 331 #[oI p1, oI p2, oJ p3, o2, oJ p4, o2, oN i1, oI 1, oI 0, oN i2, oN i3, oI (((Int32.ofNat i1) ||| (0 : Int32)) ||| (16 : Int32)), oN (1 + i1), oN ((1 + i1) + (1 + i2)), oN ((1 + i1) + (1 + i2)), oR b55, oR r64, oR r76, oR r78, .val .null, oI 1, oI 1, oI 1] [])
        refine own_at (fun t k => XS.iconst X82.here hx rfl (hb hby at_331) k) ?_
        show own_Go p e below KK T82 (mkF m 332 #[oI p1, oI p2, oJ p3, o2, oJ p4, o2, oN i1, oI 1, oI 0, oN i2, oN i3, oI (((Int32.ofNat i1) ||| (0 : Int32)) ||| (16 : Int32)), oN (1 + i1), oN ((1 + i1) + (1 + i2)), oN ((1 + i1) + (1 + i2)), oR b55, oR r64, oR r76, oR r78, .val .null, oI 1, oI 1, oI 1] [(.int 1)])
        refine own_at (fun t k => XS.goto X82.here hx rfl (pc0 := 332) (pc' := 336) rfl (hb hby at_332) (by decide) (by decide) k) ?_
        show own_Go p e below KK T82 (mkF m 336 #[oI p1, oI p2, oJ p3, o2, oJ p4, o2, oN i1, oI 1, oI 0, oN i2, oN i3, oI (((Int32.ofNat i1) ||| (0 : Int32)) ||| (16 : Int32)), oN (1 + i1), oN ((1 + i1) + (1 + i2)), oN ((1 + i1) + (1 + i2)), oR b55, oR r64, oR r76, oR r78, .val .null, oI 1, oI 1, oI 1] [(.int 1)])
        subst hKK
        exact own_retN X82 hx hlk (t := .boolean) Bd.returns (by simp) (hb hby at_336) (w := (1 : Int32)) (show nar .boolean (1 : Int32) = 1 from by decide) ⟨rfl, N82⟩ (Nat.le_of_ble_eq_true rfl) (Nat.le_of_ble_eq_true rfl)
    · refine own_at (fun t k => XS.ifNo X0.here hx rfl (hb hby at_25) rfl (Jvm.Free.XT.i0_eq_f hc25) k) ?_
      show own_Go p e below KK s₁ (mkF m 28 #[oI p1, oI p2, oJ p3, o2, oJ p4, o2, oN i1, oI 1, oU, oU, oU, oU, oU, oU, oU, oU, oU, oU, oU, oU, oU, oU, oU] [])
      refine own_at (fun t k => XS.iconst X0.here hx rfl (hb hby at_28) k) ?_
      show own_Go p e below KK s₁ (mkF m 29 #[oI p1, oI p2, oJ p3, o2, oJ p4, o2, oN i1, oI 1, oU, oU, oU, oU, oU, oU, oU, oU, oU, oU, oU, oU, oU, oU, oU] [(.int 1)])
      refine own_at (fun t k => XS.goto X0.here hx rfl (pc0 := 29) (pc' := 33) rfl (hb hby at_29) (by decide) (by decide) k) ?_
      show own_Go p e below KK s₁ (mkF m 33 #[oI p1, oI p2, oJ p3, o2, oJ p4, o2, oN i1, oI 1, oU, oU, oU, oU, oU, oU, oU, oU, oU, oU, oU, oU, oU, oU, oU] [(.int 1)])
      refine own_at (fun t k => XS.istore X0.here hx rfl (hb hby at_33) rfl (l' := #[oI p1, oI p2, oJ p3, o2, oJ p4, o2, oN i1, oI 1, oI 1, oU, oU, oU, oU, oU, oU, oU, oU, oU, oU, oU, oU, oU, oU]) rfl k) ?_
      show own_Go p e below KK s₁ (mkF m 35 #[oI p1, oI p2, oJ p3, o2, oJ p4, o2, oN i1, oI 1, oI 1, oU, oU, oU, oU, oU, oU, oU, oU, oU, oU, oU, oU, oU, oU] [])
      refine own_at (fun t k => XS.iloadN X0.here hx rfl (hb hby at_35) rfl k) ?_
      show own_Go p e below KK s₁ (mkF m 36 #[oI p1, oI p2, oJ p3, o2, oJ p4, o2, oN i1, oI 1, oI 1, oU, oU, oU, oU, oU, oU, oU, oU, oU, oU, oU, oU, oU, oU] [(.int p2)])
      refine own_at (fun t k => XS.iconst X0.here hx rfl (hb hby at_36) k) ?_
      show own_Go p e below KK s₁ (mkF m 37 #[oI p1, oI p2, oJ p3, o2, oJ p4, o2, oN i1, oI 1, oI 1, oU, oU, oU, oU, oU, oU, oU, oU, oU, oU, oU, oU, oU, oU] [(.int 2), (.int p2)])
      refine own_at (fun t k => XS.iushr X0.here hx rfl (hb hby at_37) rfl k) ?_
      show own_Go p e below KK s₁ (mkF m 38 #[oI p1, oI p2, oJ p3, o2, oJ p4, o2, oN i1, oI 1, oI 1, oU, oU, oU, oU, oU, oU, oU, oU, oU, oU, oU, oU, oU, oU] [(.int ((p2.toUInt32 >>> ((2 : Int32) &&& 31).toUInt32).toInt32))])
      refine own_at (fun t k => XS.iconst X0.here hx rfl (hb hby at_38) k) ?_
      show own_Go p e below KK s₁ (mkF m 39 #[oI p1, oI p2, oJ p3, o2, oJ p4, o2, oN i1, oI 1, oI 1, oU, oU, oU, oU, oU, oU, oU, oU, oU, oU, oU, oU, oU, oU] [(.int 3), (.int ((p2.toUInt32 >>> ((2 : Int32) &&& 31).toUInt32).toInt32))])
      refine own_at (fun t k => XS.iand X0.here hx rfl (hb hby at_39) rfl k) ?_
      show own_Go p e below KK s₁ (mkF m 40 #[oI p1, oI p2, oJ p3, o2, oJ p4, o2, oN i1, oI 1, oI 1, oU, oU, oU, oU, oU, oU, oU, oU, oU, oU, oU, oU, oU, oU] [(.int (((p2.toUInt32 >>> ((2 : Int32) &&& 31).toUInt32).toInt32) &&& (3 : Int32)))])
      obtain ⟨nb, hnb⟩ : ∃ z, z = (((p2.toUInt32 >>> ((2 : Int32) &&& 31).toUInt32).toInt32) &&& (3 : Int32)) := ⟨_, rfl⟩
      rw [← hnb]
      show own_Go p e below KK s₁ (mkF m 40 #[oI p1, oI p2, oJ p3, o2, oJ p4, o2, oN i1, oI 1, oI 1, oU, oU, oU, oU, oU, oU, oU, oU, oU, oU, oU, oU, oU, oU] [(.int nb)])
      obtain ⟨i2, hi2, ei2⟩ := own_n3 hnb
      subst ei2
      show own_Go p e below KK s₁ (mkF m 40 #[oI p1, oI p2, oJ p3, o2, oJ p4, o2, oN i1, oI 1, oI 1, oU, oU, oU, oU, oU, oU, oU, oU, oU, oU, oU, oU, oU, oU] [(.int (Int32.ofNat i2))])
      refine own_at (fun t k => XS.istore X0.here hx rfl (hb hby at_40) rfl (l' := #[oI p1, oI p2, oJ p3, o2, oJ p4, o2, oN i1, oI 1, oI 1, oN i2, oU, oU, oU, oU, oU, oU, oU, oU, oU, oU, oU, oU, oU]) rfl k) ?_
      show own_Go p e below KK s₁ (mkF m 42 #[oI p1, oI p2, oJ p3, o2, oJ p4, o2, oN i1, oI 1, oI 1, oN i2, oU, oU, oU, oU, oU, oU, oU, oU, oU, oU, oU, oU, oU] [])
      refine own_at (fun t k => XS.iloadN X0.here hx rfl (hb hby at_42) rfl k) ?_
      show own_Go p e below KK s₁ (mkF m 43 #[oI p1, oI p2, oJ p3, o2, oJ p4, o2, oN i1, oI 1, oI 1, oN i2, oU, oU, oU, oU, oU, oU, oU, oU, oU, oU, oU, oU, oU] [(.int p2)])
      refine own_at (fun t k => XS.iconst X0.here hx rfl (hb hby at_43) k) ?_
      show own_Go p e below KK s₁ (mkF m 44 #[oI p1, oI p2, oJ p3, o2, oJ p4, o2, oN i1, oI 1, oI 1, oN i2, oU, oU, oU, oU, oU, oU, oU, oU, oU, oU, oU, oU, oU] [(.int 4), (.int p2)])
      refine own_at (fun t k => XS.iushr X0.here hx rfl (hb hby at_44) rfl k) ?_
      show own_Go p e below KK s₁ (mkF m 45 #[oI p1, oI p2, oJ p3, o2, oJ p4, o2, oN i1, oI 1, oI 1, oN i2, oU, oU, oU, oU, oU, oU, oU, oU, oU, oU, oU, oU, oU] [(.int ((p2.toUInt32 >>> ((4 : Int32) &&& 31).toUInt32).toInt32))])
      refine own_at (fun t k => XS.iconst X0.here hx rfl (hb hby at_45) k) ?_
      show own_Go p e below KK s₁ (mkF m 46 #[oI p1, oI p2, oJ p3, o2, oJ p4, o2, oN i1, oI 1, oI 1, oN i2, oU, oU, oU, oU, oU, oU, oU, oU, oU, oU, oU, oU, oU] [(.int 3), (.int ((p2.toUInt32 >>> ((4 : Int32) &&& 31).toUInt32).toInt32))])
      refine own_at (fun t k => XS.iand X0.here hx rfl (hb hby at_46) rfl k) ?_
      show own_Go p e below KK s₁ (mkF m 47 #[oI p1, oI p2, oJ p3, o2, oJ p4, o2, oN i1, oI 1, oI 1, oN i2, oU, oU, oU, oU, oU, oU, oU, oU, oU, oU, oU, oU, oU] [(.int (((p2.toUInt32 >>> ((4 : Int32) &&& 31).toUInt32).toInt32) &&& (3 : Int32)))])
      obtain ⟨nc, hnc⟩ : ∃ z, z = (((p2.toUInt32 >>> ((4 : Int32) &&& 31).toUInt32).toInt32) &&& (3 : Int32)) := ⟨_, rfl⟩
      rw [← hnc]
      show own_Go p e below KK s₁ (mkF m 47 #[oI p1, oI p2, oJ p3, o2, oJ p4, o2, oN i1, oI 1, oI 1, oN i2, oU, oU, oU, oU, oU, oU, oU, oU, oU, oU, oU, oU, oU] [(.int nc)])
      obtain ⟨i3, hi3, ei3⟩ := own_n3 hnc
      subst ei3
      show own_Go p e below KK s₁ (mkF m 47 #[oI p1, oI p2, oJ p3, o2, oJ p4, o2, oN i1, oI 1, oI 1, oN i2, oU, oU, oU, oU, oU, oU, oU, oU, oU, oU, oU, oU, oU] [(.int (Int32.ofNat i3))])
      refine own_at (fun t k => XS.istore X0.here hx rfl (hb hby at_47) rfl (l' := #[oI p1, oI p2, oJ p3, o2, oJ p4, o2, oN i1, oI 1, oI 1, oN i2, oN i3, oU, oU, oU, oU, oU, oU, oU, oU, oU, oU, oU, oU]) rfl k) ?_
      show own_Go p e below KK s₁ (mkF m 49 #[oI p1, oI p2, oJ p3, o2, oJ p4, o2, oN i1, oI 1, oI 1, oN i2, oN i3, oU, oU, oU, oU, oU, oU, oU, oU, oU, oU, oU, oU] [])
      refine own_at (fun t k => XS.iload X0.here hx rfl (hb hby at_49) rfl k) ?_
      show own_Go p e below KK s₁ (mkF m 51 #[oI p1, oI p2, oJ p3, o2, oJ p4, o2, oN i1, oI 1, oI 1, oN i2, oN i3, oU, oU, oU, oU, oU, oU, oU, oU, oU, oU, oU, oU] [(.int (Int32.ofNat i1))])
      refine own_at (fun t k => XS.iload X0.here hx rfl (hb hby at_51) rfl k) ?_
      show own_Go p e below KK s₁ (mkF m 53 #[oI p1, oI p2, oJ p3, o2, oJ p4, o2, oN i1, oI 1, oI 1, oN i2, oN i3, oU, oU, oU, oU, oU, oU, oU, oU, oU, oU, oU, oU] [(.int 1), (.int (Int32.ofNat i1))])
      have hc53 : ¬ ((1 : Int32) = (0 : Int32)) := by decide
      refine own_at (fun t k => XS.ifNo X0.here hx rfl (hb hby at_53) rfl (Jvm.Free.XT.i0_eq_f hc53) k) ?_
      show own_Go p e below KK s₁ (mkF m 56 #[oI p1, oI p2, oJ p3, o2, oJ p4, o2, oN i1, oI 1, oI 1, oN i2, oN i3, oU, oU, oU, oU, oU, oU, oU, oU, oU, oU, oU, oU] [(.int (Int32.ofNat i1))])
      refine own_at (fun t k => XS.bipush X0.here hx rfl (hb hby at_56) k) ?_
      show own_Go p e below KK s₁ (mkF m 58 #[oI p1, oI p2, oJ p3, o2, oJ p4, o2, oN i1, oI 1, oI 1, oN i2, oN i3, oU, oU, oU, oU, oU, oU, oU, oU, oU, oU, oU, oU] [(.int 8), (.int (Int32.ofNat i1))])
      refine own_at (fun t k => XS.goto X0.here hx rfl (pc0 := 58) (pc' := 62) rfl (hb hby at_58) (by decide) (by decide) k) ?_
      show own_Go p e below KK s₁ (mkF m 62 #[oI p1, oI p2, oJ p3, o2, oJ p4, o2, oN i1, oI 1, oI 1, oN i2, oN i3, oU, oU, oU, oU, oU, oU, oU, oU, oU, oU, oU, oU] [(.int 8), (.int (Int32.ofNat i1))])
      refine own_at (fun t k => XS.ior X0.here hx rfl (hb hby at_62) rfl k) ?_
      show own_Go p e below KK s₁ (mkF m 63 #[oI p1, oI p2, oJ p3, o2, oJ p4, o2, oN i1, oI 1, oI 1, oN i2, oN i3, oU, oU, oU, oU, oU, oU, oU, oU, oU, oU, oU, oU] [(.int ((Int32.ofNat i1) ||| (8 : Int32)))])
      refine own_at (fun t k => XS.iload X0.here hx rfl (hb hby at_63) rfl k) ?_
      show own_Go p e below KK s₁ (mkF m 65 #[oI p1, oI p2, oJ p3, o2, oJ p4, o2, oN i1, oI 1, oI 1, oN i2, oN i3, oU, oU, oU, oU, oU, oU, oU, oU, oU, oU, oU, oU] [(.int 1), (.int ((Int32.ofNat i1) ||| (8 : Int32)))])
      have hc65 : ¬ ((1 : Int32) = (0 : Int32)) := by decide
      refine own_at (fun t k => XS.ifNo X0.here hx rfl (hb hby at_65) rfl (Jvm.Free.XT.i0_eq_f hc65) k) ?_
      show own_Go p e below KK s₁ (mkF m 68 #[oI p1, oI p2, oJ p3, o2, oJ p4, o2, oN i1, oI 1, oI 1, oN i2, oN i3, oU, oU, oU, oU, oU, oU, oU, oU, oU, oU, oU, oU] [(.int ((Int32.ofNat i1) ||| (8 : Int32)))])
      refine own_at (fun t k => XS.bipush X0.here hx rfl (hb hby at_68) k) ?_
      show own_Go p e below KK s₁ (mkF m 70 #[oI p1, oI p2, oJ p3, o2, oJ p4, o2, oN i1, oI 1, oI 1, oN i2, oN i3, oU, oU, oU, oU, oU, oU, oU, oU, oU, oU, oU, oU] [(.int 16), (.int ((Int32.ofNat i1) ||| (8 : Int32)))])
      refine own_at (fun t k => XS.goto X0.here hx rfl (pc0 := 70) (pc' := 74) rfl (hb hby at_70) (by decide) (by decide) k) ?_
      show own_Go p e below KK s₁ (mkF m 74 #[oI p1, oI p2, oJ p3, o2, oJ p4, o2, oN i1, oI 1, oI 1, oN i2, oN i3, oU, oU, oU, oU, oU, oU, oU, oU, oU, oU, oU, oU] [(.int 16), (.int ((Int32.ofNat i1) ||| (8 : Int32)))])
      refine own_at (fun t k => XS.ior X0.here hx rfl (hb hby at_74) rfl k) ?_
      show own_Go p e below KK s₁ (mkF m 75 #[oI p1, oI p2, oJ p3, o2, oJ p4, o2, oN i1, oI 1, oI 1, oN i2, oN i3, oU, oU, oU, oU, oU, oU, oU, oU, oU, oU, oU, oU] [(.int (((Int32.ofNat i1) ||| (8 : Int32)) ||| (16 : Int32)))])
      refine own_at (fun t k => XS.istore X0.here hx rfl (hb hby at_75) rfl (l' := #[oI p1, oI p2, oJ p3, o2, oJ p4, o2, oN i1, oI 1, oI 1, oN i2, oN i3, oI (((Int32.ofNat i1) ||| (8 : Int32)) ||| (16 : Int32)), oU, oU, oU, oU, oU, oU, oU, oU, oU, oU, oU]) rfl k) ?_
      show own_Go p e below KK s₁ (mkF m 77 #[oI p1, oI p2, oJ p3, o2, oJ p4, o2, oN i1, oI 1, oI 1, oN i2, oN i3, oI (((Int32.ofNat i1) ||| (8 : Int32)) ||| (16 : Int32)), oU, oU, oU, oU, oU, oU, oU, oU, oU, oU, oU] [])
      refine own_at (fun t k => XS.iload X0.here hx rfl (hb hby at_77) rfl k) ?_
      show own_Go p e below KK s₁ (mkF m 79 #[oI p1, oI p2, oJ p3, o2, oJ p4, o2, oN i1, oI 1, oI 1, oN i2, oN i3, oI (((Int32.ofNat i1) ||| (8 : Int32)) ||| (16 : Int32)), oU, oU, oU, oU, oU, oU, oU, oU, oU, oU, oU] [(.int (((Int32.ofNat i1) ||| (8 : Int32)) ||| (16 : Int32)))])
      have hc79 : ¬ ((((Int32.ofNat i1) ||| (8 : Int32)) ||| (16 : Int32)) = (0 : Int32)) := own_nz11 hi1
      refine own_at (fun t k => XS.ifYes X0.here hx rfl (pc0 := 79) (pc' := 120) rfl (hb hby at_79) rfl (Jvm.Free.XT.i0_ne_t hc79) (by decide) (by decide) k) ?_
      show own_Go p e below KK s₁ (mkF m 120 #[oI p1, oI p2, oJ p3, o2, oJ p4, o2, oN i1, oI 1, oI 1, oN i2, oN i3, oI (((Int32.ofNat i1) ||| (8 : Int32)) ||| (16 : Int32)), oU, oU, oU, oU, oU, oU, oU, oU, oU, oU, oU] [])
      refine own_at (fun t k => XS.iconst X0.here hx rfl (hb hby at_120) k) ?_
      show own_Go p e below KK s₁ (mkF m 121 #[oI p1, oI p2, oJ p3, o2, oJ p4, o2, oN i1, oI 1, oI 1, oN i2, oN i3, oI (((Int32.ofNat i1) ||| (8 : Int32)) ||| (16 : Int32)), oU, oU, oU, oU, oU, oU, oU, oU, oU, oU, oU] [(.int 1)])
      refine own_at (fun t k => XS.iload X0.here hx rfl (hb hby at_121) rfl k) ?_
      show own_Go p e below KK s₁ (mkF m 123 #[oI p1, oI p2, oJ p3, o2, oJ p4, o2, oN i1, oI 1, oI 1, oN i2, oN i3, oI (((Int32.ofNat i1) ||| (8 : Int32)) ||| (16 : Int32)), oU, oU, oU, oU, oU, oU, oU, oU, oU, oU, oU] [(.int (Int32.ofNat i1)), (.int 1)])
      refine own_at (fun t k => XS.iadd X0.here hx rfl (hb hby at_123) rfl k) ?_
      show own_Go p e below KK s₁ (mkF m 124 #[oI p1, oI p2, oJ p3, o2, oJ p4, o2, oN i1, oI 1, oI 1, oN i2, oN i3, oI (((Int32.ofNat i1) ||| (8 : Int32)) ||| (16 : Int32)), oU, oU, oU, oU, oU, oU, oU, oU, oU, oU, oU] [(.int ((1 : Int32) + (Int32.ofNat i1)))])
      rw [show ((1 : Int32) + (Int32.ofNat i1)) = (Int32.ofNat (1 + i1)) from own_add 1 i1]
      show own_Go p e below KK s₁ (mkF m 124 #[oI p1, oI p2, oJ p3, o2, oJ p4, o2, oN i1, oI 1, oI 1, oN i2, oN i3, oI (((Int32.ofNat i1) ||| (8 : Int32)) ||| (16 : Int32)), oU, oU, oU, oU, oU, oU, oU, oU, oU, oU, oU] [(.int (Int32.ofNat (1 + i1)))])
      refine own_at (fun t k => XS.istore X0.here hx rfl (hb hby at_124) rfl (l' := #[oI p1, oI p2, oJ p3, o2, oJ p4, o2, oN i1, oI 1, oI 1, oN i2, oN i3, oI (((Int32.ofNat i1) ||| (8 : Int32)) ||| (16 : Int32)), oN (1 + i1), oU, oU, oU, oU, oU, oU, oU, oU, oU, oU]) rfl k) ?_
      show own_Go p e below KK s₁ (mkF m 126 #[oI p1, oI p2, oJ p3, o2, oJ p4, o2, oN i1, oI 1, oI 1, oN i2, oN i3, oI (((Int32.ofNat i1) ||| (8 : Int32)) ||| (16 : Int32)), oN (1 + i1), oU, oU, oU, oU, oU, oU, oU, oU, oU, oU] [])
      refine own_at (fun t k => XS.iload X0.here hx rfl (hb hby at_126) rfl k) ?_
      show own_Go p e below KK s₁ (mkF m 128 #[oI p1, oI p2, oJ p3, o2, oJ p4, o2, oN i1, oI 1, oI 1, oN i2, oN i3, oI (((Int32.ofNat i1) ||| (8 : Int32)) ||| (16 : Int32)), oN (1 + i1), oU, oU, oU, oU, oU, oU, oU, oU, oU, oU] [(.int (Int32.ofNat (1 + i1)))])
      refine own_at (fun t k => XS.iload X0.here hx rfl (hb hby at_128) rfl k) ?_
      show own_Go p e below KK s₁ (mkF m 130 #[oI p1, oI p2, oJ p3, o2, oJ p4, o2, oN i1, oI 1, oI 1, oN i2, oN i3, oI (((Int32.ofNat i1) ||| (8 : Int32)) ||| (16 : Int32)), oN (1 + i1), oU, oU, oU, oU, oU, oU, oU, oU, oU, oU] [(.int 1), (.int (Int32.ofNat (1 + i1)))])
      have hc130 : ¬ ((1 : Int32) = (0 : Int32)) := by decide
      refine own_at (fun t k => XS.ifNo X0.here hx rfl (hb hby at_130) rfl (Jvm.Free.XT.i0_eq_f hc130) k) ?_
      show own_Go p e below KK s₁ (mkF m 133 #[oI p1, oI p2, oJ p3, o2, oJ p4, o2, oN i1, oI 1, oI 1, oN i2, oN i3, oI (((Int32.ofNat i1) ||| (8 : Int32)) ||| (16 : Int32)), oN (1 + i1), oU, oU, oU, oU, oU, oU, oU, oU, oU, oU] [(.int (Int32.ofNat (1 + i1)))])
      refine own_at (fun t k => XS.iconst X0.here hx rfl (hb hby at_133) k) ?_
      show own_Go p e below KK s₁ (mkF m 134 #[oI p1, oI p2, oJ p3, o2, oJ p4, o2, oN i1, oI 1, oI 1, oN i2, oN i3, oI (((Int32.ofNat i1) ||| (8 : Int32)) ||| (16 : Int32)), oN (1 + i1), oU, oU, oU, oU, oU, oU, oU, oU, oU, oU] [(.int 1), (.int (Int32.ofNat (1 + i1)))])
      refine own_at (fun t k => XS.iload X0.here hx rfl (hb hby at_134) rfl k) ?_
      show own_Go p e below KK s₁ (mkF m 136 #[oI p1, oI p2, oJ p3, o2, oJ p4, o2, oN i1, oI 1, oI 1, oN i2, oN i3, oI (((Int32.ofNat i1) ||| (8 : Int32)) ||| (16 : Int32)), oN (1 + i1), oU, oU, oU, oU, oU, oU, oU, oU, oU, oU] [(.int (Int32.ofNat i2)), (.int 1), (.int (Int32.ofNat (1 + i1)))])
      refine own_at (fun t k => XS.iadd X0.here hx rfl (hb hby at_136) rfl k) ?_
      show own_Go p e below KK s₁ (mkF m 137 #[oI p1, oI p2, oJ p3, o2, oJ p4, o2, oN i1, oI 1, oI 1, oN i2, oN i3, oI (((Int32.ofNat i1) ||| (8 : Int32)) ||| (16 : Int32)), oN (1 + i1), oU, oU, oU, oU, oU, oU, oU, oU, oU, oU] [(.int ((1 : Int32) + (Int32.ofNat i2))), (.int (Int32.ofNat (1 + i1)))])
      rw [show ((1 : Int32) + (Int32.ofNat i2)) = (Int32.ofNat (1 + i2)) from own_add 1 i2]
      show own_Go p e below KK s₁ (mkF m 137 #[oI p1, oI p2, oJ p3, o2, oJ p4, o2, oN i1, oI 1, oI 1, oN i2, oN i3, oI (((Int32.ofNat i1) ||| (8 : Int32)) ||| (16 : Int32)), oN (1 + i1), oU, oU, oU, oU, oU, oU, oU, oU, oU, oU] [(.int (Int32.ofNat (1 + i2))), (.int (Int32.ofNat (1 + i1)))])
      refine own_at (fun t k => XS.goto X0.here hx rfl (pc0 := 137) (pc' := 141) rfl (hb hby at_137) (by decide) (by decide) k) ?_
      show own_Go p e below KK s₁ (mkF m 141 #[oI p1, oI p2, oJ p3, o2, oJ p4, o2, oN i1, oI 1, oI 1, oN i2, oN i3, oI (((Int32.ofNat i1) ||| (8 : Int32)) ||| (16 : Int32)), oN (1 + i1), oU, oU, oU, oU, oU, oU, oU, oU, oU, oU] [(.int (Int32.ofNat (1 + i2))), (.int (Int32.ofNat (1 + i1)))])
      refine own_at (fun t k => XS.iadd X0.here hx rfl (hb hby at_141) rfl k) ?_
      show own_Go p e below KK s₁ (mkF m 142 #[oI p1, oI p2, oJ p3, o2, oJ p4, o2, oN i1, oI 1, oI 1, oN i2, oN i3, oI (((Int32.ofNat i1) ||| (8 : Int32)) ||| (16 : Int32)), oN (1 + i1), oU, oU, oU, oU, oU, oU, oU, oU, oU, oU] [(.int ((Int32.ofNat (1 + i1)) + (Int32.ofNat (1 + i2))))])
      rw [show ((Int32.ofNat (1 + i1)) + (Int32.ofNat (1 + i2))) = (Int32.ofNat ((1 + i1) + (1 + i2))) from own_add (1 + i1) (1 + i2)]
      show own_Go p e below KK s₁ (mkF m 142 #[oI p1, oI p2, oJ p3, o2, oJ p4, o2, oN i1, oI 1, oI 1, oN i2, oN i3, oI (((Int32.ofNat i1) ||| (8 : Int32)) ||| (16 : Int32)), oN (1 + i1), oU, oU, oU, oU, oU, oU, oU, oU, oU, oU] [(.int (Int32.ofNat ((1 + i1) + (1 + i2))))])
      refine own_at (fun t k => XS.istore X0.here hx rfl (hb hby at_142) rfl (l' := #[oI p1, oI p2, oJ p3, o2, oJ p4, o2, oN i1, oI 1, oI 1, oN i2, oN i3, oI (((Int32.ofNat i1) ||| (8 : Int32)) ||| (16 : Int32)), oN (1 + i1), oN ((1 + i1) + (1 + i2)), oU, oU, oU, oU, oU, oU, oU, oU, oU]) rfl k) ?_
      show own_Go p e below KK s₁ (mkF m 144 #[oI p1, oI p2, oJ p3, o2, oJ p4, o2, oN i1, oI 1, oI 1, oN i2, oN i3, oI (((Int32.ofNat i1) ||| (8 : Int32)) ||| (16 : Int32)), oN (1 + i1), oN ((1 + i1) + (1 + i2)), oU, oU, oU, oU, oU, oU, oU, oU, oU] [])
      refine own_at (fun t k => XS.iload X0.here hx rfl (hb hby at_144) rfl k) ?_
      show own_Go p e below KK s₁ (mkF m 146 #[oI p1, oI p2, oJ p3, o2, oJ p4, o2, oN i1, oI 1, oI 1, oN i2, oN i3, oI (((Int32.ofNat i1) ||| (8 : Int32)) ||| (16 : Int32)), oN (1 + i1), oN ((1 + i1) + (1 + i2)), oU, oU, oU, oU, oU, oU, oU, oU, oU] [(.int (Int32.ofNat ((1 + i1) + (1 + i2))))])
      refine own_at (fun t k => XS.iload X0.here hx rfl (hb hby at_146) rfl k) ?_
      show own_Go p e below KK s₁ (mkF m 148 #[oI p1, oI p2, oJ p3, o2, oJ p4, o2, oN i1, oI 1, oI 1, oN i2, oN i3, oI (((Int32.ofNat i1) ||| (8 : Int32)) ||| (16 : Int32)), oN (1 + i1), oN ((1 + i1) + (1 + i2)), oU, oU, oU, oU, oU, oU, oU, oU, oU] [(.int 1), (.int (Int32.ofNat ((1 + i1) + (1 + i2))))])
      have hc148 : ¬ ((1 : Int32) = (0 : Int32)) := by decide
      refine own_at (fun t k => XS.ifNo X0.here hx rfl (hb hby at_148) rfl (Jvm.Free.XT.i0_eq_f hc148) k) ?_
      show own_Go p e below KK s₁ (mkF m 151 #[oI p1, oI p2, oJ p3, o2, oJ p4, o2, oN i1, oI 1, oI 1, oN i2, oN i3, oI (((Int32.ofNat i1) ||| (8 : Int32)) ||| (16 : Int32)), oN (1 + i1), oN ((1 + i1) + (1 + i2)), oU, oU, oU, oU, oU, oU, oU, oU, oU] [(.int (Int32.ofNat ((1 + i1) + (1 + i2))))])
      refine own_at (fun t k => XS.iload X0.here hx rfl (hb hby at_151) rfl k) ?_
      show own_Go p e below KK s₁ (mkF m 153 #[oI p1, oI p2, oJ p3, o2, oJ p4, o2, oN i1, oI 1, oI 1, oN i2, oN i3, oI (((Int32.ofNat i1) ||| (8 : Int32)) ||| (16 : Int32)), oN (1 + i1), oN ((1 + i1) + (1 + i2)), oU, oU, oU, oU, oU, oU, oU, oU, oU] [(.int (Int32.ofNat i3)), (.int (Int32.ofNat ((1 + i1) + (1 + i2))))])
      refine own_at (fun t k => XS.goto X0.here hx rfl (pc0 := 153) (pc' := 157) rfl (hb hby at_153) (by decide) (by decide) k) ?_
      show own_Go p e below KK s₁ (mkF m 157 #[oI p1, oI p2, oJ p3, o2, oJ p4, o2, oN i1, oI 1, oI 1, oN i2, oN i3, oI (((Int32.ofNat i1) ||| (8 : Int32)) ||| (16 : Int32)), oN (1 + i1), oN ((1 + i1) + (1 + i2)), oU, oU, oU, oU, oU, oU, oU, oU, oU] [(.int (Int32.ofNat i3)), (.int (Int32.ofNat ((1 + i1) + (1 + i2))))])
      refine own_at (fun t k => XS.iadd X0.here hx rfl (hb hby at_157) rfl k) ?_
      show own_Go p e below KK s₁ (mkF m 158 #[oI p1, oI p2, oJ p3, o2, oJ p4, o2, oN i1, oI 1, oI 1, oN i2, oN i3, oI (((Int32.ofNat i1) ||| (8 : Int32)) ||| (16 : Int32)), oN (1 + i1), oN ((1 + i1) + (1 + i2)), oU, oU, oU, oU, oU, oU, oU, oU, oU] [(.int ((Int32.ofNat ((1 + i1) + (1 + i2))) + (Int32.ofNat i3)))])
      rw [show ((Int32.ofNat ((1 + i1) + (1 + i2))) + (Int32.ofNat i3)) = (Int32.ofNat (((1 + i1) + (1 + i2)) + i3)) from own_add ((1 + i1) + (1 + i2)) i3]
      show own_Go p e below KK s₁ (mkF m 158 #[oI p1, oI p2, oJ p3, o2, oJ p4, o2, oN i1, oI 1, oI 1, oN i2, oN i3, oI (((Int32.ofNat i1) ||| (8 : Int32)) ||| (16 : Int32)), oN (1 + i1), oN ((1 + i1) + (1 + i2)), oU, oU, oU, oU, oU, oU, oU, oU, oU] [(.int (Int32.ofNat (((1 + i1) + (1 + i2)) + i3)))])
      refine own_at (fun t k => XS.istore X0.here hx rfl (hb hby at_158) rfl (l' := #[oI p1, oI p2, oJ p3, o2, oJ p4, o2, oN i1, oI 1, oI 1, oN i2, oN i3, oI (((Int32.ofNat i1) ||| (8 : Int32)) ||| (16 : Int32)), oN (1 + i1), oN ((1 + i1) + (1 + i2)), oN (((1 + i1) + (1 + i2)) + i3), oU, oU, oU, oU, oU, oU, oU, oU]) rfl k) ?_
      show own_Go p e below KK s₁ (mkF m 160 #[oI p1, oI p2, oJ p3, o2, oJ p4, o2, oN i1, oI 1, oI 1, oN i2, oN i3, oI (((Int32.ofNat i1) ||| (8 : Int32)) ||| (16 : Int32)), oN (1 + i1), oN ((1 + i1) + (1 + i2)), oN (((1 + i1) + (1 + i2)) + i3), oU, oU, oU, oU, oU, oU, oU, oU] [])
      refine own_at (fun t k => XS.iload X0.here hx rfl (hb hby at_160) rfl k) ?_
      show own_Go p e below KK s₁ (mkF m 162 #[oI p1, oI p2, oJ p3, o2, oJ p4, o2, oN i1, oI 1, oI 1, oN i2, oN i3, oI (((Int32.ofNat i1) ||| (8 : Int32)) ||| (16 : Int32)), oN (1 + i1), oN ((1 + i1) + (1 + i2)), oN (((1 + i1) + (1 + i2)) + i3), oU, oU, oU, oU, oU, oU, oU, oU] [(.int (Int32.ofNat (((1 + i1) + (1 + i2)) + i3)))])
      obtain ⟨T83, h83, X83, e83, E83, V83, st83⟩ := own_newA X0 hx hZ (hw _ (List.mem_of_getElem? (i := 1) rfl)) e0 (g := (mkF m 162 #[oI p1, oI p2, oJ p3, o2, oJ p4, o2, oN i1, oI 1, oI 1, oN i2, oN i3, oI (((Int32.ofNat i1) ||| (8 : Int32)) ||| (16 : Int32)), oN (1 + i1), oN ((1 + i1) + (1 + i2)), oN (((1 + i1) + (1 + i2)) + i3), oU, oU, oU, oU, oU, oU, oU, oU] [(.int (Int32.ofNat (((1 + i1) + (1 + i2)) + i3)))])) rfl (hb hby at_162) rfl (own_ofNat (by omega)).2.1 (N := (((1 + i1) + (1 + i2)) + i3)) (own_ofNat (by omega)).1 (cap := 13) (by omega) (by decide) (by decide) (by decide) (d := "[B") (by first | rfl | decide +kernel) (vs := ((List.replicate (((1 + i1) + (1 + i2)) + i3) (0 : Int32)).map Value.int)) (by rw [List.map_replicate]; rfl)
      obtain ⟨b83, g83⟩ : ∃ z, z = h0.size := ⟨_, rfl⟩
      rw [← g83] at V83 st83
      have g_b83 : n0 ≤ b83 := by rw [g83]; exact Z0
      have Zs83 : n0 ≤ h83.size := Nat.le_trans Z0 E83.1
      have A84_b83 : own_A Z h83 b83 "[B" .byte ((List.replicate (((1 + i1) + (1 + i2)) + i3) (0 : Int32)).map Value.int) := V83
      refine own_of (fun t k => st83 t k) ?_
      show own_Go p e below KK T83 (mkF m 164 #[oI p1, oI p2, oJ p3, o2, oJ p4, o2, oN i1, oI 1, oI 1, oN i2, oN i3, oI (((Int32.ofNat i1) ||| (8 : Int32)) ||| (16 : Int32)), oN (1 + i1), oN ((1 + i1) + (1 + i2)), oN (((1 + i1) + (1 + i2)) + i3), oU, oU, oU, oU, oU, oU, oU, oU] [(.ref b83)])
      refine own_at (fun t k => XS.astore X83.here hx rfl (hb hby at_164) rfl rfl (l' := #[oI p1, oI p2, oJ p3, o2, oJ p4, o2, oN i1, oI 1, oI 1, oN i2, oN i3, oI (((Int32.ofNat i1) ||| (8 : Int32)) ||| (16 : Int32)), oN (1 + i1), oN ((1 + i1) + (1 + i2)), oN (((1 + i1) + (1 + i2)) + i3), oR b83, oU, oU, oU, oU, oU, oU, oU]) rfl k) ?_
      show own_Go p e below KK T83 (mkF m 166 #[oI p1, oI p2, oJ p3, o2, oJ p4, o2, oN i1, oI 1, oI 1, oN i2, oN i3, oI (((Int32.ofNat i1) ||| (8 : Int32)) ||| (16 : Int32)), oN (1 + i1), oN ((1 + i1) + (1 + i2)), oN (((1 + i1) + (1 + i2)) + i3), oR b83, oU, oU, oU, oU, oU, oU, oU] [])
      refine own_at (fun t k => XS.aload X83.here hx rfl (hb hby at_166) rfl rfl k) ?_
      show own_Go p e below KK T83 (mkF m 168 #[oI p1, oI p2, oJ p3, o2, oJ p4, o2, oN i1, oI 1, oI 1, oN i2, oN i3, oI (((Int32.ofNat i1) ||| (8 : Int32)) ||| (16 : Int32)), oN (1 + i1), oN ((1 + i1) + (1 + i2)), oN (((1 + i1) + (1 + i2)) + i3), oR b83, oU, oU, oU, oU, oU, oU, oU] [(.ref b83)])
      refine own_at (fun t k => XS.lloadN X83.here hx rfl (hb hby at_168) rfl k) ?_
      show own_Go p e below KK T83 (mkF m 169 #[oI p1, oI p2, oJ p3, o2, oJ p4, o2, oN i1, oI 1, oI 1, oN i2, oN i3, oI (((Int32.ofNat i1) ||| (8 : Int32)) ||| (16 : Int32)), oN (1 + i1), oN ((1 + i1) + (1 + i2)), oN (((1 + i1) + (1 + i2)) + i3), oR b83, oU, oU, oU, oU, oU, oU, oU] [(.long p3), (.ref b83)])
      refine own_at (fun t k => XS.lload X83.here hx rfl (hb hby at_169) rfl k) ?_
      show own_Go p e below KK T83 (mkF m 171 #[oI p1, oI p2, oJ p3, o2, oJ p4, o2, oN i1, oI 1, oI 1, oN i2, oN i3, oI (((Int32.ofNat i1) ||| (8 : Int32)) ||| (16 : Int32)), oN (1 + i1), oN ((1 + i1) + (1 + i2)), oN (((1 + i1) + (1 + i2)) + i3), oR b83, oU, oU, oU, oU, oU, oU, oU] [(.long p4), (.long p3), (.ref b83)])
      obtain ⟨_, _, ⟨T85, L85, k85, n85⟩, -, X85, ⟨Lc85, hQ85, l85, y85, z85⟩, st85⟩ := Jvm.LawKit.callS X83 hx (y := (⟨"com/example/isimud/isimud/oscore/OscoreOptionReadPinLaw", "fill", "([BJJ)V"⟩ : MethodName)) hown (mvT hZ (hw _ (List.mem_of_getElem? (i := 2) rfl))) (mvT hZ (hw _ (List.mem_of_getElem? (i := 3) rfl))) (mvT hZ (hw _ (List.mem_of_getElem? (i := 4) rfl))) (mvT hZ (hw _ (List.mem_of_getElem? (i := 5) rfl))) (by decide) (backOf (W := 0) (rm_fill l Z a0 hw [] b83 p3 p4 (List.replicate (((1 + i1) + (1 + i2)) + i3) (0 : Int32)) h83 n0 Zs83 A84_b83 (by rw [List.length_replicate]; omega) g_b83) hZ (hw _ (List.mem_of_getElem? (i := 5) rfl)) (hw _ (List.mem_of_getElem? (i := 4) rfl)) (by decide) (by decide)) (g := (mkF m 171 #[oI p1, oI p2, oJ p3, o2, oJ p4, o2, oN i1, oI 1, oI 1, oN i2, oN i3, oI (((Int32.ofNat i1) ||| (8 : Int32)) ||| (16 : Int32)), oN (1 + i1), oN ((1 + i1) + (1 + i2)), oN (((1 + i1) + (1 + i2)) + i3), oR b83, oU, oU, oU, oU, oU, oU, oU] [(.long p4), (.long p3), (.ref b83)])) rfl (by rw [hml]; rfl) (argsL := [(.ref b83), (.long p3), (.long p4)]) (rest := []) (lenOf pd___BJJ_V rfl) rfl (by show 2 * 0 + _ ≤ _; exact Nat.le_of_eq rfl) (hb hby at_171) (fun _ _ => ⟨rfl, e83, (by decide : 1 + 0 ≤ _), (by decide : 13 + 0 ≤ _)⟩)
      dsimp only [Pt.U, Pt.locs, Pt.cells, Pt.slots] at X85 l85 y85 z85 st85 hQ85
      subst l85 y85 z85
      obtain ⟨rfl, N85q, K85, u85, hu85, Aq85⟩ := hQ85
      rw [List.length_replicate] at hu85
      have Zs85 : n0 ≤ T85.heap.size := Nat.le_trans Zs83 K85.1
      have A86_b83 : own_A Z T85.heap b83 "[B" .byte (u85.map Value.int) := Aq85
      have N85 := Fr.app N0 N85q
      refine own_of (fun t k => st85 t k) ?_
      show own_Go p e below KK T85 (mkF m 174 #[oI p1, oI p2, oJ p3, o2, oJ p4, o2, oN i1, oI 1, oI 1, oN i2, oN i3, oI (((Int32.ofNat i1) ||| (8 : Int32)) ||| (16 : Int32)), oN (1 + i1), oN ((1 + i1) + (1 + i2)), oN (((1 + i1) + (1 + i2)) + i3), oR b83, oU, oU, oU, oU, oU, oU, oU] [])
      refine own_at (fun t k => XS.aload X85.here hx rfl (hb hby at_174) rfl rfl k) ?_
      show own_Go p e below KK T85 (mkF m 176 #[oI p1, oI p2, oJ p3, o2, oJ p4, o2, oN i1, oI 1, oI 1, oN i2, oN i3, oI (((Int32.ofNat i1) ||| (8 : Int32)) ||| (16 : Int32)), oN (1 + i1), oN ((1 + i1) + (1 + i2)), oN (((1 + i1) + (1 + i2)) + i3), oR b83, oU, oU, oU, oU, oU, oU, oU] [(.ref b83)])
      refine own_at (fun t k => XS.iconst X85.here hx rfl (hb hby at_176) k) ?_
      show own_Go p e below KK T85 (mkF m 177 #[oI p1, oI p2, oJ p3, o2, oJ p4, o2, oN i1, oI 1, oI 1, oN i2, oN i3, oI (((Int32.ofNat i1) ||| (8 : Int32)) ||| (16 : Int32)), oN (1 + i1), oN ((1 + i1) + (1 + i2)), oN (((1 + i1) + (1 + i2)) + i3), oR b83, oU, oU, oU, oU, oU, oU, oU] [(.int 0), (.ref b83)])
      refine own_at (fun t k => XS.iload X85.here hx rfl (hb hby at_177) rfl k) ?_
      show own_Go p e below KK T85 (mkF m 179 #[oI p1, oI p2, oJ p3, o2, oJ p4, o2, oN i1, oI 1, oI 1, oN i2, oN i3, oI (((Int32.ofNat i1) ||| (8 : Int32)) ||| (16 : Int32)), oN (1 + i1), oN ((1 + i1) + (1 + i2)), oN (((1 + i1) + (1 + i2)) + i3), oR b83, oU, oU, oU, oU, oU, oU, oU] [(.int (((Int32.ofNat i1) ||| (8 : Int32)) ||| (16 : Int32))), (.int 0), (.ref b83)])
      refine own_at (fun t k => XS.i2b X85.here hx rfl (hb hby at_179) rfl k) ?_
      show own_Go p e below KK T85 (mkF m 180 #[oI p1, oI p2, oJ p3, o2, oJ p4, o2, oN i1, oI 1, oI 1, oN i2, oN i3, oI (((Int32.ofNat i1) ||| (8 : Int32)) ||| (16 : Int32)), oN (1 + i1), oN ((1 + i1) + (1 + i2)), oN (((1 + i1) + (1 + i2)) + i3), oR b83, oU, oU, oU, oU, oU, oU, oU] [(.int ((((Int32.ofNat i1) ||| (8 : Int32)) ||| (16 : Int32)).toInt8.toInt32)), (.int 0), (.ref b83)])
      obtain ⟨T87, h87, X87, e87, W87, V87, st87⟩ := own_stB X85 hx hZ rfl A86_b83 (j := (0 : Int32)) (y := ((((Int32.ofNat i1) ||| (8 : Int32)) ||| (16 : Int32)).toInt8.toInt32)) (own_narB _) (i := 0) (by decide) (by decide) (by rw [List.length_map, hu85]; omega) (g := (mkF m 180 #[oI p1, oI p2, oJ p3, o2, oJ p4, o2, oN i1, oI 1, oI 1, oN i2, oN i3, oI (((Int32.ofNat i1) ||| (8 : Int32)) ||| (16 : Int32)), oN (1 + i1), oN ((1 + i1) + (1 + i2)), oN (((1 + i1) + (1 + i2)) + i3), oR b83, oU, oU, oU, oU, oU, oU, oU] [(.int ((((Int32.ofNat i1) ||| (8 : Int32)) ||| (16 : Int32)).toInt8.toInt32)), (.int 0), (.ref b83)])) rfl rfl (hb hby at_180)
      have N87 := Fr.snoc X87 N85 g_b83
      have Zs87 : n0 ≤ h87.size := (by rw [W87.size]; exact Zs85)
      have A88_b83 : own_A Z h87 b83 "[B" .byte ((u85.set 0 ((((Int32.ofNat i1) ||| (8 : Int32)) ||| (16 : Int32)).toInt8.toInt32)).map Value.int) := by rw [← own_mset]; exact V87
      refine own_of (fun t k => st87 t k) ?_
      show own_Go p e below KK T87 (mkF m 181 #[oI p1, oI p2, oJ p3, o2, oJ p4, o2, oN i1, oI 1, oI 1, oN i2, oN i3, oI (((Int32.ofNat i1) ||| (8 : Int32)) ||| (16 : Int32)), oN (1 + i1), oN ((1 + i1) + (1 + i2)), oN (((1 + i1) + (1 + i2)) + i3), oR b83, oU, oU, oU, oU, oU, oU, oU] [])
      refine own_at (fun t k => XS.iload X87.here hx rfl (hb hby at_181) rfl k) ?_
      show own_Go p e below KK T87 (mkF m 183 #[oI p1, oI p2, oJ p3, o2, oJ p4, o2, oN i1, oI 1, oI 1, oN i2, oN i3, oI (((Int32.ofNat i1) ||| (8 : Int32)) ||| (16 : Int32)), oN (1 + i1), oN ((1 + i1) + (1 + i2)), oN (((1 + i1) + (1 + i2)) + i3), oR b83, oU, oU, oU, oU, oU, oU, oU] [(.int 1)])
      have hc183 : ¬ ((1 : Int32) = (0 : Int32)) := by decide
      refine own_at (fun t k => XS.ifNo X87.here hx rfl (hb hby at_183) rfl (Jvm.Free.XT.i0_eq_f hc183) k) ?_
      show own_Go p e below KK T87 (mkF m 186 #[oI p1, oI p2, oJ p3, o2, oJ p4, o2, oN i1, oI 1, oI 1, oN i2, oN i3, oI (((Int32.ofNat i1) ||| (8 : Int32)) ||| (16 : Int32)), oN (1 + i1), oN ((1 + i1) + (1 + i2)), oN (((1 + i1) + (1 + i2)) + i3), oR b83, oU, oU, oU, oU, oU, oU, oU] [])
      refine own_at (fun t k => XS.aload X87.here hx rfl (hb hby at_186) rfl rfl k) ?_
      show own_Go p e below KK T87 (mkF m 188 #[oI p1, oI p2, oJ p3, o2, oJ p4, o2, oN i1, oI 1, oI 1, oN i2, oN i3, oI (((Int32.ofNat i1) ||| (8 : Int32)) ||| (16 : Int32)), oN (1 + i1), oN ((1 + i1) + (1 + i2)), oN (((1 + i1) + (1 + i2)) + i3), oR b83, oU, oU, oU, oU, oU, oU, oU] [(.ref b83)])
      refine own_at (fun t k => XS.iload X87.here hx rfl (hb hby at_188) rfl k) ?_
      show own_Go p e below KK T87 (mkF m 190 #[oI p1, oI p2, oJ p3, o2, oJ p4, o2, oN i1, oI 1, oI 1, oN i2, oN i3, oI (((Int32.ofNat i1) ||| (8 : Int32)) ||| (16 : Int32)), oN (1 + i1), oN ((1 + i1) + (1 + i2)), oN (((1 + i1) + (1 + i2)) + i3), oR b83, oU, oU, oU, oU, oU, oU, oU] [(.int (Int32.ofNat (1 + i1))), (.ref b83)])
      refine own_at (fun t k => XS.iload X87.here hx rfl (hb hby at_190) rfl k) ?_
      show own_Go p e below KK T87 (mkF m 192 #[oI p1, oI p2, oJ p3, o2, oJ p4, o2, oN i1, oI 1, oI 1, oN i2, oN i3, oI (((Int32.ofNat i1) ||| (8 : Int32)) ||| (16 : Int32)), oN (1 + i1), oN ((1 + i1) + (1 + i2)), oN (((1 + i1) + (1 + i2)) + i3), oR b83, oU, oU, oU, oU, oU, oU, oU] [(.int (Int32.ofNat i2)), (.int (Int32.ofNat (1 + i1))), (.ref b83)])
      refine own_at (fun t k => XS.i2b X87.here hx rfl (hb hby at_192) rfl k) ?_
      show own_Go p e below KK T87 (mkF m 193 #[oI p1, oI p2, oJ p3, o2, oJ p4, o2, oN i1, oI 1, oI 1, oN i2, oN i3, oI (((Int32.ofNat i1) ||| (8 : Int32)) ||| (16 : Int32)), oN (1 + i1), oN ((1 + i1) + (1 + i2)), oN (((1 + i1) + (1 + i2)) + i3), oR b83, oU, oU, oU, oU, oU, oU, oU] [(.int ((Int32.ofNat i2).toInt8.toInt32)), (.int (Int32.ofNat (1 + i1))), (.ref b83)])
      obtain ⟨T89, h89, X89, e89, W89, V89, st89⟩ := own_stB X87 hx hZ e87 A88_b83 (j := (Int32.ofNat (1 + i1))) (y := ((Int32.ofNat i2).toInt8.toInt32)) (own_narB _) (i := (1 + i1)) (own_ofNat (by omega)).2.1 (own_ofNat (by omega)).1 (by rw [List.length_map, List.length_set, hu85]; omega) (g := (mkF m 193 #[oI p1, oI p2, oJ p3, o2, oJ p4, o2, oN i1, oI 1, oI 1, oN i2, oN i3, oI (((Int32.ofNat i1) ||| (8 : Int32)) ||| (16 : Int32)), oN (1 + i1), oN ((1 + i1) + (1 + i2)), oN (((1 + i1) + (1 + i2)) + i3), oR b83, oU, oU, oU, oU, oU, oU, oU] [(.int ((Int32.ofNat i2).toInt8.toInt32)), (.int (Int32.ofNat (1 + i1))), (.ref b83)])) rfl rfl (hb hby at_193)
      have N89 := Fr.snoc X89 N87 g_b83
      have Zs89 : n0 ≤ h89.size := (by rw [W89.size]; exact Zs87)
      have A90_b83 : own_A Z h89 b83 "[B" .byte (((u85.set 0 ((((Int32.ofNat i1) ||| (8 : Int32)) ||| (16 : Int32)).toInt8.toInt32)).set (1 + i1) ((Int32.ofNat i2).toInt8.toInt32)).map Value.int) := by rw [← own_mset]; exact V89
      refine own_of (fun t k => st89 t k) ?_
      show own_Go p e below KK T89 (mkF m 194 #[oI p1, oI p2, oJ p3, o2, oJ p4, o2, oN i1, oI 1, oI 1, oN i2, oN i3, oI (((Int32.ofNat i1) ||| (8 : Int32)) ||| (16 : Int32)), oN (1 + i1), oN ((1 + i1) + (1 + i2)), oN (((1 + i1) + (1 + i2)) + i3), oR b83, oU, oU, oU, oU, oU, oU, oU] [])
      obtain ⟨us, hus⟩ : ∃ z, z = ((u85.set 0 ((((Int32.ofNat i1) ||| (8 : Int32)) ||| (16 : Int32)).toInt8.toInt32)).set (1 + i1) ((Int32.ofNat i2).toInt8.toInt32)) := ⟨_, rfl⟩
      have hul : us.length = (((1 + i1) + (1 + i2)) + i3) := by rw [hus]; simp only [List.length_set]; exact hu85
      have hu0 : us[0]? = some ((((Int32.ofNat i1) ||| (8 : Int32)) ||| (16 : Int32)).toInt8.toInt32) := by rw [hus]; exact own_s1 (by rw [hu85]; omega)
      have hu1 : us[1 + i1]? = some ((Int32.ofNat i2).toInt8.toInt32) := by rw [hus]; exact own_s2 (by rw [hu85]; omega)
      have A91_b83 : own_A Z h89 b83 "[B" .byte (us.map Value.int) := by rw [hus]; exact A90_b83
      refine own_at (fun t k => XS.aload X89.here hx rfl (hb hby at_194) rfl rfl k) ?_
      show own_Go p e below KK T89 (mkF m 196 #[oI p1, oI p2, oJ p3, o2, oJ p4, o2, oN i1, oI 1, oI 1, oN i2, oN i3, oI (((Int32.ofNat i1) ||| (8 : Int32)) ||| (16 : Int32)), oN (1 + i1), oN ((1 + i1) + (1 + i2)), oN (((1 + i1) + (1 + i2)) + i3), oR b83, oU, oU, oU, oU, oU, oU, oU] [(.ref b83)])
      obtain ⟨_, _, ⟨T92, L92, k92, n92⟩, -, X92, ⟨Lc92, hQ92, l92, y92, z92⟩, st92⟩ := Jvm.LawKit.callS X89 hx (y := (⟨"com/example/isimud/isimud/oscore/OscoreOption", "read", "([B)Lcom/example/isimud/isimud/oscore/OscoreOption;"⟩ : MethodName)) hown (mvT hZ (hw _ (List.mem_of_getElem? (i := 6) rfl))) (mvT hZ (hw _ (List.mem_of_getElem? (i := 7) rfl))) (mvT hZ (hw _ (List.mem_of_getElem? (i := 8) rfl))) (mvT hZ (hw _ (List.mem_of_getElem? (i := 9) rfl))) (by decide) (backOf (W := 0) (rm_read11 l Z a0 hw [] b83 us i1 i2 ((((Int32.ofNat i1) ||| (8 : Int32)) ||| (16 : Int32)).toInt8.toInt32) ((Int32.ofNat i2).toInt8.toInt32) h89 n0 Zs89 A91_b83 hu0 (own_fl11 hi1) hi1 (by omega) hu1 (own_sb hi2) hi2 (by omega)) hZ (hw _ (List.mem_of_getElem? (i := 9) rfl)) (hw _ (List.mem_of_getElem? (i := 8) rfl)) (by decide) (by decide)) (g := (mkF m 196 #[oI p1, oI p2, oJ p3, o2, oJ p4, o2, oN i1, oI 1, oI 1, oN i2, oN i3, oI (((Int32.ofNat i1) ||| (8 : Int32)) ||| (16 : Int32)), oN (1 + i1), oN ((1 + i1) + (1 + i2)), oN (((1 + i1) + (1 + i2)) + i3), oR b83, oU, oU, oU, oU, oU, oU, oU] [(.ref b83)])) rfl (by rw [hml]; rfl) (argsL := [(.ref b83)]) (rest := []) (lenOf pd___B_Lcom_example_isimud_isimud_oscore_OscoreOption_ rfl) rfl (by show 2 * 0 + _ ≤ _; exact Nat.le_of_eq rfl) (hb hby at_196) (fun _ _ => ⟨rfl, e89, (by decide : 1 + 4 ≤ _), (by decide : 13 + 42 ≤ _)⟩)
      dsimp only [Pt.U, Pt.locs, Pt.cells, Pt.slots] at X92 l92 y92 z92 st92 hQ92
      subst l92 y92 z92
      obtain ⟨r92, x92a, x92b, x92c, rfl, N92q, K92, g_r92, s_r92, Ex92, Fx92, Fy92, Fz92, Oa92, Ob92, Oc92⟩ := hQ92
      have ne_b83_r92 : b83 ≠ r92 := Nat.ne_of_lt (Nat.lt_of_lt_of_le A91_b83.lt s_r92)
      have A91_b83_h92 : own_A Z T92.heap b83 "[B" .byte (us.map Value.int) := A91_b83.keep K92 nin0
      have Zs92 : n0 ≤ T92.heap.size := Nat.le_trans Zs89 K92.1
      have E93_r92 : Exa Z T92.heap r92 "com/example/isimud/isimud/oscore/OscoreOption" := Ex92
      have F94_r92 : Fld Z T92.heap r92 "com/example/isimud/isimud/oscore/OscoreOption" "partialIv" "[B" x92a := Fx92
      have F95_r92 : Fld Z T92.heap r92 "com/example/isimud/isimud/oscore/OscoreOption" "kidContext" "[B" x92b := Fy92
      have F96_r92 : Fld Z T92.heap r92 "com/example/isimud/isimud/oscore/OscoreOption" "kid" "[B" x92c := Fz92
      have N92 := Fr.app N89 N92q
      refine own_of (fun t k => st92 t k) ?_
      show own_Go p e below KK T92 (mkF m 199 #[oI p1, oI p2, oJ p3, o2, oJ p4, o2, oN i1, oI 1, oI 1, oN i2, oN i3, oI (((Int32.ofNat i1) ||| (8 : Int32)) ||| (16 : Int32)), oN (1 + i1), oN ((1 + i1) + (1 + i2)), oN (((1 + i1) + (1 + i2)) + i3), oR b83, oU, oU, oU, oU, oU, oU, oU] [(.ref r92)])
      obtain ⟨y92b, rfl, AOb92⟩ := Ob92
      have A97_y92b : own_A Z T92.heap y92b "[B" .byte (((us.map Value.int).drop ((1 + i1) + 1)).take i2) := AOb92
      obtain ⟨y92c, rfl, AOc92⟩ := Oc92
      have A98_y92c : own_A Z T92.heap y92c "[B" .byte (((us.map Value.int).drop ((1 + i1) + (1 + i2))).take (us.length - ((1 + i1) + (1 + i2)))) := AOc92
      by_cases hn0 : i1 = 0
      · rw [if_pos hn0] at Oa92
        have Oa92' : x92a = Value.null := Oa92
        subst Oa92'
        refine own_at (fun t k => XS.astore X92.here hx rfl (hb hby at_199) rfl rfl (l' := #[oI p1, oI p2, oJ p3, o2, oJ p4, o2, oN i1, oI 1, oI 1, oN i2, oN i3, oI (((Int32.ofNat i1) ||| (8 : Int32)) ||| (16 : Int32)), oN (1 + i1), oN ((1 + i1) + (1 + i2)), oN (((1 + i1) + (1 + i2)) + i3), oR b83, oR r92, oU, oU, oU, oU, oU, oU]) rfl k) ?_
        show own_Go p e below KK T92 (mkF m 201 #[oI p1, oI p2, oJ p3, o2, oJ p4, o2, oN i1, oI 1, oI 1, oN i2, oN i3, oI (((Int32.ofNat i1) ||| (8 : Int32)) ||| (16 : Int32)), oN (1 + i1), oN ((1 + i1) + (1 + i2)), oN (((1 + i1) + (1 + i2)) + i3), oR b83, oR r92, oU, oU, oU, oU, oU, oU] [])
        refine own_at (fun t k => XS.aload X92.here hx rfl (hb hby at_201) rfl rfl k) ?_
        show own_Go p e below KK T92 (mkF m 203 #[oI p1, oI p2, oJ p3, o2, oJ p4, o2, oN i1, oI 1, oI 1, oN i2, oN i3, oI (((Int32.ofNat i1) ||| (8 : Int32)) ||| (16 : Int32)), oN (1 + i1), oN ((1 + i1) + (1 + i2)), oN (((1 + i1) + (1 + i2)) + i3), oR b83, oR r92, oU, oU, oU, oU, oU, oU] [(.ref r92)])
        obtain ⟨cq99, kq99, q99a, q99b, q99c⟩ := isOf hZ rfl E93_r92
        obtain ⟨_, _, ⟨T99, L99, k99, n99⟩, -, X99, ⟨Lc99, hQ99, l99, y99, z99⟩, st99⟩ := X92.virtualBack hx (y := (⟨"com/example/isimud/isimud/oscore/OscoreOption", "partialIv", "()[B"⟩ : MethodName)) (z := (⟨"com/example/isimud/isimud/oscore/OscoreOption", "partialIv", "()[B"⟩ : MethodName)) hown (mvT hZ (hw _ (List.mem_of_getElem? (i := 45) rfl))) (mvT hZ (hw _ (List.mem_of_getElem? (i := 46) rfl))) (notFace_of_selects (args := #[]) (mvT hZ (hw _ (List.mem_of_getElem? (i := 48) rfl)))) (mvT hZ (hw _ (List.mem_of_getElem? (i := 48) rfl))) (mvT hZ (hw _ (List.mem_of_getElem? (i := 47) rfl))) (by decide) (backOf (W := 0) (rm_partialIv0 l Z a0 hw [] r92   T92.heap n0 Zs92 F94_r92) hZ (hw _ (List.mem_of_getElem? (i := 49) rfl)) (hw _ (List.mem_of_getElem? (i := 8) rfl)) (by decide) (by decide)) q99a q99c (g := (mkF m 203 #[oI p1, oI p2, oJ p3, o2, oJ p4, o2, oN i1, oI 1, oI 1, oN i2, oN i3, oI (((Int32.ofNat i1) ||| (8 : Int32)) ||| (16 : Int32)), oN (1 + i1), oN ((1 + i1) + (1 + i2)), oN (((1 + i1) + (1 + i2)) + i3), oR b83, oR r92, oU, oU, oU, oU, oU, oU] [(.ref r92)])) rfl (by rw [hml]; rfl) (Steps.refl _) (argsL := []) (rest := []) (lenOf pd____B rfl) rfl (by show 2 * 0 + _ ≤ _; exact Nat.le_of_eq rfl) (hb hby at_203) (fun _ _ => ⟨rfl, rfl, (by decide : 5 + 0 ≤ _), (by decide : 55 + 0 ≤ _)⟩)
        dsimp only [Pt.U, Pt.locs, Pt.cells, Pt.slots] at X99 l99 y99 z99 st99 hQ99
        subst l99 y99 z99
        obtain ⟨rfl, N99q, e99⟩ := hQ99
        have N99 := Fr.app N92 N99q
        refine own_of (fun t k => st99.trans k) ?_
        show own_Go p e below KK T99 (mkF m 206 #[oI p1, oI p2, oJ p3, o2, oJ p4, o2, oN i1, oI 1, oI 1, oN i2, oN i3, oI (((Int32.ofNat i1) ||| (8 : Int32)) ||| (16 : Int32)), oN (1 + i1), oN ((1 + i1) + (1 + i2)), oN (((1 + i1) + (1 + i2)) + i3), oR b83, oR r92, oU, oU, oU, oU, oU, oU] [.null])
        refine own_at (fun t k => XS.astore X99.here hx rfl (hb hby at_206) rfl rfl (l' := #[oI p1, oI p2, oJ p3, o2, oJ p4, o2, oN i1, oI 1, oI 1, oN i2, oN i3, oI (((Int32.ofNat i1) ||| (8 : Int32)) ||| (16 : Int32)), oN (1 + i1), oN ((1 + i1) + (1 + i2)), oN (((1 + i1) + (1 + i2)) + i3), oR b83, oR r92, .val .null, oU, oU, oU, oU, oU]) rfl k) ?_
        show own_Go p e below KK T99 (mkF m 208 #[oI p1, oI p2, oJ p3, o2, oJ p4, o2, oN i1, oI 1, oI 1, oN i2, oN i3, oI (((Int32.ofNat i1) ||| (8 : Int32)) ||| (16 : Int32)), oN (1 + i1), oN ((1 + i1) + (1 + i2)), oN (((1 + i1) + (1 + i2)) + i3), oR b83, oR r92, .val .null, oU, oU, oU, oU, oU] [])
        refine own_at (fun t k => XS.aload X99.here hx rfl (hb hby at_208) rfl rfl k) ?_
        show own_Go p e below KK T99 (mkF m 210 #[oI p1, oI p2, oJ p3, o2, oJ p4, o2, oN i1, oI 1, oI 1, oN i2, oN i3, oI (((Int32.ofNat i1) ||| (8 : Int32)) ||| (16 : Int32)), oN (1 + i1), oN ((1 + i1) + (1 + i2)), oN (((1 + i1) + (1 + i2)) + i3), oR b83, oR r92, .val .null, oU, oU, oU, oU, oU] [(.ref r92)])
        obtain ⟨cq100, kq100, q100a, q100b, q100c⟩ := isOf hZ e99 E93_r92
        obtain ⟨_, _, ⟨T100, L100, k100, n100⟩, -, X100, ⟨Lc100, hQ100, l100, y100, z100⟩, st100⟩ := X99.virtualBack hx (y := (⟨"com/example/isimud/isimud/oscore/OscoreOption", "kidContext", "()[B"⟩ : MethodName)) (z := (⟨"com/example/isimud/isimud/oscore/OscoreOption", "kidContext", "()[B"⟩ : MethodName)) hown (mvT hZ (hw _ (List.mem_of_getElem? (i := 50) rfl))) (mvT hZ (hw _ (List.mem_of_getElem? (i := 51) rfl))) (notFace_of_selects (args := #[]) (mvT hZ (hw _ (List.mem_of_getElem? (i := 53) rfl)))) (mvT hZ (hw _ (List.mem_of_getElem? (i := 53) rfl))) (mvT hZ (hw _ (List.mem_of_getElem? (i := 52) rfl))) (by decide) (backOf (W := 0) (rm_kidContext l Z a0 hw [] r92  y92b (((us.map Value.int).drop ((1 + i1) + 1)).take i2) T92.heap n0 Zs92 F95_r92 A97_y92b (by simp only [List.length_take, List.length_drop, List.length_map]; omega)) hZ (hw _ (List.mem_of_getElem? (i := 54) rfl)) (hw _ (List.mem_of_getElem? (i := 8) rfl)) (by decide) (by decide)) q100a q100c (g := (mkF m 210 #[oI p1, oI p2, oJ p3, o2, oJ p4, o2, oN i1, oI 1, oI 1, oN i2, oN i3, oI (((Int32.ofNat i1) ||| (8 : Int32)) ||| (16 : Int32)), oN (1 + i1), oN ((1 + i1) + (1 + i2)), oN (((1 + i1) + (1 + i2)) + i3), oR b83, oR r92, .val .null, oU, oU, oU, oU, oU] [(.ref r92)])) rfl (by rw [hml]; rfl) (Steps.refl _) (argsL := []) (rest := []) (lenOf pd____B rfl) rfl (by show 2 * 0 + _ ≤ _; exact Nat.le_of_eq rfl) (hb hby at_210) (fun _ _ => ⟨rfl, e99, (by decide : 5 + 1 ≤ _), (by decide : 55 + 13 ≤ _)⟩)
        dsimp only [Pt.U, Pt.locs, Pt.cells, Pt.slots] at X100 l100 y100 z100 st100 hQ100
        subst l100 y100 z100
        obtain ⟨r100, rfl, N100q, K100, g_r100, s_r100, Aq100⟩ := hQ100
        have ne_b83_r100 : b83 ≠ r100 := Nat.ne_of_lt (Nat.lt_of_lt_of_le A91_b83_h92.lt s_r100)
        have ne_r92_r100 : r92 ≠ r100 := Nat.ne_of_lt (Nat.lt_of_lt_of_le E93_r92.lt s_r100)
        have ne_y92b_r100 : y92b ≠ r100 := Nat.ne_of_lt (Nat.lt_of_lt_of_le A97_y92b.lt s_r100)
        have ne_y92c_r100 : y92c ≠ r100 := Nat.ne_of_lt (Nat.lt_of_lt_of_le A98_y92c.lt s_r100)
        have A91_b83_h100 : own_A Z T100.heap b83 "[B" .byte (us.map Value.int) := A91_b83_h92.keep K100 nin0
        have E93_r92_h100 : Exa Z T100.heap r92 "com/example/isimud/isimud/oscore/OscoreOption" := E93_r92.keep K100
        have F94_r92_h100 : Fld Z T100.heap r92 "com/example/isimud/isimud/oscore/OscoreOption" "partialIv" "[B" .null := F94_r92.keep K100 nin0
        have F95_r92_h100 : Fld Z T100.heap r92 "com/example/isimud/isimud/oscore/OscoreOption" "kidContext" "[B" (.ref y92b) := F95_r92.keep K100 nin0
        have F96_r92_h100 : Fld Z T100.heap r92 "com/example/isimud/isimud/oscore/OscoreOption" "kid" "[B" (.ref y92c) := F96_r92.keep K100 nin0
        have A97_y92b_h100 : own_A Z T100.heap y92b "[B" .byte (((us.map Value.int).drop ((1 + i1) + 1)).take i2) := A97_y92b.keep K100 nin0
        have A98_y92c_h100 : own_A Z T100.heap y92c "[B" .byte (((us.map Value.int).drop ((1 + i1) + (1 + i2))).take (us.length - ((1 + i1) + (1 + i2)))) := A98_y92c.keep K100 nin0
        have Zs100 : n0 ≤ T100.heap.size := Nat.le_trans Zs92 K100.1
        have A101_r100 : own_A Z T100.heap r100 "[B" .byte (((us.map Value.int).drop ((1 + i1) + 1)).take i2) := Aq100
        have N100 := Fr.app N99 N100q
        refine own_of (fun t k => st100.trans k) ?_
        show own_Go p e below KK T100 (mkF m 213 #[oI p1, oI p2, oJ p3, o2, oJ p4, o2, oN i1, oI 1, oI 1, oN i2, oN i3, oI (((Int32.ofNat i1) ||| (8 : Int32)) ||| (16 : Int32)), oN (1 + i1), oN ((1 + i1) + (1 + i2)), oN (((1 + i1) + (1 + i2)) + i3), oR b83, oR r92, .val .null, oU, oU, oU, oU, oU] [(.ref r100)])
        refine own_at (fun t k => XS.astore X100.here hx rfl (hb hby at_213) rfl rfl (l' := #[oI p1, oI p2, oJ p3, o2, oJ p4, o2, oN i1, oI 1, oI 1, oN i2, oN i3, oI (((Int32.ofNat i1) ||| (8 : Int32)) ||| (16 : Int32)), oN (1 + i1), oN ((1 + i1) + (1 + i2)), oN (((1 + i1) + (1 + i2)) + i3), oR b83, oR r92, .val .null, oR r100, oU, oU, oU, oU]) rfl k) ?_
        show own_Go p e below KK T100 (mkF m 215 #[oI p1, oI p2, oJ p3, o2, oJ p4, o2, oN i1, oI 1, oI 1, oN i2, oN i3, oI (((Int32.ofNat i1) ||| (8 : Int32)) ||| (16 : Int32)), oN (1 + i1), oN ((1 + i1) + (1 + i2)), oN (((1 + i1) + (1 + i2)) + i3), oR b83, oR r92, .val .null, oR r100, oU, oU, oU, oU] [])
        refine own_at (fun t k => XS.aload X100.here hx rfl (hb hby at_215) rfl rfl k) ?_
        show own_Go p e below KK T100 (mkF m 217 #[oI p1, oI p2, oJ p3, o2, oJ p4, o2, oN i1, oI 1, oI 1, oN i2, oN i3, oI (((Int32.ofNat i1) ||| (8 : Int32)) ||| (16 : Int32)), oN (1 + i1), oN ((1 + i1) + (1 + i2)), oN (((1 + i1) + (1 + i2)) + i3), oR b83, oR r92, .val .null, oR r100, oU, oU, oU, oU] [(.ref r92)])
        obtain ⟨cq102, kq102, q102a, q102b, q102c⟩ := isOf hZ rfl E93_r92_h100
        obtain ⟨_, _, ⟨T102, L102, k102, n102⟩, -, X102, ⟨Lc102, hQ102, l102, y102, z102⟩, st102⟩ := X100.virtualBack hx (y := (⟨"com/example/isimud/isimud/oscore/OscoreOption", "kid", "()[B"⟩ : MethodName)) (z := (⟨"com/example/isimud/isimud/oscore/OscoreOption", "kid", "()[B"⟩ : MethodName)) hown (mvT hZ (hw _ (List.mem_of_getElem? (i := 64) rfl))) (mvT hZ (hw _ (List.mem_of_getElem? (i := 65) rfl))) (notFace_of_selects (args := #[]) (mvT hZ (hw _ (List.mem_of_getElem? (i := 67) rfl)))) (mvT hZ (hw _ (List.mem_of_getElem? (i := 67) rfl))) (mvT hZ (hw _ (List.mem_of_getElem? (i := 66) rfl))) (by decide) (backOf (W := 0) (rm_kid l Z a0 hw [] r92  y92c (((us.map Value.int).drop ((1 + i1) + (1 + i2))).take (us.length - ((1 + i1) + (1 + i2)))) T100.heap n0 Zs100 F96_r92_h100 A98_y92c_h100 (by simp only [List.length_take, List.length_drop, List.length_map]; omega)) hZ (hw _ (List.mem_of_getElem? (i := 68) rfl)) (hw _ (List.mem_of_getElem? (i := 8) rfl)) (by decide) (by decide)) q102a q102c (g := (mkF m 217 #[oI p1, oI p2, oJ p3, o2, oJ p4, o2, oN i1, oI 1, oI 1, oN i2, oN i3, oI (((Int32.ofNat i1) ||| (8 : Int32)) ||| (16 : Int32)), oN (1 + i1), oN ((1 + i1) + (1 + i2)), oN (((1 + i1) + (1 + i2)) + i3), oR b83, oR r92, .val .null, oR r100, oU, oU, oU, oU] [(.ref r92)])) rfl (by rw [hml]; rfl) (Steps.refl _) (argsL := []) (rest := []) (lenOf pd____B rfl) rfl (by show 2 * 0 + _ ≤ _; exact Nat.le_of_eq rfl) (hb hby at_217) (fun _ _ => ⟨rfl, rfl, (by decide : 6 + 1 ≤ _), (by decide : 68 + 13 ≤ _)⟩)
        dsimp only [Pt.U, Pt.locs, Pt.cells, Pt.slots] at X102 l102 y102 z102 st102 hQ102
        subst l102 y102 z102
        obtain ⟨r102, rfl, N102q, K102, g_r102, s_r102, Aq102⟩ := hQ102
        have ne_b83_r102 : b83 ≠ r102 := Nat.ne_of_lt (Nat.lt_of_lt_of_le A91_b83_h100.lt s_r102)
        have ne_r100_r102 : r100 ≠ r102 := Nat.ne_of_lt (Nat.lt_of_lt_of_le A101_r100.lt s_r102)
        have ne_r92_r102 : r92 ≠ r102 := Nat.ne_of_lt (Nat.lt_of_lt_of_le E93_r92_h100.lt s_r102)
        have ne_y92b_r102 : y92b ≠ r102 := Nat.ne_of_lt (Nat.lt_of_lt_of_le A97_y92b_h100.lt s_r102)
        have ne_y92c_r102 : y92c ≠ r102 := Nat.ne_of_lt (Nat.lt_of_lt_of_le A98_y92c_h100.lt s_r102)
        have A91_b83_h102 : own_A Z T102.heap b83 "[B" .byte (us.map Value.int) := A91_b83_h100.keep K102 nin0
        have E93_r92_h102 : Exa Z T102.heap r92 "com/example/isimud/isimud/oscore/OscoreOption" := E93_r92_h100.keep K102
        have F94_r92_h102 : Fld Z T102.heap r92 "com/example/isimud/isimud/oscore/OscoreOption" "partialIv" "[B" .null := F94_r92_h100.keep K102 nin0
        have F95_r92_h102 : Fld Z T102.heap r92 "com/example/isimud/isimud/oscore/OscoreOption" "kidContext" "[B" (.ref y92b) := F95_r92_h100.keep K102 nin0
        have F96_r92_h102 : Fld Z T102.heap r92 "com/example/isimud/isimud/oscore/OscoreOption" "kid" "[B" (.ref y92c) := F96_r92_h100.keep K102 nin0
        have A97_y92b_h102 : own_A Z T102.heap y92b "[B" .byte (((us.map Value.int).drop ((1 + i1) + 1)).take i2) := A97_y92b_h100.keep K102 nin0
        have A98_y92c_h102 : own_A Z T102.heap y92c "[B" .byte (((us.map Value.int).drop ((1 + i1) + (1 + i2))).take (us.length - ((1 + i1) + (1 + i2)))) := A98_y92c_h100.keep K102 nin0
        have A101_r100_h102 : own_A Z T102.heap r100 "[B" .byte (((us.map Value.int).drop ((1 + i1) + 1)).take i2) := A101_r100.keep K102 nin0
        have Zs102 : n0 ≤ T102.heap.size := Nat.le_trans Zs100 K102.1
        have A103_r102 : own_A Z T102.heap r102 "[B" .byte (((us.map Value.int).drop ((1 + i1) + (1 + i2))).take (us.length - ((1 + i1) + (1 + i2)))) := Aq102
        have N102 := Fr.app N100 N102q
        refine own_of (fun t k => st102.trans k) ?_
        show own_Go p e below KK T102 (mkF m 220 #[oI p1, oI p2, oJ p3, o2, oJ p4, o2, oN i1, oI 1, oI 1, oN i2, oN i3, oI (((Int32.ofNat i1) ||| (8 : Int32)) ||| (16 : Int32)), oN (1 + i1), oN ((1 + i1) + (1 + i2)), oN (((1 + i1) + (1 + i2)) + i3), oR b83, oR r92, .val .null, oR r100, oU, oU, oU, oU] [(.ref r102)])
        refine own_at (fun t k => XS.astore X102.here hx rfl (hb hby at_220) rfl rfl (l' := #[oI p1, oI p2, oJ p3, o2, oJ p4, o2, oN i1, oI 1, oI 1, oN i2, oN i3, oI (((Int32.ofNat i1) ||| (8 : Int32)) ||| (16 : Int32)), oN (1 + i1), oN ((1 + i1) + (1 + i2)), oN (((1 + i1) + (1 + i2)) + i3), oR b83, oR r92, .val .null, oR r100, oR r102, oU, oU, oU]) rfl k) ?_
        show own_Go p e below KK T102 (mkF m 222 #[oI p1, oI p2, oJ p3, o2, oJ p4, o2, oN i1, oI 1, oI 1, oN i2, oN i3, oI (((Int32.ofNat i1) ||| (8 : Int32)) ||| (16 : Int32)), oN (1 + i1), oN ((1 + i1) + (1 + i2)), oN (((1 + i1) + (1 + i2)) + i3), oR b83, oR r92, .val .null, oR r100, oR r102, oU, oU, oU] [])
        refine own_at (fun t k => XS.iload X102.here hx rfl (hb hby at_222) rfl k) ?_
        show own_Go p e below KK T102 (mkF m 224 #[oI p1, oI p2, oJ p3, o2, oJ p4, o2, oN i1, oI 1, oI 1, oN i2, oN i3, oI (((Int32.ofNat i1) ||| (8 : Int32)) ||| (16 : Int32)), oN (1 + i1), oN ((1 + i1) + (1 + i2)), oN (((1 + i1) + (1 + i2)) + i3), oR b83, oR r92, .val .null, oR r100, oR r102, oU, oU, oU] [(.int (Int32.ofNat i1))])
        have hc224 : (Int32.ofNat i1) = (0 : Int32) := by rw [hn0]; rfl
        refine own_at (fun t k => XS.ifNo X102.here hx rfl (hb hby at_224) rfl (Jvm.Free.XT.i0_ne_f hc224) k) ?_
        show own_Go p e below KK T102 (mkF m 227 #[oI p1, oI p2, oJ p3, o2, oJ p4, o2, oN i1, oI 1, oI 1, oN i2, oN i3, oI (((Int32.ofNat i1) ||| (8 : Int32)) ||| (16 : Int32)), oN (1 + i1), oN ((1 + i1) + (1 + i2)), oN (((1 + i1) + (1 + i2)) + i3), oR b83, oR r92, .val .null, oR r100, oR r102, oU, oU, oU] [])
        refine own_at (fun t k => XS.aload X102.here hx rfl (hb hby at_227) rfl rfl k) ?_
        show own_Go p e below KK T102 (mkF m 229 #[oI p1, oI p2, oJ p3, o2, oJ p4, o2, oN i1, oI 1, oI 1, oN i2, oN i3, oI (((Int32.ofNat i1) ||| (8 : Int32)) ||| (16 : Int32)), oN (1 + i1), oN ((1 + i1) + (1 + i2)), oN (((1 + i1) + (1 + i2)) + i3), oR b83, oR r92, .val .null, oR r100, oR r102, oU, oU, oU] [.null])
        refine own_at (fun t k => XS.ifnonnullNo X102.here hx rfl (hb hby at_229) rfl k) ?_
        show own_Go p e below KK T102 (mkF m 232 #[oI p1, oI p2, oJ p3, o2, oJ p4, o2, oN i1, oI 1, oI 1, oN i2, oN i3, oI (((Int32.ofNat i1) ||| (8 : Int32)) ||| (16 : Int32)), oN (1 + i1), oN ((1 + i1) + (1 + i2)), oN (((1 + i1) + (1 + i2)) + i3), oR b83, oR r92, .val .null, oR r100, oR r102, oU, oU, oU] [])
        refine own_at (fun t k => XS.iconst X102.here hx rfl (hb hby at_232) k) ?_
        show own_Go p e below KK T102 (mkF m 233 #[oI p1, oI p2, oJ p3, o2, oJ p4, o2, oN i1, oI 1, oI 1, oN i2, oN i3, oI (((Int32.ofNat i1) ||| (8 : Int32)) ||| (16 : Int32)), oN (1 + i1), oN ((1 + i1) + (1 + i2)), oN (((1 + i1) + (1 + i2)) + i3), oR b83, oR r92, .val .null, oR r100, oR r102, oU, oU, oU] [(.int 1)])
        refine own_at (fun t k => XS.goto X102.here hx rfl (pc0 := 233) (pc' := 250) rfl (hb hby at_233) (by decide) (by decide) k) ?_
        show own_Go p e below KK T102 (mkF m 250 #[oI p1, oI p2, oJ p3, o2, oJ p4, o2, oN i1, oI 1, oI 1, oN i2, oN i3, oI (((Int32.ofNat i1) ||| (8 : Int32)) ||| (16 : Int32)), oN (1 + i1), oN ((1 + i1) + (1 + i2)), oN (((1 + i1) + (1 + i2)) + i3), oR b83, oR r92, .val .null, oR r100, oR r102, oU, oU, oU] [(.int 1)])
        refine own_at (fun t k => XS.istore X102.here hx rfl (hb hby at_250) rfl (l' := #[oI p1, oI p2, oJ p3, o2, oJ p4, o2, oN i1, oI 1, oI 1, oN i2, oN i3, oI (((Int32.ofNat i1) ||| (8 : Int32)) ||| (16 : Int32)), oN (1 + i1), oN ((1 + i1) + (1 + i2)), oN (((1 + i1) + (1 + i2)) + i3), oR b83, oR r92, .val .null, oR r100, oR r102, oI 1, oU, oU]) rfl k) ?_
        show own_Go p e below KK T102 (mkF m 252 #[oI p1, oI p2, oJ p3, o2, oJ p4, o2, oN i1, oI 1, oI 1, oN i2, oN i3, oI (((Int32.ofNat i1) ||| (8 : Int32)) ||| (16 : Int32)), oN (1 + i1), oN ((1 + i1) + (1 + i2)), oN (((1 + i1) + (1 + i2)) + i3), oR b83, oR r92, .val .null, oR r100, oR r102, oI 1, oU, oU] [])
        refine own_at (fun t k => XS.iload X102.here hx rfl (hb hby at_252) rfl k) ?_
        show own_Go p e below KK T102 (mkF m 254 #[oI p1, oI p2, oJ p3, o2, oJ p4, o2, oN i1, oI 1, oI 1, oN i2, oN i3, oI (((Int32.ofNat i1) ||| (8 : Int32)) ||| (16 : Int32)), oN (1 + i1), oN ((1 + i1) + (1 + i2)), oN (((1 + i1) + (1 + i2)) + i3), oR b83, oR r92, .val .null, oR r100, oR r102, oI 1, oU, oU] [(.int 1)])
        have hc254 : ¬ ((1 : Int32) = (0 : Int32)) := by decide
        refine own_at (fun t k => XS.ifNo X102.here hx rfl (hb hby at_254) rfl (Jvm.Free.XT.i0_eq_f hc254) k) ?_
        show own_Go p e below KK T102 (mkF m 257 #[oI p1, oI p2, oJ p3, o2, oJ p4, o2, oN i1, oI 1, oI 1, oN i2, oN i3, oI (((Int32.ofNat i1) ||| (8 : Int32)) ||| (16 : Int32)), oN (1 + i1), oN ((1 + i1) + (1 + i2)), oN (((1 + i1) + (1 + i2)) + i3), oR b83, oR r92, .val .null, oR r100, oR r102, oI 1, oU, oU] [])
        refine own_at (fun t k => XS.aload X102.here hx rfl (hb hby at_257) rfl rfl k) ?_
        show own_Go p e below KK T102 (mkF m 259 #[oI p1, oI p2, oJ p3, o2, oJ p4, o2, oN i1, oI 1, oI 1, oN i2, oN i3, oI (((Int32.ofNat i1) ||| (8 : Int32)) ||| (16 : Int32)), oN (1 + i1), oN ((1 + i1) + (1 + i2)), oN (((1 + i1) + (1 + i2)) + i3), oR b83, oR r92, .val .null, oR r100, oR r102, oI 1, oU, oU] [(.ref r100)])
        refine own_at (fun t k => XS.aload X102.here hx rfl (hb hby at_259) rfl rfl k) ?_
        show own_Go p e below KK T102 (mkF m 261 #[oI p1, oI p2, oJ p3, o2, oJ p4, o2, oN i1, oI 1, oI 1, oN i2, oN i3, oI (((Int32.ofNat i1) ||| (8 : Int32)) ||| (16 : Int32)), oN (1 + i1), oN ((1 + i1) + (1 + i2)), oN (((1 + i1) + (1 + i2)) + i3), oR b83, oR r92, .val .null, oR r100, oR r102, oI 1, oU, oU] [(.ref b83), (.ref r100)])
        refine own_at (fun t k => XS.iload X102.here hx rfl (hb hby at_261) rfl k) ?_
        show own_Go p e below KK T102 (mkF m 263 #[oI p1, oI p2, oJ p3, o2, oJ p4, o2, oN i1, oI 1, oI 1, oN i2, oN i3, oI (((Int32.ofNat i1) ||| (8 : Int32)) ||| (16 : Int32)), oN (1 + i1), oN ((1 + i1) + (1 + i2)), oN (((1 + i1) + (1 + i2)) + i3), oR b83, oR r92, .val .null, oR r100, oR r102, oI 1, oU, oU] [(.int (Int32.ofNat (1 + i1))), (.ref b83), (.ref r100)])
        refine own_at (fun t k => XS.iconst X102.here hx rfl (hb hby at_263) k) ?_
        show own_Go p e below KK T102 (mkF m 264 #[oI p1, oI p2, oJ p3, o2, oJ p4, o2, oN i1, oI 1, oI 1, oN i2, oN i3, oI (((Int32.ofNat i1) ||| (8 : Int32)) ||| (16 : Int32)), oN (1 + i1), oN ((1 + i1) + (1 + i2)), oN (((1 + i1) + (1 + i2)) + i3), oR b83, oR r92, .val .null, oR r100, oR r102, oI 1, oU, oU] [(.int 1), (.int (Int32.ofNat (1 + i1))), (.ref b83), (.ref r100)])
        refine own_at (fun t k => XS.iadd X102.here hx rfl (hb hby at_264) rfl k) ?_
        show own_Go p e below KK T102 (mkF m 265 #[oI p1, oI p2, oJ p3, o2, oJ p4, o2, oN i1, oI 1, oI 1, oN i2, oN i3, oI (((Int32.ofNat i1) ||| (8 : Int32)) ||| (16 : Int32)), oN (1 + i1), oN ((1 + i1) + (1 + i2)), oN (((1 + i1) + (1 + i2)) + i3), oR b83, oR r92, .val .null, oR r100, oR r102, oI 1, oU, oU] [(.int ((Int32.ofNat (1 + i1)) + (1 : Int32))), (.ref b83), (.ref r100)])
        rw [show ((Int32.ofNat (1 + i1)) + (1 : Int32)) = (Int32.ofNat ((1 + i1) + 1)) from own_add (1 + i1) 1]
        show own_Go p e below KK T102 (mkF m 265 #[oI p1, oI p2, oJ p3, o2, oJ p4, o2, oN i1, oI 1, oI 1, oN i2, oN i3, oI (((Int32.ofNat i1) ||| (8 : Int32)) ||| (16 : Int32)), oN (1 + i1), oN ((1 + i1) + (1 + i2)), oN (((1 + i1) + (1 + i2)) + i3), oR b83, oR r92, .val .null, oR r100, oR r102, oI 1, oU, oU] [(.int (Int32.ofNat ((1 + i1) + 1))), (.ref b83), (.ref r100)])
        refine own_at (fun t k => XS.iload X102.here hx rfl (hb hby at_265) rfl k) ?_
        show own_Go p e below KK T102 (mkF m 267 #[oI p1, oI p2, oJ p3, o2, oJ p4, o2, oN i1, oI 1, oI 1, oN i2, oN i3, oI (((Int32.ofNat i1) ||| (8 : Int32)) ||| (16 : Int32)), oN (1 + i1), oN ((1 + i1) + (1 + i2)), oN (((1 + i1) + (1 + i2)) + i3), oR b83, oR r92, .val .null, oR r100, oR r102, oI 1, oU, oU] [(.int (Int32.ofNat i2)), (.int (Int32.ofNat ((1 + i1) + 1))), (.ref b83), (.ref r100)])
        obtain ⟨_, _, ⟨T104, L104, k104, n104⟩, -, X104, ⟨Lc104, hQ104, l104, y104, z104⟩, st104⟩ := Jvm.LawKit.callS X102 hx (y := (⟨"com/example/isimud/isimud/oscore/OscoreOptionReadPinLaw", "same", "([B[BII)Z"⟩ : MethodName)) hown (mvT hZ (hw _ (List.mem_of_getElem? (i := 69) rfl))) (mvT hZ (hw _ (List.mem_of_getElem? (i := 70) rfl))) (mvT hZ (hw _ (List.mem_of_getElem? (i := 4) rfl))) (mvT hZ (hw _ (List.mem_of_getElem? (i := 71) rfl))) (by decide) (backOf (W := 0) (rm_same l Z a0 hw [] r100 b83 ((1 + i1) + 1) i2 us T102.heap n0 Zs102 (by omega) A101_r100_h102 A91_b83_h102 (by omega) (by omega)) hZ (hw _ (List.mem_of_getElem? (i := 71) rfl)) (hw _ (List.mem_of_getElem? (i := 4) rfl)) (by decide) (by decide)) (g := (mkF m 267 #[oI p1, oI p2, oJ p3, o2, oJ p4, o2, oN i1, oI 1, oI 1, oN i2, oN i3, oI (((Int32.ofNat i1) ||| (8 : Int32)) ||| (16 : Int32)), oN (1 + i1), oN ((1 + i1) + (1 + i2)), oN (((1 + i1) + (1 + i2)) + i3), oR b83, oR r92, .val .null, oR r100, oR r102, oI 1, oU, oU] [(.int (Int32.ofNat i2)), (.int (Int32.ofNat ((1 + i1) + 1))), (.ref b83), (.ref r100)])) rfl (by rw [hml]; rfl) (argsL := [(.ref r100), (.ref b83), (.int (Int32.ofNat ((1 + i1) + 1))), (.int (Int32.ofNat i2))]) (rest := []) (lenOf pd___B_BII_Z rfl) rfl (by show 2 * 0 + _ ≤ _; exact Nat.le_of_eq rfl) (hb hby at_267) (fun _ _ => ⟨rfl, rfl, (by decide : 7 + 0 ≤ _), (by decide : 81 + 0 ≤ _)⟩)
        dsimp only [Pt.U, Pt.locs, Pt.cells, Pt.slots] at X104 l104 y104 z104 st104 hQ104
        subst l104 y104 z104
        obtain ⟨rfl, N104q, e104⟩ := hQ104
        have N104 := Fr.app N102 N104q
        refine own_of (fun t k => st104 t k) ?_
        show own_Go p e below KK T104 (mkF m 270 #[oI p1, oI p2, oJ p3, o2, oJ p4, o2, oN i1, oI 1, oI 1, oN i2, oN i3, oI (((Int32.ofNat i1) ||| (8 : Int32)) ||| (16 : Int32)), oN (1 + i1), oN ((1 + i1) + (1 + i2)), oN (((1 + i1) + (1 + i2)) + i3), oR b83, oR r92, .val .null, oR r100, oR r102, oI 1, oU, oU] [(.int 1)])
        refine own_at (fun t k => XS.goto X104.here hx rfl (pc0 := 270) (pc' := 283) rfl (hb hby at_270) (by decide) (by decide) k) ?_
        show own_Go p e below KK T104 (mkF m 283 #[oI p1, oI p2, oJ p3, o2, oJ p4, o2, oN i1, oI 1, oI 1, oN i2, oN i3, oI (((Int32.ofNat i1) ||| (8 : Int32)) ||| (16 : Int32)), oN (1 + i1), oN ((1 + i1) + (1 + i2)), oN (((1 + i1) + (1 + i2)) + i3), oR b83, oR r92, .val .null, oR r100, oR r102, oI 1, oU, oU] [(.int 1)])
        refine own_at (fun t k => XS.istore X104.here hx rfl (hb hby at_283) rfl (l' := #[oI p1, oI p2, oJ p3, o2, oJ p4, o2, oN i1, oI 1, oI 1, oN i2, oN i3, oI (((Int32.ofNat i1) ||| (8 : Int32)) ||| (16 : Int32)), oN (1 + i1), oN ((1 + i1) + (1 + i2)), oN (((1 + i1) + (1 + i2)) + i3), oR b83, oR r92, .val .null, oR r100, oR r102, oI 1, oI 1, oU]) rfl k) ?_
        show own_Go p e below KK T104 (mkF m 285 #[oI p1, oI p2, oJ p3, o2, oJ p4, o2, oN i1, oI 1, oI 1, oN i2, oN i3, oI (((Int32.ofNat i1) ||| (8 : Int32)) ||| (16 : Int32)), oN (1 + i1), oN ((1 + i1) + (1 + i2)), oN (((1 + i1) + (1 + i2)) + i3), oR b83, oR r92, .val .null, oR r100, oR r102, oI 1, oI 1, oU] [])
        refine own_at (fun t k => XS.iload X104.here hx rfl (hb hby at_285) rfl k) ?_
        show own_Go p e below KK T104 (mkF m 287 #[oI p1, oI p2, oJ p3, o2, oJ p4, o2, oN i1, oI 1, oI 1, oN i2, oN i3, oI (((Int32.ofNat i1) ||| (8 : Int32)) ||| (16 : Int32)), oN (1 + i1), oN ((1 + i1) + (1 + i2)), oN (((1 + i1) + (1 + i2)) + i3), oR b83, oR r92, .val .null, oR r100, oR r102, oI 1, oI 1, oU] [(.int 1)])
        have hc287 : ¬ ((1 : Int32) = (0 : Int32)) := by decide
        refine own_at (fun t k => XS.ifNo X104.here hx rfl (hb hby at_287) rfl (Jvm.Free.XT.i0_eq_f hc287) k) ?_
        show own_Go p e below KK T104 (mkF m 290 #[oI p1, oI p2, oJ p3, o2, oJ p4, o2, oN i1, oI 1, oI 1, oN i2, oN i3, oI (((Int32.ofNat i1) ||| (8 : Int32)) ||| (16 : Int32)), oN (1 + i1), oN ((1 + i1) + (1 + i2)), oN (((1 + i1) + (1 + i2)) + i3), oR b83, oR r92, .val .null, oR r100, oR r102, oI 1, oI 1, oU] [])
        refine own_at (fun t k => XS.aload X104.here hx rfl (hb hby at_290) rfl rfl k) ?_
        show own_Go p e below KK T104 (mkF m 292 #[oI p1, oI p2, oJ p3, o2, oJ p4, o2, oN i1, oI 1, oI 1, oN i2, oN i3, oI (((Int32.ofNat i1) ||| (8 : Int32)) ||| (16 : Int32)), oN (1 + i1), oN ((1 + i1) + (1 + i2)), oN (((1 + i1) + (1 + i2)) + i3), oR b83, oR r92, .val .null, oR r100, oR r102, oI 1, oI 1, oU] [(.ref r102)])
        refine own_at (fun t k => XS.aload X104.here hx rfl (hb hby at_292) rfl rfl k) ?_
        show own_Go p e below KK T104 (mkF m 294 #[oI p1, oI p2, oJ p3, o2, oJ p4, o2, oN i1, oI 1, oI 1, oN i2, oN i3, oI (((Int32.ofNat i1) ||| (8 : Int32)) ||| (16 : Int32)), oN (1 + i1), oN ((1 + i1) + (1 + i2)), oN (((1 + i1) + (1 + i2)) + i3), oR b83, oR r92, .val .null, oR r100, oR r102, oI 1, oI 1, oU] [(.ref b83), (.ref r102)])
        refine own_at (fun t k => XS.iload X104.here hx rfl (hb hby at_294) rfl k) ?_
        show own_Go p e below KK T104 (mkF m 296 #[oI p1, oI p2, oJ p3, o2, oJ p4, o2, oN i1, oI 1, oI 1, oN i2, oN i3, oI (((Int32.ofNat i1) ||| (8 : Int32)) ||| (16 : Int32)), oN (1 + i1), oN ((1 + i1) + (1 + i2)), oN (((1 + i1) + (1 + i2)) + i3), oR b83, oR r92, .val .null, oR r100, oR r102, oI 1, oI 1, oU] [(.int (Int32.ofNat ((1 + i1) + (1 + i2)))), (.ref b83), (.ref r102)])
        refine own_at (fun t k => XS.iload X104.here hx rfl (hb hby at_296) rfl k) ?_
        show own_Go p e below KK T104 (mkF m 298 #[oI p1, oI p2, oJ p3, o2, oJ p4, o2, oN i1, oI 1, oI 1, oN i2, oN i3, oI (((Int32.ofNat i1) ||| (8 : Int32)) ||| (16 : Int32)), oN (1 + i1), oN ((1 + i1) + (1 + i2)), oN (((1 + i1) + (1 + i2)) + i3), oR b83, oR r92, .val .null, oR r100, oR r102, oI 1, oI 1, oU] [(.int (Int32.ofNat i3)), (.int (Int32.ofNat ((1 + i1) + (1 + i2)))), (.ref b83), (.ref r102)])
        obtain ⟨_, _, ⟨T105, L105, k105, n105⟩, -, X105, ⟨Lc105, hQ105, l105, y105, z105⟩, st105⟩ := Jvm.LawKit.callS X104 hx (y := (⟨"com/example/isimud/isimud/oscore/OscoreOptionReadPinLaw", "same", "([B[BII)Z"⟩ : MethodName)) hown (mvT hZ (hw _ (List.mem_of_getElem? (i := 69) rfl))) (mvT hZ (hw _ (List.mem_of_getElem? (i := 70) rfl))) (mvT hZ (hw _ (List.mem_of_getElem? (i := 4) rfl))) (mvT hZ (hw _ (List.mem_of_getElem? (i := 71) rfl))) (by decide) (backOf (W := 0) (rm_same l Z a0 hw [] r102 b83 ((1 + i1) + (1 + i2)) i3 us T102.heap n0 Zs102 (by omega) (by rw [show i3 = us.length - ((1 + i1) + (1 + i2)) from by omega]; exact A103_r102) A91_b83_h102 (by omega) (by omega)) hZ (hw _ (List.mem_of_getElem? (i := 71) rfl)) (hw _ (List.mem_of_getElem? (i := 4) rfl)) (by decide) (by decide)) (g := (mkF m 298 #[oI p1, oI p2, oJ p3, o2, oJ p4, o2, oN i1, oI 1, oI 1, oN i2, oN i3, oI (((Int32.ofNat i1) ||| (8 : Int32)) ||| (16 : Int32)), oN (1 + i1), oN ((1 + i1) + (1 + i2)), oN (((1 + i1) + (1 + i2)) + i3), oR b83, oR r92, .val .null, oR r100, oR r102, oI 1, oI 1, oU] [(.int (Int32.ofNat i3)), (.int (Int32.ofNat ((1 + i1) + (1 + i2)))), (.ref b83), (.ref r102)])) rfl (by rw [hml]; rfl) (argsL := [(.ref r102), (.ref b83), (.int (Int32.ofNat ((1 + i1) + (1 + i2)))), (.int (Int32.ofNat i3))]) (rest := []) (lenOf pd___B_BII_Z rfl) rfl (by show 2 * 0 + _ ≤ _; exact Nat.le_of_eq rfl) (hb hby at_298) (fun _ _ => ⟨rfl, e104, (by decide : 7 + 0 ≤ _), (by decide : 81 + 0 ≤ _)⟩)
        dsimp only [Pt.U, Pt.locs, Pt.cells, Pt.slots] at X105 l105 y105 z105 st105 hQ105
        subst l105 y105 z105
        obtain ⟨rfl, N105q, e105⟩ := hQ105
        have N105 := Fr.app N104 N105q
        refine own_of (fun t k => st105 t k) ?_
        show own_Go p e below KK T105 (mkF m 301 #[oI p1, oI p2, oJ p3, o2, oJ p4, o2, oN i1, oI 1, oI 1, oN i2, oN i3, oI (((Int32.ofNat i1) ||| (8 : Int32)) ||| (16 : Int32)), oN (1 + i1), oN ((1 + i1) + (1 + i2)), oN (((1 + i1) + (1 + i2)) + i3), oR b83, oR r92, .val .null, oR r100, oR r102, oI 1, oI 1, oU] [(.int 1)])
        refine own_at (fun t k => XS.goto X105.here hx rfl (pc0 := 301) (pc' := 314) rfl (hb hby at_301) (by decide) (by decide) k) ?_
        show own_Go p e below KK T105 (mkF m 314 #[oI p1, oI p2, oJ p3, o2, oJ p4, o2, oN i1, oI 1, oI 1, oN i2, oN i3, oI (((Int32.ofNat i1) ||| (8 : Int32)) ||| (16 : Int32)), oN (1 + i1), oN ((1 + i1) + (1 + i2)), oN (((1 + i1) + (1 + i2)) + i3), oR b83, oR r92, .val .null, oR r100, oR r102, oI 1, oI 1, oU] [(.int 1)])
        refine own_at (fun t k => XS.istore X105.here hx rfl (hb hby at_314) rfl (l' := #[oI p1, oI p2, oJ p3, o2, oJ p4, o2, oN i1, oI 1, oI 1, oN i2, oN i3, oI (((Int32.ofNat i1) ||| (8 : Int32)) ||| (16 : Int32)), oN (1 + i1), oN ((1 + i1) + (1 + i2)), oN (((1 + i1) + (1 + i2)) + i3), oR b83, oR r92, .val .null, oR r100, oR r102, oI 1, oI 1, oI 1]) rfl k) ?_
        show own_Go p e below KK T105 (mkF m 316 #[oI p1, oI p2, oJ p3, o2, oJ p4, o2, oN i1, oI 1, oI 1, oN i2, oN i3, oI (((Int32.ofNat i1) ||| (8 : Int32)) ||| (16 : Int32)), oN (1 + i1), oN ((1 + i1) + (1 + i2)), oN (((1 + i1) + (1 + i2)) + i3), oR b83, oR r92, .val .null, oR r100, oR r102, oI 1, oI 1, oI 1] [])
        refine own_at (fun t k => XS.iload X105.here hx rfl (hb hby at_316) rfl k) ?_
        show own_Go p e below KK T105 (mkF m 318 #[oI p1, oI p2, oJ p3, o2, oJ p4, o2, oN i1, oI 1, oI 1, oN i2, oN i3, oI (((Int32.ofNat i1) ||| (8 : Int32)) ||| (16 : Int32)), oN (1 + i1), oN ((1 + i1) + (1 + i2)), oN (((1 + i1) + (1 + i2)) + i3), oR b83, oR r92, .val .null, oR r100, oR r102, oI 1, oI 1, oI 1] [(.int 1)])
        have hc318 : ¬ ((1 : Int32) = (0 : Int32)) := by decide
        refine own_at (fun t k => XS.ifNo X105.here hx rfl (hb hby at_318) rfl (Jvm.Free.XT.i0_eq_f hc318) k) ?_
        show own_Go p e below KK T105 (mkF m 321 #[oI p1, oI p2, oJ p3, o2, oJ p4, o2, oN i1, oI 1, oI 1, oN i2, oN i3, oI (((Int32.ofNat i1) ||| (8 : Int32)) ||| (16 : Int32)), oN (1 + i1), oN ((1 + i1) + (1 + i2)), oN (((1 + i1) + (1 + i2)) + i3), oR b83, oR r92, .val .null, oR r100, oR r102, oI 1, oI 1, oI 1] [])
        refine own_at (fun t k => XS.iload X105.here hx rfl (hb hby at_321) rfl k) ?_
        show own_Go p e below KK T105 (mkF m 323 #[oI p1, oI p2, oJ p3, o2, oJ p4, o2, oN i1, oI 1, oI 1, oN i2, oN i3, oI (((Int32.ofNat i1) ||| (8 : Int32)) ||| (16 : Int32)), oN (1 + i1), oN ((1 + i1) + (1 + i2)), oN (((1 + i1) + (1 + i2)) + i3), oR b83, oR r92, .val .null, oR r100, oR r102, oI 1, oI 1, oI 1] [(.int 1)])
        have hc323 : ¬ ((1 : Int32) = (0 : Int32)) := by decide
        refine own_at (fun t k => XS.ifNo X105.here hx rfl (hb hby at_323) rfl (Jvm.Free.XT.i0_eq_f hc323) k) ?_
        show own_Go p e below KK T105 (mkF m 326 #[oI p1, oI p2, oJ p3, o2, oJ p4, o2, oN i1, oI 1, oI 1, oN i2, oN i3, oI (((Int32.ofNat i1) ||| (8 : Int32)) ||| (16 : Int32)), oN (1 + i1), oN ((1 + i1) + (1 + i2)), oN (((1 + i1) + (1 + i2)) + i3), oR b83, oR r92, .val .null, oR r100, oR r102, oI 1, oI 1, oI 1] [])
        refine own_at (fun t k => XS.iload X105.here hx rfl (hb hby at_326) rfl k) ?_
        show own_Go p e below KK T105 (mkF m 328 #[oI p1, oI p2, oJ p3, o2, oJ p4, o2, oN i1, oI 1, oI 1, oN i2, oN i3, oI (((Int32.ofNat i1) ||| (8 : Int32)) ||| (16 : Int32)), oN (1 + i1), oN ((1 + i1) + (1 + i2)), oN (((1 + i1) + (1 + i2)) + i3), oR b83, oR r92, .val .null, oR r100, oR r102, oI 1, oI 1, oI 1] [(.int 1)])
        have hc328 : ¬ ((1 : Int32) = (0 : Int32)) := by decide
        refine own_at (fun t k => XS.ifNo X105.here hx rfl (hb hby at_328) rfl (Jvm.Free.XT.i0_eq_f hc328) k) ?_
        show own_Go p e below KK T105 (mkF m 331 #[oI p1, oI p2, oJ p3, o2, oJ p4, o2, oN i1, oI 1, oI 1, oN i2, oN i3, oI (((Int32.ofNat i1) ||| (8 : Int32)) ||| (16 : Int32)), oN (1 + i1), oN ((1 + i1) + (1 + i2)), oN (((1 + i1) + (1 + i2)) + i3), oR b83, oR r92, .val .null, oR r100, oR r102, oI 1, oI 1, oI 1] [])
        refine own_at (fun t k => XS.iconst X105.here hx rfl (hb hby at_331) k) ?_
        show own_Go p e below KK T105 (mkF m 332 #[oI p1, oI p2, oJ p3, o2, oJ p4, o2, oN i1, oI 1, oI 1, oN i2, oN i3, oI (((Int32.ofNat i1) ||| (8 : Int32)) ||| (16 : Int32)), oN (1 + i1), oN ((1 + i1) + (1 + i2)), oN (((1 + i1) + (1 + i2)) + i3), oR b83, oR r92, .val .null, oR r100, oR r102, oI 1, oI 1, oI 1] [(.int 1)])
        refine own_at (fun t k => XS.goto X105.here hx rfl (pc0 := 332) (pc' := 336) rfl (hb hby at_332) (by decide) (by decide) k) ?_
        show own_Go p e below KK T105 (mkF m 336 #[oI p1, oI p2, oJ p3, o2, oJ p4, o2, oN i1, oI 1, oI 1, oN i2, oN i3, oI (((Int32.ofNat i1) ||| (8 : Int32)) ||| (16 : Int32)), oN (1 + i1), oN ((1 + i1) + (1 + i2)), oN (((1 + i1) + (1 + i2)) + i3), oR b83, oR r92, .val .null, oR r100, oR r102, oI 1, oI 1, oI 1] [(.int 1)])
        subst hKK
        exact own_retN X105 hx hlk (t := .boolean) Bd.returns (by simp) (hb hby at_336) (w := (1 : Int32)) (show nar .boolean (1 : Int32) = 1 from by decide) ⟨rfl, N105⟩ (Nat.le_of_ble_eq_true rfl) (Nat.le_of_ble_eq_true rfl)
      · rw [if_neg hn0] at Oa92
        obtain ⟨y92a, rfl, AOa92⟩ := Oa92
        have A106_y92a : own_A Z T92.heap y92a "[B" .byte (((us.map Value.int).drop 1).take i1) := AOa92
        refine own_at (fun t k => XS.astore X92.here hx rfl (hb hby at_199) rfl rfl (l' := #[oI p1, oI p2, oJ p3, o2, oJ p4, o2, oN i1, oI 1, oI 1, oN i2, oN i3, oI (((Int32.ofNat i1) ||| (8 : Int32)) ||| (16 : Int32)), oN (1 + i1), oN ((1 + i1) + (1 + i2)), oN (((1 + i1) + (1 + i2)) + i3), oR b83, oR r92, oU, oU, oU, oU, oU, oU]) rfl k) ?_
        show own_Go p e below KK T92 (mkF m 201 #[oI p1, oI p2, oJ p3, o2, oJ p4, o2, oN i1, oI 1, oI 1, oN i2, oN i3, oI (((Int32.ofNat i1) ||| (8 : Int32)) ||| (16 : Int32)), oN (1 + i1), oN ((1 + i1) + (1 + i2)), oN (((1 + i1) + (1 + i2)) + i3), oR b83, oR r92, oU, oU, oU, oU, oU, oU] [])
        refine own_at (fun t k => XS.aload X92.here hx rfl (hb hby at_201) rfl rfl k) ?_
        show own_Go p e below KK T92 (mkF m 203 #[oI p1, oI p2, oJ p3, o2, oJ p4, o2, oN i1, oI 1, oI 1, oN i2, oN i3, oI (((Int32.ofNat i1) ||| (8 : Int32)) ||| (16 : Int32)), oN (1 + i1), oN ((1 + i1) + (1 + i2)), oN (((1 + i1) + (1 + i2)) + i3), oR b83, oR r92, oU, oU, oU, oU, oU, oU] [(.ref r92)])
        obtain ⟨cq107, kq107, q107a, q107b, q107c⟩ := isOf hZ rfl E93_r92
        obtain ⟨_, _, ⟨T107, L107, k107, n107⟩, -, X107, ⟨Lc107, hQ107, l107, y107, z107⟩, st107⟩ := X92.virtualBack hx (y := (⟨"com/example/isimud/isimud/oscore/OscoreOption", "partialIv", "()[B"⟩ : MethodName)) (z := (⟨"com/example/isimud/isimud/oscore/OscoreOption", "partialIv", "()[B"⟩ : MethodName)) hown (mvT hZ (hw _ (List.mem_of_getElem? (i := 45) rfl))) (mvT hZ (hw _ (List.mem_of_getElem? (i := 46) rfl))) (notFace_of_selects (args := #[]) (mvT hZ (hw _ (List.mem_of_getElem? (i := 48) rfl)))) (mvT hZ (hw _ (List.mem_of_getElem? (i := 48) rfl))) (mvT hZ (hw _ (List.mem_of_getElem? (i := 47) rfl))) (by decide) (backOf (W := 0) (rm_partialIv l Z a0 hw [] r92  y92a (((us.map Value.int).drop 1).take i1) T92.heap n0 Zs92 F94_r92 A106_y92a (by simp only [List.length_take, List.length_drop, List.length_map]; omega)) hZ (hw _ (List.mem_of_getElem? (i := 49) rfl)) (hw _ (List.mem_of_getElem? (i := 8) rfl)) (by decide) (by decide)) q107a q107c (g := (mkF m 203 #[oI p1, oI p2, oJ p3, o2, oJ p4, o2, oN i1, oI 1, oI 1, oN i2, oN i3, oI (((Int32.ofNat i1) ||| (8 : Int32)) ||| (16 : Int32)), oN (1 + i1), oN ((1 + i1) + (1 + i2)), oN (((1 + i1) + (1 + i2)) + i3), oR b83, oR r92, oU, oU, oU, oU, oU, oU] [(.ref r92)])) rfl (by rw [hml]; rfl) (Steps.refl _) (argsL := []) (rest := []) (lenOf pd____B rfl) rfl (by show 2 * 0 + _ ≤ _; exact Nat.le_of_eq rfl) (hb hby at_203) (fun _ _ => ⟨rfl, rfl, (by decide : 5 + 1 ≤ _), (by decide : 55 + 13 ≤ _)⟩)
        dsimp only [Pt.U, Pt.locs, Pt.cells, Pt.slots] at X107 l107 y107 z107 st107 hQ107
        subst l107 y107 z107
        obtain ⟨r107, rfl, N107q, K107, g_r107, s_r107, Aq107⟩ := hQ107
        have ne_b83_r107 : b83 ≠ r107 := Nat.ne_of_lt (Nat.lt_of_lt_of_le A91_b83_h92.lt s_r107)
        have ne_r92_r107 : r92 ≠ r107 := Nat.ne_of_lt (Nat.lt_of_lt_of_le E93_r92.lt s_r107)
        have ne_y92a_r107 : y92a ≠ r107 := Nat.ne_of_lt (Nat.lt_of_lt_of_le A106_y92a.lt s_r107)
        have ne_y92b_r107 : y92b ≠ r107 := Nat.ne_of_lt (Nat.lt_of_lt_of_le A97_y92b.lt s_r107)
        have ne_y92c_r107 : y92c ≠ r107 := Nat.ne_of_lt (Nat.lt_of_lt_of_le A98_y92c.lt s_r107)
        have A91_b83_h107 : own_A Z T107.heap b83 "[B" .byte (us.map Value.int) := A91_b83_h92.keep K107 nin0
        have E93_r92_h107 : Exa Z T107.heap r92 "com/example/isimud/isimud/oscore/OscoreOption" := E93_r92.keep K107
        have F94_r92_h107 : Fld Z T107.heap r92 "com/example/isimud/isimud/oscore/OscoreOption" "partialIv" "[B" (.ref y92a) := F94_r92.keep K107 nin0
        have F95_r92_h107 : Fld Z T107.heap r92 "com/example/isimud/isimud/oscore/OscoreOption" "kidContext" "[B" (.ref y92b) := F95_r92.keep K107 nin0
        have F96_r92_h107 : Fld Z T107.heap r92 "com/example/isimud/isimud/oscore/OscoreOption" "kid" "[B" (.ref y92c) := F96_r92.keep K107 nin0
        have A97_y92b_h107 : own_A Z T107.heap y92b "[B" .byte (((us.map Value.int).drop ((1 + i1) + 1)).take i2) := A97_y92b.keep K107 nin0
        have A98_y92c_h107 : own_A Z T107.heap y92c "[B" .byte (((us.map Value.int).drop ((1 + i1) + (1 + i2))).take (us.length - ((1 + i1) + (1 + i2)))) := A98_y92c.keep K107 nin0
        have A106_y92a_h107 : own_A Z T107.heap y92a "[B" .byte (((us.map Value.int).drop 1).take i1) := A106_y92a.keep K107 nin0
        have Zs107 : n0 ≤ T107.heap.size := Nat.le_trans Zs92 K107.1
        have A108_r107 : own_A Z T107.heap r107 "[B" .byte (((us.map Value.int).drop 1).take i1) := Aq107
        have N107 := Fr.app N92 N107q
        refine own_of (fun t k => st107.trans k) ?_
        show own_Go p e below KK T107 (mkF m 206 #[oI p1, oI p2, oJ p3, o2, oJ p4, o2, oN i1, oI 1, oI 1, oN i2, oN i3, oI (((Int32.ofNat i1) ||| (8 : Int32)) ||| (16 : Int32)), oN (1 + i1), oN ((1 + i1) + (1 + i2)), oN (((1 + i1) + (1 + i2)) + i3), oR b83, oR r92, oU, oU, oU, oU, oU, oU] [(.ref r107)])
        refine own_at (fun t k => XS.astore X107.here hx rfl (hb hby at_206) rfl rfl (l' := #[oI p1, oI p2, oJ p3, o2, oJ p4, o2, oN i1, oI 1, oI 1, oN i2, oN i3, oI (((Int32.ofNat i1) ||| (8 : Int32)) ||| (16 : Int32)), oN (1 + i1), oN ((1 + i1) + (1 + i2)), oN (((1 + i1) + (1 + i2)) + i3), oR b83, oR r92, oR r107, oU, oU, oU, oU, oU]) rfl k) ?_
        show own_Go p e below KK T107 (mkF m 208 #[oI p1, oI p2, oJ p3, o2, oJ p4, o2, oN i1, oI 1, oI 1, oN i2, oN i3, oI (((Int32.ofNat i1) ||| (8 : Int32)) ||| (16 : Int32)), oN (1 + i1), oN ((1 + i1) + (1 + i2)), oN (((1 + i1) + (1 + i2)) + i3), oR b83, oR r92, oR r107, oU, oU, oU, oU, oU] [])
        refine own_at (fun t k => XS.aload X107.here hx rfl (hb hby at_208) rfl rfl k) ?_
        show own_Go p e below KK T107 (mkF m 210 #[oI p1, oI p2, oJ p3, o2, oJ p4, o2, oN i1, oI 1, oI 1, oN i2, oN i3, oI (((Int32.ofNat i1) ||| (8 : Int32)) ||| (16 : Int32)), oN (1 + i1), oN ((1 + i1) + (1 + i2)), oN (((1 + i1) + (1 + i2)) + i3), oR b83, oR r92, oR r107, oU, oU, oU, oU, oU] [(.ref r92)])
        obtain ⟨cq109, kq109, q109a, q109b, q109c⟩ := isOf hZ rfl E93_r92_h107
        obtain ⟨_, _, ⟨T109, L109, k109, n109⟩, -, X109, ⟨Lc109, hQ109, l109, y109, z109⟩, st109⟩ := X107.virtualBack hx (y := (⟨"com/example/isimud/isimud/oscore/OscoreOption", "kidContext", "()[B"⟩ : MethodName)) (z := (⟨"com/example/isimud/isimud/oscore/OscoreOption", "kidContext", "()[B"⟩ : MethodName)) hown (mvT hZ (hw _ (List.mem_of_getElem? (i := 50) rfl))) (mvT hZ (hw _ (List.mem_of_getElem? (i := 51) rfl))) (notFace_of_selects (args := #[]) (mvT hZ (hw _ (List.mem_of_getElem? (i := 53) rfl)))) (mvT hZ (hw _ (List.mem_of_getElem? (i := 53) rfl))) (mvT hZ (hw _ (List.mem_of_getElem? (i := 52) rfl))) (by decide) (backOf (W := 0) (rm_kidContext l Z a0 hw [] r92  y92b (((us.map Value.int).drop ((1 + i1) + 1)).take i2) T107.heap n0 Zs107 F95_r92_h107 A97_y92b_h107 (by simp only [List.length_take, List.length_drop, List.length_map]; omega)) hZ (hw _ (List.mem_of_getElem? (i := 54) rfl)) (hw _ (List.mem_of_getElem? (i := 8) rfl)) (by decide) (by decide)) q109a q109c (g := (mkF m 210 #[oI p1, oI p2, oJ p3, o2, oJ p4, o2, oN i1, oI 1, oI 1, oN i2, oN i3, oI (((Int32.ofNat i1) ||| (8 : Int32)) ||| (16 : Int32)), oN (1 + i1), oN ((1 + i1) + (1 + i2)), oN (((1 + i1) + (1 + i2)) + i3), oR b83, oR r92, oR r107, oU, oU, oU, oU, oU] [(.ref r92)])) rfl (by rw [hml]; rfl) (Steps.refl _) (argsL := []) (rest := []) (lenOf pd____B rfl) rfl (by show 2 * 0 + _ ≤ _; exact Nat.le_of_eq rfl) (hb hby at_210) (fun _ _ => ⟨rfl, rfl, (by decide : 6 + 1 ≤ _), (by decide : 68 + 13 ≤ _)⟩)
        dsimp only [Pt.U, Pt.locs, Pt.cells, Pt.slots] at X109 l109 y109 z109 st109 hQ109
        subst l109 y109 z109
        obtain ⟨r109, rfl, N109q, K109, g_r109, s_r109, Aq109⟩ := hQ109
        have ne_b83_r109 : b83 ≠ r109 := Nat.ne_of_lt (Nat.lt_of_lt_of_le A91_b83_h107.lt s_r109)
        have ne_r107_r109 : r107 ≠ r109 := Nat.ne_of_lt (Nat.lt_of_lt_of_le A108_r107.lt s_r109)
        have ne_r92_r109 : r92 ≠ r109 := Nat.ne_of_lt (Nat.lt_of_lt_of_le E93_r92_h107.lt s_r109)
        have ne_y92a_r109 : y92a ≠ r109 := Nat.ne_of_lt (Nat.lt_of_lt_of_le A106_y92a_h107.lt s_r109)
        have ne_y92b_r109 : y92b ≠ r109 := Nat.ne_of_lt (Nat.lt_of_lt_of_le A97_y92b_h107.lt s_r109)
        have ne_y92c_r109 : y92c ≠ r109 := Nat.ne_of_lt (Nat.lt_of_lt_of_le A98_y92c_h107.lt s_r109)
        have A91_b83_h109 : own_A Z T109.heap b83 "[B" .byte (us.map Value.int) := A91_b83_h107.keep K109 nin0
        have E93_r92_h109 : Exa Z T109.heap r92 "com/example/isimud/isimud/oscore/OscoreOption" := E93_r92_h107.keep K109
        have F94_r92_h109 : Fld Z T109.heap r92 "com/example/isimud/isimud/oscore/OscoreOption" "partialIv" "[B" (.ref y92a) := F94_r92_h107.keep K109 nin0
        have F95_r92_h109 : Fld Z T109.heap r92 "com/example/isimud/isimud/oscore/OscoreOption" "kidContext" "[B" (.ref y92b) := F95_r92_h107.keep K109 nin0
        have F96_r92_h109 : Fld Z T109.heap r92 "com/example/isimud/isimud/oscore/OscoreOption" "kid" "[B" (.ref y92c) := F96_r92_h107.keep K109 nin0
        have A97_y92b_h109 : own_A Z T109.heap y92b "[B" .byte (((us.map Value.int).drop ((1 + i1) + 1)).take i2) := A97_y92b_h107.keep K109 nin0
        have A98_y92c_h109 : own_A Z T109.heap y92c "[B" .byte (((us.map Value.int).drop ((1 + i1) + (1 + i2))).take (us.length - ((1 + i1) + (1 + i2)))) := A98_y92c_h107.keep K109 nin0
        have A106_y92a_h109 : own_A Z T109.heap y92a "[B" .byte (((us.map Value.int).drop 1).take i1) := A106_y92a_h107.keep K109 nin0
        have A108_r107_h109 : own_A Z T109.heap r107 "[B" .byte (((us.map Value.int).drop 1).take i1) := A108_r107.keep K109 nin0
        have Zs109 : n0 ≤ T109.heap.size := Nat.le_trans Zs107 K109.1
        have A110_r109 : own_A Z T109.heap r109 "[B" .byte (((us.map Value.int).drop ((1 + i1) + 1)).take i2) := Aq109
        have N109 := Fr.app N107 N109q
        refine own_of (fun t k => st109.trans k) ?_
        show own_Go p e below KK T109 (mkF m 213 #[oI p1, oI p2, oJ p3, o2, oJ p4, o2, oN i1, oI 1, oI 1, oN i2, oN i3, oI (((Int32.ofNat i1) ||| (8 : Int32)) ||| (16 : Int32)), oN (1 + i1), oN ((1 + i1) + (1 + i2)), oN (((1 + i1) + (1 + i2)) + i3), oR b83, oR r92, oR r107, oU, oU, oU, oU, oU] [(.ref r109)])
        refine own_at (fun t k => XS.astore X109.here hx rfl (hb hby at_213) rfl rfl (l' := #[oI p1, oI p2, oJ p3, o2, oJ p4, o2, oN i1, oI 1, oI 1, oN i2, oN i3, oI (((Int32.ofNat i1) ||| (8 : Int32)) ||| (16 : Int32)), oN (1 + i1), oN ((1 + i1) + (1 + i2)), oN (((1 + i1) + (1 + i2)) + i3), oR b83, oR r92, oR r107, oR r109, oU, oU, oU, oU]) rfl k) ?_
        show own_Go p e below KK T109 (mkF m 215 #[oI p1, oI p2, oJ p3, o2, oJ p4, o2, oN i1, oI 1, oI 1, oN i2, oN i3, oI (((Int32.ofNat i1) ||| (8 : Int32)) ||| (16 : Int32)), oN (1 + i1), oN ((1 + i1) + (1 + i2)), oN (((1 + i1) + (1 + i2)) + i3), oR b83, oR r92, oR r107, oR r109, oU, oU, oU, oU] [])
        refine own_at (fun t k => XS.aload X109.here hx rfl (hb hby at_215) rfl rfl k) ?_
        show own_Go p e below KK T109 (mkF m 217 #[oI p1, oI p2, oJ p3, o2, oJ p4, o2, oN i1, oI 1, oI 1, oN i2, oN i3, oI (((Int32.ofNat i1) ||| (8 : Int32)) ||| (16 : Int32)), oN (1 + i1), oN ((1 + i1) + (1 + i2)), oN (((1 + i1) + (1 + i2)) + i3), oR b83, oR r92, oR r107, oR r109, oU, oU, oU, oU] [(.ref r92)])
        obtain ⟨cq111, kq111, q111a, q111b, q111c⟩ := isOf hZ rfl E93_r92_h109
        obtain ⟨_, _, ⟨T111, L111, k111, n111⟩, -, X111, ⟨Lc111, hQ111, l111, y111, z111⟩, st111⟩ := X109.virtualBack hx (y := (⟨"com/example/isimud/isimud/oscore/OscoreOption", "kid", "()[B"⟩ : MethodName)) (z := (⟨"com/example/isimud/isimud/oscore/OscoreOption", "kid", "()[B"⟩ : MethodName)) hown (mvT hZ (hw _ (List.mem_of_getElem? (i := 64) rfl))) (mvT hZ (hw _ (List.mem_of_getElem? (i := 65) rfl))) (notFace_of_selects (args := #[]) (mvT hZ (hw _ (List.mem_of_getElem? (i := 67) rfl)))) (mvT hZ (hw _ (List.mem_of_getElem? (i := 67) rfl))) (mvT hZ (hw _ (List.mem_of_getElem? (i := 66) rfl))) (by decide) (backOf (W := 0) (rm_kid l Z a0 hw [] r92  y92c (((us.map Value.int).drop ((1 + i1) + (1 + i2))).take (us.length - ((1 + i1) + (1 + i2)))) T109.heap n0 Zs109 F96_r92_h109 A98_y92c_h109 (by simp only [List.length_take, List.length_drop, List.length_map]; omega)) hZ (hw _ (List.mem_of_getElem? (i := 68) rfl)) (hw _ (List.mem_of_getElem? (i := 8) rfl)) (by decide) (by decide)) q111a q111c (g := (mkF m 217 #[oI p1, oI p2, oJ p3, o2, oJ p4, o2, oN i1, oI 1, oI 1, oN i2, oN i3, oI (((Int32.ofNat i1) ||| (8 : Int32)) ||| (16 : Int32)), oN (1 + i1), oN ((1 + i1) + (1 + i2)), oN (((1 + i1) + (1 + i2)) + i3), oR b83, oR r92, oR r107, oR r109, oU, oU, oU, oU] [(.ref r92)])) rfl (by rw [hml]; rfl) (Steps.refl _) (argsL := []) (rest := []) (lenOf pd____B rfl) rfl (by show 2 * 0 + _ ≤ _; exact Nat.le_of_eq rfl) (hb hby at_217) (fun _ _ => ⟨rfl, rfl, (by decide : 7 + 1 ≤ _), (by decide : 81 + 13 ≤ _)⟩)
        dsimp only [Pt.U, Pt.locs, Pt.cells, Pt.slots] at X111 l111 y111 z111 st111 hQ111
        subst l111 y111 z111
        obtain ⟨r111, rfl, N111q, K111, g_r111, s_r111, Aq111⟩ := hQ111
        have ne_b83_r111 : b83 ≠ r111 := Nat.ne_of_lt (Nat.lt_of_lt_of_le A91_b83_h109.lt s_r111)
        have ne_r107_r111 : r107 ≠ r111 := Nat.ne_of_lt (Nat.lt_of_lt_of_le A108_r107_h109.lt s_r111)
        have ne_r109_r111 : r109 ≠ r111 := Nat.ne_of_lt (Nat.lt_of_lt_of_le A110_r109.lt s_r111)
        have ne_r92_r111 : r92 ≠ r111 := Nat.ne_of_lt (Nat.lt_of_lt_of_le E93_r92_h109.lt s_r111)
        have ne_y92a_r111 : y92a ≠ r111 := Nat.ne_of_lt (Nat.lt_of_lt_of_le A106_y92a_h109.lt s_r111)
        have ne_y92b_r111 : y92b ≠ r111 := Nat.ne_of_lt (Nat.lt_of_lt_of_le A97_y92b_h109.lt s_r111)
        have ne_y92c_r111 : y92c ≠ r111 := Nat.ne_of_lt (Nat.lt_of_lt_of_le A98_y92c_h109.lt s_r111)
        have A91_b83_h111 : own_A Z T111.heap b83 "[B" .byte (us.map Value.int) := A91_b83_h109.keep K111 nin0
        have E93_r92_h111 : Exa Z T111.heap r92 "com/example/isimud/isimud/oscore/OscoreOption" := E93_r92_h109.keep K111
        have F94_r92_h111 : Fld Z T111.heap r92 "com/example/isimud/isimud/oscore/OscoreOption" "partialIv" "[B" (.ref y92a) := F94_r92_h109.keep K111 nin0
        have F95_r92_h111 : Fld Z T111.heap r92 "com/example/isimud/isimud/oscore/OscoreOption" "kidContext" "[B" (.ref y92b) := F95_r92_h109.keep K111 nin0
        have F96_r92_h111 : Fld Z T111.heap r92 "com/example/isimud/isimud/oscore/OscoreOption" "kid" "[B" (.ref y92c) := F96_r92_h109.keep K111 nin0
        have A97_y92b_h111 : own_A Z T111.heap y92b "[B" .byte (((us.map Value.int).drop ((1 + i1) + 1)).take i2) := A97_y92b_h109.keep K111 nin0
        have A98_y92c_h111 : own_A Z T111.heap y92c "[B" .byte (((us.map Value.int).drop ((1 + i1) + (1 + i2))).take (us.length - ((1 + i1) + (1 + i2)))) := A98_y92c_h109.keep K111 nin0
        have A106_y92a_h111 : own_A Z T111.heap y92a "[B" .byte (((us.map Value.int).drop 1).take i1) := A106_y92a_h109.keep K111 nin0
        have A108_r107_h111 : own_A Z T111.heap r107 "[B" .byte (((us.map Value.int).drop 1).take i1) := A108_r107_h109.keep K111 nin0
        have A110_r109_h111 : own_A Z T111.heap r109 "[B" .byte (((us.map Value.int).drop ((1 + i1) + 1)).take i2) := A110_r109.keep K111 nin0
        have Zs111 : n0 ≤ T111.heap.size := Nat.le_trans Zs109 K111.1
        have A112_r111 : own_A Z T111.heap r111 "[B" .byte (((us.map Value.int).drop ((1 + i1) + (1 + i2))).take (us.length - ((1 + i1) + (1 + i2)))) := Aq111
        have N111 := Fr.app N109 N111q
        refine own_of (fun t k => st111.trans k) ?_
        show own_Go p e below KK T111 (mkF m 220 #[oI p1, oI p2, oJ p3, o2, oJ p4, o2, oN i1, oI 1, oI 1, oN i2, oN i3, oI (((Int32.ofNat i1) ||| (8 : Int32)) ||| (16 : Int32)), oN (1 + i1), oN ((1 + i1) + (1 + i2)), oN (((1 + i1) + (1 + i2)) + i3), oR b83, oR r92, oR r107, oR r109, oU, oU, oU, oU] [(.ref r111)])
        refine own_at (fun t k => XS.astore X111.here hx rfl (hb hby at_220) rfl rfl (l' := #[oI p1, oI p2, oJ p3, o2, oJ p4, o2, oN i1, oI 1, oI 1, oN i2, oN i3, oI (((Int32.ofNat i1) ||| (8 : Int32)) ||| (16 : Int32)), oN (1 + i1), oN ((1 + i1) + (1 + i2)), oN (((1 + i1) + (1 + i2)) + i3), oR b83, oR r92, oR r107, oR r109, oR r111, oU, oU, oU]) rfl k) ?_
        show own_Go p e below KK T111 (mkF m 222 #[oI p1, oI p2, oJ p3, o2, oJ p4, o2, oN i1, oI 1, oI 1, oN i2, oN i3, oI (((Int32.ofNat i1) ||| (8 : Int32)) ||| (16 : Int32)), oN (1 + i1), oN ((1 + i1) + (1 + i2)), oN (((1 + i1) + (1 + i2)) + i3), oR b83, oR r92, oR r107, oR r109, oR r111, oU, oU, oU] [])
        refine own_at (fun t k => XS.iload X111.here hx rfl (hb hby at_222) rfl k) ?_
        show own_Go p e below KK T111 (mkF m 224 #[oI p1, oI p2, oJ p3, o2, oJ p4, o2, oN i1, oI 1, oI 1, oN i2, oN i3, oI (((Int32.ofNat i1) ||| (8 : Int32)) ||| (16 : Int32)), oN (1 + i1), oN ((1 + i1) + (1 + i2)), oN (((1 + i1) + (1 + i2)) + i3), oR b83, oR r92, oR r107, oR r109, oR r111, oU, oU, oU] [(.int (Int32.ofNat i1))])
        have hc224 : ¬ ((Int32.ofNat i1) = (0 : Int32)) := (fun q => hn0 ((own_eq (b := 0) (by omega) (by omega)).mp q))
        refine own_at (fun t k => XS.ifYes X111.here hx rfl (pc0 := 224) (pc' := 240) rfl (hb hby at_224) rfl (Jvm.Free.XT.i0_ne_t hc224) (by decide) (by decide) k) ?_
        show own_Go p e below KK T111 (mkF m 240 #[oI p1, oI p2, oJ p3, o2, oJ p4, o2, oN i1, oI 1, oI 1, oN i2, oN i3, oI (((Int32.ofNat i1) ||| (8 : Int32)) ||| (16 : Int32)), oN (1 + i1), oN ((1 + i1) + (1 + i2)), oN (((1 + i1) + (1 + i2)) + i3), oR b83, oR r92, oR r107, oR r109, oR r111, oU, oU, oU] [])
        refine own_at (fun t k => XS.aload X111.here hx rfl (hb hby at_240) rfl rfl k) ?_
        show own_Go p e below KK T111 (mkF m 242 #[oI p1, oI p2, oJ p3, o2, oJ p4, o2, oN i1, oI 1, oI 1, oN i2, oN i3, oI (((Int32.ofNat i1) ||| (8 : Int32)) ||| (16 : Int32)), oN (1 + i1), oN ((1 + i1) + (1 + i2)), oN (((1 + i1) + (1 + i2)) + i3), oR b83, oR r92, oR r107, oR r109, oR r111, oU, oU, oU] [(.ref r107)])
        refine own_at (fun t k => XS.aload X111.here hx rfl (hb hby at_242) rfl rfl k) ?_
        show own_Go p e below KK T111 (mkF m 244 #[oI p1, oI p2, oJ p3, o2, oJ p4, o2, oN i1, oI 1, oI 1, oN i2, oN i3, oI (((Int32.ofNat i1) ||| (8 : Int32)) ||| (16 : Int32)), oN (1 + i1), oN ((1 + i1) + (1 + i2)), oN (((1 + i1) + (1 + i2)) + i3), oR b83, oR r92, oR r107, oR r109, oR r111, oU, oU, oU] [(.ref b83), (.ref r107)])
        refine own_at (fun t k => XS.iconst X111.here hx rfl (hb hby at_244) k) ?_
        show own_Go p e below KK T111 (mkF m 245 #[oI p1, oI p2, oJ p3, o2, oJ p4, o2, oN i1, oI 1, oI 1, oN i2, oN i3, oI (((Int32.ofNat i1) ||| (8 : Int32)) ||| (16 : Int32)), oN (1 + i1), oN ((1 + i1) + (1 + i2)), oN (((1 + i1) + (1 + i2)) + i3), oR b83, oR r92, oR r107, oR r109, oR r111, oU, oU, oU] [(.int 1), (.ref b83), (.ref r107)])
        refine own_at (fun t k => XS.iload X111.here hx rfl (hb hby at_245) rfl k) ?_
        show own_Go p e below KK T111 (mkF m 247 #[oI p1, oI p2, oJ p3, o2, oJ p4, o2, oN i1, oI 1, oI 1, oN i2, oN i3, oI (((Int32.ofNat i1) ||| (8 : Int32)) ||| (16 : Int32)), oN (1 + i1), oN ((1 + i1) + (1 + i2)), oN (((1 + i1) + (1 + i2)) + i3), oR b83, oR r92, oR r107, oR r109, oR r111, oU, oU, oU] [(.int (Int32.ofNat i1)), (.int 1), (.ref b83), (.ref r107)])
        obtain ⟨_, _, ⟨T113, L113, k113, n113⟩, -, X113, ⟨Lc113, hQ113, l113, y113, z113⟩, st113⟩ := Jvm.LawKit.callS X111 hx (y := (⟨"com/example/isimud/isimud/oscore/OscoreOptionReadPinLaw", "same", "([B[BII)Z"⟩ : MethodName)) hown (mvT hZ (hw _ (List.mem_of_getElem? (i := 69) rfl))) (mvT hZ (hw _ (List.mem_of_getElem? (i := 70) rfl))) (mvT hZ (hw _ (List.mem_of_getElem? (i := 4) rfl))) (mvT hZ (hw _ (List.mem_of_getElem? (i := 71) rfl))) (by decide) (backOf (W := 0) (rm_same l Z a0 hw [] r107 b83 1 i1 us T111.heap n0 Zs111 (by omega) A108_r107_h111 A91_b83_h111 (by omega) (by omega)) hZ (hw _ (List.mem_of_getElem? (i := 71) rfl)) (hw _ (List.mem_of_getElem? (i := 4) rfl)) (by decide) (by decide)) (g := (mkF m 247 #[oI p1, oI p2, oJ p3, o2, oJ p4, o2, oN i1, oI 1, oI 1, oN i2, oN i3, oI (((Int32.ofNat i1) ||| (8 : Int32)) ||| (16 : Int32)), oN (1 + i1), oN ((1 + i1) + (1 + i2)), oN (((1 + i1) + (1 + i2)) + i3), oR b83, oR r92, oR r107, oR r109, oR r111, oU, oU, oU] [(.int (Int32.ofNat i1)), (.int 1), (.ref b83), (.ref r107)])) rfl (by rw [hml]; rfl) (argsL := [(.ref r107), (.ref b83), (.int 1), (.int (Int32.ofNat i1))]) (rest := []) (lenOf pd___B_BII_Z rfl) rfl (by show 2 * 0 + _ ≤ _; exact Nat.le_of_eq rfl) (hb hby at_247) (fun _ _ => ⟨rfl, rfl, (by decide : 8 + 0 ≤ _), (by decide : 94 + 0 ≤ _)⟩)
        dsimp only [Pt.U, Pt.locs, Pt.cells, Pt.slots] at X113 l113 y113 z113 st113 hQ113
        subst l113 y113 z113
        obtain ⟨rfl, N113q, e113⟩ := hQ113
        have N113 := Fr.app N111 N113q
        refine own_of (fun t k => st113 t k) ?_
        show own_Go p e below KK T113 (mkF m 250 #[oI p1, oI p2, oJ p3, o2, oJ p4, o2, oN i1, oI 1, oI 1, oN i2, oN i3, oI (((Int32.ofNat i1) ||| (8 : Int32)) ||| (16 : Int32)), oN (1 + i1), oN ((1 + i1) + (1 + i2)), oN (((1 + i1) + (1 + i2)) + i3), oR b83, oR r92, oR r107, oR r109, oR r111, oU, oU, oU] [(.int 1)])
        refine own_at (fun t k => XS.istore X113.here hx rfl (hb hby at_250) rfl (l' := #[oI p1, oI p2, oJ p3, o2, oJ p4, o2, oN i1, oI 1, oI 1, oN i2, oN i3, oI (((Int32.ofNat i1) ||| (8 : Int32)) ||| (16 : Int32)), oN (1 + i1), oN ((1 + i1) + (1 + i2)), oN (((1 + i1) + (1 + i2)) + i3), oR b83, oR r92, oR r107, oR r109, oR r111, oI 1, oU, oU]) rfl k) ?_
        show own_Go p e below KK T113 (mkF m 252 #[oI p1, oI p2, oJ p3, o2, oJ p4, o2, oN i1, oI 1, oI 1, oN i2, oN i3, oI (((Int32.ofNat i1) ||| (8 : Int32)) ||| (16 : Int32)), oN (1 + i1), oN ((1 + i1) + (1 + i2)), oN (((1 + i1) + (1 + i2)) + i3), oR b83, oR r92, oR r107, oR r109, oR r111, oI 1, oU, oU] [])
        refine own_at (fun t k => XS.iload X113.here hx rfl (hb hby at_252) rfl k) ?_
        show own_Go p e below KK T113 (mkF m 254 #[oI p1, oI p2, oJ p3, o2, oJ p4, o2, oN i1, oI 1, oI 1, oN i2, oN i3, oI (((Int32.ofNat i1) ||| (8 : Int32)) ||| (16 : Int32)), oN (1 + i1), oN ((1 + i1) + (1 + i2)), oN (((1 + i1) + (1 + i2)) + i3), oR b83, oR r92, oR r107, oR r109, oR r111, oI 1, oU, oU] [(.int 1)])
        have hc254 : ¬ ((1 : Int32) = (0 : Int32)) := by decide
        refine own_at (fun t k => XS.ifNo X113.here hx rfl (hb hby at_254) rfl (Jvm.Free.XT.i0_eq_f hc254) k) ?_
        show own_Go p e below KK T113 (mkF m 257 #[oI p1, oI p2, oJ p3, o2, oJ p4, o2, oN i1, oI 1, oI 1, oN i2, oN i3, oI (((Int32.ofNat i1) ||| (8 : Int32)) ||| (16 : Int32)), oN (1 + i1), oN ((1 + i1) + (1 + i2)), oN (((1 + i1) + (1 + i2)) + i3), oR b83, oR r92, oR r107, oR r109, oR r111, oI 1, oU, oU] [])
        refine own_at (fun t k => XS.aload X113.here hx rfl (hb hby at_257) rfl rfl k) ?_
        show own_Go p e below KK T113 (mkF m 259 #[oI p1, oI p2, oJ p3, o2, oJ p4, o2, oN i1, oI 1, oI 1, oN i2, oN i3, oI (((Int32.ofNat i1) ||| (8 : Int32)) ||| (16 : Int32)), oN (1 + i1), oN ((1 + i1) + (1 + i2)), oN (((1 + i1) + (1 + i2)) + i3), oR b83, oR r92, oR r107, oR r109, oR r111, oI 1, oU, oU] [(.ref r109)])
        refine own_at (fun t k => XS.aload X113.here hx rfl (hb hby at_259) rfl rfl k) ?_
        show own_Go p e below KK T113 (mkF m 261 #[oI p1, oI p2, oJ p3, o2, oJ p4, o2, oN i1, oI 1, oI 1, oN i2, oN i3, oI (((Int32.ofNat i1) ||| (8 : Int32)) ||| (16 : Int32)), oN (1 + i1), oN ((1 + i1) + (1 + i2)), oN (((1 + i1) + (1 + i2)) + i3), oR b83, oR r92, oR r107, oR r109, oR r111, oI 1, oU, oU] [(.ref b83), (.ref r109)])
        refine own_at (fun t k => XS.iload X113.here hx rfl (hb hby at_261) rfl k) ?_
        show own_Go p e below KK T113 (mkF m 263 #[oI p1, oI p2, oJ p3, o2, oJ p4, o2, oN i1, oI 1, oI 1, oN i2, oN i3, oI (((Int32.ofNat i1) ||| (8 : Int32)) ||| (16 : Int32)), oN (1 + i1), oN ((1 + i1) + (1 + i2)), oN (((1 + i1) + (1 + i2)) + i3), oR b83, oR r92, oR r107, oR r109, oR r111, oI 1, oU, oU] [(.int (Int32.ofNat (1 + i1))), (.ref b83), (.ref r109)])
        refine own_at (fun t k => XS.iconst X113.here hx rfl (hb hby at_263) k) ?_
        show own_Go p e below KK T113 (mkF m 264 #[oI p1, oI p2, oJ p3, o2, oJ p4, o2, oN i1, oI 1, oI 1, oN i2, oN i3, oI (((Int32.ofNat i1) ||| (8 : Int32)) ||| (16 : Int32)), oN (1 + i1), oN ((1 + i1) + (1 + i2)), oN (((1 + i1) + (1 + i2)) + i3), oR b83, oR r92, oR r107, oR r109, oR r111, oI 1, oU, oU] [(.int 1), (.int (Int32.ofNat (1 + i1))), (.ref b83), (.ref r109)])
        refine own_at (fun t k => XS.iadd X113.here hx rfl (hb hby at_264) rfl k) ?_
        show own_Go p e below KK T113 (mkF m 265 #[oI p1, oI p2, oJ p3, o2, oJ p4, o2, oN i1, oI 1, oI 1, oN i2, oN i3, oI (((Int32.ofNat i1) ||| (8 : Int32)) ||| (16 : Int32)), oN (1 + i1), oN ((1 + i1) + (1 + i2)), oN (((1 + i1) + (1 + i2)) + i3), oR b83, oR r92, oR r107, oR r109, oR r111, oI 1, oU, oU] [(.int ((Int32.ofNat (1 + i1)) + (1 : Int32))), (.ref b83), (.ref r109)])
        rw [show ((Int32.ofNat (1 + i1)) + (1 : Int32)) = (Int32.ofNat ((1 + i1) + 1)) from own_add (1 + i1) 1]
        show own_Go p e below KK T113 (mkF m 265 #[oI p1, oI p2, oJ p3, o2, oJ p4, o2, oN i1, oI 1, oI 1, oN i2, oN i3, oI (((Int32.ofNat i1) ||| (8 : Int32)) ||| (16 : Int32)), oN (1 + i1), oN ((1 + i1) + (1 + i2)), oN (((1 + i1) + (1 + i2)) + i3), oR b83, oR r92, oR r107, oR r109, oR r111, oI 1, oU, oU] [(.int (Int32.ofNat ((1 + i1) + 1))), (.ref b83), (.ref r109)])
        refine own_at (fun t k => XS.iload X113.here hx rfl (hb hby at_265) rfl k) ?_
        show own_Go p e below KK T113 (mkF m 267 #[oI p1, oI p2, oJ p3, o2, oJ p4, o2, oN i1, oI 1, oI 1, oN i2, oN i3, oI (((Int32.ofNat i1) ||| (8 : Int32)) ||| (16 : Int32)), oN (1 + i1), oN ((1 + i1) + (1 + i2)), oN (((1 + i1) + (1 + i2)) + i3), oR b83, oR r92, oR r107, oR r109, oR r111, oI 1, oU, oU] [(.int (Int32.ofNat i2)), (.int (Int32.ofNat ((1 + i1) + 1))), (.ref b83), (.ref r109)])
        obtain ⟨_, _, ⟨T114, L114, k114, n114⟩, -, X114, ⟨Lc114, hQ114, l114, y114, z114⟩, st114⟩ := Jvm.LawKit.callS X113 hx (y := (⟨"com/example/isimud/isimud/oscore/OscoreOptionReadPinLaw", "same", "([B[BII)Z"⟩ : MethodName)) hown (mvT hZ (hw _ (List.mem_of_getElem? (i := 69) rfl))) (mvT hZ (hw _ (List.mem_of_getElem? (i := 70) rfl))) (mvT hZ (hw _ (List.mem_of_getElem? (i := 4) rfl))) (mvT hZ (hw _ (List.mem_of_getElem? (i := 71) rfl))) (by decide) (backOf (W := 0) (rm_same l Z a0 hw [] r109 b83 ((1 + i1) + 1) i2 us T111.heap n0 Zs111 (by omega) A110_r109_h111 A91_b83_h111 (by omega) (by omega)) hZ (hw _ (List.mem_of_getElem? (i := 71) rfl)) (hw _ (List.mem_of_getElem? (i := 4) rfl)) (by decide) (by decide)) (g := (mkF m 267 #[oI p1, oI p2, oJ p3, o2, oJ p4, o2, oN i1, oI 1, oI 1, oN i2, oN i3, oI (((Int32.ofNat i1) ||| (8 : Int32)) ||| (16 : Int32)), oN (1 + i1), oN ((1 + i1) + (1 + i2)), oN (((1 + i1) + (1 + i2)) + i3), oR b83, oR r92, oR r107, oR r109, oR r111, oI 1, oU, oU] [(.int (Int32.ofNat i2)), (.int (Int32.ofNat ((1 + i1) + 1))), (.ref b83), (.ref r109)])) rfl (by rw [hml]; rfl) (argsL := [(.ref r109), (.ref b83), (.int (Int32.ofNat ((1 + i1) + 1))), (.int (Int32.ofNat i2))]) (rest := []) (lenOf pd___B_BII_Z rfl) rfl (by show 2 * 0 + _ ≤ _; exact Nat.le_of_eq rfl) (hb hby at_267) (fun _ _ => ⟨rfl, e113, (by decide : 8 + 0 ≤ _), (by decide : 94 + 0 ≤ _)⟩)
        dsimp only [Pt.U, Pt.locs, Pt.cells, Pt.slots] at X114 l114 y114 z114 st114 hQ114
        subst l114 y114 z114
        obtain ⟨rfl, N114q, e114⟩ := hQ114
        have N114 := Fr.app N113 N114q
        refine own_of (fun t k => st114 t k) ?_
        show own_Go p e below KK T114 (mkF m 270 #[oI p1, oI p2, oJ p3, o2, oJ p4, o2, oN i1, oI 1, oI 1, oN i2, oN i3, oI (((Int32.ofNat i1) ||| (8 : Int32)) ||| (16 : Int32)), oN (1 + i1), oN ((1 + i1) + (1 + i2)), oN (((1 + i1) + (1 + i2)) + i3), oR b83, oR r92, oR r107, oR r109, oR r111, oI 1, oU, oU] [(.int 1)])
        refine own_at (fun t k => XS.goto X114.here hx rfl (pc0 := 270) (pc' := 283) rfl (hb hby at_270) (by decide) (by decide) k) ?_
        show own_Go p e below KK T114 (mkF m 283 #[oI p1, oI p2, oJ p3, o2, oJ p4, o2, oN i1, oI 1, oI 1, oN i2, oN i3, oI (((Int32.ofNat i1) ||| (8 : Int32)) ||| (16 : Int32)), oN (1 + i1), oN ((1 + i1) + (1 + i2)), oN (((1 + i1) + (1 + i2)) + i3), oR b83, oR r92, oR r107, oR r109, oR r111, oI 1, oU, oU] [(.int 1)])
        refine own_at (fun t k => XS.istore X114.here hx rfl (hb hby at_283) rfl (l' := #[oI p1, oI p2, oJ p3, o2, oJ p4, o2, oN i1, oI 1, oI 1, oN i2, oN i3, oI (((Int32.ofNat i1) ||| (8 : Int32)) ||| (16 : Int32)), oN (1 + i1), oN ((1 + i1) + (1 + i2)), oN (((1 + i1) + (1 + i2)) + i3), oR b83, oR r92, oR r107, oR r109, oR r111, oI 1, oI 1, oU]) rfl k) ?_
        show own_Go p e below KK T114 (mkF m 285 #[oI p1, oI p2, oJ p3, o2, oJ p4, o2, oN i1, oI 1, oI 1, oN i2, oN i3, oI (((Int32.ofNat i1) ||| (8 : Int32)) ||| (16 : Int32)), oN (1 + i1), oN ((1 + i1) + (1 + i2)), oN (((1 + i1) + (1 + i2)) + i3), oR b83, oR r92, oR r107, oR r109, oR r111, oI 1, oI 1, oU] [])
        refine own_at (fun t k => XS.iload X114.here hx rfl (hb hby at_285) rfl k) ?_
        show own_Go p e below KK T114 (mkF m 287 #[oI p1, oI p2, oJ p3, o2, oJ p4, o2, oN i1, oI 1, oI 1, oN i2, oN i3, oI (((Int32.ofNat i1) ||| (8 : Int32)) ||| (16 : Int32)), oN (1 + i1), oN ((1 + i1) + (1 + i2)), oN (((1 + i1) + (1 + i2)) + i3), oR b83, oR r92, oR r107, oR r109, oR r111, oI 1, oI 1, oU] [(.int 1)])
        have hc287 : ¬ ((1 : Int32) = (0 : Int32)) := by decide
        refine own_at (fun t k => XS.ifNo X114.here hx rfl (hb hby at_287) rfl (Jvm.Free.XT.i0_eq_f hc287) k) ?_
        show own_Go p e below KK T114 (mkF m 290 #[oI p1, oI p2, oJ p3, o2, oJ p4, o2, oN i1, oI 1, oI 1, oN i2, oN i3, oI (((Int32.ofNat i1) ||| (8 : Int32)) ||| (16 : Int32)), oN (1 + i1), oN ((1 + i1) + (1 + i2)), oN (((1 + i1) + (1 + i2)) + i3), oR b83, oR r92, oR r107, oR r109, oR r111, oI 1, oI 1, oU] [])
        refine own_at (fun t k => XS.aload X114.here hx rfl (hb hby at_290) rfl rfl k) ?_
        show own_Go p e below KK T114 (mkF m 292 #[oI p1, oI p2, oJ p3, o2, oJ p4, o2, oN i1, oI 1, oI 1, oN i2, oN i3, oI (((Int32.ofNat i1) ||| (8 : Int32)) ||| (16 : Int32)), oN (1 + i1), oN ((1 + i1) + (1 + i2)), oN (((1 + i1) + (1 + i2)) + i3), oR b83, oR r92, oR r107, oR r109, oR r111, oI 1, oI 1, oU] [(.ref r111)])
        refine own_at (fun t k => XS.aload X114.here hx rfl (hb hby at_292) rfl rfl k) ?_
        show own_Go p e below KK T114 (mkF m 294 #[oI p1, oI p2, oJ p3, o2, oJ p4, o2, oN i1, oI 1, oI 1, oN i2, oN i3, oI (((Int32.ofNat i1) ||| (8 : Int32)) ||| (16 : Int32)), oN (1 + i1), oN ((1 + i1) + (1 + i2)), oN (((1 + i1) + (1 + i2)) + i3), oR b83, oR r92, oR r107, oR r109, oR r111, oI 1, oI 1, oU] [(.ref b83), (.ref r111)])
        refine own_at (fun t k => XS.iload X114.here hx rfl (hb hby at_294) rfl k) ?_
        show own_Go p e below KK T114 (mkF m 296 #[oI p1, oI p2, oJ p3, o2, oJ p4, o2, oN i1, oI 1, oI 1, oN i2, oN i3, oI (((Int32.ofNat i1) ||| (8 : Int32)) ||| (16 : Int32)), oN (1 + i1), oN ((1 + i1) + (1 + i2)), oN (((1 + i1) + (1 + i2)) + i3), oR b83, oR r92, oR r107, oR r109, oR r111, oI 1, oI 1, oU] [(.int (Int32.ofNat ((1 + i1) + (1 + i2)))), (.ref b83), (.ref r111)])
        refine own_at (fun t k => XS.iload X114.here hx rfl (hb hby at_296) rfl k) ?_
        show own_Go p e below KK T114 (mkF m 298 #[oI p1, oI p2, oJ p3, o2, oJ p4, o2, oN i1, oI 1, oI 1, oN i2, oN i3, oI (((Int32.ofNat i1) ||| (8 : Int32)) ||| (16 : Int32)), oN (1 + i1), oN ((1 + i1) + (1 + i2)), oN (((1 + i1) + (1 + i2)) + i3), oR b83, oR r92, oR r107, oR r109, oR r111, oI 1, oI 1, oU] [(.int (Int32.ofNat i3)), (.int (Int32.ofNat ((1 + i1) + (1 + i2)))), (.ref b83), (.ref r111)])
        obtain ⟨_, _, ⟨T115, L115, k115, n115⟩, -, X115, ⟨Lc115, hQ115, l115, y115, z115⟩, st115⟩ := Jvm.LawKit.callS X114 hx (y := (⟨"com/example/isimud/isimud/oscore/OscoreOptionReadPinLaw", "same", "([B[BII)Z"⟩ : MethodName)) hown (mvT hZ (hw _ (List.mem_of_getElem? (i := 69) rfl))) (mvT hZ (hw _ (List.mem_of_getElem? (i := 70) rfl))) (mvT hZ (hw _ (List.mem_of_getElem? (i := 4) rfl))) (mvT hZ (hw _ (List.mem_of_getElem? (i := 71) rfl))) (by decide) (backOf (W := 0) (rm_same l Z a0 hw [] r111 b83 ((1 + i1) + (1 + i2)) i3 us T111.heap n0 Zs111 (by omega) (by rw [show i3 = us.length - ((1 + i1) + (1 + i2)) from by omega]; exact A112_r111) A91_b83_h111 (by omega) (by omega)) hZ (hw _ (List.mem_of_getElem? (i := 71) rfl)) (hw _ (List.mem_of_getElem? (i := 4) rfl)) (by decide) (by decide)) (g := (mkF m 298 #[oI p1, oI p2, oJ p3, o2, oJ p4, o2, oN i1, oI 1, oI 1, oN i2, oN i3, oI (((Int32.ofNat i1) ||| (8 : Int32)) ||| (16 : Int32)), oN (1 + i1), oN ((1 + i1) + (1 + i2)), oN (((1 + i1) + (1 + i2)) + i3), oR b83, oR r92, oR r107, oR r109, oR r111, oI 1, oI 1, oU] [(.int (Int32.ofNat i3)), (.int (Int32.ofNat ((1 + i1) + (1 + i2)))), (.ref b83), (.ref r111)])) rfl (by rw [hml]; rfl) (argsL := [(.ref r111), (.ref b83), (.int (Int32.ofNat ((1 + i1) + (1 + i2)))), (.int (Int32.ofNat i3))]) (rest := []) (lenOf pd___B_BII_Z rfl) rfl (by show 2 * 0 + _ ≤ _; exact Nat.le_of_eq rfl) (hb hby at_298) (fun _ _ => ⟨rfl, e114, (by decide : 8 + 0 ≤ _), (by decide : 94 + 0 ≤ _)⟩)
        dsimp only [Pt.U, Pt.locs, Pt.cells, Pt.slots] at X115 l115 y115 z115 st115 hQ115
        subst l115 y115 z115
        obtain ⟨rfl, N115q, e115⟩ := hQ115
        have N115 := Fr.app N114 N115q
        refine own_of (fun t k => st115 t k) ?_
        show own_Go p e below KK T115 (mkF m 301 #[oI p1, oI p2, oJ p3, o2, oJ p4, o2, oN i1, oI 1, oI 1, oN i2, oN i3, oI (((Int32.ofNat i1) ||| (8 : Int32)) ||| (16 : Int32)), oN (1 + i1), oN ((1 + i1) + (1 + i2)), oN (((1 + i1) + (1 + i2)) + i3), oR b83, oR r92, oR r107, oR r109, oR r111, oI 1, oI 1, oU] [(.int 1)])
        refine own_at (fun t k => XS.goto X115.here hx rfl (pc0 := 301) (pc' := 314) rfl (hb hby at_301) (by decide) (by decide) k) ?_
        show own_Go p e below KK T115 (mkF m 314 #[oI p1, oI p2, oJ p3, o2, oJ p4, o2, oN i1, oI 1, oI 1, oN i2, oN i3, oI (((Int32.ofNat i1) ||| (8 : Int32)) ||| (16 : Int32)), oN (1 + i1), oN ((1 + i1) + (1 + i2)), oN (((1 + i1) + (1 + i2)) + i3), oR b83, oR r92, oR r107, oR r109, oR r111, oI 1, oI 1, oU] [(.int 1)])
        refine own_at (fun t k => XS.istore X115.here hx rfl (hb hby at_314) rfl (l' := #[oI p1, oI p2, oJ p3, o2, oJ p4, o2, oN i1, oI 1, oI 1, oN i2, oN i3, oI (((Int32.ofNat i1) ||| (8 : Int32)) ||| (16 : Int32)), oN (1 + i1), oN ((1 + i1) + (1 + i2)), oN (((1 + i1) + (1 + i2)) + i3), oR b83, oR r92, oR r107, oR r109, oR r111, oI 1, oI 1, oI 1]) rfl k) ?_
        show own_Go p e below KK T115 (mkF m 316 #[oI p1, oI p2, oJ p3, o2, oJ p4, o2, oN i1, oI 1, oI 1, oN i2, oN i3, oI (((Int32.ofNat i1) ||| (8 : Int32)) ||| (16 : Int32)), oN (1 + i1), oN ((1 + i1) + (1 + i2)), oN (((1 + i1) + (1 + i2)) + i3), oR b83, oR r92, oR r107, oR r109, oR r111, oI 1, oI 1, oI 1] [])
        refine own_at (fun t k => XS.iload X115.here hx rfl (hb hby at_316) rfl k) ?_
        show own_Go p e below KK T115 (mkF m 318 #[oI p1, oI p2, oJ p3, o2, oJ p4, o2, oN i1, oI 1, oI 1, oN i2, oN i3, oI (((Int32.ofNat i1) ||| (8 : Int32)) ||| (16 : Int32)), oN (1 + i1), oN ((1 + i1) + (1 + i2)), oN (((1 + i1) + (1 + i2)) + i3), oR b83, oR r92, oR r107, oR r109, oR r111, oI 1, oI 1, oI 1] [(.int 1)])
        have hc318 : ¬ ((1 : Int32) = (0 : Int32)) := by decide
        refine own_at (fun t k => XS.ifNo X115.here hx rfl (hb hby at_318) rfl (Jvm.Free.XT.i0_eq_f hc318) k) ?_
        show own_Go p e below KK T115 (mkF m 321 #[oI p1, oI p2, oJ p3, o2, oJ p4, o2, oN i1, oI 1, oI 1, oN i2, oN i3, oI (((Int32.ofNat i1) ||| (8 : Int32)) ||| (16 : Int32)), oN (1 + i1), oN ((1 + i1) + (1 + i2)), oN (((1 + i1) + (1 + i2)) + i3), oR b83, oR r92, oR r107, oR r109, oR r111, oI 1, oI 1, oI 1] [])
        refine own_at (fun t k => XS.iload X115.here hx rfl (hb hby at_321) rfl k) ?_
        show own_Go p e below KK T115 (mkF m 323 #[oI p1, oI p2, oJ p3, o2, oJ p4, o2, oN i1, oI 1, oI 1, oN i2, oN i3, oI (((Int32.ofNat i1) ||| (8 : Int32)) ||| (16 : Int32)), oN (1 + i1), oN ((1 + i1) + (1 + i2)), oN (((1 + i1) + (1 + i2)) + i3), oR b83, oR r92, oR r107, oR r109, oR r111, oI 1, oI 1, oI 1] [(.int 1)])
        have hc323 : ¬ ((1 : Int32) = (0 : Int32)) := by decide
        refine own_at (fun t k => XS.ifNo X115.here hx rfl (hb hby at_323) rfl (Jvm.Free.XT.i0_eq_f hc323) k) ?_
        show own_Go p e below KK T115 (mkF m 326 #[oI p1, oI p2, oJ p3, o2, oJ p4, o2, oN i1, oI 1, oI 1, oN i2, oN i3, oI (((Int32.ofNat i1) ||| (8 : Int32)) ||| (16 : Int32)), oN (1 + i1), oN ((1 + i1) + (1 + i2)), oN (((1 + i1) + (1 + i2)) + i3), oR b83, oR r92, oR r107, oR r109, oR r111, oI 1, oI 1, oI 1] [])
        refine own_at (fun t k => XS.iload X115.here hx rfl (hb hby at_326) rfl k) ?_
        show own_Go p e below KK T115 (mkF m 328 #[oI p1, oI p2, oJ p3, o2, oJ p4, o2, oN i1, oI 1, oI 1, oN i2, oN i3, oI (((Int32.ofNat i1) ||| (8 : Int32)) ||| (16 : Int32)), oN (1 + i1), oN ((1 + i1) + (1 + i2)), oN (((1 + i1) + (1 + i2)) + i3), oR b83, oR r92, oR r107, oR r109, oR r111, oI 1, oI 1, oI 1] [(.int 1)])
        have hc328 : ¬ ((1 : Int32) = (0 : Int32)) := by decide
        refine own_at (fun t k => XS.ifNo X115.here hx rfl (hb hby at_328) rfl (Jvm.Free.XT.i0_eq_f hc328) k) ?_
        show own_Go p e below KK T115 (mkF m 331 #[oI p1, oI p2, oJ p3, o2, oJ p4, o2, oN i1, oI 1, oI 1, oN i2, oN i3, oI (((Int32.ofNat i1) ||| (8 : Int32)) ||| (16 : Int32)), oN (1 + i1), oN ((1 + i1) + (1 + i2)), oN (((1 + i1) + (1 + i2)) + i3), oR b83, oR r92, oR r107, oR r109, oR r111, oI 1, oI 1, oI 1] [])
        refine own_at (fun t k => XS.iconst X115.here hx rfl (hb hby at_331) k) ?_
        show own_Go p e below KK T115 (mkF m 332 #[oI p1, oI p2, oJ p3, o2, oJ p4, o2, oN i1, oI 1, oI 1, oN i2, oN i3, oI (((Int32.ofNat i1) ||| (8 : Int32)) ||| (16 : Int32)), oN (1 + i1), oN ((1 + i1) + (1 + i2)), oN (((1 + i1) + (1 + i2)) + i3), oR b83, oR r92, oR r107, oR r109, oR r111, oI 1, oI 1, oI 1] [(.int 1)])
        refine own_at (fun t k => XS.goto X115.here hx rfl (pc0 := 332) (pc' := 336) rfl (hb hby at_332) (by decide) (by decide) k) ?_
        show own_Go p e below KK T115 (mkF m 336 #[oI p1, oI p2, oJ p3, o2, oJ p4, o2, oN i1, oI 1, oI 1, oN i2, oN i3, oI (((Int32.ofNat i1) ||| (8 : Int32)) ||| (16 : Int32)), oN (1 + i1), oN ((1 + i1) + (1 + i2)), oN (((1 + i1) + (1 + i2)) + i3), oR b83, oR r92, oR r107, oR r109, oR r111, oI 1, oI 1, oI 1] [(.int 1)])
        subst hKK
        exact own_retN X115 hx hlk (t := .boolean) Bd.returns (by simp) (hb hby at_336) (w := (1 : Int32)) (show nar .boolean (1 : Int32) = 1 from by decide) ⟨rfl, N115⟩ (Nat.le_of_ble_eq_true rfl) (Nat.le_of_ble_eq_true rfl)
set_option maxRecDepth 65536 in
set_option maxHeartbeats 40000000 in
theorem comes_1 {Post : Tables → Env → Array Value → State → Outcome → State → Prop} (hpost : ∀ tb e args s v u, (limb_1_1.after args s (.returned v) u = true ∧ limb_1_2.after args s (.returned v) u = true ∧ True) → FrameEnd s (.returned v) u (Jvm.fieldLocs frame_1_writes args s ++ Jvm.arrayLocs frame_1_arrays args s ++ Jvm.staticLocs frame_1_statics s) 24 192 → Post tb e args s (.returned v) u) :
    ArmFor flags0 classFile x code maxLocals ret World_1 tables_1 room_1 Calls_1 rest_1 Pre_1 Post := by
  intro l hfl _ _ p e ha hc hk s m args below hf hA hF happ hP
  obtain ⟨hcalls, hrest, hpre⟩ := hP
  obtain ⟨-, -, -, hnamed, -, -, -, hat⟩ := (Spec.applies_iff hf).mp happ
  obtain ⟨hg, hn⟩ := and_e (Cond.before_iff.mp (show (Jvm.Cond.and given_1 narrow_1).before args s = true from hpre))
  obtain ⟨gc, g0⟩ := and_e hg
  obtain ⟨u0, g1⟩ := and_e g0
  obtain ⟨u1, g2⟩ := and_e g1
  obtain ⟨u2, g3⟩ := and_e g2
  obtain ⟨w0, w1, w2, w3, rfl⟩ : ∃ w0 w1 w2 w3 : Value, args = #[w0, w1, w2, w3] := by
    have hs : args.size = 4 := by simpa [Cond.value, given_1] using gc
    obtain ⟨L⟩ := args
    match L, hs with
    | [w0, w1, w2, w3], _ => exact ⟨w0, w1, w2, w3, rfl⟩
  have hw := fun d (hd : d ∈ tables_1) => atoms_spec (ws := Jvm.Cond.code x code maxLocals ret :: tables_1) hat d (List.mem_cons_of_mem _ hd)
  obtain ⟨i0, ei0⟩ := is_v u0
  obtain rfl : w0 = (.int i0) := Option.some.inj ei0
  obtain ⟨i1, ei1⟩ := is_v u1
  obtain rfl : w1 = (.int i1) := Option.some.inj ei1
  obtain ⟨i2, ei2⟩ := isL_v u2
  obtain rfl : w2 = (.long i2) := Option.some.inj ei2
  obtain ⟨i3, ei3⟩ := isL_v g3
  obtain rfl : w3 = (.long i3) := Option.some.inj ei3
  obtain ⟨n, o, h1, h2, h3, _, L, rfl, ⟨rfl, N⟩, hq⟩ := rm_law l s _ hw tables_1 i0 i1 i2 i3 s.heap s.heap.size (Nat.le_refl _) p e ha hc hk s m _ below hf ((Spec.applies_iff_loose hf).mp happ).1 ⟨rfl, State.Warmed39.refl s, rfl⟩ trivial
  refine ⟨n, _, h1, h2, h3, hpost _ _ _ _ _ _ ⟨Cond.after_iff.mpr rfl, Cond.after_iff.mpr (eq_i res_at (Term.int_eval (1)) rfl), trivial⟩ ⟨hq.1, hq.2.1, (hq.2.2.sift fun y hy => Or.inr (N y hy)).mono (by decide) (by decide)⟩⟩
theorem main_1_1 : Claimed_1_1 := comes_1 fun _ _ _ _ _ _ h hF => ⟨h.1, hF⟩
theorem main_1_2 : Claimed_1_2 := comes_1 fun _ _ _ _ _ _ h hF => ⟨h.2.1, hF⟩
end Jvm.Pilot.@@N@@
namespace Jvm.Pilot.@@N@@
open Jvm Jvm.ClassFile Sem Op Lib Jvm.Free Jvm.Stand Jvm.Pilot.@@N@@.Jvm.D
/-! MADE BY PROGRAM (witnessworld.py) out of the Statement's table words and the real class files: 12 classes; the members and pool entries that the words name. The judged class is class 1, her method 1. -/
namespace start1
open Jvm.ClassFile
def u (s : String) : CpInfo := .utf8 (stringToUtf16 s)
/-- a pool by its gaps: so many unusable entries, then the entry; so many at the end -/
def gap : Nat → List CpInfo → List CpInfo
  | 0, r => r
  | n + 1, r => .unusable :: gap n r
def poolList (es : List (Nat × CpInfo)) (last : Nat) : List CpInfo := es.foldr (fun e r => gap e.1 (e.2 :: r)) (gap last [])
def pool (es : List (Nat × CpInfo)) (last : Nat) : Array CpInfo := ⟨poolList es last⟩
def fileOf (pool : Array CpInfo) (this : Nat) (attrs : Array Attribute := #[]) (ms : Array MethodInfo := #[]) (fl : Nat := 33) (sup : Nat := 0) (ifs : Array Nat := #[]) (fds : Array FieldInfo := #[]) : ClassFile where
  minorVersion := 0
  majorVersion := 65
  constantPool := pool
  accessFlags := fl
  thisClass := this
  superClass := sup
  interfaces := ifs
  fields := fds
  methods := ms
  attributes := attrs
def plain (name : String) (sup : Option ClassId) : Class where
  name := name
  kind := .ordinary
  loader := none
  accessFlags := 33
  super := sup
  interfaces := #[]
  cf := none
  fields := #[]
  methods := #[]
  instanceTypes := #[]
  staticTypes := #[]
  resolved := #[]
  callSites := []
  init := .initialized
  statics := none
  mirror := none

def pool0 : Array CpInfo := pool [(5, u "<init>"), (0, u "()V"), (1, .class_ 10), (1, u "java/lang/Object"), (85, u "clone"), (0, u "()Ljava/lang/Object;")] 26

def k0c0 : Code := { maxStack := 0, maxLocals := 1, code := object_method_1_code, exceptionTable := #[], attributes := #[] }
def k0m0 : Method := { name := "<init>", desc := "()V", sig := { parameters := [], returnType := none }, accessFlags := 1, code := some k0c0 }
def k0m1 : Method := { name := "clone", desc := "()Ljava/lang/Object;", sig := { parameters := [], returnType := some (.object "java/lang/Object") }, accessFlags := 260, code := none }
/-- java/lang/Object -/
def k0 : Class := { plain "java/lang/Object" none with
  accessFlags := 33
  interfaces := #[]
  cf := some (fileOf pool0 8 #[] #[{ accessFlags := 1, nameIndex := 5, descriptorIndex := 6, attributes := #[] }, { accessFlags := 260, nameIndex := 96, descriptorIndex := 97, attributes := #[] }] 33 0 #[] #[])
  fields := #[]
  methods := #[k0m0, k0m1]
  instanceTypes := #[]
  staticTypes := #[]
  resolved := Array.replicate 124 none
  statics := none }

def pool1 : Array CpInfo := pool [(2, .class_ 4), (1, u "java/lang/Object"), (0, u "<init>"), (0, u "()V"), (0, .integer 2147483647), (0, .methodref 9 10), (0, .class_ 11), (0, .nameAndType 12 13), (0, u "com/example/isimud/isimud/oscore/OscoreOption"), (0, u "read"), (0, u "([B)Lcom/example/isimud/isimud/oscore/OscoreOption;"), (0, .methodref 9 15), (0, .nameAndType 16 17), (0, u "partialIv"), (0, u "()[B"), (0, .methodref 9 19), (0, .nameAndType 20 17), (0, u "kidContext"), (0, .methodref 9 22), (0, .nameAndType 23 17), (0, u "kid"), (0, .methodref 25 26), (0, .class_ 27), (0, .nameAndType 28 29), (0, u "com/example/isimud/isimud/oscore/OscoreOptionReadPinLaw"), (0, u "fill"), (0, u "([BJJ)V"), (0, .methodref 25 31), (0, .nameAndType 32 33), (0, u "same"), (0, u "([B[BII)Z"), (2, u "law"), (0, u "(IIJJ)Z")] 5

def k1m0 : Method := { name := "<init>", desc := "()V", sig := { parameters := [], returnType := none }, accessFlags := 1, code := none }
def k1c1 : Code := { maxStack := 5, maxLocals := 23, code := code, exceptionTable := #[], attributes := #[] }
def k1m1 : Method := { name := "law", desc := "(IIJJ)Z", sig := { parameters := [.int, .int, .long, .long], returnType := some .boolean }, accessFlags := 9, code := some k1c1 }
def k1c2 : Code := { maxStack := 5, maxLocals := 6, code := method_3_code, exceptionTable := #[], attributes := #[] }
def k1m2 : Method := { name := "fill", desc := "([BJJ)V", sig := { parameters := [(.array .byte), .long, .long], returnType := none }, accessFlags := 10, code := some k1c2 }
def k1c3 : Code := { maxStack := 4, maxLocals := 4, code := method_4_code, exceptionTable := #[], attributes := #[] }
def k1m3 : Method := { name := "same", desc := "([B[BII)Z", sig := { parameters := [(.array .byte), (.array .byte), .int, .int], returnType := some .boolean }, accessFlags := 10, code := some k1c3 }
/-- com/example/isimud/isimud/oscore/OscoreOptionReadPinLaw -/
def k1 : Class := { plain "com/example/isimud/isimud/oscore/OscoreOptionReadPinLaw" (some 0) with
  accessFlags := 49
  interfaces := #[]
  cf := some (fileOf pool1 25 #[] #[{ accessFlags := 1, nameIndex := 5, descriptorIndex := 6, attributes := #[] }, { accessFlags := 9, nameIndex := 36, descriptorIndex := 37, attributes := #[] }, { accessFlags := 10, nameIndex := 28, descriptorIndex := 29, attributes := #[] }, { accessFlags := 10, nameIndex := 32, descriptorIndex := 33, attributes := #[] }] 49 2 #[] #[])
  fields := #[]
  methods := #[k1m0, k1m1, k1m2, k1m3]
  instanceTypes := #[]
  staticTypes := #[]
  resolved := Array.replicate 43 none
  statics := none }

def pool2 : Array CpInfo := pool [(1, .methodref 2 3), (0, .class_ 4), (0, .nameAndType 5 6), (0, u "java/lang/Object"), (0, u "<init>"), (0, u "()V"), (0, .fieldref 8 9), (0, .class_ 10), (0, .nameAndType 11 12), (0, u "com/example/isimud/isimud/oscore/OscoreOption"), (0, u "partialIv"), (0, u "[B"), (0, .fieldref 8 14), (0, .nameAndType 15 12), (0, u "kidContext"), (0, .fieldref 8 17), (0, .nameAndType 18 12), (0, u "kid"), (0, .methodref 20 21), (0, .class_ 12), (0, .nameAndType 22 23), (0, u "clone"), (0, u "()Ljava/lang/Object;"), (0, .methodref 8 25), (0, .nameAndType 5 26), (0, u "([B[B[B)V"), (0, .methodref 8 28), (0, .nameAndType 29 30), (0, u "ofResponse"), (0, u "()Lcom/example/isimud/isimud/oscore/OscoreOption;"), (23, .methodref 8 55), (0, .nameAndType 56 57), (0, u "part"), (0, u "([BII)[B"), (0, .methodref 59 60), (0, .class_ 61), (0, .nameAndType 62 57), (0, u "java/util/Arrays"), (0, u "copyOfRange"), (11, u "PARTIAL_IV_LENGTH"), (0, u "I"), (2, u "HAS_KID"), (1, u "HAS_KID_CONTEXT"), (1, u "RESERVED"), (1, u "MAX_PARTIAL_IV_BYTES"), (5, u "read"), (0, u "([B)Lcom/example/isimud/isimud/oscore/OscoreOption;"), (1, u "()[B")] 20

def k2c0 : Code := { maxStack := 2, maxLocals := 4, code := prog_18_method_1_code, exceptionTable := #[], attributes := #[] }
def k2m0 : Method := { name := "<init>", desc := "([B[B[B)V", sig := { parameters := [(.array .byte), (.array .byte), (.array .byte)], returnType := none }, accessFlags := 2, code := some k2c0 }
def k2c1 : Code := { maxStack := 5, maxLocals := 0, code := prog_18_method_3_code, exceptionTable := #[], attributes := #[] }
def k2m1 : Method := { name := "ofResponse", desc := "()Lcom/example/isimud/isimud/oscore/OscoreOption;", sig := { parameters := [], returnType := some (.object "com/example/isimud/isimud/oscore/OscoreOption") }, accessFlags := 8, code := some k2c1 }
def k2c2 : Code := { maxStack := 7, maxLocals := 7, code := prog_18_method_4_code, exceptionTable := #[], attributes := #[] }
def k2m2 : Method := { name := "read", desc := "([B)Lcom/example/isimud/isimud/oscore/OscoreOption;", sig := { parameters := [(.array .byte)], returnType := some (.object "com/example/isimud/isimud/oscore/OscoreOption") }, accessFlags := 8, code := some k2c2 }
def k2c3 : Code := { maxStack := 1, maxLocals := 1, code := prog_18_method_5_code, exceptionTable := #[], attributes := #[] }
def k2m3 : Method := { name := "partialIv", desc := "()[B", sig := { parameters := [], returnType := some (.array .byte) }, accessFlags := 0, code := some k2c3 }
def k2c4 : Code := { maxStack := 1, maxLocals := 1, code := prog_18_method_6_code, exceptionTable := #[], attributes := #[] }
def k2m4 : Method := { name := "kidContext", desc := "()[B", sig := { parameters := [], returnType := some (.array .byte) }, accessFlags := 0, code := some k2c4 }
def k2c5 : Code := { maxStack := 1, maxLocals := 1, code := prog_18_method_7_code, exceptionTable := #[], attributes := #[] }
def k2m5 : Method := { name := "kid", desc := "()[B", sig := { parameters := [], returnType := some (.array .byte) }, accessFlags := 0, code := some k2c5 }
def k2c6 : Code := { maxStack := 4, maxLocals := 3, code := prog_18_method_9_code, exceptionTable := #[], attributes := #[] }
def k2m6 : Method := { name := "part", desc := "([BII)[B", sig := { parameters := [(.array .byte), .int, .int], returnType := some (.array .byte) }, accessFlags := 10, code := some k2c6 }
/-- com/example/isimud/isimud/oscore/OscoreOption -/
def k2 : Class := { plain "com/example/isimud/isimud/oscore/OscoreOption" (some 0) with
  accessFlags := 48
  interfaces := #[]
  cf := some (fileOf pool2 8 #[] #[{ accessFlags := 2, nameIndex := 5, descriptorIndex := 26, attributes := #[] }, { accessFlags := 8, nameIndex := 29, descriptorIndex := 30, attributes := #[] }, { accessFlags := 8, nameIndex := 90, descriptorIndex := 91, attributes := #[] }, { accessFlags := 0, nameIndex := 11, descriptorIndex := 93, attributes := #[] }, { accessFlags := 0, nameIndex := 15, descriptorIndex := 93, attributes := #[] }, { accessFlags := 0, nameIndex := 18, descriptorIndex := 93, attributes := #[] }, { accessFlags := 10, nameIndex := 56, descriptorIndex := 57, attributes := #[] }] 48 2 #[] #[{ accessFlags := 26, nameIndex := 74, descriptorIndex := 75, attributes := #[] }, { accessFlags := 26, nameIndex := 78, descriptorIndex := 75, attributes := #[] }, { accessFlags := 26, nameIndex := 80, descriptorIndex := 75, attributes := #[] }, { accessFlags := 26, nameIndex := 82, descriptorIndex := 75, attributes := #[] }, { accessFlags := 26, nameIndex := 84, descriptorIndex := 75, attributes := #[] }, { accessFlags := 18, nameIndex := 11, descriptorIndex := 12, attributes := #[] }, { accessFlags := 18, nameIndex := 15, descriptorIndex := 12, attributes := #[] }, { accessFlags := 18, nameIndex := 18, descriptorIndex := 12, attributes := #[] }])
  fields := #[{ name := "PARTIAL_IV_LENGTH", type := .int, accessFlags := 26, slot := 0, constantValue := 0 }, { name := "HAS_KID", type := .int, accessFlags := 26, slot := 1, constantValue := 0 }, { name := "HAS_KID_CONTEXT", type := .int, accessFlags := 26, slot := 2, constantValue := 0 }, { name := "RESERVED", type := .int, accessFlags := 26, slot := 3, constantValue := 0 }, { name := "MAX_PARTIAL_IV_BYTES", type := .int, accessFlags := 26, slot := 4, constantValue := 0 }, { name := "partialIv", type := (.array .byte), accessFlags := 18, slot := 0, constantValue := 0 }, { name := "kidContext", type := (.array .byte), accessFlags := 18, slot := 1, constantValue := 0 }, { name := "kid", type := (.array .byte), accessFlags := 18, slot := 2, constantValue := 0 }]
  methods := #[k2m0, k2m1, k2m2, k2m3, k2m4, k2m5, k2m6]
  instanceTypes := #[(.array .byte), (.array .byte), (.array .byte)]
  staticTypes := #[.int, .int, .int, .int, .int]
  resolved := Array.replicate 114 none
  statics := none }

def pool3 : Array CpInfo := pool [(2, .class_ 4), (1, u "java/lang/Object"), (0, u "<init>"), (0, u "()V"), (7, .class_ 16), (1, u "java/util/Arrays"), (57, .class_ 76), (1, u "java/util/Arrays$NaturalOrder"), (36, .class_ 115), (1, u "java/util/Arrays$LegacyMergeSort"), (1, u "Z"), (21, u "copyOfRange"), (10, .methodref 151 152), (0, .class_ 153), (0, .nameAndType 154 155), (0, u "java/lang/System"), (0, u "arraycopy"), (0, u "(Ljava/lang/Object;ILjava/lang/Object;II)V"), (148, .methodref 305 306), (0, .class_ 307), (0, .nameAndType 308 309), (0, u "java/lang/Math"), (0, u "min"), (0, u "(II)I"), (29, .methodref 14 340), (0, .nameAndType 341 342), (0, u "copyOfRangeByte"), (0, u "([BII)[B"), (0, .methodref 14 344), (0, .nameAndType 345 346), (0, u "checkLength"), (0, u "(II)V"), (28, .class_ 376), (0, u "java/util/Arrays$ArrayList"), (68, u "$assertionsDisabled"), (269, u "MIN_ARRAY_SORT_GRAN"), (0, u "I"), (2, u "INSERTIONSORT_THRESHOLD"), (255, .class_ 976), (0, u "java/util/Arrays$ArrayItr")] 52

def k3m0 : Method := { name := "<init>", desc := "()V", sig := { parameters := [], returnType := none }, accessFlags := 2, code := none }
def k3c1 : Code := { maxStack := 4, maxLocals := 2, code := jdk_65_method_131_code, exceptionTable := #[], attributes := #[] }
def k3m1 : Method := { name := "checkLength", desc := "(II)V", sig := { parameters := [.int, .int], returnType := none }, accessFlags := 10, code := some k3c1 }
def k3c2 : Code := { maxStack := 3, maxLocals := 3, code := jdk_65_method_132_code, exceptionTable := #[], attributes := #[] }
def k3m2 : Method := { name := "copyOfRange", desc := "([BII)[B", sig := { parameters := [(.array .byte), .int, .int], returnType := some (.array .byte) }, accessFlags := 9, code := some k3c2 }
def k3c3 : Code := { maxStack := 6, maxLocals := 5, code := jdk_65_method_133_code, exceptionTable := #[], attributes := #[] }
def k3m3 : Method := { name := "copyOfRangeByte", desc := "([BII)[B", sig := { parameters := [(.array .byte), .int, .int], returnType := some (.array .byte) }, accessFlags := 10, code := some k3c3 }
/-- java/util/Arrays -/
def k3 : Class := { plain "java/util/Arrays" (some 0) with
  accessFlags := 49
  interfaces := #[]
  cf := some (fileOf pool3 14 #[.nestMembers #[975, 375, 113, 74]] #[{ accessFlags := 2, nameIndex := 5, descriptorIndex := 6, attributes := #[] }, { accessFlags := 10, nameIndex := 345, descriptorIndex := 346, attributes := #[] }, { accessFlags := 9, nameIndex := 139, descriptorIndex := 342, attributes := #[] }, { accessFlags := 10, nameIndex := 341, descriptorIndex := 342, attributes := #[] }] 49 2 #[] #[{ accessFlags := 26, nameIndex := 715, descriptorIndex := 716, attributes := #[] }, { accessFlags := 26, nameIndex := 719, descriptorIndex := 716, attributes := #[] }, { accessFlags := 4120, nameIndex := 445, descriptorIndex := 117, attributes := #[] }])
  fields := #[{ name := "MIN_ARRAY_SORT_GRAN", type := .int, accessFlags := 26, slot := 0, constantValue := 0 }, { name := "INSERTIONSORT_THRESHOLD", type := .int, accessFlags := 26, slot := 1, constantValue := 0 }, { name := "$assertionsDisabled", type := .boolean, accessFlags := 4120, slot := 2, constantValue := 0 }]
  methods := #[k3m0, k3m1, k3m2, k3m3]
  instanceTypes := #[]
  staticTypes := #[.int, .int, .boolean]
  resolved := Array.replicate 1029 none
  statics := none }

def pool4 : Array CpInfo := pool [(1, .class_ 2), (0, u "java/lang/Math"), (1, .class_ 6), (1, u "java/lang/Object"), (0, u "<init>"), (0, u "()V"), (89, .class_ 100), (1, u "java/lang/Math$RandomNumberGeneratorHolder"), (71, u "negativeZeroFloatBits"), (0, u "J"), (2, u "negativeZeroDoubleBits"), (24, u "min"), (43, u "$assertionsDisabled"), (0, u "Z"), (88, u "(II)I"), (2, u "twoToTheDoubleScaleDown"), (0, u "D"), (4, u "twoToTheDoubleScaleUp"), (9, u "E"), (3, u "PI"), (2, u "TAU"), (2, u "DEGREES_TO_RADIANS"), (0, u "RADIANS_TO_DEGREES")] 94

def k4m0 : Method := { name := "<init>", desc := "()V", sig := { parameters := [], returnType := none }, accessFlags := 2, code := none }
def k4c1 : Code := { maxStack := 2, maxLocals := 2, code := jdk_29_method_69_code, exceptionTable := #[], attributes := #[] }
def k4m1 : Method := { name := "min", desc := "(II)I", sig := { parameters := [.int, .int], returnType := some .int }, accessFlags := 9, code := some k4c1 }
/-- java/lang/Math -/
def k4 : Class := { plain "java/lang/Math" (some 0) with
  accessFlags := 49
  interfaces := #[]
  cf := some (fileOf pool4 1 #[.nestMembers #[98]] #[{ accessFlags := 2, nameIndex := 7, descriptorIndex := 8, attributes := #[] }, { accessFlags := 9, nameIndex := 201, descriptorIndex := 335, attributes := #[] }] 49 4 #[] #[{ accessFlags := 25, nameIndex := 354, descriptorIndex := 339, attributes := #[] }, { accessFlags := 25, nameIndex := 358, descriptorIndex := 339, attributes := #[] }, { accessFlags := 25, nameIndex := 361, descriptorIndex := 339, attributes := #[] }, { accessFlags := 26, nameIndex := 364, descriptorIndex := 339, attributes := #[] }, { accessFlags := 26, nameIndex := 365, descriptorIndex := 339, attributes := #[] }, { accessFlags := 26, nameIndex := 172, descriptorIndex := 173, attributes := #[] }, { accessFlags := 26, nameIndex := 176, descriptorIndex := 173, attributes := #[] }, { accessFlags := 8, nameIndex := 344, descriptorIndex := 339, attributes := #[] }, { accessFlags := 8, nameIndex := 338, descriptorIndex := 339, attributes := #[] }, { accessFlags := 4120, nameIndex := 245, descriptorIndex := 246, attributes := #[] }])
  fields := #[{ name := "E", type := .double, accessFlags := 25, slot := 0, constantValue := 0 }, { name := "PI", type := .double, accessFlags := 25, slot := 1, constantValue := 0 }, { name := "TAU", type := .double, accessFlags := 25, slot := 2, constantValue := 0 }, { name := "DEGREES_TO_RADIANS", type := .double, accessFlags := 26, slot := 3, constantValue := 0 }, { name := "RADIANS_TO_DEGREES", type := .double, accessFlags := 26, slot := 4, constantValue := 0 }, { name := "negativeZeroFloatBits", type := .long, accessFlags := 26, slot := 5, constantValue := 0 }, { name := "negativeZeroDoubleBits", type := .long, accessFlags := 26, slot := 6, constantValue := 0 }, { name := "twoToTheDoubleScaleUp", type := .double, accessFlags := 8, slot := 7, constantValue := 0 }, { name := "twoToTheDoubleScaleDown", type := .double, accessFlags := 8, slot := 8, constantValue := 0 }, { name := "$assertionsDisabled", type := .boolean, accessFlags := 4120, slot := 9, constantValue := 0 }]
  methods := #[k4m0, k4m1]
  instanceTypes := #[]
  staticTypes := #[.double, .double, .double, .double, .double, .long, .long, .double, .double, .boolean]
  resolved := Array.replicate 460 none
  statics := none }

def pool5 : Array CpInfo := pool [(2, .class_ 4), (1, u "java/lang/Object"), (0, u "<init>"), (0, u "()V"), (1, .class_ 10), (1, u "java/lang/System"), (0, u "allowSecurityManager"), (0, u "I"), (16, u "cons"), (0, u "Ljava/io/Console;"), (77, .class_ 110), (1, u "java/lang/System$CallersHolder"), (43, u "initialErrStream"), (0, u "Ljava/io/PrintStream;"), (19, u "security"), (0, u "Ljava/lang/SecurityManager;"), (31, .class_ 209), (0, u "java/lang/System$1"), (7, u "props"), (0, u "Ljava/util/Properties;"), (2, u "lineSeparator"), (0, u "Ljava/lang/String;"), (96, .class_ 321), (1, u "java/lang/System$LoggerFinder"), (5, .class_ 328), (0, u "java/lang/System$Logger"), (67, u "err"), (2, u "out"), (91, u "notSupportedJnuEncoding"), (15, u "in"), (17, u "initialIn"), (0, u "Ljava/io/InputStream;"), (35, u "bootLayer"), (0, u "Ljava/lang/ModuleLayer;"), (99, .class_ 664), (0, u "java/lang/System$2"), (9, u "NEVER"), (2, u "MAYBE"), (49, u "arraycopy"), (0, u "(Ljava/lang/Object;ILjava/lang/Object;II)V"), (72, .class_ 802), (0, u "java/lang/System$Logger$Level")] 31

def k5m0 : Method := { name := "<init>", desc := "()V", sig := { parameters := [], returnType := none }, accessFlags := 2, code := none }
def k5m1 : Method := { name := "arraycopy", desc := "(Ljava/lang/Object;ILjava/lang/Object;II)V", sig := { parameters := [(.object "java/lang/Object"), .int, (.object "java/lang/Object"), .int, .int], returnType := none }, accessFlags := 265, code := none }
/-- java/lang/System -/
def k5 : Class := { plain "java/lang/System" (some 0) with
  accessFlags := 49
  interfaces := #[]
  cf := some (fileOf pool5 8 #[.nestMembers #[319, 327, 801, 108, 663, 208]] #[{ accessFlags := 2, nameIndex := 5, descriptorIndex := 6, attributes := #[] }, { accessFlags := 265, nameIndex := 727, descriptorIndex := 728, attributes := #[] }] 49 2 #[] #[{ accessFlags := 25, nameIndex := 507, descriptorIndex := 526, attributes := #[] }, { accessFlags := 25, nameIndex := 399, descriptorIndex := 155, attributes := #[] }, { accessFlags := 25, nameIndex := 396, descriptorIndex := 155, attributes := #[] }, { accessFlags := 10, nameIndex := 525, descriptorIndex := 526, attributes := #[] }, { accessFlags := 26, nameIndex := 674, descriptorIndex := 12, attributes := #[] }, { accessFlags := 26, nameIndex := 677, descriptorIndex := 12, attributes := #[] }, { accessFlags := 10, nameIndex := 11, descriptorIndex := 12, attributes := #[] }, { accessFlags := 74, nameIndex := 175, descriptorIndex := 176, attributes := #[] }, { accessFlags := 10, nameIndex := 491, descriptorIndex := 222, attributes := #[] }, { accessFlags := 74, nameIndex := 29, descriptorIndex := 30, attributes := #[] }, { accessFlags := 74, nameIndex := 154, descriptorIndex := 155, attributes := #[] }, { accessFlags := 10, nameIndex := 217, descriptorIndex := 218, attributes := #[] }, { accessFlags := 10, nameIndex := 221, descriptorIndex := 222, attributes := #[] }, { accessFlags := 8, nameIndex := 562, descriptorIndex := 563, attributes := #[] }])
  fields := #[{ name := "in", type := (.object "java/io/InputStream"), accessFlags := 25, slot := 0, constantValue := 0 }, { name := "out", type := (.object "java/io/PrintStream"), accessFlags := 25, slot := 1, constantValue := 0 }, { name := "err", type := (.object "java/io/PrintStream"), accessFlags := 25, slot := 2, constantValue := 0 }, { name := "initialIn", type := (.object "java/io/InputStream"), accessFlags := 10, slot := 3, constantValue := 0 }, { name := "NEVER", type := .int, accessFlags := 26, slot := 4, constantValue := 0 }, { name := "MAYBE", type := .int, accessFlags := 26, slot := 5, constantValue := 0 }, { name := "allowSecurityManager", type := .int, accessFlags := 10, slot := 6, constantValue := 0 }, { name := "security", type := (.object "java/lang/SecurityManager"), accessFlags := 74, slot := 7, constantValue := 0 }, { name := "notSupportedJnuEncoding", type := (.object "java/lang/String"), accessFlags := 10, slot := 8, constantValue := 0 }, { name := "cons", type := (.object "java/io/Console"), accessFlags := 74, slot := 9, constantValue := 0 }, { name := "initialErrStream", type := (.object "java/io/PrintStream"), accessFlags := 74, slot := 10, constantValue := 0 }, { name := "props", type := (.object "java/util/Properties"), accessFlags := 10, slot := 11, constantValue := 0 }, { name := "lineSeparator", type := (.object "java/lang/String"), accessFlags := 10, slot := 12, constantValue := 0 }, { name := "bootLayer", type := (.object "java/lang/ModuleLayer"), accessFlags := 8, slot := 13, constantValue := 0 }]
  methods := #[k5m0, k5m1]
  instanceTypes := #[]
  staticTypes := #[(.object "java/io/InputStream"), (.object "java/io/PrintStream"), (.object "java/io/PrintStream"), (.object "java/io/InputStream"), .int, .int, .int, (.object "java/lang/SecurityManager"), (.object "java/lang/String"), (.object "java/io/Console"), (.object "java/io/PrintStream"), (.object "java/util/Properties"), (.object "java/lang/String"), (.object "java/lang/ModuleLayer")]
  resolved := Array.replicate 834 none
  statics := none }

def pool6 : Array CpInfo := pool [(1, .class_ 2), (0, u "java/lang/Cloneable"), (0, .class_ 4), (0, u "java/lang/Object")] 2

/-- java/lang/Cloneable -/
def k6 : Class := { plain "java/lang/Cloneable" (some 0) with
  accessFlags := 1537
  interfaces := #[]
  cf := some (fileOf pool6 1 #[] #[] 1537 3 #[] #[])
  fields := #[]
  methods := #[]
  instanceTypes := #[]
  staticTypes := #[]
  resolved := Array.replicate 7 none
  statics := none }

def pool7 : Array CpInfo := pool [(1, u "java/io/Serializable"), (0, .class_ 1), (0, u "java/lang/Object"), (0, .class_ 3)] 3

/-- java/io/Serializable -/
def k7 : Class := { plain "java/io/Serializable" (some 0) with
  accessFlags := 1537
  interfaces := #[]
  cf := some (fileOf pool7 2 #[] #[] 1537 4 #[] #[])
  fields := #[]
  methods := #[]
  instanceTypes := #[]
  staticTypes := #[]
  resolved := Array.replicate 8 none
  statics := none }

/-- the primitive byte -/
def k8 : Class := { plain "byte" none with kind := .primitive 'B', accessFlags := 0x411 }
/-- [B -/
def k9 : Class := { plain "[B" (some 0) with kind := .array 8 .byte, interfaces := #[6, 7], accessFlags := 1041 }

/-- the primitive int -/
def k10 : Class := { plain "int" none with kind := .primitive 'I', accessFlags := 0x411 }
/-- [I -/
def k11 : Class := { plain "[I" (some 0) with kind := .array 10 .int, interfaces := #[6, 7], accessFlags := 1041 }

def heap : Heap := #[]
def classes : Array Class := #[k0, k1, k2, k3, k4, k5, k6, k7, k8, k9, k10, k11]
def interned : List (Array UInt16 × Addr) := []
def slotsUsed : Nat := 0
def theMethod : MethodId := ⟨1, 1⟩
def args0 : Array Value := #[.int 5, .int 3, .long 6, .long 7]
def aboutOver (below : List Frame) : State where
  vm := { classes := classes, interned := interned.toArray }
  heap := heap
  slotsUsed := slotsUsed
  threads := #[{ frames := .invoking theMethod args0 :: below }]
def below0 : List Frame := [.native { method := ⟨0, 0⟩, args := #[] }]
def about1 : State := aboutOver below0
def p0 : Program := .bare "" "" ""
def e0 : Env := launch0.env 0 0 0
theorem w_frames : about1.frames = Frame.invoking theMethod args0 :: below0 := rfl
set_option maxRecDepth 65536 in
theorem w_args : argsFit about1.vm theMethod args0 = true := by decide +kernel
set_option maxRecDepth 65536 in
theorem w_heap : heapFits about1 = true := by decide +kernel
set_option maxRecDepth 65536 in
theorem w_runnable : about1.curStatus? = some .runnable := by decide +kernel
set_option maxRecDepth 65536 in
theorem w_alone : about1.alone = true := by decide +kernel
set_option maxRecDepth 65536 in
theorem w_named : about1.methodNamed? x = some theMethod := by decide +kernel
set_option maxRecDepth 65536 in
theorem w_hears : about1.hears theMethod below0 = true := by decide +kernel
set_option maxRecDepth 65536 in
theorem w_ripe : about1.ripe theMethod args0 below0 = true := by decide +kernel
theorem w_running : about1.status = .running := rfl
set_option maxRecDepth 65536 in
theorem w_room : about1.hasRoom e0.platform room_1 = true :=
  launch0.hasRoom_least _ room_1 (by decide +kernel) (by decide +kernel) (by decide +kernel) (by decide +kernel) (by decide +kernel) (by decide +kernel)
theorem allAtoms_all (ts : List Jvm.Cond) (a : Array Jvm.Value) (st : Jvm.State) : (allAtoms ts).before a st = ts.all (fun c => c.before a st) := by
  induction ts with
  | nil => rfl
  | cons c t ih =>
    show (Jvm.Cond.and c (allAtoms t)).before a st = _
    rw [Jvm.Cond.before_and, ih, List.all_cons]
def words1 : List Jvm.Cond := Jvm.Cond.code x code maxLocals ret :: tables_1
/-- a 'code' word, met by the world's own term for the bytes: nothing is compared byte by byte -/
theorem code_word {y : MethodName} {bytes : ByteArray} {mx : Nat} {rt : Option FieldType} {a : Array Value} {s : State} {m : MethodId} {meth : Method} {c : Code} (h1 : s.methodNamed? y = some m) (h2 : s.vm.method? m = some meth) (h3 : meth.code = some c) (h4 : c.code = bytes)
    (h5 : (c.maxLocals == mx && c.exceptionTable.isEmpty && decide (c.maxStack ≤ mostOperands) && decide (meth.sig.returnType = rt) && !meth.locks && decide (parseMethodDescriptor y.desc = some meth.sig)) = true) : (Jvm.Cond.code y bytes mx rt).before a s = true := by
  simp only [Bool.and_eq_true, beq_iff_eq, Bool.not_eq_true', decide_eq_true_eq] at h5
  obtain ⟨⟨⟨⟨⟨g1, g2⟩, g3⟩, g4⟩, g5⟩, g6⟩ := h5
  simp [Cond.before, Cond.holds, Cond.value, h1, h2, h3, h4, g1, g2, g3, g4, g5, g6]
def isCode : Jvm.Cond → Bool
  | .code _ _ _ _ => true
  | _ => false
theorem all_split {L : List Jvm.Cond} {P : Jvm.Cond → Bool} (h1 : L.all (fun c => isCode c || P c) = true) (h2 : ∀ c ∈ L.filter isCode, P c = true) : L.all P = true := by
  refine List.all_eq_true.mpr fun c hc => ?_
  have h := List.all_eq_true.mp h1 c hc
  rcases Bool.eq_false_or_eq_true (isCode c) with hi | hi
  · exact h2 c (List.mem_filter.mpr ⟨hc, hi⟩)
  · simpa [hi] using h
set_option maxRecDepth 65536 in
theorem w_c0 : (Jvm.Cond.code x code maxLocals ret).before args0 about1 = true := code_word (m := ⟨1, 1⟩) (meth := k1m1) (c := k1c1) (by decide +kernel) rfl rfl rfl (by decide +kernel)
set_option maxRecDepth 65536 in
theorem w_c1 : (Jvm.Cond.code ({ cls := "com/example/isimud/isimud/oscore/OscoreOptionReadPinLaw", name := "fill", desc := "([BJJ)V" } : Jvm.MethodName) method_3_code (6 : Nat) (Option.none : Option Jvm.ClassFile.FieldType)).before args0 about1 = true := code_word (m := ⟨1, 2⟩) (meth := k1m2) (c := k1c2) (by decide +kernel) rfl rfl rfl (by decide +kernel)
set_option maxRecDepth 65536 in
theorem w_c2 : (Jvm.Cond.code ({ cls := "com/example/isimud/isimud/oscore/OscoreOption", name := "read", desc := "([B)Lcom/example/isimud/isimud/oscore/OscoreOption;" } : Jvm.MethodName) prog_18_method_4_code (7 : Nat) (Option.some (Jvm.ClassFile.FieldType.object "com/example/isimud/isimud/oscore/OscoreOption"))).before args0 about1 = true := code_word (m := ⟨2, 2⟩) (meth := k2m2) (c := k2c2) (by decide +kernel) rfl rfl rfl (by decide +kernel)
set_option maxRecDepth 65536 in
theorem w_c3 : (Jvm.Cond.code ({ cls := "com/example/isimud/isimud/oscore/OscoreOption", name := "part", desc := "([BII)[B" } : Jvm.MethodName) prog_18_method_9_code (3 : Nat) (Option.some (Jvm.ClassFile.FieldType.array Jvm.ClassFile.FieldType.byte))).before args0 about1 = true := code_word (m := ⟨2, 6⟩) (meth := k2m6) (c := k2c6) (by decide +kernel) rfl rfl rfl (by decide +kernel)
set_option maxRecDepth 65536 in
theorem w_c4 : (Jvm.Cond.code ({ cls := "java/util/Arrays", name := "copyOfRange", desc := "([BII)[B" } : Jvm.MethodName) jdk_65_method_132_code (3 : Nat) (Option.some (Jvm.ClassFile.FieldType.array Jvm.ClassFile.FieldType.byte))).before args0 about1 = true := code_word (m := ⟨3, 2⟩) (meth := k3m2) (c := k3c2) (by decide +kernel) rfl rfl rfl (by decide +kernel)
set_option maxRecDepth 65536 in
theorem w_c5 : (Jvm.Cond.code ({ cls := "java/util/Arrays", name := "copyOfRangeByte", desc := "([BII)[B" } : Jvm.MethodName) jdk_65_method_133_code (5 : Nat) (Option.some (Jvm.ClassFile.FieldType.array Jvm.ClassFile.FieldType.byte))).before args0 about1 = true := code_word (m := ⟨3, 3⟩) (meth := k3m3) (c := k3c3) (by decide +kernel) rfl rfl rfl (by decide +kernel)
set_option maxRecDepth 65536 in
theorem w_c6 : (Jvm.Cond.code ({ cls := "java/util/Arrays", name := "checkLength", desc := "(II)V" } : Jvm.MethodName) jdk_65_method_131_code (2 : Nat) (Option.none : Option Jvm.ClassFile.FieldType)).before args0 about1 = true := code_word (m := ⟨3, 1⟩) (meth := k3m1) (c := k3c1) (by decide +kernel) rfl rfl rfl (by decide +kernel)
set_option maxRecDepth 65536 in
theorem w_c7 : (Jvm.Cond.code ({ cls := "java/lang/Math", name := "min", desc := "(II)I" } : Jvm.MethodName) jdk_29_method_69_code (2 : Nat) (Option.some Jvm.ClassFile.FieldType.int)).before args0 about1 = true := code_word (m := ⟨4, 1⟩) (meth := k4m1) (c := k4c1) (by decide +kernel) rfl rfl rfl (by decide +kernel)
set_option maxRecDepth 65536 in
theorem w_c8 : (Jvm.Cond.code ({ cls := "com/example/isimud/isimud/oscore/OscoreOption", name := "<init>", desc := "([B[B[B)V" } : Jvm.MethodName) prog_18_method_1_code (4 : Nat) (Option.none : Option Jvm.ClassFile.FieldType)).before args0 about1 = true := code_word (m := ⟨2, 0⟩) (meth := k2m0) (c := k2c0) (by decide +kernel) rfl rfl rfl (by decide +kernel)
set_option maxRecDepth 65536 in
theorem w_c9 : (Jvm.Cond.code ({ cls := "java/lang/Object", name := "<init>", desc := "()V" } : Jvm.MethodName) object_method_1_code (1 : Nat) (Option.none : Option Jvm.ClassFile.FieldType)).before args0 about1 = true := code_word (m := ⟨0, 0⟩) (meth := k0m0) (c := k0c0) (by decide +kernel) rfl rfl rfl (by decide +kernel)
set_option maxRecDepth 65536 in
theorem w_c10 : (Jvm.Cond.code ({ cls := "com/example/isimud/isimud/oscore/OscoreOption", name := "partialIv", desc := "()[B" } : Jvm.MethodName) prog_18_method_5_code (1 : Nat) (Option.some (Jvm.ClassFile.FieldType.array Jvm.ClassFile.FieldType.byte))).before args0 about1 = true := code_word (m := ⟨2, 3⟩) (meth := k2m3) (c := k2c3) (by decide +kernel) rfl rfl rfl (by decide +kernel)
set_option maxRecDepth 65536 in
theorem w_c11 : (Jvm.Cond.code ({ cls := "com/example/isimud/isimud/oscore/OscoreOption", name := "kidContext", desc := "()[B" } : Jvm.MethodName) prog_18_method_6_code (1 : Nat) (Option.some (Jvm.ClassFile.FieldType.array Jvm.ClassFile.FieldType.byte))).before args0 about1 = true := code_word (m := ⟨2, 4⟩) (meth := k2m4) (c := k2c4) (by decide +kernel) rfl rfl rfl (by decide +kernel)
set_option maxRecDepth 65536 in
theorem w_c12 : (Jvm.Cond.code ({ cls := "com/example/isimud/isimud/oscore/OscoreOption", name := "kid", desc := "()[B" } : Jvm.MethodName) prog_18_method_7_code (1 : Nat) (Option.some (Jvm.ClassFile.FieldType.array Jvm.ClassFile.FieldType.byte))).before args0 about1 = true := code_word (m := ⟨2, 5⟩) (meth := k2m5) (c := k2c5) (by decide +kernel) rfl rfl rfl (by decide +kernel)
set_option maxRecDepth 65536 in
theorem w_c13 : (Jvm.Cond.code ({ cls := "com/example/isimud/isimud/oscore/OscoreOptionReadPinLaw", name := "same", desc := "([B[BII)Z" } : Jvm.MethodName) method_4_code (4 : Nat) (Option.some Jvm.ClassFile.FieldType.boolean)).before args0 about1 = true := code_word (m := ⟨1, 3⟩) (meth := k1m3) (c := k1c3) (by decide +kernel) rfl rfl rfl (by decide +kernel)
set_option maxRecDepth 65536 in
theorem w_c14 : (Jvm.Cond.code ({ cls := "com/example/isimud/isimud/oscore/OscoreOption", name := "ofResponse", desc := "()Lcom/example/isimud/isimud/oscore/OscoreOption;" } : Jvm.MethodName) prog_18_method_3_code (0 : Nat) (Option.some (Jvm.ClassFile.FieldType.object "com/example/isimud/isimud/oscore/OscoreOption"))).before args0 about1 = true := code_word (m := ⟨2, 1⟩) (meth := k2m1) (c := k2c1) (by decide +kernel) rfl rfl rfl (by decide +kernel)
def codes1 : List Jvm.Cond := [Jvm.Cond.code x code maxLocals ret, Jvm.Cond.code ({ cls := "com/example/isimud/isimud/oscore/OscoreOptionReadPinLaw", name := "fill", desc := "([BJJ)V" } : Jvm.MethodName) method_3_code (6 : Nat) (Option.none : Option Jvm.ClassFile.FieldType), Jvm.Cond.code ({ cls := "com/example/isimud/isimud/oscore/OscoreOption", name := "read", desc := "([B)Lcom/example/isimud/isimud/oscore/OscoreOption;" } : Jvm.MethodName) prog_18_method_4_code (7 : Nat) (Option.some (Jvm.ClassFile.FieldType.object "com/example/isimud/isimud/oscore/OscoreOption")), Jvm.Cond.code ({ cls := "com/example/isimud/isimud/oscore/OscoreOption", name := "part", desc := "([BII)[B" } : Jvm.MethodName) prog_18_method_9_code (3 : Nat) (Option.some (Jvm.ClassFile.FieldType.array Jvm.ClassFile.FieldType.byte)), Jvm.Cond.code ({ cls := "java/util/Arrays", name := "copyOfRange", desc := "([BII)[B" } : Jvm.MethodName) jdk_65_method_132_code (3 : Nat) (Option.some (Jvm.ClassFile.FieldType.array Jvm.ClassFile.FieldType.byte)), Jvm.Cond.code ({ cls := "java/util/Arrays", name := "copyOfRangeByte", desc := "([BII)[B" } : Jvm.MethodName) jdk_65_method_133_code (5 : Nat) (Option.some (Jvm.ClassFile.FieldType.array Jvm.ClassFile.FieldType.byte)), Jvm.Cond.code ({ cls := "java/util/Arrays", name := "checkLength", desc := "(II)V" } : Jvm.MethodName) jdk_65_method_131_code (2 : Nat) (Option.none : Option Jvm.ClassFile.FieldType), Jvm.Cond.code ({ cls := "java/lang/Math", name := "min", desc := "(II)I" } : Jvm.MethodName) jdk_29_method_69_code (2 : Nat) (Option.some Jvm.ClassFile.FieldType.int), Jvm.Cond.code ({ cls := "com/example/isimud/isimud/oscore/OscoreOption", name := "<init>", desc := "([B[B[B)V" } : Jvm.MethodName) prog_18_method_1_code (4 : Nat) (Option.none : Option Jvm.ClassFile.FieldType), Jvm.Cond.code ({ cls := "java/lang/Object", name := "<init>", desc := "()V" } : Jvm.MethodName) object_method_1_code (1 : Nat) (Option.none : Option Jvm.ClassFile.FieldType), Jvm.Cond.code ({ cls := "com/example/isimud/isimud/oscore/OscoreOption", name := "partialIv", desc := "()[B" } : Jvm.MethodName) prog_18_method_5_code (1 : Nat) (Option.some (Jvm.ClassFile.FieldType.array Jvm.ClassFile.FieldType.byte)), Jvm.Cond.code ({ cls := "com/example/isimud/isimud/oscore/OscoreOption", name := "kidContext", desc := "()[B" } : Jvm.MethodName) prog_18_method_6_code (1 : Nat) (Option.some (Jvm.ClassFile.FieldType.array Jvm.ClassFile.FieldType.byte)), Jvm.Cond.code ({ cls := "com/example/isimud/isimud/oscore/OscoreOption", name := "kid", desc := "()[B" } : Jvm.MethodName) prog_18_method_7_code (1 : Nat) (Option.some (Jvm.ClassFile.FieldType.array Jvm.ClassFile.FieldType.byte)), Jvm.Cond.code ({ cls := "com/example/isimud/isimud/oscore/OscoreOptionReadPinLaw", name := "same", desc := "([B[BII)Z" } : Jvm.MethodName) method_4_code (4 : Nat) (Option.some Jvm.ClassFile.FieldType.boolean), Jvm.Cond.code ({ cls := "com/example/isimud/isimud/oscore/OscoreOption", name := "ofResponse", desc := "()Lcom/example/isimud/isimud/oscore/OscoreOption;" } : Jvm.MethodName) prog_18_method_3_code (0 : Nat) (Option.some (Jvm.ClassFile.FieldType.object "com/example/isimud/isimud/oscore/OscoreOption"))]
set_option maxRecDepth 65536 in
theorem codes_eq : words1.filter isCode = codes1 := rfl
theorem w_codes : ∀ c ∈ words1.filter isCode, c.before args0 about1 = true := by
  rw [codes_eq]
  intro c hc
  simp only [codes1, List.mem_cons, List.not_mem_nil, or_false] at hc
  rcases hc with rfl | rfl | rfl | rfl | rfl | rfl | rfl | rfl | rfl | rfl | rfl | rfl | rfl | rfl | rfl
  · exact w_c0
  · exact w_c1
  · exact w_c2
  · exact w_c3
  · exact w_c4
  · exact w_c5
  · exact w_c6
  · exact w_c7
  · exact w_c8
  · exact w_c9
  · exact w_c10
  · exact w_c11
  · exact w_c12
  · exact w_c13
  · exact w_c14
set_option maxRecDepth 65536 in
theorem w_t1 : (words1.take 24).all (fun c => isCode c || c.before args0 about1) = true := by decide +kernel
set_option maxRecDepth 65536 in
theorem w_t2 : ((words1.drop 24).take 24).all (fun c => isCode c || c.before args0 about1) = true := by decide +kernel
set_option maxRecDepth 65536 in
theorem w_t3 : (((words1.drop 24).drop 24).take 24).all (fun c => isCode c || c.before args0 about1) = true := by decide +kernel
set_option maxRecDepth 65536 in
theorem w_t4 : (((words1.drop 24).drop 24).drop 24).all (fun c => isCode c || c.before args0 about1) = true := by decide +kernel
theorem w_tables : (allAtoms (Jvm.Cond.code x code maxLocals ret :: tables_1)).before args0 about1 = true := by
  rw [allAtoms_all]
  show words1.all (fun c => c.before args0 about1) = true
  refine all_split ?_ w_codes
  rw [← List.take_append_drop 24 words1, List.all_append, w_t1, ← List.take_append_drop 24 (words1.drop 24), List.all_append, w_t2, ← List.take_append_drop 24 ((words1.drop 24).drop 24), List.all_append, w_t3, w_t4]
  rfl
set_option maxRecDepth 65536 in
theorem w_case : (Jvm.Cond.and given_1 narrow_1).before args0 about1 = true := by decide +kernel
theorem w_applies : (headSpec (Jvm.Cond.code x code maxLocals ret :: tables_1) room_1).applies x e0.platform about1 = true :=
  (Spec.applies_iff w_frames).mpr ⟨w_running, w_runnable, w_alone, w_named, w_hears, w_ripe, w_room, w_tables⟩
theorem atStart : AtStart classFile x code maxLocals ret World_1 tables_1 room_1 Calls_1 rest_1 Pre_1 launch0 p0 e0 about1 theMethod args0 below0 :=
  ⟨lists_1, trivial, launch0.admits_env _ _ _, launch0.least_env, fairChoices_fair.cas, fairChoices_fair.clock, w_frames, w_args, w_heap, w_applies, trivial, trivial, w_case⟩
end start1
theorem witness_1 : WitnessClaimed_1 := ⟨start1.p0, start1.e0, start1.about1, start1.theMethod, start1.args0, start1.below0, start1.atStart⟩
end Jvm.Pilot.@@N@@
