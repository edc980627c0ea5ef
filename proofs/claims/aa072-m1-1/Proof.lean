import JvmDerived
import JvmDerived.Pilot.@@N@@Statement
import JvmDerived.Pilot.@@N@@Code
set_option linter.unusedVariables false
set_option linter.unusedSimpArgs false
namespace Jvm.Pilot.@@N@@
open Jvm Jvm.ClassFile Sem Op Lib Jvm.Free Jvm.Stand Jvm.LawKit Jvm.RoadKit Bundle Jvm.Pilot.@@N@@.Jvm.D
section OwnKit
/-- from the frame f at T the run comes to an end that K takes -/
def own_Go (p : Program) (e : Env) (below : List Frame) (K : Outcome → State → Prop) (T : State) (f : JFrame) : Prop :=
  ∃ s₂ o, Steps p.tables e below (T.setTop f) s₂ ∧ s₂.status = .running ∧ Ended s₂ below o ∧ K o s₂
def own_K (s : State) (Q : Option Value → Heap → List Loc → Prop) (cc ss : Nat) (o : Outcome) (U : State) : Prop :=
  ∃ v L, o = .returned v ∧ Q v U.heap L ∧ FrameEnd s o U L cc ss
variable {p : Program} {l : Launch} {e : Env} {R : Room} {s : State} {m : MethodId} {args : Array Value} {below : List Frame} {meth : Method} {c : Code} {T T' : State} {locs : List Loc} {cells slots : Nat} {K : Outcome → State → Prop} {Q : Option Value → Heap → List Loc → Prop} {cc ss : Nat} {f f' : JFrame}
theorem own_of (h : ∀ t, Steps p.tables e below (T'.setTop f') t → Steps p.tables e below (T.setTop f) t) (k : own_Go p e below K T' f') : own_Go p e below K T f := by
  obtain ⟨s2, o, h1, r⟩ := k
  exact ⟨s2, o, h _ h1, r⟩
theorem own_at (h : ∀ t, Steps p.tables e below (T.setTop f') t → Steps p.tables e below (T.setTop f) t) (k : own_Go p e below K T f') : own_Go p e below K T f := own_of h k
theorem own_cast (q : f = f') (k : own_Go p e below K T f') : own_Go p e below K T f := q ▸ k
theorem own_end (X : Stand p l e R s m args below meth c T locs cells slots) (hlk : meth.locks = false) {v : Option Value} (hv : meth.sig.returnType = none → v = none) (hq : Q v T.heap locs) (h1 : cells ≤ cc) (h2 : slots ≤ ss)
    (hs : ∀ fs, (∀ (f : JFrame) (acts : List Action), f.method = m → f.locked = none → f.entered = [] → (doReturn e (T.setTop f) acts v).1 = T.setFrames fs) → Steps p.tables e below (T.setTop f) (T.setFrames fs)) : own_Go p e below (own_K s Q cc ss) T f := by
  obtain ⟨fs, hr, hrun, hended, hW, hsame⟩ := X.leave (v := v) hv hlk
  exact ⟨_, _, hs fs hr, hrun, hended, _, _, rfl, hq, ⟨_, rfl⟩, hW, hsame.mono h1 h2⟩
theorem own_retN (X : Stand p l e R s m args below meth c T locs cells slots) (hx : p.tables.exec = Jvm.exec) (hlk : meth.locks = false) {pc : Nat} {Ls : Array Slot} {z w : Int32} {t : FieldType} {rest : List Value} (hret : meth.sig.returnType = some t) (ht : t = .boolean ∨ t = .byte ∨ t = .char ∨ t = .short)
    (hd : decode c.code pc = .ok (.ireturn, 1)) (hw : nar t z = w) (hq : Q (some (.int w)) T.heap locs) (h1 : cells ≤ cc) (h2 : slots ≤ ss) : own_Go p e below (own_K s Q cc ss) T (mkF m pc Ls (.int z :: rest)) := by
  subst hw
  exact own_end X hlk (fun h => by rw [hret] at h; cases h) hq h1 h2 fun fs hr => retN X hx hret ht hd hr
theorem own_retI (X : Stand p l e R s m args below meth c T locs cells slots) (hx : p.tables.exec = Jvm.exec) (hlk : meth.locks = false) {pc : Nat} {Ls : Array Slot} {z w : Int32} {rest : List Value} (hret : meth.sig.returnType = some .int)
    (hd : decode c.code pc = .ok (.ireturn, 1)) (hw : z = w) (hq : Q (some (.int w)) T.heap locs) (h1 : cells ≤ cc) (h2 : slots ≤ ss) : own_Go p e below (own_K s Q cc ss) T (mkF m pc Ls (.int z :: rest)) := by
  subst hw
  refine own_end X hlk (fun h => by rw [hret] at h; cases h) hq h1 h2 fun fs hr => ?_
  have hm' : T.vm.method? m = some meth := X.method'
  have hn : narrow .int (.int z) = .int z := rfl
  show Steps p.tables e below (T.setTop { method := m, pc := pc, locals := Ls, stack := _ :: rest, locked := none }) _
  jvm_step X.here [X.here.top, hx, hd, hm', hret, hn]
  first | (intro acts; rw [hr _ acts rfl rfl rfl]) | rw [hr _ _ rfl rfl rfl]
  exact Steps.refl _
theorem own_retJ (X : Stand p l e R s m args below meth c T locs cells slots) (hx : p.tables.exec = Jvm.exec) (hlk : meth.locks = false) {pc : Nat} {Ls : Array Slot} {z w : Int64} (hret : meth.sig.returnType = some .long)
    (hd : decode c.code pc = .ok (.lreturn, 1)) (hw : z = w) (hq : Q (some (.long w)) T.heap locs) (h1 : cells ≤ cc) (h2 : slots ≤ ss) : own_Go p e below (own_K s Q cc ss) T (mkF m pc Ls [.long z]) := by
  subst hw
  exact own_end X hlk (fun h => by rw [hret] at h; cases h) hq h1 h2 fun fs hr => X.lreturnOut hx hret hd hr
theorem own_retA (X : Stand p l e R s m args below meth c T locs cells slots) (hx : p.tables.exec = Jvm.exec) (hlk : meth.locks = false) {pc : Nat} {Ls : Array Slot} {z : Value} {ty : FieldType} {rest : List Value} (hz : z.isRef = true) (hret : meth.sig.returnType = some ty) (hty : ty.isReference = true)
    (hd : decode c.code pc = .ok (.areturn, 1)) (hq : Q (some z) T.heap locs) (h1 : cells ≤ cc) (h2 : slots ≤ ss) : own_Go p e below (own_K s Q cc ss) T (mkF m pc Ls (z :: rest)) := by
  refine own_end X hlk (fun h => by rw [hret] at h; cases h) hq h1 h2 fun fs hr => ?_
  have hm' : T.vm.method? m = some meth := X.method'
  show Steps p.tables e below (T.setTop { method := m, pc := pc, locals := Ls, stack := _ :: rest, locked := none }) _
  jvm_step X.here [X.here.top, hx, hd, hm', hret, hz, hty]
  first | (intro acts; rw [hr _ acts rfl rfl rfl]) | rw [hr _ _ rfl rfl rfl]
  exact Steps.refl _
theorem own_retV (X : Stand p l e R s m args below meth c T locs cells slots) (hx : p.tables.exec = Jvm.exec) (hlk : meth.locks = false) {pc : Nat} {Ls : Array Slot} (hret : meth.sig.returnType = none)
    (hd : decode c.code pc = .ok (.return_, 1)) (hq : Q none T.heap locs) (h1 : cells ≤ cc) (h2 : slots ≤ ss) : own_Go p e below (own_K s Q cc ss) T (mkF m pc Ls []) :=
  own_end X hlk (fun _ => rfl) hq h1 h2 fun fs hr => X.returnOut hx hret hd hr
theorem own_ne {i k : Int32} {z : Int} (hz : k.toInt = z) (h : ¬ i = k) : ¬ (z = i.toInt) := fun q => h (Int32.toInt_inj.mp (q.symm.trans hz.symm))
theorem own_lsw {tb : Tables} [Ours tb] {target : State} {g : JFrame} (h : At T m c below) (hx : tb.exec = Jvm.exec) (hg : g.method = m) {dflt o : Int} {prs : Array (Int × Int)} {len pc0 pc' : Nat} (hpc : g.pc = pc0) (hd : decode c.code g.pc = .ok (.lookupswitch dflt prs, len)) {i : Int32} {rest : List Value} (hs : g.stack = .int i :: rest)
    (hso : (prs.toList.zip (prs.toList.drop 1)).all (fun (a, next) => a.1 < next.1) = true) (hof : lookupswitch.offset prs.toList dflt i.toInt = o) (ho : 0 ≤ (pc0 : Int) + o) (hp : ((pc0 : Int) + o).toNat = pc')
    (hr : Steps tb e below (T.setTop { g with pc := pc', stack := rest }) target) : Steps tb e below (T.setTop g) target := by
  subst hg hpc hp hof
  jvm_step h [h.top, hx, hd, hs, ho, lookupswitch.wp_chain]
  exact ⟨by simpa using hso, hr⟩
theorem own_nar01 {z : Int32} (h : z = 0 ∨ z = 1) : nar .boolean z = z := by rcases h with rfl | rfl <;> decide
theorem own_narB (x : Int32) : nar .byte x.toInt8.toInt32 = x.toInt8.toInt32 := Value.int.inj (Jvm.Free.XT.narrow_b x)
theorem own_narC (x : Int32) : nar .char x.toUInt32.toUInt16.toUInt32.toInt32 = x.toUInt32.toUInt16.toUInt32.toInt32 := Value.int.inj (Jvm.Free.XT.narrow_c x)
end OwnKit
/-- a body that writes nothing and returns w -/
def own_P (w : Value) (h0 : Heap) (n0 : Nat) (v : Option Value) (h : Heap) (L : List Loc) : Prop := v = some w ∧ Fr n0 L ∧ h = h0
theorem pn_com_example_inscribe_inscribe_core_XmlWhiteSpace : plainName "com/example/inscribe/inscribe/core/XmlWhiteSpace" = true := by first | (simp [plainName, overriddenIn]; done) | decide +kernel
theorem ef_prog_39_9 (m : MethodId) (x0 : Int32) : entryFrame m #[(.int x0)] 1 = mkF m 0 #[.val (.int x0)] [] := by first | (simp [entryFrame, mkF, argsToLocals, Value.category]; done) | rfl
theorem d_prog_39_9_0 : decode prog_39_method_9_code 0 = .ok (.iload_n 0, 1) := by decide +kernel
theorem d_prog_39_9_1 : decode prog_39_method_9_code 1 = .ok (.bipush 13, 2) := by decide +kernel
theorem d_prog_39_9_3 : decode prog_39_method_9_code 3 = .ok (.if_icmp .eq 9, 3) := by decide +kernel
theorem d_prog_39_9_12 : decode prog_39_method_9_code 12 = .ok (.iconst 1, 1) := by decide +kernel
theorem d_prog_39_9_13 : decode prog_39_method_9_code 13 = .ok (.goto 4, 3) := by decide +kernel
theorem d_prog_39_9_17 : decode prog_39_method_9_code 17 = .ok (.ireturn, 1) := by decide +kernel
theorem d_prog_39_9_6 : decode prog_39_method_9_code 6 = .ok (.iload_n 0, 1) := by decide +kernel
theorem d_prog_39_9_7 : decode prog_39_method_9_code 7 = .ok (.bipush 10, 2) := by decide +kernel
theorem d_prog_39_9_9 : decode prog_39_method_9_code 9 = .ok (.if_icmp .ne 7, 3) := by decide +kernel
theorem d_prog_39_9_16 : decode prog_39_method_9_code 16 = .ok (.iconst 0, 1) := by decide +kernel
def own_F_prog_39_9 (q1 : Int32) : Int32 := (if q1 = (13 : Int32) then (1 : Int32) else (if q1 = (10 : Int32) then (1 : Int32) else (0 : Int32)))
set_option maxRecDepth 65536 in
set_option maxHeartbeats 40000000 in
theorem rm_prog_39_9 (l : Launch) (Z : State) (a0 : Array Value) (hw : ∀ d ∈ tables_1, d.before a0 Z = true) (ws : List Jvm.Cond) (q1 : Int32)  (h0 : Heap) (n0 : Nat) (Z0 : n0 ≤ h0.size)  :
    MetFree l (⟨"com/example/inscribe/inscribe/core/XmlWhiteSpace", "isLineBreak", "(C)Z"⟩ : MethodName) (head1 (Jvm.Cond.code (⟨"com/example/inscribe/inscribe/core/XmlWhiteSpace", "isLineBreak", "(C)Z"⟩ : MethodName) prog_39_method_9_code 1 (some .boolean) :: ws) ({ frames := 0, cells := 0, slots := 0, locals := 0 } : Room)) (fun a U => a = #[(.int q1)] ∧ Z.Warmed39 U.vm ∧ U.heap = h0) (fun _ _ _ _ _ => True) (fun _ U o U' => ∃ v L, o = .returned v ∧ own_P (.int (own_F_prog_39_9 q1)) h0 n0 v U'.heap L ∧ FrameEnd U o U' L ({ frames := 0, cells := 0, slots := 0, locals := 0 } : Room).cells ({ frames := 0, cells := 0, slots := 0, locals := 0 } : Room).slots) := by
  refine MetFree.of_bodySF (plainFor_of_name pn_com_example_inscribe_inscribe_core_XmlWhiteSpace) hisR ?_
  intro p e s m args below meth c s₁ Bd hml0 hP hK
  obtain ⟨rfl, hZ, hh⟩ := hP
  have hx := Bd.exec
  have hby := Bd.bytes
  have hlk : meth.locks = false := BodyLoose.notSynchronized Bd
  have hml : c.maxLocals = 1 := hml0
  have hown : s.vm.findClass "com/example/inscribe/inscribe/core/XmlWhiteSpace" = some m.cls := findClass_of_methodNamed Bd.named
  have hnm := (name_of_methodNamed Bd.named Bd.method).1
  have X0 : Stand p l e ({ frames := 0, cells := 0, slots := 0, locals := 0 } : Room) s m #[(.int q1)] below meth c s₁ [] 0 0 := Stand.of_body Bd
  have e0 : s₁.heap = h0 := by rw [← hh, Bd.state]; rfl
  have N0 := Fr.nil n0
  refine own_cast (K := own_K s (own_P (.int (own_F_prog_39_9 q1)) h0 n0) 0 0) (ef_prog_39_9 m q1) ?_
  generalize hKK : own_K s (own_P (.int (own_F_prog_39_9 q1)) h0 n0) 0 0 = KK
  show own_Go p e below KK s₁ (mkF m 0 #[.val (.int q1)] [])
  refine own_at (fun t k => XS.iloadN X0.here hx rfl (hb hby d_prog_39_9_0) rfl k) ?_
  show own_Go p e below KK s₁ (mkF m 1 #[.val (.int q1)] [(.int q1)])
  refine own_at (fun t k => XS.bipush X0.here hx rfl (hb hby d_prog_39_9_1) k) ?_
  show own_Go p e below KK s₁ (mkF m 3 #[.val (.int q1)] [(.int 13), (.int q1)])
  by_cases hc3 : q1 = (13 : Int32)
  · refine own_at (fun t k => XS.icmpYes X0.here hx rfl (pc0 := 3) (pc' := 12) rfl (hb hby d_prog_39_9_3) rfl (Jvm.Free.XT.ii_eq_t hc3) (by decide) (by decide) k) ?_
    show own_Go p e below KK s₁ (mkF m 12 #[.val (.int q1)] [])
    refine own_at (fun t k => XS.iconst X0.here hx rfl (hb hby d_prog_39_9_12) k) ?_
    show own_Go p e below KK s₁ (mkF m 13 #[.val (.int q1)] [(.int 1)])
    refine own_at (fun t k => XS.goto X0.here hx rfl (pc0 := 13) (pc' := 17) rfl (hb hby d_prog_39_9_13) (by decide) (by decide) k) ?_
    show own_Go p e below KK s₁ (mkF m 17 #[.val (.int q1)] [(.int 1)])
    subst hKK
    exact own_retN X0 hx hlk (t := .boolean) Bd.returns (by simp) (hb hby d_prog_39_9_17) (w := (own_F_prog_39_9 q1)) ((show nar .boolean (1 : Int32) = (1 : Int32) from by decide).trans (show (1 : Int32) = (own_F_prog_39_9 q1) from by unfold own_F_prog_39_9; rw [if_pos hc3])) ⟨rfl, N0, e0⟩ (Nat.le_of_ble_eq_true rfl) (Nat.le_of_ble_eq_true rfl)
  · refine own_at (fun t k => XS.icmpNo X0.here hx rfl (hb hby d_prog_39_9_3) rfl (Jvm.Free.XT.ii_eq_f hc3) k) ?_
    show own_Go p e below KK s₁ (mkF m 6 #[.val (.int q1)] [])
    refine own_at (fun t k => XS.iloadN X0.here hx rfl (hb hby d_prog_39_9_6) rfl k) ?_
    show own_Go p e below KK s₁ (mkF m 7 #[.val (.int q1)] [(.int q1)])
    refine own_at (fun t k => XS.bipush X0.here hx rfl (hb hby d_prog_39_9_7) k) ?_
    show own_Go p e below KK s₁ (mkF m 9 #[.val (.int q1)] [(.int 10), (.int q1)])
    by_cases hc9 : q1 = (10 : Int32)
    · refine own_at (fun t k => XS.icmpNo X0.here hx rfl (hb hby d_prog_39_9_9) rfl (Jvm.Free.XT.ii_ne_f hc9) k) ?_
      show own_Go p e below KK s₁ (mkF m 12 #[.val (.int q1)] [])
      refine own_at (fun t k => XS.iconst X0.here hx rfl (hb hby d_prog_39_9_12) k) ?_
      show own_Go p e below KK s₁ (mkF m 13 #[.val (.int q1)] [(.int 1)])
      refine own_at (fun t k => XS.goto X0.here hx rfl (pc0 := 13) (pc' := 17) rfl (hb hby d_prog_39_9_13) (by decide) (by decide) k) ?_
      show own_Go p e below KK s₁ (mkF m 17 #[.val (.int q1)] [(.int 1)])
      subst hKK
      exact own_retN X0 hx hlk (t := .boolean) Bd.returns (by simp) (hb hby d_prog_39_9_17) (w := (own_F_prog_39_9 q1)) ((show nar .boolean (1 : Int32) = (1 : Int32) from by decide).trans (show (1 : Int32) = (own_F_prog_39_9 q1) from by unfold own_F_prog_39_9; rw [if_neg hc3, if_pos hc9])) ⟨rfl, N0, e0⟩ (Nat.le_of_ble_eq_true rfl) (Nat.le_of_ble_eq_true rfl)
    · refine own_at (fun t k => XS.icmpYes X0.here hx rfl (pc0 := 9) (pc' := 16) rfl (hb hby d_prog_39_9_9) rfl (Jvm.Free.XT.ii_ne_t hc9) (by decide) (by decide) k) ?_
      show own_Go p e below KK s₁ (mkF m 16 #[.val (.int q1)] [])
      refine own_at (fun t k => XS.iconst X0.here hx rfl (hb hby d_prog_39_9_16) k) ?_
      show own_Go p e below KK s₁ (mkF m 17 #[.val (.int q1)] [(.int 0)])
      subst hKK
      exact own_retN X0 hx hlk (t := .boolean) Bd.returns (by simp) (hb hby d_prog_39_9_17) (w := (own_F_prog_39_9 q1)) ((show nar .boolean (0 : Int32) = (0 : Int32) from by decide).trans (show (0 : Int32) = (own_F_prog_39_9 q1) from by unfold own_F_prog_39_9; rw [if_neg hc3, if_neg hc9])) ⟨rfl, N0, e0⟩ (Nat.le_of_ble_eq_true rfl) (Nat.le_of_ble_eq_true rfl)
theorem ef_prog_39_2 (m : MethodId) (x0 : Int32) : entryFrame m #[(.int x0)] 1 = mkF m 0 #[.val (.int x0)] [] := by first | (simp [entryFrame, mkF, argsToLocals, Value.category]; done) | rfl
theorem d_prog_39_2_0 : decode prog_39_method_2_code 0 = .ok (.iload_n 0, 1) := by decide +kernel
theorem d_prog_39_2_1 : decode prog_39_method_2_code 1 = .ok (.bipush 32, 2) := by decide +kernel
theorem d_prog_39_2_3 : decode prog_39_method_2_code 3 = .ok (.if_icmp .eq 16, 3) := by decide +kernel
theorem d_prog_39_2_19 : decode prog_39_method_2_code 19 = .ok (.iconst 1, 1) := by decide +kernel
theorem d_prog_39_2_20 : decode prog_39_method_2_code 20 = .ok (.goto 4, 3) := by decide +kernel
theorem d_prog_39_2_24 : decode prog_39_method_2_code 24 = .ok (.ireturn, 1) := by decide +kernel
theorem d_prog_39_2_6 : decode prog_39_method_2_code 6 = .ok (.iload_n 0, 1) := by decide +kernel
theorem d_prog_39_2_7 : decode prog_39_method_2_code 7 = .ok (.bipush 9, 2) := by decide +kernel
theorem d_prog_39_2_9 : decode prog_39_method_2_code 9 = .ok (.if_icmp .eq 10, 3) := by decide +kernel
theorem d_prog_39_2_12 : decode prog_39_method_2_code 12 = .ok (.iload_n 0, 1) := by decide +kernel
theorem d_prog_39_2_13 : decode prog_39_method_2_code 13 = .ok (.invokestatic 7, 3) := by decide +kernel
theorem pd__C_Z : parseMethodDescriptor "(C)Z" = some ⟨[.char], some .boolean⟩ := by decide +kernel
theorem d_prog_39_2_16 : decode prog_39_method_2_code 16 = .ok (.ifCond .eq 7, 3) := by decide +kernel
theorem d_prog_39_2_23 : decode prog_39_method_2_code 23 = .ok (.iconst 0, 1) := by decide +kernel
def own_F_prog_39_2 (q1 : Int32) : Int32 := (if q1 = (32 : Int32) then (1 : Int32) else (if q1 = (9 : Int32) then (1 : Int32) else (if (own_F_prog_39_9 q1) = (0 : Int32) then (0 : Int32) else (1 : Int32))))
set_option maxRecDepth 65536 in
set_option maxHeartbeats 40000000 in
theorem rm_prog_39_2 (l : Launch) (Z : State) (a0 : Array Value) (hw : ∀ d ∈ tables_1, d.before a0 Z = true) (ws : List Jvm.Cond) (q1 : Int32)  (h0 : Heap) (n0 : Nat) (Z0 : n0 ≤ h0.size)  :
    MetFree l (⟨"com/example/inscribe/inscribe/core/XmlWhiteSpace", "isWhiteSpace", "(C)Z"⟩ : MethodName) (head1 (Jvm.Cond.code (⟨"com/example/inscribe/inscribe/core/XmlWhiteSpace", "isWhiteSpace", "(C)Z"⟩ : MethodName) prog_39_method_2_code 1 (some .boolean) :: ws) ({ frames := 1, cells := 0, slots := 0, locals := 12 } : Room)) (fun a U => a = #[(.int q1)] ∧ Z.Warmed39 U.vm ∧ U.heap = h0) (fun _ _ _ _ _ => True) (fun _ U o U' => ∃ v L, o = .returned v ∧ own_P (.int (own_F_prog_39_2 q1)) h0 n0 v U'.heap L ∧ FrameEnd U o U' L ({ frames := 1, cells := 0, slots := 0, locals := 12 } : Room).cells ({ frames := 1, cells := 0, slots := 0, locals := 12 } : Room).slots) := by
  refine MetFree.of_bodySF (plainFor_of_name pn_com_example_inscribe_inscribe_core_XmlWhiteSpace) hisR ?_
  intro p e s m args below meth c s₁ Bd hml0 hP hK
  obtain ⟨rfl, hZ, hh⟩ := hP
  have hx := Bd.exec
  have hby := Bd.bytes
  have hlk : meth.locks = false := BodyLoose.notSynchronized Bd
  have hml : c.maxLocals = 1 := hml0
  have hown : s.vm.findClass "com/example/inscribe/inscribe/core/XmlWhiteSpace" = some m.cls := findClass_of_methodNamed Bd.named
  have hnm := (name_of_methodNamed Bd.named Bd.method).1
  have X0 : Stand p l e ({ frames := 1, cells := 0, slots := 0, locals := 12 } : Room) s m #[(.int q1)] below meth c s₁ [] 0 0 := Stand.of_body Bd
  have e0 : s₁.heap = h0 := by rw [← hh, Bd.state]; rfl
  have N0 := Fr.nil n0
  refine own_cast (K := own_K s (own_P (.int (own_F_prog_39_2 q1)) h0 n0) 0 0) (ef_prog_39_2 m q1) ?_
  generalize hKK : own_K s (own_P (.int (own_F_prog_39_2 q1)) h0 n0) 0 0 = KK
  show own_Go p e below KK s₁ (mkF m 0 #[.val (.int q1)] [])
  refine own_at (fun t k => XS.iloadN X0.here hx rfl (hb hby d_prog_39_2_0) rfl k) ?_
  show own_Go p e below KK s₁ (mkF m 1 #[.val (.int q1)] [(.int q1)])
  refine own_at (fun t k => XS.bipush X0.here hx rfl (hb hby d_prog_39_2_1) k) ?_
  show own_Go p e below KK s₁ (mkF m 3 #[.val (.int q1)] [(.int 32), (.int q1)])
  by_cases hc3 : q1 = (32 : Int32)
  · refine own_at (fun t k => XS.icmpYes X0.here hx rfl (pc0 := 3) (pc' := 19) rfl (hb hby d_prog_39_2_3) rfl (Jvm.Free.XT.ii_eq_t hc3) (by decide) (by decide) k) ?_
    show own_Go p e below KK s₁ (mkF m 19 #[.val (.int q1)] [])
    refine own_at (fun t k => XS.iconst X0.here hx rfl (hb hby d_prog_39_2_19) k) ?_
    show own_Go p e below KK s₁ (mkF m 20 #[.val (.int q1)] [(.int 1)])
    refine own_at (fun t k => XS.goto X0.here hx rfl (pc0 := 20) (pc' := 24) rfl (hb hby d_prog_39_2_20) (by decide) (by decide) k) ?_
    show own_Go p e below KK s₁ (mkF m 24 #[.val (.int q1)] [(.int 1)])
    subst hKK
    exact own_retN X0 hx hlk (t := .boolean) Bd.returns (by simp) (hb hby d_prog_39_2_24) (w := (own_F_prog_39_2 q1)) ((show nar .boolean (1 : Int32) = (1 : Int32) from by decide).trans (show (1 : Int32) = (own_F_prog_39_2 q1) from by unfold own_F_prog_39_2; rw [if_pos hc3])) ⟨rfl, N0, e0⟩ (Nat.le_of_ble_eq_true rfl) (Nat.le_of_ble_eq_true rfl)
  · refine own_at (fun t k => XS.icmpNo X0.here hx rfl (hb hby d_prog_39_2_3) rfl (Jvm.Free.XT.ii_eq_f hc3) k) ?_
    show own_Go p e below KK s₁ (mkF m 6 #[.val (.int q1)] [])
    refine own_at (fun t k => XS.iloadN X0.here hx rfl (hb hby d_prog_39_2_6) rfl k) ?_
    show own_Go p e below KK s₁ (mkF m 7 #[.val (.int q1)] [(.int q1)])
    refine own_at (fun t k => XS.bipush X0.here hx rfl (hb hby d_prog_39_2_7) k) ?_
    show own_Go p e below KK s₁ (mkF m 9 #[.val (.int q1)] [(.int 9), (.int q1)])
    by_cases hc9 : q1 = (9 : Int32)
    · refine own_at (fun t k => XS.icmpYes X0.here hx rfl (pc0 := 9) (pc' := 19) rfl (hb hby d_prog_39_2_9) rfl (Jvm.Free.XT.ii_eq_t hc9) (by decide) (by decide) k) ?_
      show own_Go p e below KK s₁ (mkF m 19 #[.val (.int q1)] [])
      refine own_at (fun t k => XS.iconst X0.here hx rfl (hb hby d_prog_39_2_19) k) ?_
      show own_Go p e below KK s₁ (mkF m 20 #[.val (.int q1)] [(.int 1)])
      refine own_at (fun t k => XS.goto X0.here hx rfl (pc0 := 20) (pc' := 24) rfl (hb hby d_prog_39_2_20) (by decide) (by decide) k) ?_
      show own_Go p e below KK s₁ (mkF m 24 #[.val (.int q1)] [(.int 1)])
      subst hKK
      exact own_retN X0 hx hlk (t := .boolean) Bd.returns (by simp) (hb hby d_prog_39_2_24) (w := (own_F_prog_39_2 q1)) ((show nar .boolean (1 : Int32) = (1 : Int32) from by decide).trans (show (1 : Int32) = (own_F_prog_39_2 q1) from by unfold own_F_prog_39_2; rw [if_neg hc3, if_pos hc9])) ⟨rfl, N0, e0⟩ (Nat.le_of_ble_eq_true rfl) (Nat.le_of_ble_eq_true rfl)
    · refine own_at (fun t k => XS.icmpNo X0.here hx rfl (hb hby d_prog_39_2_9) rfl (Jvm.Free.XT.ii_eq_f hc9) k) ?_
      show own_Go p e below KK s₁ (mkF m 12 #[.val (.int q1)] [])
      refine own_at (fun t k => XS.iloadN X0.here hx rfl (hb hby d_prog_39_2_12) rfl k) ?_
      show own_Go p e below KK s₁ (mkF m 13 #[.val (.int q1)] [(.int q1)])
      obtain ⟨_, _, ⟨T1, L1, k1, n1⟩, -, X1, ⟨Lc1, hQ1, l1, y1, z1⟩, st1⟩ := Jvm.LawKit.callS X0 hx (y := (⟨"com/example/inscribe/inscribe/core/XmlWhiteSpace", "isLineBreak", "(C)Z"⟩ : MethodName)) hown (mvT hZ (hw _ (List.mem_of_getElem? (i := 4) rfl))) (mvT hZ (hw _ (List.mem_of_getElem? (i := 5) rfl))) (mvT hZ (hw _ (List.mem_of_getElem? (i := 2) rfl))) (mvT hZ (hw _ (List.mem_of_getElem? (i := 6) rfl))) (by decide) (backOf (W := 0) (rm_prog_39_9 l Z a0 hw [] q1  h0 n0 Z0 ) hZ (hw _ (List.mem_of_getElem? (i := 6) rfl)) (hw _ (List.mem_of_getElem? (i := 2) rfl)) (by decide) (by decide)) (g := (mkF m 13 #[.val (.int q1)] [(.int q1)])) rfl (by rw [hml]; rfl) (argsL := [(.int q1)]) (rest := []) (lenOf pd__C_Z rfl) rfl (by show 2 * 0 + _ ≤ _; exact Nat.le_of_eq rfl) (hb hby d_prog_39_2_13) (fun _ _ => ⟨rfl, e0, (by decide : 0 + 0 ≤ _), (by decide : 0 + 0 ≤ _)⟩)
      dsimp only [Pt.U, Pt.locs, Pt.cells, Pt.slots] at X1 l1 y1 z1 st1 hQ1
      subst l1 y1 z1
      obtain ⟨rfl, N1q, e1⟩ := hQ1
      have N1 := Fr.app N0 N1q
      refine own_of (fun t k => st1 t k) ?_
      show own_Go p e below KK T1 (mkF m 16 #[.val (.int q1)] [(.int (own_F_prog_39_9 q1))])
      by_cases hc16 : (own_F_prog_39_9 q1) = (0 : Int32)
      · refine own_at (fun t k => XS.ifYes X1.here hx rfl (pc0 := 16) (pc' := 23) rfl (hb hby d_prog_39_2_16) rfl (Jvm.Free.XT.i0_eq_t hc16) (by decide) (by decide) k) ?_
        show own_Go p e below KK T1 (mkF m 23 #[.val (.int q1)] [])
        refine own_at (fun t k => XS.iconst X1.here hx rfl (hb hby d_prog_39_2_23) k) ?_
        show own_Go p e below KK T1 (mkF m 24 #[.val (.int q1)] [(.int 0)])
        subst hKK
        exact own_retN X1 hx hlk (t := .boolean) Bd.returns (by simp) (hb hby d_prog_39_2_24) (w := (own_F_prog_39_2 q1)) ((show nar .boolean (0 : Int32) = (0 : Int32) from by decide).trans (show (0 : Int32) = (own_F_prog_39_2 q1) from by unfold own_F_prog_39_2; rw [if_neg hc3, if_neg hc9, if_pos hc16])) ⟨rfl, N1, e1⟩ (Nat.le_of_ble_eq_true rfl) (Nat.le_of_ble_eq_true rfl)
      · refine own_at (fun t k => XS.ifNo X1.here hx rfl (hb hby d_prog_39_2_16) rfl (Jvm.Free.XT.i0_eq_f hc16) k) ?_
        show own_Go p e below KK T1 (mkF m 19 #[.val (.int q1)] [])
        refine own_at (fun t k => XS.iconst X1.here hx rfl (hb hby d_prog_39_2_19) k) ?_
        show own_Go p e below KK T1 (mkF m 20 #[.val (.int q1)] [(.int 1)])
        refine own_at (fun t k => XS.goto X1.here hx rfl (pc0 := 20) (pc' := 24) rfl (hb hby d_prog_39_2_20) (by decide) (by decide) k) ?_
        show own_Go p e below KK T1 (mkF m 24 #[.val (.int q1)] [(.int 1)])
        subst hKK
        exact own_retN X1 hx hlk (t := .boolean) Bd.returns (by simp) (hb hby d_prog_39_2_24) (w := (own_F_prog_39_2 q1)) ((show nar .boolean (1 : Int32) = (1 : Int32) from by decide).trans (show (1 : Int32) = (own_F_prog_39_2 q1) from by unfold own_F_prog_39_2; rw [if_neg hc3, if_neg hc9, if_neg hc16])) ⟨rfl, N1, e1⟩ (Nat.le_of_ble_eq_true rfl) (Nat.le_of_ble_eq_true rfl)
theorem pn_com_example_inscribe_inscribe_core_XmlWhiteSpaceIsWhiteSpacePinLaw : plainName "com/example/inscribe/inscribe/core/XmlWhiteSpaceIsWhiteSpacePinLaw" = true := by first | (simp [plainName, overriddenIn]; done) | decide +kernel
theorem ef_method_3 (m : MethodId) (x0 : Int32) : entryFrame m #[(.int x0)] 1 = mkF m 0 #[.val (.int x0)] [] := by first | (simp [entryFrame, mkF, argsToLocals, Value.category]; done) | rfl
theorem d_method_3_0 : decode method_3_code 0 = .ok (.iload_n 0, 1) := by decide +kernel
theorem d_method_3_1 : decode method_3_code 1 = .ok (.bipush 32, 2) := by decide +kernel
theorem d_method_3_3 : decode method_3_code 3 = .ok (.if_icmp .le 5, 3) := by decide +kernel
theorem d_method_3_6 : decode method_3_code 6 = .ok (.iconst 0, 1) := by decide +kernel
theorem d_method_3_7 : decode method_3_code 7 = .ok (.ireturn, 1) := by decide +kernel
theorem d_method_3_8 : decode method_3_code 8 = .ok (.ldc2_w 18, 3) := by decide +kernel
theorem d_method_3_11 : decode method_3_code 11 = .ok (.iload_n 0, 1) := by decide +kernel
theorem d_method_3_12 : decode method_3_code 12 = .ok (.lushr, 1) := by decide +kernel
theorem d_method_3_13 : decode method_3_code 13 = .ok (.lconst 1, 1) := by decide +kernel
theorem d_method_3_14 : decode method_3_code 14 = .ok (.land, 1) := by decide +kernel
theorem d_method_3_15 : decode method_3_code 15 = .ok (.lconst 1, 1) := by decide +kernel
theorem d_method_3_16 : decode method_3_code 16 = .ok (.lcmp, 1) := by decide +kernel
theorem d_method_3_17 : decode method_3_code 17 = .ok (.ifCond .ne 7, 3) := by decide +kernel
theorem d_method_3_20 : decode method_3_code 20 = .ok (.iconst 1, 1) := by decide +kernel
theorem d_method_3_21 : decode method_3_code 21 = .ok (.goto 4, 3) := by decide +kernel
theorem d_method_3_25 : decode method_3_code 25 = .ok (.ireturn, 1) := by decide +kernel
theorem d_method_3_24 : decode method_3_code 24 = .ok (.iconst 0, 1) := by decide +kernel
def own_F_method_3 (q1 : Int32) : Int32 := (if (32 : Int32) < q1 then (0 : Int32) else (if ((((4294977024 : Int64).toUInt64 >>> (q1 &&& 0x3f).toInt64.toUInt64).toInt64) &&& (1 : Int64)) = (1 : Int64) then (1 : Int32) else (0 : Int32)))
set_option maxRecDepth 65536 in
set_option maxHeartbeats 40000000 in
theorem rm_method_3 (l : Launch) (Z : State) (a0 : Array Value) (hw : ∀ d ∈ tables_1, d.before a0 Z = true) (ws : List Jvm.Cond) (q1 : Int32)  (h0 : Heap) (n0 : Nat) (Z0 : n0 ≤ h0.size)  :
    MetFree l (⟨"com/example/inscribe/inscribe/core/XmlWhiteSpaceIsWhiteSpacePinLaw", "expected", "(C)Z"⟩ : MethodName) (head1 (Jvm.Cond.code (⟨"com/example/inscribe/inscribe/core/XmlWhiteSpaceIsWhiteSpacePinLaw", "expected", "(C)Z"⟩ : MethodName) method_3_code 1 (some .boolean) :: ws) ({ frames := 0, cells := 0, slots := 0, locals := 0 } : Room)) (fun a U => a = #[(.int q1)] ∧ Z.Warmed39 U.vm ∧ U.heap = h0) (fun _ _ _ _ _ => True) (fun _ U o U' => ∃ v L, o = .returned v ∧ own_P (.int (own_F_method_3 q1)) h0 n0 v U'.heap L ∧ FrameEnd U o U' L ({ frames := 0, cells := 0, slots := 0, locals := 0 } : Room).cells ({ frames := 0, cells := 0, slots := 0, locals := 0 } : Room).slots) := by
  refine MetFree.of_bodySF (plainFor_of_name pn_com_example_inscribe_inscribe_core_XmlWhiteSpaceIsWhiteSpacePinLaw) hisR ?_
  intro p e s m args below meth c s₁ Bd hml0 hP hK
  obtain ⟨rfl, hZ, hh⟩ := hP
  have hx := Bd.exec
  have hby := Bd.bytes
  have hlk : meth.locks = false := BodyLoose.notSynchronized Bd
  have hml : c.maxLocals = 1 := hml0
  have hown : s.vm.findClass "com/example/inscribe/inscribe/core/XmlWhiteSpaceIsWhiteSpacePinLaw" = some m.cls := findClass_of_methodNamed Bd.named
  have hnm := (name_of_methodNamed Bd.named Bd.method).1
  have X0 : Stand p l e ({ frames := 0, cells := 0, slots := 0, locals := 0 } : Room) s m #[(.int q1)] below meth c s₁ [] 0 0 := Stand.of_body Bd
  have e0 : s₁.heap = h0 := by rw [← hh, Bd.state]; rfl
  have N0 := Fr.nil n0
  refine own_cast (K := own_K s (own_P (.int (own_F_method_3 q1)) h0 n0) 0 0) (ef_method_3 m q1) ?_
  generalize hKK : own_K s (own_P (.int (own_F_method_3 q1)) h0 n0) 0 0 = KK
  show own_Go p e below KK s₁ (mkF m 0 #[.val (.int q1)] [])
  refine own_at (fun t k => XS.iloadN X0.here hx rfl (hb hby d_method_3_0) rfl k) ?_
  show own_Go p e below KK s₁ (mkF m 1 #[.val (.int q1)] [(.int q1)])
  refine own_at (fun t k => XS.bipush X0.here hx rfl (hb hby d_method_3_1) k) ?_
  show own_Go p e below KK s₁ (mkF m 3 #[.val (.int q1)] [(.int 32), (.int q1)])
  by_cases hc3 : (32 : Int32) < q1
  · refine own_at (fun t k => XS.icmpNo X0.here hx rfl (hb hby d_method_3_3) rfl (Jvm.Free.XT.ii_le_f hc3) k) ?_
    show own_Go p e below KK s₁ (mkF m 6 #[.val (.int q1)] [])
    refine own_at (fun t k => XS.iconst X0.here hx rfl (hb hby d_method_3_6) k) ?_
    show own_Go p e below KK s₁ (mkF m 7 #[.val (.int q1)] [(.int 0)])
    subst hKK
    exact own_retN X0 hx hlk (t := .boolean) Bd.returns (by simp) (hb hby d_method_3_7) (w := (own_F_method_3 q1)) ((show nar .boolean (0 : Int32) = (0 : Int32) from by decide).trans (show (0 : Int32) = (own_F_method_3 q1) from by unfold own_F_method_3; rw [if_pos hc3])) ⟨rfl, N0, e0⟩ (Nat.le_of_ble_eq_true rfl) (Nat.le_of_ble_eq_true rfl)
  · refine own_at (fun t k => XS.icmpYes X0.here hx rfl (pc0 := 3) (pc' := 8) rfl (hb hby d_method_3_3) rfl (Jvm.Free.XT.ii_le_t hc3) (by decide) (by decide) k) ?_
    show own_Go p e below KK s₁ (mkF m 8 #[.val (.int q1)] [])
    refine own_at (fun t k => X0.ldc2Long hx hown (mvT hZ (hw _ (List.mem_of_getElem? (i := 11) rfl))) (g := (mkF m 8 #[.val (.int q1)] [])) rfl (hb hby d_method_3_8) t k) ?_
    show own_Go p e below KK s₁ (mkF m 11 #[.val (.int q1)] [(.long 4294977024)])
    refine own_at (fun t k => XS.iloadN X0.here hx rfl (hb hby d_method_3_11) rfl k) ?_
    show own_Go p e below KK s₁ (mkF m 12 #[.val (.int q1)] [(.int q1), (.long 4294977024)])
    refine own_at (fun t k => XS.lushr X0.here hx rfl (hb hby d_method_3_12) rfl k) ?_
    show own_Go p e below KK s₁ (mkF m 13 #[.val (.int q1)] [(.long (((4294977024 : Int64).toUInt64 >>> (q1 &&& 0x3f).toInt64.toUInt64).toInt64))])
    refine own_at (fun t k => XS.lconst X0.here hx rfl (hb hby d_method_3_13) k) ?_
    show own_Go p e below KK s₁ (mkF m 14 #[.val (.int q1)] [(.long 1), (.long (((4294977024 : Int64).toUInt64 >>> (q1 &&& 0x3f).toInt64.toUInt64).toInt64))])
    refine own_at (fun t k => XS.land X0.here hx rfl (hb hby d_method_3_14) rfl k) ?_
    show own_Go p e below KK s₁ (mkF m 15 #[.val (.int q1)] [(.long ((((4294977024 : Int64).toUInt64 >>> (q1 &&& 0x3f).toInt64.toUInt64).toInt64) &&& (1 : Int64)))])
    refine own_at (fun t k => XS.lconst X0.here hx rfl (hb hby d_method_3_15) k) ?_
    show own_Go p e below KK s₁ (mkF m 16 #[.val (.int q1)] [(.long 1), (.long ((((4294977024 : Int64).toUInt64 >>> (q1 &&& 0x3f).toInt64.toUInt64).toInt64) &&& (1 : Int64)))])
    refine own_at (fun t k => Jvm.Free.XT.lcmp X0.here hx rfl (hb hby d_method_3_16) rfl k) ?_
    show own_Go p e below KK s₁ (mkF m 17 #[.val (.int q1)] [(.int (Jvm.Free.XT.cmpL ((((4294977024 : Int64).toUInt64 >>> (q1 &&& 0x3f).toInt64.toUInt64).toInt64) &&& (1 : Int64)) (1 : Int64)))])
    by_cases hc17 : ((((4294977024 : Int64).toUInt64 >>> (q1 &&& 0x3f).toInt64.toUInt64).toInt64) &&& (1 : Int64)) = (1 : Int64)
    · refine own_at (fun t k => XS.ifNo X0.here hx rfl (hb hby d_method_3_17) rfl (Jvm.Free.XT.ll_ne_f hc17) k) ?_
      show own_Go p e below KK s₁ (mkF m 20 #[.val (.int q1)] [])
      refine own_at (fun t k => XS.iconst X0.here hx rfl (hb hby d_method_3_20) k) ?_
      show own_Go p e below KK s₁ (mkF m 21 #[.val (.int q1)] [(.int 1)])
      refine own_at (fun t k => XS.goto X0.here hx rfl (pc0 := 21) (pc' := 25) rfl (hb hby d_method_3_21) (by decide) (by decide) k) ?_
      show own_Go p e below KK s₁ (mkF m 25 #[.val (.int q1)] [(.int 1)])
      subst hKK
      exact own_retN X0 hx hlk (t := .boolean) Bd.returns (by simp) (hb hby d_method_3_25) (w := (own_F_method_3 q1)) ((show nar .boolean (1 : Int32) = (1 : Int32) from by decide).trans (show (1 : Int32) = (own_F_method_3 q1) from by unfold own_F_method_3; rw [if_neg hc3, if_pos hc17])) ⟨rfl, N0, e0⟩ (Nat.le_of_ble_eq_true rfl) (Nat.le_of_ble_eq_true rfl)
    · refine own_at (fun t k => XS.ifYes X0.here hx rfl (pc0 := 17) (pc' := 24) rfl (hb hby d_method_3_17) rfl (Jvm.Free.XT.ll_ne_t hc17) (by decide) (by decide) k) ?_
      show own_Go p e below KK s₁ (mkF m 24 #[.val (.int q1)] [])
      refine own_at (fun t k => XS.iconst X0.here hx rfl (hb hby d_method_3_24) k) ?_
      show own_Go p e below KK s₁ (mkF m 25 #[.val (.int q1)] [(.int 0)])
      subst hKK
      exact own_retN X0 hx hlk (t := .boolean) Bd.returns (by simp) (hb hby d_method_3_25) (w := (own_F_method_3 q1)) ((show nar .boolean (0 : Int32) = (0 : Int32) from by decide).trans (show (0 : Int32) = (own_F_method_3 q1) from by unfold own_F_method_3; rw [if_neg hc3, if_neg hc17])) ⟨rfl, N0, e0⟩ (Nat.le_of_ble_eq_true rfl) (Nat.le_of_ble_eq_true rfl)
theorem ef_law (m : MethodId) (x0 : Int32) (x1 : Int32) : entryFrame m #[(.int x0), (.int x1)] maxLocals = mkF m 0 #[.val (.int x0), .val (.int x1), .unset, .unset] [] := by first | (simp [entryFrame, mkF, argsToLocals, Value.category, maxLocals]; done) | rfl
theorem own_lI0 : (0 : Int32).toInt = 0 := rfl
theorem own_lI9 : (9 : Int32).toInt = 9 := rfl
theorem own_lI10 : (10 : Int32).toInt = 10 := rfl
theorem own_lI13 : (13 : Int32).toInt = 13 := rfl
theorem own_lI32 : (32 : Int32).toInt = 32 := rfl
theorem own_in : ∀ n : Fin 33, own_F_prog_39_2 (Int32.ofInt (n.val : Int)) = own_F_method_3 (Int32.ofInt (n.val : Int)) := by decide +kernel
theorem own_same {c x : Int32} (hc : c = x.toUInt32.toUInt16.toUInt32.toInt32) : own_F_prog_39_2 c = own_F_method_3 c := by
  have h0 := c_i2c x
  rw [← hc] at h0
  by_cases h : c.toInt < 33
  · have q := own_in ⟨c.toInt.toNat, by omega⟩
    rw [show ((c.toInt.toNat : Nat) : Int) = c.toInt from by omega, Int32.ofInt_toInt] at q
    exact q
  · have e2 : own_F_method_3 c = 0 := by
      unfold own_F_method_3
      rw [if_pos (by simp only [Int32.lt_iff_toInt_lt, own_lI0, own_lI9, own_lI10, own_lI13, own_lI32] at *; omega)]
    have e0 : own_F_prog_39_9 c = 0 := by
      unfold own_F_prog_39_9
      rw [if_neg (fun q => h (by rw [q]; decide)), if_neg (fun q => h (by rw [q]; decide))]
    rw [e2]
    unfold own_F_prog_39_2
    rw [if_neg (fun q => h (by rw [q]; decide)), if_neg (fun q => h (by rw [q]; decide)), if_pos e0]
def own_Q (n0 : Nat) (v : Option Value) (h : Heap) (L : List Loc) : Prop := v = some (.int 1) ∧ Fr n0 L
set_option maxRecDepth 65536 in
set_option maxHeartbeats 40000000 in
theorem rm_law (l : Launch) (Z : State) (a0 : Array Value) (hw : ∀ d ∈ tables_1, d.before a0 Z = true) (ws : List Jvm.Cond) (p1 : Int32) (p2 : Int32)  (h0 : Heap) (n0 : Nat) (Z0 : n0 ≤ h0.size)  :
    MetFree l x (head1 (Jvm.Cond.code x code maxLocals ret :: ws) room_1) (fun a U => a = #[(.int p1), (.int p2)] ∧ Z.Warmed39 U.vm ∧ U.heap = h0) (fun _ _ _ _ _ => True) (fun _ U o U' => ∃ v L, o = .returned v ∧ own_Q n0 v U'.heap L ∧ FrameEnd U o U' L room_1.cells room_1.slots) := by
  refine MetFree.of_bodySF (plainFor_of_name pn_com_example_inscribe_inscribe_core_XmlWhiteSpaceIsWhiteSpacePinLaw) hisR ?_
  intro p e s m args below meth c s₁ Bd hml0 hP hK
  obtain ⟨rfl, hZ, hh⟩ := hP
  have hx := Bd.exec
  have hby := Bd.bytes
  have hlk : meth.locks = false := BodyLoose.notSynchronized Bd
  have hml : c.maxLocals = 4 := hml0
  have hown : s.vm.findClass "com/example/inscribe/inscribe/core/XmlWhiteSpaceIsWhiteSpacePinLaw" = some m.cls := findClass_of_methodNamed Bd.named
  have hnm := (name_of_methodNamed Bd.named Bd.method).1
  have X0 : Stand p l e room_1 s m #[(.int p1), (.int p2)] below meth c s₁ [] 0 0 := Stand.of_body Bd
  have e0 : s₁.heap = h0 := by rw [← hh, Bd.state]; rfl
  have N0 := Fr.nil n0
  refine own_cast (K := own_K s (own_Q n0) room_1.cells room_1.slots) (ef_law m p1 p2) ?_
  generalize hKK : own_K s (own_Q n0) room_1.cells room_1.slots = KK
  show own_Go p e below KK s₁ (mkF m 0 #[.val (.int p1), .val (.int p2), .unset, .unset] [])
  refine own_at (fun t k => XS.iloadN X0.here hx rfl (hb hby at_0) rfl k) ?_
  show own_Go p e below KK s₁ (mkF m 1 #[.val (.int p1), .val (.int p2), .unset, .unset] [(.int p1)])
  refine own_at (fun t k => XS.i2c X0.here hx rfl (hb hby at_1) rfl k) ?_
  show own_Go p e below KK s₁ (mkF m 2 #[.val (.int p1), .val (.int p2), .unset, .unset] [(.int (p1.toUInt32.toUInt16.toUInt32.toInt32))])
  obtain ⟨wd, hwd⟩ : ∃ z, z = (p1.toUInt32.toUInt16.toUInt32.toInt32) := ⟨_, rfl⟩
  rw [← hwd]
  show own_Go p e below KK s₁ (mkF m 2 #[.val (.int p1), .val (.int p2), .unset, .unset] [(.int wd)])
  refine own_at (fun t k => XS.istoreN X0.here hx rfl (hb hby at_2) rfl (l' := #[.val (.int p1), .val (.int p2), .val (.int wd), .unset]) rfl k) ?_
  show own_Go p e below KK s₁ (mkF m 3 #[.val (.int p1), .val (.int p2), .val (.int wd), .unset] [])
  refine own_at (fun t k => XS.iloadN X0.here hx rfl (hb hby at_3) rfl k) ?_
  show own_Go p e below KK s₁ (mkF m 4 #[.val (.int p1), .val (.int p2), .val (.int wd), .unset] [(.int p2)])
  refine own_at (fun t k => XS.bipush X0.here hx rfl (hb hby at_4) k) ?_
  show own_Go p e below KK s₁ (mkF m 6 #[.val (.int p1), .val (.int p2), .val (.int wd), .unset] [(.int 63), (.int p2)])
  refine own_at (fun t k => XS.iand X0.here hx rfl (hb hby at_6) rfl k) ?_
  show own_Go p e below KK s₁ (mkF m 7 #[.val (.int p1), .val (.int p2), .val (.int wd), .unset] [(.int (p2 &&& (63 : Int32)))])
  refine own_at (fun t k => XS.i2c X0.here hx rfl (hb hby at_7) rfl k) ?_
  show own_Go p e below KK s₁ (mkF m 8 #[.val (.int p1), .val (.int p2), .val (.int wd), .unset] [(.int ((p2 &&& (63 : Int32)).toUInt32.toUInt16.toUInt32.toInt32))])
  obtain ⟨lo, hlo⟩ : ∃ z, z = ((p2 &&& (63 : Int32)).toUInt32.toUInt16.toUInt32.toInt32) := ⟨_, rfl⟩
  rw [← hlo]
  show own_Go p e below KK s₁ (mkF m 8 #[.val (.int p1), .val (.int p2), .val (.int wd), .unset] [(.int lo)])
  refine own_at (fun t k => XS.istoreN X0.here hx rfl (hb hby at_8) rfl (l' := #[.val (.int p1), .val (.int p2), .val (.int wd), .val (.int lo)]) rfl k) ?_
  show own_Go p e below KK s₁ (mkF m 9 #[.val (.int p1), .val (.int p2), .val (.int wd), .val (.int lo)] [])
  refine own_at (fun t k => XS.iloadN X0.here hx rfl (hb hby at_9) rfl k) ?_
  show own_Go p e below KK s₁ (mkF m 10 #[.val (.int p1), .val (.int p2), .val (.int wd), .val (.int lo)] [(.int wd)])
  obtain ⟨_, _, ⟨T1, L1, k1, n1⟩, -, X1, ⟨Lc1, hQ1, l1, y1, z1⟩, st1⟩ := Jvm.LawKit.callS X0 hx (y := (⟨"com/example/inscribe/inscribe/core/XmlWhiteSpace", "isWhiteSpace", "(C)Z"⟩ : MethodName)) hown (mvT hZ (hw _ (List.mem_of_getElem? (i := 0) rfl))) (mvT hZ (hw _ (List.mem_of_getElem? (i := 1) rfl))) (mvT hZ (hw _ (List.mem_of_getElem? (i := 2) rfl))) (mvT hZ (hw _ (List.mem_of_getElem? (i := 3) rfl))) (by decide) (backOf (W := 0) (rm_prog_39_2 l Z a0 hw [] wd  h0 n0 Z0 ) hZ (hw _ (List.mem_of_getElem? (i := 3) rfl)) (hw _ (List.mem_of_getElem? (i := 2) rfl)) (by decide) (by decide)) (g := (mkF m 10 #[.val (.int p1), .val (.int p2), .val (.int wd), .val (.int lo)] [(.int wd)])) rfl (by rw [hml]; rfl) (argsL := [(.int wd)]) (rest := []) (lenOf pd__C_Z rfl) rfl (by show 2 * 0 + _ ≤ _; exact Nat.le_of_eq rfl) (hb hby at_10) (fun _ _ => ⟨rfl, e0, (by decide : 0 + 0 ≤ _), (by decide : 0 + 0 ≤ _)⟩)
  dsimp only [Pt.U, Pt.locs, Pt.cells, Pt.slots] at X1 l1 y1 z1 st1 hQ1
  subst l1 y1 z1
  obtain ⟨rfl, N1q, e1⟩ := hQ1
  have N1 := Fr.app N0 N1q
  refine own_of (fun t k => st1 t k) ?_
  show own_Go p e below KK T1 (mkF m 13 #[.val (.int p1), .val (.int p2), .val (.int wd), .val (.int lo)] [(.int (own_F_prog_39_2 wd))])
  refine own_at (fun t k => XS.iloadN X1.here hx rfl (hb hby at_13) rfl k) ?_
  show own_Go p e below KK T1 (mkF m 14 #[.val (.int p1), .val (.int p2), .val (.int wd), .val (.int lo)] [(.int wd), (.int (own_F_prog_39_2 wd))])
  obtain ⟨_, _, ⟨T2, L2, k2, n2⟩, -, X2, ⟨Lc2, hQ2, l2, y2, z2⟩, st2⟩ := Jvm.LawKit.callS X1 hx (y := (⟨"com/example/inscribe/inscribe/core/XmlWhiteSpaceIsWhiteSpacePinLaw", "expected", "(C)Z"⟩ : MethodName)) hown (mvT hZ (hw _ (List.mem_of_getElem? (i := 7) rfl))) (mvT hZ (hw _ (List.mem_of_getElem? (i := 8) rfl))) (mvT hZ (hw _ (List.mem_of_getElem? (i := 9) rfl))) (mvT hZ (hw _ (List.mem_of_getElem? (i := 10) rfl))) (by decide) (backOf (W := 1) (rm_method_3 l Z a0 hw [] wd  h0 n0 Z0 ) hZ (hw _ (List.mem_of_getElem? (i := 10) rfl)) (hw _ (List.mem_of_getElem? (i := 9) rfl)) (by decide) (by decide)) (g := (mkF m 14 #[.val (.int p1), .val (.int p2), .val (.int wd), .val (.int lo)] [(.int wd), (.int (own_F_prog_39_2 wd))])) rfl (by rw [hml]; rfl) (argsL := [(.int wd)]) (rest := [(.int (own_F_prog_39_2 wd))]) (lenOf pd__C_Z rfl) rfl (by show 2 * 0 + _ ≤ _; exact Nat.le_of_eq rfl) (hb hby at_14) (fun _ _ => ⟨rfl, e1, (by decide : 0 + 0 ≤ _), (by decide : 0 + 0 ≤ _)⟩)
  dsimp only [Pt.U, Pt.locs, Pt.cells, Pt.slots] at X2 l2 y2 z2 st2 hQ2
  subst l2 y2 z2
  obtain ⟨rfl, N2q, e2⟩ := hQ2
  have N2 := Fr.app N1 N2q
  refine own_of (fun t k => st2 t k) ?_
  show own_Go p e below KK T2 (mkF m 17 #[.val (.int p1), .val (.int p2), .val (.int wd), .val (.int lo)] [(.int (own_F_method_3 wd)), (.int (own_F_prog_39_2 wd))])
  have hc17 : (own_F_prog_39_2 wd) = (own_F_method_3 wd) := own_same hwd
  refine own_at (fun t k => XS.icmpNo X2.here hx rfl (hb hby at_17) rfl (Jvm.Free.XT.ii_ne_f hc17) k) ?_
  show own_Go p e below KK T2 (mkF m 20 #[.val (.int p1), .val (.int p2), .val (.int wd), .val (.int lo)] [])
  refine own_at (fun t k => XS.iloadN X2.here hx rfl (hb hby at_20) rfl k) ?_
  show own_Go p e below KK T2 (mkF m 21 #[.val (.int p1), .val (.int p2), .val (.int wd), .val (.int lo)] [(.int lo)])
  obtain ⟨_, _, ⟨T3, L3, k3, n3⟩, -, X3, ⟨Lc3, hQ3, l3, y3, z3⟩, st3⟩ := Jvm.LawKit.callS X2 hx (y := (⟨"com/example/inscribe/inscribe/core/XmlWhiteSpace", "isWhiteSpace", "(C)Z"⟩ : MethodName)) hown (mvT hZ (hw _ (List.mem_of_getElem? (i := 0) rfl))) (mvT hZ (hw _ (List.mem_of_getElem? (i := 1) rfl))) (mvT hZ (hw _ (List.mem_of_getElem? (i := 2) rfl))) (mvT hZ (hw _ (List.mem_of_getElem? (i := 3) rfl))) (by decide) (backOf (W := 0) (rm_prog_39_2 l Z a0 hw [] lo  h0 n0 Z0 ) hZ (hw _ (List.mem_of_getElem? (i := 3) rfl)) (hw _ (List.mem_of_getElem? (i := 2) rfl)) (by decide) (by decide)) (g := (mkF m 21 #[.val (.int p1), .val (.int p2), .val (.int wd), .val (.int lo)] [(.int lo)])) rfl (by rw [hml]; rfl) (argsL := [(.int lo)]) (rest := []) (lenOf pd__C_Z rfl) rfl (by show 2 * 0 + _ ≤ _; exact Nat.le_of_eq rfl) (hb hby at_21) (fun _ _ => ⟨rfl, e2, (by decide : 0 + 0 ≤ _), (by decide : 0 + 0 ≤ _)⟩)
  dsimp only [Pt.U, Pt.locs, Pt.cells, Pt.slots] at X3 l3 y3 z3 st3 hQ3
  subst l3 y3 z3
  obtain ⟨rfl, N3q, e3⟩ := hQ3
  have N3 := Fr.app N2 N3q
  refine own_of (fun t k => st3 t k) ?_
  show own_Go p e below KK T3 (mkF m 24 #[.val (.int p1), .val (.int p2), .val (.int wd), .val (.int lo)] [(.int (own_F_prog_39_2 lo))])
  refine own_at (fun t k => XS.iloadN X3.here hx rfl (hb hby at_24) rfl k) ?_
  show own_Go p e below KK T3 (mkF m 25 #[.val (.int p1), .val (.int p2), .val (.int wd), .val (.int lo)] [(.int lo), (.int (own_F_prog_39_2 lo))])
  obtain ⟨_, _, ⟨T4, L4, k4, n4⟩, -, X4, ⟨Lc4, hQ4, l4, y4, z4⟩, st4⟩ := Jvm.LawKit.callS X3 hx (y := (⟨"com/example/inscribe/inscribe/core/XmlWhiteSpaceIsWhiteSpacePinLaw", "expected", "(C)Z"⟩ : MethodName)) hown (mvT hZ (hw _ (List.mem_of_getElem? (i := 7) rfl))) (mvT hZ (hw _ (List.mem_of_getElem? (i := 8) rfl))) (mvT hZ (hw _ (List.mem_of_getElem? (i := 9) rfl))) (mvT hZ (hw _ (List.mem_of_getElem? (i := 10) rfl))) (by decide) (backOf (W := 1) (rm_method_3 l Z a0 hw [] lo  h0 n0 Z0 ) hZ (hw _ (List.mem_of_getElem? (i := 10) rfl)) (hw _ (List.mem_of_getElem? (i := 9) rfl)) (by decide) (by decide)) (g := (mkF m 25 #[.val (.int p1), .val (.int p2), .val (.int wd), .val (.int lo)] [(.int lo), (.int (own_F_prog_39_2 lo))])) rfl (by rw [hml]; rfl) (argsL := [(.int lo)]) (rest := [(.int (own_F_prog_39_2 lo))]) (lenOf pd__C_Z rfl) rfl (by show 2 * 0 + _ ≤ _; exact Nat.le_of_eq rfl) (hb hby at_25) (fun _ _ => ⟨rfl, e3, (by decide : 0 + 0 ≤ _), (by decide : 0 + 0 ≤ _)⟩)
  dsimp only [Pt.U, Pt.locs, Pt.cells, Pt.slots] at X4 l4 y4 z4 st4 hQ4
  subst l4 y4 z4
  obtain ⟨rfl, N4q, e4⟩ := hQ4
  have N4 := Fr.app N3 N4q
  refine own_of (fun t k => st4 t k) ?_
  show own_Go p e below KK T4 (mkF m 28 #[.val (.int p1), .val (.int p2), .val (.int wd), .val (.int lo)] [(.int (own_F_method_3 lo)), (.int (own_F_prog_39_2 lo))])
  have hc28 : (own_F_prog_39_2 lo) = (own_F_method_3 lo) := own_same hlo
  refine own_at (fun t k => XS.icmpNo X4.here hx rfl (hb hby at_28) rfl (Jvm.Free.XT.ii_ne_f hc28) k) ?_
  show own_Go p e below KK T4 (mkF m 31 #[.val (.int p1), .val (.int p2), .val (.int wd), .val (.int lo)] [])
  refine own_at (fun t k => XS.iconst X4.here hx rfl (hb hby at_31) k) ?_
  show own_Go p e below KK T4 (mkF m 32 #[.val (.int p1), .val (.int p2), .val (.int wd), .val (.int lo)] [(.int 1)])
  refine own_at (fun t k => XS.goto X4.here hx rfl (pc0 := 32) (pc' := 36) rfl (hb hby at_32) (by decide) (by decide) k) ?_
  show own_Go p e below KK T4 (mkF m 36 #[.val (.int p1), .val (.int p2), .val (.int wd), .val (.int lo)] [(.int 1)])
  subst hKK
  exact own_retN X4 hx hlk (t := .boolean) Bd.returns (by simp) (hb hby at_36) (w := (1 : Int32)) (show nar .boolean (1 : Int32) = 1 from by decide) ⟨rfl, N4⟩ (Nat.le_of_ble_eq_true rfl) (Nat.le_of_ble_eq_true rfl)
set_option maxRecDepth 65536 in
set_option maxHeartbeats 40000000 in
theorem comes_1 {Post : Tables → Env → Array Value → State → Outcome → State → Prop} (hpost : ∀ tb e args s v u, (limb_1_1.after args s (.returned v) u = true ∧ limb_1_2.after args s (.returned v) u = true ∧ True) → FrameEnd s (.returned v) u (Jvm.fieldLocs frame_1_writes args s ++ Jvm.arrayLocs frame_1_arrays args s ++ Jvm.staticLocs frame_1_statics s) 0 0 → Post tb e args s (.returned v) u) :
    ArmFor flags0 classFile x code maxLocals ret World_1 tables_1 room_1 Calls_1 rest_1 Pre_1 Post := by
  intro l hfl _ _ p e ha hc hk s m args below hf hA hF happ hP
  obtain ⟨hcalls, hrest, hpre⟩ := hP
  obtain ⟨-, -, -, hnamed, -, -, -, hat⟩ := (Spec.applies_iff hf).mp happ
  obtain ⟨hg, hn⟩ := and_e (Cond.before_iff.mp (show (Jvm.Cond.and given_1 narrow_1).before args s = true from hpre))
  obtain ⟨gc, g0⟩ := and_e hg
  obtain ⟨u0, g1⟩ := and_e g0
  obtain ⟨w0, w1, rfl⟩ : ∃ w0 w1 : Value, args = #[w0, w1] := by
    have hs : args.size = 2 := by simpa [Cond.value, given_1] using gc
    obtain ⟨L⟩ := args
    match L, hs with
    | [w0, w1], _ => exact ⟨w0, w1, rfl⟩
  have hw := fun d (hd : d ∈ tables_1) => atoms_spec (ws := Jvm.Cond.code x code maxLocals ret :: tables_1) hat d (List.mem_cons_of_mem _ hd)
  obtain ⟨i0, ei0⟩ := is_v u0
  obtain rfl : w0 = (.int i0) := Option.some.inj ei0
  obtain ⟨i1, ei1⟩ := is_v g1
  obtain rfl : w1 = (.int i1) := Option.some.inj ei1
  obtain ⟨n, o, h1, h2, h3, _, L, rfl, ⟨rfl, N⟩, hq⟩ := rm_law l s _ hw tables_1 i0 i1 s.heap s.heap.size (Nat.le_refl _) p e ha hc hk s m _ below hf ((Spec.applies_iff_loose hf).mp happ).1 ⟨rfl, State.Warmed39.refl s, rfl⟩ trivial
  refine ⟨n, _, h1, h2, h3, hpost _ _ _ _ _ _ ⟨Cond.after_iff.mpr rfl, Cond.after_iff.mpr (eq_i res_at (Term.int_eval (1)) rfl), trivial⟩ ⟨hq.1, hq.2.1, (hq.2.2.sift fun y hy => Or.inr (N y hy)).mono (by decide) (by decide)⟩⟩
theorem main_1_1 : Claimed_1_1 := comes_1 fun _ _ _ _ _ _ h hF => ⟨h.1, hF⟩
theorem main_1_2 : Claimed_1_2 := comes_1 fun _ _ _ _ _ _ h hF => ⟨h.2.1, hF⟩
end Jvm.Pilot.@@N@@
namespace Jvm.Pilot.@@N@@
open Jvm Jvm.ClassFile Sem Op Lib Jvm.Free Jvm.Stand Jvm.Pilot.@@N@@.Jvm.D
/-! MADE BY PROGRAM (witnessworld.py) out of the Statement's table words and the real class files: 9 classes; the members and pool entries that the words name. The judged class is class 1, her method 1. -/
namespace start1
open Jvm.ClassFile
def u (s : String) : CpInfo := .utf8 (stringToUtf16 s)
/-- a pool by its gaps: so many unusable entries, then the entry; so many at the end -/
def gap : Nat → List CpInfo → List CpInfo
  | 0, r => r
  | n + 1, r => .unusable :: gap n r
def poolList (es : List (Nat × CpInfo)) (last : Nat) : List CpInfo := es.foldr (fun e r => gap e.1 (e.2 :: r)) (gap last [])
def pool (es : List (Nat × CpInfo)) (last : Nat) : Array CpInfo := ⟨poolList es last⟩
def fileOf (pool : Array CpInfo) (this : Nat) (attrs : Array Attribute := #[]) (ms : Array MethodInfo := #[]) (fl : Nat := 33) (sup : Nat := 0) (ifs : Array Nat := #[]) (fds : Array FieldInfo := #[]) : ClassFile where
  minorVersion := 0
  majorVersion := 65
  constantPool := pool
  accessFlags := fl
  thisClass := this
  superClass := sup
  interfaces := ifs
  fields := fds
  methods := ms
  attributes := attrs
def plain (name : String) (sup : Option ClassId) : Class where
  name := name
  kind := .ordinary
  loader := none
  accessFlags := 33
  super := sup
  interfaces := #[]
  cf := none
  fields := #[]
  methods := #[]
  instanceTypes := #[]
  staticTypes := #[]
  resolved := #[]
  callSites := []
  init := .initialized
  statics := none
  mirror := none

def pool0 : Array CpInfo := pool [(5, u "<init>"), (0, u "()V"), (1, .class_ 10), (1, u "java/lang/Object")] 113

def k0m0 : Method := { name := "<init>", desc := "()V", sig := { parameters := [], returnType := none }, accessFlags := 1, code := none }
/-- java/lang/Object -/
def k0 : Class := { plain "java/lang/Object" none with
  accessFlags := 33
  interfaces := #[]
  cf := some (fileOf pool0 8 #[] #[{ accessFlags := 1, nameIndex := 5, descriptorIndex := 6, attributes := #[] }] 33 0 #[] #[])
  fields := #[]
  methods := #[k0m0]
  instanceTypes := #[]
  staticTypes := #[]
  resolved := Array.replicate 124 none
  statics := none }

def pool1 : Array CpInfo := pool [(2, .class_ 4), (1, u "java/lang/Object"), (0, u "<init>"), (0, u "()V"), (0, .methodref 8 9), (0, .class_ 10), (0, .nameAndType 11 12), (0, u "com/example/inscribe/inscribe/core/XmlWhiteSpace"), (0, u "isWhiteSpace"), (0, u "(C)Z"), (0, .methodref 14 15), (0, .class_ 16), (0, .nameAndType 17 12), (0, u "com/example/inscribe/inscribe/core/XmlWhiteSpaceIsWhiteSpacePinLaw"), (0, u "expected"), (0, .long 4294977024), (3, u "law"), (0, u "(II)Z")] 3

def k1m0 : Method := { name := "<init>", desc := "()V", sig := { parameters := [], returnType := none }, accessFlags := 2, code := none }
def k1c1 : Code := { maxStack := 2, maxLocals := 4, code := code, exceptionTable := #[], attributes := #[] }
def k1m1 : Method := { name := "law", desc := "(II)Z", sig := { parameters := [.int, .int], returnType := some .boolean }, accessFlags := 9, code := some k1c1 }
def k1c2 : Code := { maxStack := 4, maxLocals := 1, code := method_3_code, exceptionTable := #[], attributes := #[] }
def k1m2 : Method := { name := "expected", desc := "(C)Z", sig := { parameters := [.char], returnType := some .boolean }, accessFlags := 10, code := some k1c2 }
/-- com/example/inscribe/inscribe/core/XmlWhiteSpaceIsWhiteSpacePinLaw -/
def k1 : Class := { plain "com/example/inscribe/inscribe/core/XmlWhiteSpaceIsWhiteSpacePinLaw" (some 0) with
  accessFlags := 49
  interfaces := #[]
  cf := some (fileOf pool1 14 #[] #[{ accessFlags := 2, nameIndex := 5, descriptorIndex := 6, attributes := #[] }, { accessFlags := 9, nameIndex := 22, descriptorIndex := 23, attributes := #[] }, { accessFlags := 10, nameIndex := 17, descriptorIndex := 12, attributes := #[] }] 49 2 #[] #[])
  fields := #[]
  methods := #[k1m0, k1m1, k1m2]
  instanceTypes := #[]
  staticTypes := #[]
  resolved := Array.replicate 27 none
  statics := none }

def pool2 : Array CpInfo := pool [(2, .class_ 4), (1, u "java/lang/Object"), (0, u "<init>"), (0, u "()V"), (0, .methodref 8 9), (0, .class_ 10), (0, .nameAndType 11 12), (0, u "com/example/inscribe/inscribe/core/XmlWhiteSpace"), (0, u "isLineBreak"), (0, u "(C)Z"), (12, u "isWhiteSpace")] 56

def k2m0 : Method := { name := "<init>", desc := "()V", sig := { parameters := [], returnType := none }, accessFlags := 2, code := none }
def k2c1 : Code := { maxStack := 2, maxLocals := 1, code := prog_39_method_2_code, exceptionTable := #[], attributes := #[] }
def k2m1 : Method := { name := "isWhiteSpace", desc := "(C)Z", sig := { parameters := [.char], returnType := some .boolean }, accessFlags := 9, code := some k2c1 }
def k2c2 : Code := { maxStack := 2, maxLocals := 1, code := prog_39_method_9_code, exceptionTable := #[], attributes := #[] }
def k2m2 : Method := { name := "isLineBreak", desc := "(C)Z", sig := { parameters := [.char], returnType := some .boolean }, accessFlags := 10, code := some k2c2 }
/-- com/example/inscribe/inscribe/core/XmlWhiteSpace -/
def k2 : Class := { plain "com/example/inscribe/inscribe/core/XmlWhiteSpace" (some 0) with
  accessFlags := 49
  interfaces := #[]
  cf := some (fileOf pool2 8 #[] #[{ accessFlags := 2, nameIndex := 5, descriptorIndex := 6, attributes := #[] }, { accessFlags := 9, nameIndex := 25, descriptorIndex := 12, attributes := #[] }, { accessFlags := 10, nameIndex := 11, descriptorIndex := 12, attributes := #[] }] 49 2 #[] #[])
  fields := #[]
  methods := #[k2m0, k2m1, k2m2]
  instanceTypes := #[]
  staticTypes := #[]
  resolved := Array.replicate 82 none
  statics := none }

def pool3 : Array CpInfo := pool [(1, u "java/lang/Cloneable"), (0, .class_ 1), (0, u "java/lang/Object"), (0, .class_ 3)] 3

/-- java/lang/Cloneable -/
def k3 : Class := { plain "java/lang/Cloneable" (some 0) with
  accessFlags := 1537
  interfaces := #[]
  cf := some (fileOf pool3 2 #[] #[] 1537 4 #[] #[])
  fields := #[]
  methods := #[]
  instanceTypes := #[]
  staticTypes := #[]
  resolved := Array.replicate 8 none
  statics := none }

def pool4 : Array CpInfo := pool [(1, u "java/io/Serializable"), (0, .class_ 1), (0, u "java/lang/Object"), (0, .class_ 3)] 3

/-- java/io/Serializable -/
def k4 : Class := { plain "java/io/Serializable" (some 0) with
  accessFlags := 1537
  interfaces := #[]
  cf := some (fileOf pool4 2 #[] #[] 1537 4 #[] #[])
  fields := #[]
  methods := #[]
  instanceTypes := #[]
  staticTypes := #[]
  resolved := Array.replicate 8 none
  statics := none }

/-- the primitive byte -/
def k5 : Class := { plain "byte" none with kind := .primitive 'B', accessFlags := 0x411 }
/-- [B -/
def k6 : Class := { plain "[B" (some 0) with kind := .array 5 .byte, interfaces := #[3, 4], accessFlags := 1041 }

/-- the primitive int -/
def k7 : Class := { plain "int" none with kind := .primitive 'I', accessFlags := 0x411 }
/-- [I -/
def k8 : Class := { plain "[I" (some 0) with kind := .array 7 .int, interfaces := #[3, 4], accessFlags := 1041 }

def heap : Heap := #[]
def classes : Array Class := #[k0, k1, k2, k3, k4, k5, k6, k7, k8]
def interned : List (Array UInt16 × Addr) := []
def slotsUsed : Nat := 0
def theMethod : MethodId := ⟨1, 1⟩
def args0 : Array Value := #[.int 5, .int 9]
def aboutOver (below : List Frame) : State where
  vm := { classes := classes, interned := interned.toArray }
  heap := heap
  slotsUsed := slotsUsed
  threads := #[{ frames := .invoking theMethod args0 :: below }]
def below0 : List Frame := [.native { method := ⟨0, 0⟩, args := #[] }]
def about1 : State := aboutOver below0
def p0 : Program := .bare "" "" ""
def e0 : Env := launch0.env 0 0 0
theorem w_frames : about1.frames = Frame.invoking theMethod args0 :: below0 := rfl
set_option maxRecDepth 65536 in
theorem w_args : argsFit about1.vm theMethod args0 = true := by decide +kernel
set_option maxRecDepth 65536 in
theorem w_heap : heapFits about1 = true := by decide +kernel
set_option maxRecDepth 65536 in
theorem w_runnable : about1.curStatus? = some .runnable := by decide +kernel
set_option maxRecDepth 65536 in
theorem w_alone : about1.alone = true := by decide +kernel
set_option maxRecDepth 65536 in
theorem w_named : about1.methodNamed? x = some theMethod := by decide +kernel
set_option maxRecDepth 65536 in
theorem w_hears : about1.hears theMethod below0 = true := by decide +kernel
set_option maxRecDepth 65536 in
theorem w_ripe : about1.ripe theMethod args0 below0 = true := by decide +kernel
theorem w_running : about1.status = .running := rfl
set_option maxRecDepth 65536 in
theorem w_room : about1.hasRoom e0.platform room_1 = true :=
  launch0.hasRoom_least _ room_1 (by decide +kernel) (by decide +kernel) (by decide +kernel) (by decide +kernel) (by decide +kernel) (by decide +kernel)
theorem allAtoms_all (ts : List Jvm.Cond) (a : Array Jvm.Value) (st : Jvm.State) : (allAtoms ts).before a st = ts.all (fun c => c.before a st) := by
  induction ts with
  | nil => rfl
  | cons c t ih =>
    show (Jvm.Cond.and c (allAtoms t)).before a st = _
    rw [Jvm.Cond.before_and, ih, List.all_cons]
def words1 : List Jvm.Cond := Jvm.Cond.code x code maxLocals ret :: tables_1
/-- a 'code' word, met by the world's own term for the bytes: nothing is compared byte by byte -/
theorem code_word {y : MethodName} {bytes : ByteArray} {mx : Nat} {rt : Option FieldType} {a : Array Value} {s : State} {m : MethodId} {meth : Method} {c : Code} (h1 : s.methodNamed? y = some m) (h2 : s.vm.method? m = some meth) (h3 : meth.code = some c) (h4 : c.code = bytes)
    (h5 : (c.maxLocals == mx && c.exceptionTable.isEmpty && decide (c.maxStack ≤ mostOperands) && decide (meth.sig.returnType = rt) && !meth.locks && decide (parseMethodDescriptor y.desc = some meth.sig)) = true) : (Jvm.Cond.code y bytes mx rt).before a s = true := by
  simp only [Bool.and_eq_true, beq_iff_eq, Bool.not_eq_true', decide_eq_true_eq] at h5
  obtain ⟨⟨⟨⟨⟨g1, g2⟩, g3⟩, g4⟩, g5⟩, g6⟩ := h5
  simp [Cond.before, Cond.holds, Cond.value, h1, h2, h3, h4, g1, g2, g3, g4, g5, g6]
def isCode : Jvm.Cond → Bool
  | .code _ _ _ _ => true
  | _ => false
theorem all_split {L : List Jvm.Cond} {P : Jvm.Cond → Bool} (h1 : L.all (fun c => isCode c || P c) = true) (h2 : ∀ c ∈ L.filter isCode, P c = true) : L.all P = true := by
  refine List.all_eq_true.mpr fun c hc => ?_
  have h := List.all_eq_true.mp h1 c hc
  rcases Bool.eq_false_or_eq_true (isCode c) with hi | hi
  · exact h2 c (List.mem_filter.mpr ⟨hc, hi⟩)
  · simpa [hi] using h
set_option maxRecDepth 65536 in
theorem w_c0 : (Jvm.Cond.code x code maxLocals ret).before args0 about1 = true := code_word (m := ⟨1, 1⟩) (meth := k1m1) (c := k1c1) (by decide +kernel) rfl rfl rfl (by decide +kernel)
set_option maxRecDepth 65536 in
theorem w_c1 : (Jvm.Cond.code ({ cls := "com/example/inscribe/inscribe/core/XmlWhiteSpace", name := "isWhiteSpace", desc := "(C)Z" } : Jvm.MethodName) prog_39_method_2_code (1 : Nat) (Option.some Jvm.ClassFile.FieldType.boolean)).before args0 about1 = true := code_word (m := ⟨2, 1⟩) (meth := k2m1) (c := k2c1) (by decide +kernel) rfl rfl rfl (by decide +kernel)
set_option maxRecDepth 65536 in
theorem w_c2 : (Jvm.Cond.code ({ cls := "com/example/inscribe/inscribe/core/XmlWhiteSpace", name := "isLineBreak", desc := "(C)Z" } : Jvm.MethodName) prog_39_method_9_code (1 : Nat) (Option.some Jvm.ClassFile.FieldType.boolean)).before args0 about1 = true := code_word (m := ⟨2, 2⟩) (meth := k2m2) (c := k2c2) (by decide +kernel) rfl rfl rfl (by decide +kernel)
set_option maxRecDepth 65536 in
theorem w_c3 : (Jvm.Cond.code ({ cls := "com/example/inscribe/inscribe/core/XmlWhiteSpaceIsWhiteSpacePinLaw", name := "expected", desc := "(C)Z" } : Jvm.MethodName) method_3_code (1 : Nat) (Option.some Jvm.ClassFile.FieldType.boolean)).before args0 about1 = true := code_word (m := ⟨1, 2⟩) (meth := k1m2) (c := k1c2) (by decide +kernel) rfl rfl rfl (by decide +kernel)
def codes1 : List Jvm.Cond := [Jvm.Cond.code x code maxLocals ret, Jvm.Cond.code ({ cls := "com/example/inscribe/inscribe/core/XmlWhiteSpace", name := "isWhiteSpace", desc := "(C)Z" } : Jvm.MethodName) prog_39_method_2_code (1 : Nat) (Option.some Jvm.ClassFile.FieldType.boolean), Jvm.Cond.code ({ cls := "com/example/inscribe/inscribe/core/XmlWhiteSpace", name := "isLineBreak", desc := "(C)Z" } : Jvm.MethodName) prog_39_method_9_code (1 : Nat) (Option.some Jvm.ClassFile.FieldType.boolean), Jvm.Cond.code ({ cls := "com/example/inscribe/inscribe/core/XmlWhiteSpaceIsWhiteSpacePinLaw", name := "expected", desc := "(C)Z" } : Jvm.MethodName) method_3_code (1 : Nat) (Option.some Jvm.ClassFile.FieldType.boolean)]
set_option maxRecDepth 65536 in
theorem codes_eq : words1.filter isCode = codes1 := rfl
theorem w_codes : ∀ c ∈ words1.filter isCode, c.before args0 about1 = true := by
  rw [codes_eq]
  intro c hc
  simp only [codes1, List.mem_cons, List.not_mem_nil, or_false] at hc
  rcases hc with rfl | rfl | rfl | rfl
  · exact w_c0
  · exact w_c1
  · exact w_c2
  · exact w_c3
set_option maxRecDepth 65536 in
theorem w_t1 : words1.all (fun c => isCode c || c.before args0 about1) = true := by decide +kernel
theorem w_tables : (allAtoms (Jvm.Cond.code x code maxLocals ret :: tables_1)).before args0 about1 = true := by
  rw [allAtoms_all]
  show words1.all (fun c => c.before args0 about1) = true
  refine all_split ?_ w_codes
  rw [w_t1]
set_option maxRecDepth 65536 in
theorem w_case : (Jvm.Cond.and given_1 narrow_1).before args0 about1 = true := by decide +kernel
theorem w_applies : (headSpec (Jvm.Cond.code x code maxLocals ret :: tables_1) room_1).applies x e0.platform about1 = true :=
  (Spec.applies_iff w_frames).mpr ⟨w_running, w_runnable, w_alone, w_named, w_hears, w_ripe, w_room, w_tables⟩
theorem atStart : AtStart classFile x code maxLocals ret World_1 tables_1 room_1 Calls_1 rest_1 Pre_1 launch0 p0 e0 about1 theMethod args0 below0 :=
  ⟨lists_1, trivial, launch0.admits_env _ _ _, launch0.least_env, fairChoices_fair.cas, fairChoices_fair.clock, w_frames, w_args, w_heap, w_applies, trivial, trivial, w_case⟩
end start1
theorem witness_1 : WitnessClaimed_1 := ⟨start1.p0, start1.e0, start1.about1, start1.theMethod, start1.args0, start1.below0, start1.atStart⟩
end Jvm.Pilot.@@N@@
