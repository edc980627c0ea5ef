import JvmDerived
import JvmDerived.Pilot.@@N@@Statement
import JvmDerived.Pilot.@@N@@Code
set_option linter.unusedVariables false
set_option linter.unusedSimpArgs false
namespace Jvm.Pilot.@@N@@
open Jvm Jvm.ClassFile Sem Op Lib Jvm.Free Jvm.Stand Jvm.LawKit Jvm.RoadKit Bundle Jvm.Pilot.@@N@@.Jvm.D
section OwnKit
/-- from the frame f at T the run comes to an end that K takes -/
def own_Go (p : Program) (e : Env) (below : List Frame) (K : Outcome → State → Prop) (T : State) (f : JFrame) : Prop :=
  ∃ s₂ o, Steps p.tables e below (T.setTop f) s₂ ∧ s₂.status = .running ∧ Ended s₂ below o ∧ K o s₂
def own_K (s : State) (Q : Option Value → Heap → List Loc → Prop) (cc ss : Nat) (o : Outcome) (U : State) : Prop :=
  ∃ v L, o = .returned v ∧ Q v U.heap L ∧ FrameEnd s o U L cc ss
variable {p : Program} {l : Launch} {e : Env} {R : Room} {s : State} {m : MethodId} {args : Array Value} {below : List Frame} {meth : Method} {c : Code} {T T' : State} {locs : List Loc} {cells slots : Nat} {K : Outcome → State → Prop} {Q : Option Value → Heap → List Loc → Prop} {cc ss : Nat} {f f' : JFrame}
theorem own_of (h : ∀ t, Steps p.tables e below (T'.setTop f') t → Steps p.tables e below (T.setTop f) t) (k : own_Go p e below K T' f') : own_Go p e below K T f := by
  obtain ⟨s2, o, h1, r⟩ := k
  exact ⟨s2, o, h _ h1, r⟩
theorem own_at (h : ∀ t, Steps p.tables e below (T.setTop f') t → Steps p.tables e below (T.setTop f) t) (k : own_Go p e below K T f') : own_Go p e below K T f := own_of h k
theorem own_cast (q : f = f') (k : own_Go p e below K T f') : own_Go p e below K T f := q ▸ k
theorem own_end (X : Stand p l e R s m args below meth c T locs cells slots) (hlk : meth.locks = false) {v : Option Value} (hv : meth.sig.returnType = none → v = none) (hq : Q v T.heap locs) (h1 : cells ≤ cc) (h2 : slots ≤ ss)
    (hs : ∀ fs, (∀ (f : JFrame) (acts : List Action), f.method = m → f.locked = none → f.entered = [] → (doReturn e (T.setTop f) acts v).1 = T.setFrames fs) → Steps p.tables e below (T.setTop f) (T.setFrames fs)) : own_Go p e below (own_K s Q cc ss) T f := by
  obtain ⟨fs, hr, hrun, hended, hW, hsame⟩ := X.leave (v := v) hv hlk
  exact ⟨_, _, hs fs hr, hrun, hended, _, _, rfl, hq, ⟨_, rfl⟩, hW, hsame.mono h1 h2⟩
theorem own_retN (X : Stand p l e R s m args below meth c T locs cells slots) (hx : p.tables.exec = Jvm.exec) (hlk : meth.locks = false) {pc : Nat} {Ls : Array Slot} {z w : Int32} {t : FieldType} {rest : List Value} (hret : meth.sig.returnType = some t) (ht : t = .boolean ∨ t = .byte ∨ t = .char ∨ t = .short)
    (hd : decode c.code pc = .ok (.ireturn, 1)) (hw : nar t z = w) (hq : Q (some (.int w)) T.heap locs) (h1 : cells ≤ cc) (h2 : slots ≤ ss) : own_Go p e below (own_K s Q cc ss) T (mkF m pc Ls (.int z :: rest)) := by
  subst hw
  exact own_end X hlk (fun h => by rw [hret] at h; cases h) hq h1 h2 fun fs hr => retN X hx hret ht hd hr
theorem own_retI (X : Stand p l e R s m args below meth c T locs cells slots) (hx : p.tables.exec = Jvm.exec) (hlk : meth.locks = false) {pc : Nat} {Ls : Array Slot} {z w : Int32} {rest : List Value} (hret : meth.sig.returnType = some .int)
    (hd : decode c.code pc = .ok (.ireturn, 1)) (hw : z = w) (hq : Q (some (.int w)) T.heap locs) (h1 : cells ≤ cc) (h2 : slots ≤ ss) : own_Go p e below (own_K s Q cc ss) T (mkF m pc Ls (.int z :: rest)) := by
  subst hw
  refine own_end X hlk (fun h => by rw [hret] at h; cases h) hq h1 h2 fun fs hr => ?_
  have hm' : T.vm.method? m = some meth := X.method'
  have hn : narrow .int (.int z) = .int z := rfl
  show Steps p.tables e below (T.setTop { method := m, pc := pc, locals := Ls, stack := _ :: rest, locked := none }) _
  jvm_step X.here [X.here.top, hx, hd, hm', hret, hn]
  first | (intro acts; rw [hr _ acts rfl rfl rfl]) | rw [hr _ _ rfl rfl rfl]
  exact Steps.refl _
theorem own_retJ (X : Stand p l e R s m args below meth c T locs cells slots) (hx : p.tables.exec = Jvm.exec) (hlk : meth.locks = false) {pc : Nat} {Ls : Array Slot} {z w : Int64} (hret : meth.sig.returnType = some .long)
    (hd : decode c.code pc = .ok (.lreturn, 1)) (hw : z = w) (hq : Q (some (.long w)) T.heap locs) (h1 : cells ≤ cc) (h2 : slots ≤ ss) : own_Go p e below (own_K s Q cc ss) T (mkF m pc Ls [.long z]) := by
  subst hw
  exact own_end X hlk (fun h => by rw [hret] at h; cases h) hq h1 h2 fun fs hr => X.lreturnOut hx hret hd hr
theorem own_retA (X : Stand p l e R s m args below meth c T locs cells slots) (hx : p.tables.exec = Jvm.exec) (hlk : meth.locks = false) {pc : Nat} {Ls : Array Slot} {z : Value} {ty : FieldType} {rest : List Value} (hz : z.isRef = true) (hret : meth.sig.returnType = some ty) (hty : ty.isReference = true)
    (hd : decode c.code pc = .ok (.areturn, 1)) (hq : Q (some z) T.heap locs) (h1 : cells ≤ cc) (h2 : slots ≤ ss) : own_Go p e below (own_K s Q cc ss) T (mkF m pc Ls (z :: rest)) := by
  refine own_end X hlk (fun h => by rw [hret] at h; cases h) hq h1 h2 fun fs hr => ?_
  have hm' : T.vm.method? m = some meth := X.method'
  show Steps p.tables e below (T.setTop { method := m, pc := pc, locals := Ls, stack := _ :: rest, locked := none }) _
  jvm_step X.here [X.here.top, hx, hd, hm', hret, hz, hty]
  first | (intro acts; rw [hr _ acts rfl rfl rfl]) | rw [hr _ _ rfl rfl rfl]
  exact Steps.refl _
theorem own_retV (X : Stand p l e R s m args below meth c T locs cells slots) (hx : p.tables.exec = Jvm.exec) (hlk : meth.locks = false) {pc : Nat} {Ls : Array Slot} (hret : meth.sig.returnType = none)
    (hd : decode c.code pc = .ok (.return_, 1)) (hq : Q none T.heap locs) (h1 : cells ≤ cc) (h2 : slots ≤ ss) : own_Go p e below (own_K s Q cc ss) T (mkF m pc Ls []) :=
  own_end X hlk (fun _ => rfl) hq h1 h2 fun fs hr => X.returnOut hx hret hd hr
theorem own_ne {i k : Int32} {z : Int} (hz : k.toInt = z) (h : ¬ i = k) : ¬ (z = i.toInt) := fun q => h (Int32.toInt_inj.mp (q.symm.trans hz.symm))
theorem own_lsw {tb : Tables} [Ours tb] {target : State} {g : JFrame} (h : At T m c below) (hx : tb.exec = Jvm.exec) (hg : g.method = m) {dflt o : Int} {prs : Array (Int × Int)} {len pc0 pc' : Nat} (hpc : g.pc = pc0) (hd : decode c.code g.pc = .ok (.lookupswitch dflt prs, len)) {i : Int32} {rest : List Value} (hs : g.stack = .int i :: rest)
    (hso : (prs.toList.zip (prs.toList.drop 1)).all (fun (a, next) => a.1 < next.1) = true) (hof : lookupswitch.offset prs.toList dflt i.toInt = o) (ho : 0 ≤ (pc0 : Int) + o) (hp : ((pc0 : Int) + o).toNat = pc')
    (hr : Steps tb e below (T.setTop { g with pc := pc', stack := rest }) target) : Steps tb e below (T.setTop g) target := by
  subst hg hpc hp hof
  jvm_step h [h.top, hx, hd, hs, ho, lookupswitch.wp_chain]
  exact ⟨by simpa using hso, hr⟩
theorem own_nar01 {z : Int32} (h : z = 0 ∨ z = 1) : nar .boolean z = z := by rcases h with rfl | rfl <;> decide
theorem own_narB (x : Int32) : nar .byte x.toInt8.toInt32 = x.toInt8.toInt32 := Value.int.inj (Jvm.Free.XT.narrow_b x)
theorem own_narC (x : Int32) : nar .char x.toUInt32.toUInt16.toUInt32.toInt32 = x.toUInt32.toUInt16.toUInt32.toInt32 := Value.int.inj (Jvm.Free.XT.narrow_c x)
end OwnKit
/-- a body that writes nothing and returns w -/
def own_P (w : Value) (h0 : Heap) (n0 : Nat) (v : Option Value) (h : Heap) (L : List Loc) : Prop := v = some w ∧ Fr n0 L ∧ h = h0
theorem pn_com_example_throughline_throughline_model_HttpGrammar : plainName "com/example/throughline/throughline/model/HttpGrammar" = true := by first | (simp [plainName, overriddenIn]; done) | decide +kernel
theorem ef_prog_16_6 (m : MethodId) (x0 : Int32) : entryFrame m #[(.int x0)] 1 = mkF m 0 #[.val (.int x0)] [] := by first | (simp [entryFrame, mkF, argsToLocals, Value.category]; done) | rfl
theorem d_prog_16_6_0 : decode prog_16_method_6_code 0 = .ok (.iload_n 0, 1) := by decide +kernel
theorem d_prog_16_6_1 : decode prog_16_method_6_code 1 = .ok (.bipush 48, 2) := by decide +kernel
theorem d_prog_16_6_3 : decode prog_16_method_6_code 3 = .ok (.if_icmp .lt 13, 3) := by decide +kernel
theorem d_prog_16_6_16 : decode prog_16_method_6_code 16 = .ok (.iconst 0, 1) := by decide +kernel
theorem d_prog_16_6_17 : decode prog_16_method_6_code 17 = .ok (.ireturn, 1) := by decide +kernel
theorem d_prog_16_6_6 : decode prog_16_method_6_code 6 = .ok (.iload_n 0, 1) := by decide +kernel
theorem d_prog_16_6_7 : decode prog_16_method_6_code 7 = .ok (.bipush 57, 2) := by decide +kernel
theorem d_prog_16_6_9 : decode prog_16_method_6_code 9 = .ok (.if_icmp .gt 7, 3) := by decide +kernel
theorem d_prog_16_6_12 : decode prog_16_method_6_code 12 = .ok (.iconst 1, 1) := by decide +kernel
theorem d_prog_16_6_13 : decode prog_16_method_6_code 13 = .ok (.goto 4, 3) := by decide +kernel
def own_F_prog_16_6 (q1 : Int32) : Int32 := (if q1 < (48 : Int32) then (0 : Int32) else (if (57 : Int32) < q1 then (0 : Int32) else (1 : Int32)))
set_option maxRecDepth 65536 in
set_option maxHeartbeats 40000000 in
theorem rm_prog_16_6 (l : Launch) (Z : State) (a0 : Array Value) (hw : ∀ d ∈ tables_1, d.before a0 Z = true) (ws : List Jvm.Cond) (q1 : Int32)  (h0 : Heap) (n0 : Nat) (Z0 : n0 ≤ h0.size)  :
    MetFree l (⟨"com/example/throughline/throughline/model/HttpGrammar", "isDigit", "(C)Z"⟩ : MethodName) (head1 (Jvm.Cond.code (⟨"com/example/throughline/throughline/model/HttpGrammar", "isDigit", "(C)Z"⟩ : MethodName) prog_16_method_6_code 1 (some .boolean) :: ws) ({ frames := 0, cells := 0, slots := 0, locals := 0 } : Room)) (fun a U => a = #[(.int q1)] ∧ Z.Warmed39 U.vm ∧ U.heap = h0) (fun _ _ _ _ _ => True) (fun _ U o U' => ∃ v L, o = .returned v ∧ own_P (.int (own_F_prog_16_6 q1)) h0 n0 v U'.heap L ∧ FrameEnd U o U' L ({ frames := 0, cells := 0, slots := 0, locals := 0 } : Room).cells ({ frames := 0, cells := 0, slots := 0, locals := 0 } : Room).slots) := by
  refine MetFree.of_bodySF (plainFor_of_name pn_com_example_throughline_throughline_model_HttpGrammar) hisR ?_
  intro p e s m args below meth c s₁ Bd hml0 hP hK
  obtain ⟨rfl, hZ, hh⟩ := hP
  have hx := Bd.exec
  have hby := Bd.bytes
  have hlk : meth.locks = false := BodyLoose.notSynchronized Bd
  have hml : c.maxLocals = 1 := hml0
  have hown : s.vm.findClass "com/example/throughline/throughline/model/HttpGrammar" = some m.cls := findClass_of_methodNamed Bd.named
  have hnm := (name_of_methodNamed Bd.named Bd.method).1
  have X0 : Stand p l e ({ frames := 0, cells := 0, slots := 0, locals := 0 } : Room) s m #[(.int q1)] below meth c s₁ [] 0 0 := Stand.of_body Bd
  have e0 : s₁.heap = h0 := by rw [← hh, Bd.state]; rfl
  have N0 := Fr.nil n0
  refine own_cast (K := own_K s (own_P (.int (own_F_prog_16_6 q1)) h0 n0) 0 0) (ef_prog_16_6 m q1) ?_
  generalize hKK : own_K s (own_P (.int (own_F_prog_16_6 q1)) h0 n0) 0 0 = KK
  show own_Go p e below KK s₁ (mkF m 0 #[.val (.int q1)] [])
  refine own_at (fun t k => XS.iloadN X0.here hx rfl (hb hby d_prog_16_6_0) rfl k) ?_
  show own_Go p e below KK s₁ (mkF m 1 #[.val (.int q1)] [(.int q1)])
  refine own_at (fun t k => XS.bipush X0.here hx rfl (hb hby d_prog_16_6_1) k) ?_
  show own_Go p e below KK s₁ (mkF m 3 #[.val (.int q1)] [(.int 48), (.int q1)])
  by_cases hc3 : q1 < (48 : Int32)
  · refine own_at (fun t k => XS.icmpYes X0.here hx rfl (pc0 := 3) (pc' := 16) rfl (hb hby d_prog_16_6_3) rfl (Jvm.Free.XT.ii_lt_t hc3) (by decide) (by decide) k) ?_
    show own_Go p e below KK s₁ (mkF m 16 #[.val (.int q1)] [])
    refine own_at (fun t k => XS.iconst X0.here hx rfl (hb hby d_prog_16_6_16) k) ?_
    show own_Go p e below KK s₁ (mkF m 17 #[.val (.int q1)] [(.int 0)])
    subst hKK
    exact own_retN X0 hx hlk (t := .boolean) Bd.returns (by simp) (hb hby d_prog_16_6_17) (w := (own_F_prog_16_6 q1)) ((show nar .boolean (0 : Int32) = (0 : Int32) from by decide).trans (show (0 : Int32) = (own_F_prog_16_6 q1) from by unfold own_F_prog_16_6; rw [if_pos hc3])) ⟨rfl, N0, e0⟩ (Nat.le_of_ble_eq_true rfl) (Nat.le_of_ble_eq_true rfl)
  · refine own_at (fun t k => XS.icmpNo X0.here hx rfl (hb hby d_prog_16_6_3) rfl (Jvm.Free.XT.ii_lt_f hc3) k) ?_
    show own_Go p e below KK s₁ (mkF m 6 #[.val (.int q1)] [])
    refine own_at (fun t k => XS.iloadN X0.here hx rfl (hb hby d_prog_16_6_6) rfl k) ?_
    show own_Go p e below KK s₁ (mkF m 7 #[.val (.int q1)] [(.int q1)])
    refine own_at (fun t k => XS.bipush X0.here hx rfl (hb hby d_prog_16_6_7) k) ?_
    show own_Go p e below KK s₁ (mkF m 9 #[.val (.int q1)] [(.int 57), (.int q1)])
    by_cases hc9 : (57 : Int32) < q1
    · refine own_at (fun t k => XS.icmpYes X0.here hx rfl (pc0 := 9) (pc' := 16) rfl (hb hby d_prog_16_6_9) rfl (Jvm.Free.XT.ii_gt_t hc9) (by decide) (by decide) k) ?_
      show own_Go p e below KK s₁ (mkF m 16 #[.val (.int q1)] [])
      refine own_at (fun t k => XS.iconst X0.here hx rfl (hb hby d_prog_16_6_16) k) ?_
      show own_Go p e below KK s₁ (mkF m 17 #[.val (.int q1)] [(.int 0)])
      subst hKK
      exact own_retN X0 hx hlk (t := .boolean) Bd.returns (by simp) (hb hby d_prog_16_6_17) (w := (own_F_prog_16_6 q1)) ((show nar .boolean (0 : Int32) = (0 : Int32) from by decide).trans (show (0 : Int32) = (own_F_prog_16_6 q1) from by unfold own_F_prog_16_6; rw [if_neg hc3, if_pos hc9])) ⟨rfl, N0, e0⟩ (Nat.le_of_ble_eq_true rfl) (Nat.le_of_ble_eq_true rfl)
    · refine own_at (fun t k => XS.icmpNo X0.here hx rfl (hb hby d_prog_16_6_9) rfl (Jvm.Free.XT.ii_gt_f hc9) k) ?_
      show own_Go p e below KK s₁ (mkF m 12 #[.val (.int q1)] [])
      refine own_at (fun t k => XS.iconst X0.here hx rfl (hb hby d_prog_16_6_12) k) ?_
      show own_Go p e below KK s₁ (mkF m 13 #[.val (.int q1)] [(.int 1)])
      refine own_at (fun t k => XS.goto X0.here hx rfl (pc0 := 13) (pc' := 17) rfl (hb hby d_prog_16_6_13) (by decide) (by decide) k) ?_
      show own_Go p e below KK s₁ (mkF m 17 #[.val (.int q1)] [(.int 1)])
      subst hKK
      exact own_retN X0 hx hlk (t := .boolean) Bd.returns (by simp) (hb hby d_prog_16_6_17) (w := (own_F_prog_16_6 q1)) ((show nar .boolean (1 : Int32) = (1 : Int32) from by decide).trans (show (1 : Int32) = (own_F_prog_16_6 q1) from by unfold own_F_prog_16_6; rw [if_neg hc3, if_neg hc9])) ⟨rfl, N0, e0⟩ (Nat.le_of_ble_eq_true rfl) (Nat.le_of_ble_eq_true rfl)
theorem pn_com_example_throughline_throughline_model_HttpGrammarIsDigitPinLaw : plainName "com/example/throughline/throughline/model/HttpGrammarIsDigitPinLaw" = true := by first | (simp [plainName, overriddenIn]; done) | decide +kernel
theorem ef_law (m : MethodId) (x0 : Int32) (x1 : Int32) : entryFrame m #[(.int x0), (.int x1)] maxLocals = mkF m 0 #[.val (.int x0), .val (.int x1), .unset, .unset, .unset, .unset, .unset, .unset, .unset, .unset, .unset] [] := by first | (simp [entryFrame, mkF, argsToLocals, Value.category, maxLocals]; done) | rfl
theorem pd__C_Z : parseMethodDescriptor "(C)Z" = some ⟨[.char], some .boolean⟩ := by decide +kernel
theorem own_lI0 : (0 : Int32).toInt = 0 := rfl
theorem own_lI1 : (1 : Int32).toInt = 1 := rfl
theorem own_lI10 : (10 : Int32).toInt = 10 := rfl
theorem own_lI47 : (47 : Int32).toInt = 47 := rfl
theorem own_lI48 : (48 : Int32).toInt = 48 := rfl
theorem own_lI57 : (57 : Int32).toInt = 57 := rfl
theorem own_lI58 : (58 : Int32).toInt = 58 := rfl
theorem own_lI65535 : (65535 : Int32).toInt = 65535 := rfl
theorem own_lI32767 : (32767 : Int32).toInt = 32767 := rfl
theorem own_lI2147483647 : (2147483647 : Int32).toInt = 2147483647 := rfl
theorem own_a (c : Int32) (h0 : 0 ≤ c.toInt) (h1 : c.toInt < 65536) : own_F_prog_16_6 c = if ((c - (48 : Int32)) &&& (65535 : Int32)) < (10 : Int32) then 1 else 0 := by
  have e1 := c_mask (c - 48) 65535 16 (by decide) (by decide)
  have e2 := c_isub c 48
  unfold own_F_prog_16_6
  simp only [Int32.lt_iff_toInt_lt, own_lI0, own_lI1, own_lI10, own_lI47, own_lI48, own_lI57, own_lI58, own_lI65535, own_lI32767, own_lI2147483647] at *
  repeat' split
  all_goals first | rfl | (exfalso; omega)
theorem own_aT {x c : Int32} (e : c = (x &&& (65535 : Int32)).toUInt32.toUInt16.toUInt32.toInt32) (h : ((c - (48 : Int32)) &&& (65535 : Int32)) < (10 : Int32)) : own_F_prog_16_6 c = (1 : Int32) := by
  have h1 := c_i2c (x &&& (65535 : Int32))
  rw [← e] at h1
  rw [own_a c h1.2.1 h1.2.2, if_pos h]
theorem own_aF {x c : Int32} (e : c = (x &&& (65535 : Int32)).toUInt32.toUInt16.toUInt32.toInt32) (h : ¬ ((c - (48 : Int32)) &&& (65535 : Int32)) < (10 : Int32)) : own_F_prog_16_6 c = (0 : Int32) := by
  have h1 := c_i2c (x &&& (65535 : Int32))
  rw [← e] at h1
  rw [own_a c h1.2.1 h1.2.2, if_neg h]
theorem own_one {c : Int32} (h0 : 48 ≤ c.toInt) (h1 : c.toInt < 58) : own_F_prog_16_6 c = 1 := by
  unfold own_F_prog_16_6
  simp only [Int32.lt_iff_toInt_lt, own_lI0, own_lI1, own_lI10, own_lI47, own_lI48, own_lI57, own_lI58, own_lI65535, own_lI32767, own_lI2147483647] at *
  rw [if_neg (by omega), if_neg (by omega)]
theorem own_zero {c : Int32} (h : c.toInt < 48 ∨ 57 < c.toInt) : own_F_prog_16_6 c = 0 := by
  unfold own_F_prog_16_6
  simp only [Int32.lt_iff_toInt_lt, own_lI0, own_lI1, own_lI10, own_lI47, own_lI48, own_lI57, own_lI58, own_lI65535, own_lI32767, own_lI2147483647] at *
  repeat' split
  all_goals first | rfl | (exfalso; omega)
theorem own_dig {p2 d c : Int32} (hd : d = (p2 &&& (2147483647 : Int32)) - ((p2 &&& (2147483647 : Int32)) / (10 : Int32)) * (10 : Int32)) (hc : c = ((48 : Int32) + d).toUInt32.toUInt16.toUInt32.toInt32) : ¬ own_F_prog_16_6 c = (0 : Int32) := by
  have a1 := c_and p2 2147483647 (by decide)
  have a2 := (c_irem (p2 &&& (2147483647 : Int32)) 10 10 (by decide)).1 a1.1
  rw [← irem_eq_mod, ← hd] at a2
  have a3 := c_iadd 48 d
  have a4 := c_i2c ((48 : Int32) + d)
  rw [← hc] at a4
  have a5 := rng32 ((48 : Int32) + d)
  simp only [own_lI0, own_lI1, own_lI10, own_lI47, own_lI48, own_lI57, own_lI58, own_lI65535, own_lI32767, own_lI2147483647] at *
  rw [own_one (by omega) (by omega)]; decide
theorem own_below {x c : Int32} (hc : c = (x &&& (47 : Int32)).toUInt32.toUInt16.toUInt32.toInt32) : own_F_prog_16_6 c = (0 : Int32) := by
  have a1 := c_and x 47 (by decide)
  have a4 := c_i2c (x &&& (47 : Int32))
  rw [← hc] at a4
  simp only [own_lI0, own_lI1, own_lI10, own_lI47, own_lI48, own_lI57, own_lI58, own_lI65535, own_lI32767, own_lI2147483647] at *
  exact own_zero (by omega)
theorem own_above {x c : Int32} (hc : c = ((58 : Int32) + (x &&& (32767 : Int32))).toUInt32.toUInt16.toUInt32.toInt32) : own_F_prog_16_6 c = (0 : Int32) := by
  have a1 := c_and x 32767 (by decide)
  generalize (x &&& (32767 : Int32)) = d at *
  have a3 := c_iadd 58 d
  have a4 := c_i2c ((58 : Int32) + d)
  rw [← hc] at a4
  have a5 := rng32 ((58 : Int32) + d)
  simp only [own_lI0, own_lI1, own_lI10, own_lI47, own_lI48, own_lI57, own_lI58, own_lI65535, own_lI32767, own_lI2147483647] at *
  exact own_zero (by omega)
def own_Q (n0 : Nat) (v : Option Value) (h : Heap) (L : List Loc) : Prop := v = some (.int 1) ∧ Fr n0 L
set_option maxRecDepth 65536 in
set_option maxHeartbeats 40000000 in
theorem rm_law (l : Launch) (Z : State) (a0 : Array Value) (hw : ∀ d ∈ tables_1, d.before a0 Z = true) (ws : List Jvm.Cond) (p1 : Int32) (p2 : Int32)  (h0 : Heap) (n0 : Nat) (Z0 : n0 ≤ h0.size)  :
    MetFree l x (head1 (Jvm.Cond.code x code maxLocals ret :: ws) room_1) (fun a U => a = #[(.int p1), (.int p2)] ∧ Z.Warmed39 U.vm ∧ U.heap = h0) (fun _ _ _ _ _ => True) (fun _ U o U' => ∃ v L, o = .returned v ∧ own_Q n0 v U'.heap L ∧ FrameEnd U o U' L room_1.cells room_1.slots) := by
  refine MetFree.of_bodySF (plainFor_of_name pn_com_example_throughline_throughline_model_HttpGrammarIsDigitPinLaw) hisR ?_
  intro p e s m args below meth c s₁ Bd hml0 hP hK
  obtain ⟨rfl, hZ, hh⟩ := hP
  have hx := Bd.exec
  have hby := Bd.bytes
  have hlk : meth.locks = false := BodyLoose.notSynchronized Bd
  have hml : c.maxLocals = 11 := hml0
  have hown : s.vm.findClass "com/example/throughline/throughline/model/HttpGrammarIsDigitPinLaw" = some m.cls := findClass_of_methodNamed Bd.named
  have hnm := (name_of_methodNamed Bd.named Bd.method).1
  have X0 : Stand p l e room_1 s m #[(.int p1), (.int p2)] below meth c s₁ [] 0 0 := Stand.of_body Bd
  have e0 : s₁.heap = h0 := by rw [← hh, Bd.state]; rfl
  have N0 := Fr.nil n0
  refine own_cast (K := own_K s (own_Q n0) room_1.cells room_1.slots) (ef_law m p1 p2) ?_
  generalize hKK : own_K s (own_Q n0) room_1.cells room_1.slots = KK
  show own_Go p e below KK s₁ (mkF m 0 #[.val (.int p1), .val (.int p2), .unset, .unset, .unset, .unset, .unset, .unset, .unset, .unset, .unset] [])
  refine own_at (fun t k => XS.iloadN X0.here hx rfl (hb hby at_0) rfl k) ?_
  show own_Go p e below KK s₁ (mkF m 1 #[.val (.int p1), .val (.int p2), .unset, .unset, .unset, .unset, .unset, .unset, .unset, .unset, .unset] [(.int p1)])
  refine own_at (fun t k => X0.ldcInt hx hown (mvT hZ (hw _ (List.mem_of_getElem? (i := 0) rfl))) (g := (mkF m 1 #[.val (.int p1), .val (.int p2), .unset, .unset, .unset, .unset, .unset, .unset, .unset, .unset, .unset] [(.int p1)])) rfl (hb hby at_1) t k) ?_
  show own_Go p e below KK s₁ (mkF m 3 #[.val (.int p1), .val (.int p2), .unset, .unset, .unset, .unset, .unset, .unset, .unset, .unset, .unset] [(.int 65535), (.int p1)])
  refine own_at (fun t k => XS.iand X0.here hx rfl (hb hby at_3) rfl k) ?_
  show own_Go p e below KK s₁ (mkF m 4 #[.val (.int p1), .val (.int p2), .unset, .unset, .unset, .unset, .unset, .unset, .unset, .unset, .unset] [(.int (p1 &&& (65535 : Int32)))])
  refine own_at (fun t k => XS.i2c X0.here hx rfl (hb hby at_4) rfl k) ?_
  show own_Go p e below KK s₁ (mkF m 5 #[.val (.int p1), .val (.int p2), .unset, .unset, .unset, .unset, .unset, .unset, .unset, .unset, .unset] [(.int ((p1 &&& (65535 : Int32)).toUInt32.toUInt16.toUInt32.toInt32))])
  obtain ⟨c1, hc1⟩ : ∃ z, z = ((p1 &&& (65535 : Int32)).toUInt32.toUInt16.toUInt32.toInt32) := ⟨_, rfl⟩
  rw [← hc1]
  show own_Go p e below KK s₁ (mkF m 5 #[.val (.int p1), .val (.int p2), .unset, .unset, .unset, .unset, .unset, .unset, .unset, .unset, .unset] [(.int c1)])
  refine own_at (fun t k => XS.istoreN X0.here hx rfl (hb hby at_5) rfl (l' := #[.val (.int p1), .val (.int p2), .val (.int c1), .unset, .unset, .unset, .unset, .unset, .unset, .unset, .unset]) rfl k) ?_
  show own_Go p e below KK s₁ (mkF m 6 #[.val (.int p1), .val (.int p2), .val (.int c1), .unset, .unset, .unset, .unset, .unset, .unset, .unset, .unset] [])
  refine own_at (fun t k => XS.iloadN X0.here hx rfl (hb hby at_6) rfl k) ?_
  show own_Go p e below KK s₁ (mkF m 7 #[.val (.int p1), .val (.int p2), .val (.int c1), .unset, .unset, .unset, .unset, .unset, .unset, .unset, .unset] [(.int c1)])
  refine own_at (fun t k => XS.bipush X0.here hx rfl (hb hby at_7) k) ?_
  show own_Go p e below KK s₁ (mkF m 9 #[.val (.int p1), .val (.int p2), .val (.int c1), .unset, .unset, .unset, .unset, .unset, .unset, .unset, .unset] [(.int 48), (.int c1)])
  refine own_at (fun t k => XS.isub X0.here hx rfl (hb hby at_9) rfl k) ?_
  show own_Go p e below KK s₁ (mkF m 10 #[.val (.int p1), .val (.int p2), .val (.int c1), .unset, .unset, .unset, .unset, .unset, .unset, .unset, .unset] [(.int (c1 - (48 : Int32)))])
  refine own_at (fun t k => X0.ldcInt hx hown (mvT hZ (hw _ (List.mem_of_getElem? (i := 0) rfl))) (g := (mkF m 10 #[.val (.int p1), .val (.int p2), .val (.int c1), .unset, .unset, .unset, .unset, .unset, .unset, .unset, .unset] [(.int (c1 - (48 : Int32)))])) rfl (hb hby at_10) t k) ?_
  show own_Go p e below KK s₁ (mkF m 12 #[.val (.int p1), .val (.int p2), .val (.int c1), .unset, .unset, .unset, .unset, .unset, .unset, .unset, .unset] [(.int 65535), (.int (c1 - (48 : Int32)))])
  refine own_at (fun t k => XS.iand X0.here hx rfl (hb hby at_12) rfl k) ?_
  show own_Go p e below KK s₁ (mkF m 13 #[.val (.int p1), .val (.int p2), .val (.int c1), .unset, .unset, .unset, .unset, .unset, .unset, .unset, .unset] [(.int ((c1 - (48 : Int32)) &&& (65535 : Int32)))])
  refine own_at (fun t k => XS.bipush X0.here hx rfl (hb hby at_13) k) ?_
  show own_Go p e below KK s₁ (mkF m 15 #[.val (.int p1), .val (.int p2), .val (.int c1), .unset, .unset, .unset, .unset, .unset, .unset, .unset, .unset] [(.int 10), (.int ((c1 - (48 : Int32)) &&& (65535 : Int32)))])
  by_cases hc15 : ((c1 - (48 : Int32)) &&& (65535 : Int32)) < (10 : Int32)
  · refine own_at (fun t k => XS.icmpNo X0.here hx rfl (hb hby at_15) rfl (Jvm.Free.XT.ii_ge_f hc15) k) ?_
    show own_Go p e below KK s₁ (mkF m 18 #[.val (.int p1), .val (.int p2), .val (.int c1), .unset, .unset, .unset, .unset, .unset, .unset, .unset, .unset] [])
    refine own_at (fun t k => XS.iconst X0.here hx rfl (hb hby at_18) k) ?_
    show own_Go p e below KK s₁ (mkF m 19 #[.val (.int p1), .val (.int p2), .val (.int c1), .unset, .unset, .unset, .unset, .unset, .unset, .unset, .unset] [(.int 1)])
    refine own_at (fun t k => XS.goto X0.here hx rfl (pc0 := 19) (pc' := 23) rfl (hb hby at_19) (by decide) (by decide) k) ?_
    show own_Go p e below KK s₁ (mkF m 23 #[.val (.int p1), .val (.int p2), .val (.int c1), .unset, .unset, .unset, .unset, .unset, .unset, .unset, .unset] [(.int 1)])
    refine own_at (fun t k => XS.istoreN X0.here hx rfl (hb hby at_23) rfl (l' := #[.val (.int p1), .val (.int p2), .val (.int c1), .val (.int 1), .unset, .unset, .unset, .unset, .unset, .unset, .unset]) rfl k) ?_
    show own_Go p e below KK s₁ (mkF m 24 #[.val (.int p1), .val (.int p2), .val (.int c1), .val (.int 1), .unset, .unset, .unset, .unset, .unset, .unset, .unset] [])
    refine own_at (fun t k => XS.iloadN X0.here hx rfl (hb hby at_24) rfl k) ?_
    show own_Go p e below KK s₁ (mkF m 25 #[.val (.int p1), .val (.int p2), .val (.int c1), .val (.int 1), .unset, .unset, .unset, .unset, .unset, .unset, .unset] [(.int c1)])
    obtain ⟨_, _, ⟨T1, L1, k1, n1⟩, -, X1, ⟨Lc1, hQ1, l1, y1, z1⟩, st1⟩ := Jvm.LawKit.callS X0 hx (y := (⟨"com/example/throughline/throughline/model/HttpGrammar", "isDigit", "(C)Z"⟩ : MethodName)) hown (mvT hZ (hw _ (List.mem_of_getElem? (i := 1) rfl))) (mvT hZ (hw _ (List.mem_of_getElem? (i := 2) rfl))) (mvT hZ (hw _ (List.mem_of_getElem? (i := 3) rfl))) (mvT hZ (hw _ (List.mem_of_getElem? (i := 4) rfl))) (by decide) (backOf (W := 0) (rm_prog_16_6 l Z a0 hw [] c1  h0 n0 Z0 ) hZ (hw _ (List.mem_of_getElem? (i := 4) rfl)) (hw _ (List.mem_of_getElem? (i := 3) rfl)) (by decide) (by decide)) (g := (mkF m 25 #[.val (.int p1), .val (.int p2), .val (.int c1), .val (.int 1), .unset, .unset, .unset, .unset, .unset, .unset, .unset] [(.int c1)])) rfl (by rw [hml]; rfl) (argsL := [(.int c1)]) (rest := []) (lenOf pd__C_Z rfl) rfl (by show 2 * 0 + _ ≤ _; exact Nat.le_of_eq rfl) (hb hby at_25) (fun _ _ => ⟨rfl, e0, (by decide : 0 + 0 ≤ _), (by decide : 0 + 0 ≤ _)⟩)
    dsimp only [Pt.U, Pt.locs, Pt.cells, Pt.slots] at X1 l1 y1 z1 st1 hQ1
    subst l1 y1 z1
    obtain ⟨rfl, N1q, e1⟩ := hQ1
    have N1 := Fr.app N0 N1q
    refine own_of (fun t k => st1 t k) ?_
    show own_Go p e below KK T1 (mkF m 28 #[.val (.int p1), .val (.int p2), .val (.int c1), .val (.int 1), .unset, .unset, .unset, .unset, .unset, .unset, .unset] [(.int (own_F_prog_16_6 c1))])
    refine own_at (fun t k => XS.iloadN X1.here hx rfl (hb hby at_28) rfl k) ?_
    show own_Go p e below KK T1 (mkF m 29 #[.val (.int p1), .val (.int p2), .val (.int c1), .val (.int 1), .unset, .unset, .unset, .unset, .unset, .unset, .unset] [(.int 1), (.int (own_F_prog_16_6 c1))])
    have hc29 : (own_F_prog_16_6 c1) = (1 : Int32) := own_aT hc1 hc15
    refine own_at (fun t k => XS.icmpNo X1.here hx rfl (hb hby at_29) rfl (Jvm.Free.XT.ii_ne_f hc29) k) ?_
    show own_Go p e below KK T1 (mkF m 32 #[.val (.int p1), .val (.int p2), .val (.int c1), .val (.int 1), .unset, .unset, .unset, .unset, .unset, .unset, .unset] [])
    refine own_at (fun t k => XS.iconst X1.here hx rfl (hb hby at_32) k) ?_
    show own_Go p e below KK T1 (mkF m 33 #[.val (.int p1), .val (.int p2), .val (.int c1), .val (.int 1), .unset, .unset, .unset, .unset, .unset, .unset, .unset] [(.int 1)])
    refine own_at (fun t k => XS.goto X1.here hx rfl (pc0 := 33) (pc' := 37) rfl (hb hby at_33) (by decide) (by decide) k) ?_
    show own_Go p e below KK T1 (mkF m 37 #[.val (.int p1), .val (.int p2), .val (.int c1), .val (.int 1), .unset, .unset, .unset, .unset, .unset, .unset, .unset] [(.int 1)])
    refine own_at (fun t k => XS.istore X1.here hx rfl (hb hby at_37) rfl (l' := #[.val (.int p1), .val (.int p2), .val (.int c1), .val (.int 1), .val (.int 1), .unset, .unset, .unset, .unset, .unset, .unset]) rfl k) ?_
    show own_Go p e below KK T1 (mkF m 39 #[.val (.int p1), .val (.int p2), .val (.int c1), .val (.int 1), .val (.int 1), .unset, .unset, .unset, .unset, .unset, .unset] [])
    refine own_at (fun t k => XS.iloadN X1.here hx rfl (hb hby at_39) rfl k) ?_
    show own_Go p e below KK T1 (mkF m 40 #[.val (.int p1), .val (.int p2), .val (.int c1), .val (.int 1), .val (.int 1), .unset, .unset, .unset, .unset, .unset, .unset] [(.int p2)])
    refine own_at (fun t k => X1.ldcInt hx hown (mvT hZ (hw _ (List.mem_of_getElem? (i := 5) rfl))) (g := (mkF m 40 #[.val (.int p1), .val (.int p2), .val (.int c1), .val (.int 1), .val (.int 1), .unset, .unset, .unset, .unset, .unset, .unset] [(.int p2)])) rfl (hb hby at_40) t k) ?_
    show own_Go p e below KK T1 (mkF m 42 #[.val (.int p1), .val (.int p2), .val (.int c1), .val (.int 1), .val (.int 1), .unset, .unset, .unset, .unset, .unset, .unset] [(.int 2147483647), (.int p2)])
    refine own_at (fun t k => XS.iand X1.here hx rfl (hb hby at_42) rfl k) ?_
    show own_Go p e below KK T1 (mkF m 43 #[.val (.int p1), .val (.int p2), .val (.int c1), .val (.int 1), .val (.int 1), .unset, .unset, .unset, .unset, .unset, .unset] [(.int (p2 &&& (2147483647 : Int32)))])
    refine own_at (fun t k => XS.bipush X1.here hx rfl (hb hby at_43) k) ?_
    show own_Go p e below KK T1 (mkF m 45 #[.val (.int p1), .val (.int p2), .val (.int c1), .val (.int 1), .val (.int 1), .unset, .unset, .unset, .unset, .unset, .unset] [(.int 10), (.int (p2 &&& (2147483647 : Int32)))])
    refine own_at (fun t k => XS.irem X1.here hx rfl (hb hby at_45) rfl (by decide) k) ?_
    show own_Go p e below KK T1 (mkF m 46 #[.val (.int p1), .val (.int p2), .val (.int c1), .val (.int 1), .val (.int 1), .unset, .unset, .unset, .unset, .unset, .unset] [(.int ((p2 &&& (2147483647 : Int32)) - ((p2 &&& (2147483647 : Int32)) / (10 : Int32)) * (10 : Int32)))])
    obtain ⟨d1, hd1⟩ : ∃ z, z = ((p2 &&& (2147483647 : Int32)) - ((p2 &&& (2147483647 : Int32)) / (10 : Int32)) * (10 : Int32)) := ⟨_, rfl⟩
    rw [← hd1]
    show own_Go p e below KK T1 (mkF m 46 #[.val (.int p1), .val (.int p2), .val (.int c1), .val (.int 1), .val (.int 1), .unset, .unset, .unset, .unset, .unset, .unset] [(.int d1)])
    refine own_at (fun t k => XS.istore X1.here hx rfl (hb hby at_46) rfl (l' := #[.val (.int p1), .val (.int p2), .val (.int c1), .val (.int 1), .val (.int 1), .val (.int d1), .unset, .unset, .unset, .unset, .unset]) rfl k) ?_
    show own_Go p e below KK T1 (mkF m 48 #[.val (.int p1), .val (.int p2), .val (.int c1), .val (.int 1), .val (.int 1), .val (.int d1), .unset, .unset, .unset, .unset, .unset] [])
    refine own_at (fun t k => XS.bipush X1.here hx rfl (hb hby at_48) k) ?_
    show own_Go p e below KK T1 (mkF m 50 #[.val (.int p1), .val (.int p2), .val (.int c1), .val (.int 1), .val (.int 1), .val (.int d1), .unset, .unset, .unset, .unset, .unset] [(.int 48)])
    refine own_at (fun t k => XS.iload X1.here hx rfl (hb hby at_50) rfl k) ?_
    show own_Go p e below KK T1 (mkF m 52 #[.val (.int p1), .val (.int p2), .val (.int c1), .val (.int 1), .val (.int 1), .val (.int d1), .unset, .unset, .unset, .unset, .unset] [(.int d1), (.int 48)])
    refine own_at (fun t k => XS.iadd X1.here hx rfl (hb hby at_52) rfl k) ?_
    show own_Go p e below KK T1 (mkF m 53 #[.val (.int p1), .val (.int p2), .val (.int c1), .val (.int 1), .val (.int 1), .val (.int d1), .unset, .unset, .unset, .unset, .unset] [(.int ((48 : Int32) + d1))])
    refine own_at (fun t k => XS.i2c X1.here hx rfl (hb hby at_53) rfl k) ?_
    show own_Go p e below KK T1 (mkF m 54 #[.val (.int p1), .val (.int p2), .val (.int c1), .val (.int 1), .val (.int 1), .val (.int d1), .unset, .unset, .unset, .unset, .unset] [(.int (((48 : Int32) + d1).toUInt32.toUInt16.toUInt32.toInt32))])
    obtain ⟨c2, hc2⟩ : ∃ z, z = (((48 : Int32) + d1).toUInt32.toUInt16.toUInt32.toInt32) := ⟨_, rfl⟩
    rw [← hc2]
    show own_Go p e below KK T1 (mkF m 54 #[.val (.int p1), .val (.int p2), .val (.int c1), .val (.int 1), .val (.int 1), .val (.int d1), .unset, .unset, .unset, .unset, .unset] [(.int c2)])
    obtain ⟨_, _, ⟨T2, L2, k2, n2⟩, -, X2, ⟨Lc2, hQ2, l2, y2, z2⟩, st2⟩ := Jvm.LawKit.callS X1 hx (y := (⟨"com/example/throughline/throughline/model/HttpGrammar", "isDigit", "(C)Z"⟩ : MethodName)) hown (mvT hZ (hw _ (List.mem_of_getElem? (i := 1) rfl))) (mvT hZ (hw _ (List.mem_of_getElem? (i := 2) rfl))) (mvT hZ (hw _ (List.mem_of_getElem? (i := 3) rfl))) (mvT hZ (hw _ (List.mem_of_getElem? (i := 4) rfl))) (by decide) (backOf (W := 0) (rm_prog_16_6 l Z a0 hw [] c2  h0 n0 Z0 ) hZ (hw _ (List.mem_of_getElem? (i := 4) rfl)) (hw _ (List.mem_of_getElem? (i := 3) rfl)) (by decide) (by decide)) (g := (mkF m 54 #[.val (.int p1), .val (.int p2), .val (.int c1), .val (.int 1), .val (.int 1), .val (.int d1), .unset, .unset, .unset, .unset, .unset] [(.int c2)])) rfl (by rw [hml]; rfl) (argsL := [(.int c2)]) (rest := []) (lenOf pd__C_Z rfl) rfl (by show 2 * 0 + _ ≤ _; exact Nat.le_of_eq rfl) (hb hby at_54) (fun _ _ => ⟨rfl, e1, (by decide : 0 + 0 ≤ _), (by decide : 0 + 0 ≤ _)⟩)
    dsimp only [Pt.U, Pt.locs, Pt.cells, Pt.slots] at X2 l2 y2 z2 st2 hQ2
    subst l2 y2 z2
    obtain ⟨rfl, N2q, e2⟩ := hQ2
    have N2 := Fr.app N1 N2q
    refine own_of (fun t k => st2 t k) ?_
    show own_Go p e below KK T2 (mkF m 57 #[.val (.int p1), .val (.int p2), .val (.int c1), .val (.int 1), .val (.int 1), .val (.int d1), .unset, .unset, .unset, .unset, .unset] [(.int (own_F_prog_16_6 c2))])
    refine own_at (fun t k => XS.istore X2.here hx rfl (hb hby at_57) rfl (l' := #[.val (.int p1), .val (.int p2), .val (.int c1), .val (.int 1), .val (.int 1), .val (.int d1), .val (.int (own_F_prog_16_6 c2)), .unset, .unset, .unset, .unset]) rfl k) ?_
    show own_Go p e below KK T2 (mkF m 59 #[.val (.int p1), .val (.int p2), .val (.int c1), .val (.int 1), .val (.int 1), .val (.int d1), .val (.int (own_F_prog_16_6 c2)), .unset, .unset, .unset, .unset] [])
    refine own_at (fun t k => XS.iloadN X2.here hx rfl (hb hby at_59) rfl k) ?_
    show own_Go p e below KK T2 (mkF m 60 #[.val (.int p1), .val (.int p2), .val (.int c1), .val (.int 1), .val (.int 1), .val (.int d1), .val (.int (own_F_prog_16_6 c2)), .unset, .unset, .unset, .unset] [(.int p2)])
    refine own_at (fun t k => XS.iconst X2.here hx rfl (hb hby at_60) k) ?_
    show own_Go p e below KK T2 (mkF m 61 #[.val (.int p1), .val (.int p2), .val (.int c1), .val (.int 1), .val (.int 1), .val (.int d1), .val (.int (own_F_prog_16_6 c2)), .unset, .unset, .unset, .unset] [(.int 4), (.int p2)])
    refine own_at (fun t k => XS.iushr X2.here hx rfl (hb hby at_61) rfl k) ?_
    show own_Go p e below KK T2 (mkF m 62 #[.val (.int p1), .val (.int p2), .val (.int c1), .val (.int 1), .val (.int 1), .val (.int d1), .val (.int (own_F_prog_16_6 c2)), .unset, .unset, .unset, .unset] [(.int ((p2.toUInt32 >>> ((4 : Int32) &&& 31).toUInt32).toInt32))])
    refine own_at (fun t k => XS.bipush X2.here hx rfl (hb hby at_62) k) ?_
    show own_Go p e below KK T2 (mkF m 64 #[.val (.int p1), .val (.int p2), .val (.int c1), .val (.int 1), .val (.int 1), .val (.int d1), .val (.int (own_F_prog_16_6 c2)), .unset, .unset, .unset, .unset] [(.int 47), (.int ((p2.toUInt32 >>> ((4 : Int32) &&& 31).toUInt32).toInt32))])
    refine own_at (fun t k => XS.iand X2.here hx rfl (hb hby at_64) rfl k) ?_
    show own_Go p e below KK T2 (mkF m 65 #[.val (.int p1), .val (.int p2), .val (.int c1), .val (.int 1), .val (.int 1), .val (.int d1), .val (.int (own_F_prog_16_6 c2)), .unset, .unset, .unset, .unset] [(.int (((p2.toUInt32 >>> ((4 : Int32) &&& 31).toUInt32).toInt32) &&& (47 : Int32)))])
    refine own_at (fun t k => XS.i2c X2.here hx rfl (hb hby at_65) rfl k) ?_
    show own_Go p e below KK T2 (mkF m 66 #[.val (.int p1), .val (.int p2), .val (.int c1), .val (.int 1), .val (.int 1), .val (.int d1), .val (.int (own_F_prog_16_6 c2)), .unset, .unset, .unset, .unset] [(.int ((((p2.toUInt32 >>> ((4 : Int32) &&& 31).toUInt32).toInt32) &&& (47 : Int32)).toUInt32.toUInt16.toUInt32.toInt32))])
    obtain ⟨c3, hc3⟩ : ∃ z, z = ((((p2.toUInt32 >>> ((4 : Int32) &&& 31).toUInt32).toInt32) &&& (47 : Int32)).toUInt32.toUInt16.toUInt32.toInt32) := ⟨_, rfl⟩
    rw [← hc3]
    show own_Go p e below KK T2 (mkF m 66 #[.val (.int p1), .val (.int p2), .val (.int c1), .val (.int 1), .val (.int 1), .val (.int d1), .val (.int (own_F_prog_16_6 c2)), .unset, .unset, .unset, .unset] [(.int c3)])
    refine own_at (fun t k => XS.istore X2.here hx rfl (hb hby at_66) rfl (l' := #[.val (.int p1), .val (.int p2), .val (.int c1), .val (.int 1), .val (.int 1), .val (.int d1), .val (.int (own_F_prog_16_6 c2)), .val (.int c3), .unset, .unset, .unset]) rfl k) ?_
    show own_Go p e below KK T2 (mkF m 68 #[.val (.int p1), .val (.int p2), .val (.int c1), .val (.int 1), .val (.int 1), .val (.int d1), .val (.int (own_F_prog_16_6 c2)), .val (.int c3), .unset, .unset, .unset] [])
    refine own_at (fun t k => XS.iload X2.here hx rfl (hb hby at_68) rfl k) ?_
    show own_Go p e below KK T2 (mkF m 70 #[.val (.int p1), .val (.int p2), .val (.int c1), .val (.int 1), .val (.int 1), .val (.int d1), .val (.int (own_F_prog_16_6 c2)), .val (.int c3), .unset, .unset, .unset] [(.int c3)])
    obtain ⟨_, _, ⟨T3, L3, k3, n3⟩, -, X3, ⟨Lc3, hQ3, l3, y3, z3⟩, st3⟩ := Jvm.LawKit.callS X2 hx (y := (⟨"com/example/throughline/throughline/model/HttpGrammar", "isDigit", "(C)Z"⟩ : MethodName)) hown (mvT hZ (hw _ (List.mem_of_getElem? (i := 1) rfl))) (mvT hZ (hw _ (List.mem_of_getElem? (i := 2) rfl))) (mvT hZ (hw _ (List.mem_of_getElem? (i := 3) rfl))) (mvT hZ (hw _ (List.mem_of_getElem? (i := 4) rfl))) (by decide) (backOf (W := 0) (rm_prog_16_6 l Z a0 hw [] c3  h0 n0 Z0 ) hZ (hw _ (List.mem_of_getElem? (i := 4) rfl)) (hw _ (List.mem_of_getElem? (i := 3) rfl)) (by decide) (by decide)) (g := (mkF m 70 #[.val (.int p1), .val (.int p2), .val (.int c1), .val (.int 1), .val (.int 1), .val (.int d1), .val (.int (own_F_prog_16_6 c2)), .val (.int c3), .unset, .unset, .unset] [(.int c3)])) rfl (by rw [hml]; rfl) (argsL := [(.int c3)]) (rest := []) (lenOf pd__C_Z rfl) rfl (by show 2 * 0 + _ ≤ _; exact Nat.le_of_eq rfl) (hb hby at_70) (fun _ _ => ⟨rfl, e2, (by decide : 0 + 0 ≤ _), (by decide : 0 + 0 ≤ _)⟩)
    dsimp only [Pt.U, Pt.locs, Pt.cells, Pt.slots] at X3 l3 y3 z3 st3 hQ3
    subst l3 y3 z3
    obtain ⟨rfl, N3q, e3⟩ := hQ3
    have N3 := Fr.app N2 N3q
    refine own_of (fun t k => st3 t k) ?_
    show own_Go p e below KK T3 (mkF m 73 #[.val (.int p1), .val (.int p2), .val (.int c1), .val (.int 1), .val (.int 1), .val (.int d1), .val (.int (own_F_prog_16_6 c2)), .val (.int c3), .unset, .unset, .unset] [(.int (own_F_prog_16_6 c3))])
    have hc73 : (own_F_prog_16_6 c3) = (0 : Int32) := own_below hc3
    refine own_at (fun t k => XS.ifNo X3.here hx rfl (hb hby at_73) rfl (Jvm.Free.XT.i0_ne_f hc73) k) ?_
    show own_Go p e below KK T3 (mkF m 76 #[.val (.int p1), .val (.int p2), .val (.int c1), .val (.int 1), .val (.int 1), .val (.int d1), .val (.int (own_F_prog_16_6 c2)), .val (.int c3), .unset, .unset, .unset] [])
    refine own_at (fun t k => XS.iconst X3.here hx rfl (hb hby at_76) k) ?_
    show own_Go p e below KK T3 (mkF m 77 #[.val (.int p1), .val (.int p2), .val (.int c1), .val (.int 1), .val (.int 1), .val (.int d1), .val (.int (own_F_prog_16_6 c2)), .val (.int c3), .unset, .unset, .unset] [(.int 1)])
    refine own_at (fun t k => XS.goto X3.here hx rfl (pc0 := 77) (pc' := 81) rfl (hb hby at_77) (by decide) (by decide) k) ?_
    show own_Go p e below KK T3 (mkF m 81 #[.val (.int p1), .val (.int p2), .val (.int c1), .val (.int 1), .val (.int 1), .val (.int d1), .val (.int (own_F_prog_16_6 c2)), .val (.int c3), .unset, .unset, .unset] [(.int 1)])
    refine own_at (fun t k => XS.istore X3.here hx rfl (hb hby at_81) rfl (l' := #[.val (.int p1), .val (.int p2), .val (.int c1), .val (.int 1), .val (.int 1), .val (.int d1), .val (.int (own_F_prog_16_6 c2)), .val (.int c3), .val (.int 1), .unset, .unset]) rfl k) ?_
    show own_Go p e below KK T3 (mkF m 83 #[.val (.int p1), .val (.int p2), .val (.int c1), .val (.int 1), .val (.int 1), .val (.int d1), .val (.int (own_F_prog_16_6 c2)), .val (.int c3), .val (.int 1), .unset, .unset] [])
    refine own_at (fun t k => XS.bipush X3.here hx rfl (hb hby at_83) k) ?_
    show own_Go p e below KK T3 (mkF m 85 #[.val (.int p1), .val (.int p2), .val (.int c1), .val (.int 1), .val (.int 1), .val (.int d1), .val (.int (own_F_prog_16_6 c2)), .val (.int c3), .val (.int 1), .unset, .unset] [(.int 58)])
    refine own_at (fun t k => XS.iloadN X3.here hx rfl (hb hby at_85) rfl k) ?_
    show own_Go p e below KK T3 (mkF m 86 #[.val (.int p1), .val (.int p2), .val (.int c1), .val (.int 1), .val (.int 1), .val (.int d1), .val (.int (own_F_prog_16_6 c2)), .val (.int c3), .val (.int 1), .unset, .unset] [(.int p2), (.int 58)])
    refine own_at (fun t k => XS.bipush X3.here hx rfl (hb hby at_86) k) ?_
    show own_Go p e below KK T3 (mkF m 88 #[.val (.int p1), .val (.int p2), .val (.int c1), .val (.int 1), .val (.int 1), .val (.int d1), .val (.int (own_F_prog_16_6 c2)), .val (.int c3), .val (.int 1), .unset, .unset] [(.int 8), (.int p2), (.int 58)])
    refine own_at (fun t k => XS.iushr X3.here hx rfl (hb hby at_88) rfl k) ?_
    show own_Go p e below KK T3 (mkF m 89 #[.val (.int p1), .val (.int p2), .val (.int c1), .val (.int 1), .val (.int 1), .val (.int d1), .val (.int (own_F_prog_16_6 c2)), .val (.int c3), .val (.int 1), .unset, .unset] [(.int ((p2.toUInt32 >>> ((8 : Int32) &&& 31).toUInt32).toInt32)), (.int 58)])
    refine own_at (fun t k => XS.sipush X3.here hx rfl (hb hby at_89) k) ?_
    show own_Go p e below KK T3 (mkF m 92 #[.val (.int p1), .val (.int p2), .val (.int c1), .val (.int 1), .val (.int 1), .val (.int d1), .val (.int (own_F_prog_16_6 c2)), .val (.int c3), .val (.int 1), .unset, .unset] [(.int 32767), (.int ((p2.toUInt32 >>> ((8 : Int32) &&& 31).toUInt32).toInt32)), (.int 58)])
    refine own_at (fun t k => XS.iand X3.here hx rfl (hb hby at_92) rfl k) ?_
    show own_Go p e below KK T3 (mkF m 93 #[.val (.int p1), .val (.int p2), .val (.int c1), .val (.int 1), .val (.int 1), .val (.int d1), .val (.int (own_F_prog_16_6 c2)), .val (.int c3), .val (.int 1), .unset, .unset] [(.int (((p2.toUInt32 >>> ((8 : Int32) &&& 31).toUInt32).toInt32) &&& (32767 : Int32))), (.int 58)])
    refine own_at (fun t k => XS.iadd X3.here hx rfl (hb hby at_93) rfl k) ?_
    show own_Go p e below KK T3 (mkF m 94 #[.val (.int p1), .val (.int p2), .val (.int c1), .val (.int 1), .val (.int 1), .val (.int d1), .val (.int (own_F_prog_16_6 c2)), .val (.int c3), .val (.int 1), .unset, .unset] [(.int ((58 : Int32) + (((p2.toUInt32 >>> ((8 : Int32) &&& 31).toUInt32).toInt32) &&& (32767 : Int32))))])
    refine own_at (fun t k => XS.i2c X3.here hx rfl (hb hby at_94) rfl k) ?_
    show own_Go p e below KK T3 (mkF m 95 #[.val (.int p1), .val (.int p2), .val (.int c1), .val (.int 1), .val (.int 1), .val (.int d1), .val (.int (own_F_prog_16_6 c2)), .val (.int c3), .val (.int 1), .unset, .unset] [(.int (((58 : Int32) + (((p2.toUInt32 >>> ((8 : Int32) &&& 31).toUInt32).toInt32) &&& (32767 : Int32))).toUInt32.toUInt16.toUInt32.toInt32))])
    obtain ⟨c4, hc4⟩ : ∃ z, z = (((58 : Int32) + (((p2.toUInt32 >>> ((8 : Int32) &&& 31).toUInt32).toInt32) &&& (32767 : Int32))).toUInt32.toUInt16.toUInt32.toInt32) := ⟨_, rfl⟩
    rw [← hc4]
    show own_Go p e below KK T3 (mkF m 95 #[.val (.int p1), .val (.int p2), .val (.int c1), .val (.int 1), .val (.int 1), .val (.int d1), .val (.int (own_F_prog_16_6 c2)), .val (.int c3), .val (.int 1), .unset, .unset] [(.int c4)])
    refine own_at (fun t k => XS.istore X3.here hx rfl (hb hby at_95) rfl (l' := #[.val (.int p1), .val (.int p2), .val (.int c1), .val (.int 1), .val (.int 1), .val (.int d1), .val (.int (own_F_prog_16_6 c2)), .val (.int c3), .val (.int 1), .val (.int c4), .unset]) rfl k) ?_
    show own_Go p e below KK T3 (mkF m 97 #[.val (.int p1), .val (.int p2), .val (.int c1), .val (.int 1), .val (.int 1), .val (.int d1), .val (.int (own_F_prog_16_6 c2)), .val (.int c3), .val (.int 1), .val (.int c4), .unset] [])
    refine own_at (fun t k => XS.iload X3.here hx rfl (hb hby at_97) rfl k) ?_
    show own_Go p e below KK T3 (mkF m 99 #[.val (.int p1), .val (.int p2), .val (.int c1), .val (.int 1), .val (.int 1), .val (.int d1), .val (.int (own_F_prog_16_6 c2)), .val (.int c3), .val (.int 1), .val (.int c4), .unset] [(.int c4)])
    obtain ⟨_, _, ⟨T4, L4, k4, n4⟩, -, X4, ⟨Lc4, hQ4, l4, y4, z4⟩, st4⟩ := Jvm.LawKit.callS X3 hx (y := (⟨"com/example/throughline/throughline/model/HttpGrammar", "isDigit", "(C)Z"⟩ : MethodName)) hown (mvT hZ (hw _ (List.mem_of_getElem? (i := 1) rfl))) (mvT hZ (hw _ (List.mem_of_getElem? (i := 2) rfl))) (mvT hZ (hw _ (List.mem_of_getElem? (i := 3) rfl))) (mvT hZ (hw _ (List.mem_of_getElem? (i := 4) rfl))) (by decide) (backOf (W := 0) (rm_prog_16_6 l Z a0 hw [] c4  h0 n0 Z0 ) hZ (hw _ (List.mem_of_getElem? (i := 4) rfl)) (hw _ (List.mem_of_getElem? (i := 3) rfl)) (by decide) (by decide)) (g := (mkF m 99 #[.val (.int p1), .val (.int p2), .val (.int c1), .val (.int 1), .val (.int 1), .val (.int d1), .val (.int (own_F_prog_16_6 c2)), .val (.int c3), .val (.int 1), .val (.int c4), .unset] [(.int c4)])) rfl (by rw [hml]; rfl) (argsL := [(.int c4)]) (rest := []) (lenOf pd__C_Z rfl) rfl (by show 2 * 0 + _ ≤ _; exact Nat.le_of_eq rfl) (hb hby at_99) (fun _ _ => ⟨rfl, e3, (by decide : 0 + 0 ≤ _), (by decide : 0 + 0 ≤ _)⟩)
    dsimp only [Pt.U, Pt.locs, Pt.cells, Pt.slots] at X4 l4 y4 z4 st4 hQ4
    subst l4 y4 z4
    obtain ⟨rfl, N4q, e4⟩ := hQ4
    have N4 := Fr.app N3 N4q
    refine own_of (fun t k => st4 t k) ?_
    show own_Go p e below KK T4 (mkF m 102 #[.val (.int p1), .val (.int p2), .val (.int c1), .val (.int 1), .val (.int 1), .val (.int d1), .val (.int (own_F_prog_16_6 c2)), .val (.int c3), .val (.int 1), .val (.int c4), .unset] [(.int (own_F_prog_16_6 c4))])
    have hc102 : (own_F_prog_16_6 c4) = (0 : Int32) := own_above hc4
    refine own_at (fun t k => XS.ifNo X4.here hx rfl (hb hby at_102) rfl (Jvm.Free.XT.i0_ne_f hc102) k) ?_
    show own_Go p e below KK T4 (mkF m 105 #[.val (.int p1), .val (.int p2), .val (.int c1), .val (.int 1), .val (.int 1), .val (.int d1), .val (.int (own_F_prog_16_6 c2)), .val (.int c3), .val (.int 1), .val (.int c4), .unset] [])
    refine own_at (fun t k => XS.iconst X4.here hx rfl (hb hby at_105) k) ?_
    show own_Go p e below KK T4 (mkF m 106 #[.val (.int p1), .val (.int p2), .val (.int c1), .val (.int 1), .val (.int 1), .val (.int d1), .val (.int (own_F_prog_16_6 c2)), .val (.int c3), .val (.int 1), .val (.int c4), .unset] [(.int 1)])
    refine own_at (fun t k => XS.goto X4.here hx rfl (pc0 := 106) (pc' := 110) rfl (hb hby at_106) (by decide) (by decide) k) ?_
    show own_Go p e below KK T4 (mkF m 110 #[.val (.int p1), .val (.int p2), .val (.int c1), .val (.int 1), .val (.int 1), .val (.int d1), .val (.int (own_F_prog_16_6 c2)), .val (.int c3), .val (.int 1), .val (.int c4), .unset] [(.int 1)])
    refine own_at (fun t k => XS.istore X4.here hx rfl (hb hby at_110) rfl (l' := #[.val (.int p1), .val (.int p2), .val (.int c1), .val (.int 1), .val (.int 1), .val (.int d1), .val (.int (own_F_prog_16_6 c2)), .val (.int c3), .val (.int 1), .val (.int c4), .val (.int 1)]) rfl k) ?_
    show own_Go p e below KK T4 (mkF m 112 #[.val (.int p1), .val (.int p2), .val (.int c1), .val (.int 1), .val (.int 1), .val (.int d1), .val (.int (own_F_prog_16_6 c2)), .val (.int c3), .val (.int 1), .val (.int c4), .val (.int 1)] [])
    refine own_at (fun t k => XS.iload X4.here hx rfl (hb hby at_112) rfl k) ?_
    show own_Go p e below KK T4 (mkF m 114 #[.val (.int p1), .val (.int p2), .val (.int c1), .val (.int 1), .val (.int 1), .val (.int d1), .val (.int (own_F_prog_16_6 c2)), .val (.int c3), .val (.int 1), .val (.int c4), .val (.int 1)] [(.int 1)])
    have hc114 : ¬ ((1 : Int32) = (0 : Int32)) := by decide
    refine own_at (fun t k => XS.ifNo X4.here hx rfl (hb hby at_114) rfl (Jvm.Free.XT.i0_eq_f hc114) k) ?_
    show own_Go p e below KK T4 (mkF m 117 #[.val (.int p1), .val (.int p2), .val (.int c1), .val (.int 1), .val (.int 1), .val (.int d1), .val (.int (own_F_prog_16_6 c2)), .val (.int c3), .val (.int 1), .val (.int c4), .val (.int 1)] [])
    refine own_at (fun t k => XS.iload X4.here hx rfl (hb hby at_117) rfl k) ?_
    show own_Go p e below KK T4 (mkF m 119 #[.val (.int p1), .val (.int p2), .val (.int c1), .val (.int 1), .val (.int 1), .val (.int d1), .val (.int (own_F_prog_16_6 c2)), .val (.int c3), .val (.int 1), .val (.int c4), .val (.int 1)] [(.int (own_F_prog_16_6 c2))])
    have hc119 : ¬ ((own_F_prog_16_6 c2) = (0 : Int32)) := own_dig hd1 hc2
    refine own_at (fun t k => XS.ifNo X4.here hx rfl (hb hby at_119) rfl (Jvm.Free.XT.i0_eq_f hc119) k) ?_
    show own_Go p e below KK T4 (mkF m 122 #[.val (.int p1), .val (.int p2), .val (.int c1), .val (.int 1), .val (.int 1), .val (.int d1), .val (.int (own_F_prog_16_6 c2)), .val (.int c3), .val (.int 1), .val (.int c4), .val (.int 1)] [])
    refine own_at (fun t k => XS.iload X4.here hx rfl (hb hby at_122) rfl k) ?_
    show own_Go p e below KK T4 (mkF m 124 #[.val (.int p1), .val (.int p2), .val (.int c1), .val (.int 1), .val (.int 1), .val (.int d1), .val (.int (own_F_prog_16_6 c2)), .val (.int c3), .val (.int 1), .val (.int c4), .val (.int 1)] [(.int 1)])
    have hc124 : ¬ ((1 : Int32) = (0 : Int32)) := by decide
    refine own_at (fun t k => XS.ifNo X4.here hx rfl (hb hby at_124) rfl (Jvm.Free.XT.i0_eq_f hc124) k) ?_
    show own_Go p e below KK T4 (mkF m 127 #[.val (.int p1), .val (.int p2), .val (.int c1), .val (.int 1), .val (.int 1), .val (.int d1), .val (.int (own_F_prog_16_6 c2)), .val (.int c3), .val (.int 1), .val (.int c4), .val (.int 1)] [])
    refine own_at (fun t k => XS.iload X4.here hx rfl (hb hby at_127) rfl k) ?_
    show own_Go p e below KK T4 (mkF m 129 #[.val (.int p1), .val (.int p2), .val (.int c1), .val (.int 1), .val (.int 1), .val (.int d1), .val (.int (own_F_prog_16_6 c2)), .val (.int c3), .val (.int 1), .val (.int c4), .val (.int 1)] [(.int 1)])
    have hc129 : ¬ ((1 : Int32) = (0 : Int32)) := by decide
    refine own_at (fun t k => XS.ifNo X4.here hx rfl (hb hby at_129) rfl (Jvm.Free.XT.i0_eq_f hc129) k) ?_
    show own_Go p e below KK T4 (mkF m 132 #[.val (.int p1), .val (.int p2), .val (.int c1), .val (.int 1), .val (.int 1), .val (.int d1), .val (.int (own_F_prog_16_6 c2)), .val (.int c3), .val (.int 1), .val (.int c4), .val (.int 1)] [])
    refine own_at (fun t k => XS.iconst X4.here hx rfl (hb hby at_132) k) ?_
    show own_Go p e below KK T4 (mkF m 133 #[.val (.int p1), .val (.int p2), .val (.int c1), .val (.int 1), .val (.int 1), .val (.int d1), .val (.int (own_F_prog_16_6 c2)), .val (.int c3), .val (.int 1), .val (.int c4), .val (.int 1)] [(.int 1)])
    refine own_at (fun t k => XS.goto X4.here hx rfl (pc0 := 133) (pc' := 137) rfl (hb hby at_133) (by decide) (by decide) k) ?_
    show own_Go p e below KK T4 (mkF m 137 #[.val (.int p1), .val (.int p2), .val (.int c1), .val (.int 1), .val (.int 1), .val (.int d1), .val (.int (own_F_prog_16_6 c2)), .val (.int c3), .val (.int 1), .val (.int c4), .val (.int 1)] [(.int 1)])
    subst hKK
    exact own_retN X4 hx hlk (t := .boolean) Bd.returns (by simp) (hb hby at_137) (w := (1 : Int32)) (show nar .boolean (1 : Int32) = 1 from by decide) ⟨rfl, N4⟩ (Nat.le_of_ble_eq_true rfl) (Nat.le_of_ble_eq_true rfl)
  · refine own_at (fun t k => XS.icmpYes X0.here hx rfl (pc0 := 15) (pc' := 22) rfl (hb hby at_15) rfl (Jvm.Free.XT.ii_ge_t hc15) (by decide) (by decide) k) ?_
    show own_Go p e below KK s₁ (mkF m 22 #[.val (.int p1), .val (.int p2), .val (.int c1), .unset, .unset, .unset, .unset, .unset, .unset, .unset, .unset] [])
    refine own_at (fun t k => XS.iconst X0.here hx rfl (hb hby at_22) k) ?_
    show own_Go p e below KK s₁ (mkF m 23 #[.val (.int p1), .val (.int p2), .val (.int c1), .unset, .unset, .unset, .unset, .unset, .unset, .unset, .unset] [(.int 0)])
    refine own_at (fun t k => XS.istoreN X0.here hx rfl (hb hby at_23) rfl (l' := #[.val (.int p1), .val (.int p2), .val (.int c1), .val (.int 0), .unset, .unset, .unset, .unset, .unset, .unset, .unset]) rfl k) ?_
    show own_Go p e below KK s₁ (mkF m 24 #[.val (.int p1), .val (.int p2), .val (.int c1), .val (.int 0), .unset, .unset, .unset, .unset, .unset, .unset, .unset] [])
    refine own_at (fun t k => XS.iloadN X0.here hx rfl (hb hby at_24) rfl k) ?_
    show own_Go p e below KK s₁ (mkF m 25 #[.val (.int p1), .val (.int p2), .val (.int c1), .val (.int 0), .unset, .unset, .unset, .unset, .unset, .unset, .unset] [(.int c1)])
    obtain ⟨_, _, ⟨T5, L5, k5, n5⟩, -, X5, ⟨Lc5, hQ5, l5, y5, z5⟩, st5⟩ := Jvm.LawKit.callS X0 hx (y := (⟨"com/example/throughline/throughline/model/HttpGrammar", "isDigit", "(C)Z"⟩ : MethodName)) hown (mvT hZ (hw _ (List.mem_of_getElem? (i := 1) rfl))) (mvT hZ (hw _ (List.mem_of_getElem? (i := 2) rfl))) (mvT hZ (hw _ (List.mem_of_getElem? (i := 3) rfl))) (mvT hZ (hw _ (List.mem_of_getElem? (i := 4) rfl))) (by decide) (backOf (W := 0) (rm_prog_16_6 l Z a0 hw [] c1  h0 n0 Z0 ) hZ (hw _ (List.mem_of_getElem? (i := 4) rfl)) (hw _ (List.mem_of_getElem? (i := 3) rfl)) (by decide) (by decide)) (g := (mkF m 25 #[.val (.int p1), .val (.int p2), .val (.int c1), .val (.int 0), .unset, .unset, .unset, .unset, .unset, .unset, .unset] [(.int c1)])) rfl (by rw [hml]; rfl) (argsL := [(.int c1)]) (rest := []) (lenOf pd__C_Z rfl) rfl (by show 2 * 0 + _ ≤ _; exact Nat.le_of_eq rfl) (hb hby at_25) (fun _ _ => ⟨rfl, e0, (by decide : 0 + 0 ≤ _), (by decide : 0 + 0 ≤ _)⟩)
    dsimp only [Pt.U, Pt.locs, Pt.cells, Pt.slots] at X5 l5 y5 z5 st5 hQ5
    subst l5 y5 z5
    obtain ⟨rfl, N5q, e5⟩ := hQ5
    have N5 := Fr.app N0 N5q
    refine own_of (fun t k => st5 t k) ?_
    show own_Go p e below KK T5 (mkF m 28 #[.val (.int p1), .val (.int p2), .val (.int c1), .val (.int 0), .unset, .unset, .unset, .unset, .unset, .unset, .unset] [(.int (own_F_prog_16_6 c1))])
    refine own_at (fun t k => XS.iloadN X5.here hx rfl (hb hby at_28) rfl k) ?_
    show own_Go p e below KK T5 (mkF m 29 #[.val (.int p1), .val (.int p2), .val (.int c1), .val (.int 0), .unset, .unset, .unset, .unset, .unset, .unset, .unset] [(.int 0), (.int (own_F_prog_16_6 c1))])
    have hc29 : (own_F_prog_16_6 c1) = (0 : Int32) := own_aF hc1 hc15
    refine own_at (fun t k => XS.icmpNo X5.here hx rfl (hb hby at_29) rfl (Jvm.Free.XT.ii_ne_f hc29) k) ?_
    show own_Go p e below KK T5 (mkF m 32 #[.val (.int p1), .val (.int p2), .val (.int c1), .val (.int 0), .unset, .unset, .unset, .unset, .unset, .unset, .unset] [])
    refine own_at (fun t k => XS.iconst X5.here hx rfl (hb hby at_32) k) ?_
    show own_Go p e below KK T5 (mkF m 33 #[.val (.int p1), .val (.int p2), .val (.int c1), .val (.int 0), .unset, .unset, .unset, .unset, .unset, .unset, .unset] [(.int 1)])
    refine own_at (fun t k => XS.goto X5.here hx rfl (pc0 := 33) (pc' := 37) rfl (hb hby at_33) (by decide) (by decide) k) ?_
    show own_Go p e below KK T5 (mkF m 37 #[.val (.int p1), .val (.int p2), .val (.int c1), .val (.int 0), .unset, .unset, .unset, .unset, .unset, .unset, .unset] [(.int 1)])
    refine own_at (fun t k => XS.istore X5.here hx rfl (hb hby at_37) rfl (l' := #[.val (.int p1), .val (.int p2), .val (.int c1), .val (.int 0), .val (.int 1), .unset, .unset, .unset, .unset, .unset, .unset]) rfl k) ?_
    show own_Go p e below KK T5 (mkF m 39 #[.val (.int p1), .val (.int p2), .val (.int c1), .val (.int 0), .val (.int 1), .unset, .unset, .unset, .unset, .unset, .unset] [])
    refine own_at (fun t k => XS.iloadN X5.here hx rfl (hb hby at_39) rfl k) ?_
    show own_Go p e below KK T5 (mkF m 40 #[.val (.int p1), .val (.int p2), .val (.int c1), .val (.int 0), .val (.int 1), .unset, .unset, .unset, .unset, .unset, .unset] [(.int p2)])
    refine own_at (fun t k => X5.ldcInt hx hown (mvT hZ (hw _ (List.mem_of_getElem? (i := 5) rfl))) (g := (mkF m 40 #[.val (.int p1), .val (.int p2), .val (.int c1), .val (.int 0), .val (.int 1), .unset, .unset, .unset, .unset, .unset, .unset] [(.int p2)])) rfl (hb hby at_40) t k) ?_
    show own_Go p e below KK T5 (mkF m 42 #[.val (.int p1), .val (.int p2), .val (.int c1), .val (.int 0), .val (.int 1), .unset, .unset, .unset, .unset, .unset, .unset] [(.int 2147483647), (.int p2)])
    refine own_at (fun t k => XS.iand X5.here hx rfl (hb hby at_42) rfl k) ?_
    show own_Go p e below KK T5 (mkF m 43 #[.val (.int p1), .val (.int p2), .val (.int c1), .val (.int 0), .val (.int 1), .unset, .unset, .unset, .unset, .unset, .unset] [(.int (p2 &&& (2147483647 : Int32)))])
    refine own_at (fun t k => XS.bipush X5.here hx rfl (hb hby at_43) k) ?_
    show own_Go p e below KK T5 (mkF m 45 #[.val (.int p1), .val (.int p2), .val (.int c1), .val (.int 0), .val (.int 1), .unset, .unset, .unset, .unset, .unset, .unset] [(.int 10), (.int (p2 &&& (2147483647 : Int32)))])
    refine own_at (fun t k => XS.irem X5.here hx rfl (hb hby at_45) rfl (by decide) k) ?_
    show own_Go p e below KK T5 (mkF m 46 #[.val (.int p1), .val (.int p2), .val (.int c1), .val (.int 0), .val (.int 1), .unset, .unset, .unset, .unset, .unset, .unset] [(.int ((p2 &&& (2147483647 : Int32)) - ((p2 &&& (2147483647 : Int32)) / (10 : Int32)) * (10 : Int32)))])
    obtain ⟨d1, hd1⟩ : ∃ z, z = ((p2 &&& (2147483647 : Int32)) - ((p2 &&& (2147483647 : Int32)) / (10 : Int32)) * (10 : Int32)) := ⟨_, rfl⟩
    rw [← hd1]
    show own_Go p e below KK T5 (mkF m 46 #[.val (.int p1), .val (.int p2), .val (.int c1), .val (.int 0), .val (.int 1), .unset, .unset, .unset, .unset, .unset, .unset] [(.int d1)])
    refine own_at (fun t k => XS.istore X5.here hx rfl (hb hby at_46) rfl (l' := #[.val (.int p1), .val (.int p2), .val (.int c1), .val (.int 0), .val (.int 1), .val (.int d1), .unset, .unset, .unset, .unset, .unset]) rfl k) ?_
    show own_Go p e below KK T5 (mkF m 48 #[.val (.int p1), .val (.int p2), .val (.int c1), .val (.int 0), .val (.int 1), .val (.int d1), .unset, .unset, .unset, .unset, .unset] [])
    refine own_at (fun t k => XS.bipush X5.here hx rfl (hb hby at_48) k) ?_
    show own_Go p e below KK T5 (mkF m 50 #[.val (.int p1), .val (.int p2), .val (.int c1), .val (.int 0), .val (.int 1), .val (.int d1), .unset, .unset, .unset, .unset, .unset] [(.int 48)])
    refine own_at (fun t k => XS.iload X5.here hx rfl (hb hby at_50) rfl k) ?_
    show own_Go p e below KK T5 (mkF m 52 #[.val (.int p1), .val (.int p2), .val (.int c1), .val (.int 0), .val (.int 1), .val (.int d1), .unset, .unset, .unset, .unset, .unset] [(.int d1), (.int 48)])
    refine own_at (fun t k => XS.iadd X5.here hx rfl (hb hby at_52) rfl k) ?_
    show own_Go p e below KK T5 (mkF m 53 #[.val (.int p1), .val (.int p2), .val (.int c1), .val (.int 0), .val (.int 1), .val (.int d1), .unset, .unset, .unset, .unset, .unset] [(.int ((48 : Int32) + d1))])
    refine own_at (fun t k => XS.i2c X5.here hx rfl (hb hby at_53) rfl k) ?_
    show own_Go p e below KK T5 (mkF m 54 #[.val (.int p1), .val (.int p2), .val (.int c1), .val (.int 0), .val (.int 1), .val (.int d1), .unset, .unset, .unset, .unset, .unset] [(.int (((48 : Int32) + d1).toUInt32.toUInt16.toUInt32.toInt32))])
    obtain ⟨c2, hc2⟩ : ∃ z, z = (((48 : Int32) + d1).toUInt32.toUInt16.toUInt32.toInt32) := ⟨_, rfl⟩
    rw [← hc2]
    show own_Go p e below KK T5 (mkF m 54 #[.val (.int p1), .val (.int p2), .val (.int c1), .val (.int 0), .val (.int 1), .val (.int d1), .unset, .unset, .unset, .unset, .unset] [(.int c2)])
    obtain ⟨_, _, ⟨T6, L6, k6, n6⟩, -, X6, ⟨Lc6, hQ6, l6, y6, z6⟩, st6⟩ := Jvm.LawKit.callS X5 hx (y := (⟨"com/example/throughline/throughline/model/HttpGrammar", "isDigit", "(C)Z"⟩ : MethodName)) hown (mvT hZ (hw _ (List.mem_of_getElem? (i := 1) rfl))) (mvT hZ (hw _ (List.mem_of_getElem? (i := 2) rfl))) (mvT hZ (hw _ (List.mem_of_getElem? (i := 3) rfl))) (mvT hZ (hw _ (List.mem_of_getElem? (i := 4) rfl))) (by decide) (backOf (W := 0) (rm_prog_16_6 l Z a0 hw [] c2  h0 n0 Z0 ) hZ (hw _ (List.mem_of_getElem? (i := 4) rfl)) (hw _ (List.mem_of_getElem? (i := 3) rfl)) (by decide) (by decide)) (g := (mkF m 54 #[.val (.int p1), .val (.int p2), .val (.int c1), .val (.int 0), .val (.int 1), .val (.int d1), .unset, .unset, .unset, .unset, .unset] [(.int c2)])) rfl (by rw [hml]; rfl) (argsL := [(.int c2)]) (rest := []) (lenOf pd__C_Z rfl) rfl (by show 2 * 0 + _ ≤ _; exact Nat.le_of_eq rfl) (hb hby at_54) (fun _ _ => ⟨rfl, e5, (by decide : 0 + 0 ≤ _), (by decide : 0 + 0 ≤ _)⟩)
    dsimp only [Pt.U, Pt.locs, Pt.cells, Pt.slots] at X6 l6 y6 z6 st6 hQ6
    subst l6 y6 z6
    obtain ⟨rfl, N6q, e6⟩ := hQ6
    have N6 := Fr.app N5 N6q
    refine own_of (fun t k => st6 t k) ?_
    show own_Go p e below KK T6 (mkF m 57 #[.val (.int p1), .val (.int p2), .val (.int c1), .val (.int 0), .val (.int 1), .val (.int d1), .unset, .unset, .unset, .unset, .unset] [(.int (own_F_prog_16_6 c2))])
    refine own_at (fun t k => XS.istore X6.here hx rfl (hb hby at_57) rfl (l' := #[.val (.int p1), .val (.int p2), .val (.int c1), .val (.int 0), .val (.int 1), .val (.int d1), .val (.int (own_F_prog_16_6 c2)), .unset, .unset, .unset, .unset]) rfl k) ?_
    show own_Go p e below KK T6 (mkF m 59 #[.val (.int p1), .val (.int p2), .val (.int c1), .val (.int 0), .val (.int 1), .val (.int d1), .val (.int (own_F_prog_16_6 c2)), .unset, .unset, .unset, .unset] [])
    refine own_at (fun t k => XS.iloadN X6.here hx rfl (hb hby at_59) rfl k) ?_
    show own_Go p e below KK T6 (mkF m 60 #[.val (.int p1), .val (.int p2), .val (.int c1), .val (.int 0), .val (.int 1), .val (.int d1), .val (.int (own_F_prog_16_6 c2)), .unset, .unset, .unset, .unset] [(.int p2)])
    refine own_at (fun t k => XS.iconst X6.here hx rfl (hb hby at_60) k) ?_
    show own_Go p e below KK T6 (mkF m 61 #[.val (.int p1), .val (.int p2), .val (.int c1), .val (.int 0), .val (.int 1), .val (.int d1), .val (.int (own_F_prog_16_6 c2)), .unset, .unset, .unset, .unset] [(.int 4), (.int p2)])
    refine own_at (fun t k => XS.iushr X6.here hx rfl (hb hby at_61) rfl k) ?_
    show own_Go p e below KK T6 (mkF m 62 #[.val (.int p1), .val (.int p2), .val (.int c1), .val (.int 0), .val (.int 1), .val (.int d1), .val (.int (own_F_prog_16_6 c2)), .unset, .unset, .unset, .unset] [(.int ((p2.toUInt32 >>> ((4 : Int32) &&& 31).toUInt32).toInt32))])
    refine own_at (fun t k => XS.bipush X6.here hx rfl (hb hby at_62) k) ?_
    show own_Go p e below KK T6 (mkF m 64 #[.val (.int p1), .val (.int p2), .val (.int c1), .val (.int 0), .val (.int 1), .val (.int d1), .val (.int (own_F_prog_16_6 c2)), .unset, .unset, .unset, .unset] [(.int 47), (.int ((p2.toUInt32 >>> ((4 : Int32) &&& 31).toUInt32).toInt32))])
    refine own_at (fun t k => XS.iand X6.here hx rfl (hb hby at_64) rfl k) ?_
    show own_Go p e below KK T6 (mkF m 65 #[.val (.int p1), .val (.int p2), .val (.int c1), .val (.int 0), .val (.int 1), .val (.int d1), .val (.int (own_F_prog_16_6 c2)), .unset, .unset, .unset, .unset] [(.int (((p2.toUInt32 >>> ((4 : Int32) &&& 31).toUInt32).toInt32) &&& (47 : Int32)))])
    refine own_at (fun t k => XS.i2c X6.here hx rfl (hb hby at_65) rfl k) ?_
    show own_Go p e below KK T6 (mkF m 66 #[.val (.int p1), .val (.int p2), .val (.int c1), .val (.int 0), .val (.int 1), .val (.int d1), .val (.int (own_F_prog_16_6 c2)), .unset, .unset, .unset, .unset] [(.int ((((p2.toUInt32 >>> ((4 : Int32) &&& 31).toUInt32).toInt32) &&& (47 : Int32)).toUInt32.toUInt16.toUInt32.toInt32))])
    obtain ⟨c3, hc3⟩ : ∃ z, z = ((((p2.toUInt32 >>> ((4 : Int32) &&& 31).toUInt32).toInt32) &&& (47 : Int32)).toUInt32.toUInt16.toUInt32.toInt32) := ⟨_, rfl⟩
    rw [← hc3]
    show own_Go p e below KK T6 (mkF m 66 #[.val (.int p1), .val (.int p2), .val (.int c1), .val (.int 0), .val (.int 1), .val (.int d1), .val (.int (own_F_prog_16_6 c2)), .unset, .unset, .unset, .unset] [(.int c3)])
    refine own_at (fun t k => XS.istore X6.here hx rfl (hb hby at_66) rfl (l' := #[.val (.int p1), .val (.int p2), .val (.int c1), .val (.int 0), .val (.int 1), .val (.int d1), .val (.int (own_F_prog_16_6 c2)), .val (.int c3), .unset, .unset, .unset]) rfl k) ?_
    show own_Go p e below KK T6 (mkF m 68 #[.val (.int p1), .val (.int p2), .val (.int c1), .val (.int 0), .val (.int 1), .val (.int d1), .val (.int (own_F_prog_16_6 c2)), .val (.int c3), .unset, .unset, .unset] [])
    refine own_at (fun t k => XS.iload X6.here hx rfl (hb hby at_68) rfl k) ?_
    show own_Go p e below KK T6 (mkF m 70 #[.val (.int p1), .val (.int p2), .val (.int c1), .val (.int 0), .val (.int 1), .val (.int d1), .val (.int (own_F_prog_16_6 c2)), .val (.int c3), .unset, .unset, .unset] [(.int c3)])
    obtain ⟨_, _, ⟨T7, L7, k7, n7⟩, -, X7, ⟨Lc7, hQ7, l7, y7, z7⟩, st7⟩ := Jvm.LawKit.callS X6 hx (y := (⟨"com/example/throughline/throughline/model/HttpGrammar", "isDigit", "(C)Z"⟩ : MethodName)) hown (mvT hZ (hw _ (List.mem_of_getElem? (i := 1) rfl))) (mvT hZ (hw _ (List.mem_of_getElem? (i := 2) rfl))) (mvT hZ (hw _ (List.mem_of_getElem? (i := 3) rfl))) (mvT hZ (hw _ (List.mem_of_getElem? (i := 4) rfl))) (by decide) (backOf (W := 0) (rm_prog_16_6 l Z a0 hw [] c3  h0 n0 Z0 ) hZ (hw _ (List.mem_of_getElem? (i := 4) rfl)) (hw _ (List.mem_of_getElem? (i := 3) rfl)) (by decide) (by decide)) (g := (mkF m 70 #[.val (.int p1), .val (.int p2), .val (.int c1), .val (.int 0), .val (.int 1), .val (.int d1), .val (.int (own_F_prog_16_6 c2)), .val (.int c3), .unset, .unset, .unset] [(.int c3)])) rfl (by rw [hml]; rfl) (argsL := [(.int c3)]) (rest := []) (lenOf pd__C_Z rfl) rfl (by show 2 * 0 + _ ≤ _; exact Nat.le_of_eq rfl) (hb hby at_70) (fun _ _ => ⟨rfl, e6, (by decide : 0 + 0 ≤ _), (by decide : 0 + 0 ≤ _)⟩)
    dsimp only [Pt.U, Pt.locs, Pt.cells, Pt.slots] at X7 l7 y7 z7 st7 hQ7
    subst l7 y7 z7
    obtain ⟨rfl, N7q, e7⟩ := hQ7
    have N7 := Fr.app N6 N7q
    refine own_of (fun t k => st7 t k) ?_
    show own_Go p e below KK T7 (mkF m 73 #[.val (.int p1), .val (.int p2), .val (.int c1), .val (.int 0), .val (.int 1), .val (.int d1), .val (.int (own_F_prog_16_6 c2)), .val (.int c3), .unset, .unset, .unset] [(.int (own_F_prog_16_6 c3))])
    have hc73 : (own_F_prog_16_6 c3) = (0 : Int32) := own_below hc3
    refine own_at (fun t k => XS.ifNo X7.here hx rfl (hb hby at_73) rfl (Jvm.Free.XT.i0_ne_f hc73) k) ?_
    show own_Go p e below KK T7 (mkF m 76 #[.val (.int p1), .val (.int p2), .val (.int c1), .val (.int 0), .val (.int 1), .val (.int d1), .val (.int (own_F_prog_16_6 c2)), .val (.int c3), .unset, .unset, .unset] [])
    refine own_at (fun t k => XS.iconst X7.here hx rfl (hb hby at_76) k) ?_
    show own_Go p e below KK T7 (mkF m 77 #[.val (.int p1), .val (.int p2), .val (.int c1), .val (.int 0), .val (.int 1), .val (.int d1), .val (.int (own_F_prog_16_6 c2)), .val (.int c3), .unset, .unset, .unset] [(.int 1)])
    refine own_at (fun t k => XS.goto X7.here hx rfl (pc0 := 77) (pc' := 81) rfl (hb hby at_77) (by decide) (by decide) k) ?_
    show own_Go p e below KK T7 (mkF m 81 #[.val (.int p1), .val (.int p2), .val (.int c1), .val (.int 0), .val (.int 1), .val (.int d1), .val (.int (own_F_prog_16_6 c2)), .val (.int c3), .unset, .unset, .unset] [(.int 1)])
    refine own_at (fun t k => XS.istore X7.here hx rfl (hb hby at_81) rfl (l' := #[.val (.int p1), .val (.int p2), .val (.int c1), .val (.int 0), .val (.int 1), .val (.int d1), .val (.int (own_F_prog_16_6 c2)), .val (.int c3), .val (.int 1), .unset, .unset]) rfl k) ?_
    show own_Go p e below KK T7 (mkF m 83 #[.val (.int p1), .val (.int p2), .val (.int c1), .val (.int 0), .val (.int 1), .val (.int d1), .val (.int (own_F_prog_16_6 c2)), .val (.int c3), .val (.int 1), .unset, .unset] [])
    refine own_at (fun t k => XS.bipush X7.here hx rfl (hb hby at_83) k) ?_
    show own_Go p e below KK T7 (mkF m 85 #[.val (.int p1), .val (.int p2), .val (.int c1), .val (.int 0), .val (.int 1), .val (.int d1), .val (.int (own_F_prog_16_6 c2)), .val (.int c3), .val (.int 1), .unset, .unset] [(.int 58)])
    refine own_at (fun t k => XS.iloadN X7.here hx rfl (hb hby at_85) rfl k) ?_
    show own_Go p e below KK T7 (mkF m 86 #[.val (.int p1), .val (.int p2), .val (.int c1), .val (.int 0), .val (.int 1), .val (.int d1), .val (.int (own_F_prog_16_6 c2)), .val (.int c3), .val (.int 1), .unset, .unset] [(.int p2), (.int 58)])
    refine own_at (fun t k => XS.bipush X7.here hx rfl (hb hby at_86) k) ?_
    show own_Go p e below KK T7 (mkF m 88 #[.val (.int p1), .val (.int p2), .val (.int c1), .val (.int 0), .val (.int 1), .val (.int d1), .val (.int (own_F_prog_16_6 c2)), .val (.int c3), .val (.int 1), .unset, .unset] [(.int 8), (.int p2), (.int 58)])
    refine own_at (fun t k => XS.iushr X7.here hx rfl (hb hby at_88) rfl k) ?_
    show own_Go p e below KK T7 (mkF m 89 #[.val (.int p1), .val (.int p2), .val (.int c1), .val (.int 0), .val (.int 1), .val (.int d1), .val (.int (own_F_prog_16_6 c2)), .val (.int c3), .val (.int 1), .unset, .unset] [(.int ((p2.toUInt32 >>> ((8 : Int32) &&& 31).toUInt32).toInt32)), (.int 58)])
    refine own_at (fun t k => XS.sipush X7.here hx rfl (hb hby at_89) k) ?_
    show own_Go p e below KK T7 (mkF m 92 #[.val (.int p1), .val (.int p2), .val (.int c1), .val (.int 0), .val (.int 1), .val (.int d1), .val (.int (own_F_prog_16_6 c2)), .val (.int c3), .val (.int 1), .unset, .unset] [(.int 32767), (.int ((p2.toUInt32 >>> ((8 : Int32) &&& 31).toUInt32).toInt32)), (.int 58)])
    refine own_at (fun t k => XS.iand X7.here hx rfl (hb hby at_92) rfl k) ?_
    show own_Go p e below KK T7 (mkF m 93 #[.val (.int p1), .val (.int p2), .val (.int c1), .val (.int 0), .val (.int 1), .val (.int d1), .val (.int (own_F_prog_16_6 c2)), .val (.int c3), .val (.int 1), .unset, .unset] [(.int (((p2.toUInt32 >>> ((8 : Int32) &&& 31).toUInt32).toInt32) &&& (32767 : Int32))), (.int 58)])
    refine own_at (fun t k => XS.iadd X7.here hx rfl (hb hby at_93) rfl k) ?_
    show own_Go p e below KK T7 (mkF m 94 #[.val (.int p1), .val (.int p2), .val (.int c1), .val (.int 0), .val (.int 1), .val (.int d1), .val (.int (own_F_prog_16_6 c2)), .val (.int c3), .val (.int 1), .unset, .unset] [(.int ((58 : Int32) + (((p2.toUInt32 >>> ((8 : Int32) &&& 31).toUInt32).toInt32) &&& (32767 : Int32))))])
    refine own_at (fun t k => XS.i2c X7.here hx rfl (hb hby at_94) rfl k) ?_
    show own_Go p e below KK T7 (mkF m 95 #[.val (.int p1), .val (.int p2), .val (.int c1), .val (.int 0), .val (.int 1), .val (.int d1), .val (.int (own_F_prog_16_6 c2)), .val (.int c3), .val (.int 1), .unset, .unset] [(.int (((58 : Int32) + (((p2.toUInt32 >>> ((8 : Int32) &&& 31).toUInt32).toInt32) &&& (32767 : Int32))).toUInt32.toUInt16.toUInt32.toInt32))])
    obtain ⟨c4, hc4⟩ : ∃ z, z = (((58 : Int32) + (((p2.toUInt32 >>> ((8 : Int32) &&& 31).toUInt32).toInt32) &&& (32767 : Int32))).toUInt32.toUInt16.toUInt32.toInt32) := ⟨_, rfl⟩
    rw [← hc4]
    show own_Go p e below KK T7 (mkF m 95 #[.val (.int p1), .val (.int p2), .val (.int c1), .val (.int 0), .val (.int 1), .val (.int d1), .val (.int (own_F_prog_16_6 c2)), .val (.int c3), .val (.int 1), .unset, .unset] [(.int c4)])
    refine own_at (fun t k => XS.istore X7.here hx rfl (hb hby at_95) rfl (l' := #[.val (.int p1), .val (.int p2), .val (.int c1), .val (.int 0), .val (.int 1), .val (.int d1), .val (.int (own_F_prog_16_6 c2)), .val (.int c3), .val (.int 1), .val (.int c4), .unset]) rfl k) ?_
    show own_Go p e below KK T7 (mkF m 97 #[.val (.int p1), .val (.int p2), .val (.int c1), .val (.int 0), .val (.int 1), .val (.int d1), .val (.int (own_F_prog_16_6 c2)), .val (.int c3), .val (.int 1), .val (.int c4), .unset] [])
    refine own_at (fun t k => XS.iload X7.here hx rfl (hb hby at_97) rfl k) ?_
    show own_Go p e below KK T7 (mkF m 99 #[.val (.int p1), .val (.int p2), .val (.int c1), .val (.int 0), .val (.int 1), .val (.int d1), .val (.int (own_F_prog_16_6 c2)), .val (.int c3), .val (.int 1), .val (.int c4), .unset] [(.int c4)])
    obtain ⟨_, _, ⟨T8, L8, k8, n8⟩, -, X8, ⟨Lc8, hQ8, l8, y8, z8⟩, st8⟩ := Jvm.LawKit.callS X7 hx (y := (⟨"com/example/throughline/throughline/model/HttpGrammar", "isDigit", "(C)Z"⟩ : MethodName)) hown (mvT hZ (hw _ (List.mem_of_getElem? (i := 1) rfl))) (mvT hZ (hw _ (List.mem_of_getElem? (i := 2) rfl))) (mvT hZ (hw _ (List.mem_of_getElem? (i := 3) rfl))) (mvT hZ (hw _ (List.mem_of_getElem? (i := 4) rfl))) (by decide) (backOf (W := 0) (rm_prog_16_6 l Z a0 hw [] c4  h0 n0 Z0 ) hZ (hw _ (List.mem_of_getElem? (i := 4) rfl)) (hw _ (List.mem_of_getElem? (i := 3) rfl)) (by decide) (by decide)) (g := (mkF m 99 #[.val (.int p1), .val (.int p2), .val (.int c1), .val (.int 0), .val (.int 1), .val (.int d1), .val (.int (own_F_prog_16_6 c2)), .val (.int c3), .val (.int 1), .val (.int c4), .unset] [(.int c4)])) rfl (by rw [hml]; rfl) (argsL := [(.int c4)]) (rest := []) (lenOf pd__C_Z rfl) rfl (by show 2 * 0 + _ ≤ _; exact Nat.le_of_eq rfl) (hb hby at_99) (fun _ _ => ⟨rfl, e7, (by decide : 0 + 0 ≤ _), (by decide : 0 + 0 ≤ _)⟩)
    dsimp only [Pt.U, Pt.locs, Pt.cells, Pt.slots] at X8 l8 y8 z8 st8 hQ8
    subst l8 y8 z8
    obtain ⟨rfl, N8q, e8⟩ := hQ8
    have N8 := Fr.app N7 N8q
    refine own_of (fun t k => st8 t k) ?_
    show own_Go p e below KK T8 (mkF m 102 #[.val (.int p1), .val (.int p2), .val (.int c1), .val (.int 0), .val (.int 1), .val (.int d1), .val (.int (own_F_prog_16_6 c2)), .val (.int c3), .val (.int 1), .val (.int c4), .unset] [(.int (own_F_prog_16_6 c4))])
    have hc102 : (own_F_prog_16_6 c4) = (0 : Int32) := own_above hc4
    refine own_at (fun t k => XS.ifNo X8.here hx rfl (hb hby at_102) rfl (Jvm.Free.XT.i0_ne_f hc102) k) ?_
    show own_Go p e below KK T8 (mkF m 105 #[.val (.int p1), .val (.int p2), .val (.int c1), .val (.int 0), .val (.int 1), .val (.int d1), .val (.int (own_F_prog_16_6 c2)), .val (.int c3), .val (.int 1), .val (.int c4), .unset] [])
    refine own_at (fun t k => XS.iconst X8.here hx rfl (hb hby at_105) k) ?_
    show own_Go p e below KK T8 (mkF m 106 #[.val (.int p1), .val (.int p2), .val (.int c1), .val (.int 0), .val (.int 1), .val (.int d1), .val (.int (own_F_prog_16_6 c2)), .val (.int c3), .val (.int 1), .val (.int c4), .unset] [(.int 1)])
    refine own_at (fun t k => XS.goto X8.here hx rfl (pc0 := 106) (pc' := 110) rfl (hb hby at_106) (by decide) (by decide) k) ?_
    show own_Go p e below KK T8 (mkF m 110 #[.val (.int p1), .val (.int p2), .val (.int c1), .val (.int 0), .val (.int 1), .val (.int d1), .val (.int (own_F_prog_16_6 c2)), .val (.int c3), .val (.int 1), .val (.int c4), .unset] [(.int 1)])
    refine own_at (fun t k => XS.istore X8.here hx rfl (hb hby at_110) rfl (l' := #[.val (.int p1), .val (.int p2), .val (.int c1), .val (.int 0), .val (.int 1), .val (.int d1), .val (.int (own_F_prog_16_6 c2)), .val (.int c3), .val (.int 1), .val (.int c4), .val (.int 1)]) rfl k) ?_
    show own_Go p e below KK T8 (mkF m 112 #[.val (.int p1), .val (.int p2), .val (.int c1), .val (.int 0), .val (.int 1), .val (.int d1), .val (.int (own_F_prog_16_6 c2)), .val (.int c3), .val (.int 1), .val (.int c4), .val (.int 1)] [])
    refine own_at (fun t k => XS.iload X8.here hx rfl (hb hby at_112) rfl k) ?_
    show own_Go p e below KK T8 (mkF m 114 #[.val (.int p1), .val (.int p2), .val (.int c1), .val (.int 0), .val (.int 1), .val (.int d1), .val (.int (own_F_prog_16_6 c2)), .val (.int c3), .val (.int 1), .val (.int c4), .val (.int 1)] [(.int 1)])
    have hc114 : ¬ ((1 : Int32) = (0 : Int32)) := by decide
    refine own_at (fun t k => XS.ifNo X8.here hx rfl (hb hby at_114) rfl (Jvm.Free.XT.i0_eq_f hc114) k) ?_
    show own_Go p e below KK T8 (mkF m 117 #[.val (.int p1), .val (.int p2), .val (.int c1), .val (.int 0), .val (.int 1), .val (.int d1), .val (.int (own_F_prog_16_6 c2)), .val (.int c3), .val (.int 1), .val (.int c4), .val (.int 1)] [])
    refine own_at (fun t k => XS.iload X8.here hx rfl (hb hby at_117) rfl k) ?_
    show own_Go p e below KK T8 (mkF m 119 #[.val (.int p1), .val (.int p2), .val (.int c1), .val (.int 0), .val (.int 1), .val (.int d1), .val (.int (own_F_prog_16_6 c2)), .val (.int c3), .val (.int 1), .val (.int c4), .val (.int 1)] [(.int (own_F_prog_16_6 c2))])
    have hc119 : ¬ ((own_F_prog_16_6 c2) = (0 : Int32)) := own_dig hd1 hc2
    refine own_at (fun t k => XS.ifNo X8.here hx rfl (hb hby at_119) rfl (Jvm.Free.XT.i0_eq_f hc119) k) ?_
    show own_Go p e below KK T8 (mkF m 122 #[.val (.int p1), .val (.int p2), .val (.int c1), .val (.int 0), .val (.int 1), .val (.int d1), .val (.int (own_F_prog_16_6 c2)), .val (.int c3), .val (.int 1), .val (.int c4), .val (.int 1)] [])
    refine own_at (fun t k => XS.iload X8.here hx rfl (hb hby at_122) rfl k) ?_
    show own_Go p e below KK T8 (mkF m 124 #[.val (.int p1), .val (.int p2), .val (.int c1), .val (.int 0), .val (.int 1), .val (.int d1), .val (.int (own_F_prog_16_6 c2)), .val (.int c3), .val (.int 1), .val (.int c4), .val (.int 1)] [(.int 1)])
    have hc124 : ¬ ((1 : Int32) = (0 : Int32)) := by decide
    refine own_at (fun t k => XS.ifNo X8.here hx rfl (hb hby at_124) rfl (Jvm.Free.XT.i0_eq_f hc124) k) ?_
    show own_Go p e below KK T8 (mkF m 127 #[.val (.int p1), .val (.int p2), .val (.int c1), .val (.int 0), .val (.int 1), .val (.int d1), .val (.int (own_F_prog_16_6 c2)), .val (.int c3), .val (.int 1), .val (.int c4), .val (.int 1)] [])
    refine own_at (fun t k => XS.iload X8.here hx rfl (hb hby at_127) rfl k) ?_
    show own_Go p e below KK T8 (mkF m 129 #[.val (.int p1), .val (.int p2), .val (.int c1), .val (.int 0), .val (.int 1), .val (.int d1), .val (.int (own_F_prog_16_6 c2)), .val (.int c3), .val (.int 1), .val (.int c4), .val (.int 1)] [(.int 1)])
    have hc129 : ¬ ((1 : Int32) = (0 : Int32)) := by decide
    refine own_at (fun t k => XS.ifNo X8.here hx rfl (hb hby at_129) rfl (Jvm.Free.XT.i0_eq_f hc129) k) ?_
    show own_Go p e below KK T8 (mkF m 132 #[.val (.int p1), .val (.int p2), .val (.int c1), .val (.int 0), .val (.int 1), .val (.int d1), .val (.int (own_F_prog_16_6 c2)), .val (.int c3), .val (.int 1), .val (.int c4), .val (.int 1)] [])
    refine own_at (fun t k => XS.iconst X8.here hx rfl (hb hby at_132) k) ?_
    show own_Go p e below KK T8 (mkF m 133 #[.val (.int p1), .val (.int p2), .val (.int c1), .val (.int 0), .val (.int 1), .val (.int d1), .val (.int (own_F_prog_16_6 c2)), .val (.int c3), .val (.int 1), .val (.int c4), .val (.int 1)] [(.int 1)])
    refine own_at (fun t k => XS.goto X8.here hx rfl (pc0 := 133) (pc' := 137) rfl (hb hby at_133) (by decide) (by decide) k) ?_
    show own_Go p e below KK T8 (mkF m 137 #[.val (.int p1), .val (.int p2), .val (.int c1), .val (.int 0), .val (.int 1), .val (.int d1), .val (.int (own_F_prog_16_6 c2)), .val (.int c3), .val (.int 1), .val (.int c4), .val (.int 1)] [(.int 1)])
    subst hKK
    exact own_retN X8 hx hlk (t := .boolean) Bd.returns (by simp) (hb hby at_137) (w := (1 : Int32)) (show nar .boolean (1 : Int32) = 1 from by decide) ⟨rfl, N8⟩ (Nat.le_of_ble_eq_true rfl) (Nat.le_of_ble_eq_true rfl)
set_option maxRecDepth 65536 in
set_option maxHeartbeats 40000000 in
theorem comes_1 {Post : Tables → Env → Array Value → State → Outcome → State → Prop} (hpost : ∀ tb e args s v u, (limb_1_1.after args s (.returned v) u = true ∧ limb_1_2.after args s (.returned v) u = true ∧ True) → FrameEnd s (.returned v) u (Jvm.fieldLocs frame_1_writes args s ++ Jvm.arrayLocs frame_1_arrays args s ++ Jvm.staticLocs frame_1_statics s) 0 0 → Post tb e args s (.returned v) u) :
    ArmFor flags0 classFile x code maxLocals ret World_1 tables_1 room_1 Calls_1 rest_1 Pre_1 Post := by
  intro l hfl _ _ p e ha hc hk s m args below hf hA hF happ hP
  obtain ⟨hcalls, hrest, hpre⟩ := hP
  obtain ⟨-, -, -, hnamed, -, -, -, hat⟩ := (Spec.applies_iff hf).mp happ
  obtain ⟨hg, hn⟩ := and_e (Cond.before_iff.mp (show (Jvm.Cond.and given_1 narrow_1).before args s = true from hpre))
  obtain ⟨gc, g0⟩ := and_e hg
  obtain ⟨u0, g1⟩ := and_e g0
  obtain ⟨w0, w1, rfl⟩ : ∃ w0 w1 : Value, args = #[w0, w1] := by
    have hs : args.size = 2 := by simpa [Cond.value, given_1] using gc
    obtain ⟨L⟩ := args
    match L, hs with
    | [w0, w1], _ => exact ⟨w0, w1, rfl⟩
  have hw := fun d (hd : d ∈ tables_1) => atoms_spec (ws := Jvm.Cond.code x code maxLocals ret :: tables_1) hat d (List.mem_cons_of_mem _ hd)
  obtain ⟨i0, ei0⟩ := is_v u0
  obtain rfl : w0 = (.int i0) := Option.some.inj ei0
  obtain ⟨i1, ei1⟩ := is_v g1
  obtain rfl : w1 = (.int i1) := Option.some.inj ei1
  obtain ⟨n, o, h1, h2, h3, _, L, rfl, ⟨rfl, N⟩, hq⟩ := rm_law l s _ hw tables_1 i0 i1 s.heap s.heap.size (Nat.le_refl _) p e ha hc hk s m _ below hf ((Spec.applies_iff_loose hf).mp happ).1 ⟨rfl, State.Warmed39.refl s, rfl⟩ trivial
  refine ⟨n, _, h1, h2, h3, hpost _ _ _ _ _ _ ⟨Cond.after_iff.mpr rfl, Cond.after_iff.mpr (eq_i res_at (Term.int_eval (1)) rfl), trivial⟩ ⟨hq.1, hq.2.1, (hq.2.2.sift fun y hy => Or.inr (N y hy)).mono (by decide) (by decide)⟩⟩
theorem main_1_1 : Claimed_1_1 := comes_1 fun _ _ _ _ _ _ h hF => ⟨h.1, hF⟩
theorem main_1_2 : Claimed_1_2 := comes_1 fun _ _ _ _ _ _ h hF => ⟨h.2.1, hF⟩
end Jvm.Pilot.@@N@@
namespace Jvm.Pilot.@@N@@
open Jvm Jvm.ClassFile Sem Op Lib Jvm.Free Jvm.Stand Jvm.Pilot.@@N@@.Jvm.D
/-! MADE BY PROGRAM (witnessworld.py) out of the Statement's table words and the real class files: 9 classes; the members and pool entries that the words name. The judged class is class 1, her method 1. -/
namespace start1
open Jvm.ClassFile
def u (s : String) : CpInfo := .utf8 (stringToUtf16 s)
/-- a pool by its gaps: so many unusable entries, then the entry; so many at the end -/
def gap : Nat → List CpInfo → List CpInfo
  | 0, r => r
  | n + 1, r => .unusable :: gap n r
def poolList (es : List (Nat × CpInfo)) (last : Nat) : List CpInfo := es.foldr (fun e r => gap e.1 (e.2 :: r)) (gap last [])
def pool (es : List (Nat × CpInfo)) (last : Nat) : Array CpInfo := ⟨poolList es last⟩
def fileOf (pool : Array CpInfo) (this : Nat) (attrs : Array Attribute := #[]) (ms : Array MethodInfo := #[]) (fl : Nat := 33) (sup : Nat := 0) (ifs : Array Nat := #[]) (fds : Array FieldInfo := #[]) : ClassFile where
  minorVersion := 0
  majorVersion := 65
  constantPool := pool
  accessFlags := fl
  thisClass := this
  superClass := sup
  interfaces := ifs
  fields := fds
  methods := ms
  attributes := attrs
def plain (name : String) (sup : Option ClassId) : Class where
  name := name
  kind := .ordinary
  loader := none
  accessFlags := 33
  super := sup
  interfaces := #[]
  cf := none
  fields := #[]
  methods := #[]
  instanceTypes := #[]
  staticTypes := #[]
  resolved := #[]
  callSites := []
  init := .initialized
  statics := none
  mirror := none

def pool0 : Array CpInfo := pool [(5, u "<init>"), (0, u "()V"), (1, .class_ 10), (1, u "java/lang/Object")] 113

def k0m0 : Method := { name := "<init>", desc := "()V", sig := { parameters := [], returnType := none }, accessFlags := 1, code := none }
/-- java/lang/Object -/
def k0 : Class := { plain "java/lang/Object" none with
  accessFlags := 33
  interfaces := #[]
  cf := some (fileOf pool0 8 #[] #[{ accessFlags := 1, nameIndex := 5, descriptorIndex := 6, attributes := #[] }] 33 0 #[] #[])
  fields := #[]
  methods := #[k0m0]
  instanceTypes := #[]
  staticTypes := #[]
  resolved := Array.replicate 124 none
  statics := none }

def pool1 : Array CpInfo := pool [(2, .class_ 4), (1, u "java/lang/Object"), (0, u "<init>"), (0, u "()V"), (0, .integer 65535), (0, .methodref 9 10), (0, .class_ 11), (0, .nameAndType 12 13), (0, u "com/example/throughline/throughline/model/HttpGrammar"), (0, u "isDigit"), (0, u "(C)Z"), (0, .integer 2147483647), (0, .class_ 16), (0, u "com/example/throughline/throughline/model/HttpGrammarIsDigitPinLaw"), (2, u "law"), (0, u "(II)Z")] 3

def k1m0 : Method := { name := "<init>", desc := "()V", sig := { parameters := [], returnType := none }, accessFlags := 2, code := none }
def k1c1 : Code := { maxStack := 3, maxLocals := 11, code := code, exceptionTable := #[], attributes := #[] }
def k1m1 : Method := { name := "law", desc := "(II)Z", sig := { parameters := [.int, .int], returnType := some .boolean }, accessFlags := 9, code := some k1c1 }
/-- com/example/throughline/throughline/model/HttpGrammarIsDigitPinLaw -/
def k1 : Class := { plain "com/example/throughline/throughline/model/HttpGrammarIsDigitPinLaw" (some 0) with
  accessFlags := 49
  interfaces := #[]
  cf := some (fileOf pool1 15 #[] #[{ accessFlags := 2, nameIndex := 5, descriptorIndex := 6, attributes := #[] }, { accessFlags := 9, nameIndex := 19, descriptorIndex := 20, attributes := #[] }] 49 2 #[] #[])
  fields := #[]
  methods := #[k1m0, k1m1]
  instanceTypes := #[]
  staticTypes := #[]
  resolved := Array.replicate 24 none
  statics := none }

def pool2 : Array CpInfo := pool [(2, .class_ 4), (1, u "java/lang/Object"), (0, u "<init>"), (0, u "()V"), (49, .class_ 58), (1, u "com/example/throughline/throughline/model/HttpGrammar"), (1, u "(C)Z"), (2, u "isDigit"), (9, u "TOKEN_SYMBOLS"), (0, u "Ljava/lang/String;")] 16

def k2m0 : Method := { name := "<init>", desc := "()V", sig := { parameters := [], returnType := none }, accessFlags := 2, code := none }
def k2c1 : Code := { maxStack := 2, maxLocals := 1, code := prog_16_method_6_code, exceptionTable := #[], attributes := #[] }
def k2m1 : Method := { name := "isDigit", desc := "(C)Z", sig := { parameters := [.char], returnType := some .boolean }, accessFlags := 8, code := some k2c1 }
/-- com/example/throughline/throughline/model/HttpGrammar -/
def k2 : Class := { plain "com/example/throughline/throughline/model/HttpGrammar" (some 0) with
  accessFlags := 33
  interfaces := #[]
  cf := some (fileOf pool2 56 #[] #[{ accessFlags := 2, nameIndex := 5, descriptorIndex := 6, attributes := #[] }, { accessFlags := 8, nameIndex := 63, descriptorIndex := 60, attributes := #[] }] 33 2 #[] #[{ accessFlags := 26, nameIndex := 73, descriptorIndex := 74, attributes := #[] }])
  fields := #[{ name := "TOKEN_SYMBOLS", type := (.object "java/lang/String"), accessFlags := 26, slot := 0, constantValue := 0 }]
  methods := #[k2m0, k2m1]
  instanceTypes := #[]
  staticTypes := #[(.object "java/lang/String")]
  resolved := Array.replicate 91 none
  statics := none }

def pool3 : Array CpInfo := pool [(1, u "java/lang/Cloneable"), (0, .class_ 1), (0, u "java/lang/Object"), (0, .class_ 3)] 3

/-- java/lang/Cloneable -/
def k3 : Class := { plain "java/lang/Cloneable" (some 0) with
  accessFlags := 1537
  interfaces := #[]
  cf := some (fileOf pool3 2 #[] #[] 1537 4 #[] #[])
  fields := #[]
  methods := #[]
  instanceTypes := #[]
  staticTypes := #[]
  resolved := Array.replicate 8 none
  statics := none }

def pool4 : Array CpInfo := pool [(1, u "java/io/Serializable"), (0, .class_ 1), (0, u "java/lang/Object"), (0, .class_ 3)] 3

/-- java/io/Serializable -/
def k4 : Class := { plain "java/io/Serializable" (some 0) with
  accessFlags := 1537
  interfaces := #[]
  cf := some (fileOf pool4 2 #[] #[] 1537 4 #[] #[])
  fields := #[]
  methods := #[]
  instanceTypes := #[]
  staticTypes := #[]
  resolved := Array.replicate 8 none
  statics := none }

/-- the primitive byte -/
def k5 : Class := { plain "byte" none with kind := .primitive 'B', accessFlags := 0x411 }
/-- [B -/
def k6 : Class := { plain "[B" (some 0) with kind := .array 5 .byte, interfaces := #[3, 4], accessFlags := 1041 }

/-- the primitive int -/
def k7 : Class := { plain "int" none with kind := .primitive 'I', accessFlags := 0x411 }
/-- [I -/
def k8 : Class := { plain "[I" (some 0) with kind := .array 7 .int, interfaces := #[3, 4], accessFlags := 1041 }

def heap : Heap := #[]
def classes : Array Class := #[k0, k1, k2, k3, k4, k5, k6, k7, k8]
def interned : List (Array UInt16 × Addr) := []
def slotsUsed : Nat := 0
def theMethod : MethodId := ⟨1, 1⟩
def args0 : Array Value := #[.int 5, .int 6]
def aboutOver (below : List Frame) : State where
  vm := { classes := classes, interned := interned.toArray }
  heap := heap
  slotsUsed := slotsUsed
  threads := #[{ frames := .invoking theMethod args0 :: below }]
def below0 : List Frame := [.native { method := ⟨0, 0⟩, args := #[] }]
def about1 : State := aboutOver below0
def p0 : Program := .bare "" "" ""
def e0 : Env := launch0.env 0 0 0
theorem w_frames : about1.frames = Frame.invoking theMethod args0 :: below0 := rfl
set_option maxRecDepth 65536 in
theorem w_args : argsFit about1.vm theMethod args0 = true := by decide +kernel
set_option maxRecDepth 65536 in
theorem w_heap : heapFits about1 = true := by decide +kernel
set_option maxRecDepth 65536 in
theorem w_runnable : about1.curStatus? = some .runnable := by decide +kernel
set_option maxRecDepth 65536 in
theorem w_alone : about1.alone = true := by decide +kernel
set_option maxRecDepth 65536 in
theorem w_named : about1.methodNamed? x = some theMethod := by decide +kernel
set_option maxRecDepth 65536 in
theorem w_hears : about1.hears theMethod below0 = true := by decide +kernel
set_option maxRecDepth 65536 in
theorem w_ripe : about1.ripe theMethod args0 below0 = true := by decide +kernel
theorem w_running : about1.status = .running := rfl
set_option maxRecDepth 65536 in
theorem w_room : about1.hasRoom e0.platform room_1 = true :=
  launch0.hasRoom_least _ room_1 (by decide +kernel) (by decide +kernel) (by decide +kernel) (by decide +kernel) (by decide +kernel) (by decide +kernel)
theorem allAtoms_all (ts : List Jvm.Cond) (a : Array Jvm.Value) (st : Jvm.State) : (allAtoms ts).before a st = ts.all (fun c => c.before a st) := by
  induction ts with
  | nil => rfl
  | cons c t ih =>
    show (Jvm.Cond.and c (allAtoms t)).before a st = _
    rw [Jvm.Cond.before_and, ih, List.all_cons]
def words1 : List Jvm.Cond := Jvm.Cond.code x code maxLocals ret :: tables_1
/-- a 'code' word, met by the world's own term for the bytes: nothing is compared byte by byte -/
theorem code_word {y : MethodName} {bytes : ByteArray} {mx : Nat} {rt : Option FieldType} {a : Array Value} {s : State} {m : MethodId} {meth : Method} {c : Code} (h1 : s.methodNamed? y = some m) (h2 : s.vm.method? m = some meth) (h3 : meth.code = some c) (h4 : c.code = bytes)
    (h5 : (c.maxLocals == mx && c.exceptionTable.isEmpty && decide (c.maxStack ≤ mostOperands) && decide (meth.sig.returnType = rt) && !meth.locks && decide (parseMethodDescriptor y.desc = some meth.sig)) = true) : (Jvm.Cond.code y bytes mx rt).before a s = true := by
  simp only [Bool.and_eq_true, beq_iff_eq, Bool.not_eq_true', decide_eq_true_eq] at h5
  obtain ⟨⟨⟨⟨⟨g1, g2⟩, g3⟩, g4⟩, g5⟩, g6⟩ := h5
  simp [Cond.before, Cond.holds, Cond.value, h1, h2, h3, h4, g1, g2, g3, g4, g5, g6]
def isCode : Jvm.Cond → Bool
  | .code _ _ _ _ => true
  | _ => false
theorem all_split {L : List Jvm.Cond} {P : Jvm.Cond → Bool} (h1 : L.all (fun c => isCode c || P c) = true) (h2 : ∀ c ∈ L.filter isCode, P c = true) : L.all P = true := by
  refine List.all_eq_true.mpr fun c hc => ?_
  have h := List.all_eq_true.mp h1 c hc
  rcases Bool.eq_false_or_eq_true (isCode c) with hi | hi
  · exact h2 c (List.mem_filter.mpr ⟨hc, hi⟩)
  · simpa [hi] using h
set_option maxRecDepth 65536 in
theorem w_c0 : (Jvm.Cond.code x code maxLocals ret).before args0 about1 = true := code_word (m := ⟨1, 1⟩) (meth := k1m1) (c := k1c1) (by decide +kernel) rfl rfl rfl (by decide +kernel)
set_option maxRecDepth 65536 in
theorem w_c1 : (Jvm.Cond.code ({ cls := "com/example/throughline/throughline/model/HttpGrammar", name := "isDigit", desc := "(C)Z" } : Jvm.MethodName) prog_16_method_6_code (1 : Nat) (Option.some Jvm.ClassFile.FieldType.boolean)).before args0 about1 = true := code_word (m := ⟨2, 1⟩) (meth := k2m1) (c := k2c1) (by decide +kernel) rfl rfl rfl (by decide +kernel)
def codes1 : List Jvm.Cond := [Jvm.Cond.code x code maxLocals ret, Jvm.Cond.code ({ cls := "com/example/throughline/throughline/model/HttpGrammar", name := "isDigit", desc := "(C)Z" } : Jvm.MethodName) prog_16_method_6_code (1 : Nat) (Option.some Jvm.ClassFile.FieldType.boolean)]
set_option maxRecDepth 65536 in
theorem codes_eq : words1.filter isCode = codes1 := rfl
theorem w_codes : ∀ c ∈ words1.filter isCode, c.before args0 about1 = true := by
  rw [codes_eq]
  intro c hc
  simp only [codes1, List.mem_cons, List.not_mem_nil, or_false] at hc
  rcases hc with rfl | rfl
  · exact w_c0
  · exact w_c1
set_option maxRecDepth 65536 in
theorem w_t1 : words1.all (fun c => isCode c || c.before args0 about1) = true := by decide +kernel
theorem w_tables : (allAtoms (Jvm.Cond.code x code maxLocals ret :: tables_1)).before args0 about1 = true := by
  rw [allAtoms_all]
  show words1.all (fun c => c.before args0 about1) = true
  refine all_split ?_ w_codes
  rw [w_t1]
set_option maxRecDepth 65536 in
theorem w_case : (Jvm.Cond.and given_1 narrow_1).before args0 about1 = true := by decide +kernel
theorem w_applies : (headSpec (Jvm.Cond.code x code maxLocals ret :: tables_1) room_1).applies x e0.platform about1 = true :=
  (Spec.applies_iff w_frames).mpr ⟨w_running, w_runnable, w_alone, w_named, w_hears, w_ripe, w_room, w_tables⟩
theorem atStart : AtStart classFile x code maxLocals ret World_1 tables_1 room_1 Calls_1 rest_1 Pre_1 launch0 p0 e0 about1 theMethod args0 below0 :=
  ⟨lists_1, trivial, launch0.admits_env _ _ _, launch0.least_env, fairChoices_fair.cas, fairChoices_fair.clock, w_frames, w_args, w_heap, w_applies, trivial, trivial, w_case⟩
end start1
theorem witness_1 : WitnessClaimed_1 := ⟨start1.p0, start1.e0, start1.about1, start1.theMethod, start1.args0, start1.below0, start1.atStart⟩
end Jvm.Pilot.@@N@@
