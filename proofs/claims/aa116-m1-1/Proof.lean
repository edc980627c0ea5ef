import JvmDerived
import JvmDerived.Pilot.@@N@@Statement
import JvmDerived.Pilot.@@N@@Code
set_option linter.unusedVariables false
set_option linter.unusedSimpArgs false
namespace Jvm.Pilot.@@N@@
open Jvm Jvm.ClassFile Sem Op Lib Jvm.Free Jvm.Stand Jvm.LawKit Jvm.RoadKit Bundle Jvm.Pilot.@@N@@.Jvm.D
section OwnKit
/-- from the frame f at T the run comes to an end that K takes -/
def own_Go (p : Program) (e : Env) (below : List Frame) (K : Outcome → State → Prop) (T : State) (f : JFrame) : Prop :=
  ∃ s₂ o, Steps p.tables e below (T.setTop f) s₂ ∧ s₂.status = .running ∧ Ended s₂ below o ∧ K o s₂
def own_K (s : State) (Q : Option Value → Heap → List Loc → Prop) (cc ss : Nat) (o : Outcome) (U : State) : Prop :=
  ∃ v L, o = .returned v ∧ Q v U.heap L ∧ FrameEnd s o U L cc ss
variable {p : Program} {l : Launch} {e : Env} {R : Room} {s : State} {m : MethodId} {args : Array Value} {below : List Frame} {meth : Method} {c : Code} {T T' : State} {locs : List Loc} {cells slots : Nat} {K : Outcome → State → Prop} {Q : Option Value → Heap → List Loc → Prop} {cc ss : Nat} {f f' : JFrame}
theorem own_of (h : ∀ t, Steps p.tables e below (T'.setTop f') t → Steps p.tables e below (T.setTop f) t) (k : own_Go p e below K T' f') : own_Go p e below K T f := by
  obtain ⟨s2, o, h1, r⟩ := k
  exact ⟨s2, o, h _ h1, r⟩
theorem own_at (h : ∀ t, Steps p.tables e below (T.setTop f') t → Steps p.tables e below (T.setTop f) t) (k : own_Go p e below K T f') : own_Go p e below K T f := own_of h k
theorem own_cast (q : f = f') (k : own_Go p e below K T f') : own_Go p e below K T f := q ▸ k
theorem own_end (X : Stand p l e R s m args below meth c T locs cells slots) (hlk : meth.locks = false) {v : Option Value} (hv : meth.sig.returnType = none → v = none) (hq : Q v T.heap locs) (h1 : cells ≤ cc) (h2 : slots ≤ ss)
    (hs : ∀ fs, (∀ (f : JFrame) (acts : List Action), f.method = m → f.locked = none → f.entered = [] → (doReturn e (T.setTop f) acts v).1 = T.setFrames fs) → Steps p.tables e below (T.setTop f) (T.setFrames fs)) : own_Go p e below (own_K s Q cc ss) T f := by
  obtain ⟨fs, hr, hrun, hended, hW, hsame⟩ := X.leave (v := v) hv hlk
  exact ⟨_, _, hs fs hr, hrun, hended, _, _, rfl, hq, ⟨_, rfl⟩, hW, hsame.mono h1 h2⟩
theorem own_retN (X : Stand p l e R s m args below meth c T locs cells slots) (hx : p.tables.exec = Jvm.exec) (hlk : meth.locks = false) {pc : Nat} {Ls : Array Slot} {z w : Int32} {t : FieldType} {rest : List Value} (hret : meth.sig.returnType = some t) (ht : t = .boolean ∨ t = .byte ∨ t = .char ∨ t = .short)
    (hd : decode c.code pc = .ok (.ireturn, 1)) (hw : nar t z = w) (hq : Q (some (.int w)) T.heap locs) (h1 : cells ≤ cc) (h2 : slots ≤ ss) : own_Go p e below (own_K s Q cc ss) T (mkF m pc Ls (.int z :: rest)) := by
  subst hw
  exact own_end X hlk (fun h => by rw [hret] at h; cases h) hq h1 h2 fun fs hr => retN X hx hret ht hd hr
theorem own_retI (X : Stand p l e R s m args below meth c T locs cells slots) (hx : p.tables.exec = Jvm.exec) (hlk : meth.locks = false) {pc : Nat} {Ls : Array Slot} {z w : Int32} {rest : List Value} (hret : meth.sig.returnType = some .int)
    (hd : decode c.code pc = .ok (.ireturn, 1)) (hw : z = w) (hq : Q (some (.int w)) T.heap locs) (h1 : cells ≤ cc) (h2 : slots ≤ ss) : own_Go p e below (own_K s Q cc ss) T (mkF m pc Ls (.int z :: rest)) := by
  subst hw
  refine own_end X hlk (fun h => by rw [hret] at h; cases h) hq h1 h2 fun fs hr => ?_
  have hm' : T.vm.method? m = some meth := X.method'
  have hn : narrow .int (.int z) = .int z := rfl
  show Steps p.tables e below (T.setTop { method := m, pc := pc, locals := Ls, stack := _ :: rest, locked := none }) _
  jvm_step X.here [X.here.top, hx, hd, hm', hret, hn]
  first | (intro acts; rw [hr _ acts rfl rfl rfl]) | rw [hr _ _ rfl rfl rfl]
  exact Steps.refl _
theorem own_retJ (X : Stand p l e R s m args below meth c T locs cells slots) (hx : p.tables.exec = Jvm.exec) (hlk : meth.locks = false) {pc : Nat} {Ls : Array Slot} {z w : Int64} (hret : meth.sig.returnType = some .long)
    (hd : decode c.code pc = .ok (.lreturn, 1)) (hw : z = w) (hq : Q (some (.long w)) T.heap locs) (h1 : cells ≤ cc) (h2 : slots ≤ ss) : own_Go p e below (own_K s Q cc ss) T (mkF m pc Ls [.long z]) := by
  subst hw
  exact own_end X hlk (fun h => by rw [hret] at h; cases h) hq h1 h2 fun fs hr => X.lreturnOut hx hret hd hr
theorem own_retA (X : Stand p l e R s m args below meth c T locs cells slots) (hx : p.tables.exec = Jvm.exec) (hlk : meth.locks = false) {pc : Nat} {Ls : Array Slot} {z : Value} {ty : FieldType} {rest : List Value} (hz : z.isRef = true) (hret : meth.sig.returnType = some ty) (hty : ty.isReference = true)
    (hd : decode c.code pc = .ok (.areturn, 1)) (hq : Q (some z) T.heap locs) (h1 : cells ≤ cc) (h2 : slots ≤ ss) : own_Go p e below (own_K s Q cc ss) T (mkF m pc Ls (z :: rest)) := by
  refine own_end X hlk (fun h => by rw [hret] at h; cases h) hq h1 h2 fun fs hr => ?_
  have hm' : T.vm.method? m = some meth := X.method'
  show Steps p.tables e below (T.setTop { method := m, pc := pc, locals := Ls, stack := _ :: rest, locked := none }) _
  jvm_step X.here [X.here.top, hx, hd, hm', hret, hz, hty]
  first | (intro acts; rw [hr _ acts rfl rfl rfl]) | rw [hr _ _ rfl rfl rfl]
  exact Steps.refl _
theorem own_retV (X : Stand p l e R s m args below meth c T locs cells slots) (hx : p.tables.exec = Jvm.exec) (hlk : meth.locks = false) {pc : Nat} {Ls : Array Slot} (hret : meth.sig.returnType = none)
    (hd : decode c.code pc = .ok (.return_, 1)) (hq : Q none T.heap locs) (h1 : cells ≤ cc) (h2 : slots ≤ ss) : own_Go p e below (own_K s Q cc ss) T (mkF m pc Ls []) :=
  own_end X hlk (fun _ => rfl) hq h1 h2 fun fs hr => X.returnOut hx hret hd hr
theorem own_ne {i k : Int32} {z : Int} (hz : k.toInt = z) (h : ¬ i = k) : ¬ (z = i.toInt) := fun q => h (Int32.toInt_inj.mp (q.symm.trans hz.symm))
theorem own_lsw {tb : Tables} [Ours tb] {target : State} {g : JFrame} (h : At T m c below) (hx : tb.exec = Jvm.exec) (hg : g.method = m) {dflt o : Int} {prs : Array (Int × Int)} {len pc0 pc' : Nat} (hpc : g.pc = pc0) (hd : decode c.code g.pc = .ok (.lookupswitch dflt prs, len)) {i : Int32} {rest : List Value} (hs : g.stack = .int i :: rest)
    (hso : (prs.toList.zip (prs.toList.drop 1)).all (fun (a, next) => a.1 < next.1) = true) (hof : lookupswitch.offset prs.toList dflt i.toInt = o) (ho : 0 ≤ (pc0 : Int) + o) (hp : ((pc0 : Int) + o).toNat = pc')
    (hr : Steps tb e below (T.setTop { g with pc := pc', stack := rest }) target) : Steps tb e below (T.setTop g) target := by
  subst hg hpc hp hof
  jvm_step h [h.top, hx, hd, hs, ho, lookupswitch.wp_chain]
  exact ⟨by simpa using hso, hr⟩
theorem own_nar01 {z : Int32} (h : z = 0 ∨ z = 1) : nar .boolean z = z := by rcases h with rfl | rfl <;> decide
theorem own_narB (x : Int32) : nar .byte x.toInt8.toInt32 = x.toInt8.toInt32 := Value.int.inj (Jvm.Free.XT.narrow_b x)
theorem own_narC (x : Int32) : nar .char x.toUInt32.toUInt16.toUInt32.toInt32 = x.toUInt32.toUInt16.toUInt32.toInt32 := Value.int.inj (Jvm.Free.XT.narrow_c x)
end OwnKit
/-- a body that writes nothing and returns w -/
def own_P (w : Value) (h0 : Heap) (n0 : Nat) (v : Option Value) (h : Heap) (L : List Loc) : Prop := v = some w ∧ Fr n0 L ∧ h = h0
theorem own_lI0 : (0 : Int32).toInt = 0 := rfl
theorem own_lI9 : (9 : Int32).toInt = 9 := rfl
theorem own_lI32 : (32 : Int32).toInt = 32 := rfl
theorem own_lI126 : (126 : Int32).toInt = 126 := rfl
theorem own_lI127 : (127 : Int32).toInt = 127 := rfl
theorem own_lI128 : (128 : Int32).toInt = 128 := rfl
theorem own_lI255 : (255 : Int32).toInt = 255 := rfl
theorem pn_com_example_throughline_throughline_model_HttpGrammar : plainName "com/example/throughline/throughline/model/HttpGrammar" = true := by first | (simp [plainName, overriddenIn]; done) | decide +kernel
theorem ef_prog_16_8 (m : MethodId) (x0 : Int32) : entryFrame m #[(.int x0)] 1 = mkF m 0 #[.val (.int x0)] [] := by first | (simp [entryFrame, mkF, argsToLocals, Value.category]; done) | rfl
theorem d_prog_16_8_0 : decode prog_16_method_8_code 0 = .ok (.iload_n 0, 1) := by decide +kernel
theorem d_prog_16_8_1 : decode prog_16_method_8_code 1 = .ok (.bipush 9, 2) := by decide +kernel
theorem d_prog_16_8_3 : decode prog_16_method_8_code 3 = .ok (.if_icmp .eq 29, 3) := by decide +kernel
theorem d_prog_16_8_32 : decode prog_16_method_8_code 32 = .ok (.iconst 1, 1) := by decide +kernel
theorem d_prog_16_8_33 : decode prog_16_method_8_code 33 = .ok (.goto 4, 3) := by decide +kernel
theorem d_prog_16_8_37 : decode prog_16_method_8_code 37 = .ok (.ireturn, 1) := by decide +kernel
theorem d_prog_16_8_6 : decode prog_16_method_8_code 6 = .ok (.iload_n 0, 1) := by decide +kernel
theorem d_prog_16_8_7 : decode prog_16_method_8_code 7 = .ok (.bipush 32, 2) := by decide +kernel
theorem d_prog_16_8_9 : decode prog_16_method_8_code 9 = .ok (.if_icmp .lt 9, 3) := by decide +kernel
theorem d_prog_16_8_18 : decode prog_16_method_8_code 18 = .ok (.iload_n 0, 1) := by decide +kernel
theorem d_prog_16_8_19 : decode prog_16_method_8_code 19 = .ok (.sipush 128, 3) := by decide +kernel
theorem d_prog_16_8_22 : decode prog_16_method_8_code 22 = .ok (.if_icmp .lt 14, 3) := by decide +kernel
theorem d_prog_16_8_36 : decode prog_16_method_8_code 36 = .ok (.iconst 0, 1) := by decide +kernel
theorem d_prog_16_8_25 : decode prog_16_method_8_code 25 = .ok (.iload_n 0, 1) := by decide +kernel
theorem d_prog_16_8_26 : decode prog_16_method_8_code 26 = .ok (.sipush 255, 3) := by decide +kernel
theorem d_prog_16_8_29 : decode prog_16_method_8_code 29 = .ok (.if_icmp .gt 7, 3) := by decide +kernel
theorem d_prog_16_8_12 : decode prog_16_method_8_code 12 = .ok (.iload_n 0, 1) := by decide +kernel
theorem d_prog_16_8_13 : decode prog_16_method_8_code 13 = .ok (.bipush 126, 2) := by decide +kernel
theorem d_prog_16_8_15 : decode prog_16_method_8_code 15 = .ok (.if_icmp .le 17, 3) := by decide +kernel
def own_F_prog_16_8 (q1 : Int32) : Int32 := (if q1 = (9 : Int32) then (1 : Int32) else (if q1 < (32 : Int32) then (if q1 < (128 : Int32) then (0 : Int32) else (if (255 : Int32) < q1 then (0 : Int32) else (1 : Int32))) else (if (126 : Int32) < q1 then (if q1 < (128 : Int32) then (0 : Int32) else (if (255 : Int32) < q1 then (0 : Int32) else (1 : Int32))) else (1 : Int32))))
set_option maxRecDepth 65536 in
set_option maxHeartbeats 40000000 in
theorem rm_prog_16_8 (l : Launch) (Z : State) (a0 : Array Value) (hw : ∀ d ∈ tables_1, d.before a0 Z = true) (ws : List Jvm.Cond) (q1 : Int32)  (h0 : Heap) (n0 : Nat) (Z0 : n0 ≤ h0.size)  :
    MetFree l (⟨"com/example/throughline/throughline/model/HttpGrammar", "isQuotablePair", "(C)Z"⟩ : MethodName) (head1 (Jvm.Cond.code (⟨"com/example/throughline/throughline/model/HttpGrammar", "isQuotablePair", "(C)Z"⟩ : MethodName) prog_16_method_8_code 1 (some .boolean) :: ws) ({ frames := 0, cells := 0, slots := 0, locals := 0 } : Room)) (fun a U => a = #[(.int q1)] ∧ Z.Warmed39 U.vm ∧ U.heap = h0) (fun _ _ _ _ _ => True) (fun _ U o U' => ∃ v L, o = .returned v ∧ own_P (.int (own_F_prog_16_8 q1)) h0 n0 v U'.heap L ∧ FrameEnd U o U' L ({ frames := 0, cells := 0, slots := 0, locals := 0 } : Room).cells ({ frames := 0, cells := 0, slots := 0, locals := 0 } : Room).slots) := by
  refine MetFree.of_bodySF (plainFor_of_name pn_com_example_throughline_throughline_model_HttpGrammar) hisR ?_
  intro p e s m args below meth c s₁ Bd hml0 hP hK
  obtain ⟨rfl, hZ, hh⟩ := hP
  have hx := Bd.exec
  have hby := Bd.bytes
  have hlk : meth.locks = false := BodyLoose.notSynchronized Bd
  have hml : c.maxLocals = 1 := hml0
  have hown : s.vm.findClass "com/example/throughline/throughline/model/HttpGrammar" = some m.cls := findClass_of_methodNamed Bd.named
  have hnm := (name_of_methodNamed Bd.named Bd.method).1
  have X0 : Stand p l e ({ frames := 0, cells := 0, slots := 0, locals := 0 } : Room) s m #[(.int q1)] below meth c s₁ [] 0 0 := Stand.of_body Bd
  have e0 : s₁.heap = h0 := by rw [← hh, Bd.state]; rfl
  have N0 := Fr.nil n0
  refine own_cast (K := own_K s (own_P (.int (own_F_prog_16_8 q1)) h0 n0) 0 0) (ef_prog_16_8 m q1) ?_
  generalize hKK : own_K s (own_P (.int (own_F_prog_16_8 q1)) h0 n0) 0 0 = KK
  show own_Go p e below KK s₁ (mkF m 0 #[.val (.int q1)] [])
  refine own_at (fun t k => XS.iloadN X0.here hx rfl (hb hby d_prog_16_8_0) rfl k) ?_
  show own_Go p e below KK s₁ (mkF m 1 #[.val (.int q1)] [(.int q1)])
  refine own_at (fun t k => XS.bipush X0.here hx rfl (hb hby d_prog_16_8_1) k) ?_
  show own_Go p e below KK s₁ (mkF m 3 #[.val (.int q1)] [(.int 9), (.int q1)])
  by_cases hc3 : q1 = (9 : Int32)
  · refine own_at (fun t k => XS.icmpYes X0.here hx rfl (pc0 := 3) (pc' := 32) rfl (hb hby d_prog_16_8_3) rfl (Jvm.Free.XT.ii_eq_t hc3) (by decide) (by decide) k) ?_
    show own_Go p e below KK s₁ (mkF m 32 #[.val (.int q1)] [])
    refine own_at (fun t k => XS.iconst X0.here hx rfl (hb hby d_prog_16_8_32) k) ?_
    show own_Go p e below KK s₁ (mkF m 33 #[.val (.int q1)] [(.int 1)])
    refine own_at (fun t k => XS.goto X0.here hx rfl (pc0 := 33) (pc' := 37) rfl (hb hby d_prog_16_8_33) (by decide) (by decide) k) ?_
    show own_Go p e below KK s₁ (mkF m 37 #[.val (.int q1)] [(.int 1)])
    subst hKK
    exact own_retN X0 hx hlk (t := .boolean) Bd.returns (by simp) (hb hby d_prog_16_8_37) (w := (own_F_prog_16_8 q1)) ((show nar .boolean (1 : Int32) = (1 : Int32) from by decide).trans (show (1 : Int32) = (own_F_prog_16_8 q1) from by unfold own_F_prog_16_8; rw [if_pos hc3])) ⟨rfl, N0, e0⟩ (Nat.le_of_ble_eq_true rfl) (Nat.le_of_ble_eq_true rfl)
  · refine own_at (fun t k => XS.icmpNo X0.here hx rfl (hb hby d_prog_16_8_3) rfl (Jvm.Free.XT.ii_eq_f hc3) k) ?_
    show own_Go p e below KK s₁ (mkF m 6 #[.val (.int q1)] [])
    refine own_at (fun t k => XS.iloadN X0.here hx rfl (hb hby d_prog_16_8_6) rfl k) ?_
    show own_Go p e below KK s₁ (mkF m 7 #[.val (.int q1)] [(.int q1)])
    refine own_at (fun t k => XS.bipush X0.here hx rfl (hb hby d_prog_16_8_7) k) ?_
    show own_Go p e below KK s₁ (mkF m 9 #[.val (.int q1)] [(.int 32), (.int q1)])
    by_cases hc9 : q1 < (32 : Int32)
    · refine own_at (fun t k => XS.icmpYes X0.here hx rfl (pc0 := 9) (pc' := 18) rfl (hb hby d_prog_16_8_9) rfl (Jvm.Free.XT.ii_lt_t hc9) (by decide) (by decide) k) ?_
      show own_Go p e below KK s₁ (mkF m 18 #[.val (.int q1)] [])
      refine own_at (fun t k => XS.iloadN X0.here hx rfl (hb hby d_prog_16_8_18) rfl k) ?_
      show own_Go p e below KK s₁ (mkF m 19 #[.val (.int q1)] [(.int q1)])
      refine own_at (fun t k => XS.sipush X0.here hx rfl (hb hby d_prog_16_8_19) k) ?_
      show own_Go p e below KK s₁ (mkF m 22 #[.val (.int q1)] [(.int 128), (.int q1)])
      by_cases hc22 : q1 < (128 : Int32)
      · refine own_at (fun t k => XS.icmpYes X0.here hx rfl (pc0 := 22) (pc' := 36) rfl (hb hby d_prog_16_8_22) rfl (Jvm.Free.XT.ii_lt_t hc22) (by decide) (by decide) k) ?_
        show own_Go p e below KK s₁ (mkF m 36 #[.val (.int q1)] [])
        refine own_at (fun t k => XS.iconst X0.here hx rfl (hb hby d_prog_16_8_36) k) ?_
        show own_Go p e below KK s₁ (mkF m 37 #[.val (.int q1)] [(.int 0)])
        subst hKK
        exact own_retN X0 hx hlk (t := .boolean) Bd.returns (by simp) (hb hby d_prog_16_8_37) (w := (own_F_prog_16_8 q1)) ((show nar .boolean (0 : Int32) = (0 : Int32) from by decide).trans (show (0 : Int32) = (own_F_prog_16_8 q1) from by unfold own_F_prog_16_8; rw [if_neg hc3, if_pos hc9, if_pos hc22])) ⟨rfl, N0, e0⟩ (Nat.le_of_ble_eq_true rfl) (Nat.le_of_ble_eq_true rfl)
      · refine own_at (fun t k => XS.icmpNo X0.here hx rfl (hb hby d_prog_16_8_22) rfl (Jvm.Free.XT.ii_lt_f hc22) k) ?_
        show own_Go p e below KK s₁ (mkF m 25 #[.val (.int q1)] [])
        refine own_at (fun t k => XS.iloadN X0.here hx rfl (hb hby d_prog_16_8_25) rfl k) ?_
        show own_Go p e below KK s₁ (mkF m 26 #[.val (.int q1)] [(.int q1)])
        refine own_at (fun t k => XS.sipush X0.here hx rfl (hb hby d_prog_16_8_26) k) ?_
        show own_Go p e below KK s₁ (mkF m 29 #[.val (.int q1)] [(.int 255), (.int q1)])
        by_cases hc29 : (255 : Int32) < q1
        · refine own_at (fun t k => XS.icmpYes X0.here hx rfl (pc0 := 29) (pc' := 36) rfl (hb hby d_prog_16_8_29) rfl (Jvm.Free.XT.ii_gt_t hc29) (by decide) (by decide) k) ?_
          show own_Go p e below KK s₁ (mkF m 36 #[.val (.int q1)] [])
          refine own_at (fun t k => XS.iconst X0.here hx rfl (hb hby d_prog_16_8_36) k) ?_
          show own_Go p e below KK s₁ (mkF m 37 #[.val (.int q1)] [(.int 0)])
          subst hKK
          exact own_retN X0 hx hlk (t := .boolean) Bd.returns (by simp) (hb hby d_prog_16_8_37) (w := (own_F_prog_16_8 q1)) ((show nar .boolean (0 : Int32) = (0 : Int32) from by decide).trans (show (0 : Int32) = (own_F_prog_16_8 q1) from by unfold own_F_prog_16_8; rw [if_neg hc3, if_pos hc9, if_neg hc22, if_pos hc29])) ⟨rfl, N0, e0⟩ (Nat.le_of_ble_eq_true rfl) (Nat.le_of_ble_eq_true rfl)
        · refine own_at (fun t k => XS.icmpNo X0.here hx rfl (hb hby d_prog_16_8_29) rfl (Jvm.Free.XT.ii_gt_f hc29) k) ?_
          show own_Go p e below KK s₁ (mkF m 32 #[.val (.int q1)] [])
          refine own_at (fun t k => XS.iconst X0.here hx rfl (hb hby d_prog_16_8_32) k) ?_
          show own_Go p e below KK s₁ (mkF m 33 #[.val (.int q1)] [(.int 1)])
          refine own_at (fun t k => XS.goto X0.here hx rfl (pc0 := 33) (pc' := 37) rfl (hb hby d_prog_16_8_33) (by decide) (by decide) k) ?_
          show own_Go p e below KK s₁ (mkF m 37 #[.val (.int q1)] [(.int 1)])
          subst hKK
          exact own_retN X0 hx hlk (t := .boolean) Bd.returns (by simp) (hb hby d_prog_16_8_37) (w := (own_F_prog_16_8 q1)) ((show nar .boolean (1 : Int32) = (1 : Int32) from by decide).trans (show (1 : Int32) = (own_F_prog_16_8 q1) from by unfold own_F_prog_16_8; rw [if_neg hc3, if_pos hc9, if_neg hc22, if_neg hc29])) ⟨rfl, N0, e0⟩ (Nat.le_of_ble_eq_true rfl) (Nat.le_of_ble_eq_true rfl)
    · refine own_at (fun t k => XS.icmpNo X0.here hx rfl (hb hby d_prog_16_8_9) rfl (Jvm.Free.XT.ii_lt_f hc9) k) ?_
      show own_Go p e below KK s₁ (mkF m 12 #[.val (.int q1)] [])
      refine own_at (fun t k => XS.iloadN X0.here hx rfl (hb hby d_prog_16_8_12) rfl k) ?_
      show own_Go p e below KK s₁ (mkF m 13 #[.val (.int q1)] [(.int q1)])
      refine own_at (fun t k => XS.bipush X0.here hx rfl (hb hby d_prog_16_8_13) k) ?_
      show own_Go p e below KK s₁ (mkF m 15 #[.val (.int q1)] [(.int 126), (.int q1)])
      by_cases hc15 : (126 : Int32) < q1
      · refine own_at (fun t k => XS.icmpNo X0.here hx rfl (hb hby d_prog_16_8_15) rfl (Jvm.Free.XT.ii_le_f hc15) k) ?_
        show own_Go p e below KK s₁ (mkF m 18 #[.val (.int q1)] [])
        refine own_at (fun t k => XS.iloadN X0.here hx rfl (hb hby d_prog_16_8_18) rfl k) ?_
        show own_Go p e below KK s₁ (mkF m 19 #[.val (.int q1)] [(.int q1)])
        refine own_at (fun t k => XS.sipush X0.here hx rfl (hb hby d_prog_16_8_19) k) ?_
        show own_Go p e below KK s₁ (mkF m 22 #[.val (.int q1)] [(.int 128), (.int q1)])
        by_cases hc22 : q1 < (128 : Int32)
        · refine own_at (fun t k => XS.icmpYes X0.here hx rfl (pc0 := 22) (pc' := 36) rfl (hb hby d_prog_16_8_22) rfl (Jvm.Free.XT.ii_lt_t hc22) (by decide) (by decide) k) ?_
          show own_Go p e below KK s₁ (mkF m 36 #[.val (.int q1)] [])
          refine own_at (fun t k => XS.iconst X0.here hx rfl (hb hby d_prog_16_8_36) k) ?_
          show own_Go p e below KK s₁ (mkF m 37 #[.val (.int q1)] [(.int 0)])
          subst hKK
          exact own_retN X0 hx hlk (t := .boolean) Bd.returns (by simp) (hb hby d_prog_16_8_37) (w := (own_F_prog_16_8 q1)) ((show nar .boolean (0 : Int32) = (0 : Int32) from by decide).trans (show (0 : Int32) = (own_F_prog_16_8 q1) from by unfold own_F_prog_16_8; rw [if_neg hc3, if_neg hc9, if_pos hc15, if_pos hc22])) ⟨rfl, N0, e0⟩ (Nat.le_of_ble_eq_true rfl) (Nat.le_of_ble_eq_true rfl)
        · refine own_at (fun t k => XS.icmpNo X0.here hx rfl (hb hby d_prog_16_8_22) rfl (Jvm.Free.XT.ii_lt_f hc22) k) ?_
          show own_Go p e below KK s₁ (mkF m 25 #[.val (.int q1)] [])
          refine own_at (fun t k => XS.iloadN X0.here hx rfl (hb hby d_prog_16_8_25) rfl k) ?_
          show own_Go p e below KK s₁ (mkF m 26 #[.val (.int q1)] [(.int q1)])
          refine own_at (fun t k => XS.sipush X0.here hx rfl (hb hby d_prog_16_8_26) k) ?_
          show own_Go p e below KK s₁ (mkF m 29 #[.val (.int q1)] [(.int 255), (.int q1)])
          by_cases hc29 : (255 : Int32) < q1
          · refine own_at (fun t k => XS.icmpYes X0.here hx rfl (pc0 := 29) (pc' := 36) rfl (hb hby d_prog_16_8_29) rfl (Jvm.Free.XT.ii_gt_t hc29) (by decide) (by decide) k) ?_
            show own_Go p e below KK s₁ (mkF m 36 #[.val (.int q1)] [])
            refine own_at (fun t k => XS.iconst X0.here hx rfl (hb hby d_prog_16_8_36) k) ?_
            show own_Go p e below KK s₁ (mkF m 37 #[.val (.int q1)] [(.int 0)])
            subst hKK
            exact own_retN X0 hx hlk (t := .boolean) Bd.returns (by simp) (hb hby d_prog_16_8_37) (w := (own_F_prog_16_8 q1)) ((show nar .boolean (0 : Int32) = (0 : Int32) from by decide).trans (show (0 : Int32) = (own_F_prog_16_8 q1) from by unfold own_F_prog_16_8; rw [if_neg hc3, if_neg hc9, if_pos hc15, if_neg hc22, if_pos hc29])) ⟨rfl, N0, e0⟩ (Nat.le_of_ble_eq_true rfl) (Nat.le_of_ble_eq_true rfl)
          · refine own_at (fun t k => XS.icmpNo X0.here hx rfl (hb hby d_prog_16_8_29) rfl (Jvm.Free.XT.ii_gt_f hc29) k) ?_
            show own_Go p e below KK s₁ (mkF m 32 #[.val (.int q1)] [])
            refine own_at (fun t k => XS.iconst X0.here hx rfl (hb hby d_prog_16_8_32) k) ?_
            show own_Go p e below KK s₁ (mkF m 33 #[.val (.int q1)] [(.int 1)])
            refine own_at (fun t k => XS.goto X0.here hx rfl (pc0 := 33) (pc' := 37) rfl (hb hby d_prog_16_8_33) (by decide) (by decide) k) ?_
            show own_Go p e below KK s₁ (mkF m 37 #[.val (.int q1)] [(.int 1)])
            subst hKK
            exact own_retN X0 hx hlk (t := .boolean) Bd.returns (by simp) (hb hby d_prog_16_8_37) (w := (own_F_prog_16_8 q1)) ((show nar .boolean (1 : Int32) = (1 : Int32) from by decide).trans (show (1 : Int32) = (own_F_prog_16_8 q1) from by unfold own_F_prog_16_8; rw [if_neg hc3, if_neg hc9, if_pos hc15, if_neg hc22, if_neg hc29])) ⟨rfl, N0, e0⟩ (Nat.le_of_ble_eq_true rfl) (Nat.le_of_ble_eq_true rfl)
      · refine own_at (fun t k => XS.icmpYes X0.here hx rfl (pc0 := 15) (pc' := 32) rfl (hb hby d_prog_16_8_15) rfl (Jvm.Free.XT.ii_le_t hc15) (by decide) (by decide) k) ?_
        show own_Go p e below KK s₁ (mkF m 32 #[.val (.int q1)] [])
        refine own_at (fun t k => XS.iconst X0.here hx rfl (hb hby d_prog_16_8_32) k) ?_
        show own_Go p e below KK s₁ (mkF m 33 #[.val (.int q1)] [(.int 1)])
        refine own_at (fun t k => XS.goto X0.here hx rfl (pc0 := 33) (pc' := 37) rfl (hb hby d_prog_16_8_33) (by decide) (by decide) k) ?_
        show own_Go p e below KK s₁ (mkF m 37 #[.val (.int q1)] [(.int 1)])
        subst hKK
        exact own_retN X0 hx hlk (t := .boolean) Bd.returns (by simp) (hb hby d_prog_16_8_37) (w := (own_F_prog_16_8 q1)) ((show nar .boolean (1 : Int32) = (1 : Int32) from by decide).trans (show (1 : Int32) = (own_F_prog_16_8 q1) from by unfold own_F_prog_16_8; rw [if_neg hc3, if_neg hc9, if_neg hc15])) ⟨rfl, N0, e0⟩ (Nat.le_of_ble_eq_true rfl) (Nat.le_of_ble_eq_true rfl)
theorem pn_com_example_throughline_throughline_model_HttpGrammarIsQuotablePairPinLaw : plainName "com/example/throughline/throughline/model/HttpGrammarIsQuotablePairPinLaw" = true := by first | (simp [plainName, overriddenIn]; done) | decide +kernel
theorem ef_method_2 (m : MethodId) (x0 : Int32) : entryFrame m #[(.int x0)] 1 = mkF m 0 #[.val (.int x0)] [] := by first | (simp [entryFrame, mkF, argsToLocals, Value.category]; done) | rfl
theorem d_method_2_0 : decode method_2_code 0 = .ok (.iload_n 0, 1) := by decide +kernel
theorem d_method_2_1 : decode method_2_code 1 = .ok (.sipush 255, 3) := by decide +kernel
theorem d_method_2_4 : decode method_2_code 4 = .ok (.if_icmp .le 5, 3) := by decide +kernel
theorem d_method_2_7 : decode method_2_code 7 = .ok (.iconst 0, 1) := by decide +kernel
theorem d_method_2_8 : decode method_2_code 8 = .ok (.ireturn, 1) := by decide +kernel
theorem d_method_2_9 : decode method_2_code 9 = .ok (.iload_n 0, 1) := by decide +kernel
theorem d_method_2_10 : decode method_2_code 10 = .ok (.bipush 127, 2) := by decide +kernel
theorem d_method_2_12 : decode method_2_code 12 = .ok (.if_icmp .ne 5, 3) := by decide +kernel
theorem d_method_2_15 : decode method_2_code 15 = .ok (.iconst 0, 1) := by decide +kernel
theorem d_method_2_16 : decode method_2_code 16 = .ok (.ireturn, 1) := by decide +kernel
theorem d_method_2_17 : decode method_2_code 17 = .ok (.iload_n 0, 1) := by decide +kernel
theorem d_method_2_18 : decode method_2_code 18 = .ok (.bipush 32, 2) := by decide +kernel
theorem d_method_2_20 : decode method_2_code 20 = .ok (.if_icmp .ge 15, 3) := by decide +kernel
theorem d_method_2_23 : decode method_2_code 23 = .ok (.iload_n 0, 1) := by decide +kernel
theorem d_method_2_24 : decode method_2_code 24 = .ok (.bipush 9, 2) := by decide +kernel
theorem d_method_2_26 : decode method_2_code 26 = .ok (.if_icmp .ne 7, 3) := by decide +kernel
theorem d_method_2_29 : decode method_2_code 29 = .ok (.iconst 1, 1) := by decide +kernel
theorem d_method_2_30 : decode method_2_code 30 = .ok (.goto 4, 3) := by decide +kernel
theorem d_method_2_34 : decode method_2_code 34 = .ok (.ireturn, 1) := by decide +kernel
theorem d_method_2_33 : decode method_2_code 33 = .ok (.iconst 0, 1) := by decide +kernel
theorem d_method_2_35 : decode method_2_code 35 = .ok (.iconst 1, 1) := by decide +kernel
theorem d_method_2_36 : decode method_2_code 36 = .ok (.ireturn, 1) := by decide +kernel
def own_F_method_2 (q1 : Int32) : Int32 := (if (255 : Int32) < q1 then (0 : Int32) else (if q1 = (127 : Int32) then (0 : Int32) else (if q1 < (32 : Int32) then (if q1 = (9 : Int32) then (1 : Int32) else (0 : Int32)) else (1 : Int32))))
set_option maxRecDepth 65536 in
set_option maxHeartbeats 40000000 in
theorem rm_method_2 (l : Launch) (Z : State) (a0 : Array Value) (hw : ∀ d ∈ tables_1, d.before a0 Z = true) (ws : List Jvm.Cond) (q1 : Int32)  (h0 : Heap) (n0 : Nat) (Z0 : n0 ≤ h0.size)  :
    MetFree l (⟨"com/example/throughline/throughline/model/HttpGrammarIsQuotablePairPinLaw", "expected", "(I)Z"⟩ : MethodName) (head1 (Jvm.Cond.code (⟨"com/example/throughline/throughline/model/HttpGrammarIsQuotablePairPinLaw", "expected", "(I)Z"⟩ : MethodName) method_2_code 1 (some .boolean) :: ws) ({ frames := 0, cells := 0, slots := 0, locals := 0 } : Room)) (fun a U => a = #[(.int q1)] ∧ Z.Warmed39 U.vm ∧ U.heap = h0) (fun _ _ _ _ _ => True) (fun _ U o U' => ∃ v L, o = .returned v ∧ own_P (.int (own_F_method_2 q1)) h0 n0 v U'.heap L ∧ FrameEnd U o U' L ({ frames := 0, cells := 0, slots := 0, locals := 0 } : Room).cells ({ frames := 0, cells := 0, slots := 0, locals := 0 } : Room).slots) := by
  refine MetFree.of_bodySF (plainFor_of_name pn_com_example_throughline_throughline_model_HttpGrammarIsQuotablePairPinLaw) hisR ?_
  intro p e s m args below meth c s₁ Bd hml0 hP hK
  obtain ⟨rfl, hZ, hh⟩ := hP
  have hx := Bd.exec
  have hby := Bd.bytes
  have hlk : meth.locks = false := BodyLoose.notSynchronized Bd
  have hml : c.maxLocals = 1 := hml0
  have hown : s.vm.findClass "com/example/throughline/throughline/model/HttpGrammarIsQuotablePairPinLaw" = some m.cls := findClass_of_methodNamed Bd.named
  have hnm := (name_of_methodNamed Bd.named Bd.method).1
  have X0 : Stand p l e ({ frames := 0, cells := 0, slots := 0, locals := 0 } : Room) s m #[(.int q1)] below meth c s₁ [] 0 0 := Stand.of_body Bd
  have e0 : s₁.heap = h0 := by rw [← hh, Bd.state]; rfl
  have N0 := Fr.nil n0
  refine own_cast (K := own_K s (own_P (.int (own_F_method_2 q1)) h0 n0) 0 0) (ef_method_2 m q1) ?_
  generalize hKK : own_K s (own_P (.int (own_F_method_2 q1)) h0 n0) 0 0 = KK
  show own_Go p e below KK s₁ (mkF m 0 #[.val (.int q1)] [])
  refine own_at (fun t k => XS.iloadN X0.here hx rfl (hb hby d_method_2_0) rfl k) ?_
  show own_Go p e below KK s₁ (mkF m 1 #[.val (.int q1)] [(.int q1)])
  refine own_at (fun t k => XS.sipush X0.here hx rfl (hb hby d_method_2_1) k) ?_
  show own_Go p e below KK s₁ (mkF m 4 #[.val (.int q1)] [(.int 255), (.int q1)])
  by_cases hc4 : (255 : Int32) < q1
  · refine own_at (fun t k => XS.icmpNo X0.here hx rfl (hb hby d_method_2_4) rfl (Jvm.Free.XT.ii_le_f hc4) k) ?_
    show own_Go p e below KK s₁ (mkF m 7 #[.val (.int q1)] [])
    refine own_at (fun t k => XS.iconst X0.here hx rfl (hb hby d_method_2_7) k) ?_
    show own_Go p e below KK s₁ (mkF m 8 #[.val (.int q1)] [(.int 0)])
    subst hKK
    exact own_retN X0 hx hlk (t := .boolean) Bd.returns (by simp) (hb hby d_method_2_8) (w := (own_F_method_2 q1)) ((show nar .boolean (0 : Int32) = (0 : Int32) from by decide).trans (show (0 : Int32) = (own_F_method_2 q1) from by unfold own_F_method_2; rw [if_pos hc4])) ⟨rfl, N0, e0⟩ (Nat.le_of_ble_eq_true rfl) (Nat.le_of_ble_eq_true rfl)
  · refine own_at (fun t k => XS.icmpYes X0.here hx rfl (pc0 := 4) (pc' := 9) rfl (hb hby d_method_2_4) rfl (Jvm.Free.XT.ii_le_t hc4) (by decide) (by decide) k) ?_
    show own_Go p e below KK s₁ (mkF m 9 #[.val (.int q1)] [])
    refine own_at (fun t k => XS.iloadN X0.here hx rfl (hb hby d_method_2_9) rfl k) ?_
    show own_Go p e below KK s₁ (mkF m 10 #[.val (.int q1)] [(.int q1)])
    refine own_at (fun t k => XS.bipush X0.here hx rfl (hb hby d_method_2_10) k) ?_
    show own_Go p e below KK s₁ (mkF m 12 #[.val (.int q1)] [(.int 127), (.int q1)])
    by_cases hc12 : q1 = (127 : Int32)
    · refine own_at (fun t k => XS.icmpNo X0.here hx rfl (hb hby d_method_2_12) rfl (Jvm.Free.XT.ii_ne_f hc12) k) ?_
      show own_Go p e below KK s₁ (mkF m 15 #[.val (.int q1)] [])
      refine own_at (fun t k => XS.iconst X0.here hx rfl (hb hby d_method_2_15) k) ?_
      show own_Go p e below KK s₁ (mkF m 16 #[.val (.int q1)] [(.int 0)])
      subst hKK
      exact own_retN X0 hx hlk (t := .boolean) Bd.returns (by simp) (hb hby d_method_2_16) (w := (own_F_method_2 q1)) ((show nar .boolean (0 : Int32) = (0 : Int32) from by decide).trans (show (0 : Int32) = (own_F_method_2 q1) from by unfold own_F_method_2; rw [if_neg hc4, if_pos hc12])) ⟨rfl, N0, e0⟩ (Nat.le_of_ble_eq_true rfl) (Nat.le_of_ble_eq_true rfl)
    · refine own_at (fun t k => XS.icmpYes X0.here hx rfl (pc0 := 12) (pc' := 17) rfl (hb hby d_method_2_12) rfl (Jvm.Free.XT.ii_ne_t hc12) (by decide) (by decide) k) ?_
      show own_Go p e below KK s₁ (mkF m 17 #[.val (.int q1)] [])
      refine own_at (fun t k => XS.iloadN X0.here hx rfl (hb hby d_method_2_17) rfl k) ?_
      show own_Go p e below KK s₁ (mkF m 18 #[.val (.int q1)] [(.int q1)])
      refine own_at (fun t k => XS.bipush X0.here hx rfl (hb hby d_method_2_18) k) ?_
      show own_Go p e below KK s₁ (mkF m 20 #[.val (.int q1)] [(.int 32), (.int q1)])
      by_cases hc20 : q1 < (32 : Int32)
      · refine own_at (fun t k => XS.icmpNo X0.here hx rfl (hb hby d_method_2_20) rfl (Jvm.Free.XT.ii_ge_f hc20) k) ?_
        show own_Go p e below KK s₁ (mkF m 23 #[.val (.int q1)] [])
        refine own_at (fun t k => XS.iloadN X0.here hx rfl (hb hby d_method_2_23) rfl k) ?_
        show own_Go p e below KK s₁ (mkF m 24 #[.val (.int q1)] [(.int q1)])
        refine own_at (fun t k => XS.bipush X0.here hx rfl (hb hby d_method_2_24) k) ?_
        show own_Go p e below KK s₁ (mkF m 26 #[.val (.int q1)] [(.int 9), (.int q1)])
        by_cases hc26 : q1 = (9 : Int32)
        · refine own_at (fun t k => XS.icmpNo X0.here hx rfl (hb hby d_method_2_26) rfl (Jvm.Free.XT.ii_ne_f hc26) k) ?_
          show own_Go p e below KK s₁ (mkF m 29 #[.val (.int q1)] [])
          refine own_at (fun t k => XS.iconst X0.here hx rfl (hb hby d_method_2_29) k) ?_
          show own_Go p e below KK s₁ (mkF m 30 #[.val (.int q1)] [(.int 1)])
          refine own_at (fun t k => XS.goto X0.here hx rfl (pc0 := 30) (pc' := 34) rfl (hb hby d_method_2_30) (by decide) (by decide) k) ?_
          show own_Go p e below KK s₁ (mkF m 34 #[.val (.int q1)] [(.int 1)])
          subst hKK
          exact own_retN X0 hx hlk (t := .boolean) Bd.returns (by simp) (hb hby d_method_2_34) (w := (own_F_method_2 q1)) ((show nar .boolean (1 : Int32) = (1 : Int32) from by decide).trans (show (1 : Int32) = (own_F_method_2 q1) from by unfold own_F_method_2; rw [if_neg hc4, if_neg hc12, if_pos hc20, if_pos hc26])) ⟨rfl, N0, e0⟩ (Nat.le_of_ble_eq_true rfl) (Nat.le_of_ble_eq_true rfl)
        · refine own_at (fun t k => XS.icmpYes X0.here hx rfl (pc0 := 26) (pc' := 33) rfl (hb hby d_method_2_26) rfl (Jvm.Free.XT.ii_ne_t hc26) (by decide) (by decide) k) ?_
          show own_Go p e below KK s₁ (mkF m 33 #[.val (.int q1)] [])
          refine own_at (fun t k => XS.iconst X0.here hx rfl (hb hby d_method_2_33) k) ?_
          show own_Go p e below KK s₁ (mkF m 34 #[.val (.int q1)] [(.int 0)])
          subst hKK
          exact own_retN X0 hx hlk (t := .boolean) Bd.returns (by simp) (hb hby d_method_2_34) (w := (own_F_method_2 q1)) ((show nar .boolean (0 : Int32) = (0 : Int32) from by decide).trans (show (0 : Int32) = (own_F_method_2 q1) from by unfold own_F_method_2; rw [if_neg hc4, if_neg hc12, if_pos hc20, if_neg hc26])) ⟨rfl, N0, e0⟩ (Nat.le_of_ble_eq_true rfl) (Nat.le_of_ble_eq_true rfl)
      · refine own_at (fun t k => XS.icmpYes X0.here hx rfl (pc0 := 20) (pc' := 35) rfl (hb hby d_method_2_20) rfl (Jvm.Free.XT.ii_ge_t hc20) (by decide) (by decide) k) ?_
        show own_Go p e below KK s₁ (mkF m 35 #[.val (.int q1)] [])
        refine own_at (fun t k => XS.iconst X0.here hx rfl (hb hby d_method_2_35) k) ?_
        show own_Go p e below KK s₁ (mkF m 36 #[.val (.int q1)] [(.int 1)])
        subst hKK
        exact own_retN X0 hx hlk (t := .boolean) Bd.returns (by simp) (hb hby d_method_2_36) (w := (own_F_method_2 q1)) ((show nar .boolean (1 : Int32) = (1 : Int32) from by decide).trans (show (1 : Int32) = (own_F_method_2 q1) from by unfold own_F_method_2; rw [if_neg hc4, if_neg hc12, if_neg hc20])) ⟨rfl, N0, e0⟩ (Nat.le_of_ble_eq_true rfl) (Nat.le_of_ble_eq_true rfl)
theorem ef_law (m : MethodId) (x0 : Int32) : entryFrame m #[(.int x0)] maxLocals = mkF m 0 #[.val (.int x0), .unset, .unset] [] := by first | (simp [entryFrame, mkF, argsToLocals, Value.category, maxLocals]; done) | rfl
theorem pd__C_Z : parseMethodDescriptor "(C)Z" = some ⟨[.char], some .boolean⟩ := by decide +kernel
theorem pd__I_Z : parseMethodDescriptor "(I)Z" = some ⟨[.int], some .boolean⟩ := by decide +kernel
def own_F_law (p1 : Int32) : Int32 := (if (own_F_prog_16_8 ((p1 &&& (65535 : Int32)).toUInt32.toUInt16.toUInt32.toInt32)) = (own_F_method_2 ((p1 &&& (65535 : Int32)).toUInt32.toUInt16.toUInt32.toInt32)) then (1 : Int32) else (0 : Int32))
theorem own_same (c : Int32) : own_F_prog_16_8 c = own_F_method_2 c := by
  unfold own_F_prog_16_8 own_F_method_2
  repeat' split
  all_goals first | rfl | (exfalso; simp only [Int32.lt_iff_toInt_lt, ← Int32.toInt_inj, own_lI0, own_lI9, own_lI32, own_lI126, own_lI127, own_lI128, own_lI255] at * <;> omega)
theorem own_true (p1 : Int32) : own_F_law p1 = 1 := by
  unfold own_F_law
  rw [own_same, if_pos rfl]
def own_Q (n0 : Nat) (v : Option Value) (h : Heap) (L : List Loc) : Prop := v = some (.int 1) ∧ Fr n0 L
set_option maxRecDepth 65536 in
set_option maxHeartbeats 40000000 in
theorem rm_law (l : Launch) (Z : State) (a0 : Array Value) (hw : ∀ d ∈ tables_1, d.before a0 Z = true) (ws : List Jvm.Cond) (p1 : Int32)  (h0 : Heap) (n0 : Nat) (Z0 : n0 ≤ h0.size)  :
    MetFree l x (head1 (Jvm.Cond.code x code maxLocals ret :: ws) room_1) (fun a U => a = #[(.int p1)] ∧ Z.Warmed39 U.vm ∧ U.heap = h0) (fun _ _ _ _ _ => True) (fun _ U o U' => ∃ v L, o = .returned v ∧ own_Q n0 v U'.heap L ∧ FrameEnd U o U' L room_1.cells room_1.slots) := by
  refine MetFree.of_bodySF (plainFor_of_name pn_com_example_throughline_throughline_model_HttpGrammarIsQuotablePairPinLaw) hisR ?_
  intro p e s m args below meth c s₁ Bd hml0 hP hK
  obtain ⟨rfl, hZ, hh⟩ := hP
  have hx := Bd.exec
  have hby := Bd.bytes
  have hlk : meth.locks = false := BodyLoose.notSynchronized Bd
  have hml : c.maxLocals = 3 := hml0
  have hown : s.vm.findClass "com/example/throughline/throughline/model/HttpGrammarIsQuotablePairPinLaw" = some m.cls := findClass_of_methodNamed Bd.named
  have hnm := (name_of_methodNamed Bd.named Bd.method).1
  have X0 : Stand p l e room_1 s m #[(.int p1)] below meth c s₁ [] 0 0 := Stand.of_body Bd
  have e0 : s₁.heap = h0 := by rw [← hh, Bd.state]; rfl
  have N0 := Fr.nil n0
  refine own_cast (K := own_K s (own_Q n0) room_1.cells room_1.slots) (ef_law m p1) ?_
  generalize hKK : own_K s (own_Q n0) room_1.cells room_1.slots = KK
  show own_Go p e below KK s₁ (mkF m 0 #[.val (.int p1), .unset, .unset] [])
  refine own_at (fun t k => XS.iloadN X0.here hx rfl (hb hby at_0) rfl k) ?_
  show own_Go p e below KK s₁ (mkF m 1 #[.val (.int p1), .unset, .unset] [(.int p1)])
  refine own_at (fun t k => X0.ldcInt hx hown (mvT hZ (hw _ (List.mem_of_getElem? (i := 0) rfl))) (g := (mkF m 1 #[.val (.int p1), .unset, .unset] [(.int p1)])) rfl (hb hby at_1) t k) ?_
  show own_Go p e below KK s₁ (mkF m 3 #[.val (.int p1), .unset, .unset] [(.int 65535), (.int p1)])
  refine own_at (fun t k => XS.iand X0.here hx rfl (hb hby at_3) rfl k) ?_
  show own_Go p e below KK s₁ (mkF m 4 #[.val (.int p1), .unset, .unset] [(.int (p1 &&& (65535 : Int32)))])
  refine own_at (fun t k => XS.i2c X0.here hx rfl (hb hby at_4) rfl k) ?_
  show own_Go p e below KK s₁ (mkF m 5 #[.val (.int p1), .unset, .unset] [(.int ((p1 &&& (65535 : Int32)).toUInt32.toUInt16.toUInt32.toInt32))])
  refine own_at (fun t k => XS.istoreN X0.here hx rfl (hb hby at_5) rfl (l' := #[.val (.int p1), .val (.int ((p1 &&& (65535 : Int32)).toUInt32.toUInt16.toUInt32.toInt32)), .unset]) rfl k) ?_
  show own_Go p e below KK s₁ (mkF m 6 #[.val (.int p1), .val (.int ((p1 &&& (65535 : Int32)).toUInt32.toUInt16.toUInt32.toInt32)), .unset] [])
  refine own_at (fun t k => XS.iloadN X0.here hx rfl (hb hby at_6) rfl k) ?_
  show own_Go p e below KK s₁ (mkF m 7 #[.val (.int p1), .val (.int ((p1 &&& (65535 : Int32)).toUInt32.toUInt16.toUInt32.toInt32)), .unset] [(.int ((p1 &&& (65535 : Int32)).toUInt32.toUInt16.toUInt32.toInt32))])
  refine own_at (fun t k => XS.istoreN X0.here hx rfl (hb hby at_7) rfl (l' := #[.val (.int p1), .val (.int ((p1 &&& (65535 : Int32)).toUInt32.toUInt16.toUInt32.toInt32)), .val (.int ((p1 &&& (65535 : Int32)).toUInt32.toUInt16.toUInt32.toInt32))]) rfl k) ?_
  show own_Go p e below KK s₁ (mkF m 8 #[.val (.int p1), .val (.int ((p1 &&& (65535 : Int32)).toUInt32.toUInt16.toUInt32.toInt32)), .val (.int ((p1 &&& (65535 : Int32)).toUInt32.toUInt16.toUInt32.toInt32))] [])
  refine own_at (fun t k => XS.iloadN X0.here hx rfl (hb hby at_8) rfl k) ?_
  show own_Go p e below KK s₁ (mkF m 9 #[.val (.int p1), .val (.int ((p1 &&& (65535 : Int32)).toUInt32.toUInt16.toUInt32.toInt32)), .val (.int ((p1 &&& (65535 : Int32)).toUInt32.toUInt16.toUInt32.toInt32))] [(.int ((p1 &&& (65535 : Int32)).toUInt32.toUInt16.toUInt32.toInt32))])
  obtain ⟨_, _, ⟨T1, L1, k1, n1⟩, -, X1, ⟨Lc1, hQ1, l1, y1, z1⟩, st1⟩ := Jvm.LawKit.callS X0 hx (y := (⟨"com/example/throughline/throughline/model/HttpGrammar", "isQuotablePair", "(C)Z"⟩ : MethodName)) hown (mvT hZ (hw _ (List.mem_of_getElem? (i := 1) rfl))) (mvT hZ (hw _ (List.mem_of_getElem? (i := 2) rfl))) (mvT hZ (hw _ (List.mem_of_getElem? (i := 3) rfl))) (mvT hZ (hw _ (List.mem_of_getElem? (i := 4) rfl))) (by decide) (backOf (W := 0) (rm_prog_16_8 l Z a0 hw [] ((p1 &&& (65535 : Int32)).toUInt32.toUInt16.toUInt32.toInt32)  h0 n0 Z0 ) hZ (hw _ (List.mem_of_getElem? (i := 4) rfl)) (hw _ (List.mem_of_getElem? (i := 3) rfl)) (by decide) (by decide)) (g := (mkF m 9 #[.val (.int p1), .val (.int ((p1 &&& (65535 : Int32)).toUInt32.toUInt16.toUInt32.toInt32)), .val (.int ((p1 &&& (65535 : Int32)).toUInt32.toUInt16.toUInt32.toInt32))] [(.int ((p1 &&& (65535 : Int32)).toUInt32.toUInt16.toUInt32.toInt32))])) rfl (by rw [hml]; rfl) (argsL := [(.int ((p1 &&& (65535 : Int32)).toUInt32.toUInt16.toUInt32.toInt32))]) (rest := []) (lenOf pd__C_Z rfl) rfl (by show 2 * 0 + _ ≤ _; exact Nat.le_of_eq rfl) (hb hby at_9) (fun _ _ => ⟨rfl, e0, (by decide : 0 + 0 ≤ _), (by decide : 0 + 0 ≤ _)⟩)
  dsimp only [Pt.U, Pt.locs, Pt.cells, Pt.slots] at X1 l1 y1 z1 st1 hQ1
  subst l1 y1 z1
  obtain ⟨rfl, N1q, e1⟩ := hQ1
  have N1 := Fr.app N0 N1q
  refine own_of (fun t k => st1 t k) ?_
  show own_Go p e below KK T1 (mkF m 12 #[.val (.int p1), .val (.int ((p1 &&& (65535 : Int32)).toUInt32.toUInt16.toUInt32.toInt32)), .val (.int ((p1 &&& (65535 : Int32)).toUInt32.toUInt16.toUInt32.toInt32))] [(.int (own_F_prog_16_8 ((p1 &&& (65535 : Int32)).toUInt32.toUInt16.toUInt32.toInt32)))])
  refine own_at (fun t k => XS.iloadN X1.here hx rfl (hb hby at_12) rfl k) ?_
  show own_Go p e below KK T1 (mkF m 13 #[.val (.int p1), .val (.int ((p1 &&& (65535 : Int32)).toUInt32.toUInt16.toUInt32.toInt32)), .val (.int ((p1 &&& (65535 : Int32)).toUInt32.toUInt16.toUInt32.toInt32))] [(.int ((p1 &&& (65535 : Int32)).toUInt32.toUInt16.toUInt32.toInt32)), (.int (own_F_prog_16_8 ((p1 &&& (65535 : Int32)).toUInt32.toUInt16.toUInt32.toInt32)))])
  obtain ⟨_, _, ⟨T2, L2, k2, n2⟩, -, X2, ⟨Lc2, hQ2, l2, y2, z2⟩, st2⟩ := Jvm.LawKit.callS X1 hx (y := (⟨"com/example/throughline/throughline/model/HttpGrammarIsQuotablePairPinLaw", "expected", "(I)Z"⟩ : MethodName)) hown (mvT hZ (hw _ (List.mem_of_getElem? (i := 5) rfl))) (mvT hZ (hw _ (List.mem_of_getElem? (i := 6) rfl))) (mvT hZ (hw _ (List.mem_of_getElem? (i := 7) rfl))) (mvT hZ (hw _ (List.mem_of_getElem? (i := 8) rfl))) (by decide) (backOf (W := 1) (rm_method_2 l Z a0 hw [] ((p1 &&& (65535 : Int32)).toUInt32.toUInt16.toUInt32.toInt32)  h0 n0 Z0 ) hZ (hw _ (List.mem_of_getElem? (i := 8) rfl)) (hw _ (List.mem_of_getElem? (i := 7) rfl)) (by decide) (by decide)) (g := (mkF m 13 #[.val (.int p1), .val (.int ((p1 &&& (65535 : Int32)).toUInt32.toUInt16.toUInt32.toInt32)), .val (.int ((p1 &&& (65535 : Int32)).toUInt32.toUInt16.toUInt32.toInt32))] [(.int ((p1 &&& (65535 : Int32)).toUInt32.toUInt16.toUInt32.toInt32)), (.int (own_F_prog_16_8 ((p1 &&& (65535 : Int32)).toUInt32.toUInt16.toUInt32.toInt32)))])) rfl (by rw [hml]; rfl) (argsL := [(.int ((p1 &&& (65535 : Int32)).toUInt32.toUInt16.toUInt32.toInt32))]) (rest := [(.int (own_F_prog_16_8 ((p1 &&& (65535 : Int32)).toUInt32.toUInt16.toUInt32.toInt32)))]) (lenOf pd__I_Z rfl) rfl (by show 2 * 0 + _ ≤ _; exact Nat.le_of_eq rfl) (hb hby at_13) (fun _ _ => ⟨rfl, e1, (by decide : 0 + 0 ≤ _), (by decide : 0 + 0 ≤ _)⟩)
  dsimp only [Pt.U, Pt.locs, Pt.cells, Pt.slots] at X2 l2 y2 z2 st2 hQ2
  subst l2 y2 z2
  obtain ⟨rfl, N2q, e2⟩ := hQ2
  have N2 := Fr.app N1 N2q
  refine own_of (fun t k => st2 t k) ?_
  show own_Go p e below KK T2 (mkF m 16 #[.val (.int p1), .val (.int ((p1 &&& (65535 : Int32)).toUInt32.toUInt16.toUInt32.toInt32)), .val (.int ((p1 &&& (65535 : Int32)).toUInt32.toUInt16.toUInt32.toInt32))] [(.int (own_F_method_2 ((p1 &&& (65535 : Int32)).toUInt32.toUInt16.toUInt32.toInt32))), (.int (own_F_prog_16_8 ((p1 &&& (65535 : Int32)).toUInt32.toUInt16.toUInt32.toInt32)))])
  by_cases hc16 : (own_F_prog_16_8 ((p1 &&& (65535 : Int32)).toUInt32.toUInt16.toUInt32.toInt32)) = (own_F_method_2 ((p1 &&& (65535 : Int32)).toUInt32.toUInt16.toUInt32.toInt32))
  · refine own_at (fun t k => XS.icmpNo X2.here hx rfl (hb hby at_16) rfl (Jvm.Free.XT.ii_ne_f hc16) k) ?_
    show own_Go p e below KK T2 (mkF m 19 #[.val (.int p1), .val (.int ((p1 &&& (65535 : Int32)).toUInt32.toUInt16.toUInt32.toInt32)), .val (.int ((p1 &&& (65535 : Int32)).toUInt32.toUInt16.toUInt32.toInt32))] [])
    refine own_at (fun t k => XS.iconst X2.here hx rfl (hb hby at_19) k) ?_
    show own_Go p e below KK T2 (mkF m 20 #[.val (.int p1), .val (.int ((p1 &&& (65535 : Int32)).toUInt32.toUInt16.toUInt32.toInt32)), .val (.int ((p1 &&& (65535 : Int32)).toUInt32.toUInt16.toUInt32.toInt32))] [(.int 1)])
    refine own_at (fun t k => XS.goto X2.here hx rfl (pc0 := 20) (pc' := 24) rfl (hb hby at_20) (by decide) (by decide) k) ?_
    show own_Go p e below KK T2 (mkF m 24 #[.val (.int p1), .val (.int ((p1 &&& (65535 : Int32)).toUInt32.toUInt16.toUInt32.toInt32)), .val (.int ((p1 &&& (65535 : Int32)).toUInt32.toUInt16.toUInt32.toInt32))] [(.int 1)])
    subst hKK
    exact own_retN X2 hx hlk (t := .boolean) Bd.returns (by simp) (hb hby at_24) (w := (1 : Int32)) ((show nar .boolean (1 : Int32) = (1 : Int32) from by decide).trans ((show (1 : Int32) = own_F_law p1 from by unfold own_F_law; rw [if_pos hc16]).trans (own_true p1))) ⟨rfl, N2⟩ (Nat.le_of_ble_eq_true rfl) (Nat.le_of_ble_eq_true rfl)
  · refine own_at (fun t k => XS.icmpYes X2.here hx rfl (pc0 := 16) (pc' := 23) rfl (hb hby at_16) rfl (Jvm.Free.XT.ii_ne_t hc16) (by decide) (by decide) k) ?_
    show own_Go p e below KK T2 (mkF m 23 #[.val (.int p1), .val (.int ((p1 &&& (65535 : Int32)).toUInt32.toUInt16.toUInt32.toInt32)), .val (.int ((p1 &&& (65535 : Int32)).toUInt32.toUInt16.toUInt32.toInt32))] [])
    refine own_at (fun t k => XS.iconst X2.here hx rfl (hb hby at_23) k) ?_
    show own_Go p e below KK T2 (mkF m 24 #[.val (.int p1), .val (.int ((p1 &&& (65535 : Int32)).toUInt32.toUInt16.toUInt32.toInt32)), .val (.int ((p1 &&& (65535 : Int32)).toUInt32.toUInt16.toUInt32.toInt32))] [(.int 0)])
    subst hKK
    exact own_retN X2 hx hlk (t := .boolean) Bd.returns (by simp) (hb hby at_24) (w := (1 : Int32)) ((show nar .boolean (0 : Int32) = (0 : Int32) from by decide).trans ((show (0 : Int32) = own_F_law p1 from by unfold own_F_law; rw [if_neg hc16]).trans (own_true p1))) ⟨rfl, N2⟩ (Nat.le_of_ble_eq_true rfl) (Nat.le_of_ble_eq_true rfl)
set_option maxRecDepth 65536 in
set_option maxHeartbeats 40000000 in
theorem comes_1 {Post : Tables → Env → Array Value → State → Outcome → State → Prop} (hpost : ∀ tb e args s v u, (limb_1_1.after args s (.returned v) u = true ∧ limb_1_2.after args s (.returned v) u = true ∧ True) → FrameEnd s (.returned v) u (Jvm.fieldLocs frame_1_writes args s ++ Jvm.arrayLocs frame_1_arrays args s ++ Jvm.staticLocs frame_1_statics s) 0 0 → Post tb e args s (.returned v) u) :
    ArmFor flags0 classFile x code maxLocals ret World_1 tables_1 room_1 Calls_1 rest_1 Pre_1 Post := by
  intro l hfl _ _ p e ha hc hk s m args below hf hA hF happ hP
  obtain ⟨hcalls, hrest, hpre⟩ := hP
  obtain ⟨-, -, -, hnamed, -, -, -, hat⟩ := (Spec.applies_iff hf).mp happ
  obtain ⟨hg, hn⟩ := and_e (Cond.before_iff.mp (show (Jvm.Cond.and given_1 narrow_1).before args s = true from hpre))
  obtain ⟨gc, g0⟩ := and_e hg
  obtain ⟨w0, rfl⟩ : ∃ w0 : Value, args = #[w0] := by
    have hs : args.size = 1 := by simpa [Cond.value, given_1] using gc
    obtain ⟨L⟩ := args
    match L, hs with
    | [w0], _ => exact ⟨w0, rfl⟩
  have hw := fun d (hd : d ∈ tables_1) => atoms_spec (ws := Jvm.Cond.code x code maxLocals ret :: tables_1) hat d (List.mem_cons_of_mem _ hd)
  obtain ⟨i0, ei0⟩ := is_v g0
  obtain rfl : w0 = (.int i0) := Option.some.inj ei0
  obtain ⟨n, o, h1, h2, h3, _, L, rfl, ⟨rfl, N⟩, hq⟩ := rm_law l s _ hw tables_1 i0 s.heap s.heap.size (Nat.le_refl _) p e ha hc hk s m _ below hf ((Spec.applies_iff_loose hf).mp happ).1 ⟨rfl, State.Warmed39.refl s, rfl⟩ trivial
  refine ⟨n, _, h1, h2, h3, hpost _ _ _ _ _ _ ⟨Cond.after_iff.mpr rfl, Cond.after_iff.mpr (eq_i res_at (Term.int_eval (1)) rfl), trivial⟩ ⟨hq.1, hq.2.1, (hq.2.2.sift fun y hy => Or.inr (N y hy)).mono (by decide) (by decide)⟩⟩
theorem main_1_1 : Claimed_1_1 := comes_1 fun _ _ _ _ _ _ h hF => ⟨h.1, hF⟩
theorem main_1_2 : Claimed_1_2 := comes_1 fun _ _ _ _ _ _ h hF => ⟨h.2.1, hF⟩
end Jvm.Pilot.@@N@@
namespace Jvm.Pilot.@@N@@
open Jvm Jvm.ClassFile Sem Op Lib Jvm.Free Jvm.Stand Jvm.Pilot.@@N@@.Jvm.D
/-! MADE BY PROGRAM (witnessworld.py) out of the Statement's table words and the real class files: 9 classes; the members and pool entries that the words name. The judged class is class 1, her method 2. -/
namespace start1
open Jvm.ClassFile
def u (s : String) : CpInfo := .utf8 (stringToUtf16 s)
/-- a pool by its gaps: so many unusable entries, then the entry; so many at the end -/
def gap : Nat → List CpInfo → List CpInfo
  | 0, r => r
  | n + 1, r => .unusable :: gap n r
def poolList (es : List (Nat × CpInfo)) (last : Nat) : List CpInfo := es.foldr (fun e r => gap e.1 (e.2 :: r)) (gap last [])
def pool (es : List (Nat × CpInfo)) (last : Nat) : Array CpInfo := ⟨poolList es last⟩
def fileOf (pool : Array CpInfo) (this : Nat) (attrs : Array Attribute := #[]) (ms : Array MethodInfo := #[]) (fl : Nat := 33) (sup : Nat := 0) (ifs : Array Nat := #[]) (fds : Array FieldInfo := #[]) : ClassFile where
  minorVersion := 0
  majorVersion := 65
  constantPool := pool
  accessFlags := fl
  thisClass := this
  superClass := sup
  interfaces := ifs
  fields := fds
  methods := ms
  attributes := attrs
def plain (name : String) (sup : Option ClassId) : Class where
  name := name
  kind := .ordinary
  loader := none
  accessFlags := 33
  super := sup
  interfaces := #[]
  cf := none
  fields := #[]
  methods := #[]
  instanceTypes := #[]
  staticTypes := #[]
  resolved := #[]
  callSites := []
  init := .initialized
  statics := none
  mirror := none

def pool0 : Array CpInfo := pool [(5, u "<init>"), (0, u "()V"), (1, .class_ 10), (1, u "java/lang/Object")] 113

def k0m0 : Method := { name := "<init>", desc := "()V", sig := { parameters := [], returnType := none }, accessFlags := 1, code := none }
/-- java/lang/Object -/
def k0 : Class := { plain "java/lang/Object" none with
  accessFlags := 33
  interfaces := #[]
  cf := some (fileOf pool0 8 #[] #[{ accessFlags := 1, nameIndex := 5, descriptorIndex := 6, attributes := #[] }] 33 0 #[] #[])
  fields := #[]
  methods := #[k0m0]
  instanceTypes := #[]
  staticTypes := #[]
  resolved := Array.replicate 124 none
  statics := none }

def pool1 : Array CpInfo := pool [(2, .class_ 4), (1, u "java/lang/Object"), (0, u "<init>"), (0, u "()V"), (0, .integer 65535), (0, .methodref 9 10), (0, .class_ 11), (0, .nameAndType 12 13), (0, u "com/example/throughline/throughline/model/HttpGrammar"), (0, u "isQuotablePair"), (0, u "(C)Z"), (0, .methodref 15 16), (0, .class_ 17), (0, .nameAndType 18 19), (0, u "com/example/throughline/throughline/model/HttpGrammarIsQuotablePairPinLaw"), (0, u "expected"), (0, u "(I)Z"), (3, u "law")] 2

def k1m0 : Method := { name := "<init>", desc := "()V", sig := { parameters := [], returnType := none }, accessFlags := 2, code := none }
def k1c1 : Code := { maxStack := 2, maxLocals := 1, code := method_2_code, exceptionTable := #[], attributes := #[] }
def k1m1 : Method := { name := "expected", desc := "(I)Z", sig := { parameters := [.int], returnType := some .boolean }, accessFlags := 10, code := some k1c1 }
def k1c2 : Code := { maxStack := 2, maxLocals := 3, code := code, exceptionTable := #[], attributes := #[] }
def k1m2 : Method := { name := "law", desc := "(I)Z", sig := { parameters := [.int], returnType := some .boolean }, accessFlags := 9, code := some k1c2 }
/-- com/example/throughline/throughline/model/HttpGrammarIsQuotablePairPinLaw -/
def k1 : Class := { plain "com/example/throughline/throughline/model/HttpGrammarIsQuotablePairPinLaw" (some 0) with
  accessFlags := 49
  interfaces := #[]
  cf := some (fileOf pool1 15 #[] #[{ accessFlags := 2, nameIndex := 5, descriptorIndex := 6, attributes := #[] }, { accessFlags := 10, nameIndex := 18, descriptorIndex := 19, attributes := #[] }, { accessFlags := 9, nameIndex := 23, descriptorIndex := 19, attributes := #[] }] 49 2 #[] #[])
  fields := #[]
  methods := #[k1m0, k1m1, k1m2]
  instanceTypes := #[]
  staticTypes := #[]
  resolved := Array.replicate 26 none
  statics := none }

def pool2 : Array CpInfo := pool [(2, .class_ 4), (1, u "java/lang/Object"), (0, u "<init>"), (0, u "()V"), (49, .class_ 58), (1, u "com/example/throughline/throughline/model/HttpGrammar"), (1, u "(C)Z"), (11, u "isQuotablePair"), (0, u "TOKEN_SYMBOLS"), (0, u "Ljava/lang/String;")] 16

def k2m0 : Method := { name := "<init>", desc := "()V", sig := { parameters := [], returnType := none }, accessFlags := 2, code := none }
def k2c1 : Code := { maxStack := 2, maxLocals := 1, code := prog_16_method_8_code, exceptionTable := #[], attributes := #[] }
def k2m1 : Method := { name := "isQuotablePair", desc := "(C)Z", sig := { parameters := [.char], returnType := some .boolean }, accessFlags := 8, code := some k2c1 }
/-- com/example/throughline/throughline/model/HttpGrammar -/
def k2 : Class := { plain "com/example/throughline/throughline/model/HttpGrammar" (some 0) with
  accessFlags := 33
  interfaces := #[]
  cf := some (fileOf pool2 56 #[] #[{ accessFlags := 2, nameIndex := 5, descriptorIndex := 6, attributes := #[] }, { accessFlags := 8, nameIndex := 72, descriptorIndex := 60, attributes := #[] }] 33 2 #[] #[{ accessFlags := 26, nameIndex := 73, descriptorIndex := 74, attributes := #[] }])
  fields := #[{ name := "TOKEN_SYMBOLS", type := (.object "java/lang/String"), accessFlags := 26, slot := 0, constantValue := 0 }]
  methods := #[k2m0, k2m1]
  instanceTypes := #[]
  staticTypes := #[(.object "java/lang/String")]
  resolved := Array.replicate 91 none
  statics := none }

def pool3 : Array CpInfo := pool [(1, u "java/lang/Cloneable"), (0, .class_ 1), (0, u "java/lang/Object"), (0, .class_ 3)] 3

/-- java/lang/Cloneable -/
def k3 : Class := { plain "java/lang/Cloneable" (some 0) with
  accessFlags := 1537
  interfaces := #[]
  cf := some (fileOf pool3 2 #[] #[] 1537 4 #[] #[])
  fields := #[]
  methods := #[]
  instanceTypes := #[]
  staticTypes := #[]
  resolved := Array.replicate 8 none
  statics := none }

def pool4 : Array CpInfo := pool [(1, u "java/io/Serializable"), (0, .class_ 1), (0, u "java/lang/Object"), (0, .class_ 3)] 3

/-- java/io/Serializable -/
def k4 : Class := { plain "java/io/Serializable" (some 0) with
  accessFlags := 1537
  interfaces := #[]
  cf := some (fileOf pool4 2 #[] #[] 1537 4 #[] #[])
  fields := #[]
  methods := #[]
  instanceTypes := #[]
  staticTypes := #[]
  resolved := Array.replicate 8 none
  statics := none }

/-- the primitive byte -/
def k5 : Class := { plain "byte" none with kind := .primitive 'B', accessFlags := 0x411 }
/-- [B -/
def k6 : Class := { plain "[B" (some 0) with kind := .array 5 .byte, interfaces := #[3, 4], accessFlags := 1041 }

/-- the primitive int -/
def k7 : Class := { plain "int" none with kind := .primitive 'I', accessFlags := 0x411 }
/-- [I -/
def k8 : Class := { plain "[I" (some 0) with kind := .array 7 .int, interfaces := #[3, 4], accessFlags := 1041 }

def heap : Heap := #[]
def classes : Array Class := #[k0, k1, k2, k3, k4, k5, k6, k7, k8]
def interned : List (Array UInt16 × Addr) := []
def slotsUsed : Nat := 0
def theMethod : MethodId := ⟨1, 2⟩
def args0 : Array Value := #[.int 5]
def aboutOver (below : List Frame) : State where
  vm := { classes := classes, interned := interned.toArray }
  heap := heap
  slotsUsed := slotsUsed
  threads := #[{ frames := .invoking theMethod args0 :: below }]
def below0 : List Frame := [.native { method := ⟨0, 0⟩, args := #[] }]
def about1 : State := aboutOver below0
def p0 : Program := .bare "" "" ""
def e0 : Env := launch0.env 0 0 0
theorem w_frames : about1.frames = Frame.invoking theMethod args0 :: below0 := rfl
set_option maxRecDepth 65536 in
theorem w_args : argsFit about1.vm theMethod args0 = true := by decide +kernel
set_option maxRecDepth 65536 in
theorem w_heap : heapFits about1 = true := by decide +kernel
set_option maxRecDepth 65536 in
theorem w_runnable : about1.curStatus? = some .runnable := by decide +kernel
set_option maxRecDepth 65536 in
theorem w_alone : about1.alone = true := by decide +kernel
set_option maxRecDepth 65536 in
theorem w_named : about1.methodNamed? x = some theMethod := by decide +kernel
set_option maxRecDepth 65536 in
theorem w_hears : about1.hears theMethod below0 = true := by decide +kernel
set_option maxRecDepth 65536 in
theorem w_ripe : about1.ripe theMethod args0 below0 = true := by decide +kernel
theorem w_running : about1.status = .running := rfl
set_option maxRecDepth 65536 in
theorem w_room : about1.hasRoom e0.platform room_1 = true :=
  launch0.hasRoom_least _ room_1 (by decide +kernel) (by decide +kernel) (by decide +kernel) (by decide +kernel) (by decide +kernel) (by decide +kernel)
theorem allAtoms_all (ts : List Jvm.Cond) (a : Array Jvm.Value) (st : Jvm.State) : (allAtoms ts).before a st = ts.all (fun c => c.before a st) := by
  induction ts with
  | nil => rfl
  | cons c t ih =>
    show (Jvm.Cond.and c (allAtoms t)).before a st = _
    rw [Jvm.Cond.before_and, ih, List.all_cons]
def words1 : List Jvm.Cond := Jvm.Cond.code x code maxLocals ret :: tables_1
/-- a 'code' word, met by the world's own term for the bytes: nothing is compared byte by byte -/
theorem code_word {y : MethodName} {bytes : ByteArray} {mx : Nat} {rt : Option FieldType} {a : Array Value} {s : State} {m : MethodId} {meth : Method} {c : Code} (h1 : s.methodNamed? y = some m) (h2 : s.vm.method? m = some meth) (h3 : meth.code = some c) (h4 : c.code = bytes)
    (h5 : (c.maxLocals == mx && c.exceptionTable.isEmpty && decide (c.maxStack ≤ mostOperands) && decide (meth.sig.returnType = rt) && !meth.locks && decide (parseMethodDescriptor y.desc = some meth.sig)) = true) : (Jvm.Cond.code y bytes mx rt).before a s = true := by
  simp only [Bool.and_eq_true, beq_iff_eq, Bool.not_eq_true', decide_eq_true_eq] at h5
  obtain ⟨⟨⟨⟨⟨g1, g2⟩, g3⟩, g4⟩, g5⟩, g6⟩ := h5
  simp [Cond.before, Cond.holds, Cond.value, h1, h2, h3, h4, g1, g2, g3, g4, g5, g6]
def isCode : Jvm.Cond → Bool
  | .code _ _ _ _ => true
  | _ => false
theorem all_split {L : List Jvm.Cond} {P : Jvm.Cond → Bool} (h1 : L.all (fun c => isCode c || P c) = true) (h2 : ∀ c ∈ L.filter isCode, P c = true) : L.all P = true := by
  refine List.all_eq_true.mpr fun c hc => ?_
  have h := List.all_eq_true.mp h1 c hc
  rcases Bool.eq_false_or_eq_true (isCode c) with hi | hi
  · exact h2 c (List.mem_filter.mpr ⟨hc, hi⟩)
  · simpa [hi] using h
set_option maxRecDepth 65536 in
theorem w_c0 : (Jvm.Cond.code x code maxLocals ret).before args0 about1 = true := code_word (m := ⟨1, 2⟩) (meth := k1m2) (c := k1c2) (by decide +kernel) rfl rfl rfl (by decide +kernel)
set_option maxRecDepth 65536 in
theorem w_c1 : (Jvm.Cond.code ({ cls := "com/example/throughline/throughline/model/HttpGrammar", name := "isQuotablePair", desc := "(C)Z" } : Jvm.MethodName) prog_16_method_8_code (1 : Nat) (Option.some Jvm.ClassFile.FieldType.boolean)).before args0 about1 = true := code_word (m := ⟨2, 1⟩) (meth := k2m1) (c := k2c1) (by decide +kernel) rfl rfl rfl (by decide +kernel)
set_option maxRecDepth 65536 in
theorem w_c2 : (Jvm.Cond.code ({ cls := "com/example/throughline/throughline/model/HttpGrammarIsQuotablePairPinLaw", name := "expected", desc := "(I)Z" } : Jvm.MethodName) method_2_code (1 : Nat) (Option.some Jvm.ClassFile.FieldType.boolean)).before args0 about1 = true := code_word (m := ⟨1, 1⟩) (meth := k1m1) (c := k1c1) (by decide +kernel) rfl rfl rfl (by decide +kernel)
def codes1 : List Jvm.Cond := [Jvm.Cond.code x code maxLocals ret, Jvm.Cond.code ({ cls := "com/example/throughline/throughline/model/HttpGrammar", name := "isQuotablePair", desc := "(C)Z" } : Jvm.MethodName) prog_16_method_8_code (1 : Nat) (Option.some Jvm.ClassFile.FieldType.boolean), Jvm.Cond.code ({ cls := "com/example/throughline/throughline/model/HttpGrammarIsQuotablePairPinLaw", name := "expected", desc := "(I)Z" } : Jvm.MethodName) method_2_code (1 : Nat) (Option.some Jvm.ClassFile.FieldType.boolean)]
set_option maxRecDepth 65536 in
theorem codes_eq : words1.filter isCode = codes1 := rfl
theorem w_codes : ∀ c ∈ words1.filter isCode, c.before args0 about1 = true := by
  rw [codes_eq]
  intro c hc
  simp only [codes1, List.mem_cons, List.not_mem_nil, or_false] at hc
  rcases hc with rfl | rfl | rfl
  · exact w_c0
  · exact w_c1
  · exact w_c2
set_option maxRecDepth 65536 in
theorem w_t1 : words1.all (fun c => isCode c || c.before args0 about1) = true := by decide +kernel
theorem w_tables : (allAtoms (Jvm.Cond.code x code maxLocals ret :: tables_1)).before args0 about1 = true := by
  rw [allAtoms_all]
  show words1.all (fun c => c.before args0 about1) = true
  refine all_split ?_ w_codes
  rw [w_t1]
set_option maxRecDepth 65536 in
theorem w_case : (Jvm.Cond.and given_1 narrow_1).before args0 about1 = true := by decide +kernel
theorem w_applies : (headSpec (Jvm.Cond.code x code maxLocals ret :: tables_1) room_1).applies x e0.platform about1 = true :=
  (Spec.applies_iff w_frames).mpr ⟨w_running, w_runnable, w_alone, w_named, w_hears, w_ripe, w_room, w_tables⟩
theorem atStart : AtStart classFile x code maxLocals ret World_1 tables_1 room_1 Calls_1 rest_1 Pre_1 launch0 p0 e0 about1 theMethod args0 below0 :=
  ⟨lists_1, trivial, launch0.admits_env _ _ _, launch0.least_env, fairChoices_fair.cas, fairChoices_fair.clock, w_frames, w_args, w_heap, w_applies, trivial, trivial, w_case⟩
end start1
theorem witness_1 : WitnessClaimed_1 := ⟨start1.p0, start1.e0, start1.about1, start1.theMethod, start1.args0, start1.below0, start1.atStart⟩
end Jvm.Pilot.@@N@@
