import JvmDerived
import JvmDerived.Pilot.@@N@@Statement
import JvmDerived.Pilot.@@N@@Code
set_option linter.unusedVariables false
set_option linter.unusedSimpArgs false
namespace Jvm.Pilot.@@N@@
open Jvm Jvm.ClassFile Sem Op Lib Jvm.Free Jvm.Stand Jvm.LawKit Jvm.RoadKit Bundle Jvm.Pilot.@@N@@.Jvm.D
section OwnKit
/-- from the frame f at T the run comes to an end that K takes -/
def own_Go (p : Program) (e : Env) (below : List Frame) (K : Outcome → State → Prop) (T : State) (f : JFrame) : Prop :=
  ∃ s₂ o, Steps p.tables e below (T.setTop f) s₂ ∧ s₂.status = .running ∧ Ended s₂ below o ∧ K o s₂
def own_K (s : State) (Q : Option Value → Heap → List Loc → Prop) (cc ss : Nat) (o : Outcome) (U : State) : Prop :=
  ∃ v L, o = .returned v ∧ Q v U.heap L ∧ FrameEnd s o U L cc ss
variable {p : Program} {l : Launch} {e : Env} {R : Room} {s : State} {m : MethodId} {args : Array Value} {below : List Frame} {meth : Method} {c : Code} {T T' : State} {locs : List Loc} {cells slots : Nat} {K : Outcome → State → Prop} {Q : Option Value → Heap → List Loc → Prop} {cc ss : Nat} {f f' : JFrame}
theorem own_of (h : ∀ t, Steps p.tables e below (T'.setTop f') t → Steps p.tables e below (T.setTop f) t) (k : own_Go p e below K T' f') : own_Go p e below K T f := by
  obtain ⟨s2, o, h1, r⟩ := k
  exact ⟨s2, o, h _ h1, r⟩
theorem own_at (h : ∀ t, Steps p.tables e below (T.setTop f') t → Steps p.tables e below (T.setTop f) t) (k : own_Go p e below K T f') : own_Go p e below K T f := own_of h k
theorem own_cast (q : f = f') (k : own_Go p e below K T f') : own_Go p e below K T f := q ▸ k
theorem own_end (X : Stand p l e R s m args below meth c T locs cells slots) (hlk : meth.locks = false) {v : Option Value} (hv : meth.sig.returnType = none → v = none) (hq : Q v T.heap locs) (h1 : cells ≤ cc) (h2 : slots ≤ ss)
    (hs : ∀ fs, (∀ (f : JFrame) (acts : List Action), f.method = m → f.locked = none → f.entered = [] → (doReturn e (T.setTop f) acts v).1 = T.setFrames fs) → Steps p.tables e below (T.setTop f) (T.setFrames fs)) : own_Go p e below (own_K s Q cc ss) T f := by
  obtain ⟨fs, hr, hrun, hended, hW, hsame⟩ := X.leave (v := v) hv hlk
  exact ⟨_, _, hs fs hr, hrun, hended, _, _, rfl, hq, ⟨_, rfl⟩, hW, hsame.mono h1 h2⟩
theorem own_retN (X : Stand p l e R s m args below meth c T locs cells slots) (hx : p.tables.exec = Jvm.exec) (hlk : meth.locks = false) {pc : Nat} {Ls : Array Slot} {z w : Int32} {t : FieldType} {rest : List Value} (hret : meth.sig.returnType = some t) (ht : t = .boolean ∨ t = .byte ∨ t = .char ∨ t = .short)
    (hd : decode c.code pc = .ok (.ireturn, 1)) (hw : nar t z = w) (hq : Q (some (.int w)) T.heap locs) (h1 : cells ≤ cc) (h2 : slots ≤ ss) : own_Go p e below (own_K s Q cc ss) T (mkF m pc Ls (.int z :: rest)) := by
  subst hw
  exact own_end X hlk (fun h => by rw [hret] at h; cases h) hq h1 h2 fun fs hr => retN X hx hret ht hd hr
theorem own_retI (X : Stand p l e R s m args below meth c T locs cells slots) (hx : p.tables.exec = Jvm.exec) (hlk : meth.locks = false) {pc : Nat} {Ls : Array Slot} {z w : Int32} {rest : List Value} (hret : meth.sig.returnType = some .int)
    (hd : decode c.code pc = .ok (.ireturn, 1)) (hw : z = w) (hq : Q (some (.int w)) T.heap locs) (h1 : cells ≤ cc) (h2 : slots ≤ ss) : own_Go p e below (own_K s Q cc ss) T (mkF m pc Ls (.int z :: rest)) := by
  subst hw
  refine own_end X hlk (fun h => by rw [hret] at h; cases h) hq h1 h2 fun fs hr => ?_
  have hm' : T.vm.method? m = some meth := X.method'
  have hn : narrow .int (.int z) = .int z := rfl
  show Steps p.tables e below (T.setTop { method := m, pc := pc, locals := Ls, stack := _ :: rest, locked := none }) _
  jvm_step X.here [X.here.top, hx, hd, hm', hret, hn]
  first | (intro acts; rw [hr _ acts rfl rfl rfl]) | rw [hr _ _ rfl rfl rfl]
  exact Steps.refl _
theorem own_retJ (X : Stand p l e R s m args below meth c T locs cells slots) (hx : p.tables.exec = Jvm.exec) (hlk : meth.locks = false) {pc : Nat} {Ls : Array Slot} {z w : Int64} (hret : meth.sig.returnType = some .long)
    (hd : decode c.code pc = .ok (.lreturn, 1)) (hw : z = w) (hq : Q (some (.long w)) T.heap locs) (h1 : cells ≤ cc) (h2 : slots ≤ ss) : own_Go p e below (own_K s Q cc ss) T (mkF m pc Ls [.long z]) := by
  subst hw
  exact own_end X hlk (fun h => by rw [hret] at h; cases h) hq h1 h2 fun fs hr => X.lreturnOut hx hret hd hr
theorem own_retA (X : Stand p l e R s m args below meth c T locs cells slots) (hx : p.tables.exec = Jvm.exec) (hlk : meth.locks = false) {pc : Nat} {Ls : Array Slot} {z : Value} {ty : FieldType} {rest : List Value} (hz : z.isRef = true) (hret : meth.sig.returnType = some ty) (hty : ty.isReference = true)
    (hd : decode c.code pc = .ok (.areturn, 1)) (hq : Q (some z) T.heap locs) (h1 : cells ≤ cc) (h2 : slots ≤ ss) : own_Go p e below (own_K s Q cc ss) T (mkF m pc Ls (z :: rest)) := by
  refine own_end X hlk (fun h => by rw [hret] at h; cases h) hq h1 h2 fun fs hr => ?_
  have hm' : T.vm.method? m = some meth := X.method'
  show Steps p.tables e below (T.setTop { method := m, pc := pc, locals := Ls, stack := _ :: rest, locked := none }) _
  jvm_step X.here [X.here.top, hx, hd, hm', hret, hz, hty]
  first | (intro acts; rw [hr _ acts rfl rfl rfl]) | rw [hr _ _ rfl rfl rfl]
  exact Steps.refl _
theorem own_retV (X : Stand p l e R s m args below meth c T locs cells slots) (hx : p.tables.exec = Jvm.exec) (hlk : meth.locks = false) {pc : Nat} {Ls : Array Slot} (hret : meth.sig.returnType = none)
    (hd : decode c.code pc = .ok (.return_, 1)) (hq : Q none T.heap locs) (h1 : cells ≤ cc) (h2 : slots ≤ ss) : own_Go p e below (own_K s Q cc ss) T (mkF m pc Ls []) :=
  own_end X hlk (fun _ => rfl) hq h1 h2 fun fs hr => X.returnOut hx hret hd hr
theorem own_ne {i k : Int32} {z : Int} (hz : k.toInt = z) (h : ¬ i = k) : ¬ (z = i.toInt) := fun q => h (Int32.toInt_inj.mp (q.symm.trans hz.symm))
theorem own_lsw {tb : Tables} [Ours tb] {target : State} {g : JFrame} (h : At T m c below) (hx : tb.exec = Jvm.exec) (hg : g.method = m) {dflt o : Int} {prs : Array (Int × Int)} {len pc0 pc' : Nat} (hpc : g.pc = pc0) (hd : decode c.code g.pc = .ok (.lookupswitch dflt prs, len)) {i : Int32} {rest : List Value} (hs : g.stack = .int i :: rest)
    (hso : (prs.toList.zip (prs.toList.drop 1)).all (fun (a, next) => a.1 < next.1) = true) (hof : lookupswitch.offset prs.toList dflt i.toInt = o) (ho : 0 ≤ (pc0 : Int) + o) (hp : ((pc0 : Int) + o).toNat = pc')
    (hr : Steps tb e below (T.setTop { g with pc := pc', stack := rest }) target) : Steps tb e below (T.setTop g) target := by
  subst hg hpc hp hof
  jvm_step h [h.top, hx, hd, hs, ho, lookupswitch.wp_chain]
  exact ⟨by simpa using hso, hr⟩
theorem own_nar01 {z : Int32} (h : z = 0 ∨ z = 1) : nar .boolean z = z := by rcases h with rfl | rfl <;> decide
theorem own_narB (x : Int32) : nar .byte x.toInt8.toInt32 = x.toInt8.toInt32 := Value.int.inj (Jvm.Free.XT.narrow_b x)
theorem own_narC (x : Int32) : nar .char x.toUInt32.toUInt16.toUInt32.toInt32 = x.toUInt32.toUInt16.toUInt32.toInt32 := Value.int.inj (Jvm.Free.XT.narrow_c x)
end OwnKit
/-- a body that writes nothing and returns w -/
def own_P (w : Value) (h0 : Heap) (n0 : Nat) (v : Option Value) (h : Heap) (L : List Loc) : Prop := v = some w ∧ Fr n0 L ∧ h = h0
theorem pn_com_example_libpetri_libpetri_Marking : plainName "com/example/libpetri/libpetri/Marking" = true := by first | (simp [plainName, overriddenIn]; done) | decide +kernel
theorem ef_prog_17_9 (m : MethodId) (x0 : Int64) (x1 : Int64) : entryFrame m #[(.long x0), (.long x1)] 4 = mkF m 0 #[.val (.long x0), .second, .val (.long x1), .second] [] := by first | (simp [entryFrame, mkF, argsToLocals, Value.category]; done) | rfl
theorem d_prog_17_9_0 : decode prog_17_method_9_code 0 = .ok (.lload_n 2, 1) := by decide +kernel
theorem d_prog_17_9_1 : decode prog_17_method_9_code 1 = .ok (.ldc2_w 30, 3) := by decide +kernel
theorem d_prog_17_9_4 : decode prog_17_method_9_code 4 = .ok (.lcmp, 1) := by decide +kernel
theorem d_prog_17_9_5 : decode prog_17_method_9_code 5 = .ok (.ifCond .eq 17, 3) := by decide +kernel
theorem d_prog_17_9_22 : decode prog_17_method_9_code 22 = .ok (.iconst 1, 1) := by decide +kernel
theorem d_prog_17_9_23 : decode prog_17_method_9_code 23 = .ok (.goto 4, 3) := by decide +kernel
theorem d_prog_17_9_27 : decode prog_17_method_9_code 27 = .ok (.ireturn, 1) := by decide +kernel
theorem d_prog_17_9_8 : decode prog_17_method_9_code 8 = .ok (.lload_n 0, 1) := by decide +kernel
theorem d_prog_17_9_9 : decode prog_17_method_9_code 9 = .ok (.ldc2_w 30, 3) := by decide +kernel
theorem d_prog_17_9_12 : decode prog_17_method_9_code 12 = .ok (.lcmp, 1) := by decide +kernel
theorem d_prog_17_9_13 : decode prog_17_method_9_code 13 = .ok (.ifCond .eq 13, 3) := by decide +kernel
theorem d_prog_17_9_26 : decode prog_17_method_9_code 26 = .ok (.iconst 0, 1) := by decide +kernel
theorem d_prog_17_9_16 : decode prog_17_method_9_code 16 = .ok (.lload_n 0, 1) := by decide +kernel
theorem d_prog_17_9_17 : decode prog_17_method_9_code 17 = .ok (.lload_n 2, 1) := by decide +kernel
theorem d_prog_17_9_18 : decode prog_17_method_9_code 18 = .ok (.lcmp, 1) := by decide +kernel
theorem d_prog_17_9_19 : decode prog_17_method_9_code 19 = .ok (.ifCond .gt 7, 3) := by decide +kernel
def own_F_prog_17_9 (q1 : Int64) (q2 : Int64) : Int32 := (if q2 = (-1 : Int64) then (1 : Int32) else (if q1 = (-1 : Int64) then (0 : Int32) else (if q2 < q1 then (0 : Int32) else (1 : Int32))))
set_option maxRecDepth 65536 in
set_option maxHeartbeats 40000000 in
theorem rm_prog_17_9 (l : Launch) (Z : State) (a0 : Array Value) (hw : ∀ d ∈ tables_1, d.before a0 Z = true) (ws : List Jvm.Cond) (q1 : Int64) (q2 : Int64)  (h0 : Heap) (n0 : Nat) (Z0 : n0 ≤ h0.size)  :
    MetFree l (⟨"com/example/libpetri/libpetri/Marking", "atMost", "(JJ)Z"⟩ : MethodName) (head1 (Jvm.Cond.code (⟨"com/example/libpetri/libpetri/Marking", "atMost", "(JJ)Z"⟩ : MethodName) prog_17_method_9_code 4 (some .boolean) :: ws) ({ frames := 0, cells := 0, slots := 0, locals := 0 } : Room)) (fun a U => a = #[(.long q1), (.long q2)] ∧ Z.Warmed39 U.vm ∧ U.heap = h0) (fun _ _ _ _ _ => True) (fun _ U o U' => ∃ v L, o = .returned v ∧ own_P (.int (own_F_prog_17_9 q1 q2)) h0 n0 v U'.heap L ∧ FrameEnd U o U' L ({ frames := 0, cells := 0, slots := 0, locals := 0 } : Room).cells ({ frames := 0, cells := 0, slots := 0, locals := 0 } : Room).slots) := by
  refine MetFree.of_bodySF (plainFor_of_name pn_com_example_libpetri_libpetri_Marking) hisR ?_
  intro p e s m args below meth c s₁ Bd hml0 hP hK
  obtain ⟨rfl, hZ, hh⟩ := hP
  have hx := Bd.exec
  have hby := Bd.bytes
  have hlk : meth.locks = false := BodyLoose.notSynchronized Bd
  have hml : c.maxLocals = 4 := hml0
  have hown : s.vm.findClass "com/example/libpetri/libpetri/Marking" = some m.cls := findClass_of_methodNamed Bd.named
  have hnm := (name_of_methodNamed Bd.named Bd.method).1
  have X0 : Stand p l e ({ frames := 0, cells := 0, slots := 0, locals := 0 } : Room) s m #[(.long q1), (.long q2)] below meth c s₁ [] 0 0 := Stand.of_body Bd
  have e0 : s₁.heap = h0 := by rw [← hh, Bd.state]; rfl
  have N0 := Fr.nil n0
  refine own_cast (K := own_K s (own_P (.int (own_F_prog_17_9 q1 q2)) h0 n0) 0 0) (ef_prog_17_9 m q1 q2) ?_
  generalize hKK : own_K s (own_P (.int (own_F_prog_17_9 q1 q2)) h0 n0) 0 0 = KK
  show own_Go p e below KK s₁ (mkF m 0 #[.val (.long q1), .second, .val (.long q2), .second] [])
  refine own_at (fun t k => XS.lloadN X0.here hx rfl (hb hby d_prog_17_9_0) rfl k) ?_
  show own_Go p e below KK s₁ (mkF m 1 #[.val (.long q1), .second, .val (.long q2), .second] [(.long q2)])
  refine own_at (fun t k => X0.ldc2Long hx hown (mvT hZ (hw _ (List.mem_of_getElem? (i := 6) rfl))) (g := (mkF m 1 #[.val (.long q1), .second, .val (.long q2), .second] [(.long q2)])) rfl (hb hby d_prog_17_9_1) t k) ?_
  show own_Go p e below KK s₁ (mkF m 4 #[.val (.long q1), .second, .val (.long q2), .second] [(.long (-1 : Int64)), (.long q2)])
  refine own_at (fun t k => Jvm.Free.XT.lcmp X0.here hx rfl (hb hby d_prog_17_9_4) rfl k) ?_
  show own_Go p e below KK s₁ (mkF m 5 #[.val (.long q1), .second, .val (.long q2), .second] [(.int (Jvm.Free.XT.cmpL q2 (-1 : Int64)))])
  by_cases hc5 : q2 = (-1 : Int64)
  · refine own_at (fun t k => XS.ifYes X0.here hx rfl (pc0 := 5) (pc' := 22) rfl (hb hby d_prog_17_9_5) rfl (Jvm.Free.XT.ll_eq_t hc5) (by decide) (by decide) k) ?_
    show own_Go p e below KK s₁ (mkF m 22 #[.val (.long q1), .second, .val (.long q2), .second] [])
    refine own_at (fun t k => XS.iconst X0.here hx rfl (hb hby d_prog_17_9_22) k) ?_
    show own_Go p e below KK s₁ (mkF m 23 #[.val (.long q1), .second, .val (.long q2), .second] [(.int 1)])
    refine own_at (fun t k => XS.goto X0.here hx rfl (pc0 := 23) (pc' := 27) rfl (hb hby d_prog_17_9_23) (by decide) (by decide) k) ?_
    show own_Go p e below KK s₁ (mkF m 27 #[.val (.long q1), .second, .val (.long q2), .second] [(.int 1)])
    subst hKK
    exact own_retN X0 hx hlk (t := .boolean) Bd.returns (by simp) (hb hby d_prog_17_9_27) (w := (own_F_prog_17_9 q1 q2)) ((show nar .boolean (1 : Int32) = (1 : Int32) from by decide).trans (show (1 : Int32) = (own_F_prog_17_9 q1 q2) from by unfold own_F_prog_17_9; rw [if_pos hc5])) ⟨rfl, N0, e0⟩ (Nat.le_of_ble_eq_true rfl) (Nat.le_of_ble_eq_true rfl)
  · refine own_at (fun t k => XS.ifNo X0.here hx rfl (hb hby d_prog_17_9_5) rfl (Jvm.Free.XT.ll_eq_f hc5) k) ?_
    show own_Go p e below KK s₁ (mkF m 8 #[.val (.long q1), .second, .val (.long q2), .second] [])
    refine own_at (fun t k => XS.lloadN X0.here hx rfl (hb hby d_prog_17_9_8) rfl k) ?_
    show own_Go p e below KK s₁ (mkF m 9 #[.val (.long q1), .second, .val (.long q2), .second] [(.long q1)])
    refine own_at (fun t k => X0.ldc2Long hx hown (mvT hZ (hw _ (List.mem_of_getElem? (i := 6) rfl))) (g := (mkF m 9 #[.val (.long q1), .second, .val (.long q2), .second] [(.long q1)])) rfl (hb hby d_prog_17_9_9) t k) ?_
    show own_Go p e below KK s₁ (mkF m 12 #[.val (.long q1), .second, .val (.long q2), .second] [(.long (-1 : Int64)), (.long q1)])
    refine own_at (fun t k => Jvm.Free.XT.lcmp X0.here hx rfl (hb hby d_prog_17_9_12) rfl k) ?_
    show own_Go p e below KK s₁ (mkF m 13 #[.val (.long q1), .second, .val (.long q2), .second] [(.int (Jvm.Free.XT.cmpL q1 (-1 : Int64)))])
    by_cases hc13 : q1 = (-1 : Int64)
    · refine own_at (fun t k => XS.ifYes X0.here hx rfl (pc0 := 13) (pc' := 26) rfl (hb hby d_prog_17_9_13) rfl (Jvm.Free.XT.ll_eq_t hc13) (by decide) (by decide) k) ?_
      show own_Go p e below KK s₁ (mkF m 26 #[.val (.long q1), .second, .val (.long q2), .second] [])
      refine own_at (fun t k => XS.iconst X0.here hx rfl (hb hby d_prog_17_9_26) k) ?_
      show own_Go p e below KK s₁ (mkF m 27 #[.val (.long q1), .second, .val (.long q2), .second] [(.int 0)])
      subst hKK
      exact own_retN X0 hx hlk (t := .boolean) Bd.returns (by simp) (hb hby d_prog_17_9_27) (w := (own_F_prog_17_9 q1 q2)) ((show nar .boolean (0 : Int32) = (0 : Int32) from by decide).trans (show (0 : Int32) = (own_F_prog_17_9 q1 q2) from by unfold own_F_prog_17_9; rw [if_neg hc5, if_pos hc13])) ⟨rfl, N0, e0⟩ (Nat.le_of_ble_eq_true rfl) (Nat.le_of_ble_eq_true rfl)
    · refine own_at (fun t k => XS.ifNo X0.here hx rfl (hb hby d_prog_17_9_13) rfl (Jvm.Free.XT.ll_eq_f hc13) k) ?_
      show own_Go p e below KK s₁ (mkF m 16 #[.val (.long q1), .second, .val (.long q2), .second] [])
      refine own_at (fun t k => XS.lloadN X0.here hx rfl (hb hby d_prog_17_9_16) rfl k) ?_
      show own_Go p e below KK s₁ (mkF m 17 #[.val (.long q1), .second, .val (.long q2), .second] [(.long q1)])
      refine own_at (fun t k => XS.lloadN X0.here hx rfl (hb hby d_prog_17_9_17) rfl k) ?_
      show own_Go p e below KK s₁ (mkF m 18 #[.val (.long q1), .second, .val (.long q2), .second] [(.long q2), (.long q1)])
      refine own_at (fun t k => Jvm.Free.XT.lcmp X0.here hx rfl (hb hby d_prog_17_9_18) rfl k) ?_
      show own_Go p e below KK s₁ (mkF m 19 #[.val (.long q1), .second, .val (.long q2), .second] [(.int (Jvm.Free.XT.cmpL q1 q2))])
      by_cases hc19 : q2 < q1
      · refine own_at (fun t k => XS.ifYes X0.here hx rfl (pc0 := 19) (pc' := 26) rfl (hb hby d_prog_17_9_19) rfl (Jvm.Free.XT.ll_gt_t hc19) (by decide) (by decide) k) ?_
        show own_Go p e below KK s₁ (mkF m 26 #[.val (.long q1), .second, .val (.long q2), .second] [])
        refine own_at (fun t k => XS.iconst X0.here hx rfl (hb hby d_prog_17_9_26) k) ?_
        show own_Go p e below KK s₁ (mkF m 27 #[.val (.long q1), .second, .val (.long q2), .second] [(.int 0)])
        subst hKK
        exact own_retN X0 hx hlk (t := .boolean) Bd.returns (by simp) (hb hby d_prog_17_9_27) (w := (own_F_prog_17_9 q1 q2)) ((show nar .boolean (0 : Int32) = (0 : Int32) from by decide).trans (show (0 : Int32) = (own_F_prog_17_9 q1 q2) from by unfold own_F_prog_17_9; rw [if_neg hc5, if_neg hc13, if_pos hc19])) ⟨rfl, N0, e0⟩ (Nat.le_of_ble_eq_true rfl) (Nat.le_of_ble_eq_true rfl)
      · refine own_at (fun t k => XS.ifNo X0.here hx rfl (hb hby d_prog_17_9_19) rfl (Jvm.Free.XT.ll_gt_f hc19) k) ?_
        show own_Go p e below KK s₁ (mkF m 22 #[.val (.long q1), .second, .val (.long q2), .second] [])
        refine own_at (fun t k => XS.iconst X0.here hx rfl (hb hby d_prog_17_9_22) k) ?_
        show own_Go p e below KK s₁ (mkF m 23 #[.val (.long q1), .second, .val (.long q2), .second] [(.int 1)])
        refine own_at (fun t k => XS.goto X0.here hx rfl (pc0 := 23) (pc' := 27) rfl (hb hby d_prog_17_9_23) (by decide) (by decide) k) ?_
        show own_Go p e below KK s₁ (mkF m 27 #[.val (.long q1), .second, .val (.long q2), .second] [(.int 1)])
        subst hKK
        exact own_retN X0 hx hlk (t := .boolean) Bd.returns (by simp) (hb hby d_prog_17_9_27) (w := (own_F_prog_17_9 q1 q2)) ((show nar .boolean (1 : Int32) = (1 : Int32) from by decide).trans (show (1 : Int32) = (own_F_prog_17_9 q1 q2) from by unfold own_F_prog_17_9; rw [if_neg hc5, if_neg hc13, if_neg hc19])) ⟨rfl, N0, e0⟩ (Nat.le_of_ble_eq_true rfl) (Nat.le_of_ble_eq_true rfl)
theorem pn_com_example_libpetri_libpetri_MarkingAtMostPinLaw : plainName "com/example/libpetri/libpetri/MarkingAtMostPinLaw" = true := by first | (simp [plainName, overriddenIn]; done) | decide +kernel
theorem ef_law (m : MethodId) (x0 : Int64) (x1 : Int64) (x2 : Int32) : entryFrame m #[(.long x0), (.long x1), (.int x2)] maxLocals = mkF m 0 #[.val (.long x0), .second, .val (.long x1), .second, .val (.int x2), .unset, .unset, .unset, .unset, .unset, .unset, .unset] [] := by first | (simp [entryFrame, mkF, argsToLocals, Value.category, maxLocals]; done) | rfl
theorem pd__JJ_Z : parseMethodDescriptor "(JJ)Z" = some ⟨[.long, .long], some .boolean⟩ := by decide +kernel
theorem own_bits (a m : BitVec 64) : (a &&& m) ^^^ ~~~m = ~~~m ||| (a &&& m) := by
  apply BitVec.eq_of_getLsbD_eq
  intro i hi
  simp only [BitVec.getLsbD_xor, BitVec.getLsbD_or, BitVec.getLsbD_and, BitVec.getLsbD_not, hi, decide_true, Bool.true_and]
  cases a.getLsbD i <;> cases m.getLsbD i <;> rfl
theorem own_flip (a : Int64) : (a &&& (9223372036854775807 : Int64)) ^^^ (-9223372036854775808 : Int64) = (-9223372036854775808 : Int64) ||| (a &&& (9223372036854775807 : Int64)) := by
  apply Int64.toBitVec_inj.mp
  have h := own_bits a.toBitVec ((9223372036854775807 : Int64)).toBitVec
  rw [show ~~~((9223372036854775807 : Int64)).toBitVec = ((-9223372036854775808 : Int64)).toBitVec from by decide] at h
  exact h
theorem own_lM : ((-9223372036854775808 : Int64)).toInt = -9223372036854775808 := by decide
theorem own_lX : ((9223372036854775807 : Int64)).toInt = 9223372036854775807 := by decide
theorem own_l1 : (-1 : Int64).toInt = -1 := by decide
/-- a count: -1 or not negative; its place among the unsigned numbers -/
def own_cnt (c : Int64) : Prop := (c = -1 ∧ (c ^^^ (-9223372036854775808 : Int64)).toInt = 9223372036854775807) ∨ (0 ≤ c.toInt ∧ (c ^^^ (-9223372036854775808 : Int64)).toInt = c.toInt - 9223372036854775808)
theorem own_cnt1 : own_cnt (-1 : Int64) := Or.inl ⟨rfl, by decide⟩
theorem own_cntA (a : Int64) : own_cnt (a &&& (9223372036854775807 : Int64)) := by
  have h1 := c_maskL a (9223372036854775807 : Int64) 63 (by decide) (by decide)
  have h2 : 0 ≤ (a &&& (9223372036854775807 : Int64)).toInt ∧ (a &&& (9223372036854775807 : Int64)).toInt < 9223372036854775808 := by rw [h1]; omega
  refine Or.inr ⟨h2.1, ?_⟩
  rw [own_flip]
  have h3 := c_orL (-9223372036854775808 : Int64) (a &&& (9223372036854775807 : Int64)) 63 (by decide) 9223372036854775808 (by decide) (by decide) h2.1 h2.2
  have h4 := rng64 ((-9223372036854775808 : Int64) ||| (a &&& (9223372036854775807 : Int64)))
  rw [own_lM] at h3
  omega
theorem own_le {c b : Int64} (hc : own_cnt c) (hb : own_cnt b) (h : ¬ ((b ^^^ (-9223372036854775808 : Int64)) < (c ^^^ (-9223372036854775808 : Int64)))) : own_F_prog_17_9 c b = (1 : Int32) := by
  unfold own_F_prog_17_9
  rw [Int64.lt_iff_toInt_lt] at h
  have r := rng64 c; have r' := rng64 b
  simp only [Int64.lt_iff_toInt_lt, ← Int64.toInt_inj, own_l1] at *
  rcases hc with ⟨e1, e2⟩ | ⟨e1, e2⟩ <;> rcases hb with ⟨f1, f2⟩ | ⟨f1, f2⟩ <;> (try simp only [← Int64.toInt_inj, own_l1] at e1) <;> (try simp only [← Int64.toInt_inj, own_l1] at f1) <;> repeat' split
  all_goals first | rfl | (exfalso; omega)
theorem own_gt {c b : Int64} (hc : own_cnt c) (hb : own_cnt b) (h : (b ^^^ (-9223372036854775808 : Int64)) < (c ^^^ (-9223372036854775808 : Int64))) : own_F_prog_17_9 c b = (0 : Int32) := by
  unfold own_F_prog_17_9
  rw [Int64.lt_iff_toInt_lt] at h
  have r := rng64 c; have r' := rng64 b
  simp only [Int64.lt_iff_toInt_lt, ← Int64.toInt_inj, own_l1] at *
  rcases hc with ⟨e1, e2⟩ | ⟨e1, e2⟩ <;> rcases hb with ⟨f1, f2⟩ | ⟨f1, f2⟩ <;> (try simp only [← Int64.toInt_inj, own_l1] at e1) <;> (try simp only [← Int64.toInt_inj, own_l1] at f1) <;> repeat' split
  all_goals first | rfl | (exfalso; omega)
def own_Q (n0 : Nat) (v : Option Value) (h : Heap) (L : List Loc) : Prop := v = some (.int 1) ∧ Fr n0 L
set_option maxRecDepth 65536 in
set_option maxHeartbeats 40000000 in
theorem rm_law (l : Launch) (Z : State) (a0 : Array Value) (hw : ∀ d ∈ tables_1, d.before a0 Z = true) (ws : List Jvm.Cond) (p1 : Int64) (p2 : Int64) (p3 : Int32)  (h0 : Heap) (n0 : Nat) (Z0 : n0 ≤ h0.size)  :
    MetFree l x (head1 (Jvm.Cond.code x code maxLocals ret :: ws) room_1) (fun a U => a = #[(.long p1), (.long p2), (.int p3)] ∧ Z.Warmed39 U.vm ∧ U.heap = h0) (fun _ _ _ _ _ => True) (fun _ U o U' => ∃ v L, o = .returned v ∧ own_Q n0 v U'.heap L ∧ FrameEnd U o U' L room_1.cells room_1.slots) := by
  refine MetFree.of_bodySF (plainFor_of_name pn_com_example_libpetri_libpetri_MarkingAtMostPinLaw) hisR ?_
  intro p e s m args below meth c s₁ Bd hml0 hP hK
  obtain ⟨rfl, hZ, hh⟩ := hP
  have hx := Bd.exec
  have hby := Bd.bytes
  have hlk : meth.locks = false := BodyLoose.notSynchronized Bd
  have hml : c.maxLocals = 12 := hml0
  have hown : s.vm.findClass "com/example/libpetri/libpetri/MarkingAtMostPinLaw" = some m.cls := findClass_of_methodNamed Bd.named
  have hnm := (name_of_methodNamed Bd.named Bd.method).1
  have X0 : Stand p l e room_1 s m #[(.long p1), (.long p2), (.int p3)] below meth c s₁ [] 0 0 := Stand.of_body Bd
  have e0 : s₁.heap = h0 := by rw [← hh, Bd.state]; rfl
  have N0 := Fr.nil n0
  refine own_cast (K := own_K s (own_Q n0) room_1.cells room_1.slots) (ef_law m p1 p2 p3) ?_
  generalize hKK : own_K s (own_Q n0) room_1.cells room_1.slots = KK
  show own_Go p e below KK s₁ (mkF m 0 #[.val (.long p1), .second, .val (.long p2), .second, .val (.int p3), .unset, .unset, .unset, .unset, .unset, .unset, .unset] [])
  refine own_at (fun t k => XS.iload X0.here hx rfl (hb hby at_0) rfl k) ?_
  show own_Go p e below KK s₁ (mkF m 2 #[.val (.long p1), .second, .val (.long p2), .second, .val (.int p3), .unset, .unset, .unset, .unset, .unset, .unset, .unset] [(.int p3)])
  refine own_at (fun t k => XS.iconst X0.here hx rfl (hb hby at_2) k) ?_
  show own_Go p e below KK s₁ (mkF m 3 #[.val (.long p1), .second, .val (.long p2), .second, .val (.int p3), .unset, .unset, .unset, .unset, .unset, .unset, .unset] [(.int 1), (.int p3)])
  refine own_at (fun t k => XS.iand X0.here hx rfl (hb hby at_3) rfl k) ?_
  show own_Go p e below KK s₁ (mkF m 4 #[.val (.long p1), .second, .val (.long p2), .second, .val (.int p3), .unset, .unset, .unset, .unset, .unset, .unset, .unset] [(.int (p3 &&& (1 : Int32)))])
  by_cases hc4 : (p3 &&& (1 : Int32)) = (0 : Int32)
  · refine own_at (fun t k => XS.ifYes X0.here hx rfl (pc0 := 4) (pc' := 13) rfl (hb hby at_4) rfl (Jvm.Free.XT.i0_eq_t hc4) (by decide) (by decide) k) ?_
    show own_Go p e below KK s₁ (mkF m 13 #[.val (.long p1), .second, .val (.long p2), .second, .val (.int p3), .unset, .unset, .unset, .unset, .unset, .unset, .unset] [])
    refine own_at (fun t k => XS.lloadN X0.here hx rfl (hb hby at_13) rfl k) ?_
    show own_Go p e below KK s₁ (mkF m 14 #[.val (.long p1), .second, .val (.long p2), .second, .val (.int p3), .unset, .unset, .unset, .unset, .unset, .unset, .unset] [(.long p1)])
    refine own_at (fun t k => X0.ldc2Long hx hown (mvT hZ (hw _ (List.mem_of_getElem? (i := 0) rfl))) (g := (mkF m 14 #[.val (.long p1), .second, .val (.long p2), .second, .val (.int p3), .unset, .unset, .unset, .unset, .unset, .unset, .unset] [(.long p1)])) rfl (hb hby at_14) t k) ?_
    show own_Go p e below KK s₁ (mkF m 17 #[.val (.long p1), .second, .val (.long p2), .second, .val (.int p3), .unset, .unset, .unset, .unset, .unset, .unset, .unset] [(.long 9223372036854775807), (.long p1)])
    refine own_at (fun t k => XS.land X0.here hx rfl (hb hby at_17) rfl k) ?_
    show own_Go p e below KK s₁ (mkF m 18 #[.val (.long p1), .second, .val (.long p2), .second, .val (.int p3), .unset, .unset, .unset, .unset, .unset, .unset, .unset] [(.long (p1 &&& (9223372036854775807 : Int64)))])
    refine own_at (fun t k => XS.lstore X0.here hx rfl (hb hby at_18) rfl (l' := #[.val (.long p1), .second, .val (.long p2), .second, .val (.int p3), .val (.long (p1 &&& (9223372036854775807 : Int64))), .second, .unset, .unset, .unset, .unset, .unset]) rfl k) ?_
    show own_Go p e below KK s₁ (mkF m 20 #[.val (.long p1), .second, .val (.long p2), .second, .val (.int p3), .val (.long (p1 &&& (9223372036854775807 : Int64))), .second, .unset, .unset, .unset, .unset, .unset] [])
    refine own_at (fun t k => XS.iload X0.here hx rfl (hb hby at_20) rfl k) ?_
    show own_Go p e below KK s₁ (mkF m 22 #[.val (.long p1), .second, .val (.long p2), .second, .val (.int p3), .val (.long (p1 &&& (9223372036854775807 : Int64))), .second, .unset, .unset, .unset, .unset, .unset] [(.int p3)])
    refine own_at (fun t k => XS.iconst X0.here hx rfl (hb hby at_22) k) ?_
    show own_Go p e below KK s₁ (mkF m 23 #[.val (.long p1), .second, .val (.long p2), .second, .val (.int p3), .val (.long (p1 &&& (9223372036854775807 : Int64))), .second, .unset, .unset, .unset, .unset, .unset] [(.int 4), (.int p3)])
    refine own_at (fun t k => XS.iand X0.here hx rfl (hb hby at_23) rfl k) ?_
    show own_Go p e below KK s₁ (mkF m 24 #[.val (.long p1), .second, .val (.long p2), .second, .val (.int p3), .val (.long (p1 &&& (9223372036854775807 : Int64))), .second, .unset, .unset, .unset, .unset, .unset] [(.int (p3 &&& (4 : Int32)))])
    by_cases hc24 : (p3 &&& (4 : Int32)) = (0 : Int32)
    · refine own_at (fun t k => XS.ifYes X0.here hx rfl (pc0 := 24) (pc' := 35) rfl (hb hby at_24) rfl (Jvm.Free.XT.i0_eq_t hc24) (by decide) (by decide) k) ?_
      show own_Go p e below KK s₁ (mkF m 35 #[.val (.long p1), .second, .val (.long p2), .second, .val (.int p3), .val (.long (p1 &&& (9223372036854775807 : Int64))), .second, .unset, .unset, .unset, .unset, .unset] [])
      refine own_at (fun t k => XS.lloadN X0.here hx rfl (hb hby at_35) rfl k) ?_
      show own_Go p e below KK s₁ (mkF m 36 #[.val (.long p1), .second, .val (.long p2), .second, .val (.int p3), .val (.long (p1 &&& (9223372036854775807 : Int64))), .second, .unset, .unset, .unset, .unset, .unset] [(.long p2)])
      refine own_at (fun t k => X0.ldc2Long hx hown (mvT hZ (hw _ (List.mem_of_getElem? (i := 0) rfl))) (g := (mkF m 36 #[.val (.long p1), .second, .val (.long p2), .second, .val (.int p3), .val (.long (p1 &&& (9223372036854775807 : Int64))), .second, .unset, .unset, .unset, .unset, .unset] [(.long p2)])) rfl (hb hby at_36) t k) ?_
      show own_Go p e below KK s₁ (mkF m 39 #[.val (.long p1), .second, .val (.long p2), .second, .val (.int p3), .val (.long (p1 &&& (9223372036854775807 : Int64))), .second, .unset, .unset, .unset, .unset, .unset] [(.long 9223372036854775807), (.long p2)])
      refine own_at (fun t k => XS.land X0.here hx rfl (hb hby at_39) rfl k) ?_
      show own_Go p e below KK s₁ (mkF m 40 #[.val (.long p1), .second, .val (.long p2), .second, .val (.int p3), .val (.long (p1 &&& (9223372036854775807 : Int64))), .second, .unset, .unset, .unset, .unset, .unset] [(.long (p2 &&& (9223372036854775807 : Int64)))])
      refine own_at (fun t k => XS.lstore X0.here hx rfl (hb hby at_40) rfl (l' := #[.val (.long p1), .second, .val (.long p2), .second, .val (.int p3), .val (.long (p1 &&& (9223372036854775807 : Int64))), .second, .val (.long (p2 &&& (9223372036854775807 : Int64))), .second, .unset, .unset, .unset]) rfl k) ?_
      show own_Go p e below KK s₁ (mkF m 42 #[.val (.long p1), .second, .val (.long p2), .second, .val (.int p3), .val (.long (p1 &&& (9223372036854775807 : Int64))), .second, .val (.long (p2 &&& (9223372036854775807 : Int64))), .second, .unset, .unset, .unset] [])
      refine own_at (fun t k => XS.iload X0.here hx rfl (hb hby at_42) rfl k) ?_
      show own_Go p e below KK s₁ (mkF m 44 #[.val (.long p1), .second, .val (.long p2), .second, .val (.int p3), .val (.long (p1 &&& (9223372036854775807 : Int64))), .second, .val (.long (p2 &&& (9223372036854775807 : Int64))), .second, .unset, .unset, .unset] [(.int p3)])
      refine own_at (fun t k => XS.iconst X0.here hx rfl (hb hby at_44) k) ?_
      show own_Go p e below KK s₁ (mkF m 45 #[.val (.long p1), .second, .val (.long p2), .second, .val (.int p3), .val (.long (p1 &&& (9223372036854775807 : Int64))), .second, .val (.long (p2 &&& (9223372036854775807 : Int64))), .second, .unset, .unset, .unset] [(.int 2), (.int p3)])
      refine own_at (fun t k => XS.iand X0.here hx rfl (hb hby at_45) rfl k) ?_
      show own_Go p e below KK s₁ (mkF m 46 #[.val (.long p1), .second, .val (.long p2), .second, .val (.int p3), .val (.long (p1 &&& (9223372036854775807 : Int64))), .second, .val (.long (p2 &&& (9223372036854775807 : Int64))), .second, .unset, .unset, .unset] [(.int (p3 &&& (2 : Int32)))])
      by_cases hc46 : (p3 &&& (2 : Int32)) = (0 : Int32)
      · refine own_at (fun t k => XS.ifYes X0.here hx rfl (pc0 := 46) (pc' := 55) rfl (hb hby at_46) rfl (Jvm.Free.XT.i0_eq_t hc46) (by decide) (by decide) k) ?_
        show own_Go p e below KK s₁ (mkF m 55 #[.val (.long p1), .second, .val (.long p2), .second, .val (.int p3), .val (.long (p1 &&& (9223372036854775807 : Int64))), .second, .val (.long (p2 &&& (9223372036854775807 : Int64))), .second, .unset, .unset, .unset] [])
        refine own_at (fun t k => XS.lload X0.here hx rfl (hb hby at_55) rfl k) ?_
        show own_Go p e below KK s₁ (mkF m 57 #[.val (.long p1), .second, .val (.long p2), .second, .val (.int p3), .val (.long (p1 &&& (9223372036854775807 : Int64))), .second, .val (.long (p2 &&& (9223372036854775807 : Int64))), .second, .unset, .unset, .unset] [(.long (p2 &&& (9223372036854775807 : Int64)))])
        refine own_at (fun t k => XS.lstore X0.here hx rfl (hb hby at_57) rfl (l' := #[.val (.long p1), .second, .val (.long p2), .second, .val (.int p3), .val (.long (p1 &&& (9223372036854775807 : Int64))), .second, .val (.long (p2 &&& (9223372036854775807 : Int64))), .second, .val (.long (p2 &&& (9223372036854775807 : Int64))), .second, .unset]) rfl k) ?_
        show own_Go p e below KK s₁ (mkF m 59 #[.val (.long p1), .second, .val (.long p2), .second, .val (.int p3), .val (.long (p1 &&& (9223372036854775807 : Int64))), .second, .val (.long (p2 &&& (9223372036854775807 : Int64))), .second, .val (.long (p2 &&& (9223372036854775807 : Int64))), .second, .unset] [])
        refine own_at (fun t k => XS.lload X0.here hx rfl (hb hby at_59) rfl k) ?_
        show own_Go p e below KK s₁ (mkF m 61 #[.val (.long p1), .second, .val (.long p2), .second, .val (.int p3), .val (.long (p1 &&& (9223372036854775807 : Int64))), .second, .val (.long (p2 &&& (9223372036854775807 : Int64))), .second, .val (.long (p2 &&& (9223372036854775807 : Int64))), .second, .unset] [(.long (p1 &&& (9223372036854775807 : Int64)))])
        refine own_at (fun t k => X0.ldc2Long hx hown (mvT hZ (hw _ (List.mem_of_getElem? (i := 1) rfl))) (g := (mkF m 61 #[.val (.long p1), .second, .val (.long p2), .second, .val (.int p3), .val (.long (p1 &&& (9223372036854775807 : Int64))), .second, .val (.long (p2 &&& (9223372036854775807 : Int64))), .second, .val (.long (p2 &&& (9223372036854775807 : Int64))), .second, .unset] [(.long (p1 &&& (9223372036854775807 : Int64)))])) rfl (hb hby at_61) t k) ?_
        show own_Go p e below KK s₁ (mkF m 64 #[.val (.long p1), .second, .val (.long p2), .second, .val (.int p3), .val (.long (p1 &&& (9223372036854775807 : Int64))), .second, .val (.long (p2 &&& (9223372036854775807 : Int64))), .second, .val (.long (p2 &&& (9223372036854775807 : Int64))), .second, .unset] [(.long (-9223372036854775808 : Int64)), (.long (p1 &&& (9223372036854775807 : Int64)))])
        refine own_at (fun t k => XS.lxor X0.here hx rfl (hb hby at_64) rfl k) ?_
        show own_Go p e below KK s₁ (mkF m 65 #[.val (.long p1), .second, .val (.long p2), .second, .val (.int p3), .val (.long (p1 &&& (9223372036854775807 : Int64))), .second, .val (.long (p2 &&& (9223372036854775807 : Int64))), .second, .val (.long (p2 &&& (9223372036854775807 : Int64))), .second, .unset] [(.long ((p1 &&& (9223372036854775807 : Int64)) ^^^ (-9223372036854775808 : Int64)))])
        refine own_at (fun t k => XS.lload X0.here hx rfl (hb hby at_65) rfl k) ?_
        show own_Go p e below KK s₁ (mkF m 67 #[.val (.long p1), .second, .val (.long p2), .second, .val (.int p3), .val (.long (p1 &&& (9223372036854775807 : Int64))), .second, .val (.long (p2 &&& (9223372036854775807 : Int64))), .second, .val (.long (p2 &&& (9223372036854775807 : Int64))), .second, .unset] [(.long (p2 &&& (9223372036854775807 : Int64))), (.long ((p1 &&& (9223372036854775807 : Int64)) ^^^ (-9223372036854775808 : Int64)))])
        refine own_at (fun t k => X0.ldc2Long hx hown (mvT hZ (hw _ (List.mem_of_getElem? (i := 1) rfl))) (g := (mkF m 67 #[.val (.long p1), .second, .val (.long p2), .second, .val (.int p3), .val (.long (p1 &&& (9223372036854775807 : Int64))), .second, .val (.long (p2 &&& (9223372036854775807 : Int64))), .second, .val (.long (p2 &&& (9223372036854775807 : Int64))), .second, .unset] [(.long (p2 &&& (9223372036854775807 : Int64))), (.long ((p1 &&& (9223372036854775807 : Int64)) ^^^ (-9223372036854775808 : Int64)))])) rfl (hb hby at_67) t k) ?_
        show own_Go p e below KK s₁ (mkF m 70 #[.val (.long p1), .second, .val (.long p2), .second, .val (.int p3), .val (.long (p1 &&& (9223372036854775807 : Int64))), .second, .val (.long (p2 &&& (9223372036854775807 : Int64))), .second, .val (.long (p2 &&& (9223372036854775807 : Int64))), .second, .unset] [(.long (-9223372036854775808 : Int64)), (.long (p2 &&& (9223372036854775807 : Int64))), (.long ((p1 &&& (9223372036854775807 : Int64)) ^^^ (-9223372036854775808 : Int64)))])
        refine own_at (fun t k => XS.lxor X0.here hx rfl (hb hby at_70) rfl k) ?_
        show own_Go p e below KK s₁ (mkF m 71 #[.val (.long p1), .second, .val (.long p2), .second, .val (.int p3), .val (.long (p1 &&& (9223372036854775807 : Int64))), .second, .val (.long (p2 &&& (9223372036854775807 : Int64))), .second, .val (.long (p2 &&& (9223372036854775807 : Int64))), .second, .unset] [(.long ((p2 &&& (9223372036854775807 : Int64)) ^^^ (-9223372036854775808 : Int64))), (.long ((p1 &&& (9223372036854775807 : Int64)) ^^^ (-9223372036854775808 : Int64)))])
        refine own_at (fun t k => Jvm.Free.XT.lcmp X0.here hx rfl (hb hby at_71) rfl k) ?_
        show own_Go p e below KK s₁ (mkF m 72 #[.val (.long p1), .second, .val (.long p2), .second, .val (.int p3), .val (.long (p1 &&& (9223372036854775807 : Int64))), .second, .val (.long (p2 &&& (9223372036854775807 : Int64))), .second, .val (.long (p2 &&& (9223372036854775807 : Int64))), .second, .unset] [(.int (Jvm.Free.XT.cmpL ((p1 &&& (9223372036854775807 : Int64)) ^^^ (-9223372036854775808 : Int64)) ((p2 &&& (9223372036854775807 : Int64)) ^^^ (-9223372036854775808 : Int64))))])
        by_cases hc72 : ((p2 &&& (9223372036854775807 : Int64)) ^^^ (-9223372036854775808 : Int64)) < ((p1 &&& (9223372036854775807 : Int64)) ^^^ (-9223372036854775808 : Int64))
        · refine own_at (fun t k => XS.ifYes X0.here hx rfl (pc0 := 72) (pc' := 79) rfl (hb hby at_72) rfl (Jvm.Free.XT.ll_gt_t hc72) (by decide) (by decide) k) ?_
          show own_Go p e below KK s₁ (mkF m 79 #[.val (.long p1), .second, .val (.long p2), .second, .val (.int p3), .val (.long (p1 &&& (9223372036854775807 : Int64))), .second, .val (.long (p2 &&& (9223372036854775807 : Int64))), .second, .val (.long (p2 &&& (9223372036854775807 : Int64))), .second, .unset] [])
          refine own_at (fun t k => XS.iconst X0.here hx rfl (hb hby at_79) k) ?_
          show own_Go p e below KK s₁ (mkF m 80 #[.val (.long p1), .second, .val (.long p2), .second, .val (.int p3), .val (.long (p1 &&& (9223372036854775807 : Int64))), .second, .val (.long (p2 &&& (9223372036854775807 : Int64))), .second, .val (.long (p2 &&& (9223372036854775807 : Int64))), .second, .unset] [(.int 0)])
          refine own_at (fun t k => XS.istore X0.here hx rfl (hb hby at_80) rfl (l' := #[.val (.long p1), .second, .val (.long p2), .second, .val (.int p3), .val (.long (p1 &&& (9223372036854775807 : Int64))), .second, .val (.long (p2 &&& (9223372036854775807 : Int64))), .second, .val (.long (p2 &&& (9223372036854775807 : Int64))), .second, .val (.int 0)]) rfl k) ?_
          show own_Go p e below KK s₁ (mkF m 82 #[.val (.long p1), .second, .val (.long p2), .second, .val (.int p3), .val (.long (p1 &&& (9223372036854775807 : Int64))), .second, .val (.long (p2 &&& (9223372036854775807 : Int64))), .second, .val (.long (p2 &&& (9223372036854775807 : Int64))), .second, .val (.int 0)] [])
          refine own_at (fun t k => XS.lload X0.here hx rfl (hb hby at_82) rfl k) ?_
          show own_Go p e below KK s₁ (mkF m 84 #[.val (.long p1), .second, .val (.long p2), .second, .val (.int p3), .val (.long (p1 &&& (9223372036854775807 : Int64))), .second, .val (.long (p2 &&& (9223372036854775807 : Int64))), .second, .val (.long (p2 &&& (9223372036854775807 : Int64))), .second, .val (.int 0)] [(.long (p1 &&& (9223372036854775807 : Int64)))])
          refine own_at (fun t k => XS.lload X0.here hx rfl (hb hby at_84) rfl k) ?_
          show own_Go p e below KK s₁ (mkF m 86 #[.val (.long p1), .second, .val (.long p2), .second, .val (.int p3), .val (.long (p1 &&& (9223372036854775807 : Int64))), .second, .val (.long (p2 &&& (9223372036854775807 : Int64))), .second, .val (.long (p2 &&& (9223372036854775807 : Int64))), .second, .val (.int 0)] [(.long (p2 &&& (9223372036854775807 : Int64))), (.long (p1 &&& (9223372036854775807 : Int64)))])
          obtain ⟨_, _, ⟨T1, L1, k1, n1⟩, -, X1, ⟨Lc1, hQ1, l1, y1, z1⟩, st1⟩ := Jvm.LawKit.callS X0 hx (y := (⟨"com/example/libpetri/libpetri/Marking", "atMost", "(JJ)Z"⟩ : MethodName)) hown (mvT hZ (hw _ (List.mem_of_getElem? (i := 2) rfl))) (mvT hZ (hw _ (List.mem_of_getElem? (i := 3) rfl))) (mvT hZ (hw _ (List.mem_of_getElem? (i := 4) rfl))) (mvT hZ (hw _ (List.mem_of_getElem? (i := 5) rfl))) (by decide) (backOf (W := 0) (rm_prog_17_9 l Z a0 hw [] (p1 &&& (9223372036854775807 : Int64)) (p2 &&& (9223372036854775807 : Int64))  h0 n0 Z0 ) hZ (hw _ (List.mem_of_getElem? (i := 5) rfl)) (hw _ (List.mem_of_getElem? (i := 4) rfl)) (by decide) (by decide)) (g := (mkF m 86 #[.val (.long p1), .second, .val (.long p2), .second, .val (.int p3), .val (.long (p1 &&& (9223372036854775807 : Int64))), .second, .val (.long (p2 &&& (9223372036854775807 : Int64))), .second, .val (.long (p2 &&& (9223372036854775807 : Int64))), .second, .val (.int 0)] [(.long (p2 &&& (9223372036854775807 : Int64))), (.long (p1 &&& (9223372036854775807 : Int64)))])) rfl (by rw [hml]; rfl) (argsL := [(.long (p1 &&& (9223372036854775807 : Int64))), (.long (p2 &&& (9223372036854775807 : Int64)))]) (rest := []) (lenOf pd__JJ_Z rfl) rfl (by show 2 * 0 + _ ≤ _; exact Nat.le_of_eq rfl) (hb hby at_86) (fun _ _ => ⟨rfl, e0, (by decide : 0 + 0 ≤ _), (by decide : 0 + 0 ≤ _)⟩)
          dsimp only [Pt.U, Pt.locs, Pt.cells, Pt.slots] at X1 l1 y1 z1 st1 hQ1
          subst l1 y1 z1
          obtain ⟨rfl, N1q, e1⟩ := hQ1
          have N1 := Fr.app N0 N1q
          refine own_of (fun t k => st1 t k) ?_
          show own_Go p e below KK T1 (mkF m 89 #[.val (.long p1), .second, .val (.long p2), .second, .val (.int p3), .val (.long (p1 &&& (9223372036854775807 : Int64))), .second, .val (.long (p2 &&& (9223372036854775807 : Int64))), .second, .val (.long (p2 &&& (9223372036854775807 : Int64))), .second, .val (.int 0)] [(.int (own_F_prog_17_9 (p1 &&& (9223372036854775807 : Int64)) (p2 &&& (9223372036854775807 : Int64))))])
          refine own_at (fun t k => XS.iload X1.here hx rfl (hb hby at_89) rfl k) ?_
          show own_Go p e below KK T1 (mkF m 91 #[.val (.long p1), .second, .val (.long p2), .second, .val (.int p3), .val (.long (p1 &&& (9223372036854775807 : Int64))), .second, .val (.long (p2 &&& (9223372036854775807 : Int64))), .second, .val (.long (p2 &&& (9223372036854775807 : Int64))), .second, .val (.int 0)] [(.int 0), (.int (own_F_prog_17_9 (p1 &&& (9223372036854775807 : Int64)) (p2 &&& (9223372036854775807 : Int64))))])
          have hc91 : (own_F_prog_17_9 (p1 &&& (9223372036854775807 : Int64)) (p2 &&& (9223372036854775807 : Int64))) = (0 : Int32) := own_gt (own_cntA _) (own_cntA _) hc72
          refine own_at (fun t k => XS.icmpNo X1.here hx rfl (hb hby at_91) rfl (Jvm.Free.XT.ii_ne_f hc91) k) ?_
          show own_Go p e below KK T1 (mkF m 94 #[.val (.long p1), .second, .val (.long p2), .second, .val (.int p3), .val (.long (p1 &&& (9223372036854775807 : Int64))), .second, .val (.long (p2 &&& (9223372036854775807 : Int64))), .second, .val (.long (p2 &&& (9223372036854775807 : Int64))), .second, .val (.int 0)] [])
          refine own_at (fun t k => XS.iconst X1.here hx rfl (hb hby at_94) k) ?_
          show own_Go p e below KK T1 (mkF m 95 #[.val (.long p1), .second, .val (.long p2), .second, .val (.int p3), .val (.long (p1 &&& (9223372036854775807 : Int64))), .second, .val (.long (p2 &&& (9223372036854775807 : Int64))), .second, .val (.long (p2 &&& (9223372036854775807 : Int64))), .second, .val (.int 0)] [(.int 1)])
          refine own_at (fun t k => XS.goto X1.here hx rfl (pc0 := 95) (pc' := 99) rfl (hb hby at_95) (by decide) (by decide) k) ?_
          show own_Go p e below KK T1 (mkF m 99 #[.val (.long p1), .second, .val (.long p2), .second, .val (.int p3), .val (.long (p1 &&& (9223372036854775807 : Int64))), .second, .val (.long (p2 &&& (9223372036854775807 : Int64))), .second, .val (.long (p2 &&& (9223372036854775807 : Int64))), .second, .val (.int 0)] [(.int 1)])
          subst hKK
          exact own_retN X1 hx hlk (t := .boolean) Bd.returns (by simp) (hb hby at_99) (w := (1 : Int32)) (show nar .boolean (1 : Int32) = 1 from by decide) ⟨rfl, N1⟩ (Nat.le_of_ble_eq_true rfl) (Nat.le_of_ble_eq_true rfl)
        · refine own_at (fun t k => XS.ifNo X0.here hx rfl (hb hby at_72) rfl (Jvm.Free.XT.ll_gt_f hc72) k) ?_
          show own_Go p e below KK s₁ (mkF m 75 #[.val (.long p1), .second, .val (.long p2), .second, .val (.int p3), .val (.long (p1 &&& (9223372036854775807 : Int64))), .second, .val (.long (p2 &&& (9223372036854775807 : Int64))), .second, .val (.long (p2 &&& (9223372036854775807 : Int64))), .second, .unset] [])
          refine own_at (fun t k => XS.iconst X0.here hx rfl (hb hby at_75) k) ?_
          show own_Go p e below KK s₁ (mkF m 76 #[.val (.long p1), .second, .val (.long p2), .second, .val (.int p3), .val (.long (p1 &&& (9223372036854775807 : Int64))), .second, .val (.long (p2 &&& (9223372036854775807 : Int64))), .second, .val (.long (p2 &&& (9223372036854775807 : Int64))), .second, .unset] [(.int 1)])
          refine own_at (fun t k => XS.goto X0.here hx rfl (pc0 := 76) (pc' := 80) rfl (hb hby at_76) (by decide) (by decide) k) ?_
          show own_Go p e below KK s₁ (mkF m 80 #[.val (.long p1), .second, .val (.long p2), .second, .val (.int p3), .val (.long (p1 &&& (9223372036854775807 : Int64))), .second, .val (.long (p2 &&& (9223372036854775807 : Int64))), .second, .val (.long (p2 &&& (9223372036854775807 : Int64))), .second, .unset] [(.int 1)])
          refine own_at (fun t k => XS.istore X0.here hx rfl (hb hby at_80) rfl (l' := #[.val (.long p1), .second, .val (.long p2), .second, .val (.int p3), .val (.long (p1 &&& (9223372036854775807 : Int64))), .second, .val (.long (p2 &&& (9223372036854775807 : Int64))), .second, .val (.long (p2 &&& (9223372036854775807 : Int64))), .second, .val (.int 1)]) rfl k) ?_
          show own_Go p e below KK s₁ (mkF m 82 #[.val (.long p1), .second, .val (.long p2), .second, .val (.int p3), .val (.long (p1 &&& (9223372036854775807 : Int64))), .second, .val (.long (p2 &&& (9223372036854775807 : Int64))), .second, .val (.long (p2 &&& (9223372036854775807 : Int64))), .second, .val (.int 1)] [])
          refine own_at (fun t k => XS.lload X0.here hx rfl (hb hby at_82) rfl k) ?_
          show own_Go p e below KK s₁ (mkF m 84 #[.val (.long p1), .second, .val (.long p2), .second, .val (.int p3), .val (.long (p1 &&& (9223372036854775807 : Int64))), .second, .val (.long (p2 &&& (9223372036854775807 : Int64))), .second, .val (.long (p2 &&& (9223372036854775807 : Int64))), .second, .val (.int 1)] [(.long (p1 &&& (9223372036854775807 : Int64)))])
          refine own_at (fun t k => XS.lload X0.here hx rfl (hb hby at_84) rfl k) ?_
          show own_Go p e below KK s₁ (mkF m 86 #[.val (.long p1), .second, .val (.long p2), .second, .val (.int p3), .val (.long (p1 &&& (9223372036854775807 : Int64))), .second, .val (.long (p2 &&& (9223372036854775807 : Int64))), .second, .val (.long (p2 &&& (9223372036854775807 : Int64))), .second, .val (.int 1)] [(.long (p2 &&& (9223372036854775807 : Int64))), (.long (p1 &&& (9223372036854775807 : Int64)))])
          obtain ⟨_, _, ⟨T2, L2, k2, n2⟩, -, X2, ⟨Lc2, hQ2, l2, y2, z2⟩, st2⟩ := Jvm.LawKit.callS X0 hx (y := (⟨"com/example/libpetri/libpetri/Marking", "atMost", "(JJ)Z"⟩ : MethodName)) hown (mvT hZ (hw _ (List.mem_of_getElem? (i := 2) rfl))) (mvT hZ (hw _ (List.mem_of_getElem? (i := 3) rfl))) (mvT hZ (hw _ (List.mem_of_getElem? (i := 4) rfl))) (mvT hZ (hw _ (List.mem_of_getElem? (i := 5) rfl))) (by decide) (backOf (W := 0) (rm_prog_17_9 l Z a0 hw [] (p1 &&& (9223372036854775807 : Int64)) (p2 &&& (9223372036854775807 : Int64))  h0 n0 Z0 ) hZ (hw _ (List.mem_of_getElem? (i := 5) rfl)) (hw _ (List.mem_of_getElem? (i := 4) rfl)) (by decide) (by decide)) (g := (mkF m 86 #[.val (.long p1), .second, .val (.long p2), .second, .val (.int p3), .val (.long (p1 &&& (9223372036854775807 : Int64))), .second, .val (.long (p2 &&& (9223372036854775807 : Int64))), .second, .val (.long (p2 &&& (9223372036854775807 : Int64))), .second, .val (.int 1)] [(.long (p2 &&& (9223372036854775807 : Int64))), (.long (p1 &&& (9223372036854775807 : Int64)))])) rfl (by rw [hml]; rfl) (argsL := [(.long (p1 &&& (9223372036854775807 : Int64))), (.long (p2 &&& (9223372036854775807 : Int64)))]) (rest := []) (lenOf pd__JJ_Z rfl) rfl (by show 2 * 0 + _ ≤ _; exact Nat.le_of_eq rfl) (hb hby at_86) (fun _ _ => ⟨rfl, e0, (by decide : 0 + 0 ≤ _), (by decide : 0 + 0 ≤ _)⟩)
          dsimp only [Pt.U, Pt.locs, Pt.cells, Pt.slots] at X2 l2 y2 z2 st2 hQ2
          subst l2 y2 z2
          obtain ⟨rfl, N2q, e2⟩ := hQ2
          have N2 := Fr.app N0 N2q
          refine own_of (fun t k => st2 t k) ?_
          show own_Go p e below KK T2 (mkF m 89 #[.val (.long p1), .second, .val (.long p2), .second, .val (.int p3), .val (.long (p1 &&& (9223372036854775807 : Int64))), .second, .val (.long (p2 &&& (9223372036854775807 : Int64))), .second, .val (.long (p2 &&& (9223372036854775807 : Int64))), .second, .val (.int 1)] [(.int (own_F_prog_17_9 (p1 &&& (9223372036854775807 : Int64)) (p2 &&& (9223372036854775807 : Int64))))])
          refine own_at (fun t k => XS.iload X2.here hx rfl (hb hby at_89) rfl k) ?_
          show own_Go p e below KK T2 (mkF m 91 #[.val (.long p1), .second, .val (.long p2), .second, .val (.int p3), .val (.long (p1 &&& (9223372036854775807 : Int64))), .second, .val (.long (p2 &&& (9223372036854775807 : Int64))), .second, .val (.long (p2 &&& (9223372036854775807 : Int64))), .second, .val (.int 1)] [(.int 1), (.int (own_F_prog_17_9 (p1 &&& (9223372036854775807 : Int64)) (p2 &&& (9223372036854775807 : Int64))))])
          have hc91 : (own_F_prog_17_9 (p1 &&& (9223372036854775807 : Int64)) (p2 &&& (9223372036854775807 : Int64))) = (1 : Int32) := own_le (own_cntA _) (own_cntA _) hc72
          refine own_at (fun t k => XS.icmpNo X2.here hx rfl (hb hby at_91) rfl (Jvm.Free.XT.ii_ne_f hc91) k) ?_
          show own_Go p e below KK T2 (mkF m 94 #[.val (.long p1), .second, .val (.long p2), .second, .val (.int p3), .val (.long (p1 &&& (9223372036854775807 : Int64))), .second, .val (.long (p2 &&& (9223372036854775807 : Int64))), .second, .val (.long (p2 &&& (9223372036854775807 : Int64))), .second, .val (.int 1)] [])
          refine own_at (fun t k => XS.iconst X2.here hx rfl (hb hby at_94) k) ?_
          show own_Go p e below KK T2 (mkF m 95 #[.val (.long p1), .second, .val (.long p2), .second, .val (.int p3), .val (.long (p1 &&& (9223372036854775807 : Int64))), .second, .val (.long (p2 &&& (9223372036854775807 : Int64))), .second, .val (.long (p2 &&& (9223372036854775807 : Int64))), .second, .val (.int 1)] [(.int 1)])
          refine own_at (fun t k => XS.goto X2.here hx rfl (pc0 := 95) (pc' := 99) rfl (hb hby at_95) (by decide) (by decide) k) ?_
          show own_Go p e below KK T2 (mkF m 99 #[.val (.long p1), .second, .val (.long p2), .second, .val (.int p3), .val (.long (p1 &&& (9223372036854775807 : Int64))), .second, .val (.long (p2 &&& (9223372036854775807 : Int64))), .second, .val (.long (p2 &&& (9223372036854775807 : Int64))), .second, .val (.int 1)] [(.int 1)])
          subst hKK
          exact own_retN X2 hx hlk (t := .boolean) Bd.returns (by simp) (hb hby at_99) (w := (1 : Int32)) (show nar .boolean (1 : Int32) = 1 from by decide) ⟨rfl, N2⟩ (Nat.le_of_ble_eq_true rfl) (Nat.le_of_ble_eq_true rfl)
      · refine own_at (fun t k => XS.ifNo X0.here hx rfl (hb hby at_46) rfl (Jvm.Free.XT.i0_eq_f hc46) k) ?_
        show own_Go p e below KK s₁ (mkF m 49 #[.val (.long p1), .second, .val (.long p2), .second, .val (.int p3), .val (.long (p1 &&& (9223372036854775807 : Int64))), .second, .val (.long (p2 &&& (9223372036854775807 : Int64))), .second, .unset, .unset, .unset] [])
        refine own_at (fun t k => X0.ldc2Long hx hown (mvT hZ (hw _ (List.mem_of_getElem? (i := 7) rfl))) (g := (mkF m 49 #[.val (.long p1), .second, .val (.long p2), .second, .val (.int p3), .val (.long (p1 &&& (9223372036854775807 : Int64))), .second, .val (.long (p2 &&& (9223372036854775807 : Int64))), .second, .unset, .unset, .unset] [])) rfl (hb hby at_49) t k) ?_
        show own_Go p e below KK s₁ (mkF m 52 #[.val (.long p1), .second, .val (.long p2), .second, .val (.int p3), .val (.long (p1 &&& (9223372036854775807 : Int64))), .second, .val (.long (p2 &&& (9223372036854775807 : Int64))), .second, .unset, .unset, .unset] [(.long (-1 : Int64))])
        refine own_at (fun t k => XS.goto X0.here hx rfl (pc0 := 52) (pc' := 57) rfl (hb hby at_52) (by decide) (by decide) k) ?_
        show own_Go p e below KK s₁ (mkF m 57 #[.val (.long p1), .second, .val (.long p2), .second, .val (.int p3), .val (.long (p1 &&& (9223372036854775807 : Int64))), .second, .val (.long (p2 &&& (9223372036854775807 : Int64))), .second, .unset, .unset, .unset] [(.long (-1 : Int64))])
        refine own_at (fun t k => XS.lstore X0.here hx rfl (hb hby at_57) rfl (l' := #[.val (.long p1), .second, .val (.long p2), .second, .val (.int p3), .val (.long (p1 &&& (9223372036854775807 : Int64))), .second, .val (.long (p2 &&& (9223372036854775807 : Int64))), .second, .val (.long (-1 : Int64)), .second, .unset]) rfl k) ?_
        show own_Go p e below KK s₁ (mkF m 59 #[.val (.long p1), .second, .val (.long p2), .second, .val (.int p3), .val (.long (p1 &&& (9223372036854775807 : Int64))), .second, .val (.long (p2 &&& (9223372036854775807 : Int64))), .second, .val (.long (-1 : Int64)), .second, .unset] [])
        refine own_at (fun t k => XS.lload X0.here hx rfl (hb hby at_59) rfl k) ?_
        show own_Go p e below KK s₁ (mkF m 61 #[.val (.long p1), .second, .val (.long p2), .second, .val (.int p3), .val (.long (p1 &&& (9223372036854775807 : Int64))), .second, .val (.long (p2 &&& (9223372036854775807 : Int64))), .second, .val (.long (-1 : Int64)), .second, .unset] [(.long (p1 &&& (9223372036854775807 : Int64)))])
        refine own_at (fun t k => X0.ldc2Long hx hown (mvT hZ (hw _ (List.mem_of_getElem? (i := 1) rfl))) (g := (mkF m 61 #[.val (.long p1), .second, .val (.long p2), .second, .val (.int p3), .val (.long (p1 &&& (9223372036854775807 : Int64))), .second, .val (.long (p2 &&& (9223372036854775807 : Int64))), .second, .val (.long (-1 : Int64)), .second, .unset] [(.long (p1 &&& (9223372036854775807 : Int64)))])) rfl (hb hby at_61) t k) ?_
        show own_Go p e below KK s₁ (mkF m 64 #[.val (.long p1), .second, .val (.long p2), .second, .val (.int p3), .val (.long (p1 &&& (9223372036854775807 : Int64))), .second, .val (.long (p2 &&& (9223372036854775807 : Int64))), .second, .val (.long (-1 : Int64)), .second, .unset] [(.long (-9223372036854775808 : Int64)), (.long (p1 &&& (9223372036854775807 : Int64)))])
        refine own_at (fun t k => XS.lxor X0.here hx rfl (hb hby at_64) rfl k) ?_
        show own_Go p e below KK s₁ (mkF m 65 #[.val (.long p1), .second, .val (.long p2), .second, .val (.int p3), .val (.long (p1 &&& (9223372036854775807 : Int64))), .second, .val (.long (p2 &&& (9223372036854775807 : Int64))), .second, .val (.long (-1 : Int64)), .second, .unset] [(.long ((p1 &&& (9223372036854775807 : Int64)) ^^^ (-9223372036854775808 : Int64)))])
        refine own_at (fun t k => XS.lload X0.here hx rfl (hb hby at_65) rfl k) ?_
        show own_Go p e below KK s₁ (mkF m 67 #[.val (.long p1), .second, .val (.long p2), .second, .val (.int p3), .val (.long (p1 &&& (9223372036854775807 : Int64))), .second, .val (.long (p2 &&& (9223372036854775807 : Int64))), .second, .val (.long (-1 : Int64)), .second, .unset] [(.long (-1 : Int64)), (.long ((p1 &&& (9223372036854775807 : Int64)) ^^^ (-9223372036854775808 : Int64)))])
        refine own_at (fun t k => X0.ldc2Long hx hown (mvT hZ (hw _ (List.mem_of_getElem? (i := 1) rfl))) (g := (mkF m 67 #[.val (.long p1), .second, .val (.long p2), .second, .val (.int p3), .val (.long (p1 &&& (9223372036854775807 : Int64))), .second, .val (.long (p2 &&& (9223372036854775807 : Int64))), .second, .val (.long (-1 : Int64)), .second, .unset] [(.long (-1 : Int64)), (.long ((p1 &&& (9223372036854775807 : Int64)) ^^^ (-9223372036854775808 : Int64)))])) rfl (hb hby at_67) t k) ?_
        show own_Go p e below KK s₁ (mkF m 70 #[.val (.long p1), .second, .val (.long p2), .second, .val (.int p3), .val (.long (p1 &&& (9223372036854775807 : Int64))), .second, .val (.long (p2 &&& (9223372036854775807 : Int64))), .second, .val (.long (-1 : Int64)), .second, .unset] [(.long (-9223372036854775808 : Int64)), (.long (-1 : Int64)), (.long ((p1 &&& (9223372036854775807 : Int64)) ^^^ (-9223372036854775808 : Int64)))])
        refine own_at (fun t k => XS.lxor X0.here hx rfl (hb hby at_70) rfl k) ?_
        show own_Go p e below KK s₁ (mkF m 71 #[.val (.long p1), .second, .val (.long p2), .second, .val (.int p3), .val (.long (p1 &&& (9223372036854775807 : Int64))), .second, .val (.long (p2 &&& (9223372036854775807 : Int64))), .second, .val (.long (-1 : Int64)), .second, .unset] [(.long ((-1 : Int64) ^^^ (-9223372036854775808 : Int64))), (.long ((p1 &&& (9223372036854775807 : Int64)) ^^^ (-9223372036854775808 : Int64)))])
        refine own_at (fun t k => Jvm.Free.XT.lcmp X0.here hx rfl (hb hby at_71) rfl k) ?_
        show own_Go p e below KK s₁ (mkF m 72 #[.val (.long p1), .second, .val (.long p2), .second, .val (.int p3), .val (.long (p1 &&& (9223372036854775807 : Int64))), .second, .val (.long (p2 &&& (9223372036854775807 : Int64))), .second, .val (.long (-1 : Int64)), .second, .unset] [(.int (Jvm.Free.XT.cmpL ((p1 &&& (9223372036854775807 : Int64)) ^^^ (-9223372036854775808 : Int64)) ((-1 : Int64) ^^^ (-9223372036854775808 : Int64))))])
        by_cases hc72 : ((-1 : Int64) ^^^ (-9223372036854775808 : Int64)) < ((p1 &&& (9223372036854775807 : Int64)) ^^^ (-9223372036854775808 : Int64))
        · refine own_at (fun t k => XS.ifYes X0.here hx rfl (pc0 := 72) (pc' := 79) rfl (hb hby at_72) rfl (Jvm.Free.XT.ll_gt_t hc72) (by decide) (by decide) k) ?_
          show own_Go p e below KK s₁ (mkF m 79 #[.val (.long p1), .second, .val (.long p2), .second, .val (.int p3), .val (.long (p1 &&& (9223372036854775807 : Int64))), .second, .val (.long (p2 &&& (9223372036854775807 : Int64))), .second, .val (.long (-1 : Int64)), .second, .unset] [])
          refine own_at (fun t k => XS.iconst X0.here hx rfl (hb hby at_79) k) ?_
          show own_Go p e below KK s₁ (mkF m 80 #[.val (.long p1), .second, .val (.long p2), .second, .val (.int p3), .val (.long (p1 &&& (9223372036854775807 : Int64))), .second, .val (.long (p2 &&& (9223372036854775807 : Int64))), .second, .val (.long (-1 : Int64)), .second, .unset] [(.int 0)])
          refine own_at (fun t k => XS.istore X0.here hx rfl (hb hby at_80) rfl (l' := #[.val (.long p1), .second, .val (.long p2), .second, .val (.int p3), .val (.long (p1 &&& (9223372036854775807 : Int64))), .second, .val (.long (p2 &&& (9223372036854775807 : Int64))), .second, .val (.long (-1 : Int64)), .second, .val (.int 0)]) rfl k) ?_
          show own_Go p e below KK s₁ (mkF m 82 #[.val (.long p1), .second, .val (.long p2), .second, .val (.int p3), .val (.long (p1 &&& (9223372036854775807 : Int64))), .second, .val (.long (p2 &&& (9223372036854775807 : Int64))), .second, .val (.long (-1 : Int64)), .second, .val (.int 0)] [])
          refine own_at (fun t k => XS.lload X0.here hx rfl (hb hby at_82) rfl k) ?_
          show own_Go p e below KK s₁ (mkF m 84 #[.val (.long p1), .second, .val (.long p2), .second, .val (.int p3), .val (.long (p1 &&& (9223372036854775807 : Int64))), .second, .val (.long (p2 &&& (9223372036854775807 : Int64))), .second, .val (.long (-1 : Int64)), .second, .val (.int 0)] [(.long (p1 &&& (9223372036854775807 : Int64)))])
          refine own_at (fun t k => XS.lload X0.here hx rfl (hb hby at_84) rfl k) ?_
          show own_Go p e below KK s₁ (mkF m 86 #[.val (.long p1), .second, .val (.long p2), .second, .val (.int p3), .val (.long (p1 &&& (9223372036854775807 : Int64))), .second, .val (.long (p2 &&& (9223372036854775807 : Int64))), .second, .val (.long (-1 : Int64)), .second, .val (.int 0)] [(.long (-1 : Int64)), (.long (p1 &&& (9223372036854775807 : Int64)))])
          obtain ⟨_, _, ⟨T3, L3, k3, n3⟩, -, X3, ⟨Lc3, hQ3, l3, y3, z3⟩, st3⟩ := Jvm.LawKit.callS X0 hx (y := (⟨"com/example/libpetri/libpetri/Marking", "atMost", "(JJ)Z"⟩ : MethodName)) hown (mvT hZ (hw _ (List.mem_of_getElem? (i := 2) rfl))) (mvT hZ (hw _ (List.mem_of_getElem? (i := 3) rfl))) (mvT hZ (hw _ (List.mem_of_getElem? (i := 4) rfl))) (mvT hZ (hw _ (List.mem_of_getElem? (i := 5) rfl))) (by decide) (backOf (W := 0) (rm_prog_17_9 l Z a0 hw [] (p1 &&& (9223372036854775807 : Int64)) (-1 : Int64)  h0 n0 Z0 ) hZ (hw _ (List.mem_of_getElem? (i := 5) rfl)) (hw _ (List.mem_of_getElem? (i := 4) rfl)) (by decide) (by decide)) (g := (mkF m 86 #[.val (.long p1), .second, .val (.long p2), .second, .val (.int p3), .val (.long (p1 &&& (9223372036854775807 : Int64))), .second, .val (.long (p2 &&& (9223372036854775807 : Int64))), .second, .val (.long (-1 : Int64)), .second, .val (.int 0)] [(.long (-1 : Int64)), (.long (p1 &&& (9223372036854775807 : Int64)))])) rfl (by rw [hml]; rfl) (argsL := [(.long (p1 &&& (9223372036854775807 : Int64))), (.long (-1 : Int64))]) (rest := []) (lenOf pd__JJ_Z rfl) rfl (by show 2 * 0 + _ ≤ _; exact Nat.le_of_eq rfl) (hb hby at_86) (fun _ _ => ⟨rfl, e0, (by decide : 0 + 0 ≤ _), (by decide : 0 + 0 ≤ _)⟩)
          dsimp only [Pt.U, Pt.locs, Pt.cells, Pt.slots] at X3 l3 y3 z3 st3 hQ3
          subst l3 y3 z3
          obtain ⟨rfl, N3q, e3⟩ := hQ3
          have N3 := Fr.app N0 N3q
          refine own_of (fun t k => st3 t k) ?_
          show own_Go p e below KK T3 (mkF m 89 #[.val (.long p1), .second, .val (.long p2), .second, .val (.int p3), .val (.long (p1 &&& (9223372036854775807 : Int64))), .second, .val (.long (p2 &&& (9223372036854775807 : Int64))), .second, .val (.long (-1 : Int64)), .second, .val (.int 0)] [(.int (own_F_prog_17_9 (p1 &&& (9223372036854775807 : Int64)) (-1 : Int64)))])
          refine own_at (fun t k => XS.iload X3.here hx rfl (hb hby at_89) rfl k) ?_
          show own_Go p e below KK T3 (mkF m 91 #[.val (.long p1), .second, .val (.long p2), .second, .val (.int p3), .val (.long (p1 &&& (9223372036854775807 : Int64))), .second, .val (.long (p2 &&& (9223372036854775807 : Int64))), .second, .val (.long (-1 : Int64)), .second, .val (.int 0)] [(.int 0), (.int (own_F_prog_17_9 (p1 &&& (9223372036854775807 : Int64)) (-1 : Int64)))])
          have hc91 : (own_F_prog_17_9 (p1 &&& (9223372036854775807 : Int64)) (-1 : Int64)) = (0 : Int32) := own_gt (own_cntA _) own_cnt1 hc72
          refine own_at (fun t k => XS.icmpNo X3.here hx rfl (hb hby at_91) rfl (Jvm.Free.XT.ii_ne_f hc91) k) ?_
          show own_Go p e below KK T3 (mkF m 94 #[.val (.long p1), .second, .val (.long p2), .second, .val (.int p3), .val (.long (p1 &&& (9223372036854775807 : Int64))), .second, .val (.long (p2 &&& (9223372036854775807 : Int64))), .second, .val (.long (-1 : Int64)), .second, .val (.int 0)] [])
          refine own_at (fun t k => XS.iconst X3.here hx rfl (hb hby at_94) k) ?_
          show own_Go p e below KK T3 (mkF m 95 #[.val (.long p1), .second, .val (.long p2), .second, .val (.int p3), .val (.long (p1 &&& (9223372036854775807 : Int64))), .second, .val (.long (p2 &&& (9223372036854775807 : Int64))), .second, .val (.long (-1 : Int64)), .second, .val (.int 0)] [(.int 1)])
          refine own_at (fun t k => XS.goto X3.here hx rfl (pc0 := 95) (pc' := 99) rfl (hb hby at_95) (by decide) (by decide) k) ?_
          show own_Go p e below KK T3 (mkF m 99 #[.val (.long p1), .second, .val (.long p2), .second, .val (.int p3), .val (.long (p1 &&& (9223372036854775807 : Int64))), .second, .val (.long (p2 &&& (9223372036854775807 : Int64))), .second, .val (.long (-1 : Int64)), .second, .val (.int 0)] [(.int 1)])
          subst hKK
          exact own_retN X3 hx hlk (t := .boolean) Bd.returns (by simp) (hb hby at_99) (w := (1 : Int32)) (show nar .boolean (1 : Int32) = 1 from by decide) ⟨rfl, N3⟩ (Nat.le_of_ble_eq_true rfl) (Nat.le_of_ble_eq_true rfl)
        · refine own_at (fun t k => XS.ifNo X0.here hx rfl (hb hby at_72) rfl (Jvm.Free.XT.ll_gt_f hc72) k) ?_
          show own_Go p e below KK s₁ (mkF m 75 #[.val (.long p1), .second, .val (.long p2), .second, .val (.int p3), .val (.long (p1 &&& (9223372036854775807 : Int64))), .second, .val (.long (p2 &&& (9223372036854775807 : Int64))), .second, .val (.long (-1 : Int64)), .second, .unset] [])
          refine own_at (fun t k => XS.iconst X0.here hx rfl (hb hby at_75) k) ?_
          show own_Go p e below KK s₁ (mkF m 76 #[.val (.long p1), .second, .val (.long p2), .second, .val (.int p3), .val (.long (p1 &&& (9223372036854775807 : Int64))), .second, .val (.long (p2 &&& (9223372036854775807 : Int64))), .second, .val (.long (-1 : Int64)), .second, .unset] [(.int 1)])
          refine own_at (fun t k => XS.goto X0.here hx rfl (pc0 := 76) (pc' := 80) rfl (hb hby at_76) (by decide) (by decide) k) ?_
          show own_Go p e below KK s₁ (mkF m 80 #[.val (.long p1), .second, .val (.long p2), .second, .val (.int p3), .val (.long (p1 &&& (9223372036854775807 : Int64))), .second, .val (.long (p2 &&& (9223372036854775807 : Int64))), .second, .val (.long (-1 : Int64)), .second, .unset] [(.int 1)])
          refine own_at (fun t k => XS.istore X0.here hx rfl (hb hby at_80) rfl (l' := #[.val (.long p1), .second, .val (.long p2), .second, .val (.int p3), .val (.long (p1 &&& (9223372036854775807 : Int64))), .second, .val (.long (p2 &&& (9223372036854775807 : Int64))), .second, .val (.long (-1 : Int64)), .second, .val (.int 1)]) rfl k) ?_
          show own_Go p e below KK s₁ (mkF m 82 #[.val (.long p1), .second, .val (.long p2), .second, .val (.int p3), .val (.long (p1 &&& (9223372036854775807 : Int64))), .second, .val (.long (p2 &&& (9223372036854775807 : Int64))), .second, .val (.long (-1 : Int64)), .second, .val (.int 1)] [])
          refine own_at (fun t k => XS.lload X0.here hx rfl (hb hby at_82) rfl k) ?_
          show own_Go p e below KK s₁ (mkF m 84 #[.val (.long p1), .second, .val (.long p2), .second, .val (.int p3), .val (.long (p1 &&& (9223372036854775807 : Int64))), .second, .val (.long (p2 &&& (9223372036854775807 : Int64))), .second, .val (.long (-1 : Int64)), .second, .val (.int 1)] [(.long (p1 &&& (9223372036854775807 : Int64)))])
          refine own_at (fun t k => XS.lload X0.here hx rfl (hb hby at_84) rfl k) ?_
          show own_Go p e below KK s₁ (mkF m 86 #[.val (.long p1), .second, .val (.long p2), .second, .val (.int p3), .val (.long (p1 &&& (9223372036854775807 : Int64))), .second, .val (.long (p2 &&& (9223372036854775807 : Int64))), .second, .val (.long (-1 : Int64)), .second, .val (.int 1)] [(.long (-1 : Int64)), (.long (p1 &&& (9223372036854775807 : Int64)))])
          obtain ⟨_, _, ⟨T4, L4, k4, n4⟩, -, X4, ⟨Lc4, hQ4, l4, y4, z4⟩, st4⟩ := Jvm.LawKit.callS X0 hx (y := (⟨"com/example/libpetri/libpetri/Marking", "atMost", "(JJ)Z"⟩ : MethodName)) hown (mvT hZ (hw _ (List.mem_of_getElem? (i := 2) rfl))) (mvT hZ (hw _ (List.mem_of_getElem? (i := 3) rfl))) (mvT hZ (hw _ (List.mem_of_getElem? (i := 4) rfl))) (mvT hZ (hw _ (List.mem_of_getElem? (i := 5) rfl))) (by decide) (backOf (W := 0) (rm_prog_17_9 l Z a0 hw [] (p1 &&& (9223372036854775807 : Int64)) (-1 : Int64)  h0 n0 Z0 ) hZ (hw _ (List.mem_of_getElem? (i := 5) rfl)) (hw _ (List.mem_of_getElem? (i := 4) rfl)) (by decide) (by decide)) (g := (mkF m 86 #[.val (.long p1), .second, .val (.long p2), .second, .val (.int p3), .val (.long (p1 &&& (9223372036854775807 : Int64))), .second, .val (.long (p2 &&& (9223372036854775807 : Int64))), .second, .val (.long (-1 : Int64)), .second, .val (.int 1)] [(.long (-1 : Int64)), (.long (p1 &&& (9223372036854775807 : Int64)))])) rfl (by rw [hml]; rfl) (argsL := [(.long (p1 &&& (9223372036854775807 : Int64))), (.long (-1 : Int64))]) (rest := []) (lenOf pd__JJ_Z rfl) rfl (by show 2 * 0 + _ ≤ _; exact Nat.le_of_eq rfl) (hb hby at_86) (fun _ _ => ⟨rfl, e0, (by decide : 0 + 0 ≤ _), (by decide : 0 + 0 ≤ _)⟩)
          dsimp only [Pt.U, Pt.locs, Pt.cells, Pt.slots] at X4 l4 y4 z4 st4 hQ4
          subst l4 y4 z4
          obtain ⟨rfl, N4q, e4⟩ := hQ4
          have N4 := Fr.app N0 N4q
          refine own_of (fun t k => st4 t k) ?_
          show own_Go p e below KK T4 (mkF m 89 #[.val (.long p1), .second, .val (.long p2), .second, .val (.int p3), .val (.long (p1 &&& (9223372036854775807 : Int64))), .second, .val (.long (p2 &&& (9223372036854775807 : Int64))), .second, .val (.long (-1 : Int64)), .second, .val (.int 1)] [(.int (own_F_prog_17_9 (p1 &&& (9223372036854775807 : Int64)) (-1 : Int64)))])
          refine own_at (fun t k => XS.iload X4.here hx rfl (hb hby at_89) rfl k) ?_
          show own_Go p e below KK T4 (mkF m 91 #[.val (.long p1), .second, .val (.long p2), .second, .val (.int p3), .val (.long (p1 &&& (9223372036854775807 : Int64))), .second, .val (.long (p2 &&& (9223372036854775807 : Int64))), .second, .val (.long (-1 : Int64)), .second, .val (.int 1)] [(.int 1), (.int (own_F_prog_17_9 (p1 &&& (9223372036854775807 : Int64)) (-1 : Int64)))])
          have hc91 : (own_F_prog_17_9 (p1 &&& (9223372036854775807 : Int64)) (-1 : Int64)) = (1 : Int32) := own_le (own_cntA _) own_cnt1 hc72
          refine own_at (fun t k => XS.icmpNo X4.here hx rfl (hb hby at_91) rfl (Jvm.Free.XT.ii_ne_f hc91) k) ?_
          show own_Go p e below KK T4 (mkF m 94 #[.val (.long p1), .second, .val (.long p2), .second, .val (.int p3), .val (.long (p1 &&& (9223372036854775807 : Int64))), .second, .val (.long (p2 &&& (9223372036854775807 : Int64))), .second, .val (.long (-1 : Int64)), .second, .val (.int 1)] [])
          refine own_at (fun t k => XS.iconst X4.here hx rfl (hb hby at_94) k) ?_
          show own_Go p e below KK T4 (mkF m 95 #[.val (.long p1), .second, .val (.long p2), .second, .val (.int p3), .val (.long (p1 &&& (9223372036854775807 : Int64))), .second, .val (.long (p2 &&& (9223372036854775807 : Int64))), .second, .val (.long (-1 : Int64)), .second, .val (.int 1)] [(.int 1)])
          refine own_at (fun t k => XS.goto X4.here hx rfl (pc0 := 95) (pc' := 99) rfl (hb hby at_95) (by decide) (by decide) k) ?_
          show own_Go p e below KK T4 (mkF m 99 #[.val (.long p1), .second, .val (.long p2), .second, .val (.int p3), .val (.long (p1 &&& (9223372036854775807 : Int64))), .second, .val (.long (p2 &&& (9223372036854775807 : Int64))), .second, .val (.long (-1 : Int64)), .second, .val (.int 1)] [(.int 1)])
          subst hKK
          exact own_retN X4 hx hlk (t := .boolean) Bd.returns (by simp) (hb hby at_99) (w := (1 : Int32)) (show nar .boolean (1 : Int32) = 1 from by decide) ⟨rfl, N4⟩ (Nat.le_of_ble_eq_true rfl) (Nat.le_of_ble_eq_true rfl)
    · refine own_at (fun t k => XS.ifNo X0.here hx rfl (hb hby at_24) rfl (Jvm.Free.XT.i0_eq_f hc24) k) ?_
      show own_Go p e below KK s₁ (mkF m 27 #[.val (.long p1), .second, .val (.long p2), .second, .val (.int p3), .val (.long (p1 &&& (9223372036854775807 : Int64))), .second, .unset, .unset, .unset, .unset, .unset] [])
      refine own_at (fun t k => XS.lloadN X0.here hx rfl (hb hby at_27) rfl k) ?_
      show own_Go p e below KK s₁ (mkF m 28 #[.val (.long p1), .second, .val (.long p2), .second, .val (.int p3), .val (.long (p1 &&& (9223372036854775807 : Int64))), .second, .unset, .unset, .unset, .unset, .unset] [(.long p1)])
      refine own_at (fun t k => X0.ldc2Long hx hown (mvT hZ (hw _ (List.mem_of_getElem? (i := 0) rfl))) (g := (mkF m 28 #[.val (.long p1), .second, .val (.long p2), .second, .val (.int p3), .val (.long (p1 &&& (9223372036854775807 : Int64))), .second, .unset, .unset, .unset, .unset, .unset] [(.long p1)])) rfl (hb hby at_28) t k) ?_
      show own_Go p e below KK s₁ (mkF m 31 #[.val (.long p1), .second, .val (.long p2), .second, .val (.int p3), .val (.long (p1 &&& (9223372036854775807 : Int64))), .second, .unset, .unset, .unset, .unset, .unset] [(.long 9223372036854775807), (.long p1)])
      refine own_at (fun t k => XS.land X0.here hx rfl (hb hby at_31) rfl k) ?_
      show own_Go p e below KK s₁ (mkF m 32 #[.val (.long p1), .second, .val (.long p2), .second, .val (.int p3), .val (.long (p1 &&& (9223372036854775807 : Int64))), .second, .unset, .unset, .unset, .unset, .unset] [(.long (p1 &&& (9223372036854775807 : Int64)))])
      refine own_at (fun t k => XS.goto X0.here hx rfl (pc0 := 32) (pc' := 40) rfl (hb hby at_32) (by decide) (by decide) k) ?_
      show own_Go p e below KK s₁ (mkF m 40 #[.val (.long p1), .second, .val (.long p2), .second, .val (.int p3), .val (.long (p1 &&& (9223372036854775807 : Int64))), .second, .unset, .unset, .unset, .unset, .unset] [(.long (p1 &&& (9223372036854775807 : Int64)))])
      refine own_at (fun t k => XS.lstore X0.here hx rfl (hb hby at_40) rfl (l' := #[.val (.long p1), .second, .val (.long p2), .second, .val (.int p3), .val (.long (p1 &&& (9223372036854775807 : Int64))), .second, .val (.long (p1 &&& (9223372036854775807 : Int64))), .second, .unset, .unset, .unset]) rfl k) ?_
      show own_Go p e below KK s₁ (mkF m 42 #[.val (.long p1), .second, .val (.long p2), .second, .val (.int p3), .val (.long (p1 &&& (9223372036854775807 : Int64))), .second, .val (.long (p1 &&& (9223372036854775807 : Int64))), .second, .unset, .unset, .unset] [])
      refine own_at (fun t k => XS.iload X0.here hx rfl (hb hby at_42) rfl k) ?_
      show own_Go p e below KK s₁ (mkF m 44 #[.val (.long p1), .second, .val (.long p2), .second, .val (.int p3), .val (.long (p1 &&& (9223372036854775807 : Int64))), .second, .val (.long (p1 &&& (9223372036854775807 : Int64))), .second, .unset, .unset, .unset] [(.int p3)])
      refine own_at (fun t k => XS.iconst X0.here hx rfl (hb hby at_44) k) ?_
      show own_Go p e below KK s₁ (mkF m 45 #[.val (.long p1), .second, .val (.long p2), .second, .val (.int p3), .val (.long (p1 &&& (9223372036854775807 : Int64))), .second, .val (.long (p1 &&& (9223372036854775807 : Int64))), .second, .unset, .unset, .unset] [(.int 2), (.int p3)])
      refine own_at (fun t k => XS.iand X0.here hx rfl (hb hby at_45) rfl k) ?_
      show own_Go p e below KK s₁ (mkF m 46 #[.val (.long p1), .second, .val (.long p2), .second, .val (.int p3), .val (.long (p1 &&& (9223372036854775807 : Int64))), .second, .val (.long (p1 &&& (9223372036854775807 : Int64))), .second, .unset, .unset, .unset] [(.int (p3 &&& (2 : Int32)))])
      by_cases hc46 : (p3 &&& (2 : Int32)) = (0 : Int32)
      · refine own_at (fun t k => XS.ifYes X0.here hx rfl (pc0 := 46) (pc' := 55) rfl (hb hby at_46) rfl (Jvm.Free.XT.i0_eq_t hc46) (by decide) (by decide) k) ?_
        show own_Go p e below KK s₁ (mkF m 55 #[.val (.long p1), .second, .val (.long p2), .second, .val (.int p3), .val (.long (p1 &&& (9223372036854775807 : Int64))), .second, .val (.long (p1 &&& (9223372036854775807 : Int64))), .second, .unset, .unset, .unset] [])
        refine own_at (fun t k => XS.lload X0.here hx rfl (hb hby at_55) rfl k) ?_
        show own_Go p e below KK s₁ (mkF m 57 #[.val (.long p1), .second, .val (.long p2), .second, .val (.int p3), .val (.long (p1 &&& (9223372036854775807 : Int64))), .second, .val (.long (p1 &&& (9223372036854775807 : Int64))), .second, .unset, .unset, .unset] [(.long (p1 &&& (9223372036854775807 : Int64)))])
        refine own_at (fun t k => XS.lstore X0.here hx rfl (hb hby at_57) rfl (l' := #[.val (.long p1), .second, .val (.long p2), .second, .val (.int p3), .val (.long (p1 &&& (9223372036854775807 : Int64))), .second, .val (.long (p1 &&& (9223372036854775807 : Int64))), .second, .val (.long (p1 &&& (9223372036854775807 : Int64))), .second, .unset]) rfl k) ?_
        show own_Go p e below KK s₁ (mkF m 59 #[.val (.long p1), .second, .val (.long p2), .second, .val (.int p3), .val (.long (p1 &&& (9223372036854775807 : Int64))), .second, .val (.long (p1 &&& (9223372036854775807 : Int64))), .second, .val (.long (p1 &&& (9223372036854775807 : Int64))), .second, .unset] [])
        refine own_at (fun t k => XS.lload X0.here hx rfl (hb hby at_59) rfl k) ?_
        show own_Go p e below KK s₁ (mkF m 61 #[.val (.long p1), .second, .val (.long p2), .second, .val (.int p3), .val (.long (p1 &&& (9223372036854775807 : Int64))), .second, .val (.long (p1 &&& (9223372036854775807 : Int64))), .second, .val (.long (p1 &&& (9223372036854775807 : Int64))), .second, .unset] [(.long (p1 &&& (9223372036854775807 : Int64)))])
        refine own_at (fun t k => X0.ldc2Long hx hown (mvT hZ (hw _ (List.mem_of_getElem? (i := 1) rfl))) (g := (mkF m 61 #[.val (.long p1), .second, .val (.long p2), .second, .val (.int p3), .val (.long (p1 &&& (9223372036854775807 : Int64))), .second, .val (.long (p1 &&& (9223372036854775807 : Int64))), .second, .val (.long (p1 &&& (9223372036854775807 : Int64))), .second, .unset] [(.long (p1 &&& (9223372036854775807 : Int64)))])) rfl (hb hby at_61) t k) ?_
        show own_Go p e below KK s₁ (mkF m 64 #[.val (.long p1), .second, .val (.long p2), .second, .val (.int p3), .val (.long (p1 &&& (9223372036854775807 : Int64))), .second, .val (.long (p1 &&& (9223372036854775807 : Int64))), .second, .val (.long (p1 &&& (9223372036854775807 : Int64))), .second, .unset] [(.long (-9223372036854775808 : Int64)), (.long (p1 &&& (9223372036854775807 : Int64)))])
        refine own_at (fun t k => XS.lxor X0.here hx rfl (hb hby at_64) rfl k) ?_
        show own_Go p e below KK s₁ (mkF m 65 #[.val (.long p1), .second, .val (.long p2), .second, .val (.int p3), .val (.long (p1 &&& (9223372036854775807 : Int64))), .second, .val (.long (p1 &&& (9223372036854775807 : Int64))), .second, .val (.long (p1 &&& (9223372036854775807 : Int64))), .second, .unset] [(.long ((p1 &&& (9223372036854775807 : Int64)) ^^^ (-9223372036854775808 : Int64)))])
        refine own_at (fun t k => XS.lload X0.here hx rfl (hb hby at_65) rfl k) ?_
        show own_Go p e below KK s₁ (mkF m 67 #[.val (.long p1), .second, .val (.long p2), .second, .val (.int p3), .val (.long (p1 &&& (9223372036854775807 : Int64))), .second, .val (.long (p1 &&& (9223372036854775807 : Int64))), .second, .val (.long (p1 &&& (9223372036854775807 : Int64))), .second, .unset] [(.long (p1 &&& (9223372036854775807 : Int64))), (.long ((p1 &&& (9223372036854775807 : Int64)) ^^^ (-9223372036854775808 : Int64)))])
        refine own_at (fun t k => X0.ldc2Long hx hown (mvT hZ (hw _ (List.mem_of_getElem? (i := 1) rfl))) (g := (mkF m 67 #[.val (.long p1), .second, .val (.long p2), .second, .val (.int p3), .val (.long (p1 &&& (9223372036854775807 : Int64))), .second, .val (.long (p1 &&& (9223372036854775807 : Int64))), .second, .val (.long (p1 &&& (9223372036854775807 : Int64))), .second, .unset] [(.long (p1 &&& (9223372036854775807 : Int64))), (.long ((p1 &&& (9223372036854775807 : Int64)) ^^^ (-9223372036854775808 : Int64)))])) rfl (hb hby at_67) t k) ?_
        show own_Go p e below KK s₁ (mkF m 70 #[.val (.long p1), .second, .val (.long p2), .second, .val (.int p3), .val (.long (p1 &&& (9223372036854775807 : Int64))), .second, .val (.long (p1 &&& (9223372036854775807 : Int64))), .second, .val (.long (p1 &&& (9223372036854775807 : Int64))), .second, .unset] [(.long (-9223372036854775808 : Int64)), (.long (p1 &&& (9223372036854775807 : Int64))), (.long ((p1 &&& (9223372036854775807 : Int64)) ^^^ (-9223372036854775808 : Int64)))])
        refine own_at (fun t k => XS.lxor X0.here hx rfl (hb hby at_70) rfl k) ?_
        show own_Go p e below KK s₁ (mkF m 71 #[.val (.long p1), .second, .val (.long p2), .second, .val (.int p3), .val (.long (p1 &&& (9223372036854775807 : Int64))), .second, .val (.long (p1 &&& (9223372036854775807 : Int64))), .second, .val (.long (p1 &&& (9223372036854775807 : Int64))), .second, .unset] [(.long ((p1 &&& (9223372036854775807 : Int64)) ^^^ (-9223372036854775808 : Int64))), (.long ((p1 &&& (9223372036854775807 : Int64)) ^^^ (-9223372036854775808 : Int64)))])
        refine own_at (fun t k => Jvm.Free.XT.lcmp X0.here hx rfl (hb hby at_71) rfl k) ?_
        show own_Go p e below KK s₁ (mkF m 72 #[.val (.long p1), .second, .val (.long p2), .second, .val (.int p3), .val (.long (p1 &&& (9223372036854775807 : Int64))), .second, .val (.long (p1 &&& (9223372036854775807 : Int64))), .second, .val (.long (p1 &&& (9223372036854775807 : Int64))), .second, .unset] [(.int (Jvm.Free.XT.cmpL ((p1 &&& (9223372036854775807 : Int64)) ^^^ (-9223372036854775808 : Int64)) ((p1 &&& (9223372036854775807 : Int64)) ^^^ (-9223372036854775808 : Int64))))])
        have hc72 : ¬ (((p1 &&& (9223372036854775807 : Int64)) ^^^ (-9223372036854775808 : Int64)) < ((p1 &&& (9223372036854775807 : Int64)) ^^^ (-9223372036854775808 : Int64))) := Int64.lt_irrefl
        refine own_at (fun t k => XS.ifNo X0.here hx rfl (hb hby at_72) rfl (Jvm.Free.XT.ll_gt_f hc72) k) ?_
        show own_Go p e below KK s₁ (mkF m 75 #[.val (.long p1), .second, .val (.long p2), .second, .val (.int p3), .val (.long (p1 &&& (9223372036854775807 : Int64))), .second, .val (.long (p1 &&& (9223372036854775807 : Int64))), .second, .val (.long (p1 &&& (9223372036854775807 : Int64))), .second, .unset] [])
        refine own_at (fun t k => XS.iconst X0.here hx rfl (hb hby at_75) k) ?_
        show own_Go p e below KK s₁ (mkF m 76 #[.val (.long p1), .second, .val (.long p2), .second, .val (.int p3), .val (.long (p1 &&& (9223372036854775807 : Int64))), .second, .val (.long (p1 &&& (9223372036854775807 : Int64))), .second, .val (.long (p1 &&& (9223372036854775807 : Int64))), .second, .unset] [(.int 1)])
        refine own_at (fun t k => XS.goto X0.here hx rfl (pc0 := 76) (pc' := 80) rfl (hb hby at_76) (by decide) (by decide) k) ?_
        show own_Go p e below KK s₁ (mkF m 80 #[.val (.long p1), .second, .val (.long p2), .second, .val (.int p3), .val (.long (p1 &&& (9223372036854775807 : Int64))), .second, .val (.long (p1 &&& (9223372036854775807 : Int64))), .second, .val (.long (p1 &&& (9223372036854775807 : Int64))), .second, .unset] [(.int 1)])
        refine own_at (fun t k => XS.istore X0.here hx rfl (hb hby at_80) rfl (l' := #[.val (.long p1), .second, .val (.long p2), .second, .val (.int p3), .val (.long (p1 &&& (9223372036854775807 : Int64))), .second, .val (.long (p1 &&& (9223372036854775807 : Int64))), .second, .val (.long (p1 &&& (9223372036854775807 : Int64))), .second, .val (.int 1)]) rfl k) ?_
        show own_Go p e below KK s₁ (mkF m 82 #[.val (.long p1), .second, .val (.long p2), .second, .val (.int p3), .val (.long (p1 &&& (9223372036854775807 : Int64))), .second, .val (.long (p1 &&& (9223372036854775807 : Int64))), .second, .val (.long (p1 &&& (9223372036854775807 : Int64))), .second, .val (.int 1)] [])
        refine own_at (fun t k => XS.lload X0.here hx rfl (hb hby at_82) rfl k) ?_
        show own_Go p e below KK s₁ (mkF m 84 #[.val (.long p1), .second, .val (.long p2), .second, .val (.int p3), .val (.long (p1 &&& (9223372036854775807 : Int64))), .second, .val (.long (p1 &&& (9223372036854775807 : Int64))), .second, .val (.long (p1 &&& (9223372036854775807 : Int64))), .second, .val (.int 1)] [(.long (p1 &&& (9223372036854775807 : Int64)))])
        refine own_at (fun t k => XS.lload X0.here hx rfl (hb hby at_84) rfl k) ?_
        show own_Go p e below KK s₁ (mkF m 86 #[.val (.long p1), .second, .val (.long p2), .second, .val (.int p3), .val (.long (p1 &&& (9223372036854775807 : Int64))), .second, .val (.long (p1 &&& (9223372036854775807 : Int64))), .second, .val (.long (p1 &&& (9223372036854775807 : Int64))), .second, .val (.int 1)] [(.long (p1 &&& (9223372036854775807 : Int64))), (.long (p1 &&& (9223372036854775807 : Int64)))])
        obtain ⟨_, _, ⟨T5, L5, k5, n5⟩, -, X5, ⟨Lc5, hQ5, l5, y5, z5⟩, st5⟩ := Jvm.LawKit.callS X0 hx (y := (⟨"com/example/libpetri/libpetri/Marking", "atMost", "(JJ)Z"⟩ : MethodName)) hown (mvT hZ (hw _ (List.mem_of_getElem? (i := 2) rfl))) (mvT hZ (hw _ (List.mem_of_getElem? (i := 3) rfl))) (mvT hZ (hw _ (List.mem_of_getElem? (i := 4) rfl))) (mvT hZ (hw _ (List.mem_of_getElem? (i := 5) rfl))) (by decide) (backOf (W := 0) (rm_prog_17_9 l Z a0 hw [] (p1 &&& (9223372036854775807 : Int64)) (p1 &&& (9223372036854775807 : Int64))  h0 n0 Z0 ) hZ (hw _ (List.mem_of_getElem? (i := 5) rfl)) (hw _ (List.mem_of_getElem? (i := 4) rfl)) (by decide) (by decide)) (g := (mkF m 86 #[.val (.long p1), .second, .val (.long p2), .second, .val (.int p3), .val (.long (p1 &&& (9223372036854775807 : Int64))), .second, .val (.long (p1 &&& (9223372036854775807 : Int64))), .second, .val (.long (p1 &&& (9223372036854775807 : Int64))), .second, .val (.int 1)] [(.long (p1 &&& (9223372036854775807 : Int64))), (.long (p1 &&& (9223372036854775807 : Int64)))])) rfl (by rw [hml]; rfl) (argsL := [(.long (p1 &&& (9223372036854775807 : Int64))), (.long (p1 &&& (9223372036854775807 : Int64)))]) (rest := []) (lenOf pd__JJ_Z rfl) rfl (by show 2 * 0 + _ ≤ _; exact Nat.le_of_eq rfl) (hb hby at_86) (fun _ _ => ⟨rfl, e0, (by decide : 0 + 0 ≤ _), (by decide : 0 + 0 ≤ _)⟩)
        dsimp only [Pt.U, Pt.locs, Pt.cells, Pt.slots] at X5 l5 y5 z5 st5 hQ5
        subst l5 y5 z5
        obtain ⟨rfl, N5q, e5⟩ := hQ5
        have N5 := Fr.app N0 N5q
        refine own_of (fun t k => st5 t k) ?_
        show own_Go p e below KK T5 (mkF m 89 #[.val (.long p1), .second, .val (.long p2), .second, .val (.int p3), .val (.long (p1 &&& (9223372036854775807 : Int64))), .second, .val (.long (p1 &&& (9223372036854775807 : Int64))), .second, .val (.long (p1 &&& (9223372036854775807 : Int64))), .second, .val (.int 1)] [(.int (own_F_prog_17_9 (p1 &&& (9223372036854775807 : Int64)) (p1 &&& (9223372036854775807 : Int64))))])
        refine own_at (fun t k => XS.iload X5.here hx rfl (hb hby at_89) rfl k) ?_
        show own_Go p e below KK T5 (mkF m 91 #[.val (.long p1), .second, .val (.long p2), .second, .val (.int p3), .val (.long (p1 &&& (9223372036854775807 : Int64))), .second, .val (.long (p1 &&& (9223372036854775807 : Int64))), .second, .val (.long (p1 &&& (9223372036854775807 : Int64))), .second, .val (.int 1)] [(.int 1), (.int (own_F_prog_17_9 (p1 &&& (9223372036854775807 : Int64)) (p1 &&& (9223372036854775807 : Int64))))])
        have hc91 : (own_F_prog_17_9 (p1 &&& (9223372036854775807 : Int64)) (p1 &&& (9223372036854775807 : Int64))) = (1 : Int32) := own_le (own_cntA _) (own_cntA _) hc72
        refine own_at (fun t k => XS.icmpNo X5.here hx rfl (hb hby at_91) rfl (Jvm.Free.XT.ii_ne_f hc91) k) ?_
        show own_Go p e below KK T5 (mkF m 94 #[.val (.long p1), .second, .val (.long p2), .second, .val (.int p3), .val (.long (p1 &&& (9223372036854775807 : Int64))), .second, .val (.long (p1 &&& (9223372036854775807 : Int64))), .second, .val (.long (p1 &&& (9223372036854775807 : Int64))), .second, .val (.int 1)] [])
        refine own_at (fun t k => XS.iconst X5.here hx rfl (hb hby at_94) k) ?_
        show own_Go p e below KK T5 (mkF m 95 #[.val (.long p1), .second, .val (.long p2), .second, .val (.int p3), .val (.long (p1 &&& (9223372036854775807 : Int64))), .second, .val (.long (p1 &&& (9223372036854775807 : Int64))), .second, .val (.long (p1 &&& (9223372036854775807 : Int64))), .second, .val (.int 1)] [(.int 1)])
        refine own_at (fun t k => XS.goto X5.here hx rfl (pc0 := 95) (pc' := 99) rfl (hb hby at_95) (by decide) (by decide) k) ?_
        show own_Go p e below KK T5 (mkF m 99 #[.val (.long p1), .second, .val (.long p2), .second, .val (.int p3), .val (.long (p1 &&& (9223372036854775807 : Int64))), .second, .val (.long (p1 &&& (9223372036854775807 : Int64))), .second, .val (.long (p1 &&& (9223372036854775807 : Int64))), .second, .val (.int 1)] [(.int 1)])
        subst hKK
        exact own_retN X5 hx hlk (t := .boolean) Bd.returns (by simp) (hb hby at_99) (w := (1 : Int32)) (show nar .boolean (1 : Int32) = 1 from by decide) ⟨rfl, N5⟩ (Nat.le_of_ble_eq_true rfl) (Nat.le_of_ble_eq_true rfl)
      · refine own_at (fun t k => XS.ifNo X0.here hx rfl (hb hby at_46) rfl (Jvm.Free.XT.i0_eq_f hc46) k) ?_
        show own_Go p e below KK s₁ (mkF m 49 #[.val (.long p1), .second, .val (.long p2), .second, .val (.int p3), .val (.long (p1 &&& (9223372036854775807 : Int64))), .second, .val (.long (p1 &&& (9223372036854775807 : Int64))), .second, .unset, .unset, .unset] [])
        refine own_at (fun t k => X0.ldc2Long hx hown (mvT hZ (hw _ (List.mem_of_getElem? (i := 7) rfl))) (g := (mkF m 49 #[.val (.long p1), .second, .val (.long p2), .second, .val (.int p3), .val (.long (p1 &&& (9223372036854775807 : Int64))), .second, .val (.long (p1 &&& (9223372036854775807 : Int64))), .second, .unset, .unset, .unset] [])) rfl (hb hby at_49) t k) ?_
        show own_Go p e below KK s₁ (mkF m 52 #[.val (.long p1), .second, .val (.long p2), .second, .val (.int p3), .val (.long (p1 &&& (9223372036854775807 : Int64))), .second, .val (.long (p1 &&& (9223372036854775807 : Int64))), .second, .unset, .unset, .unset] [(.long (-1 : Int64))])
        refine own_at (fun t k => XS.goto X0.here hx rfl (pc0 := 52) (pc' := 57) rfl (hb hby at_52) (by decide) (by decide) k) ?_
        show own_Go p e below KK s₁ (mkF m 57 #[.val (.long p1), .second, .val (.long p2), .second, .val (.int p3), .val (.long (p1 &&& (9223372036854775807 : Int64))), .second, .val (.long (p1 &&& (9223372036854775807 : Int64))), .second, .unset, .unset, .unset] [(.long (-1 : Int64))])
        refine own_at (fun t k => XS.lstore X0.here hx rfl (hb hby at_57) rfl (l' := #[.val (.long p1), .second, .val (.long p2), .second, .val (.int p3), .val (.long (p1 &&& (9223372036854775807 : Int64))), .second, .val (.long (p1 &&& (9223372036854775807 : Int64))), .second, .val (.long (-1 : Int64)), .second, .unset]) rfl k) ?_
        show own_Go p e below KK s₁ (mkF m 59 #[.val (.long p1), .second, .val (.long p2), .second, .val (.int p3), .val (.long (p1 &&& (9223372036854775807 : Int64))), .second, .val (.long (p1 &&& (9223372036854775807 : Int64))), .second, .val (.long (-1 : Int64)), .second, .unset] [])
        refine own_at (fun t k => XS.lload X0.here hx rfl (hb hby at_59) rfl k) ?_
        show own_Go p e below KK s₁ (mkF m 61 #[.val (.long p1), .second, .val (.long p2), .second, .val (.int p3), .val (.long (p1 &&& (9223372036854775807 : Int64))), .second, .val (.long (p1 &&& (9223372036854775807 : Int64))), .second, .val (.long (-1 : Int64)), .second, .unset] [(.long (p1 &&& (9223372036854775807 : Int64)))])
        refine own_at (fun t k => X0.ldc2Long hx hown (mvT hZ (hw _ (List.mem_of_getElem? (i := 1) rfl))) (g := (mkF m 61 #[.val (.long p1), .second, .val (.long p2), .second, .val (.int p3), .val (.long (p1 &&& (9223372036854775807 : Int64))), .second, .val (.long (p1 &&& (9223372036854775807 : Int64))), .second, .val (.long (-1 : Int64)), .second, .unset] [(.long (p1 &&& (9223372036854775807 : Int64)))])) rfl (hb hby at_61) t k) ?_
        show own_Go p e below KK s₁ (mkF m 64 #[.val (.long p1), .second, .val (.long p2), .second, .val (.int p3), .val (.long (p1 &&& (9223372036854775807 : Int64))), .second, .val (.long (p1 &&& (9223372036854775807 : Int64))), .second, .val (.long (-1 : Int64)), .second, .unset] [(.long (-9223372036854775808 : Int64)), (.long (p1 &&& (9223372036854775807 : Int64)))])
        refine own_at (fun t k => XS.lxor X0.here hx rfl (hb hby at_64) rfl k) ?_
        show own_Go p e below KK s₁ (mkF m 65 #[.val (.long p1), .second, .val (.long p2), .second, .val (.int p3), .val (.long (p1 &&& (9223372036854775807 : Int64))), .second, .val (.long (p1 &&& (9223372036854775807 : Int64))), .second, .val (.long (-1 : Int64)), .second, .unset] [(.long ((p1 &&& (9223372036854775807 : Int64)) ^^^ (-9223372036854775808 : Int64)))])
        refine own_at (fun t k => XS.lload X0.here hx rfl (hb hby at_65) rfl k) ?_
        show own_Go p e below KK s₁ (mkF m 67 #[.val (.long p1), .second, .val (.long p2), .second, .val (.int p3), .val (.long (p1 &&& (9223372036854775807 : Int64))), .second, .val (.long (p1 &&& (9223372036854775807 : Int64))), .second, .val (.long (-1 : Int64)), .second, .unset] [(.long (-1 : Int64)), (.long ((p1 &&& (9223372036854775807 : Int64)) ^^^ (-9223372036854775808 : Int64)))])
        refine own_at (fun t k => X0.ldc2Long hx hown (mvT hZ (hw _ (List.mem_of_getElem? (i := 1) rfl))) (g := (mkF m 67 #[.val (.long p1), .second, .val (.long p2), .second, .val (.int p3), .val (.long (p1 &&& (9223372036854775807 : Int64))), .second, .val (.long (p1 &&& (9223372036854775807 : Int64))), .second, .val (.long (-1 : Int64)), .second, .unset] [(.long (-1 : Int64)), (.long ((p1 &&& (9223372036854775807 : Int64)) ^^^ (-9223372036854775808 : Int64)))])) rfl (hb hby at_67) t k) ?_
        show own_Go p e below KK s₁ (mkF m 70 #[.val (.long p1), .second, .val (.long p2), .second, .val (.int p3), .val (.long (p1 &&& (9223372036854775807 : Int64))), .second, .val (.long (p1 &&& (9223372036854775807 : Int64))), .second, .val (.long (-1 : Int64)), .second, .unset] [(.long (-9223372036854775808 : Int64)), (.long (-1 : Int64)), (.long ((p1 &&& (9223372036854775807 : Int64)) ^^^ (-9223372036854775808 : Int64)))])
        refine own_at (fun t k => XS.lxor X0.here hx rfl (hb hby at_70) rfl k) ?_
        show own_Go p e below KK s₁ (mkF m 71 #[.val (.long p1), .second, .val (.long p2), .second, .val (.int p3), .val (.long (p1 &&& (9223372036854775807 : Int64))), .second, .val (.long (p1 &&& (9223372036854775807 : Int64))), .second, .val (.long (-1 : Int64)), .second, .unset] [(.long ((-1 : Int64) ^^^ (-9223372036854775808 : Int64))), (.long ((p1 &&& (9223372036854775807 : Int64)) ^^^ (-9223372036854775808 : Int64)))])
        refine own_at (fun t k => Jvm.Free.XT.lcmp X0.here hx rfl (hb hby at_71) rfl k) ?_
        show own_Go p e below KK s₁ (mkF m 72 #[.val (.long p1), .second, .val (.long p2), .second, .val (.int p3), .val (.long (p1 &&& (9223372036854775807 : Int64))), .second, .val (.long (p1 &&& (9223372036854775807 : Int64))), .second, .val (.long (-1 : Int64)), .second, .unset] [(.int (Jvm.Free.XT.cmpL ((p1 &&& (9223372036854775807 : Int64)) ^^^ (-9223372036854775808 : Int64)) ((-1 : Int64) ^^^ (-9223372036854775808 : Int64))))])
        by_cases hc72 : ((-1 : Int64) ^^^ (-9223372036854775808 : Int64)) < ((p1 &&& (9223372036854775807 : Int64)) ^^^ (-9223372036854775808 : Int64))
        · refine own_at (fun t k => XS.ifYes X0.here hx rfl (pc0 := 72) (pc' := 79) rfl (hb hby at_72) rfl (Jvm.Free.XT.ll_gt_t hc72) (by decide) (by decide) k) ?_
          show own_Go p e below KK s₁ (mkF m 79 #[.val (.long p1), .second, .val (.long p2), .second, .val (.int p3), .val (.long (p1 &&& (9223372036854775807 : Int64))), .second, .val (.long (p1 &&& (9223372036854775807 : Int64))), .second, .val (.long (-1 : Int64)), .second, .unset] [])
          refine own_at (fun t k => XS.iconst X0.here hx rfl (hb hby at_79) k) ?_
          show own_Go p e below KK s₁ (mkF m 80 #[.val (.long p1), .second, .val (.long p2), .second, .val (.int p3), .val (.long (p1 &&& (9223372036854775807 : Int64))), .second, .val (.long (p1 &&& (9223372036854775807 : Int64))), .second, .val (.long (-1 : Int64)), .second, .unset] [(.int 0)])
          refine own_at (fun t k => XS.istore X0.here hx rfl (hb hby at_80) rfl (l' := #[.val (.long p1), .second, .val (.long p2), .second, .val (.int p3), .val (.long (p1 &&& (9223372036854775807 : Int64))), .second, .val (.long (p1 &&& (9223372036854775807 : Int64))), .second, .val (.long (-1 : Int64)), .second, .val (.int 0)]) rfl k) ?_
          show own_Go p e below KK s₁ (mkF m 82 #[.val (.long p1), .second, .val (.long p2), .second, .val (.int p3), .val (.long (p1 &&& (9223372036854775807 : Int64))), .second, .val (.long (p1 &&& (9223372036854775807 : Int64))), .second, .val (.long (-1 : Int64)), .second, .val (.int 0)] [])
          refine own_at (fun t k => XS.lload X0.here hx rfl (hb hby at_82) rfl k) ?_
          show own_Go p e below KK s₁ (mkF m 84 #[.val (.long p1), .second, .val (.long p2), .second, .val (.int p3), .val (.long (p1 &&& (9223372036854775807 : Int64))), .second, .val (.long (p1 &&& (9223372036854775807 : Int64))), .second, .val (.long (-1 : Int64)), .second, .val (.int 0)] [(.long (p1 &&& (9223372036854775807 : Int64)))])
          refine own_at (fun t k => XS.lload X0.here hx rfl (hb hby at_84) rfl k) ?_
          show own_Go p e below KK s₁ (mkF m 86 #[.val (.long p1), .second, .val (.long p2), .second, .val (.int p3), .val (.long (p1 &&& (9223372036854775807 : Int64))), .second, .val (.long (p1 &&& (9223372036854775807 : Int64))), .second, .val (.long (-1 : Int64)), .second, .val (.int 0)] [(.long (-1 : Int64)), (.long (p1 &&& (9223372036854775807 : Int64)))])
          obtain ⟨_, _, ⟨T6, L6, k6, n6⟩, -, X6, ⟨Lc6, hQ6, l6, y6, z6⟩, st6⟩ := Jvm.LawKit.callS X0 hx (y := (⟨"com/example/libpetri/libpetri/Marking", "atMost", "(JJ)Z"⟩ : MethodName)) hown (mvT hZ (hw _ (List.mem_of_getElem? (i := 2) rfl))) (mvT hZ (hw _ (List.mem_of_getElem? (i := 3) rfl))) (mvT hZ (hw _ (List.mem_of_getElem? (i := 4) rfl))) (mvT hZ (hw _ (List.mem_of_getElem? (i := 5) rfl))) (by decide) (backOf (W := 0) (rm_prog_17_9 l Z a0 hw [] (p1 &&& (9223372036854775807 : Int64)) (-1 : Int64)  h0 n0 Z0 ) hZ (hw _ (List.mem_of_getElem? (i := 5) rfl)) (hw _ (List.mem_of_getElem? (i := 4) rfl)) (by decide) (by decide)) (g := (mkF m 86 #[.val (.long p1), .second, .val (.long p2), .second, .val (.int p3), .val (.long (p1 &&& (9223372036854775807 : Int64))), .second, .val (.long (p1 &&& (9223372036854775807 : Int64))), .second, .val (.long (-1 : Int64)), .second, .val (.int 0)] [(.long (-1 : Int64)), (.long (p1 &&& (9223372036854775807 : Int64)))])) rfl (by rw [hml]; rfl) (argsL := [(.long (p1 &&& (9223372036854775807 : Int64))), (.long (-1 : Int64))]) (rest := []) (lenOf pd__JJ_Z rfl) rfl (by show 2 * 0 + _ ≤ _; exact Nat.le_of_eq rfl) (hb hby at_86) (fun _ _ => ⟨rfl, e0, (by decide : 0 + 0 ≤ _), (by decide : 0 + 0 ≤ _)⟩)
          dsimp only [Pt.U, Pt.locs, Pt.cells, Pt.slots] at X6 l6 y6 z6 st6 hQ6
          subst l6 y6 z6
          obtain ⟨rfl, N6q, e6⟩ := hQ6
          have N6 := Fr.app N0 N6q
          refine own_of (fun t k => st6 t k) ?_
          show own_Go p e below KK T6 (mkF m 89 #[.val (.long p1), .second, .val (.long p2), .second, .val (.int p3), .val (.long (p1 &&& (9223372036854775807 : Int64))), .second, .val (.long (p1 &&& (9223372036854775807 : Int64))), .second, .val (.long (-1 : Int64)), .second, .val (.int 0)] [(.int (own_F_prog_17_9 (p1 &&& (9223372036854775807 : Int64)) (-1 : Int64)))])
          refine own_at (fun t k => XS.iload X6.here hx rfl (hb hby at_89) rfl k) ?_
          show own_Go p e below KK T6 (mkF m 91 #[.val (.long p1), .second, .val (.long p2), .second, .val (.int p3), .val (.long (p1 &&& (9223372036854775807 : Int64))), .second, .val (.long (p1 &&& (9223372036854775807 : Int64))), .second, .val (.long (-1 : Int64)), .second, .val (.int 0)] [(.int 0), (.int (own_F_prog_17_9 (p1 &&& (9223372036854775807 : Int64)) (-1 : Int64)))])
          have hc91 : (own_F_prog_17_9 (p1 &&& (9223372036854775807 : Int64)) (-1 : Int64)) = (0 : Int32) := own_gt (own_cntA _) own_cnt1 hc72
          refine own_at (fun t k => XS.icmpNo X6.here hx rfl (hb hby at_91) rfl (Jvm.Free.XT.ii_ne_f hc91) k) ?_
          show own_Go p e below KK T6 (mkF m 94 #[.val (.long p1), .second, .val (.long p2), .second, .val (.int p3), .val (.long (p1 &&& (9223372036854775807 : Int64))), .second, .val (.long (p1 &&& (9223372036854775807 : Int64))), .second, .val (.long (-1 : Int64)), .second, .val (.int 0)] [])
          refine own_at (fun t k => XS.iconst X6.here hx rfl (hb hby at_94) k) ?_
          show own_Go p e below KK T6 (mkF m 95 #[.val (.long p1), .second, .val (.long p2), .second, .val (.int p3), .val (.long (p1 &&& (9223372036854775807 : Int64))), .second, .val (.long (p1 &&& (9223372036854775807 : Int64))), .second, .val (.long (-1 : Int64)), .second, .val (.int 0)] [(.int 1)])
          refine own_at (fun t k => XS.goto X6.here hx rfl (pc0 := 95) (pc' := 99) rfl (hb hby at_95) (by decide) (by decide) k) ?_
          show own_Go p e below KK T6 (mkF m 99 #[.val (.long p1), .second, .val (.long p2), .second, .val (.int p3), .val (.long (p1 &&& (9223372036854775807 : Int64))), .second, .val (.long (p1 &&& (9223372036854775807 : Int64))), .second, .val (.long (-1 : Int64)), .second, .val (.int 0)] [(.int 1)])
          subst hKK
          exact own_retN X6 hx hlk (t := .boolean) Bd.returns (by simp) (hb hby at_99) (w := (1 : Int32)) (show nar .boolean (1 : Int32) = 1 from by decide) ⟨rfl, N6⟩ (Nat.le_of_ble_eq_true rfl) (Nat.le_of_ble_eq_true rfl)
        · refine own_at (fun t k => XS.ifNo X0.here hx rfl (hb hby at_72) rfl (Jvm.Free.XT.ll_gt_f hc72) k) ?_
          show own_Go p e below KK s₁ (mkF m 75 #[.val (.long p1), .second, .val (.long p2), .second, .val (.int p3), .val (.long (p1 &&& (9223372036854775807 : Int64))), .second, .val (.long (p1 &&& (9223372036854775807 : Int64))), .second, .val (.long (-1 : Int64)), .second, .unset] [])
          refine own_at (fun t k => XS.iconst X0.here hx rfl (hb hby at_75) k) ?_
          show own_Go p e below KK s₁ (mkF m 76 #[.val (.long p1), .second, .val (.long p2), .second, .val (.int p3), .val (.long (p1 &&& (9223372036854775807 : Int64))), .second, .val (.long (p1 &&& (9223372036854775807 : Int64))), .second, .val (.long (-1 : Int64)), .second, .unset] [(.int 1)])
          refine own_at (fun t k => XS.goto X0.here hx rfl (pc0 := 76) (pc' := 80) rfl (hb hby at_76) (by decide) (by decide) k) ?_
          show own_Go p e below KK s₁ (mkF m 80 #[.val (.long p1), .second, .val (.long p2), .second, .val (.int p3), .val (.long (p1 &&& (9223372036854775807 : Int64))), .second, .val (.long (p1 &&& (9223372036854775807 : Int64))), .second, .val (.long (-1 : Int64)), .second, .unset] [(.int 1)])
          refine own_at (fun t k => XS.istore X0.here hx rfl (hb hby at_80) rfl (l' := #[.val (.long p1), .second, .val (.long p2), .second, .val (.int p3), .val (.long (p1 &&& (9223372036854775807 : Int64))), .second, .val (.long (p1 &&& (9223372036854775807 : Int64))), .second, .val (.long (-1 : Int64)), .second, .val (.int 1)]) rfl k) ?_
          show own_Go p e below KK s₁ (mkF m 82 #[.val (.long p1), .second, .val (.long p2), .second, .val (.int p3), .val (.long (p1 &&& (9223372036854775807 : Int64))), .second, .val (.long (p1 &&& (9223372036854775807 : Int64))), .second, .val (.long (-1 : Int64)), .second, .val (.int 1)] [])
          refine own_at (fun t k => XS.lload X0.here hx rfl (hb hby at_82) rfl k) ?_
          show own_Go p e below KK s₁ (mkF m 84 #[.val (.long p1), .second, .val (.long p2), .second, .val (.int p3), .val (.long (p1 &&& (9223372036854775807 : Int64))), .second, .val (.long (p1 &&& (9223372036854775807 : Int64))), .second, .val (.long (-1 : Int64)), .second, .val (.int 1)] [(.long (p1 &&& (9223372036854775807 : Int64)))])
          refine own_at (fun t k => XS.lload X0.here hx rfl (hb hby at_84) rfl k) ?_
          show own_Go p e below KK s₁ (mkF m 86 #[.val (.long p1), .second, .val (.long p2), .second, .val (.int p3), .val (.long (p1 &&& (9223372036854775807 : Int64))), .second, .val (.long (p1 &&& (9223372036854775807 : Int64))), .second, .val (.long (-1 : Int64)), .second, .val (.int 1)] [(.long (-1 : Int64)), (.long (p1 &&& (9223372036854775807 : Int64)))])
          obtain ⟨_, _, ⟨T7, L7, k7, n7⟩, -, X7, ⟨Lc7, hQ7, l7, y7, z7⟩, st7⟩ := Jvm.LawKit.callS X0 hx (y := (⟨"com/example/libpetri/libpetri/Marking", "atMost", "(JJ)Z"⟩ : MethodName)) hown (mvT hZ (hw _ (List.mem_of_getElem? (i := 2) rfl))) (mvT hZ (hw _ (List.mem_of_getElem? (i := 3) rfl))) (mvT hZ (hw _ (List.mem_of_getElem? (i := 4) rfl))) (mvT hZ (hw _ (List.mem_of_getElem? (i := 5) rfl))) (by decide) (backOf (W := 0) (rm_prog_17_9 l Z a0 hw [] (p1 &&& (9223372036854775807 : Int64)) (-1 : Int64)  h0 n0 Z0 ) hZ (hw _ (List.mem_of_getElem? (i := 5) rfl)) (hw _ (List.mem_of_getElem? (i := 4) rfl)) (by decide) (by decide)) (g := (mkF m 86 #[.val (.long p1), .second, .val (.long p2), .second, .val (.int p3), .val (.long (p1 &&& (9223372036854775807 : Int64))), .second, .val (.long (p1 &&& (9223372036854775807 : Int64))), .second, .val (.long (-1 : Int64)), .second, .val (.int 1)] [(.long (-1 : Int64)), (.long (p1 &&& (9223372036854775807 : Int64)))])) rfl (by rw [hml]; rfl) (argsL := [(.long (p1 &&& (9223372036854775807 : Int64))), (.long (-1 : Int64))]) (rest := []) (lenOf pd__JJ_Z rfl) rfl (by show 2 * 0 + _ ≤ _; exact Nat.le_of_eq rfl) (hb hby at_86) (fun _ _ => ⟨rfl, e0, (by decide : 0 + 0 ≤ _), (by decide : 0 + 0 ≤ _)⟩)
          dsimp only [Pt.U, Pt.locs, Pt.cells, Pt.slots] at X7 l7 y7 z7 st7 hQ7
          subst l7 y7 z7
          obtain ⟨rfl, N7q, e7⟩ := hQ7
          have N7 := Fr.app N0 N7q
          refine own_of (fun t k => st7 t k) ?_
          show own_Go p e below KK T7 (mkF m 89 #[.val (.long p1), .second, .val (.long p2), .second, .val (.int p3), .val (.long (p1 &&& (9223372036854775807 : Int64))), .second, .val (.long (p1 &&& (9223372036854775807 : Int64))), .second, .val (.long (-1 : Int64)), .second, .val (.int 1)] [(.int (own_F_prog_17_9 (p1 &&& (9223372036854775807 : Int64)) (-1 : Int64)))])
          refine own_at (fun t k => XS.iload X7.here hx rfl (hb hby at_89) rfl k) ?_
          show own_Go p e below KK T7 (mkF m 91 #[.val (.long p1), .second, .val (.long p2), .second, .val (.int p3), .val (.long (p1 &&& (9223372036854775807 : Int64))), .second, .val (.long (p1 &&& (9223372036854775807 : Int64))), .second, .val (.long (-1 : Int64)), .second, .val (.int 1)] [(.int 1), (.int (own_F_prog_17_9 (p1 &&& (9223372036854775807 : Int64)) (-1 : Int64)))])
          have hc91 : (own_F_prog_17_9 (p1 &&& (9223372036854775807 : Int64)) (-1 : Int64)) = (1 : Int32) := own_le (own_cntA _) own_cnt1 hc72
          refine own_at (fun t k => XS.icmpNo X7.here hx rfl (hb hby at_91) rfl (Jvm.Free.XT.ii_ne_f hc91) k) ?_
          show own_Go p e below KK T7 (mkF m 94 #[.val (.long p1), .second, .val (.long p2), .second, .val (.int p3), .val (.long (p1 &&& (9223372036854775807 : Int64))), .second, .val (.long (p1 &&& (9223372036854775807 : Int64))), .second, .val (.long (-1 : Int64)), .second, .val (.int 1)] [])
          refine own_at (fun t k => XS.iconst X7.here hx rfl (hb hby at_94) k) ?_
          show own_Go p e below KK T7 (mkF m 95 #[.val (.long p1), .second, .val (.long p2), .second, .val (.int p3), .val (.long (p1 &&& (9223372036854775807 : Int64))), .second, .val (.long (p1 &&& (9223372036854775807 : Int64))), .second, .val (.long (-1 : Int64)), .second, .val (.int 1)] [(.int 1)])
          refine own_at (fun t k => XS.goto X7.here hx rfl (pc0 := 95) (pc' := 99) rfl (hb hby at_95) (by decide) (by decide) k) ?_
          show own_Go p e below KK T7 (mkF m 99 #[.val (.long p1), .second, .val (.long p2), .second, .val (.int p3), .val (.long (p1 &&& (9223372036854775807 : Int64))), .second, .val (.long (p1 &&& (9223372036854775807 : Int64))), .second, .val (.long (-1 : Int64)), .second, .val (.int 1)] [(.int 1)])
          subst hKK
          exact own_retN X7 hx hlk (t := .boolean) Bd.returns (by simp) (hb hby at_99) (w := (1 : Int32)) (show nar .boolean (1 : Int32) = 1 from by decide) ⟨rfl, N7⟩ (Nat.le_of_ble_eq_true rfl) (Nat.le_of_ble_eq_true rfl)
  · refine own_at (fun t k => XS.ifNo X0.here hx rfl (hb hby at_4) rfl (Jvm.Free.XT.i0_eq_f hc4) k) ?_
    show own_Go p e below KK s₁ (mkF m 7 #[.val (.long p1), .second, .val (.long p2), .second, .val (.int p3), .unset, .unset, .unset, .unset, .unset, .unset, .unset] [])
    refine own_at (fun t k => X0.ldc2Long hx hown (mvT hZ (hw _ (List.mem_of_getElem? (i := 7) rfl))) (g := (mkF m 7 #[.val (.long p1), .second, .val (.long p2), .second, .val (.int p3), .unset, .unset, .unset, .unset, .unset, .unset, .unset] [])) rfl (hb hby at_7) t k) ?_
    show own_Go p e below KK s₁ (mkF m 10 #[.val (.long p1), .second, .val (.long p2), .second, .val (.int p3), .unset, .unset, .unset, .unset, .unset, .unset, .unset] [(.long (-1 : Int64))])
    refine own_at (fun t k => XS.goto X0.here hx rfl (pc0 := 10) (pc' := 18) rfl (hb hby at_10) (by decide) (by decide) k) ?_
    show own_Go p e below KK s₁ (mkF m 18 #[.val (.long p1), .second, .val (.long p2), .second, .val (.int p3), .unset, .unset, .unset, .unset, .unset, .unset, .unset] [(.long (-1 : Int64))])
    refine own_at (fun t k => XS.lstore X0.here hx rfl (hb hby at_18) rfl (l' := #[.val (.long p1), .second, .val (.long p2), .second, .val (.int p3), .val (.long (-1 : Int64)), .second, .unset, .unset, .unset, .unset, .unset]) rfl k) ?_
    show own_Go p e below KK s₁ (mkF m 20 #[.val (.long p1), .second, .val (.long p2), .second, .val (.int p3), .val (.long (-1 : Int64)), .second, .unset, .unset, .unset, .unset, .unset] [])
    refine own_at (fun t k => XS.iload X0.here hx rfl (hb hby at_20) rfl k) ?_
    show own_Go p e below KK s₁ (mkF m 22 #[.val (.long p1), .second, .val (.long p2), .second, .val (.int p3), .val (.long (-1 : Int64)), .second, .unset, .unset, .unset, .unset, .unset] [(.int p3)])
    refine own_at (fun t k => XS.iconst X0.here hx rfl (hb hby at_22) k) ?_
    show own_Go p e below KK s₁ (mkF m 23 #[.val (.long p1), .second, .val (.long p2), .second, .val (.int p3), .val (.long (-1 : Int64)), .second, .unset, .unset, .unset, .unset, .unset] [(.int 4), (.int p3)])
    refine own_at (fun t k => XS.iand X0.here hx rfl (hb hby at_23) rfl k) ?_
    show own_Go p e below KK s₁ (mkF m 24 #[.val (.long p1), .second, .val (.long p2), .second, .val (.int p3), .val (.long (-1 : Int64)), .second, .unset, .unset, .unset, .unset, .unset] [(.int (p3 &&& (4 : Int32)))])
    by_cases hc24 : (p3 &&& (4 : Int32)) = (0 : Int32)
    · refine own_at (fun t k => XS.ifYes X0.here hx rfl (pc0 := 24) (pc' := 35) rfl (hb hby at_24) rfl (Jvm.Free.XT.i0_eq_t hc24) (by decide) (by decide) k) ?_
      show own_Go p e below KK s₁ (mkF m 35 #[.val (.long p1), .second, .val (.long p2), .second, .val (.int p3), .val (.long (-1 : Int64)), .second, .unset, .unset, .unset, .unset, .unset] [])
      refine own_at (fun t k => XS.lloadN X0.here hx rfl (hb hby at_35) rfl k) ?_
      show own_Go p e below KK s₁ (mkF m 36 #[.val (.long p1), .second, .val (.long p2), .second, .val (.int p3), .val (.long (-1 : Int64)), .second, .unset, .unset, .unset, .unset, .unset] [(.long p2)])
      refine own_at (fun t k => X0.ldc2Long hx hown (mvT hZ (hw _ (List.mem_of_getElem? (i := 0) rfl))) (g := (mkF m 36 #[.val (.long p1), .second, .val (.long p2), .second, .val (.int p3), .val (.long (-1 : Int64)), .second, .unset, .unset, .unset, .unset, .unset] [(.long p2)])) rfl (hb hby at_36) t k) ?_
      show own_Go p e below KK s₁ (mkF m 39 #[.val (.long p1), .second, .val (.long p2), .second, .val (.int p3), .val (.long (-1 : Int64)), .second, .unset, .unset, .unset, .unset, .unset] [(.long 9223372036854775807), (.long p2)])
      refine own_at (fun t k => XS.land X0.here hx rfl (hb hby at_39) rfl k) ?_
      show own_Go p e below KK s₁ (mkF m 40 #[.val (.long p1), .second, .val (.long p2), .second, .val (.int p3), .val (.long (-1 : Int64)), .second, .unset, .unset, .unset, .unset, .unset] [(.long (p2 &&& (9223372036854775807 : Int64)))])
      refine own_at (fun t k => XS.lstore X0.here hx rfl (hb hby at_40) rfl (l' := #[.val (.long p1), .second, .val (.long p2), .second, .val (.int p3), .val (.long (-1 : Int64)), .second, .val (.long (p2 &&& (9223372036854775807 : Int64))), .second, .unset, .unset, .unset]) rfl k) ?_
      show own_Go p e below KK s₁ (mkF m 42 #[.val (.long p1), .second, .val (.long p2), .second, .val (.int p3), .val (.long (-1 : Int64)), .second, .val (.long (p2 &&& (9223372036854775807 : Int64))), .second, .unset, .unset, .unset] [])
      refine own_at (fun t k => XS.iload X0.here hx rfl (hb hby at_42) rfl k) ?_
      show own_Go p e below KK s₁ (mkF m 44 #[.val (.long p1), .second, .val (.long p2), .second, .val (.int p3), .val (.long (-1 : Int64)), .second, .val (.long (p2 &&& (9223372036854775807 : Int64))), .second, .unset, .unset, .unset] [(.int p3)])
      refine own_at (fun t k => XS.iconst X0.here hx rfl (hb hby at_44) k) ?_
      show own_Go p e below KK s₁ (mkF m 45 #[.val (.long p1), .second, .val (.long p2), .second, .val (.int p3), .val (.long (-1 : Int64)), .second, .val (.long (p2 &&& (9223372036854775807 : Int64))), .second, .unset, .unset, .unset] [(.int 2), (.int p3)])
      refine own_at (fun t k => XS.iand X0.here hx rfl (hb hby at_45) rfl k) ?_
      show own_Go p e below KK s₁ (mkF m 46 #[.val (.long p1), .second, .val (.long p2), .second, .val (.int p3), .val (.long (-1 : Int64)), .second, .val (.long (p2 &&& (9223372036854775807 : Int64))), .second, .unset, .unset, .unset] [(.int (p3 &&& (2 : Int32)))])
      by_cases hc46 : (p3 &&& (2 : Int32)) = (0 : Int32)
      · refine own_at (fun t k => XS.ifYes X0.here hx rfl (pc0 := 46) (pc' := 55) rfl (hb hby at_46) rfl (Jvm.Free.XT.i0_eq_t hc46) (by decide) (by decide) k) ?_
        show own_Go p e below KK s₁ (mkF m 55 #[.val (.long p1), .second, .val (.long p2), .second, .val (.int p3), .val (.long (-1 : Int64)), .second, .val (.long (p2 &&& (9223372036854775807 : Int64))), .second, .unset, .unset, .unset] [])
        refine own_at (fun t k => XS.lload X0.here hx rfl (hb hby at_55) rfl k) ?_
        show own_Go p e below KK s₁ (mkF m 57 #[.val (.long p1), .second, .val (.long p2), .second, .val (.int p3), .val (.long (-1 : Int64)), .second, .val (.long (p2 &&& (9223372036854775807 : Int64))), .second, .unset, .unset, .unset] [(.long (p2 &&& (9223372036854775807 : Int64)))])
        refine own_at (fun t k => XS.lstore X0.here hx rfl (hb hby at_57) rfl (l' := #[.val (.long p1), .second, .val (.long p2), .second, .val (.int p3), .val (.long (-1 : Int64)), .second, .val (.long (p2 &&& (9223372036854775807 : Int64))), .second, .val (.long (p2 &&& (9223372036854775807 : Int64))), .second, .unset]) rfl k) ?_
        show own_Go p e below KK s₁ (mkF m 59 #[.val (.long p1), .second, .val (.long p2), .second, .val (.int p3), .val (.long (-1 : Int64)), .second, .val (.long (p2 &&& (9223372036854775807 : Int64))), .second, .val (.long (p2 &&& (9223372036854775807 : Int64))), .second, .unset] [])
        refine own_at (fun t k => XS.lload X0.here hx rfl (hb hby at_59) rfl k) ?_
        show own_Go p e below KK s₁ (mkF m 61 #[.val (.long p1), .second, .val (.long p2), .second, .val (.int p3), .val (.long (-1 : Int64)), .second, .val (.long (p2 &&& (9223372036854775807 : Int64))), .second, .val (.long (p2 &&& (9223372036854775807 : Int64))), .second, .unset] [(.long (-1 : Int64))])
        refine own_at (fun t k => X0.ldc2Long hx hown (mvT hZ (hw _ (List.mem_of_getElem? (i := 1) rfl))) (g := (mkF m 61 #[.val (.long p1), .second, .val (.long p2), .second, .val (.int p3), .val (.long (-1 : Int64)), .second, .val (.long (p2 &&& (9223372036854775807 : Int64))), .second, .val (.long (p2 &&& (9223372036854775807 : Int64))), .second, .unset] [(.long (-1 : Int64))])) rfl (hb hby at_61) t k) ?_
        show own_Go p e below KK s₁ (mkF m 64 #[.val (.long p1), .second, .val (.long p2), .second, .val (.int p3), .val (.long (-1 : Int64)), .second, .val (.long (p2 &&& (9223372036854775807 : Int64))), .second, .val (.long (p2 &&& (9223372036854775807 : Int64))), .second, .unset] [(.long (-9223372036854775808 : Int64)), (.long (-1 : Int64))])
        refine own_at (fun t k => XS.lxor X0.here hx rfl (hb hby at_64) rfl k) ?_
        show own_Go p e below KK s₁ (mkF m 65 #[.val (.long p1), .second, .val (.long p2), .second, .val (.int p3), .val (.long (-1 : Int64)), .second, .val (.long (p2 &&& (9223372036854775807 : Int64))), .second, .val (.long (p2 &&& (9223372036854775807 : Int64))), .second, .unset] [(.long ((-1 : Int64) ^^^ (-9223372036854775808 : Int64)))])
        refine own_at (fun t k => XS.lload X0.here hx rfl (hb hby at_65) rfl k) ?_
        show own_Go p e below KK s₁ (mkF m 67 #[.val (.long p1), .second, .val (.long p2), .second, .val (.int p3), .val (.long (-1 : Int64)), .second, .val (.long (p2 &&& (9223372036854775807 : Int64))), .second, .val (.long (p2 &&& (9223372036854775807 : Int64))), .second, .unset] [(.long (p2 &&& (9223372036854775807 : Int64))), (.long ((-1 : Int64) ^^^ (-9223372036854775808 : Int64)))])
        refine own_at (fun t k => X0.ldc2Long hx hown (mvT hZ (hw _ (List.mem_of_getElem? (i := 1) rfl))) (g := (mkF m 67 #[.val (.long p1), .second, .val (.long p2), .second, .val (.int p3), .val (.long (-1 : Int64)), .second, .val (.long (p2 &&& (9223372036854775807 : Int64))), .second, .val (.long (p2 &&& (9223372036854775807 : Int64))), .second, .unset] [(.long (p2 &&& (9223372036854775807 : Int64))), (.long ((-1 : Int64) ^^^ (-9223372036854775808 : Int64)))])) rfl (hb hby at_67) t k) ?_
        show own_Go p e below KK s₁ (mkF m 70 #[.val (.long p1), .second, .val (.long p2), .second, .val (.int p3), .val (.long (-1 : Int64)), .second, .val (.long (p2 &&& (9223372036854775807 : Int64))), .second, .val (.long (p2 &&& (9223372036854775807 : Int64))), .second, .unset] [(.long (-9223372036854775808 : Int64)), (.long (p2 &&& (9223372036854775807 : Int64))), (.long ((-1 : Int64) ^^^ (-9223372036854775808 : Int64)))])
        refine own_at (fun t k => XS.lxor X0.here hx rfl (hb hby at_70) rfl k) ?_
        show own_Go p e below KK s₁ (mkF m 71 #[.val (.long p1), .second, .val (.long p2), .second, .val (.int p3), .val (.long (-1 : Int64)), .second, .val (.long (p2 &&& (9223372036854775807 : Int64))), .second, .val (.long (p2 &&& (9223372036854775807 : Int64))), .second, .unset] [(.long ((p2 &&& (9223372036854775807 : Int64)) ^^^ (-9223372036854775808 : Int64))), (.long ((-1 : Int64) ^^^ (-9223372036854775808 : Int64)))])
        refine own_at (fun t k => Jvm.Free.XT.lcmp X0.here hx rfl (hb hby at_71) rfl k) ?_
        show own_Go p e below KK s₁ (mkF m 72 #[.val (.long p1), .second, .val (.long p2), .second, .val (.int p3), .val (.long (-1 : Int64)), .second, .val (.long (p2 &&& (9223372036854775807 : Int64))), .second, .val (.long (p2 &&& (9223372036854775807 : Int64))), .second, .unset] [(.int (Jvm.Free.XT.cmpL ((-1 : Int64) ^^^ (-9223372036854775808 : Int64)) ((p2 &&& (9223372036854775807 : Int64)) ^^^ (-9223372036854775808 : Int64))))])
        by_cases hc72 : ((p2 &&& (9223372036854775807 : Int64)) ^^^ (-9223372036854775808 : Int64)) < ((-1 : Int64) ^^^ (-9223372036854775808 : Int64))
        · refine own_at (fun t k => XS.ifYes X0.here hx rfl (pc0 := 72) (pc' := 79) rfl (hb hby at_72) rfl (Jvm.Free.XT.ll_gt_t hc72) (by decide) (by decide) k) ?_
          show own_Go p e below KK s₁ (mkF m 79 #[.val (.long p1), .second, .val (.long p2), .second, .val (.int p3), .val (.long (-1 : Int64)), .second, .val (.long (p2 &&& (9223372036854775807 : Int64))), .second, .val (.long (p2 &&& (9223372036854775807 : Int64))), .second, .unset] [])
          refine own_at (fun t k => XS.iconst X0.here hx rfl (hb hby at_79) k) ?_
          show own_Go p e below KK s₁ (mkF m 80 #[.val (.long p1), .second, .val (.long p2), .second, .val (.int p3), .val (.long (-1 : Int64)), .second, .val (.long (p2 &&& (9223372036854775807 : Int64))), .second, .val (.long (p2 &&& (9223372036854775807 : Int64))), .second, .unset] [(.int 0)])
          refine own_at (fun t k => XS.istore X0.here hx rfl (hb hby at_80) rfl (l' := #[.val (.long p1), .second, .val (.long p2), .second, .val (.int p3), .val (.long (-1 : Int64)), .second, .val (.long (p2 &&& (9223372036854775807 : Int64))), .second, .val (.long (p2 &&& (9223372036854775807 : Int64))), .second, .val (.int 0)]) rfl k) ?_
          show own_Go p e below KK s₁ (mkF m 82 #[.val (.long p1), .second, .val (.long p2), .second, .val (.int p3), .val (.long (-1 : Int64)), .second, .val (.long (p2 &&& (9223372036854775807 : Int64))), .second, .val (.long (p2 &&& (9223372036854775807 : Int64))), .second, .val (.int 0)] [])
          refine own_at (fun t k => XS.lload X0.here hx rfl (hb hby at_82) rfl k) ?_
          show own_Go p e below KK s₁ (mkF m 84 #[.val (.long p1), .second, .val (.long p2), .second, .val (.int p3), .val (.long (-1 : Int64)), .second, .val (.long (p2 &&& (9223372036854775807 : Int64))), .second, .val (.long (p2 &&& (9223372036854775807 : Int64))), .second, .val (.int 0)] [(.long (-1 : Int64))])
          refine own_at (fun t k => XS.lload X0.here hx rfl (hb hby at_84) rfl k) ?_
          show own_Go p e below KK s₁ (mkF m 86 #[.val (.long p1), .second, .val (.long p2), .second, .val (.int p3), .val (.long (-1 : Int64)), .second, .val (.long (p2 &&& (9223372036854775807 : Int64))), .second, .val (.long (p2 &&& (9223372036854775807 : Int64))), .second, .val (.int 0)] [(.long (p2 &&& (9223372036854775807 : Int64))), (.long (-1 : Int64))])
          obtain ⟨_, _, ⟨T8, L8, k8, n8⟩, -, X8, ⟨Lc8, hQ8, l8, y8, z8⟩, st8⟩ := Jvm.LawKit.callS X0 hx (y := (⟨"com/example/libpetri/libpetri/Marking", "atMost", "(JJ)Z"⟩ : MethodName)) hown (mvT hZ (hw _ (List.mem_of_getElem? (i := 2) rfl))) (mvT hZ (hw _ (List.mem_of_getElem? (i := 3) rfl))) (mvT hZ (hw _ (List.mem_of_getElem? (i := 4) rfl))) (mvT hZ (hw _ (List.mem_of_getElem? (i := 5) rfl))) (by decide) (backOf (W := 0) (rm_prog_17_9 l Z a0 hw [] (-1 : Int64) (p2 &&& (9223372036854775807 : Int64))  h0 n0 Z0 ) hZ (hw _ (List.mem_of_getElem? (i := 5) rfl)) (hw _ (List.mem_of_getElem? (i := 4) rfl)) (by decide) (by decide)) (g := (mkF m 86 #[.val (.long p1), .second, .val (.long p2), .second, .val (.int p3), .val (.long (-1 : Int64)), .second, .val (.long (p2 &&& (9223372036854775807 : Int64))), .second, .val (.long (p2 &&& (9223372036854775807 : Int64))), .second, .val (.int 0)] [(.long (p2 &&& (9223372036854775807 : Int64))), (.long (-1 : Int64))])) rfl (by rw [hml]; rfl) (argsL := [(.long (-1 : Int64)), (.long (p2 &&& (9223372036854775807 : Int64)))]) (rest := []) (lenOf pd__JJ_Z rfl) rfl (by show 2 * 0 + _ ≤ _; exact Nat.le_of_eq rfl) (hb hby at_86) (fun _ _ => ⟨rfl, e0, (by decide : 0 + 0 ≤ _), (by decide : 0 + 0 ≤ _)⟩)
          dsimp only [Pt.U, Pt.locs, Pt.cells, Pt.slots] at X8 l8 y8 z8 st8 hQ8
          subst l8 y8 z8
          obtain ⟨rfl, N8q, e8⟩ := hQ8
          have N8 := Fr.app N0 N8q
          refine own_of (fun t k => st8 t k) ?_
          show own_Go p e below KK T8 (mkF m 89 #[.val (.long p1), .second, .val (.long p2), .second, .val (.int p3), .val (.long (-1 : Int64)), .second, .val (.long (p2 &&& (9223372036854775807 : Int64))), .second, .val (.long (p2 &&& (9223372036854775807 : Int64))), .second, .val (.int 0)] [(.int (own_F_prog_17_9 (-1 : Int64) (p2 &&& (9223372036854775807 : Int64))))])
          refine own_at (fun t k => XS.iload X8.here hx rfl (hb hby at_89) rfl k) ?_
          show own_Go p e below KK T8 (mkF m 91 #[.val (.long p1), .second, .val (.long p2), .second, .val (.int p3), .val (.long (-1 : Int64)), .second, .val (.long (p2 &&& (9223372036854775807 : Int64))), .second, .val (.long (p2 &&& (9223372036854775807 : Int64))), .second, .val (.int 0)] [(.int 0), (.int (own_F_prog_17_9 (-1 : Int64) (p2 &&& (9223372036854775807 : Int64))))])
          have hc91 : (own_F_prog_17_9 (-1 : Int64) (p2 &&& (9223372036854775807 : Int64))) = (0 : Int32) := own_gt own_cnt1 (own_cntA _) hc72
          refine own_at (fun t k => XS.icmpNo X8.here hx rfl (hb hby at_91) rfl (Jvm.Free.XT.ii_ne_f hc91) k) ?_
          show own_Go p e below KK T8 (mkF m 94 #[.val (.long p1), .second, .val (.long p2), .second, .val (.int p3), .val (.long (-1 : Int64)), .second, .val (.long (p2 &&& (9223372036854775807 : Int64))), .second, .val (.long (p2 &&& (9223372036854775807 : Int64))), .second, .val (.int 0)] [])
          refine own_at (fun t k => XS.iconst X8.here hx rfl (hb hby at_94) k) ?_
          show own_Go p e below KK T8 (mkF m 95 #[.val (.long p1), .second, .val (.long p2), .second, .val (.int p3), .val (.long (-1 : Int64)), .second, .val (.long (p2 &&& (9223372036854775807 : Int64))), .second, .val (.long (p2 &&& (9223372036854775807 : Int64))), .second, .val (.int 0)] [(.int 1)])
          refine own_at (fun t k => XS.goto X8.here hx rfl (pc0 := 95) (pc' := 99) rfl (hb hby at_95) (by decide) (by decide) k) ?_
          show own_Go p e below KK T8 (mkF m 99 #[.val (.long p1), .second, .val (.long p2), .second, .val (.int p3), .val (.long (-1 : Int64)), .second, .val (.long (p2 &&& (9223372036854775807 : Int64))), .second, .val (.long (p2 &&& (9223372036854775807 : Int64))), .second, .val (.int 0)] [(.int 1)])
          subst hKK
          exact own_retN X8 hx hlk (t := .boolean) Bd.returns (by simp) (hb hby at_99) (w := (1 : Int32)) (show nar .boolean (1 : Int32) = 1 from by decide) ⟨rfl, N8⟩ (Nat.le_of_ble_eq_true rfl) (Nat.le_of_ble_eq_true rfl)
        · refine own_at (fun t k => XS.ifNo X0.here hx rfl (hb hby at_72) rfl (Jvm.Free.XT.ll_gt_f hc72) k) ?_
          show own_Go p e below KK s₁ (mkF m 75 #[.val (.long p1), .second, .val (.long p2), .second, .val (.int p3), .val (.long (-1 : Int64)), .second, .val (.long (p2 &&& (9223372036854775807 : Int64))), .second, .val (.long (p2 &&& (9223372036854775807 : Int64))), .second, .unset] [])
          refine own_at (fun t k => XS.iconst X0.here hx rfl (hb hby at_75) k) ?_
          show own_Go p e below KK s₁ (mkF m 76 #[.val (.long p1), .second, .val (.long p2), .second, .val (.int p3), .val (.long (-1 : Int64)), .second, .val (.long (p2 &&& (9223372036854775807 : Int64))), .second, .val (.long (p2 &&& (9223372036854775807 : Int64))), .second, .unset] [(.int 1)])
          refine own_at (fun t k => XS.goto X0.here hx rfl (pc0 := 76) (pc' := 80) rfl (hb hby at_76) (by decide) (by decide) k) ?_
          show own_Go p e below KK s₁ (mkF m 80 #[.val (.long p1), .second, .val (.long p2), .second, .val (.int p3), .val (.long (-1 : Int64)), .second, .val (.long (p2 &&& (9223372036854775807 : Int64))), .second, .val (.long (p2 &&& (9223372036854775807 : Int64))), .second, .unset] [(.int 1)])
          refine own_at (fun t k => XS.istore X0.here hx rfl (hb hby at_80) rfl (l' := #[.val (.long p1), .second, .val (.long p2), .second, .val (.int p3), .val (.long (-1 : Int64)), .second, .val (.long (p2 &&& (9223372036854775807 : Int64))), .second, .val (.long (p2 &&& (9223372036854775807 : Int64))), .second, .val (.int 1)]) rfl k) ?_
          show own_Go p e below KK s₁ (mkF m 82 #[.val (.long p1), .second, .val (.long p2), .second, .val (.int p3), .val (.long (-1 : Int64)), .second, .val (.long (p2 &&& (9223372036854775807 : Int64))), .second, .val (.long (p2 &&& (9223372036854775807 : Int64))), .second, .val (.int 1)] [])
          refine own_at (fun t k => XS.lload X0.here hx rfl (hb hby at_82) rfl k) ?_
          show own_Go p e below KK s₁ (mkF m 84 #[.val (.long p1), .second, .val (.long p2), .second, .val (.int p3), .val (.long (-1 : Int64)), .second, .val (.long (p2 &&& (9223372036854775807 : Int64))), .second, .val (.long (p2 &&& (9223372036854775807 : Int64))), .second, .val (.int 1)] [(.long (-1 : Int64))])
          refine own_at (fun t k => XS.lload X0.here hx rfl (hb hby at_84) rfl k) ?_
          show own_Go p e below KK s₁ (mkF m 86 #[.val (.long p1), .second, .val (.long p2), .second, .val (.int p3), .val (.long (-1 : Int64)), .second, .val (.long (p2 &&& (9223372036854775807 : Int64))), .second, .val (.long (p2 &&& (9223372036854775807 : Int64))), .second, .val (.int 1)] [(.long (p2 &&& (9223372036854775807 : Int64))), (.long (-1 : Int64))])
          obtain ⟨_, _, ⟨T9, L9, k9, n9⟩, -, X9, ⟨Lc9, hQ9, l9, y9, z9⟩, st9⟩ := Jvm.LawKit.callS X0 hx (y := (⟨"com/example/libpetri/libpetri/Marking", "atMost", "(JJ)Z"⟩ : MethodName)) hown (mvT hZ (hw _ (List.mem_of_getElem? (i := 2) rfl))) (mvT hZ (hw _ (List.mem_of_getElem? (i := 3) rfl))) (mvT hZ (hw _ (List.mem_of_getElem? (i := 4) rfl))) (mvT hZ (hw _ (List.mem_of_getElem? (i := 5) rfl))) (by decide) (backOf (W := 0) (rm_prog_17_9 l Z a0 hw [] (-1 : Int64) (p2 &&& (9223372036854775807 : Int64))  h0 n0 Z0 ) hZ (hw _ (List.mem_of_getElem? (i := 5) rfl)) (hw _ (List.mem_of_getElem? (i := 4) rfl)) (by decide) (by decide)) (g := (mkF m 86 #[.val (.long p1), .second, .val (.long p2), .second, .val (.int p3), .val (.long (-1 : Int64)), .second, .val (.long (p2 &&& (9223372036854775807 : Int64))), .second, .val (.long (p2 &&& (9223372036854775807 : Int64))), .second, .val (.int 1)] [(.long (p2 &&& (9223372036854775807 : Int64))), (.long (-1 : Int64))])) rfl (by rw [hml]; rfl) (argsL := [(.long (-1 : Int64)), (.long (p2 &&& (9223372036854775807 : Int64)))]) (rest := []) (lenOf pd__JJ_Z rfl) rfl (by show 2 * 0 + _ ≤ _; exact Nat.le_of_eq rfl) (hb hby at_86) (fun _ _ => ⟨rfl, e0, (by decide : 0 + 0 ≤ _), (by decide : 0 + 0 ≤ _)⟩)
          dsimp only [Pt.U, Pt.locs, Pt.cells, Pt.slots] at X9 l9 y9 z9 st9 hQ9
          subst l9 y9 z9
          obtain ⟨rfl, N9q, e9⟩ := hQ9
          have N9 := Fr.app N0 N9q
          refine own_of (fun t k => st9 t k) ?_
          show own_Go p e below KK T9 (mkF m 89 #[.val (.long p1), .second, .val (.long p2), .second, .val (.int p3), .val (.long (-1 : Int64)), .second, .val (.long (p2 &&& (9223372036854775807 : Int64))), .second, .val (.long (p2 &&& (9223372036854775807 : Int64))), .second, .val (.int 1)] [(.int (own_F_prog_17_9 (-1 : Int64) (p2 &&& (9223372036854775807 : Int64))))])
          refine own_at (fun t k => XS.iload X9.here hx rfl (hb hby at_89) rfl k) ?_
          show own_Go p e below KK T9 (mkF m 91 #[.val (.long p1), .second, .val (.long p2), .second, .val (.int p3), .val (.long (-1 : Int64)), .second, .val (.long (p2 &&& (9223372036854775807 : Int64))), .second, .val (.long (p2 &&& (9223372036854775807 : Int64))), .second, .val (.int 1)] [(.int 1), (.int (own_F_prog_17_9 (-1 : Int64) (p2 &&& (9223372036854775807 : Int64))))])
          have hc91 : (own_F_prog_17_9 (-1 : Int64) (p2 &&& (9223372036854775807 : Int64))) = (1 : Int32) := own_le own_cnt1 (own_cntA _) hc72
          refine own_at (fun t k => XS.icmpNo X9.here hx rfl (hb hby at_91) rfl (Jvm.Free.XT.ii_ne_f hc91) k) ?_
          show own_Go p e below KK T9 (mkF m 94 #[.val (.long p1), .second, .val (.long p2), .second, .val (.int p3), .val (.long (-1 : Int64)), .second, .val (.long (p2 &&& (9223372036854775807 : Int64))), .second, .val (.long (p2 &&& (9223372036854775807 : Int64))), .second, .val (.int 1)] [])
          refine own_at (fun t k => XS.iconst X9.here hx rfl (hb hby at_94) k) ?_
          show own_Go p e below KK T9 (mkF m 95 #[.val (.long p1), .second, .val (.long p2), .second, .val (.int p3), .val (.long (-1 : Int64)), .second, .val (.long (p2 &&& (9223372036854775807 : Int64))), .second, .val (.long (p2 &&& (9223372036854775807 : Int64))), .second, .val (.int 1)] [(.int 1)])
          refine own_at (fun t k => XS.goto X9.here hx rfl (pc0 := 95) (pc' := 99) rfl (hb hby at_95) (by decide) (by decide) k) ?_
          show own_Go p e below KK T9 (mkF m 99 #[.val (.long p1), .second, .val (.long p2), .second, .val (.int p3), .val (.long (-1 : Int64)), .second, .val (.long (p2 &&& (9223372036854775807 : Int64))), .second, .val (.long (p2 &&& (9223372036854775807 : Int64))), .second, .val (.int 1)] [(.int 1)])
          subst hKK
          exact own_retN X9 hx hlk (t := .boolean) Bd.returns (by simp) (hb hby at_99) (w := (1 : Int32)) (show nar .boolean (1 : Int32) = 1 from by decide) ⟨rfl, N9⟩ (Nat.le_of_ble_eq_true rfl) (Nat.le_of_ble_eq_true rfl)
      · refine own_at (fun t k => XS.ifNo X0.here hx rfl (hb hby at_46) rfl (Jvm.Free.XT.i0_eq_f hc46) k) ?_
        show own_Go p e below KK s₁ (mkF m 49 #[.val (.long p1), .second, .val (.long p2), .second, .val (.int p3), .val (.long (-1 : Int64)), .second, .val (.long (p2 &&& (9223372036854775807 : Int64))), .second, .unset, .unset, .unset] [])
        refine own_at (fun t k => X0.ldc2Long hx hown (mvT hZ (hw _ (List.mem_of_getElem? (i := 7) rfl))) (g := (mkF m 49 #[.val (.long p1), .second, .val (.long p2), .second, .val (.int p3), .val (.long (-1 : Int64)), .second, .val (.long (p2 &&& (9223372036854775807 : Int64))), .second, .unset, .unset, .unset] [])) rfl (hb hby at_49) t k) ?_
        show own_Go p e below KK s₁ (mkF m 52 #[.val (.long p1), .second, .val (.long p2), .second, .val (.int p3), .val (.long (-1 : Int64)), .second, .val (.long (p2 &&& (9223372036854775807 : Int64))), .second, .unset, .unset, .unset] [(.long (-1 : Int64))])
        refine own_at (fun t k => XS.goto X0.here hx rfl (pc0 := 52) (pc' := 57) rfl (hb hby at_52) (by decide) (by decide) k) ?_
        show own_Go p e below KK s₁ (mkF m 57 #[.val (.long p1), .second, .val (.long p2), .second, .val (.int p3), .val (.long (-1 : Int64)), .second, .val (.long (p2 &&& (9223372036854775807 : Int64))), .second, .unset, .unset, .unset] [(.long (-1 : Int64))])
        refine own_at (fun t k => XS.lstore X0.here hx rfl (hb hby at_57) rfl (l' := #[.val (.long p1), .second, .val (.long p2), .second, .val (.int p3), .val (.long (-1 : Int64)), .second, .val (.long (p2 &&& (9223372036854775807 : Int64))), .second, .val (.long (-1 : Int64)), .second, .unset]) rfl k) ?_
        show own_Go p e below KK s₁ (mkF m 59 #[.val (.long p1), .second, .val (.long p2), .second, .val (.int p3), .val (.long (-1 : Int64)), .second, .val (.long (p2 &&& (9223372036854775807 : Int64))), .second, .val (.long (-1 : Int64)), .second, .unset] [])
        refine own_at (fun t k => XS.lload X0.here hx rfl (hb hby at_59) rfl k) ?_
        show own_Go p e below KK s₁ (mkF m 61 #[.val (.long p1), .second, .val (.long p2), .second, .val (.int p3), .val (.long (-1 : Int64)), .second, .val (.long (p2 &&& (9223372036854775807 : Int64))), .second, .val (.long (-1 : Int64)), .second, .unset] [(.long (-1 : Int64))])
        refine own_at (fun t k => X0.ldc2Long hx hown (mvT hZ (hw _ (List.mem_of_getElem? (i := 1) rfl))) (g := (mkF m 61 #[.val (.long p1), .second, .val (.long p2), .second, .val (.int p3), .val (.long (-1 : Int64)), .second, .val (.long (p2 &&& (9223372036854775807 : Int64))), .second, .val (.long (-1 : Int64)), .second, .unset] [(.long (-1 : Int64))])) rfl (hb hby at_61) t k) ?_
        show own_Go p e below KK s₁ (mkF m 64 #[.val (.long p1), .second, .val (.long p2), .second, .val (.int p3), .val (.long (-1 : Int64)), .second, .val (.long (p2 &&& (9223372036854775807 : Int64))), .second, .val (.long (-1 : Int64)), .second, .unset] [(.long (-9223372036854775808 : Int64)), (.long (-1 : Int64))])
        refine own_at (fun t k => XS.lxor X0.here hx rfl (hb hby at_64) rfl k) ?_
        show own_Go p e below KK s₁ (mkF m 65 #[.val (.long p1), .second, .val (.long p2), .second, .val (.int p3), .val (.long (-1 : Int64)), .second, .val (.long (p2 &&& (9223372036854775807 : Int64))), .second, .val (.long (-1 : Int64)), .second, .unset] [(.long ((-1 : Int64) ^^^ (-9223372036854775808 : Int64)))])
        refine own_at (fun t k => XS.lload X0.here hx rfl (hb hby at_65) rfl k) ?_
        show own_Go p e below KK s₁ (mkF m 67 #[.val (.long p1), .second, .val (.long p2), .second, .val (.int p3), .val (.long (-1 : Int64)), .second, .val (.long (p2 &&& (9223372036854775807 : Int64))), .second, .val (.long (-1 : Int64)), .second, .unset] [(.long (-1 : Int64)), (.long ((-1 : Int64) ^^^ (-9223372036854775808 : Int64)))])
        refine own_at (fun t k => X0.ldc2Long hx hown (mvT hZ (hw _ (List.mem_of_getElem? (i := 1) rfl))) (g := (mkF m 67 #[.val (.long p1), .second, .val (.long p2), .second, .val (.int p3), .val (.long (-1 : Int64)), .second, .val (.long (p2 &&& (9223372036854775807 : Int64))), .second, .val (.long (-1 : Int64)), .second, .unset] [(.long (-1 : Int64)), (.long ((-1 : Int64) ^^^ (-9223372036854775808 : Int64)))])) rfl (hb hby at_67) t k) ?_
        show own_Go p e below KK s₁ (mkF m 70 #[.val (.long p1), .second, .val (.long p2), .second, .val (.int p3), .val (.long (-1 : Int64)), .second, .val (.long (p2 &&& (9223372036854775807 : Int64))), .second, .val (.long (-1 : Int64)), .second, .unset] [(.long (-9223372036854775808 : Int64)), (.long (-1 : Int64)), (.long ((-1 : Int64) ^^^ (-9223372036854775808 : Int64)))])
        refine own_at (fun t k => XS.lxor X0.here hx rfl (hb hby at_70) rfl k) ?_
        show own_Go p e below KK s₁ (mkF m 71 #[.val (.long p1), .second, .val (.long p2), .second, .val (.int p3), .val (.long (-1 : Int64)), .second, .val (.long (p2 &&& (9223372036854775807 : Int64))), .second, .val (.long (-1 : Int64)), .second, .unset] [(.long ((-1 : Int64) ^^^ (-9223372036854775808 : Int64))), (.long ((-1 : Int64) ^^^ (-9223372036854775808 : Int64)))])
        refine own_at (fun t k => Jvm.Free.XT.lcmp X0.here hx rfl (hb hby at_71) rfl k) ?_
        show own_Go p e below KK s₁ (mkF m 72 #[.val (.long p1), .second, .val (.long p2), .second, .val (.int p3), .val (.long (-1 : Int64)), .second, .val (.long (p2 &&& (9223372036854775807 : Int64))), .second, .val (.long (-1 : Int64)), .second, .unset] [(.int (Jvm.Free.XT.cmpL ((-1 : Int64) ^^^ (-9223372036854775808 : Int64)) ((-1 : Int64) ^^^ (-9223372036854775808 : Int64))))])
        have hc72 : ¬ (((-1 : Int64) ^^^ (-9223372036854775808 : Int64)) < ((-1 : Int64) ^^^ (-9223372036854775808 : Int64))) := Int64.lt_irrefl
        refine own_at (fun t k => XS.ifNo X0.here hx rfl (hb hby at_72) rfl (Jvm.Free.XT.ll_gt_f hc72) k) ?_
        show own_Go p e below KK s₁ (mkF m 75 #[.val (.long p1), .second, .val (.long p2), .second, .val (.int p3), .val (.long (-1 : Int64)), .second, .val (.long (p2 &&& (9223372036854775807 : Int64))), .second, .val (.long (-1 : Int64)), .second, .unset] [])
        refine own_at (fun t k => XS.iconst X0.here hx rfl (hb hby at_75) k) ?_
        show own_Go p e below KK s₁ (mkF m 76 #[.val (.long p1), .second, .val (.long p2), .second, .val (.int p3), .val (.long (-1 : Int64)), .second, .val (.long (p2 &&& (9223372036854775807 : Int64))), .second, .val (.long (-1 : Int64)), .second, .unset] [(.int 1)])
        refine own_at (fun t k => XS.goto X0.here hx rfl (pc0 := 76) (pc' := 80) rfl (hb hby at_76) (by decide) (by decide) k) ?_
        show own_Go p e below KK s₁ (mkF m 80 #[.val (.long p1), .second, .val (.long p2), .second, .val (.int p3), .val (.long (-1 : Int64)), .second, .val (.long (p2 &&& (9223372036854775807 : Int64))), .second, .val (.long (-1 : Int64)), .second, .unset] [(.int 1)])
        refine own_at (fun t k => XS.istore X0.here hx rfl (hb hby at_80) rfl (l' := #[.val (.long p1), .second, .val (.long p2), .second, .val (.int p3), .val (.long (-1 : Int64)), .second, .val (.long (p2 &&& (9223372036854775807 : Int64))), .second, .val (.long (-1 : Int64)), .second, .val (.int 1)]) rfl k) ?_
        show own_Go p e below KK s₁ (mkF m 82 #[.val (.long p1), .second, .val (.long p2), .second, .val (.int p3), .val (.long (-1 : Int64)), .second, .val (.long (p2 &&& (9223372036854775807 : Int64))), .second, .val (.long (-1 : Int64)), .second, .val (.int 1)] [])
        refine own_at (fun t k => XS.lload X0.here hx rfl (hb hby at_82) rfl k) ?_
        show own_Go p e below KK s₁ (mkF m 84 #[.val (.long p1), .second, .val (.long p2), .second, .val (.int p3), .val (.long (-1 : Int64)), .second, .val (.long (p2 &&& (9223372036854775807 : Int64))), .second, .val (.long (-1 : Int64)), .second, .val (.int 1)] [(.long (-1 : Int64))])
        refine own_at (fun t k => XS.lload X0.here hx rfl (hb hby at_84) rfl k) ?_
        show own_Go p e below KK s₁ (mkF m 86 #[.val (.long p1), .second, .val (.long p2), .second, .val (.int p3), .val (.long (-1 : Int64)), .second, .val (.long (p2 &&& (9223372036854775807 : Int64))), .second, .val (.long (-1 : Int64)), .second, .val (.int 1)] [(.long (-1 : Int64)), (.long (-1 : Int64))])
        obtain ⟨_, _, ⟨T10, L10, k10, n10⟩, -, X10, ⟨Lc10, hQ10, l10, y10, z10⟩, st10⟩ := Jvm.LawKit.callS X0 hx (y := (⟨"com/example/libpetri/libpetri/Marking", "atMost", "(JJ)Z"⟩ : MethodName)) hown (mvT hZ (hw _ (List.mem_of_getElem? (i := 2) rfl))) (mvT hZ (hw _ (List.mem_of_getElem? (i := 3) rfl))) (mvT hZ (hw _ (List.mem_of_getElem? (i := 4) rfl))) (mvT hZ (hw _ (List.mem_of_getElem? (i := 5) rfl))) (by decide) (backOf (W := 0) (rm_prog_17_9 l Z a0 hw [] (-1 : Int64) (-1 : Int64)  h0 n0 Z0 ) hZ (hw _ (List.mem_of_getElem? (i := 5) rfl)) (hw _ (List.mem_of_getElem? (i := 4) rfl)) (by decide) (by decide)) (g := (mkF m 86 #[.val (.long p1), .second, .val (.long p2), .second, .val (.int p3), .val (.long (-1 : Int64)), .second, .val (.long (p2 &&& (9223372036854775807 : Int64))), .second, .val (.long (-1 : Int64)), .second, .val (.int 1)] [(.long (-1 : Int64)), (.long (-1 : Int64))])) rfl (by rw [hml]; rfl) (argsL := [(.long (-1 : Int64)), (.long (-1 : Int64))]) (rest := []) (lenOf pd__JJ_Z rfl) rfl (by show 2 * 0 + _ ≤ _; exact Nat.le_of_eq rfl) (hb hby at_86) (fun _ _ => ⟨rfl, e0, (by decide : 0 + 0 ≤ _), (by decide : 0 + 0 ≤ _)⟩)
        dsimp only [Pt.U, Pt.locs, Pt.cells, Pt.slots] at X10 l10 y10 z10 st10 hQ10
        subst l10 y10 z10
        obtain ⟨rfl, N10q, e10⟩ := hQ10
        have N10 := Fr.app N0 N10q
        refine own_of (fun t k => st10 t k) ?_
        show own_Go p e below KK T10 (mkF m 89 #[.val (.long p1), .second, .val (.long p2), .second, .val (.int p3), .val (.long (-1 : Int64)), .second, .val (.long (p2 &&& (9223372036854775807 : Int64))), .second, .val (.long (-1 : Int64)), .second, .val (.int 1)] [(.int (own_F_prog_17_9 (-1 : Int64) (-1 : Int64)))])
        refine own_at (fun t k => XS.iload X10.here hx rfl (hb hby at_89) rfl k) ?_
        show own_Go p e below KK T10 (mkF m 91 #[.val (.long p1), .second, .val (.long p2), .second, .val (.int p3), .val (.long (-1 : Int64)), .second, .val (.long (p2 &&& (9223372036854775807 : Int64))), .second, .val (.long (-1 : Int64)), .second, .val (.int 1)] [(.int 1), (.int (own_F_prog_17_9 (-1 : Int64) (-1 : Int64)))])
        have hc91 : (own_F_prog_17_9 (-1 : Int64) (-1 : Int64)) = (1 : Int32) := own_le own_cnt1 own_cnt1 hc72
        refine own_at (fun t k => XS.icmpNo X10.here hx rfl (hb hby at_91) rfl (Jvm.Free.XT.ii_ne_f hc91) k) ?_
        show own_Go p e below KK T10 (mkF m 94 #[.val (.long p1), .second, .val (.long p2), .second, .val (.int p3), .val (.long (-1 : Int64)), .second, .val (.long (p2 &&& (9223372036854775807 : Int64))), .second, .val (.long (-1 : Int64)), .second, .val (.int 1)] [])
        refine own_at (fun t k => XS.iconst X10.here hx rfl (hb hby at_94) k) ?_
        show own_Go p e below KK T10 (mkF m 95 #[.val (.long p1), .second, .val (.long p2), .second, .val (.int p3), .val (.long (-1 : Int64)), .second, .val (.long (p2 &&& (9223372036854775807 : Int64))), .second, .val (.long (-1 : Int64)), .second, .val (.int 1)] [(.int 1)])
        refine own_at (fun t k => XS.goto X10.here hx rfl (pc0 := 95) (pc' := 99) rfl (hb hby at_95) (by decide) (by decide) k) ?_
        show own_Go p e below KK T10 (mkF m 99 #[.val (.long p1), .second, .val (.long p2), .second, .val (.int p3), .val (.long (-1 : Int64)), .second, .val (.long (p2 &&& (9223372036854775807 : Int64))), .second, .val (.long (-1 : Int64)), .second, .val (.int 1)] [(.int 1)])
        subst hKK
        exact own_retN X10 hx hlk (t := .boolean) Bd.returns (by simp) (hb hby at_99) (w := (1 : Int32)) (show nar .boolean (1 : Int32) = 1 from by decide) ⟨rfl, N10⟩ (Nat.le_of_ble_eq_true rfl) (Nat.le_of_ble_eq_true rfl)
    · refine own_at (fun t k => XS.ifNo X0.here hx rfl (hb hby at_24) rfl (Jvm.Free.XT.i0_eq_f hc24) k) ?_
      show own_Go p e below KK s₁ (mkF m 27 #[.val (.long p1), .second, .val (.long p2), .second, .val (.int p3), .val (.long (-1 : Int64)), .second, .unset, .unset, .unset, .unset, .unset] [])
      refine own_at (fun t k => XS.lloadN X0.here hx rfl (hb hby at_27) rfl k) ?_
      show own_Go p e below KK s₁ (mkF m 28 #[.val (.long p1), .second, .val (.long p2), .second, .val (.int p3), .val (.long (-1 : Int64)), .second, .unset, .unset, .unset, .unset, .unset] [(.long p1)])
      refine own_at (fun t k => X0.ldc2Long hx hown (mvT hZ (hw _ (List.mem_of_getElem? (i := 0) rfl))) (g := (mkF m 28 #[.val (.long p1), .second, .val (.long p2), .second, .val (.int p3), .val (.long (-1 : Int64)), .second, .unset, .unset, .unset, .unset, .unset] [(.long p1)])) rfl (hb hby at_28) t k) ?_
      show own_Go p e below KK s₁ (mkF m 31 #[.val (.long p1), .second, .val (.long p2), .second, .val (.int p3), .val (.long (-1 : Int64)), .second, .unset, .unset, .unset, .unset, .unset] [(.long 9223372036854775807), (.long p1)])
      refine own_at (fun t k => XS.land X0.here hx rfl (hb hby at_31) rfl k) ?_
      show own_Go p e below KK s₁ (mkF m 32 #[.val (.long p1), .second, .val (.long p2), .second, .val (.int p3), .val (.long (-1 : Int64)), .second, .unset, .unset, .unset, .unset, .unset] [(.long (p1 &&& (9223372036854775807 : Int64)))])
      refine own_at (fun t k => XS.goto X0.here hx rfl (pc0 := 32) (pc' := 40) rfl (hb hby at_32) (by decide) (by decide) k) ?_
      show own_Go p e below KK s₁ (mkF m 40 #[.val (.long p1), .second, .val (.long p2), .second, .val (.int p3), .val (.long (-1 : Int64)), .second, .unset, .unset, .unset, .unset, .unset] [(.long (p1 &&& (9223372036854775807 : Int64)))])
      refine own_at (fun t k => XS.lstore X0.here hx rfl (hb hby at_40) rfl (l' := #[.val (.long p1), .second, .val (.long p2), .second, .val (.int p3), .val (.long (-1 : Int64)), .second, .val (.long (p1 &&& (9223372036854775807 : Int64))), .second, .unset, .unset, .unset]) rfl k) ?_
      show own_Go p e below KK s₁ (mkF m 42 #[.val (.long p1), .second, .val (.long p2), .second, .val (.int p3), .val (.long (-1 : Int64)), .second, .val (.long (p1 &&& (9223372036854775807 : Int64))), .second, .unset, .unset, .unset] [])
      refine own_at (fun t k => XS.iload X0.here hx rfl (hb hby at_42) rfl k) ?_
      show own_Go p e below KK s₁ (mkF m 44 #[.val (.long p1), .second, .val (.long p2), .second, .val (.int p3), .val (.long (-1 : Int64)), .second, .val (.long (p1 &&& (9223372036854775807 : Int64))), .second, .unset, .unset, .unset] [(.int p3)])
      refine own_at (fun t k => XS.iconst X0.here hx rfl (hb hby at_44) k) ?_
      show own_Go p e below KK s₁ (mkF m 45 #[.val (.long p1), .second, .val (.long p2), .second, .val (.int p3), .val (.long (-1 : Int64)), .second, .val (.long (p1 &&& (9223372036854775807 : Int64))), .second, .unset, .unset, .unset] [(.int 2), (.int p3)])
      refine own_at (fun t k => XS.iand X0.here hx rfl (hb hby at_45) rfl k) ?_
      show own_Go p e below KK s₁ (mkF m 46 #[.val (.long p1), .second, .val (.long p2), .second, .val (.int p3), .val (.long (-1 : Int64)), .second, .val (.long (p1 &&& (9223372036854775807 : Int64))), .second, .unset, .unset, .unset] [(.int (p3 &&& (2 : Int32)))])
      by_cases hc46 : (p3 &&& (2 : Int32)) = (0 : Int32)
      · refine own_at (fun t k => XS.ifYes X0.here hx rfl (pc0 := 46) (pc' := 55) rfl (hb hby at_46) rfl (Jvm.Free.XT.i0_eq_t hc46) (by decide) (by decide) k) ?_
        show own_Go p e below KK s₁ (mkF m 55 #[.val (.long p1), .second, .val (.long p2), .second, .val (.int p3), .val (.long (-1 : Int64)), .second, .val (.long (p1 &&& (9223372036854775807 : Int64))), .second, .unset, .unset, .unset] [])
        refine own_at (fun t k => XS.lload X0.here hx rfl (hb hby at_55) rfl k) ?_
        show own_Go p e below KK s₁ (mkF m 57 #[.val (.long p1), .second, .val (.long p2), .second, .val (.int p3), .val (.long (-1 : Int64)), .second, .val (.long (p1 &&& (9223372036854775807 : Int64))), .second, .unset, .unset, .unset] [(.long (p1 &&& (9223372036854775807 : Int64)))])
        refine own_at (fun t k => XS.lstore X0.here hx rfl (hb hby at_57) rfl (l' := #[.val (.long p1), .second, .val (.long p2), .second, .val (.int p3), .val (.long (-1 : Int64)), .second, .val (.long (p1 &&& (9223372036854775807 : Int64))), .second, .val (.long (p1 &&& (9223372036854775807 : Int64))), .second, .unset]) rfl k) ?_
        show own_Go p e below KK s₁ (mkF m 59 #[.val (.long p1), .second, .val (.long p2), .second, .val (.int p3), .val (.long (-1 : Int64)), .second, .val (.long (p1 &&& (9223372036854775807 : Int64))), .second, .val (.long (p1 &&& (9223372036854775807 : Int64))), .second, .unset] [])
        refine own_at (fun t k => XS.lload X0.here hx rfl (hb hby at_59) rfl k) ?_
        show own_Go p e below KK s₁ (mkF m 61 #[.val (.long p1), .second, .val (.long p2), .second, .val (.int p3), .val (.long (-1 : Int64)), .second, .val (.long (p1 &&& (9223372036854775807 : Int64))), .second, .val (.long (p1 &&& (9223372036854775807 : Int64))), .second, .unset] [(.long (-1 : Int64))])
        refine own_at (fun t k => X0.ldc2Long hx hown (mvT hZ (hw _ (List.mem_of_getElem? (i := 1) rfl))) (g := (mkF m 61 #[.val (.long p1), .second, .val (.long p2), .second, .val (.int p3), .val (.long (-1 : Int64)), .second, .val (.long (p1 &&& (9223372036854775807 : Int64))), .second, .val (.long (p1 &&& (9223372036854775807 : Int64))), .second, .unset] [(.long (-1 : Int64))])) rfl (hb hby at_61) t k) ?_
        show own_Go p e below KK s₁ (mkF m 64 #[.val (.long p1), .second, .val (.long p2), .second, .val (.int p3), .val (.long (-1 : Int64)), .second, .val (.long (p1 &&& (9223372036854775807 : Int64))), .second, .val (.long (p1 &&& (9223372036854775807 : Int64))), .second, .unset] [(.long (-9223372036854775808 : Int64)), (.long (-1 : Int64))])
        refine own_at (fun t k => XS.lxor X0.here hx rfl (hb hby at_64) rfl k) ?_
        show own_Go p e below KK s₁ (mkF m 65 #[.val (.long p1), .second, .val (.long p2), .second, .val (.int p3), .val (.long (-1 : Int64)), .second, .val (.long (p1 &&& (9223372036854775807 : Int64))), .second, .val (.long (p1 &&& (9223372036854775807 : Int64))), .second, .unset] [(.long ((-1 : Int64) ^^^ (-9223372036854775808 : Int64)))])
        refine own_at (fun t k => XS.lload X0.here hx rfl (hb hby at_65) rfl k) ?_
        show own_Go p e below KK s₁ (mkF m 67 #[.val (.long p1), .second, .val (.long p2), .second, .val (.int p3), .val (.long (-1 : Int64)), .second, .val (.long (p1 &&& (9223372036854775807 : Int64))), .second, .val (.long (p1 &&& (9223372036854775807 : Int64))), .second, .unset] [(.long (p1 &&& (9223372036854775807 : Int64))), (.long ((-1 : Int64) ^^^ (-9223372036854775808 : Int64)))])
        refine own_at (fun t k => X0.ldc2Long hx hown (mvT hZ (hw _ (List.mem_of_getElem? (i := 1) rfl))) (g := (mkF m 67 #[.val (.long p1), .second, .val (.long p2), .second, .val (.int p3), .val (.long (-1 : Int64)), .second, .val (.long (p1 &&& (9223372036854775807 : Int64))), .second, .val (.long (p1 &&& (9223372036854775807 : Int64))), .second, .unset] [(.long (p1 &&& (9223372036854775807 : Int64))), (.long ((-1 : Int64) ^^^ (-9223372036854775808 : Int64)))])) rfl (hb hby at_67) t k) ?_
        show own_Go p e below KK s₁ (mkF m 70 #[.val (.long p1), .second, .val (.long p2), .second, .val (.int p3), .val (.long (-1 : Int64)), .second, .val (.long (p1 &&& (9223372036854775807 : Int64))), .second, .val (.long (p1 &&& (9223372036854775807 : Int64))), .second, .unset] [(.long (-9223372036854775808 : Int64)), (.long (p1 &&& (9223372036854775807 : Int64))), (.long ((-1 : Int64) ^^^ (-9223372036854775808 : Int64)))])
        refine own_at (fun t k => XS.lxor X0.here hx rfl (hb hby at_70) rfl k) ?_
        show own_Go p e below KK s₁ (mkF m 71 #[.val (.long p1), .second, .val (.long p2), .second, .val (.int p3), .val (.long (-1 : Int64)), .second, .val (.long (p1 &&& (9223372036854775807 : Int64))), .second, .val (.long (p1 &&& (9223372036854775807 : Int64))), .second, .unset] [(.long ((p1 &&& (9223372036854775807 : Int64)) ^^^ (-9223372036854775808 : Int64))), (.long ((-1 : Int64) ^^^ (-9223372036854775808 : Int64)))])
        refine own_at (fun t k => Jvm.Free.XT.lcmp X0.here hx rfl (hb hby at_71) rfl k) ?_
        show own_Go p e below KK s₁ (mkF m 72 #[.val (.long p1), .second, .val (.long p2), .second, .val (.int p3), .val (.long (-1 : Int64)), .second, .val (.long (p1 &&& (9223372036854775807 : Int64))), .second, .val (.long (p1 &&& (9223372036854775807 : Int64))), .second, .unset] [(.int (Jvm.Free.XT.cmpL ((-1 : Int64) ^^^ (-9223372036854775808 : Int64)) ((p1 &&& (9223372036854775807 : Int64)) ^^^ (-9223372036854775808 : Int64))))])
        by_cases hc72 : ((p1 &&& (9223372036854775807 : Int64)) ^^^ (-9223372036854775808 : Int64)) < ((-1 : Int64) ^^^ (-9223372036854775808 : Int64))
        · refine own_at (fun t k => XS.ifYes X0.here hx rfl (pc0 := 72) (pc' := 79) rfl (hb hby at_72) rfl (Jvm.Free.XT.ll_gt_t hc72) (by decide) (by decide) k) ?_
          show own_Go p e below KK s₁ (mkF m 79 #[.val (.long p1), .second, .val (.long p2), .second, .val (.int p3), .val (.long (-1 : Int64)), .second, .val (.long (p1 &&& (9223372036854775807 : Int64))), .second, .val (.long (p1 &&& (9223372036854775807 : Int64))), .second, .unset] [])
          refine own_at (fun t k => XS.iconst X0.here hx rfl (hb hby at_79) k) ?_
          show own_Go p e below KK s₁ (mkF m 80 #[.val (.long p1), .second, .val (.long p2), .second, .val (.int p3), .val (.long (-1 : Int64)), .second, .val (.long (p1 &&& (9223372036854775807 : Int64))), .second, .val (.long (p1 &&& (9223372036854775807 : Int64))), .second, .unset] [(.int 0)])
          refine own_at (fun t k => XS.istore X0.here hx rfl (hb hby at_80) rfl (l' := #[.val (.long p1), .second, .val (.long p2), .second, .val (.int p3), .val (.long (-1 : Int64)), .second, .val (.long (p1 &&& (9223372036854775807 : Int64))), .second, .val (.long (p1 &&& (9223372036854775807 : Int64))), .second, .val (.int 0)]) rfl k) ?_
          show own_Go p e below KK s₁ (mkF m 82 #[.val (.long p1), .second, .val (.long p2), .second, .val (.int p3), .val (.long (-1 : Int64)), .second, .val (.long (p1 &&& (9223372036854775807 : Int64))), .second, .val (.long (p1 &&& (9223372036854775807 : Int64))), .second, .val (.int 0)] [])
          refine own_at (fun t k => XS.lload X0.here hx rfl (hb hby at_82) rfl k) ?_
          show own_Go p e below KK s₁ (mkF m 84 #[.val (.long p1), .second, .val (.long p2), .second, .val (.int p3), .val (.long (-1 : Int64)), .second, .val (.long (p1 &&& (9223372036854775807 : Int64))), .second, .val (.long (p1 &&& (9223372036854775807 : Int64))), .second, .val (.int 0)] [(.long (-1 : Int64))])
          refine own_at (fun t k => XS.lload X0.here hx rfl (hb hby at_84) rfl k) ?_
          show own_Go p e below KK s₁ (mkF m 86 #[.val (.long p1), .second, .val (.long p2), .second, .val (.int p3), .val (.long (-1 : Int64)), .second, .val (.long (p1 &&& (9223372036854775807 : Int64))), .second, .val (.long (p1 &&& (9223372036854775807 : Int64))), .second, .val (.int 0)] [(.long (p1 &&& (9223372036854775807 : Int64))), (.long (-1 : Int64))])
          obtain ⟨_, _, ⟨T11, L11, k11, n11⟩, -, X11, ⟨Lc11, hQ11, l11, y11, z11⟩, st11⟩ := Jvm.LawKit.callS X0 hx (y := (⟨"com/example/libpetri/libpetri/Marking", "atMost", "(JJ)Z"⟩ : MethodName)) hown (mvT hZ (hw _ (List.mem_of_getElem? (i := 2) rfl))) (mvT hZ (hw _ (List.mem_of_getElem? (i := 3) rfl))) (mvT hZ (hw _ (List.mem_of_getElem? (i := 4) rfl))) (mvT hZ (hw _ (List.mem_of_getElem? (i := 5) rfl))) (by decide) (backOf (W := 0) (rm_prog_17_9 l Z a0 hw [] (-1 : Int64) (p1 &&& (9223372036854775807 : Int64))  h0 n0 Z0 ) hZ (hw _ (List.mem_of_getElem? (i := 5) rfl)) (hw _ (List.mem_of_getElem? (i := 4) rfl)) (by decide) (by decide)) (g := (mkF m 86 #[.val (.long p1), .second, .val (.long p2), .second, .val (.int p3), .val (.long (-1 : Int64)), .second, .val (.long (p1 &&& (9223372036854775807 : Int64))), .second, .val (.long (p1 &&& (9223372036854775807 : Int64))), .second, .val (.int 0)] [(.long (p1 &&& (9223372036854775807 : Int64))), (.long (-1 : Int64))])) rfl (by rw [hml]; rfl) (argsL := [(.long (-1 : Int64)), (.long (p1 &&& (9223372036854775807 : Int64)))]) (rest := []) (lenOf pd__JJ_Z rfl) rfl (by show 2 * 0 + _ ≤ _; exact Nat.le_of_eq rfl) (hb hby at_86) (fun _ _ => ⟨rfl, e0, (by decide : 0 + 0 ≤ _), (by decide : 0 + 0 ≤ _)⟩)
          dsimp only [Pt.U, Pt.locs, Pt.cells, Pt.slots] at X11 l11 y11 z11 st11 hQ11
          subst l11 y11 z11
          obtain ⟨rfl, N11q, e11⟩ := hQ11
          have N11 := Fr.app N0 N11q
          refine own_of (fun t k => st11 t k) ?_
          show own_Go p e below KK T11 (mkF m 89 #[.val (.long p1), .second, .val (.long p2), .second, .val (.int p3), .val (.long (-1 : Int64)), .second, .val (.long (p1 &&& (9223372036854775807 : Int64))), .second, .val (.long (p1 &&& (9223372036854775807 : Int64))), .second, .val (.int 0)] [(.int (own_F_prog_17_9 (-1 : Int64) (p1 &&& (9223372036854775807 : Int64))))])
          refine own_at (fun t k => XS.iload X11.here hx rfl (hb hby at_89) rfl k) ?_
          show own_Go p e below KK T11 (mkF m 91 #[.val (.long p1), .second, .val (.long p2), .second, .val (.int p3), .val (.long (-1 : Int64)), .second, .val (.long (p1 &&& (9223372036854775807 : Int64))), .second, .val (.long (p1 &&& (9223372036854775807 : Int64))), .second, .val (.int 0)] [(.int 0), (.int (own_F_prog_17_9 (-1 : Int64) (p1 &&& (9223372036854775807 : Int64))))])
          have hc91 : (own_F_prog_17_9 (-1 : Int64) (p1 &&& (9223372036854775807 : Int64))) = (0 : Int32) := own_gt own_cnt1 (own_cntA _) hc72
          refine own_at (fun t k => XS.icmpNo X11.here hx rfl (hb hby at_91) rfl (Jvm.Free.XT.ii_ne_f hc91) k) ?_
          show own_Go p e below KK T11 (mkF m 94 #[.val (.long p1), .second, .val (.long p2), .second, .val (.int p3), .val (.long (-1 : Int64)), .second, .val (.long (p1 &&& (9223372036854775807 : Int64))), .second, .val (.long (p1 &&& (9223372036854775807 : Int64))), .second, .val (.int 0)] [])
          refine own_at (fun t k => XS.iconst X11.here hx rfl (hb hby at_94) k) ?_
          show own_Go p e below KK T11 (mkF m 95 #[.val (.long p1), .second, .val (.long p2), .second, .val (.int p3), .val (.long (-1 : Int64)), .second, .val (.long (p1 &&& (9223372036854775807 : Int64))), .second, .val (.long (p1 &&& (9223372036854775807 : Int64))), .second, .val (.int 0)] [(.int 1)])
          refine own_at (fun t k => XS.goto X11.here hx rfl (pc0 := 95) (pc' := 99) rfl (hb hby at_95) (by decide) (by decide) k) ?_
          show own_Go p e below KK T11 (mkF m 99 #[.val (.long p1), .second, .val (.long p2), .second, .val (.int p3), .val (.long (-1 : Int64)), .second, .val (.long (p1 &&& (9223372036854775807 : Int64))), .second, .val (.long (p1 &&& (9223372036854775807 : Int64))), .second, .val (.int 0)] [(.int 1)])
          subst hKK
          exact own_retN X11 hx hlk (t := .boolean) Bd.returns (by simp) (hb hby at_99) (w := (1 : Int32)) (show nar .boolean (1 : Int32) = 1 from by decide) ⟨rfl, N11⟩ (Nat.le_of_ble_eq_true rfl) (Nat.le_of_ble_eq_true rfl)
        · refine own_at (fun t k => XS.ifNo X0.here hx rfl (hb hby at_72) rfl (Jvm.Free.XT.ll_gt_f hc72) k) ?_
          show own_Go p e below KK s₁ (mkF m 75 #[.val (.long p1), .second, .val (.long p2), .second, .val (.int p3), .val (.long (-1 : Int64)), .second, .val (.long (p1 &&& (9223372036854775807 : Int64))), .second, .val (.long (p1 &&& (9223372036854775807 : Int64))), .second, .unset] [])
          refine own_at (fun t k => XS.iconst X0.here hx rfl (hb hby at_75) k) ?_
          show own_Go p e below KK s₁ (mkF m 76 #[.val (.long p1), .second, .val (.long p2), .second, .val (.int p3), .val (.long (-1 : Int64)), .second, .val (.long (p1 &&& (9223372036854775807 : Int64))), .second, .val (.long (p1 &&& (9223372036854775807 : Int64))), .second, .unset] [(.int 1)])
          refine own_at (fun t k => XS.goto X0.here hx rfl (pc0 := 76) (pc' := 80) rfl (hb hby at_76) (by decide) (by decide) k) ?_
          show own_Go p e below KK s₁ (mkF m 80 #[.val (.long p1), .second, .val (.long p2), .second, .val (.int p3), .val (.long (-1 : Int64)), .second, .val (.long (p1 &&& (9223372036854775807 : Int64))), .second, .val (.long (p1 &&& (9223372036854775807 : Int64))), .second, .unset] [(.int 1)])
          refine own_at (fun t k => XS.istore X0.here hx rfl (hb hby at_80) rfl (l' := #[.val (.long p1), .second, .val (.long p2), .second, .val (.int p3), .val (.long (-1 : Int64)), .second, .val (.long (p1 &&& (9223372036854775807 : Int64))), .second, .val (.long (p1 &&& (9223372036854775807 : Int64))), .second, .val (.int 1)]) rfl k) ?_
          show own_Go p e below KK s₁ (mkF m 82 #[.val (.long p1), .second, .val (.long p2), .second, .val (.int p3), .val (.long (-1 : Int64)), .second, .val (.long (p1 &&& (9223372036854775807 : Int64))), .second, .val (.long (p1 &&& (9223372036854775807 : Int64))), .second, .val (.int 1)] [])
          refine own_at (fun t k => XS.lload X0.here hx rfl (hb hby at_82) rfl k) ?_
          show own_Go p e below KK s₁ (mkF m 84 #[.val (.long p1), .second, .val (.long p2), .second, .val (.int p3), .val (.long (-1 : Int64)), .second, .val (.long (p1 &&& (9223372036854775807 : Int64))), .second, .val (.long (p1 &&& (9223372036854775807 : Int64))), .second, .val (.int 1)] [(.long (-1 : Int64))])
          refine own_at (fun t k => XS.lload X0.here hx rfl (hb hby at_84) rfl k) ?_
          show own_Go p e below KK s₁ (mkF m 86 #[.val (.long p1), .second, .val (.long p2), .second, .val (.int p3), .val (.long (-1 : Int64)), .second, .val (.long (p1 &&& (9223372036854775807 : Int64))), .second, .val (.long (p1 &&& (9223372036854775807 : Int64))), .second, .val (.int 1)] [(.long (p1 &&& (9223372036854775807 : Int64))), (.long (-1 : Int64))])
          obtain ⟨_, _, ⟨T12, L12, k12, n12⟩, -, X12, ⟨Lc12, hQ12, l12, y12, z12⟩, st12⟩ := Jvm.LawKit.callS X0 hx (y := (⟨"com/example/libpetri/libpetri/Marking", "atMost", "(JJ)Z"⟩ : MethodName)) hown (mvT hZ (hw _ (List.mem_of_getElem? (i := 2) rfl))) (mvT hZ (hw _ (List.mem_of_getElem? (i := 3) rfl))) (mvT hZ (hw _ (List.mem_of_getElem? (i := 4) rfl))) (mvT hZ (hw _ (List.mem_of_getElem? (i := 5) rfl))) (by decide) (backOf (W := 0) (rm_prog_17_9 l Z a0 hw [] (-1 : Int64) (p1 &&& (9223372036854775807 : Int64))  h0 n0 Z0 ) hZ (hw _ (List.mem_of_getElem? (i := 5) rfl)) (hw _ (List.mem_of_getElem? (i := 4) rfl)) (by decide) (by decide)) (g := (mkF m 86 #[.val (.long p1), .second, .val (.long p2), .second, .val (.int p3), .val (.long (-1 : Int64)), .second, .val (.long (p1 &&& (9223372036854775807 : Int64))), .second, .val (.long (p1 &&& (9223372036854775807 : Int64))), .second, .val (.int 1)] [(.long (p1 &&& (9223372036854775807 : Int64))), (.long (-1 : Int64))])) rfl (by rw [hml]; rfl) (argsL := [(.long (-1 : Int64)), (.long (p1 &&& (9223372036854775807 : Int64)))]) (rest := []) (lenOf pd__JJ_Z rfl) rfl (by show 2 * 0 + _ ≤ _; exact Nat.le_of_eq rfl) (hb hby at_86) (fun _ _ => ⟨rfl, e0, (by decide : 0 + 0 ≤ _), (by decide : 0 + 0 ≤ _)⟩)
          dsimp only [Pt.U, Pt.locs, Pt.cells, Pt.slots] at X12 l12 y12 z12 st12 hQ12
          subst l12 y12 z12
          obtain ⟨rfl, N12q, e12⟩ := hQ12
          have N12 := Fr.app N0 N12q
          refine own_of (fun t k => st12 t k) ?_
          show own_Go p e below KK T12 (mkF m 89 #[.val (.long p1), .second, .val (.long p2), .second, .val (.int p3), .val (.long (-1 : Int64)), .second, .val (.long (p1 &&& (9223372036854775807 : Int64))), .second, .val (.long (p1 &&& (9223372036854775807 : Int64))), .second, .val (.int 1)] [(.int (own_F_prog_17_9 (-1 : Int64) (p1 &&& (9223372036854775807 : Int64))))])
          refine own_at (fun t k => XS.iload X12.here hx rfl (hb hby at_89) rfl k) ?_
          show own_Go p e below KK T12 (mkF m 91 #[.val (.long p1), .second, .val (.long p2), .second, .val (.int p3), .val (.long (-1 : Int64)), .second, .val (.long (p1 &&& (9223372036854775807 : Int64))), .second, .val (.long (p1 &&& (9223372036854775807 : Int64))), .second, .val (.int 1)] [(.int 1), (.int (own_F_prog_17_9 (-1 : Int64) (p1 &&& (9223372036854775807 : Int64))))])
          have hc91 : (own_F_prog_17_9 (-1 : Int64) (p1 &&& (9223372036854775807 : Int64))) = (1 : Int32) := own_le own_cnt1 (own_cntA _) hc72
          refine own_at (fun t k => XS.icmpNo X12.here hx rfl (hb hby at_91) rfl (Jvm.Free.XT.ii_ne_f hc91) k) ?_
          show own_Go p e below KK T12 (mkF m 94 #[.val (.long p1), .second, .val (.long p2), .second, .val (.int p3), .val (.long (-1 : Int64)), .second, .val (.long (p1 &&& (9223372036854775807 : Int64))), .second, .val (.long (p1 &&& (9223372036854775807 : Int64))), .second, .val (.int 1)] [])
          refine own_at (fun t k => XS.iconst X12.here hx rfl (hb hby at_94) k) ?_
          show own_Go p e below KK T12 (mkF m 95 #[.val (.long p1), .second, .val (.long p2), .second, .val (.int p3), .val (.long (-1 : Int64)), .second, .val (.long (p1 &&& (9223372036854775807 : Int64))), .second, .val (.long (p1 &&& (9223372036854775807 : Int64))), .second, .val (.int 1)] [(.int 1)])
          refine own_at (fun t k => XS.goto X12.here hx rfl (pc0 := 95) (pc' := 99) rfl (hb hby at_95) (by decide) (by decide) k) ?_
          show own_Go p e below KK T12 (mkF m 99 #[.val (.long p1), .second, .val (.long p2), .second, .val (.int p3), .val (.long (-1 : Int64)), .second, .val (.long (p1 &&& (9223372036854775807 : Int64))), .second, .val (.long (p1 &&& (9223372036854775807 : Int64))), .second, .val (.int 1)] [(.int 1)])
          subst hKK
          exact own_retN X12 hx hlk (t := .boolean) Bd.returns (by simp) (hb hby at_99) (w := (1 : Int32)) (show nar .boolean (1 : Int32) = 1 from by decide) ⟨rfl, N12⟩ (Nat.le_of_ble_eq_true rfl) (Nat.le_of_ble_eq_true rfl)
      · refine own_at (fun t k => XS.ifNo X0.here hx rfl (hb hby at_46) rfl (Jvm.Free.XT.i0_eq_f hc46) k) ?_
        show own_Go p e below KK s₁ (mkF m 49 #[.val (.long p1), .second, .val (.long p2), .second, .val (.int p3), .val (.long (-1 : Int64)), .second, .val (.long (p1 &&& (9223372036854775807 : Int64))), .second, .unset, .unset, .unset] [])
        refine own_at (fun t k => X0.ldc2Long hx hown (mvT hZ (hw _ (List.mem_of_getElem? (i := 7) rfl))) (g := (mkF m 49 #[.val (.long p1), .second, .val (.long p2), .second, .val (.int p3), .val (.long (-1 : Int64)), .second, .val (.long (p1 &&& (9223372036854775807 : Int64))), .second, .unset, .unset, .unset] [])) rfl (hb hby at_49) t k) ?_
        show own_Go p e below KK s₁ (mkF m 52 #[.val (.long p1), .second, .val (.long p2), .second, .val (.int p3), .val (.long (-1 : Int64)), .second, .val (.long (p1 &&& (9223372036854775807 : Int64))), .second, .unset, .unset, .unset] [(.long (-1 : Int64))])
        refine own_at (fun t k => XS.goto X0.here hx rfl (pc0 := 52) (pc' := 57) rfl (hb hby at_52) (by decide) (by decide) k) ?_
        show own_Go p e below KK s₁ (mkF m 57 #[.val (.long p1), .second, .val (.long p2), .second, .val (.int p3), .val (.long (-1 : Int64)), .second, .val (.long (p1 &&& (9223372036854775807 : Int64))), .second, .unset, .unset, .unset] [(.long (-1 : Int64))])
        refine own_at (fun t k => XS.lstore X0.here hx rfl (hb hby at_57) rfl (l' := #[.val (.long p1), .second, .val (.long p2), .second, .val (.int p3), .val (.long (-1 : Int64)), .second, .val (.long (p1 &&& (9223372036854775807 : Int64))), .second, .val (.long (-1 : Int64)), .second, .unset]) rfl k) ?_
        show own_Go p e below KK s₁ (mkF m 59 #[.val (.long p1), .second, .val (.long p2), .second, .val (.int p3), .val (.long (-1 : Int64)), .second, .val (.long (p1 &&& (9223372036854775807 : Int64))), .second, .val (.long (-1 : Int64)), .second, .unset] [])
        refine own_at (fun t k => XS.lload X0.here hx rfl (hb hby at_59) rfl k) ?_
        show own_Go p e below KK s₁ (mkF m 61 #[.val (.long p1), .second, .val (.long p2), .second, .val (.int p3), .val (.long (-1 : Int64)), .second, .val (.long (p1 &&& (9223372036854775807 : Int64))), .second, .val (.long (-1 : Int64)), .second, .unset] [(.long (-1 : Int64))])
        refine own_at (fun t k => X0.ldc2Long hx hown (mvT hZ (hw _ (List.mem_of_getElem? (i := 1) rfl))) (g := (mkF m 61 #[.val (.long p1), .second, .val (.long p2), .second, .val (.int p3), .val (.long (-1 : Int64)), .second, .val (.long (p1 &&& (9223372036854775807 : Int64))), .second, .val (.long (-1 : Int64)), .second, .unset] [(.long (-1 : Int64))])) rfl (hb hby at_61) t k) ?_
        show own_Go p e below KK s₁ (mkF m 64 #[.val (.long p1), .second, .val (.long p2), .second, .val (.int p3), .val (.long (-1 : Int64)), .second, .val (.long (p1 &&& (9223372036854775807 : Int64))), .second, .val (.long (-1 : Int64)), .second, .unset] [(.long (-9223372036854775808 : Int64)), (.long (-1 : Int64))])
        refine own_at (fun t k => XS.lxor X0.here hx rfl (hb hby at_64) rfl k) ?_
        show own_Go p e below KK s₁ (mkF m 65 #[.val (.long p1), .second, .val (.long p2), .second, .val (.int p3), .val (.long (-1 : Int64)), .second, .val (.long (p1 &&& (9223372036854775807 : Int64))), .second, .val (.long (-1 : Int64)), .second, .unset] [(.long ((-1 : Int64) ^^^ (-9223372036854775808 : Int64)))])
        refine own_at (fun t k => XS.lload X0.here hx rfl (hb hby at_65) rfl k) ?_
        show own_Go p e below KK s₁ (mkF m 67 #[.val (.long p1), .second, .val (.long p2), .second, .val (.int p3), .val (.long (-1 : Int64)), .second, .val (.long (p1 &&& (9223372036854775807 : Int64))), .second, .val (.long (-1 : Int64)), .second, .unset] [(.long (-1 : Int64)), (.long ((-1 : Int64) ^^^ (-9223372036854775808 : Int64)))])
        refine own_at (fun t k => X0.ldc2Long hx hown (mvT hZ (hw _ (List.mem_of_getElem? (i := 1) rfl))) (g := (mkF m 67 #[.val (.long p1), .second, .val (.long p2), .second, .val (.int p3), .val (.long (-1 : Int64)), .second, .val (.long (p1 &&& (9223372036854775807 : Int64))), .second, .val (.long (-1 : Int64)), .second, .unset] [(.long (-1 : Int64)), (.long ((-1 : Int64) ^^^ (-9223372036854775808 : Int64)))])) rfl (hb hby at_67) t k) ?_
        show own_Go p e below KK s₁ (mkF m 70 #[.val (.long p1), .second, .val (.long p2), .second, .val (.int p3), .val (.long (-1 : Int64)), .second, .val (.long (p1 &&& (9223372036854775807 : Int64))), .second, .val (.long (-1 : Int64)), .second, .unset] [(.long (-9223372036854775808 : Int64)), (.long (-1 : Int64)), (.long ((-1 : Int64) ^^^ (-9223372036854775808 : Int64)))])
        refine own_at (fun t k => XS.lxor X0.here hx rfl (hb hby at_70) rfl k) ?_
        show own_Go p e below KK s₁ (mkF m 71 #[.val (.long p1), .second, .val (.long p2), .second, .val (.int p3), .val (.long (-1 : Int64)), .second, .val (.long (p1 &&& (9223372036854775807 : Int64))), .second, .val (.long (-1 : Int64)), .second, .unset] [(.long ((-1 : Int64) ^^^ (-9223372036854775808 : Int64))), (.long ((-1 : Int64) ^^^ (-9223372036854775808 : Int64)))])
        refine own_at (fun t k => Jvm.Free.XT.lcmp X0.here hx rfl (hb hby at_71) rfl k) ?_
        show own_Go p e below KK s₁ (mkF m 72 #[.val (.long p1), .second, .val (.long p2), .second, .val (.int p3), .val (.long (-1 : Int64)), .second, .val (.long (p1 &&& (9223372036854775807 : Int64))), .second, .val (.long (-1 : Int64)), .second, .unset] [(.int (Jvm.Free.XT.cmpL ((-1 : Int64) ^^^ (-9223372036854775808 : Int64)) ((-1 : Int64) ^^^ (-9223372036854775808 : Int64))))])
        have hc72 : ¬ (((-1 : Int64) ^^^ (-9223372036854775808 : Int64)) < ((-1 : Int64) ^^^ (-9223372036854775808 : Int64))) := Int64.lt_irrefl
        refine own_at (fun t k => XS.ifNo X0.here hx rfl (hb hby at_72) rfl (Jvm.Free.XT.ll_gt_f hc72) k) ?_
        show own_Go p e below KK s₁ (mkF m 75 #[.val (.long p1), .second, .val (.long p2), .second, .val (.int p3), .val (.long (-1 : Int64)), .second, .val (.long (p1 &&& (9223372036854775807 : Int64))), .second, .val (.long (-1 : Int64)), .second, .unset] [])
        refine own_at (fun t k => XS.iconst X0.here hx rfl (hb hby at_75) k) ?_
        show own_Go p e below KK s₁ (mkF m 76 #[.val (.long p1), .second, .val (.long p2), .second, .val (.int p3), .val (.long (-1 : Int64)), .second, .val (.long (p1 &&& (9223372036854775807 : Int64))), .second, .val (.long (-1 : Int64)), .second, .unset] [(.int 1)])
        refine own_at (fun t k => XS.goto X0.here hx rfl (pc0 := 76) (pc' := 80) rfl (hb hby at_76) (by decide) (by decide) k) ?_
        show own_Go p e below KK s₁ (mkF m 80 #[.val (.long p1), .second, .val (.long p2), .second, .val (.int p3), .val (.long (-1 : Int64)), .second, .val (.long (p1 &&& (9223372036854775807 : Int64))), .second, .val (.long (-1 : Int64)), .second, .unset] [(.int 1)])
        refine own_at (fun t k => XS.istore X0.here hx rfl (hb hby at_80) rfl (l' := #[.val (.long p1), .second, .val (.long p2), .second, .val (.int p3), .val (.long (-1 : Int64)), .second, .val (.long (p1 &&& (9223372036854775807 : Int64))), .second, .val (.long (-1 : Int64)), .second, .val (.int 1)]) rfl k) ?_
        show own_Go p e below KK s₁ (mkF m 82 #[.val (.long p1), .second, .val (.long p2), .second, .val (.int p3), .val (.long (-1 : Int64)), .second, .val (.long (p1 &&& (9223372036854775807 : Int64))), .second, .val (.long (-1 : Int64)), .second, .val (.int 1)] [])
        refine own_at (fun t k => XS.lload X0.here hx rfl (hb hby at_82) rfl k) ?_
        show own_Go p e below KK s₁ (mkF m 84 #[.val (.long p1), .second, .val (.long p2), .second, .val (.int p3), .val (.long (-1 : Int64)), .second, .val (.long (p1 &&& (9223372036854775807 : Int64))), .second, .val (.long (-1 : Int64)), .second, .val (.int 1)] [(.long (-1 : Int64))])
        refine own_at (fun t k => XS.lload X0.here hx rfl (hb hby at_84) rfl k) ?_
        show own_Go p e below KK s₁ (mkF m 86 #[.val (.long p1), .second, .val (.long p2), .second, .val (.int p3), .val (.long (-1 : Int64)), .second, .val (.long (p1 &&& (9223372036854775807 : Int64))), .second, .val (.long (-1 : Int64)), .second, .val (.int 1)] [(.long (-1 : Int64)), (.long (-1 : Int64))])
        obtain ⟨_, _, ⟨T13, L13, k13, n13⟩, -, X13, ⟨Lc13, hQ13, l13, y13, z13⟩, st13⟩ := Jvm.LawKit.callS X0 hx (y := (⟨"com/example/libpetri/libpetri/Marking", "atMost", "(JJ)Z"⟩ : MethodName)) hown (mvT hZ (hw _ (List.mem_of_getElem? (i := 2) rfl))) (mvT hZ (hw _ (List.mem_of_getElem? (i := 3) rfl))) (mvT hZ (hw _ (List.mem_of_getElem? (i := 4) rfl))) (mvT hZ (hw _ (List.mem_of_getElem? (i := 5) rfl))) (by decide) (backOf (W := 0) (rm_prog_17_9 l Z a0 hw [] (-1 : Int64) (-1 : Int64)  h0 n0 Z0 ) hZ (hw _ (List.mem_of_getElem? (i := 5) rfl)) (hw _ (List.mem_of_getElem? (i := 4) rfl)) (by decide) (by decide)) (g := (mkF m 86 #[.val (.long p1), .second, .val (.long p2), .second, .val (.int p3), .val (.long (-1 : Int64)), .second, .val (.long (p1 &&& (9223372036854775807 : Int64))), .second, .val (.long (-1 : Int64)), .second, .val (.int 1)] [(.long (-1 : Int64)), (.long (-1 : Int64))])) rfl (by rw [hml]; rfl) (argsL := [(.long (-1 : Int64)), (.long (-1 : Int64))]) (rest := []) (lenOf pd__JJ_Z rfl) rfl (by show 2 * 0 + _ ≤ _; exact Nat.le_of_eq rfl) (hb hby at_86) (fun _ _ => ⟨rfl, e0, (by decide : 0 + 0 ≤ _), (by decide : 0 + 0 ≤ _)⟩)
        dsimp only [Pt.U, Pt.locs, Pt.cells, Pt.slots] at X13 l13 y13 z13 st13 hQ13
        subst l13 y13 z13
        obtain ⟨rfl, N13q, e13⟩ := hQ13
        have N13 := Fr.app N0 N13q
        refine own_of (fun t k => st13 t k) ?_
        show own_Go p e below KK T13 (mkF m 89 #[.val (.long p1), .second, .val (.long p2), .second, .val (.int p3), .val (.long (-1 : Int64)), .second, .val (.long (p1 &&& (9223372036854775807 : Int64))), .second, .val (.long (-1 : Int64)), .second, .val (.int 1)] [(.int (own_F_prog_17_9 (-1 : Int64) (-1 : Int64)))])
        refine own_at (fun t k => XS.iload X13.here hx rfl (hb hby at_89) rfl k) ?_
        show own_Go p e below KK T13 (mkF m 91 #[.val (.long p1), .second, .val (.long p2), .second, .val (.int p3), .val (.long (-1 : Int64)), .second, .val (.long (p1 &&& (9223372036854775807 : Int64))), .second, .val (.long (-1 : Int64)), .second, .val (.int 1)] [(.int 1), (.int (own_F_prog_17_9 (-1 : Int64) (-1 : Int64)))])
        have hc91 : (own_F_prog_17_9 (-1 : Int64) (-1 : Int64)) = (1 : Int32) := own_le own_cnt1 own_cnt1 hc72
        refine own_at (fun t k => XS.icmpNo X13.here hx rfl (hb hby at_91) rfl (Jvm.Free.XT.ii_ne_f hc91) k) ?_
        show own_Go p e below KK T13 (mkF m 94 #[.val (.long p1), .second, .val (.long p2), .second, .val (.int p3), .val (.long (-1 : Int64)), .second, .val (.long (p1 &&& (9223372036854775807 : Int64))), .second, .val (.long (-1 : Int64)), .second, .val (.int 1)] [])
        refine own_at (fun t k => XS.iconst X13.here hx rfl (hb hby at_94) k) ?_
        show own_Go p e below KK T13 (mkF m 95 #[.val (.long p1), .second, .val (.long p2), .second, .val (.int p3), .val (.long (-1 : Int64)), .second, .val (.long (p1 &&& (9223372036854775807 : Int64))), .second, .val (.long (-1 : Int64)), .second, .val (.int 1)] [(.int 1)])
        refine own_at (fun t k => XS.goto X13.here hx rfl (pc0 := 95) (pc' := 99) rfl (hb hby at_95) (by decide) (by decide) k) ?_
        show own_Go p e below KK T13 (mkF m 99 #[.val (.long p1), .second, .val (.long p2), .second, .val (.int p3), .val (.long (-1 : Int64)), .second, .val (.long (p1 &&& (9223372036854775807 : Int64))), .second, .val (.long (-1 : Int64)), .second, .val (.int 1)] [(.int 1)])
        subst hKK
        exact own_retN X13 hx hlk (t := .boolean) Bd.returns (by simp) (hb hby at_99) (w := (1 : Int32)) (show nar .boolean (1 : Int32) = 1 from by decide) ⟨rfl, N13⟩ (Nat.le_of_ble_eq_true rfl) (Nat.le_of_ble_eq_true rfl)
set_option maxRecDepth 65536 in
set_option maxHeartbeats 40000000 in
theorem comes_1 {Post : Tables → Env → Array Value → State → Outcome → State → Prop} (hpost : ∀ tb e args s v u, (limb_1_1.after args s (.returned v) u = true ∧ limb_1_2.after args s (.returned v) u = true ∧ True) → FrameEnd s (.returned v) u (Jvm.fieldLocs frame_1_writes args s ++ Jvm.arrayLocs frame_1_arrays args s ++ Jvm.staticLocs frame_1_statics s) 0 0 → Post tb e args s (.returned v) u) :
    ArmFor flags0 classFile x code maxLocals ret World_1 tables_1 room_1 Calls_1 rest_1 Pre_1 Post := by
  intro l hfl _ _ p e ha hc hk s m args below hf hA hF happ hP
  obtain ⟨hcalls, hrest, hpre⟩ := hP
  obtain ⟨-, -, -, hnamed, -, -, -, hat⟩ := (Spec.applies_iff hf).mp happ
  obtain ⟨hg, hn⟩ := and_e (Cond.before_iff.mp (show (Jvm.Cond.and given_1 narrow_1).before args s = true from hpre))
  obtain ⟨gc, g0⟩ := and_e hg
  obtain ⟨u0, g1⟩ := and_e g0
  obtain ⟨u1, g2⟩ := and_e g1
  obtain ⟨w0, w1, w2, rfl⟩ : ∃ w0 w1 w2 : Value, args = #[w0, w1, w2] := by
    have hs : args.size = 3 := by simpa [Cond.value, given_1] using gc
    obtain ⟨L⟩ := args
    match L, hs with
    | [w0, w1, w2], _ => exact ⟨w0, w1, w2, rfl⟩
  have hw := fun d (hd : d ∈ tables_1) => atoms_spec (ws := Jvm.Cond.code x code maxLocals ret :: tables_1) hat d (List.mem_cons_of_mem _ hd)
  obtain ⟨i0, ei0⟩ := isL_v u0
  obtain rfl : w0 = (.long i0) := Option.some.inj ei0
  obtain ⟨i1, ei1⟩ := isL_v u1
  obtain rfl : w1 = (.long i1) := Option.some.inj ei1
  obtain ⟨i2, ei2⟩ := is_v g2
  obtain rfl : w2 = (.int i2) := Option.some.inj ei2
  obtain ⟨n, o, h1, h2, h3, _, L, rfl, ⟨rfl, N⟩, hq⟩ := rm_law l s _ hw tables_1 i0 i1 i2 s.heap s.heap.size (Nat.le_refl _) p e ha hc hk s m _ below hf ((Spec.applies_iff_loose hf).mp happ).1 ⟨rfl, State.Warmed39.refl s, rfl⟩ trivial
  refine ⟨n, _, h1, h2, h3, hpost _ _ _ _ _ _ ⟨Cond.after_iff.mpr rfl, Cond.after_iff.mpr (eq_i res_at (Term.int_eval (1)) rfl), trivial⟩ ⟨hq.1, hq.2.1, (hq.2.2.sift fun y hy => Or.inr (N y hy)).mono (by decide) (by decide)⟩⟩
theorem main_1_1 : Claimed_1_1 := comes_1 fun _ _ _ _ _ _ h hF => ⟨h.1, hF⟩
theorem main_1_2 : Claimed_1_2 := comes_1 fun _ _ _ _ _ _ h hF => ⟨h.2.1, hF⟩
end Jvm.Pilot.@@N@@
namespace Jvm.Pilot.@@N@@
open Jvm Jvm.ClassFile Sem Op Lib Jvm.Free Jvm.Stand Jvm.Pilot.@@N@@.Jvm.D
/-! MADE BY PROGRAM (witnessworld.py) out of the Statement's table words and the real class files: 9 classes; the members and pool entries that the words name. The judged class is class 1, her method 1. -/
namespace start1
open Jvm.ClassFile
def u (s : String) : CpInfo := .utf8 (stringToUtf16 s)
/-- a pool by its gaps: so many unusable entries, then the entry; so many at the end -/
def gap : Nat → List CpInfo → List CpInfo
  | 0, r => r
  | n + 1, r => .unusable :: gap n r
def poolList (es : List (Nat × CpInfo)) (last : Nat) : List CpInfo := es.foldr (fun e r => gap e.1 (e.2 :: r)) (gap last [])
def pool (es : List (Nat × CpInfo)) (last : Nat) : Array CpInfo := ⟨poolList es last⟩
def fileOf (pool : Array CpInfo) (this : Nat) (attrs : Array Attribute := #[]) (ms : Array MethodInfo := #[]) (fl : Nat := 33) (sup : Nat := 0) (ifs : Array Nat := #[]) (fds : Array FieldInfo := #[]) : ClassFile where
  minorVersion := 0
  majorVersion := 65
  constantPool := pool
  accessFlags := fl
  thisClass := this
  superClass := sup
  interfaces := ifs
  fields := fds
  methods := ms
  attributes := attrs
def plain (name : String) (sup : Option ClassId) : Class where
  name := name
  kind := .ordinary
  loader := none
  accessFlags := 33
  super := sup
  interfaces := #[]
  cf := none
  fields := #[]
  methods := #[]
  instanceTypes := #[]
  staticTypes := #[]
  resolved := #[]
  callSites := []
  init := .initialized
  statics := none
  mirror := none

def pool0 : Array CpInfo := pool [(5, u "<init>"), (0, u "()V"), (1, .class_ 10), (1, u "java/lang/Object")] 113

def k0m0 : Method := { name := "<init>", desc := "()V", sig := { parameters := [], returnType := none }, accessFlags := 1, code := none }
/-- java/lang/Object -/
def k0 : Class := { plain "java/lang/Object" none with
  accessFlags := 33
  interfaces := #[]
  cf := some (fileOf pool0 8 #[] #[{ accessFlags := 1, nameIndex := 5, descriptorIndex := 6, attributes := #[] }] 33 0 #[] #[])
  fields := #[]
  methods := #[k0m0]
  instanceTypes := #[]
  staticTypes := #[]
  resolved := Array.replicate 124 none
  statics := none }

def pool1 : Array CpInfo := pool [(2, .class_ 4), (1, u "java/lang/Object"), (0, u "<init>"), (0, u "()V"), (0, .long 18446744073709551615), (3, .long 9223372036854775807), (1, .long 9223372036854775808), (1, .methodref 16 17), (0, .class_ 18), (0, .nameAndType 19 20), (0, u "com/example/libpetri/libpetri/Marking"), (0, u "atMost"), (0, u "(JJ)Z"), (0, .class_ 22), (0, u "com/example/libpetri/libpetri/MarkingAtMostPinLaw"), (2, u "law"), (0, u "(JJI)Z")] 3

def k1m0 : Method := { name := "<init>", desc := "()V", sig := { parameters := [], returnType := none }, accessFlags := 1, code := none }
def k1c1 : Code := { maxStack := 6, maxLocals := 12, code := code, exceptionTable := #[], attributes := #[] }
def k1m1 : Method := { name := "law", desc := "(JJI)Z", sig := { parameters := [.long, .long, .int], returnType := some .boolean }, accessFlags := 9, code := some k1c1 }
/-- com/example/libpetri/libpetri/MarkingAtMostPinLaw -/
def k1 : Class := { plain "com/example/libpetri/libpetri/MarkingAtMostPinLaw" (some 0) with
  accessFlags := 49
  interfaces := #[]
  cf := some (fileOf pool1 21 #[] #[{ accessFlags := 1, nameIndex := 5, descriptorIndex := 6, attributes := #[] }, { accessFlags := 9, nameIndex := 25, descriptorIndex := 26, attributes := #[] }] 49 2 #[] #[])
  fields := #[]
  methods := #[k1m0, k1m1]
  instanceTypes := #[]
  staticTypes := #[]
  resolved := Array.replicate 30 none
  statics := none }

def pool2 : Array CpInfo := pool [(2, .class_ 4), (1, u "java/lang/Object"), (3, .class_ 10), (1, u "com/example/libpetri/libpetri/Marking"), (0, u "tokens"), (0, u "[J"), (17, .long 18446744073709551615), (24, u "atMost"), (0, u "(JJ)Z"), (10, u "OMEGA"), (0, u "J")] 39

def k2c0 : Code := { maxStack := 4, maxLocals := 4, code := prog_17_method_9_code, exceptionTable := #[], attributes := #[] }
def k2m0 : Method := { name := "atMost", desc := "(JJ)Z", sig := { parameters := [.long, .long], returnType := some .boolean }, accessFlags := 8, code := some k2c0 }
/-- com/example/libpetri/libpetri/Marking -/
def k2 : Class := { plain "com/example/libpetri/libpetri/Marking" (some 0) with
  accessFlags := 33
  interfaces := #[]
  cf := some (fileOf pool2 8 #[] #[{ accessFlags := 8, nameIndex := 55, descriptorIndex := 56, attributes := #[] }] 33 2 #[] #[{ accessFlags := 24, nameIndex := 67, descriptorIndex := 68, attributes := #[] }, { accessFlags := 18, nameIndex := 11, descriptorIndex := 12, attributes := #[] }])
  fields := #[{ name := "OMEGA", type := .long, accessFlags := 24, slot := 0, constantValue := 0 }, { name := "tokens", type := (.array .long), accessFlags := 18, slot := 0, constantValue := 0 }]
  methods := #[k2m0]
  instanceTypes := #[(.array .long)]
  staticTypes := #[.long]
  resolved := Array.replicate 108 none
  statics := none }

def pool3 : Array CpInfo := pool [(1, u "java/lang/Cloneable"), (0, .class_ 1), (0, u "java/lang/Object"), (0, .class_ 3)] 3

/-- java/lang/Cloneable -/
def k3 : Class := { plain "java/lang/Cloneable" (some 0) with
  accessFlags := 1537
  interfaces := #[]
  cf := some (fileOf pool3 2 #[] #[] 1537 4 #[] #[])
  fields := #[]
  methods := #[]
  instanceTypes := #[]
  staticTypes := #[]
  resolved := Array.replicate 8 none
  statics := none }

def pool4 : Array CpInfo := pool [(1, u "java/io/Serializable"), (0, .class_ 1), (0, u "java/lang/Object"), (0, .class_ 3)] 3

/-- java/io/Serializable -/
def k4 : Class := { plain "java/io/Serializable" (some 0) with
  accessFlags := 1537
  interfaces := #[]
  cf := some (fileOf pool4 2 #[] #[] 1537 4 #[] #[])
  fields := #[]
  methods := #[]
  instanceTypes := #[]
  staticTypes := #[]
  resolved := Array.replicate 8 none
  statics := none }

/-- the primitive byte -/
def k5 : Class := { plain "byte" none with kind := .primitive 'B', accessFlags := 0x411 }
/-- [B -/
def k6 : Class := { plain "[B" (some 0) with kind := .array 5 .byte, interfaces := #[3, 4], accessFlags := 1041 }

/-- the primitive int -/
def k7 : Class := { plain "int" none with kind := .primitive 'I', accessFlags := 0x411 }
/-- [I -/
def k8 : Class := { plain "[I" (some 0) with kind := .array 7 .int, interfaces := #[3, 4], accessFlags := 1041 }

def heap : Heap := #[]
def classes : Array Class := #[k0, k1, k2, k3, k4, k5, k6, k7, k8]
def interned : List (Array UInt16 × Addr) := []
def slotsUsed : Nat := 0
def theMethod : MethodId := ⟨1, 1⟩
def args0 : Array Value := #[.long 5, .long 6, .int 3]
def aboutOver (below : List Frame) : State where
  vm := { classes := classes, interned := interned.toArray }
  heap := heap
  slotsUsed := slotsUsed
  threads := #[{ frames := .invoking theMethod args0 :: below }]
def below0 : List Frame := [.native { method := ⟨0, 0⟩, args := #[] }]
def about1 : State := aboutOver below0
def p0 : Program := .bare "" "" ""
def e0 : Env := launch0.env 0 0 0
theorem w_frames : about1.frames = Frame.invoking theMethod args0 :: below0 := rfl
set_option maxRecDepth 65536 in
theorem w_args : argsFit about1.vm theMethod args0 = true := by decide +kernel
set_option maxRecDepth 65536 in
theorem w_heap : heapFits about1 = true := by decide +kernel
set_option maxRecDepth 65536 in
theorem w_runnable : about1.curStatus? = some .runnable := by decide +kernel
set_option maxRecDepth 65536 in
theorem w_alone : about1.alone = true := by decide +kernel
set_option maxRecDepth 65536 in
theorem w_named : about1.methodNamed? x = some theMethod := by decide +kernel
set_option maxRecDepth 65536 in
theorem w_hears : about1.hears theMethod below0 = true := by decide +kernel
set_option maxRecDepth 65536 in
theorem w_ripe : about1.ripe theMethod args0 below0 = true := by decide +kernel
theorem w_running : about1.status = .running := rfl
set_option maxRecDepth 65536 in
theorem w_room : about1.hasRoom e0.platform room_1 = true :=
  launch0.hasRoom_least _ room_1 (by decide +kernel) (by decide +kernel) (by decide +kernel) (by decide +kernel) (by decide +kernel) (by decide +kernel)
theorem allAtoms_all (ts : List Jvm.Cond) (a : Array Jvm.Value) (st : Jvm.State) : (allAtoms ts).before a st = ts.all (fun c => c.before a st) := by
  induction ts with
  | nil => rfl
  | cons c t ih =>
    show (Jvm.Cond.and c (allAtoms t)).before a st = _
    rw [Jvm.Cond.before_and, ih, List.all_cons]
def words1 : List Jvm.Cond := Jvm.Cond.code x code maxLocals ret :: tables_1
/-- a 'code' word, met by the world's own term for the bytes: nothing is compared byte by byte -/
theorem code_word {y : MethodName} {bytes : ByteArray} {mx : Nat} {rt : Option FieldType} {a : Array Value} {s : State} {m : MethodId} {meth : Method} {c : Code} (h1 : s.methodNamed? y = some m) (h2 : s.vm.method? m = some meth) (h3 : meth.code = some c) (h4 : c.code = bytes)
    (h5 : (c.maxLocals == mx && c.exceptionTable.isEmpty && decide (c.maxStack ≤ mostOperands) && decide (meth.sig.returnType = rt) && !meth.locks && decide (parseMethodDescriptor y.desc = some meth.sig)) = true) : (Jvm.Cond.code y bytes mx rt).before a s = true := by
  simp only [Bool.and_eq_true, beq_iff_eq, Bool.not_eq_true', decide_eq_true_eq] at h5
  obtain ⟨⟨⟨⟨⟨g1, g2⟩, g3⟩, g4⟩, g5⟩, g6⟩ := h5
  simp [Cond.before, Cond.holds, Cond.value, h1, h2, h3, h4, g1, g2, g3, g4, g5, g6]
def isCode : Jvm.Cond → Bool
  | .code _ _ _ _ => true
  | _ => false
theorem all_split {L : List Jvm.Cond} {P : Jvm.Cond → Bool} (h1 : L.all (fun c => isCode c || P c) = true) (h2 : ∀ c ∈ L.filter isCode, P c = true) : L.all P = true := by
  refine List.all_eq_true.mpr fun c hc => ?_
  have h := List.all_eq_true.mp h1 c hc
  rcases Bool.eq_false_or_eq_true (isCode c) with hi | hi
  · exact h2 c (List.mem_filter.mpr ⟨hc, hi⟩)
  · simpa [hi] using h
set_option maxRecDepth 65536 in
theorem w_c0 : (Jvm.Cond.code x code maxLocals ret).before args0 about1 = true := code_word (m := ⟨1, 1⟩) (meth := k1m1) (c := k1c1) (by decide +kernel) rfl rfl rfl (by decide +kernel)
set_option maxRecDepth 65536 in
theorem w_c1 : (Jvm.Cond.code ({ cls := "com/example/libpetri/libpetri/Marking", name := "atMost", desc := "(JJ)Z" } : Jvm.MethodName) prog_17_method_9_code (4 : Nat) (Option.some Jvm.ClassFile.FieldType.boolean)).before args0 about1 = true := code_word (m := ⟨2, 0⟩) (meth := k2m0) (c := k2c0) (by decide +kernel) rfl rfl rfl (by decide +kernel)
def codes1 : List Jvm.Cond := [Jvm.Cond.code x code maxLocals ret, Jvm.Cond.code ({ cls := "com/example/libpetri/libpetri/Marking", name := "atMost", desc := "(JJ)Z" } : Jvm.MethodName) prog_17_method_9_code (4 : Nat) (Option.some Jvm.ClassFile.FieldType.boolean)]
set_option maxRecDepth 65536 in
theorem codes_eq : words1.filter isCode = codes1 := rfl
theorem w_codes : ∀ c ∈ words1.filter isCode, c.before args0 about1 = true := by
  rw [codes_eq]
  intro c hc
  simp only [codes1, List.mem_cons, List.not_mem_nil, or_false] at hc
  rcases hc with rfl | rfl
  · exact w_c0
  · exact w_c1
set_option maxRecDepth 65536 in
theorem w_t1 : words1.all (fun c => isCode c || c.before args0 about1) = true := by decide +kernel
theorem w_tables : (allAtoms (Jvm.Cond.code x code maxLocals ret :: tables_1)).before args0 about1 = true := by
  rw [allAtoms_all]
  show words1.all (fun c => c.before args0 about1) = true
  refine all_split ?_ w_codes
  rw [w_t1]
set_option maxRecDepth 65536 in
theorem w_case : (Jvm.Cond.and given_1 narrow_1).before args0 about1 = true := by decide +kernel
theorem w_applies : (headSpec (Jvm.Cond.code x code maxLocals ret :: tables_1) room_1).applies x e0.platform about1 = true :=
  (Spec.applies_iff w_frames).mpr ⟨w_running, w_runnable, w_alone, w_named, w_hears, w_ripe, w_room, w_tables⟩
theorem atStart : AtStart classFile x code maxLocals ret World_1 tables_1 room_1 Calls_1 rest_1 Pre_1 launch0 p0 e0 about1 theMethod args0 below0 :=
  ⟨lists_1, trivial, launch0.admits_env _ _ _, launch0.least_env, fairChoices_fair.cas, fairChoices_fair.clock, w_frames, w_args, w_heap, w_applies, trivial, trivial, w_case⟩
end start1
theorem witness_1 : WitnessClaimed_1 := ⟨start1.p0, start1.e0, start1.about1, start1.theMethod, start1.args0, start1.below0, start1.atStart⟩
end Jvm.Pilot.@@N@@
