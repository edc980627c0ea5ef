import JvmDerived
import JvmDerived.Pilot.@@N@@Statement
import JvmDerived.Pilot.@@N@@Code
set_option linter.unusedVariables false
set_option linter.unusedSimpArgs false
namespace Jvm.Pilot.@@N@@
open Jvm Jvm.ClassFile Sem Op Lib Jvm.Free Jvm.Stand Jvm.LawKit Jvm.RoadKit Bundle Jvm.Pilot.@@N@@.Jvm.D
section OwnKit
/-- from the frame f at T the run comes to an end that K takes -/
def own_Go (p : Program) (e : Env) (below : List Frame) (K : Outcome → State → Prop) (T : State) (f : JFrame) : Prop :=
  ∃ s₂ o, Steps p.tables e below (T.setTop f) s₂ ∧ s₂.status = .running ∧ Ended s₂ below o ∧ K o s₂
def own_K (s : State) (Q : Option Value → Heap → List Loc → Prop) (cc ss : Nat) (o : Outcome) (U : State) : Prop :=
  ∃ v L, o = .returned v ∧ Q v U.heap L ∧ FrameEnd s o U L cc ss
variable {p : Program} {l : Launch} {e : Env} {R : Room} {s : State} {m : MethodId} {args : Array Value} {below : List Frame} {meth : Method} {c : Code} {T T' : State} {locs : List Loc} {cells slots : Nat} {K : Outcome → State → Prop} {Q : Option Value → Heap → List Loc → Prop} {cc ss : Nat} {f f' : JFrame}
theorem own_of (h : ∀ t, Steps p.tables e below (T'.setTop f') t → Steps p.tables e below (T.setTop f) t) (k : own_Go p e below K T' f') : own_Go p e below K T f := by
  obtain ⟨s2, o, h1, r⟩ := k
  exact ⟨s2, o, h _ h1, r⟩
theorem own_at (h : ∀ t, Steps p.tables e below (T.setTop f') t → Steps p.tables e below (T.setTop f) t) (k : own_Go p e below K T f') : own_Go p e below K T f := own_of h k
theorem own_cast (q : f = f') (k : own_Go p e below K T f') : own_Go p e below K T f := q ▸ k
theorem own_end (X : Stand p l e R s m args below meth c T locs cells slots) (hlk : meth.locks = false) {v : Option Value} (hv : meth.sig.returnType = none → v = none) (hq : Q v T.heap locs) (h1 : cells ≤ cc) (h2 : slots ≤ ss)
    (hs : ∀ fs, (∀ (f : JFrame) (acts : List Action), f.method = m → f.locked = none → f.entered = [] → (doReturn e (T.setTop f) acts v).1 = T.setFrames fs) → Steps p.tables e below (T.setTop f) (T.setFrames fs)) : own_Go p e below (own_K s Q cc ss) T f := by
  obtain ⟨fs, hr, hrun, hended, hW, hsame⟩ := X.leave (v := v) hv hlk
  exact ⟨_, _, hs fs hr, hrun, hended, _, _, rfl, hq, ⟨_, rfl⟩, hW, hsame.mono h1 h2⟩
theorem own_retN (X : Stand p l e R s m args below meth c T locs cells slots) (hx : p.tables.exec = Jvm.exec) (hlk : meth.locks = false) {pc : Nat} {Ls : Array Slot} {z w : Int32} {t : FieldType} {rest : List Value} (hret : meth.sig.returnType = some t) (ht : t = .boolean ∨ t = .byte ∨ t = .char ∨ t = .short)
    (hd : decode c.code pc = .ok (.ireturn, 1)) (hw : nar t z = w) (hq : Q (some (.int w)) T.heap locs) (h1 : cells ≤ cc) (h2 : slots ≤ ss) : own_Go p e below (own_K s Q cc ss) T (mkF m pc Ls (.int z :: rest)) := by
  subst hw
  exact own_end X hlk (fun h => by rw [hret] at h; cases h) hq h1 h2 fun fs hr => retN X hx hret ht hd hr
theorem own_retI (X : Stand p l e R s m args below meth c T locs cells slots) (hx : p.tables.exec = Jvm.exec) (hlk : meth.locks = false) {pc : Nat} {Ls : Array Slot} {z w : Int32} {rest : List Value} (hret : meth.sig.returnType = some .int)
    (hd : decode c.code pc = .ok (.ireturn, 1)) (hw : z = w) (hq : Q (some (.int w)) T.heap locs) (h1 : cells ≤ cc) (h2 : slots ≤ ss) : own_Go p e below (own_K s Q cc ss) T (mkF m pc Ls (.int z :: rest)) := by
  subst hw
  refine own_end X hlk (fun h => by rw [hret] at h; cases h) hq h1 h2 fun fs hr => ?_
  have hm' : T.vm.method? m = some meth := X.method'
  have hn : narrow .int (.int z) = .int z := rfl
  show Steps p.tables e below (T.setTop { method := m, pc := pc, locals := Ls, stack := _ :: rest, locked := none }) _
  jvm_step X.here [X.here.top, hx, hd, hm', hret, hn]
  first | (intro acts; rw [hr _ acts rfl rfl rfl]) | rw [hr _ _ rfl rfl rfl]
  exact Steps.refl _
theorem own_retJ (X : Stand p l e R s m args below meth c T locs cells slots) (hx : p.tables.exec = Jvm.exec) (hlk : meth.locks = false) {pc : Nat} {Ls : Array Slot} {z w : Int64} (hret : meth.sig.returnType = some .long)
    (hd : decode c.code pc = .ok (.lreturn, 1)) (hw : z = w) (hq : Q (some (.long w)) T.heap locs) (h1 : cells ≤ cc) (h2 : slots ≤ ss) : own_Go p e below (own_K s Q cc ss) T (mkF m pc Ls [.long z]) := by
  subst hw
  exact own_end X hlk (fun h => by rw [hret] at h; cases h) hq h1 h2 fun fs hr => X.lreturnOut hx hret hd hr
theorem own_retA (X : Stand p l e R s m args below meth c T locs cells slots) (hx : p.tables.exec = Jvm.exec) (hlk : meth.locks = false) {pc : Nat} {Ls : Array Slot} {z : Value} {ty : FieldType} {rest : List Value} (hz : z.isRef = true) (hret : meth.sig.returnType = some ty) (hty : ty.isReference = true)
    (hd : decode c.code pc = .ok (.areturn, 1)) (hq : Q (some z) T.heap locs) (h1 : cells ≤ cc) (h2 : slots ≤ ss) : own_Go p e below (own_K s Q cc ss) T (mkF m pc Ls (z :: rest)) := by
  refine own_end X hlk (fun h => by rw [hret] at h; cases h) hq h1 h2 fun fs hr => ?_
  have hm' : T.vm.method? m = some meth := X.method'
  show Steps p.tables e below (T.setTop { method := m, pc := pc, locals := Ls, stack := _ :: rest, locked := none }) _
  jvm_step X.here [X.here.top, hx, hd, hm', hret, hz, hty]
  first | (intro acts; rw [hr _ acts rfl rfl rfl]) | rw [hr _ _ rfl rfl rfl]
  exact Steps.refl _
theorem own_retV (X : Stand p l e R s m args below meth c T locs cells slots) (hx : p.tables.exec = Jvm.exec) (hlk : meth.locks = false) {pc : Nat} {Ls : Array Slot} (hret : meth.sig.returnType = none)
    (hd : decode c.code pc = .ok (.return_, 1)) (hq : Q none T.heap locs) (h1 : cells ≤ cc) (h2 : slots ≤ ss) : own_Go p e below (own_K s Q cc ss) T (mkF m pc Ls []) :=
  own_end X hlk (fun _ => rfl) hq h1 h2 fun fs hr => X.returnOut hx hret hd hr
theorem own_ne {i k : Int32} {z : Int} (hz : k.toInt = z) (h : ¬ i = k) : ¬ (z = i.toInt) := fun q => h (Int32.toInt_inj.mp (q.symm.trans hz.symm))
theorem own_lsw {tb : Tables} [Ours tb] {target : State} {g : JFrame} (h : At T m c below) (hx : tb.exec = Jvm.exec) (hg : g.method = m) {dflt o : Int} {prs : Array (Int × Int)} {len pc0 pc' : Nat} (hpc : g.pc = pc0) (hd : decode c.code g.pc = .ok (.lookupswitch dflt prs, len)) {i : Int32} {rest : List Value} (hs : g.stack = .int i :: rest)
    (hso : (prs.toList.zip (prs.toList.drop 1)).all (fun (a, next) => a.1 < next.1) = true) (hof : lookupswitch.offset prs.toList dflt i.toInt = o) (ho : 0 ≤ (pc0 : Int) + o) (hp : ((pc0 : Int) + o).toNat = pc')
    (hr : Steps tb e below (T.setTop { g with pc := pc', stack := rest }) target) : Steps tb e below (T.setTop g) target := by
  subst hg hpc hp hof
  jvm_step h [h.top, hx, hd, hs, ho, lookupswitch.wp_chain]
  exact ⟨by simpa using hso, hr⟩
theorem own_nar01 {z : Int32} (h : z = 0 ∨ z = 1) : nar .boolean z = z := by rcases h with rfl | rfl <;> decide
theorem own_narB (x : Int32) : nar .byte x.toInt8.toInt32 = x.toInt8.toInt32 := Value.int.inj (Jvm.Free.XT.narrow_b x)
theorem own_narC (x : Int32) : nar .char x.toUInt32.toUInt16.toUInt32.toInt32 = x.toUInt32.toUInt16.toUInt32.toInt32 := Value.int.inj (Jvm.Free.XT.narrow_c x)
end OwnKit
/-- a body that writes nothing and returns w -/
def own_P (w : Value) (h0 : Heap) (n0 : Nat) (v : Option Value) (h : Heap) (L : List Loc) : Prop := v = some w ∧ Fr n0 L ∧ h = h0
theorem pn_com_example_oyster_oyster_core_form_NamedTest : plainName "com/example/oyster/oyster/core/form/NamedTest" = true := by first | (simp [plainName, overriddenIn]; done) | decide +kernel
theorem ef_prog_119_2 (m : MethodId) (x0 : Int32) (x1 : Int32) (x2 : Int32) (x3 : Int32) : entryFrame m #[(.int x0), (.int x1), (.int x2), (.int x3)] 4 = mkF m 0 #[.val (.int x0), .val (.int x1), .val (.int x2), .val (.int x3)] [] := by first | (simp [entryFrame, mkF, argsToLocals, Value.category]; done) | rfl
theorem d_prog_119_2_0 : decode prog_119_method_2_code 0 = .ok (.iload_n 0, 1) := by decide +kernel
theorem d_prog_119_2_1 : decode prog_119_method_2_code 1 = .ok (.ifCond .eq 7, 3) := by decide +kernel
theorem d_prog_119_2_8 : decode prog_119_method_2_code 8 = .ok (.iconst 0, 1) := by decide +kernel
theorem d_prog_119_2_9 : decode prog_119_method_2_code 9 = .ok (.iload_n 0, 1) := by decide +kernel
theorem d_prog_119_2_10 : decode prog_119_method_2_code 10 = .ok (.ifCond .eq 11, 3) := by decide +kernel
theorem d_prog_119_2_21 : decode prog_119_method_2_code 21 = .ok (.iconst 0, 1) := by decide +kernel
theorem d_prog_119_2_22 : decode prog_119_method_2_code 22 = .ok (.ior, 1) := by decide +kernel
theorem d_prog_119_2_23 : decode prog_119_method_2_code 23 = .ok (.iload_n 2, 1) := by decide +kernel
theorem d_prog_119_2_24 : decode prog_119_method_2_code 24 = .ok (.ifCond .eq 7, 3) := by decide +kernel
theorem d_prog_119_2_31 : decode prog_119_method_2_code 31 = .ok (.iconst 0, 1) := by decide +kernel
theorem d_prog_119_2_32 : decode prog_119_method_2_code 32 = .ok (.ior, 1) := by decide +kernel
theorem d_prog_119_2_33 : decode prog_119_method_2_code 33 = .ok (.iload_n 2, 1) := by decide +kernel
theorem d_prog_119_2_34 : decode prog_119_method_2_code 34 = .ok (.ifCond .eq 12, 3) := by decide +kernel
theorem d_prog_119_2_46 : decode prog_119_method_2_code 46 = .ok (.iconst 0, 1) := by decide +kernel
theorem d_prog_119_2_47 : decode prog_119_method_2_code 47 = .ok (.ior, 1) := by decide +kernel
theorem d_prog_119_2_48 : decode prog_119_method_2_code 48 = .ok (.ireturn, 1) := by decide +kernel
theorem d_prog_119_2_27 : decode prog_119_method_2_code 27 = .ok (.iconst 4, 1) := by decide +kernel
theorem d_prog_119_2_28 : decode prog_119_method_2_code 28 = .ok (.goto 4, 3) := by decide +kernel
theorem d_prog_119_2_37 : decode prog_119_method_2_code 37 = .ok (.iload_n 3, 1) := by decide +kernel
theorem d_prog_119_2_38 : decode prog_119_method_2_code 38 = .ok (.ifCond .eq 8, 3) := by decide +kernel
theorem d_prog_119_2_41 : decode prog_119_method_2_code 41 = .ok (.bipush 8, 2) := by decide +kernel
theorem d_prog_119_2_43 : decode prog_119_method_2_code 43 = .ok (.goto 4, 3) := by decide +kernel
theorem d_prog_119_2_4 : decode prog_119_method_2_code 4 = .ok (.iconst 1, 1) := by decide +kernel
theorem d_prog_119_2_5 : decode prog_119_method_2_code 5 = .ok (.goto 4, 3) := by decide +kernel
theorem d_prog_119_2_13 : decode prog_119_method_2_code 13 = .ok (.iload_n 1, 1) := by decide +kernel
theorem d_prog_119_2_14 : decode prog_119_method_2_code 14 = .ok (.ifCond .eq 7, 3) := by decide +kernel
theorem d_prog_119_2_17 : decode prog_119_method_2_code 17 = .ok (.iconst 2, 1) := by decide +kernel
theorem d_prog_119_2_18 : decode prog_119_method_2_code 18 = .ok (.goto 4, 3) := by decide +kernel
def own_F_prog_119_2 (q1 : Int32) (q2 : Int32) (q3 : Int32) (q4 : Int32) : Int32 := (if q1 = (0 : Int32) then (if q3 = (0 : Int32) then (0 : Int32) else (if q4 = (0 : Int32) then (4 : Int32) else (12 : Int32))) else (if q2 = (0 : Int32) then (if q3 = (0 : Int32) then (1 : Int32) else (if q4 = (0 : Int32) then (5 : Int32) else (13 : Int32))) else (if q3 = (0 : Int32) then (3 : Int32) else (if q4 = (0 : Int32) then (7 : Int32) else (15 : Int32)))))
set_option maxRecDepth 65536 in
set_option maxHeartbeats 40000000 in
theorem rm_prog_119_2 (l : Launch) (Z : State) (a0 : Array Value) (hw : ∀ d ∈ tables_1, d.before a0 Z = true) (ws : List Jvm.Cond) (q1 : Int32) (q2 : Int32) (q3 : Int32) (q4 : Int32)  (h0 : Heap) (n0 : Nat) (Z0 : n0 ≤ h0.size)  :
    MetFree l (⟨"com/example/oyster/oyster/core/form/NamedTest", "ends", "(ZZZZ)I"⟩ : MethodName) (head1 (Jvm.Cond.code (⟨"com/example/oyster/oyster/core/form/NamedTest", "ends", "(ZZZZ)I"⟩ : MethodName) prog_119_method_2_code 4 (some .int) :: ws) ({ frames := 0, cells := 0, slots := 0, locals := 0 } : Room)) (fun a U => a = #[(.int q1), (.int q2), (.int q3), (.int q4)] ∧ Z.Warmed39 U.vm ∧ U.heap = h0) (fun _ _ _ _ _ => True) (fun _ U o U' => ∃ v L, o = .returned v ∧ own_P (.int (own_F_prog_119_2 q1 q2 q3 q4)) h0 n0 v U'.heap L ∧ FrameEnd U o U' L ({ frames := 0, cells := 0, slots := 0, locals := 0 } : Room).cells ({ frames := 0, cells := 0, slots := 0, locals := 0 } : Room).slots) := by
  refine MetFree.of_bodySF (plainFor_of_name pn_com_example_oyster_oyster_core_form_NamedTest) hisR ?_
  intro p e s m args below meth c s₁ Bd hml0 hP hK
  obtain ⟨rfl, hZ, hh⟩ := hP
  have hx := Bd.exec
  have hby := Bd.bytes
  have hlk : meth.locks = false := BodyLoose.notSynchronized Bd
  have hml : c.maxLocals = 4 := hml0
  have hown : s.vm.findClass "com/example/oyster/oyster/core/form/NamedTest" = some m.cls := findClass_of_methodNamed Bd.named
  have hnm := (name_of_methodNamed Bd.named Bd.method).1
  have X0 : Stand p l e ({ frames := 0, cells := 0, slots := 0, locals := 0 } : Room) s m #[(.int q1), (.int q2), (.int q3), (.int q4)] below meth c s₁ [] 0 0 := Stand.of_body Bd
  have e0 : s₁.heap = h0 := by rw [← hh, Bd.state]; rfl
  have N0 := Fr.nil n0
  refine own_cast (K := own_K s (own_P (.int (own_F_prog_119_2 q1 q2 q3 q4)) h0 n0) 0 0) (ef_prog_119_2 m q1 q2 q3 q4) ?_
  generalize hKK : own_K s (own_P (.int (own_F_prog_119_2 q1 q2 q3 q4)) h0 n0) 0 0 = KK
  show own_Go p e below KK s₁ (mkF m 0 #[.val (.int q1), .val (.int q2), .val (.int q3), .val (.int q4)] [])
  refine own_at (fun t k => XS.iloadN X0.here hx rfl (hb hby d_prog_119_2_0) rfl k) ?_
  show own_Go p e below KK s₁ (mkF m 1 #[.val (.int q1), .val (.int q2), .val (.int q3), .val (.int q4)] [(.int q1)])
  by_cases hc1 : q1 = (0 : Int32)
  · refine own_at (fun t k => XS.ifYes X0.here hx rfl (pc0 := 1) (pc' := 8) rfl (hb hby d_prog_119_2_1) rfl (Jvm.Free.XT.i0_eq_t hc1) (by decide) (by decide) k) ?_
    show own_Go p e below KK s₁ (mkF m 8 #[.val (.int q1), .val (.int q2), .val (.int q3), .val (.int q4)] [])
    refine own_at (fun t k => XS.iconst X0.here hx rfl (hb hby d_prog_119_2_8) k) ?_
    show own_Go p e below KK s₁ (mkF m 9 #[.val (.int q1), .val (.int q2), .val (.int q3), .val (.int q4)] [(.int 0)])
    refine own_at (fun t k => XS.iloadN X0.here hx rfl (hb hby d_prog_119_2_9) rfl k) ?_
    show own_Go p e below KK s₁ (mkF m 10 #[.val (.int q1), .val (.int q2), .val (.int q3), .val (.int q4)] [(.int q1), (.int 0)])
    have hc10 : q1 = (0 : Int32) := hc1
    refine own_at (fun t k => XS.ifYes X0.here hx rfl (pc0 := 10) (pc' := 21) rfl (hb hby d_prog_119_2_10) rfl (Jvm.Free.XT.i0_eq_t hc10) (by decide) (by decide) k) ?_
    show own_Go p e below KK s₁ (mkF m 21 #[.val (.int q1), .val (.int q2), .val (.int q3), .val (.int q4)] [(.int 0)])
    refine own_at (fun t k => XS.iconst X0.here hx rfl (hb hby d_prog_119_2_21) k) ?_
    show own_Go p e below KK s₁ (mkF m 22 #[.val (.int q1), .val (.int q2), .val (.int q3), .val (.int q4)] [(.int 0), (.int 0)])
    refine own_at (fun t k => XS.ior X0.here hx rfl (hb hby d_prog_119_2_22) rfl k) ?_
    show own_Go p e below KK s₁ (mkF m 23 #[.val (.int q1), .val (.int q2), .val (.int q3), .val (.int q4)] [(.int ((0 : Int32) ||| (0 : Int32)))])
    rw [show ((0 : Int32) ||| (0 : Int32)) = (0 : Int32) from by decide]
    show own_Go p e below KK s₁ (mkF m 23 #[.val (.int q1), .val (.int q2), .val (.int q3), .val (.int q4)] [(.int 0)])
    refine own_at (fun t k => XS.iloadN X0.here hx rfl (hb hby d_prog_119_2_23) rfl k) ?_
    show own_Go p e below KK s₁ (mkF m 24 #[.val (.int q1), .val (.int q2), .val (.int q3), .val (.int q4)] [(.int q3), (.int 0)])
    by_cases hc24 : q3 = (0 : Int32)
    · refine own_at (fun t k => XS.ifYes X0.here hx rfl (pc0 := 24) (pc' := 31) rfl (hb hby d_prog_119_2_24) rfl (Jvm.Free.XT.i0_eq_t hc24) (by decide) (by decide) k) ?_
      show own_Go p e below KK s₁ (mkF m 31 #[.val (.int q1), .val (.int q2), .val (.int q3), .val (.int q4)] [(.int 0)])
      refine own_at (fun t k => XS.iconst X0.here hx rfl (hb hby d_prog_119_2_31) k) ?_
      show own_Go p e below KK s₁ (mkF m 32 #[.val (.int q1), .val (.int q2), .val (.int q3), .val (.int q4)] [(.int 0), (.int 0)])
      refine own_at (fun t k => XS.ior X0.here hx rfl (hb hby d_prog_119_2_32) rfl k) ?_
      show own_Go p e below KK s₁ (mkF m 33 #[.val (.int q1), .val (.int q2), .val (.int q3), .val (.int q4)] [(.int ((0 : Int32) ||| (0 : Int32)))])
      rw [show ((0 : Int32) ||| (0 : Int32)) = (0 : Int32) from by decide]
      show own_Go p e below KK s₁ (mkF m 33 #[.val (.int q1), .val (.int q2), .val (.int q3), .val (.int q4)] [(.int 0)])
      refine own_at (fun t k => XS.iloadN X0.here hx rfl (hb hby d_prog_119_2_33) rfl k) ?_
      show own_Go p e below KK s₁ (mkF m 34 #[.val (.int q1), .val (.int q2), .val (.int q3), .val (.int q4)] [(.int q3), (.int 0)])
      have hc34 : q3 = (0 : Int32) := hc24
      refine own_at (fun t k => XS.ifYes X0.here hx rfl (pc0 := 34) (pc' := 46) rfl (hb hby d_prog_119_2_34) rfl (Jvm.Free.XT.i0_eq_t hc34) (by decide) (by decide) k) ?_
      show own_Go p e below KK s₁ (mkF m 46 #[.val (.int q1), .val (.int q2), .val (.int q3), .val (.int q4)] [(.int 0)])
      refine own_at (fun t k => XS.iconst X0.here hx rfl (hb hby d_prog_119_2_46) k) ?_
      show own_Go p e below KK s₁ (mkF m 47 #[.val (.int q1), .val (.int q2), .val (.int q3), .val (.int q4)] [(.int 0), (.int 0)])
      refine own_at (fun t k => XS.ior X0.here hx rfl (hb hby d_prog_119_2_47) rfl k) ?_
      show own_Go p e below KK s₁ (mkF m 48 #[.val (.int q1), .val (.int q2), .val (.int q3), .val (.int q4)] [(.int ((0 : Int32) ||| (0 : Int32)))])
      rw [show ((0 : Int32) ||| (0 : Int32)) = (0 : Int32) from by decide]
      show own_Go p e below KK s₁ (mkF m 48 #[.val (.int q1), .val (.int q2), .val (.int q3), .val (.int q4)] [(.int 0)])
      subst hKK
      exact own_retI X0 hx hlk Bd.returns (hb hby d_prog_119_2_48) (w := (own_F_prog_119_2 q1 q2 q3 q4)) ((Eq.refl (0 : Int32)).trans (show (0 : Int32) = (own_F_prog_119_2 q1 q2 q3 q4) from by unfold own_F_prog_119_2; rw [if_pos hc1, if_pos hc24])) ⟨rfl, N0, e0⟩ (Nat.le_of_ble_eq_true rfl) (Nat.le_of_ble_eq_true rfl)
    · refine own_at (fun t k => XS.ifNo X0.here hx rfl (hb hby d_prog_119_2_24) rfl (Jvm.Free.XT.i0_eq_f hc24) k) ?_
      show own_Go p e below KK s₁ (mkF m 27 #[.val (.int q1), .val (.int q2), .val (.int q3), .val (.int q4)] [(.int 0)])
      refine own_at (fun t k => XS.iconst X0.here hx rfl (hb hby d_prog_119_2_27) k) ?_
      show own_Go p e below KK s₁ (mkF m 28 #[.val (.int q1), .val (.int q2), .val (.int q3), .val (.int q4)] [(.int 4), (.int 0)])
      refine own_at (fun t k => XS.goto X0.here hx rfl (pc0 := 28) (pc' := 32) rfl (hb hby d_prog_119_2_28) (by decide) (by decide) k) ?_
      show own_Go p e below KK s₁ (mkF m 32 #[.val (.int q1), .val (.int q2), .val (.int q3), .val (.int q4)] [(.int 4), (.int 0)])
      refine own_at (fun t k => XS.ior X0.here hx rfl (hb hby d_prog_119_2_32) rfl k) ?_
      show own_Go p e below KK s₁ (mkF m 33 #[.val (.int q1), .val (.int q2), .val (.int q3), .val (.int q4)] [(.int ((0 : Int32) ||| (4 : Int32)))])
      rw [show ((0 : Int32) ||| (4 : Int32)) = (4 : Int32) from by decide]
      show own_Go p e below KK s₁ (mkF m 33 #[.val (.int q1), .val (.int q2), .val (.int q3), .val (.int q4)] [(.int 4)])
      refine own_at (fun t k => XS.iloadN X0.here hx rfl (hb hby d_prog_119_2_33) rfl k) ?_
      show own_Go p e below KK s₁ (mkF m 34 #[.val (.int q1), .val (.int q2), .val (.int q3), .val (.int q4)] [(.int q3), (.int 4)])
      have hc34 : ¬ (q3 = (0 : Int32)) := hc24
      refine own_at (fun t k => XS.ifNo X0.here hx rfl (hb hby d_prog_119_2_34) rfl (Jvm.Free.XT.i0_eq_f hc34) k) ?_
      show own_Go p e below KK s₁ (mkF m 37 #[.val (.int q1), .val (.int q2), .val (.int q3), .val (.int q4)] [(.int 4)])
      refine own_at (fun t k => XS.iloadN X0.here hx rfl (hb hby d_prog_119_2_37) rfl k) ?_
      show own_Go p e below KK s₁ (mkF m 38 #[.val (.int q1), .val (.int q2), .val (.int q3), .val (.int q4)] [(.int q4), (.int 4)])
      by_cases hc38 : q4 = (0 : Int32)
      · refine own_at (fun t k => XS.ifYes X0.here hx rfl (pc0 := 38) (pc' := 46) rfl (hb hby d_prog_119_2_38) rfl (Jvm.Free.XT.i0_eq_t hc38) (by decide) (by decide) k) ?_
        show own_Go p e below KK s₁ (mkF m 46 #[.val (.int q1), .val (.int q2), .val (.int q3), .val (.int q4)] [(.int 4)])
        refine own_at (fun t k => XS.iconst X0.here hx rfl (hb hby d_prog_119_2_46) k) ?_
        show own_Go p e below KK s₁ (mkF m 47 #[.val (.int q1), .val (.int q2), .val (.int q3), .val (.int q4)] [(.int 0), (.int 4)])
        refine own_at (fun t k => XS.ior X0.here hx rfl (hb hby d_prog_119_2_47) rfl k) ?_
        show own_Go p e below KK s₁ (mkF m 48 #[.val (.int q1), .val (.int q2), .val (.int q3), .val (.int q4)] [(.int ((4 : Int32) ||| (0 : Int32)))])
        rw [show ((4 : Int32) ||| (0 : Int32)) = (4 : Int32) from by decide]
        show own_Go p e below KK s₁ (mkF m 48 #[.val (.int q1), .val (.int q2), .val (.int q3), .val (.int q4)] [(.int 4)])
        subst hKK
        exact own_retI X0 hx hlk Bd.returns (hb hby d_prog_119_2_48) (w := (own_F_prog_119_2 q1 q2 q3 q4)) ((Eq.refl (4 : Int32)).trans (show (4 : Int32) = (own_F_prog_119_2 q1 q2 q3 q4) from by unfold own_F_prog_119_2; rw [if_pos hc1, if_neg hc24, if_pos hc38])) ⟨rfl, N0, e0⟩ (Nat.le_of_ble_eq_true rfl) (Nat.le_of_ble_eq_true rfl)
      · refine own_at (fun t k => XS.ifNo X0.here hx rfl (hb hby d_prog_119_2_38) rfl (Jvm.Free.XT.i0_eq_f hc38) k) ?_
        show own_Go p e below KK s₁ (mkF m 41 #[.val (.int q1), .val (.int q2), .val (.int q3), .val (.int q4)] [(.int 4)])
        refine own_at (fun t k => XS.bipush X0.here hx rfl (hb hby d_prog_119_2_41) k) ?_
        show own_Go p e below KK s₁ (mkF m 43 #[.val (.int q1), .val (.int q2), .val (.int q3), .val (.int q4)] [(.int 8), (.int 4)])
        refine own_at (fun t k => XS.goto X0.here hx rfl (pc0 := 43) (pc' := 47) rfl (hb hby d_prog_119_2_43) (by decide) (by decide) k) ?_
        show own_Go p e below KK s₁ (mkF m 47 #[.val (.int q1), .val (.int q2), .val (.int q3), .val (.int q4)] [(.int 8), (.int 4)])
        refine own_at (fun t k => XS.ior X0.here hx rfl (hb hby d_prog_119_2_47) rfl k) ?_
        show own_Go p e below KK s₁ (mkF m 48 #[.val (.int q1), .val (.int q2), .val (.int q3), .val (.int q4)] [(.int ((4 : Int32) ||| (8 : Int32)))])
        rw [show ((4 : Int32) ||| (8 : Int32)) = (12 : Int32) from by decide]
        show own_Go p e below KK s₁ (mkF m 48 #[.val (.int q1), .val (.int q2), .val (.int q3), .val (.int q4)] [(.int 12)])
        subst hKK
        exact own_retI X0 hx hlk Bd.returns (hb hby d_prog_119_2_48) (w := (own_F_prog_119_2 q1 q2 q3 q4)) ((Eq.refl (12 : Int32)).trans (show (12 : Int32) = (own_F_prog_119_2 q1 q2 q3 q4) from by unfold own_F_prog_119_2; rw [if_pos hc1, if_neg hc24, if_neg hc38])) ⟨rfl, N0, e0⟩ (Nat.le_of_ble_eq_true rfl) (Nat.le_of_ble_eq_true rfl)
  · refine own_at (fun t k => XS.ifNo X0.here hx rfl (hb hby d_prog_119_2_1) rfl (Jvm.Free.XT.i0_eq_f hc1) k) ?_
    show own_Go p e below KK s₁ (mkF m 4 #[.val (.int q1), .val (.int q2), .val (.int q3), .val (.int q4)] [])
    refine own_at (fun t k => XS.iconst X0.here hx rfl (hb hby d_prog_119_2_4) k) ?_
    show own_Go p e below KK s₁ (mkF m 5 #[.val (.int q1), .val (.int q2), .val (.int q3), .val (.int q4)] [(.int 1)])
    refine own_at (fun t k => XS.goto X0.here hx rfl (pc0 := 5) (pc' := 9) rfl (hb hby d_prog_119_2_5) (by decide) (by decide) k) ?_
    show own_Go p e below KK s₁ (mkF m 9 #[.val (.int q1), .val (.int q2), .val (.int q3), .val (.int q4)] [(.int 1)])
    refine own_at (fun t k => XS.iloadN X0.here hx rfl (hb hby d_prog_119_2_9) rfl k) ?_
    show own_Go p e below KK s₁ (mkF m 10 #[.val (.int q1), .val (.int q2), .val (.int q3), .val (.int q4)] [(.int q1), (.int 1)])
    have hc10 : ¬ (q1 = (0 : Int32)) := hc1
    refine own_at (fun t k => XS.ifNo X0.here hx rfl (hb hby d_prog_119_2_10) rfl (Jvm.Free.XT.i0_eq_f hc10) k) ?_
    show own_Go p e below KK s₁ (mkF m 13 #[.val (.int q1), .val (.int q2), .val (.int q3), .val (.int q4)] [(.int 1)])
    refine own_at (fun t k => XS.iloadN X0.here hx rfl (hb hby d_prog_119_2_13) rfl k) ?_
    show own_Go p e below KK s₁ (mkF m 14 #[.val (.int q1), .val (.int q2), .val (.int q3), .val (.int q4)] [(.int q2), (.int 1)])
    by_cases hc14 : q2 = (0 : Int32)
    · refine own_at (fun t k => XS.ifYes X0.here hx rfl (pc0 := 14) (pc' := 21) rfl (hb hby d_prog_119_2_14) rfl (Jvm.Free.XT.i0_eq_t hc14) (by decide) (by decide) k) ?_
      show own_Go p e below KK s₁ (mkF m 21 #[.val (.int q1), .val (.int q2), .val (.int q3), .val (.int q4)] [(.int 1)])
      refine own_at (fun t k => XS.iconst X0.here hx rfl (hb hby d_prog_119_2_21) k) ?_
      show own_Go p e below KK s₁ (mkF m 22 #[.val (.int q1), .val (.int q2), .val (.int q3), .val (.int q4)] [(.int 0), (.int 1)])
      refine own_at (fun t k => XS.ior X0.here hx rfl (hb hby d_prog_119_2_22) rfl k) ?_
      show own_Go p e below KK s₁ (mkF m 23 #[.val (.int q1), .val (.int q2), .val (.int q3), .val (.int q4)] [(.int ((1 : Int32) ||| (0 : Int32)))])
      rw [show ((1 : Int32) ||| (0 : Int32)) = (1 : Int32) from by decide]
      show own_Go p e below KK s₁ (mkF m 23 #[.val (.int q1), .val (.int q2), .val (.int q3), .val (.int q4)] [(.int 1)])
      refine own_at (fun t k => XS.iloadN X0.here hx rfl (hb hby d_prog_119_2_23) rfl k) ?_
      show own_Go p e below KK s₁ (mkF m 24 #[.val (.int q1), .val (.int q2), .val (.int q3), .val (.int q4)] [(.int q3), (.int 1)])
      by_cases hc24 : q3 = (0 : Int32)
      · refine own_at (fun t k => XS.ifYes X0.here hx rfl (pc0 := 24) (pc' := 31) rfl (hb hby d_prog_119_2_24) rfl (Jvm.Free.XT.i0_eq_t hc24) (by decide) (by decide) k) ?_
        show own_Go p e below KK s₁ (mkF m 31 #[.val (.int q1), .val (.int q2), .val (.int q3), .val (.int q4)] [(.int 1)])
        refine own_at (fun t k => XS.iconst X0.here hx rfl (hb hby d_prog_119_2_31) k) ?_
        show own_Go p e below KK s₁ (mkF m 32 #[.val (.int q1), .val (.int q2), .val (.int q3), .val (.int q4)] [(.int 0), (.int 1)])
        refine own_at (fun t k => XS.ior X0.here hx rfl (hb hby d_prog_119_2_32) rfl k) ?_
        show own_Go p e below KK s₁ (mkF m 33 #[.val (.int q1), .val (.int q2), .val (.int q3), .val (.int q4)] [(.int ((1 : Int32) ||| (0 : Int32)))])
        rw [show ((1 : Int32) ||| (0 : Int32)) = (1 : Int32) from by decide]
        show own_Go p e below KK s₁ (mkF m 33 #[.val (.int q1), .val (.int q2), .val (.int q3), .val (.int q4)] [(.int 1)])
        refine own_at (fun t k => XS.iloadN X0.here hx rfl (hb hby d_prog_119_2_33) rfl k) ?_
        show own_Go p e below KK s₁ (mkF m 34 #[.val (.int q1), .val (.int q2), .val (.int q3), .val (.int q4)] [(.int q3), (.int 1)])
        have hc34 : q3 = (0 : Int32) := hc24
        refine own_at (fun t k => XS.ifYes X0.here hx rfl (pc0 := 34) (pc' := 46) rfl (hb hby d_prog_119_2_34) rfl (Jvm.Free.XT.i0_eq_t hc34) (by decide) (by decide) k) ?_
        show own_Go p e below KK s₁ (mkF m 46 #[.val (.int q1), .val (.int q2), .val (.int q3), .val (.int q4)] [(.int 1)])
        refine own_at (fun t k => XS.iconst X0.here hx rfl (hb hby d_prog_119_2_46) k) ?_
        show own_Go p e below KK s₁ (mkF m 47 #[.val (.int q1), .val (.int q2), .val (.int q3), .val (.int q4)] [(.int 0), (.int 1)])
        refine own_at (fun t k => XS.ior X0.here hx rfl (hb hby d_prog_119_2_47) rfl k) ?_
        show own_Go p e below KK s₁ (mkF m 48 #[.val (.int q1), .val (.int q2), .val (.int q3), .val (.int q4)] [(.int ((1 : Int32) ||| (0 : Int32)))])
        rw [show ((1 : Int32) ||| (0 : Int32)) = (1 : Int32) from by decide]
        show own_Go p e below KK s₁ (mkF m 48 #[.val (.int q1), .val (.int q2), .val (.int q3), .val (.int q4)] [(.int 1)])
        subst hKK
        exact own_retI X0 hx hlk Bd.returns (hb hby d_prog_119_2_48) (w := (own_F_prog_119_2 q1 q2 q3 q4)) ((Eq.refl (1 : Int32)).trans (show (1 : Int32) = (own_F_prog_119_2 q1 q2 q3 q4) from by unfold own_F_prog_119_2; rw [if_neg hc1, if_pos hc14, if_pos hc24])) ⟨rfl, N0, e0⟩ (Nat.le_of_ble_eq_true rfl) (Nat.le_of_ble_eq_true rfl)
      · refine own_at (fun t k => XS.ifNo X0.here hx rfl (hb hby d_prog_119_2_24) rfl (Jvm.Free.XT.i0_eq_f hc24) k) ?_
        show own_Go p e below KK s₁ (mkF m 27 #[.val (.int q1), .val (.int q2), .val (.int q3), .val (.int q4)] [(.int 1)])
        refine own_at (fun t k => XS.iconst X0.here hx rfl (hb hby d_prog_119_2_27) k) ?_
        show own_Go p e below KK s₁ (mkF m 28 #[.val (.int q1), .val (.int q2), .val (.int q3), .val (.int q4)] [(.int 4), (.int 1)])
        refine own_at (fun t k => XS.goto X0.here hx rfl (pc0 := 28) (pc' := 32) rfl (hb hby d_prog_119_2_28) (by decide) (by decide) k) ?_
        show own_Go p e below KK s₁ (mkF m 32 #[.val (.int q1), .val (.int q2), .val (.int q3), .val (.int q4)] [(.int 4), (.int 1)])
        refine own_at (fun t k => XS.ior X0.here hx rfl (hb hby d_prog_119_2_32) rfl k) ?_
        show own_Go p e below KK s₁ (mkF m 33 #[.val (.int q1), .val (.int q2), .val (.int q3), .val (.int q4)] [(.int ((1 : Int32) ||| (4 : Int32)))])
        rw [show ((1 : Int32) ||| (4 : Int32)) = (5 : Int32) from by decide]
        show own_Go p e below KK s₁ (mkF m 33 #[.val (.int q1), .val (.int q2), .val (.int q3), .val (.int q4)] [(.int 5)])
        refine own_at (fun t k => XS.iloadN X0.here hx rfl (hb hby d_prog_119_2_33) rfl k) ?_
        show own_Go p e below KK s₁ (mkF m 34 #[.val (.int q1), .val (.int q2), .val (.int q3), .val (.int q4)] [(.int q3), (.int 5)])
        have hc34 : ¬ (q3 = (0 : Int32)) := hc24
        refine own_at (fun t k => XS.ifNo X0.here hx rfl (hb hby d_prog_119_2_34) rfl (Jvm.Free.XT.i0_eq_f hc34) k) ?_
        show own_Go p e below KK s₁ (mkF m 37 #[.val (.int q1), .val (.int q2), .val (.int q3), .val (.int q4)] [(.int 5)])
        refine own_at (fun t k => XS.iloadN X0.here hx rfl (hb hby d_prog_119_2_37) rfl k) ?_
        show own_Go p e below KK s₁ (mkF m 38 #[.val (.int q1), .val (.int q2), .val (.int q3), .val (.int q4)] [(.int q4), (.int 5)])
        by_cases hc38 : q4 = (0 : Int32)
        · refine own_at (fun t k => XS.ifYes X0.here hx rfl (pc0 := 38) (pc' := 46) rfl (hb hby d_prog_119_2_38) rfl (Jvm.Free.XT.i0_eq_t hc38) (by decide) (by decide) k) ?_
          show own_Go p e below KK s₁ (mkF m 46 #[.val (.int q1), .val (.int q2), .val (.int q3), .val (.int q4)] [(.int 5)])
          refine own_at (fun t k => XS.iconst X0.here hx rfl (hb hby d_prog_119_2_46) k) ?_
          show own_Go p e below KK s₁ (mkF m 47 #[.val (.int q1), .val (.int q2), .val (.int q3), .val (.int q4)] [(.int 0), (.int 5)])
          refine own_at (fun t k => XS.ior X0.here hx rfl (hb hby d_prog_119_2_47) rfl k) ?_
          show own_Go p e below KK s₁ (mkF m 48 #[.val (.int q1), .val (.int q2), .val (.int q3), .val (.int q4)] [(.int ((5 : Int32) ||| (0 : Int32)))])
          rw [show ((5 : Int32) ||| (0 : Int32)) = (5 : Int32) from by decide]
          show own_Go p e below KK s₁ (mkF m 48 #[.val (.int q1), .val (.int q2), .val (.int q3), .val (.int q4)] [(.int 5)])
          subst hKK
          exact own_retI X0 hx hlk Bd.returns (hb hby d_prog_119_2_48) (w := (own_F_prog_119_2 q1 q2 q3 q4)) ((Eq.refl (5 : Int32)).trans (show (5 : Int32) = (own_F_prog_119_2 q1 q2 q3 q4) from by unfold own_F_prog_119_2; rw [if_neg hc1, if_pos hc14, if_neg hc24, if_pos hc38])) ⟨rfl, N0, e0⟩ (Nat.le_of_ble_eq_true rfl) (Nat.le_of_ble_eq_true rfl)
        · refine own_at (fun t k => XS.ifNo X0.here hx rfl (hb hby d_prog_119_2_38) rfl (Jvm.Free.XT.i0_eq_f hc38) k) ?_
          show own_Go p e below KK s₁ (mkF m 41 #[.val (.int q1), .val (.int q2), .val (.int q3), .val (.int q4)] [(.int 5)])
          refine own_at (fun t k => XS.bipush X0.here hx rfl (hb hby d_prog_119_2_41) k) ?_
          show own_Go p e below KK s₁ (mkF m 43 #[.val (.int q1), .val (.int q2), .val (.int q3), .val (.int q4)] [(.int 8), (.int 5)])
          refine own_at (fun t k => XS.goto X0.here hx rfl (pc0 := 43) (pc' := 47) rfl (hb hby d_prog_119_2_43) (by decide) (by decide) k) ?_
          show own_Go p e below KK s₁ (mkF m 47 #[.val (.int q1), .val (.int q2), .val (.int q3), .val (.int q4)] [(.int 8), (.int 5)])
          refine own_at (fun t k => XS.ior X0.here hx rfl (hb hby d_prog_119_2_47) rfl k) ?_
          show own_Go p e below KK s₁ (mkF m 48 #[.val (.int q1), .val (.int q2), .val (.int q3), .val (.int q4)] [(.int ((5 : Int32) ||| (8 : Int32)))])
          rw [show ((5 : Int32) ||| (8 : Int32)) = (13 : Int32) from by decide]
          show own_Go p e below KK s₁ (mkF m 48 #[.val (.int q1), .val (.int q2), .val (.int q3), .val (.int q4)] [(.int 13)])
          subst hKK
          exact own_retI X0 hx hlk Bd.returns (hb hby d_prog_119_2_48) (w := (own_F_prog_119_2 q1 q2 q3 q4)) ((Eq.refl (13 : Int32)).trans (show (13 : Int32) = (own_F_prog_119_2 q1 q2 q3 q4) from by unfold own_F_prog_119_2; rw [if_neg hc1, if_pos hc14, if_neg hc24, if_neg hc38])) ⟨rfl, N0, e0⟩ (Nat.le_of_ble_eq_true rfl) (Nat.le_of_ble_eq_true rfl)
    · refine own_at (fun t k => XS.ifNo X0.here hx rfl (hb hby d_prog_119_2_14) rfl (Jvm.Free.XT.i0_eq_f hc14) k) ?_
      show own_Go p e below KK s₁ (mkF m 17 #[.val (.int q1), .val (.int q2), .val (.int q3), .val (.int q4)] [(.int 1)])
      refine own_at (fun t k => XS.iconst X0.here hx rfl (hb hby d_prog_119_2_17) k) ?_
      show own_Go p e below KK s₁ (mkF m 18 #[.val (.int q1), .val (.int q2), .val (.int q3), .val (.int q4)] [(.int 2), (.int 1)])
      refine own_at (fun t k => XS.goto X0.here hx rfl (pc0 := 18) (pc' := 22) rfl (hb hby d_prog_119_2_18) (by decide) (by decide) k) ?_
      show own_Go p e below KK s₁ (mkF m 22 #[.val (.int q1), .val (.int q2), .val (.int q3), .val (.int q4)] [(.int 2), (.int 1)])
      refine own_at (fun t k => XS.ior X0.here hx rfl (hb hby d_prog_119_2_22) rfl k) ?_
      show own_Go p e below KK s₁ (mkF m 23 #[.val (.int q1), .val (.int q2), .val (.int q3), .val (.int q4)] [(.int ((1 : Int32) ||| (2 : Int32)))])
      rw [show ((1 : Int32) ||| (2 : Int32)) = (3 : Int32) from by decide]
      show own_Go p e below KK s₁ (mkF m 23 #[.val (.int q1), .val (.int q2), .val (.int q3), .val (.int q4)] [(.int 3)])
      refine own_at (fun t k => XS.iloadN X0.here hx rfl (hb hby d_prog_119_2_23) rfl k) ?_
      show own_Go p e below KK s₁ (mkF m 24 #[.val (.int q1), .val (.int q2), .val (.int q3), .val (.int q4)] [(.int q3), (.int 3)])
      by_cases hc24 : q3 = (0 : Int32)
      · refine own_at (fun t k => XS.ifYes X0.here hx rfl (pc0 := 24) (pc' := 31) rfl (hb hby d_prog_119_2_24) rfl (Jvm.Free.XT.i0_eq_t hc24) (by decide) (by decide) k) ?_
        show own_Go p e below KK s₁ (mkF m 31 #[.val (.int q1), .val (.int q2), .val (.int q3), .val (.int q4)] [(.int 3)])
        refine own_at (fun t k => XS.iconst X0.here hx rfl (hb hby d_prog_119_2_31) k) ?_
        show own_Go p e below KK s₁ (mkF m 32 #[.val (.int q1), .val (.int q2), .val (.int q3), .val (.int q4)] [(.int 0), (.int 3)])
        refine own_at (fun t k => XS.ior X0.here hx rfl (hb hby d_prog_119_2_32) rfl k) ?_
        show own_Go p e below KK s₁ (mkF m 33 #[.val (.int q1), .val (.int q2), .val (.int q3), .val (.int q4)] [(.int ((3 : Int32) ||| (0 : Int32)))])
        rw [show ((3 : Int32) ||| (0 : Int32)) = (3 : Int32) from by decide]
        show own_Go p e below KK s₁ (mkF m 33 #[.val (.int q1), .val (.int q2), .val (.int q3), .val (.int q4)] [(.int 3)])
        refine own_at (fun t k => XS.iloadN X0.here hx rfl (hb hby d_prog_119_2_33) rfl k) ?_
        show own_Go p e below KK s₁ (mkF m 34 #[.val (.int q1), .val (.int q2), .val (.int q3), .val (.int q4)] [(.int q3), (.int 3)])
        have hc34 : q3 = (0 : Int32) := hc24
        refine own_at (fun t k => XS.ifYes X0.here hx rfl (pc0 := 34) (pc' := 46) rfl (hb hby d_prog_119_2_34) rfl (Jvm.Free.XT.i0_eq_t hc34) (by decide) (by decide) k) ?_
        show own_Go p e below KK s₁ (mkF m 46 #[.val (.int q1), .val (.int q2), .val (.int q3), .val (.int q4)] [(.int 3)])
        refine own_at (fun t k => XS.iconst X0.here hx rfl (hb hby d_prog_119_2_46) k) ?_
        show own_Go p e below KK s₁ (mkF m 47 #[.val (.int q1), .val (.int q2), .val (.int q3), .val (.int q4)] [(.int 0), (.int 3)])
        refine own_at (fun t k => XS.ior X0.here hx rfl (hb hby d_prog_119_2_47) rfl k) ?_
        show own_Go p e below KK s₁ (mkF m 48 #[.val (.int q1), .val (.int q2), .val (.int q3), .val (.int q4)] [(.int ((3 : Int32) ||| (0 : Int32)))])
        rw [show ((3 : Int32) ||| (0 : Int32)) = (3 : Int32) from by decide]
        show own_Go p e below KK s₁ (mkF m 48 #[.val (.int q1), .val (.int q2), .val (.int q3), .val (.int q4)] [(.int 3)])
        subst hKK
        exact own_retI X0 hx hlk Bd.returns (hb hby d_prog_119_2_48) (w := (own_F_prog_119_2 q1 q2 q3 q4)) ((Eq.refl (3 : Int32)).trans (show (3 : Int32) = (own_F_prog_119_2 q1 q2 q3 q4) from by unfold own_F_prog_119_2; rw [if_neg hc1, if_neg hc14, if_pos hc24])) ⟨rfl, N0, e0⟩ (Nat.le_of_ble_eq_true rfl) (Nat.le_of_ble_eq_true rfl)
      · refine own_at (fun t k => XS.ifNo X0.here hx rfl (hb hby d_prog_119_2_24) rfl (Jvm.Free.XT.i0_eq_f hc24) k) ?_
        show own_Go p e below KK s₁ (mkF m 27 #[.val (.int q1), .val (.int q2), .val (.int q3), .val (.int q4)] [(.int 3)])
        refine own_at (fun t k => XS.iconst X0.here hx rfl (hb hby d_prog_119_2_27) k) ?_
        show own_Go p e below KK s₁ (mkF m 28 #[.val (.int q1), .val (.int q2), .val (.int q3), .val (.int q4)] [(.int 4), (.int 3)])
        refine own_at (fun t k => XS.goto X0.here hx rfl (pc0 := 28) (pc' := 32) rfl (hb hby d_prog_119_2_28) (by decide) (by decide) k) ?_
        show own_Go p e below KK s₁ (mkF m 32 #[.val (.int q1), .val (.int q2), .val (.int q3), .val (.int q4)] [(.int 4), (.int 3)])
        refine own_at (fun t k => XS.ior X0.here hx rfl (hb hby d_prog_119_2_32) rfl k) ?_
        show own_Go p e below KK s₁ (mkF m 33 #[.val (.int q1), .val (.int q2), .val (.int q3), .val (.int q4)] [(.int ((3 : Int32) ||| (4 : Int32)))])
        rw [show ((3 : Int32) ||| (4 : Int32)) = (7 : Int32) from by decide]
        show own_Go p e below KK s₁ (mkF m 33 #[.val (.int q1), .val (.int q2), .val (.int q3), .val (.int q4)] [(.int 7)])
        refine own_at (fun t k => XS.iloadN X0.here hx rfl (hb hby d_prog_119_2_33) rfl k) ?_
        show own_Go p e below KK s₁ (mkF m 34 #[.val (.int q1), .val (.int q2), .val (.int q3), .val (.int q4)] [(.int q3), (.int 7)])
        have hc34 : ¬ (q3 = (0 : Int32)) := hc24
        refine own_at (fun t k => XS.ifNo X0.here hx rfl (hb hby d_prog_119_2_34) rfl (Jvm.Free.XT.i0_eq_f hc34) k) ?_
        show own_Go p e below KK s₁ (mkF m 37 #[.val (.int q1), .val (.int q2), .val (.int q3), .val (.int q4)] [(.int 7)])
        refine own_at (fun t k => XS.iloadN X0.here hx rfl (hb hby d_prog_119_2_37) rfl k) ?_
        show own_Go p e below KK s₁ (mkF m 38 #[.val (.int q1), .val (.int q2), .val (.int q3), .val (.int q4)] [(.int q4), (.int 7)])
        by_cases hc38 : q4 = (0 : Int32)
        · refine own_at (fun t k => XS.ifYes X0.here hx rfl (pc0 := 38) (pc' := 46) rfl (hb hby d_prog_119_2_38) rfl (Jvm.Free.XT.i0_eq_t hc38) (by decide) (by decide) k) ?_
          show own_Go p e below KK s₁ (mkF m 46 #[.val (.int q1), .val (.int q2), .val (.int q3), .val (.int q4)] [(.int 7)])
          refine own_at (fun t k => XS.iconst X0.here hx rfl (hb hby d_prog_119_2_46) k) ?_
          show own_Go p e below KK s₁ (mkF m 47 #[.val (.int q1), .val (.int q2), .val (.int q3), .val (.int q4)] [(.int 0), (.int 7)])
          refine own_at (fun t k => XS.ior X0.here hx rfl (hb hby d_prog_119_2_47) rfl k) ?_
          show own_Go p e below KK s₁ (mkF m 48 #[.val (.int q1), .val (.int q2), .val (.int q3), .val (.int q4)] [(.int ((7 : Int32) ||| (0 : Int32)))])
          rw [show ((7 : Int32) ||| (0 : Int32)) = (7 : Int32) from by decide]
          show own_Go p e below KK s₁ (mkF m 48 #[.val (.int q1), .val (.int q2), .val (.int q3), .val (.int q4)] [(.int 7)])
          subst hKK
          exact own_retI X0 hx hlk Bd.returns (hb hby d_prog_119_2_48) (w := (own_F_prog_119_2 q1 q2 q3 q4)) ((Eq.refl (7 : Int32)).trans (show (7 : Int32) = (own_F_prog_119_2 q1 q2 q3 q4) from by unfold own_F_prog_119_2; rw [if_neg hc1, if_neg hc14, if_neg hc24, if_pos hc38])) ⟨rfl, N0, e0⟩ (Nat.le_of_ble_eq_true rfl) (Nat.le_of_ble_eq_true rfl)
        · refine own_at (fun t k => XS.ifNo X0.here hx rfl (hb hby d_prog_119_2_38) rfl (Jvm.Free.XT.i0_eq_f hc38) k) ?_
          show own_Go p e below KK s₁ (mkF m 41 #[.val (.int q1), .val (.int q2), .val (.int q3), .val (.int q4)] [(.int 7)])
          refine own_at (fun t k => XS.bipush X0.here hx rfl (hb hby d_prog_119_2_41) k) ?_
          show own_Go p e below KK s₁ (mkF m 43 #[.val (.int q1), .val (.int q2), .val (.int q3), .val (.int q4)] [(.int 8), (.int 7)])
          refine own_at (fun t k => XS.goto X0.here hx rfl (pc0 := 43) (pc' := 47) rfl (hb hby d_prog_119_2_43) (by decide) (by decide) k) ?_
          show own_Go p e below KK s₁ (mkF m 47 #[.val (.int q1), .val (.int q2), .val (.int q3), .val (.int q4)] [(.int 8), (.int 7)])
          refine own_at (fun t k => XS.ior X0.here hx rfl (hb hby d_prog_119_2_47) rfl k) ?_
          show own_Go p e below KK s₁ (mkF m 48 #[.val (.int q1), .val (.int q2), .val (.int q3), .val (.int q4)] [(.int ((7 : Int32) ||| (8 : Int32)))])
          rw [show ((7 : Int32) ||| (8 : Int32)) = (15 : Int32) from by decide]
          show own_Go p e below KK s₁ (mkF m 48 #[.val (.int q1), .val (.int q2), .val (.int q3), .val (.int q4)] [(.int 15)])
          subst hKK
          exact own_retI X0 hx hlk Bd.returns (hb hby d_prog_119_2_48) (w := (own_F_prog_119_2 q1 q2 q3 q4)) ((Eq.refl (15 : Int32)).trans (show (15 : Int32) = (own_F_prog_119_2 q1 q2 q3 q4) from by unfold own_F_prog_119_2; rw [if_neg hc1, if_neg hc14, if_neg hc24, if_neg hc38])) ⟨rfl, N0, e0⟩ (Nat.le_of_ble_eq_true rfl) (Nat.le_of_ble_eq_true rfl)
theorem pn_com_example_oyster_oyster_core_form_NamedTestEndsPinLaw : plainName "com/example/oyster/oyster/core/form/NamedTestEndsPinLaw" = true := by first | (simp [plainName, overriddenIn]; done) | decide +kernel
theorem ef_law (m : MethodId) (x0 : Int32) : entryFrame m #[(.int x0)] maxLocals = mkF m 0 #[.val (.int x0), .unset, .unset, .unset, .unset, .unset, .unset, .unset, .unset, .unset, .unset] [] := by first | (simp [entryFrame, mkF, argsToLocals, Value.category, maxLocals]; done) | rfl
theorem pd__ZZZZ_I : parseMethodDescriptor "(ZZZZ)I" = some ⟨[.boolean, .boolean, .boolean, .boolean], some .int⟩ := by decide +kernel
def own_Q (n0 : Nat) (v : Option Value) (h : Heap) (L : List Loc) : Prop := v = some (.int 1) ∧ Fr n0 L
set_option maxRecDepth 65536 in
set_option maxHeartbeats 40000000 in
theorem rm_law (l : Launch) (Z : State) (a0 : Array Value) (hw : ∀ d ∈ tables_1, d.before a0 Z = true) (ws : List Jvm.Cond) (p1 : Int32)  (h0 : Heap) (n0 : Nat) (Z0 : n0 ≤ h0.size)  :
    MetFree l x (head1 (Jvm.Cond.code x code maxLocals ret :: ws) room_1) (fun a U => a = #[(.int p1)] ∧ Z.Warmed39 U.vm ∧ U.heap = h0) (fun _ _ _ _ _ => True) (fun _ U o U' => ∃ v L, o = .returned v ∧ own_Q n0 v U'.heap L ∧ FrameEnd U o U' L room_1.cells room_1.slots) := by
  refine MetFree.of_bodySF (plainFor_of_name pn_com_example_oyster_oyster_core_form_NamedTestEndsPinLaw) hisR ?_
  intro p e s m args below meth c s₁ Bd hml0 hP hK
  obtain ⟨rfl, hZ, hh⟩ := hP
  have hx := Bd.exec
  have hby := Bd.bytes
  have hlk : meth.locks = false := BodyLoose.notSynchronized Bd
  have hml : c.maxLocals = 11 := hml0
  have hown : s.vm.findClass "com/example/oyster/oyster/core/form/NamedTestEndsPinLaw" = some m.cls := findClass_of_methodNamed Bd.named
  have hnm := (name_of_methodNamed Bd.named Bd.method).1
  have X0 : Stand p l e room_1 s m #[(.int p1)] below meth c s₁ [] 0 0 := Stand.of_body Bd
  have e0 : s₁.heap = h0 := by rw [← hh, Bd.state]; rfl
  have N0 := Fr.nil n0
  refine own_cast (K := own_K s (own_Q n0) room_1.cells room_1.slots) (ef_law m p1) ?_
  generalize hKK : own_K s (own_Q n0) room_1.cells room_1.slots = KK
  show own_Go p e below KK s₁ (mkF m 0 #[.val (.int p1), .unset, .unset, .unset, .unset, .unset, .unset, .unset, .unset, .unset, .unset] [])
  refine own_at (fun t k => XS.iloadN X0.here hx rfl (hb hby at_0) rfl k) ?_
  show own_Go p e below KK s₁ (mkF m 1 #[.val (.int p1), .unset, .unset, .unset, .unset, .unset, .unset, .unset, .unset, .unset, .unset] [(.int p1)])
  refine own_at (fun t k => XS.iconst X0.here hx rfl (hb hby at_1) k) ?_
  show own_Go p e below KK s₁ (mkF m 2 #[.val (.int p1), .unset, .unset, .unset, .unset, .unset, .unset, .unset, .unset, .unset, .unset] [(.int 1), (.int p1)])
  refine own_at (fun t k => XS.iand X0.here hx rfl (hb hby at_2) rfl k) ?_
  show own_Go p e below KK s₁ (mkF m 3 #[.val (.int p1), .unset, .unset, .unset, .unset, .unset, .unset, .unset, .unset, .unset, .unset] [(.int (p1 &&& (1 : Int32)))])
  by_cases hc3 : (p1 &&& (1 : Int32)) = (0 : Int32)
  · refine own_at (fun t k => XS.ifYes X0.here hx rfl (pc0 := 3) (pc' := 10) rfl (hb hby at_3) rfl (Jvm.Free.XT.i0_eq_t hc3) (by decide) (by decide) k) ?_
    show own_Go p e below KK s₁ (mkF m 10 #[.val (.int p1), .unset, .unset, .unset, .unset, .unset, .unset, .unset, .unset, .unset, .unset] [])
    refine own_at (fun t k => XS.iconst X0.here hx rfl (hb hby at_10) k) ?_
    show own_Go p e below KK s₁ (mkF m 11 #[.val (.int p1), .unset, .unset, .unset, .unset, .unset, .unset, .unset, .unset, .unset, .unset] [(.int 0)])
    refine own_at (fun t k => XS.istoreN X0.here hx rfl (hb hby at_11) rfl (l' := #[.val (.int p1), .val (.int 0), .unset, .unset, .unset, .unset, .unset, .unset, .unset, .unset, .unset]) rfl k) ?_
    show own_Go p e below KK s₁ (mkF m 12 #[.val (.int p1), .val (.int 0), .unset, .unset, .unset, .unset, .unset, .unset, .unset, .unset, .unset] [])
    refine own_at (fun t k => XS.iloadN X0.here hx rfl (hb hby at_12) rfl k) ?_
    show own_Go p e below KK s₁ (mkF m 13 #[.val (.int p1), .val (.int 0), .unset, .unset, .unset, .unset, .unset, .unset, .unset, .unset, .unset] [(.int p1)])
    refine own_at (fun t k => XS.iconst X0.here hx rfl (hb hby at_13) k) ?_
    show own_Go p e below KK s₁ (mkF m 14 #[.val (.int p1), .val (.int 0), .unset, .unset, .unset, .unset, .unset, .unset, .unset, .unset, .unset] [(.int 2), (.int p1)])
    refine own_at (fun t k => XS.iand X0.here hx rfl (hb hby at_14) rfl k) ?_
    show own_Go p e below KK s₁ (mkF m 15 #[.val (.int p1), .val (.int 0), .unset, .unset, .unset, .unset, .unset, .unset, .unset, .unset, .unset] [(.int (p1 &&& (2 : Int32)))])
    by_cases hc15 : (p1 &&& (2 : Int32)) = (0 : Int32)
    · refine own_at (fun t k => XS.ifYes X0.here hx rfl (pc0 := 15) (pc' := 22) rfl (hb hby at_15) rfl (Jvm.Free.XT.i0_eq_t hc15) (by decide) (by decide) k) ?_
      show own_Go p e below KK s₁ (mkF m 22 #[.val (.int p1), .val (.int 0), .unset, .unset, .unset, .unset, .unset, .unset, .unset, .unset, .unset] [])
      refine own_at (fun t k => XS.iconst X0.here hx rfl (hb hby at_22) k) ?_
      show own_Go p e below KK s₁ (mkF m 23 #[.val (.int p1), .val (.int 0), .unset, .unset, .unset, .unset, .unset, .unset, .unset, .unset, .unset] [(.int 0)])
      refine own_at (fun t k => XS.istoreN X0.here hx rfl (hb hby at_23) rfl (l' := #[.val (.int p1), .val (.int 0), .val (.int 0), .unset, .unset, .unset, .unset, .unset, .unset, .unset, .unset]) rfl k) ?_
      show own_Go p e below KK s₁ (mkF m 24 #[.val (.int p1), .val (.int 0), .val (.int 0), .unset, .unset, .unset, .unset, .unset, .unset, .unset, .unset] [])
      refine own_at (fun t k => XS.iloadN X0.here hx rfl (hb hby at_24) rfl k) ?_
      show own_Go p e below KK s₁ (mkF m 25 #[.val (.int p1), .val (.int 0), .val (.int 0), .unset, .unset, .unset, .unset, .unset, .unset, .unset, .unset] [(.int p1)])
      refine own_at (fun t k => XS.iconst X0.here hx rfl (hb hby at_25) k) ?_
      show own_Go p e below KK s₁ (mkF m 26 #[.val (.int p1), .val (.int 0), .val (.int 0), .unset, .unset, .unset, .unset, .unset, .unset, .unset, .unset] [(.int 4), (.int p1)])
      refine own_at (fun t k => XS.iand X0.here hx rfl (hb hby at_26) rfl k) ?_
      show own_Go p e below KK s₁ (mkF m 27 #[.val (.int p1), .val (.int 0), .val (.int 0), .unset, .unset, .unset, .unset, .unset, .unset, .unset, .unset] [(.int (p1 &&& (4 : Int32)))])
      by_cases hc27 : (p1 &&& (4 : Int32)) = (0 : Int32)
      · refine own_at (fun t k => XS.ifYes X0.here hx rfl (pc0 := 27) (pc' := 34) rfl (hb hby at_27) rfl (Jvm.Free.XT.i0_eq_t hc27) (by decide) (by decide) k) ?_
        show own_Go p e below KK s₁ (mkF m 34 #[.val (.int p1), .val (.int 0), .val (.int 0), .unset, .unset, .unset, .unset, .unset, .unset, .unset, .unset] [])
        refine own_at (fun t k => XS.iconst X0.here hx rfl (hb hby at_34) k) ?_
        show own_Go p e below KK s₁ (mkF m 35 #[.val (.int p1), .val (.int 0), .val (.int 0), .unset, .unset, .unset, .unset, .unset, .unset, .unset, .unset] [(.int 0)])
        refine own_at (fun t k => XS.istoreN X0.here hx rfl (hb hby at_35) rfl (l' := #[.val (.int p1), .val (.int 0), .val (.int 0), .val (.int 0), .unset, .unset, .unset, .unset, .unset, .unset, .unset]) rfl k) ?_
        show own_Go p e below KK s₁ (mkF m 36 #[.val (.int p1), .val (.int 0), .val (.int 0), .val (.int 0), .unset, .unset, .unset, .unset, .unset, .unset, .unset] [])
        refine own_at (fun t k => XS.iloadN X0.here hx rfl (hb hby at_36) rfl k) ?_
        show own_Go p e below KK s₁ (mkF m 37 #[.val (.int p1), .val (.int 0), .val (.int 0), .val (.int 0), .unset, .unset, .unset, .unset, .unset, .unset, .unset] [(.int p1)])
        refine own_at (fun t k => XS.bipush X0.here hx rfl (hb hby at_37) k) ?_
        show own_Go p e below KK s₁ (mkF m 39 #[.val (.int p1), .val (.int 0), .val (.int 0), .val (.int 0), .unset, .unset, .unset, .unset, .unset, .unset, .unset] [(.int 8), (.int p1)])
        refine own_at (fun t k => XS.iand X0.here hx rfl (hb hby at_39) rfl k) ?_
        show own_Go p e below KK s₁ (mkF m 40 #[.val (.int p1), .val (.int 0), .val (.int 0), .val (.int 0), .unset, .unset, .unset, .unset, .unset, .unset, .unset] [(.int (p1 &&& (8 : Int32)))])
        by_cases hc40 : (p1 &&& (8 : Int32)) = (0 : Int32)
        · refine own_at (fun t k => XS.ifYes X0.here hx rfl (pc0 := 40) (pc' := 47) rfl (hb hby at_40) rfl (Jvm.Free.XT.i0_eq_t hc40) (by decide) (by decide) k) ?_
          show own_Go p e below KK s₁ (mkF m 47 #[.val (.int p1), .val (.int 0), .val (.int 0), .val (.int 0), .unset, .unset, .unset, .unset, .unset, .unset, .unset] [])
          refine own_at (fun t k => XS.iconst X0.here hx rfl (hb hby at_47) k) ?_
          show own_Go p e below KK s₁ (mkF m 48 #[.val (.int p1), .val (.int 0), .val (.int 0), .val (.int 0), .unset, .unset, .unset, .unset, .unset, .unset, .unset] [(.int 0)])
          refine own_at (fun t k => XS.istore X0.here hx rfl (hb hby at_48) rfl (l' := #[.val (.int p1), .val (.int 0), .val (.int 0), .val (.int 0), .val (.int 0), .unset, .unset, .unset, .unset, .unset, .unset]) rfl k) ?_
          show own_Go p e below KK s₁ (mkF m 50 #[.val (.int p1), .val (.int 0), .val (.int 0), .val (.int 0), .val (.int 0), .unset, .unset, .unset, .unset, .unset, .unset] [])
          refine own_at (fun t k => XS.iloadN X0.here hx rfl (hb hby at_50) rfl k) ?_
          show own_Go p e below KK s₁ (mkF m 51 #[.val (.int p1), .val (.int 0), .val (.int 0), .val (.int 0), .val (.int 0), .unset, .unset, .unset, .unset, .unset, .unset] [(.int 0)])
          refine own_at (fun t k => XS.iloadN X0.here hx rfl (hb hby at_51) rfl k) ?_
          show own_Go p e below KK s₁ (mkF m 52 #[.val (.int p1), .val (.int 0), .val (.int 0), .val (.int 0), .val (.int 0), .unset, .unset, .unset, .unset, .unset, .unset] [(.int 0), (.int 0)])
          refine own_at (fun t k => XS.iloadN X0.here hx rfl (hb hby at_52) rfl k) ?_
          show own_Go p e below KK s₁ (mkF m 53 #[.val (.int p1), .val (.int 0), .val (.int 0), .val (.int 0), .val (.int 0), .unset, .unset, .unset, .unset, .unset, .unset] [(.int 0), (.int 0), (.int 0)])
          refine own_at (fun t k => XS.iload X0.here hx rfl (hb hby at_53) rfl k) ?_
          show own_Go p e below KK s₁ (mkF m 55 #[.val (.int p1), .val (.int 0), .val (.int 0), .val (.int 0), .val (.int 0), .unset, .unset, .unset, .unset, .unset, .unset] [(.int 0), (.int 0), (.int 0), (.int 0)])
          obtain ⟨_, _, ⟨T1, L1, k1, n1⟩, -, X1, ⟨Lc1, hQ1, l1, y1, z1⟩, st1⟩ := Jvm.LawKit.callS X0 hx (y := (⟨"com/example/oyster/oyster/core/form/NamedTest", "ends", "(ZZZZ)I"⟩ : MethodName)) hown (mvT hZ (hw _ (List.mem_of_getElem? (i := 0) rfl))) (mvT hZ (hw _ (List.mem_of_getElem? (i := 1) rfl))) (mvT hZ (hw _ (List.mem_of_getElem? (i := 2) rfl))) (mvT hZ (hw _ (List.mem_of_getElem? (i := 3) rfl))) (by decide) (backOf (W := 0) (rm_prog_119_2 l Z a0 hw [] (0 : Int32) (0 : Int32) (0 : Int32) (0 : Int32)  h0 n0 Z0 ) hZ (hw _ (List.mem_of_getElem? (i := 3) rfl)) (hw _ (List.mem_of_getElem? (i := 2) rfl)) (by decide) (by decide)) (g := (mkF m 55 #[.val (.int p1), .val (.int 0), .val (.int 0), .val (.int 0), .val (.int 0), .unset, .unset, .unset, .unset, .unset, .unset] [(.int 0), (.int 0), (.int 0), (.int 0)])) rfl (by rw [hml]; rfl) (argsL := [(.int 0), (.int 0), (.int 0), (.int 0)]) (rest := []) (lenOf pd__ZZZZ_I rfl) rfl (by show 2 * 0 + _ ≤ _; exact Nat.le_of_eq rfl) (hb hby at_55) (fun _ _ => ⟨rfl, e0, (by decide : 0 + 0 ≤ _), (by decide : 0 + 0 ≤ _)⟩)
          dsimp only [Pt.U, Pt.locs, Pt.cells, Pt.slots] at X1 l1 y1 z1 st1 hQ1
          subst l1 y1 z1
          obtain ⟨rfl, N1q, e1⟩ := hQ1
          rw [show (own_F_prog_119_2 (0 : Int32) (0 : Int32) (0 : Int32) (0 : Int32)) = (0 : Int32) from by decide] at st1
          have N1 := Fr.app N0 N1q
          refine own_of (fun t k => st1 t k) ?_
          show own_Go p e below KK T1 (mkF m 58 #[.val (.int p1), .val (.int 0), .val (.int 0), .val (.int 0), .val (.int 0), .unset, .unset, .unset, .unset, .unset, .unset] [(.int 0)])
          refine own_at (fun t k => XS.istore X1.here hx rfl (hb hby at_58) rfl (l' := #[.val (.int p1), .val (.int 0), .val (.int 0), .val (.int 0), .val (.int 0), .val (.int 0), .unset, .unset, .unset, .unset, .unset]) rfl k) ?_
          show own_Go p e below KK T1 (mkF m 60 #[.val (.int p1), .val (.int 0), .val (.int 0), .val (.int 0), .val (.int 0), .val (.int 0), .unset, .unset, .unset, .unset, .unset] [])
          refine own_at (fun t k => XS.iload X1.here hx rfl (hb hby at_60) rfl k) ?_
          show own_Go p e below KK T1 (mkF m 62 #[.val (.int p1), .val (.int 0), .val (.int 0), .val (.int 0), .val (.int 0), .val (.int 0), .unset, .unset, .unset, .unset, .unset] [(.int 0)])
          refine own_at (fun t k => XS.iconst X1.here hx rfl (hb hby at_62) k) ?_
          show own_Go p e below KK T1 (mkF m 63 #[.val (.int p1), .val (.int 0), .val (.int 0), .val (.int 0), .val (.int 0), .val (.int 0), .unset, .unset, .unset, .unset, .unset] [(.int 1), (.int 0)])
          refine own_at (fun t k => XS.iand X1.here hx rfl (hb hby at_63) rfl k) ?_
          show own_Go p e below KK T1 (mkF m 64 #[.val (.int p1), .val (.int 0), .val (.int 0), .val (.int 0), .val (.int 0), .val (.int 0), .unset, .unset, .unset, .unset, .unset] [(.int ((0 : Int32) &&& (1 : Int32)))])
          rw [show ((0 : Int32) &&& (1 : Int32)) = (0 : Int32) from by decide]
          show own_Go p e below KK T1 (mkF m 64 #[.val (.int p1), .val (.int 0), .val (.int 0), .val (.int 0), .val (.int 0), .val (.int 0), .unset, .unset, .unset, .unset, .unset] [(.int 0)])
          have hc64 : (0 : Int32) = (0 : Int32) := by decide
          refine own_at (fun t k => XS.ifYes X1.here hx rfl (pc0 := 64) (pc' := 71) rfl (hb hby at_64) rfl (Jvm.Free.XT.i0_eq_t hc64) (by decide) (by decide) k) ?_
          show own_Go p e below KK T1 (mkF m 71 #[.val (.int p1), .val (.int 0), .val (.int 0), .val (.int 0), .val (.int 0), .val (.int 0), .unset, .unset, .unset, .unset, .unset] [])
          refine own_at (fun t k => XS.iconst X1.here hx rfl (hb hby at_71) k) ?_
          show own_Go p e below KK T1 (mkF m 72 #[.val (.int p1), .val (.int 0), .val (.int 0), .val (.int 0), .val (.int 0), .val (.int 0), .unset, .unset, .unset, .unset, .unset] [(.int 0)])
          refine own_at (fun t k => XS.istore X1.here hx rfl (hb hby at_72) rfl (l' := #[.val (.int p1), .val (.int 0), .val (.int 0), .val (.int 0), .val (.int 0), .val (.int 0), .val (.int 0), .unset, .unset, .unset, .unset]) rfl k) ?_
          show own_Go p e below KK T1 (mkF m 74 #[.val (.int p1), .val (.int 0), .val (.int 0), .val (.int 0), .val (.int 0), .val (.int 0), .val (.int 0), .unset, .unset, .unset, .unset] [])
          refine own_at (fun t k => XS.iload X1.here hx rfl (hb hby at_74) rfl k) ?_
          show own_Go p e below KK T1 (mkF m 76 #[.val (.int p1), .val (.int 0), .val (.int 0), .val (.int 0), .val (.int 0), .val (.int 0), .val (.int 0), .unset, .unset, .unset, .unset] [(.int 0)])
          refine own_at (fun t k => XS.iconst X1.here hx rfl (hb hby at_76) k) ?_
          show own_Go p e below KK T1 (mkF m 77 #[.val (.int p1), .val (.int 0), .val (.int 0), .val (.int 0), .val (.int 0), .val (.int 0), .val (.int 0), .unset, .unset, .unset, .unset] [(.int 2), (.int 0)])
          refine own_at (fun t k => XS.iand X1.here hx rfl (hb hby at_77) rfl k) ?_
          show own_Go p e below KK T1 (mkF m 78 #[.val (.int p1), .val (.int 0), .val (.int 0), .val (.int 0), .val (.int 0), .val (.int 0), .val (.int 0), .unset, .unset, .unset, .unset] [(.int ((0 : Int32) &&& (2 : Int32)))])
          rw [show ((0 : Int32) &&& (2 : Int32)) = (0 : Int32) from by decide]
          show own_Go p e below KK T1 (mkF m 78 #[.val (.int p1), .val (.int 0), .val (.int 0), .val (.int 0), .val (.int 0), .val (.int 0), .val (.int 0), .unset, .unset, .unset, .unset] [(.int 0)])
          have hc78 : (0 : Int32) = (0 : Int32) := by decide
          refine own_at (fun t k => XS.ifYes X1.here hx rfl (pc0 := 78) (pc' := 85) rfl (hb hby at_78) rfl (Jvm.Free.XT.i0_eq_t hc78) (by decide) (by decide) k) ?_
          show own_Go p e below KK T1 (mkF m 85 #[.val (.int p1), .val (.int 0), .val (.int 0), .val (.int 0), .val (.int 0), .val (.int 0), .val (.int 0), .unset, .unset, .unset, .unset] [])
          refine own_at (fun t k => XS.iconst X1.here hx rfl (hb hby at_85) k) ?_
          show own_Go p e below KK T1 (mkF m 86 #[.val (.int p1), .val (.int 0), .val (.int 0), .val (.int 0), .val (.int 0), .val (.int 0), .val (.int 0), .unset, .unset, .unset, .unset] [(.int 0)])
          refine own_at (fun t k => XS.istore X1.here hx rfl (hb hby at_86) rfl (l' := #[.val (.int p1), .val (.int 0), .val (.int 0), .val (.int 0), .val (.int 0), .val (.int 0), .val (.int 0), .val (.int 0), .unset, .unset, .unset]) rfl k) ?_
          show own_Go p e below KK T1 (mkF m 88 #[.val (.int p1), .val (.int 0), .val (.int 0), .val (.int 0), .val (.int 0), .val (.int 0), .val (.int 0), .val (.int 0), .unset, .unset, .unset] [])
          refine own_at (fun t k => XS.iload X1.here hx rfl (hb hby at_88) rfl k) ?_
          show own_Go p e below KK T1 (mkF m 90 #[.val (.int p1), .val (.int 0), .val (.int 0), .val (.int 0), .val (.int 0), .val (.int 0), .val (.int 0), .val (.int 0), .unset, .unset, .unset] [(.int 0)])
          refine own_at (fun t k => XS.iconst X1.here hx rfl (hb hby at_90) k) ?_
          show own_Go p e below KK T1 (mkF m 91 #[.val (.int p1), .val (.int 0), .val (.int 0), .val (.int 0), .val (.int 0), .val (.int 0), .val (.int 0), .val (.int 0), .unset, .unset, .unset] [(.int 4), (.int 0)])
          refine own_at (fun t k => XS.iand X1.here hx rfl (hb hby at_91) rfl k) ?_
          show own_Go p e below KK T1 (mkF m 92 #[.val (.int p1), .val (.int 0), .val (.int 0), .val (.int 0), .val (.int 0), .val (.int 0), .val (.int 0), .val (.int 0), .unset, .unset, .unset] [(.int ((0 : Int32) &&& (4 : Int32)))])
          rw [show ((0 : Int32) &&& (4 : Int32)) = (0 : Int32) from by decide]
          show own_Go p e below KK T1 (mkF m 92 #[.val (.int p1), .val (.int 0), .val (.int 0), .val (.int 0), .val (.int 0), .val (.int 0), .val (.int 0), .val (.int 0), .unset, .unset, .unset] [(.int 0)])
          have hc92 : (0 : Int32) = (0 : Int32) := by decide
          refine own_at (fun t k => XS.ifYes X1.here hx rfl (pc0 := 92) (pc' := 99) rfl (hb hby at_92) rfl (Jvm.Free.XT.i0_eq_t hc92) (by decide) (by decide) k) ?_
          show own_Go p e below KK T1 (mkF m 99 #[.val (.int p1), .val (.int 0), .val (.int 0), .val (.int 0), .val (.int 0), .val (.int 0), .val (.int 0), .val (.int 0), .unset, .unset, .unset] [])
          refine own_at (fun t k => XS.iconst X1.here hx rfl (hb hby at_99) k) ?_
          show own_Go p e below KK T1 (mkF m 100 #[.val (.int p1), .val (.int 0), .val (.int 0), .val (.int 0), .val (.int 0), .val (.int 0), .val (.int 0), .val (.int 0), .unset, .unset, .unset] [(.int 0)])
          refine own_at (fun t k => XS.istore X1.here hx rfl (hb hby at_100) rfl (l' := #[.val (.int p1), .val (.int 0), .val (.int 0), .val (.int 0), .val (.int 0), .val (.int 0), .val (.int 0), .val (.int 0), .val (.int 0), .unset, .unset]) rfl k) ?_
          show own_Go p e below KK T1 (mkF m 102 #[.val (.int p1), .val (.int 0), .val (.int 0), .val (.int 0), .val (.int 0), .val (.int 0), .val (.int 0), .val (.int 0), .val (.int 0), .unset, .unset] [])
          refine own_at (fun t k => XS.iload X1.here hx rfl (hb hby at_102) rfl k) ?_
          show own_Go p e below KK T1 (mkF m 104 #[.val (.int p1), .val (.int 0), .val (.int 0), .val (.int 0), .val (.int 0), .val (.int 0), .val (.int 0), .val (.int 0), .val (.int 0), .unset, .unset] [(.int 0)])
          refine own_at (fun t k => XS.bipush X1.here hx rfl (hb hby at_104) k) ?_
          show own_Go p e below KK T1 (mkF m 106 #[.val (.int p1), .val (.int 0), .val (.int 0), .val (.int 0), .val (.int 0), .val (.int 0), .val (.int 0), .val (.int 0), .val (.int 0), .unset, .unset] [(.int 8), (.int 0)])
          refine own_at (fun t k => XS.iand X1.here hx rfl (hb hby at_106) rfl k) ?_
          show own_Go p e below KK T1 (mkF m 107 #[.val (.int p1), .val (.int 0), .val (.int 0), .val (.int 0), .val (.int 0), .val (.int 0), .val (.int 0), .val (.int 0), .val (.int 0), .unset, .unset] [(.int ((0 : Int32) &&& (8 : Int32)))])
          rw [show ((0 : Int32) &&& (8 : Int32)) = (0 : Int32) from by decide]
          show own_Go p e below KK T1 (mkF m 107 #[.val (.int p1), .val (.int 0), .val (.int 0), .val (.int 0), .val (.int 0), .val (.int 0), .val (.int 0), .val (.int 0), .val (.int 0), .unset, .unset] [(.int 0)])
          have hc107 : (0 : Int32) = (0 : Int32) := by decide
          refine own_at (fun t k => XS.ifYes X1.here hx rfl (pc0 := 107) (pc' := 114) rfl (hb hby at_107) rfl (Jvm.Free.XT.i0_eq_t hc107) (by decide) (by decide) k) ?_
          show own_Go p e below KK T1 (mkF m 114 #[.val (.int p1), .val (.int 0), .val (.int 0), .val (.int 0), .val (.int 0), .val (.int 0), .val (.int 0), .val (.int 0), .val (.int 0), .unset, .unset] [])
          refine own_at (fun t k => XS.iconst X1.here hx rfl (hb hby at_114) k) ?_
          show own_Go p e below KK T1 (mkF m 115 #[.val (.int p1), .val (.int 0), .val (.int 0), .val (.int 0), .val (.int 0), .val (.int 0), .val (.int 0), .val (.int 0), .val (.int 0), .unset, .unset] [(.int 0)])
          refine own_at (fun t k => XS.istore X1.here hx rfl (hb hby at_115) rfl (l' := #[.val (.int p1), .val (.int 0), .val (.int 0), .val (.int 0), .val (.int 0), .val (.int 0), .val (.int 0), .val (.int 0), .val (.int 0), .val (.int 0), .unset]) rfl k) ?_
          show own_Go p e below KK T1 (mkF m 117 #[.val (.int p1), .val (.int 0), .val (.int 0), .val (.int 0), .val (.int 0), .val (.int 0), .val (.int 0), .val (.int 0), .val (.int 0), .val (.int 0), .unset] [])
          refine own_at (fun t k => XS.bipush X1.here hx rfl (hb hby at_117) k) ?_
          show own_Go p e below KK T1 (mkF m 119 #[.val (.int p1), .val (.int 0), .val (.int 0), .val (.int 0), .val (.int 0), .val (.int 0), .val (.int 0), .val (.int 0), .val (.int 0), .val (.int 0), .unset] [(.int 15)])
          refine own_at (fun t k => XS.istore X1.here hx rfl (hb hby at_119) rfl (l' := #[.val (.int p1), .val (.int 0), .val (.int 0), .val (.int 0), .val (.int 0), .val (.int 0), .val (.int 0), .val (.int 0), .val (.int 0), .val (.int 0), .val (.int 15)]) rfl k) ?_
          show own_Go p e below KK T1 (mkF m 121 #[.val (.int p1), .val (.int 0), .val (.int 0), .val (.int 0), .val (.int 0), .val (.int 0), .val (.int 0), .val (.int 0), .val (.int 0), .val (.int 0), .val (.int 15)] [])
          refine own_at (fun t k => XS.iload X1.here hx rfl (hb hby at_121) rfl k) ?_
          show own_Go p e below KK T1 (mkF m 123 #[.val (.int p1), .val (.int 0), .val (.int 0), .val (.int 0), .val (.int 0), .val (.int 0), .val (.int 0), .val (.int 0), .val (.int 0), .val (.int 0), .val (.int 15)] [(.int 0)])
          refine own_at (fun t k => XS.iloadN X1.here hx rfl (hb hby at_123) rfl k) ?_
          show own_Go p e below KK T1 (mkF m 124 #[.val (.int p1), .val (.int 0), .val (.int 0), .val (.int 0), .val (.int 0), .val (.int 0), .val (.int 0), .val (.int 0), .val (.int 0), .val (.int 0), .val (.int 15)] [(.int 0), (.int 0)])
          have hc124 : (0 : Int32) = (0 : Int32) := by decide
          refine own_at (fun t k => XS.icmpNo X1.here hx rfl (hb hby at_124) rfl (Jvm.Free.XT.ii_ne_f hc124) k) ?_
          show own_Go p e below KK T1 (mkF m 127 #[.val (.int p1), .val (.int 0), .val (.int 0), .val (.int 0), .val (.int 0), .val (.int 0), .val (.int 0), .val (.int 0), .val (.int 0), .val (.int 0), .val (.int 15)] [])
          refine own_at (fun t k => XS.iload X1.here hx rfl (hb hby at_127) rfl k) ?_
          show own_Go p e below KK T1 (mkF m 129 #[.val (.int p1), .val (.int 0), .val (.int 0), .val (.int 0), .val (.int 0), .val (.int 0), .val (.int 0), .val (.int 0), .val (.int 0), .val (.int 0), .val (.int 15)] [(.int 0)])
          refine own_at (fun t k => XS.iloadN X1.here hx rfl (hb hby at_129) rfl k) ?_
          show own_Go p e below KK T1 (mkF m 130 #[.val (.int p1), .val (.int 0), .val (.int 0), .val (.int 0), .val (.int 0), .val (.int 0), .val (.int 0), .val (.int 0), .val (.int 0), .val (.int 0), .val (.int 15)] [(.int 0), (.int 0)])
          have hc130 : (0 : Int32) = (0 : Int32) := by decide
          refine own_at (fun t k => XS.ifYes X1.here hx rfl (pc0 := 130) (pc' := 141) rfl (hb hby at_130) rfl (Jvm.Free.XT.i0_eq_t hc130) (by decide) (by decide) k) ?_
          show own_Go p e below KK T1 (mkF m 141 #[.val (.int p1), .val (.int 0), .val (.int 0), .val (.int 0), .val (.int 0), .val (.int 0), .val (.int 0), .val (.int 0), .val (.int 0), .val (.int 0), .val (.int 15)] [(.int 0)])
          refine own_at (fun t k => XS.iconst X1.here hx rfl (hb hby at_141) k) ?_
          show own_Go p e below KK T1 (mkF m 142 #[.val (.int p1), .val (.int 0), .val (.int 0), .val (.int 0), .val (.int 0), .val (.int 0), .val (.int 0), .val (.int 0), .val (.int 0), .val (.int 0), .val (.int 15)] [(.int 0), (.int 0)])
          have hc142 : (0 : Int32) = (0 : Int32) := by decide
          refine own_at (fun t k => XS.icmpNo X1.here hx rfl (hb hby at_142) rfl (Jvm.Free.XT.ii_ne_f hc142) k) ?_
          show own_Go p e below KK T1 (mkF m 145 #[.val (.int p1), .val (.int 0), .val (.int 0), .val (.int 0), .val (.int 0), .val (.int 0), .val (.int 0), .val (.int 0), .val (.int 0), .val (.int 0), .val (.int 15)] [])
          refine own_at (fun t k => XS.iload X1.here hx rfl (hb hby at_145) rfl k) ?_
          show own_Go p e below KK T1 (mkF m 147 #[.val (.int p1), .val (.int 0), .val (.int 0), .val (.int 0), .val (.int 0), .val (.int 0), .val (.int 0), .val (.int 0), .val (.int 0), .val (.int 0), .val (.int 15)] [(.int 0)])
          refine own_at (fun t k => XS.iloadN X1.here hx rfl (hb hby at_147) rfl k) ?_
          show own_Go p e below KK T1 (mkF m 148 #[.val (.int p1), .val (.int 0), .val (.int 0), .val (.int 0), .val (.int 0), .val (.int 0), .val (.int 0), .val (.int 0), .val (.int 0), .val (.int 0), .val (.int 15)] [(.int 0), (.int 0)])
          have hc148 : (0 : Int32) = (0 : Int32) := by decide
          refine own_at (fun t k => XS.icmpNo X1.here hx rfl (hb hby at_148) rfl (Jvm.Free.XT.ii_ne_f hc148) k) ?_
          show own_Go p e below KK T1 (mkF m 151 #[.val (.int p1), .val (.int 0), .val (.int 0), .val (.int 0), .val (.int 0), .val (.int 0), .val (.int 0), .val (.int 0), .val (.int 0), .val (.int 0), .val (.int 15)] [])
          refine own_at (fun t k => XS.iload X1.here hx rfl (hb hby at_151) rfl k) ?_
          show own_Go p e below KK T1 (mkF m 153 #[.val (.int p1), .val (.int 0), .val (.int 0), .val (.int 0), .val (.int 0), .val (.int 0), .val (.int 0), .val (.int 0), .val (.int 0), .val (.int 0), .val (.int 15)] [(.int 0)])
          refine own_at (fun t k => XS.iloadN X1.here hx rfl (hb hby at_153) rfl k) ?_
          show own_Go p e below KK T1 (mkF m 154 #[.val (.int p1), .val (.int 0), .val (.int 0), .val (.int 0), .val (.int 0), .val (.int 0), .val (.int 0), .val (.int 0), .val (.int 0), .val (.int 0), .val (.int 15)] [(.int 0), (.int 0)])
          have hc154 : (0 : Int32) = (0 : Int32) := by decide
          refine own_at (fun t k => XS.ifYes X1.here hx rfl (pc0 := 154) (pc' := 166) rfl (hb hby at_154) rfl (Jvm.Free.XT.i0_eq_t hc154) (by decide) (by decide) k) ?_
          show own_Go p e below KK T1 (mkF m 166 #[.val (.int p1), .val (.int 0), .val (.int 0), .val (.int 0), .val (.int 0), .val (.int 0), .val (.int 0), .val (.int 0), .val (.int 0), .val (.int 0), .val (.int 15)] [(.int 0)])
          refine own_at (fun t k => XS.iconst X1.here hx rfl (hb hby at_166) k) ?_
          show own_Go p e below KK T1 (mkF m 167 #[.val (.int p1), .val (.int 0), .val (.int 0), .val (.int 0), .val (.int 0), .val (.int 0), .val (.int 0), .val (.int 0), .val (.int 0), .val (.int 0), .val (.int 15)] [(.int 0), (.int 0)])
          have hc167 : (0 : Int32) = (0 : Int32) := by decide
          refine own_at (fun t k => XS.icmpNo X1.here hx rfl (hb hby at_167) rfl (Jvm.Free.XT.ii_ne_f hc167) k) ?_
          show own_Go p e below KK T1 (mkF m 170 #[.val (.int p1), .val (.int 0), .val (.int 0), .val (.int 0), .val (.int 0), .val (.int 0), .val (.int 0), .val (.int 0), .val (.int 0), .val (.int 0), .val (.int 15)] [])
          refine own_at (fun t k => XS.iload X1.here hx rfl (hb hby at_170) rfl k) ?_
          show own_Go p e below KK T1 (mkF m 172 #[.val (.int p1), .val (.int 0), .val (.int 0), .val (.int 0), .val (.int 0), .val (.int 0), .val (.int 0), .val (.int 0), .val (.int 0), .val (.int 0), .val (.int 15)] [(.int 0)])
          refine own_at (fun t k => XS.iload X1.here hx rfl (hb hby at_172) rfl k) ?_
          show own_Go p e below KK T1 (mkF m 174 #[.val (.int p1), .val (.int 0), .val (.int 0), .val (.int 0), .val (.int 0), .val (.int 0), .val (.int 0), .val (.int 0), .val (.int 0), .val (.int 0), .val (.int 15)] [(.int 15), (.int 0)])
          refine own_at (fun t k => XS.iconst X1.here hx rfl (hb hby at_174) k) ?_
          show own_Go p e below KK T1 (mkF m 175 #[.val (.int p1), .val (.int 0), .val (.int 0), .val (.int 0), .val (.int 0), .val (.int 0), .val (.int 0), .val (.int 0), .val (.int 0), .val (.int 0), .val (.int 15)] [(.int (-1 : Int32)), (.int 15), (.int 0)])
          refine own_at (fun t k => XS.ixor X1.here hx rfl (hb hby at_175) rfl k) ?_
          show own_Go p e below KK T1 (mkF m 176 #[.val (.int p1), .val (.int 0), .val (.int 0), .val (.int 0), .val (.int 0), .val (.int 0), .val (.int 0), .val (.int 0), .val (.int 0), .val (.int 0), .val (.int 15)] [(.int ((15 : Int32) ^^^ (-1 : Int32))), (.int 0)])
          rw [show ((15 : Int32) ^^^ (-1 : Int32)) = (-16 : Int32) from by decide]
          show own_Go p e below KK T1 (mkF m 176 #[.val (.int p1), .val (.int 0), .val (.int 0), .val (.int 0), .val (.int 0), .val (.int 0), .val (.int 0), .val (.int 0), .val (.int 0), .val (.int 0), .val (.int 15)] [(.int (-16 : Int32)), (.int 0)])
          refine own_at (fun t k => XS.iand X1.here hx rfl (hb hby at_176) rfl k) ?_
          show own_Go p e below KK T1 (mkF m 177 #[.val (.int p1), .val (.int 0), .val (.int 0), .val (.int 0), .val (.int 0), .val (.int 0), .val (.int 0), .val (.int 0), .val (.int 0), .val (.int 0), .val (.int 15)] [(.int ((0 : Int32) &&& (-16 : Int32)))])
          rw [show ((0 : Int32) &&& (-16 : Int32)) = (0 : Int32) from by decide]
          show own_Go p e below KK T1 (mkF m 177 #[.val (.int p1), .val (.int 0), .val (.int 0), .val (.int 0), .val (.int 0), .val (.int 0), .val (.int 0), .val (.int 0), .val (.int 0), .val (.int 0), .val (.int 15)] [(.int 0)])
          have hc177 : (0 : Int32) = (0 : Int32) := by decide
          refine own_at (fun t k => XS.ifNo X1.here hx rfl (hb hby at_177) rfl (Jvm.Free.XT.i0_ne_f hc177) k) ?_
          show own_Go p e below KK T1 (mkF m 180 #[.val (.int p1), .val (.int 0), .val (.int 0), .val (.int 0), .val (.int 0), .val (.int 0), .val (.int 0), .val (.int 0), .val (.int 0), .val (.int 0), .val (.int 15)] [])
          refine own_at (fun t k => XS.iload X1.here hx rfl (hb hby at_180) rfl k) ?_
          show own_Go p e below KK T1 (mkF m 182 #[.val (.int p1), .val (.int 0), .val (.int 0), .val (.int 0), .val (.int 0), .val (.int 0), .val (.int 0), .val (.int 0), .val (.int 0), .val (.int 0), .val (.int 15)] [(.int 0)])
          have hc182 : (0 : Int32) = (0 : Int32) := by decide
          refine own_at (fun t k => XS.ifNo X1.here hx rfl (hb hby at_182) rfl (Jvm.Free.XT.i0_ne_f hc182) k) ?_
          show own_Go p e below KK T1 (mkF m 185 #[.val (.int p1), .val (.int 0), .val (.int 0), .val (.int 0), .val (.int 0), .val (.int 0), .val (.int 0), .val (.int 0), .val (.int 0), .val (.int 0), .val (.int 15)] [])
          refine own_at (fun t k => XS.iconst X1.here hx rfl (hb hby at_185) k) ?_
          show own_Go p e below KK T1 (mkF m 186 #[.val (.int p1), .val (.int 0), .val (.int 0), .val (.int 0), .val (.int 0), .val (.int 0), .val (.int 0), .val (.int 0), .val (.int 0), .val (.int 0), .val (.int 15)] [(.int 1)])
          refine own_at (fun t k => XS.goto X1.here hx rfl (pc0 := 186) (pc' := 190) rfl (hb hby at_186) (by decide) (by decide) k) ?_
          show own_Go p e below KK T1 (mkF m 190 #[.val (.int p1), .val (.int 0), .val (.int 0), .val (.int 0), .val (.int 0), .val (.int 0), .val (.int 0), .val (.int 0), .val (.int 0), .val (.int 0), .val (.int 15)] [(.int 1)])
          refine own_at (fun t k => XS.iloadN X1.here hx rfl (hb hby at_190) rfl k) ?_
          show own_Go p e below KK T1 (mkF m 191 #[.val (.int p1), .val (.int 0), .val (.int 0), .val (.int 0), .val (.int 0), .val (.int 0), .val (.int 0), .val (.int 0), .val (.int 0), .val (.int 0), .val (.int 15)] [(.int 0), (.int 1)])
          have hc191 : (0 : Int32) = (0 : Int32) := by decide
          refine own_at (fun t k => XS.ifNo X1.here hx rfl (hb hby at_191) rfl (Jvm.Free.XT.i0_ne_f hc191) k) ?_
          show own_Go p e below KK T1 (mkF m 194 #[.val (.int p1), .val (.int 0), .val (.int 0), .val (.int 0), .val (.int 0), .val (.int 0), .val (.int 0), .val (.int 0), .val (.int 0), .val (.int 0), .val (.int 15)] [(.int 1)])
          refine own_at (fun t k => XS.iloadN X1.here hx rfl (hb hby at_194) rfl k) ?_
          show own_Go p e below KK T1 (mkF m 195 #[.val (.int p1), .val (.int 0), .val (.int 0), .val (.int 0), .val (.int 0), .val (.int 0), .val (.int 0), .val (.int 0), .val (.int 0), .val (.int 0), .val (.int 15)] [(.int 0), (.int 1)])
          have hc195 : (0 : Int32) = (0 : Int32) := by decide
          refine own_at (fun t k => XS.ifNo X1.here hx rfl (hb hby at_195) rfl (Jvm.Free.XT.i0_ne_f hc195) k) ?_
          show own_Go p e below KK T1 (mkF m 198 #[.val (.int p1), .val (.int 0), .val (.int 0), .val (.int 0), .val (.int 0), .val (.int 0), .val (.int 0), .val (.int 0), .val (.int 0), .val (.int 0), .val (.int 15)] [(.int 1)])
          refine own_at (fun t k => XS.iconst X1.here hx rfl (hb hby at_198) k) ?_
          show own_Go p e below KK T1 (mkF m 199 #[.val (.int p1), .val (.int 0), .val (.int 0), .val (.int 0), .val (.int 0), .val (.int 0), .val (.int 0), .val (.int 0), .val (.int 0), .val (.int 0), .val (.int 15)] [(.int 1), (.int 1)])
          refine own_at (fun t k => XS.goto X1.here hx rfl (pc0 := 199) (pc' := 203) rfl (hb hby at_199) (by decide) (by decide) k) ?_
          show own_Go p e below KK T1 (mkF m 203 #[.val (.int p1), .val (.int 0), .val (.int 0), .val (.int 0), .val (.int 0), .val (.int 0), .val (.int 0), .val (.int 0), .val (.int 0), .val (.int 0), .val (.int 15)] [(.int 1), (.int 1)])
          have hc203 : (1 : Int32) = (1 : Int32) := by decide
          refine own_at (fun t k => XS.icmpNo X1.here hx rfl (hb hby at_203) rfl (Jvm.Free.XT.ii_ne_f hc203) k) ?_
          show own_Go p e below KK T1 (mkF m 206 #[.val (.int p1), .val (.int 0), .val (.int 0), .val (.int 0), .val (.int 0), .val (.int 0), .val (.int 0), .val (.int 0), .val (.int 0), .val (.int 0), .val (.int 15)] [])
          refine own_at (fun t k => XS.iconst X1.here hx rfl (hb hby at_206) k) ?_
          show own_Go p e below KK T1 (mkF m 207 #[.val (.int p1), .val (.int 0), .val (.int 0), .val (.int 0), .val (.int 0), .val (.int 0), .val (.int 0), .val (.int 0), .val (.int 0), .val (.int 0), .val (.int 15)] [(.int 1)])
          refine own_at (fun t k => XS.goto X1.here hx rfl (pc0 := 207) (pc' := 211) rfl (hb hby at_207) (by decide) (by decide) k) ?_
          show own_Go p e below KK T1 (mkF m 211 #[.val (.int p1), .val (.int 0), .val (.int 0), .val (.int 0), .val (.int 0), .val (.int 0), .val (.int 0), .val (.int 0), .val (.int 0), .val (.int 0), .val (.int 15)] [(.int 1)])
          subst hKK
          exact own_retN X1 hx hlk (t := .boolean) Bd.returns (by simp) (hb hby at_211) (w := (1 : Int32)) (show nar .boolean (1 : Int32) = 1 from by decide) ⟨rfl, N1⟩ (Nat.le_of_ble_eq_true rfl) (Nat.le_of_ble_eq_true rfl)
        · refine own_at (fun t k => XS.ifNo X0.here hx rfl (hb hby at_40) rfl (Jvm.Free.XT.i0_eq_f hc40) k) ?_
          show own_Go p e below KK s₁ (mkF m 43 #[.val (.int p1), .val (.int 0), .val (.int 0), .val (.int 0), .unset, .unset, .unset, .unset, .unset, .unset, .unset] [])
          refine own_at (fun t k => XS.iconst X0.here hx rfl (hb hby at_43) k) ?_
          show own_Go p e below KK s₁ (mkF m 44 #[.val (.int p1), .val (.int 0), .val (.int 0), .val (.int 0), .unset, .unset, .unset, .unset, .unset, .unset, .unset] [(.int 1)])
          refine own_at (fun t k => XS.goto X0.here hx rfl (pc0 := 44) (pc' := 48) rfl (hb hby at_44) (by decide) (by decide) k) ?_
          show own_Go p e below KK s₁ (mkF m 48 #[.val (.int p1), .val (.int 0), .val (.int 0), .val (.int 0), .unset, .unset, .unset, .unset, .unset, .unset, .unset] [(.int 1)])
          refine own_at (fun t k => XS.istore X0.here hx rfl (hb hby at_48) rfl (l' := #[.val (.int p1), .val (.int 0), .val (.int 0), .val (.int 0), .val (.int 1), .unset, .unset, .unset, .unset, .unset, .unset]) rfl k) ?_
          show own_Go p e below KK s₁ (mkF m 50 #[.val (.int p1), .val (.int 0), .val (.int 0), .val (.int 0), .val (.int 1), .unset, .unset, .unset, .unset, .unset, .unset] [])
          refine own_at (fun t k => XS.iloadN X0.here hx rfl (hb hby at_50) rfl k) ?_
          show own_Go p e below KK s₁ (mkF m 51 #[.val (.int p1), .val (.int 0), .val (.int 0), .val (.int 0), .val (.int 1), .unset, .unset, .unset, .unset, .unset, .unset] [(.int 0)])
          refine own_at (fun t k => XS.iloadN X0.here hx rfl (hb hby at_51) rfl k) ?_
          show own_Go p e below KK s₁ (mkF m 52 #[.val (.int p1), .val (.int 0), .val (.int 0), .val (.int 0), .val (.int 1), .unset, .unset, .unset, .unset, .unset, .unset] [(.int 0), (.int 0)])
          refine own_at (fun t k => XS.iloadN X0.here hx rfl (hb hby at_52) rfl k) ?_
          show own_Go p e below KK s₁ (mkF m 53 #[.val (.int p1), .val (.int 0), .val (.int 0), .val (.int 0), .val (.int 1), .unset, .unset, .unset, .unset, .unset, .unset] [(.int 0), (.int 0), (.int 0)])
          refine own_at (fun t k => XS.iload X0.here hx rfl (hb hby at_53) rfl k) ?_
          show own_Go p e below KK s₁ (mkF m 55 #[.val (.int p1), .val (.int 0), .val (.int 0), .val (.int 0), .val (.int 1), .unset, .unset, .unset, .unset, .unset, .unset] [(.int 1), (.int 0), (.int 0), (.int 0)])
          obtain ⟨_, _, ⟨T2, L2, k2, n2⟩, -, X2, ⟨Lc2, hQ2, l2, y2, z2⟩, st2⟩ := Jvm.LawKit.callS X0 hx (y := (⟨"com/example/oyster/oyster/core/form/NamedTest", "ends", "(ZZZZ)I"⟩ : MethodName)) hown (mvT hZ (hw _ (List.mem_of_getElem? (i := 0) rfl))) (mvT hZ (hw _ (List.mem_of_getElem? (i := 1) rfl))) (mvT hZ (hw _ (List.mem_of_getElem? (i := 2) rfl))) (mvT hZ (hw _ (List.mem_of_getElem? (i := 3) rfl))) (by decide) (backOf (W := 0) (rm_prog_119_2 l Z a0 hw [] (0 : Int32) (0 : Int32) (0 : Int32) (1 : Int32)  h0 n0 Z0 ) hZ (hw _ (List.mem_of_getElem? (i := 3) rfl)) (hw _ (List.mem_of_getElem? (i := 2) rfl)) (by decide) (by decide)) (g := (mkF m 55 #[.val (.int p1), .val (.int 0), .val (.int 0), .val (.int 0), .val (.int 1), .unset, .unset, .unset, .unset, .unset, .unset] [(.int 1), (.int 0), (.int 0), (.int 0)])) rfl (by rw [hml]; rfl) (argsL := [(.int 0), (.int 0), (.int 0), (.int 1)]) (rest := []) (lenOf pd__ZZZZ_I rfl) rfl (by show 2 * 0 + _ ≤ _; exact Nat.le_of_eq rfl) (hb hby at_55) (fun _ _ => ⟨rfl, e0, (by decide : 0 + 0 ≤ _), (by decide : 0 + 0 ≤ _)⟩)
          dsimp only [Pt.U, Pt.locs, Pt.cells, Pt.slots] at X2 l2 y2 z2 st2 hQ2
          subst l2 y2 z2
          obtain ⟨rfl, N2q, e2⟩ := hQ2
          rw [show (own_F_prog_119_2 (0 : Int32) (0 : Int32) (0 : Int32) (1 : Int32)) = (0 : Int32) from by decide] at st2
          have N2 := Fr.app N0 N2q
          refine own_of (fun t k => st2 t k) ?_
          show own_Go p e below KK T2 (mkF m 58 #[.val (.int p1), .val (.int 0), .val (.int 0), .val (.int 0), .val (.int 1), .unset, .unset, .unset, .unset, .unset, .unset] [(.int 0)])
          refine own_at (fun t k => XS.istore X2.here hx rfl (hb hby at_58) rfl (l' := #[.val (.int p1), .val (.int 0), .val (.int 0), .val (.int 0), .val (.int 1), .val (.int 0), .unset, .unset, .unset, .unset, .unset]) rfl k) ?_
          show own_Go p e below KK T2 (mkF m 60 #[.val (.int p1), .val (.int 0), .val (.int 0), .val (.int 0), .val (.int 1), .val (.int 0), .unset, .unset, .unset, .unset, .unset] [])
          refine own_at (fun t k => XS.iload X2.here hx rfl (hb hby at_60) rfl k) ?_
          show own_Go p e below KK T2 (mkF m 62 #[.val (.int p1), .val (.int 0), .val (.int 0), .val (.int 0), .val (.int 1), .val (.int 0), .unset, .unset, .unset, .unset, .unset] [(.int 0)])
          refine own_at (fun t k => XS.iconst X2.here hx rfl (hb hby at_62) k) ?_
          show own_Go p e below KK T2 (mkF m 63 #[.val (.int p1), .val (.int 0), .val (.int 0), .val (.int 0), .val (.int 1), .val (.int 0), .unset, .unset, .unset, .unset, .unset] [(.int 1), (.int 0)])
          refine own_at (fun t k => XS.iand X2.here hx rfl (hb hby at_63) rfl k) ?_
          show own_Go p e below KK T2 (mkF m 64 #[.val (.int p1), .val (.int 0), .val (.int 0), .val (.int 0), .val (.int 1), .val (.int 0), .unset, .unset, .unset, .unset, .unset] [(.int ((0 : Int32) &&& (1 : Int32)))])
          rw [show ((0 : Int32) &&& (1 : Int32)) = (0 : Int32) from by decide]
          show own_Go p e below KK T2 (mkF m 64 #[.val (.int p1), .val (.int 0), .val (.int 0), .val (.int 0), .val (.int 1), .val (.int 0), .unset, .unset, .unset, .unset, .unset] [(.int 0)])
          have hc64 : (0 : Int32) = (0 : Int32) := by decide
          refine own_at (fun t k => XS.ifYes X2.here hx rfl (pc0 := 64) (pc' := 71) rfl (hb hby at_64) rfl (Jvm.Free.XT.i0_eq_t hc64) (by decide) (by decide) k) ?_
          show own_Go p e below KK T2 (mkF m 71 #[.val (.int p1), .val (.int 0), .val (.int 0), .val (.int 0), .val (.int 1), .val (.int 0), .unset, .unset, .unset, .unset, .unset] [])
          refine own_at (fun t k => XS.iconst X2.here hx rfl (hb hby at_71) k) ?_
          show own_Go p e below KK T2 (mkF m 72 #[.val (.int p1), .val (.int 0), .val (.int 0), .val (.int 0), .val (.int 1), .val (.int 0), .unset, .unset, .unset, .unset, .unset] [(.int 0)])
          refine own_at (fun t k => XS.istore X2.here hx rfl (hb hby at_72) rfl (l' := #[.val (.int p1), .val (.int 0), .val (.int 0), .val (.int 0), .val (.int 1), .val (.int 0), .val (.int 0), .unset, .unset, .unset, .unset]) rfl k) ?_
          show own_Go p e below KK T2 (mkF m 74 #[.val (.int p1), .val (.int 0), .val (.int 0), .val (.int 0), .val (.int 1), .val (.int 0), .val (.int 0), .unset, .unset, .unset, .unset] [])
          refine own_at (fun t k => XS.iload X2.here hx rfl (hb hby at_74) rfl k) ?_
          show own_Go p e below KK T2 (mkF m 76 #[.val (.int p1), .val (.int 0), .val (.int 0), .val (.int 0), .val (.int 1), .val (.int 0), .val (.int 0), .unset, .unset, .unset, .unset] [(.int 0)])
          refine own_at (fun t k => XS.iconst X2.here hx rfl (hb hby at_76) k) ?_
          show own_Go p e below KK T2 (mkF m 77 #[.val (.int p1), .val (.int 0), .val (.int 0), .val (.int 0), .val (.int 1), .val (.int 0), .val (.int 0), .unset, .unset, .unset, .unset] [(.int 2), (.int 0)])
          refine own_at (fun t k => XS.iand X2.here hx rfl (hb hby at_77) rfl k) ?_
          show own_Go p e below KK T2 (mkF m 78 #[.val (.int p1), .val (.int 0), .val (.int 0), .val (.int 0), .val (.int 1), .val (.int 0), .val (.int 0), .unset, .unset, .unset, .unset] [(.int ((0 : Int32) &&& (2 : Int32)))])
          rw [show ((0 : Int32) &&& (2 : Int32)) = (0 : Int32) from by decide]
          show own_Go p e below KK T2 (mkF m 78 #[.val (.int p1), .val (.int 0), .val (.int 0), .val (.int 0), .val (.int 1), .val (.int 0), .val (.int 0), .unset, .unset, .unset, .unset] [(.int 0)])
          have hc78 : (0 : Int32) = (0 : Int32) := by decide
          refine own_at (fun t k => XS.ifYes X2.here hx rfl (pc0 := 78) (pc' := 85) rfl (hb hby at_78) rfl (Jvm.Free.XT.i0_eq_t hc78) (by decide) (by decide) k) ?_
          show own_Go p e below KK T2 (mkF m 85 #[.val (.int p1), .val (.int 0), .val (.int 0), .val (.int 0), .val (.int 1), .val (.int 0), .val (.int 0), .unset, .unset, .unset, .unset] [])
          refine own_at (fun t k => XS.iconst X2.here hx rfl (hb hby at_85) k) ?_
          show own_Go p e below KK T2 (mkF m 86 #[.val (.int p1), .val (.int 0), .val (.int 0), .val (.int 0), .val (.int 1), .val (.int 0), .val (.int 0), .unset, .unset, .unset, .unset] [(.int 0)])
          refine own_at (fun t k => XS.istore X2.here hx rfl (hb hby at_86) rfl (l' := #[.val (.int p1), .val (.int 0), .val (.int 0), .val (.int 0), .val (.int 1), .val (.int 0), .val (.int 0), .val (.int 0), .unset, .unset, .unset]) rfl k) ?_
          show own_Go p e below KK T2 (mkF m 88 #[.val (.int p1), .val (.int 0), .val (.int 0), .val (.int 0), .val (.int 1), .val (.int 0), .val (.int 0), .val (.int 0), .unset, .unset, .unset] [])
          refine own_at (fun t k => XS.iload X2.here hx rfl (hb hby at_88) rfl k) ?_
          show own_Go p e below KK T2 (mkF m 90 #[.val (.int p1), .val (.int 0), .val (.int 0), .val (.int 0), .val (.int 1), .val (.int 0), .val (.int 0), .val (.int 0), .unset, .unset, .unset] [(.int 0)])
          refine own_at (fun t k => XS.iconst X2.here hx rfl (hb hby at_90) k) ?_
          show own_Go p e below KK T2 (mkF m 91 #[.val (.int p1), .val (.int 0), .val (.int 0), .val (.int 0), .val (.int 1), .val (.int 0), .val (.int 0), .val (.int 0), .unset, .unset, .unset] [(.int 4), (.int 0)])
          refine own_at (fun t k => XS.iand X2.here hx rfl (hb hby at_91) rfl k) ?_
          show own_Go p e below KK T2 (mkF m 92 #[.val (.int p1), .val (.int 0), .val (.int 0), .val (.int 0), .val (.int 1), .val (.int 0), .val (.int 0), .val (.int 0), .unset, .unset, .unset] [(.int ((0 : Int32) &&& (4 : Int32)))])
          rw [show ((0 : Int32) &&& (4 : Int32)) = (0 : Int32) from by decide]
          show own_Go p e below KK T2 (mkF m 92 #[.val (.int p1), .val (.int 0), .val (.int 0), .val (.int 0), .val (.int 1), .val (.int 0), .val (.int 0), .val (.int 0), .unset, .unset, .unset] [(.int 0)])
          have hc92 : (0 : Int32) = (0 : Int32) := by decide
          refine own_at (fun t k => XS.ifYes X2.here hx rfl (pc0 := 92) (pc' := 99) rfl (hb hby at_92) rfl (Jvm.Free.XT.i0_eq_t hc92) (by decide) (by decide) k) ?_
          show own_Go p e below KK T2 (mkF m 99 #[.val (.int p1), .val (.int 0), .val (.int 0), .val (.int 0), .val (.int 1), .val (.int 0), .val (.int 0), .val (.int 0), .unset, .unset, .unset] [])
          refine own_at (fun t k => XS.iconst X2.here hx rfl (hb hby at_99) k) ?_
          show own_Go p e below KK T2 (mkF m 100 #[.val (.int p1), .val (.int 0), .val (.int 0), .val (.int 0), .val (.int 1), .val (.int 0), .val (.int 0), .val (.int 0), .unset, .unset, .unset] [(.int 0)])
          refine own_at (fun t k => XS.istore X2.here hx rfl (hb hby at_100) rfl (l' := #[.val (.int p1), .val (.int 0), .val (.int 0), .val (.int 0), .val (.int 1), .val (.int 0), .val (.int 0), .val (.int 0), .val (.int 0), .unset, .unset]) rfl k) ?_
          show own_Go p e below KK T2 (mkF m 102 #[.val (.int p1), .val (.int 0), .val (.int 0), .val (.int 0), .val (.int 1), .val (.int 0), .val (.int 0), .val (.int 0), .val (.int 0), .unset, .unset] [])
          refine own_at (fun t k => XS.iload X2.here hx rfl (hb hby at_102) rfl k) ?_
          show own_Go p e below KK T2 (mkF m 104 #[.val (.int p1), .val (.int 0), .val (.int 0), .val (.int 0), .val (.int 1), .val (.int 0), .val (.int 0), .val (.int 0), .val (.int 0), .unset, .unset] [(.int 0)])
          refine own_at (fun t k => XS.bipush X2.here hx rfl (hb hby at_104) k) ?_
          show own_Go p e below KK T2 (mkF m 106 #[.val (.int p1), .val (.int 0), .val (.int 0), .val (.int 0), .val (.int 1), .val (.int 0), .val (.int 0), .val (.int 0), .val (.int 0), .unset, .unset] [(.int 8), (.int 0)])
          refine own_at (fun t k => XS.iand X2.here hx rfl (hb hby at_106) rfl k) ?_
          show own_Go p e below KK T2 (mkF m 107 #[.val (.int p1), .val (.int 0), .val (.int 0), .val (.int 0), .val (.int 1), .val (.int 0), .val (.int 0), .val (.int 0), .val (.int 0), .unset, .unset] [(.int ((0 : Int32) &&& (8 : Int32)))])
          rw [show ((0 : Int32) &&& (8 : Int32)) = (0 : Int32) from by decide]
          show own_Go p e below KK T2 (mkF m 107 #[.val (.int p1), .val (.int 0), .val (.int 0), .val (.int 0), .val (.int 1), .val (.int 0), .val (.int 0), .val (.int 0), .val (.int 0), .unset, .unset] [(.int 0)])
          have hc107 : (0 : Int32) = (0 : Int32) := by decide
          refine own_at (fun t k => XS.ifYes X2.here hx rfl (pc0 := 107) (pc' := 114) rfl (hb hby at_107) rfl (Jvm.Free.XT.i0_eq_t hc107) (by decide) (by decide) k) ?_
          show own_Go p e below KK T2 (mkF m 114 #[.val (.int p1), .val (.int 0), .val (.int 0), .val (.int 0), .val (.int 1), .val (.int 0), .val (.int 0), .val (.int 0), .val (.int 0), .unset, .unset] [])
          refine own_at (fun t k => XS.iconst X2.here hx rfl (hb hby at_114) k) ?_
          show own_Go p e below KK T2 (mkF m 115 #[.val (.int p1), .val (.int 0), .val (.int 0), .val (.int 0), .val (.int 1), .val (.int 0), .val (.int 0), .val (.int 0), .val (.int 0), .unset, .unset] [(.int 0)])
          refine own_at (fun t k => XS.istore X2.here hx rfl (hb hby at_115) rfl (l' := #[.val (.int p1), .val (.int 0), .val (.int 0), .val (.int 0), .val (.int 1), .val (.int 0), .val (.int 0), .val (.int 0), .val (.int 0), .val (.int 0), .unset]) rfl k) ?_
          show own_Go p e below KK T2 (mkF m 117 #[.val (.int p1), .val (.int 0), .val (.int 0), .val (.int 0), .val (.int 1), .val (.int 0), .val (.int 0), .val (.int 0), .val (.int 0), .val (.int 0), .unset] [])
          refine own_at (fun t k => XS.bipush X2.here hx rfl (hb hby at_117) k) ?_
          show own_Go p e below KK T2 (mkF m 119 #[.val (.int p1), .val (.int 0), .val (.int 0), .val (.int 0), .val (.int 1), .val (.int 0), .val (.int 0), .val (.int 0), .val (.int 0), .val (.int 0), .unset] [(.int 15)])
          refine own_at (fun t k => XS.istore X2.here hx rfl (hb hby at_119) rfl (l' := #[.val (.int p1), .val (.int 0), .val (.int 0), .val (.int 0), .val (.int 1), .val (.int 0), .val (.int 0), .val (.int 0), .val (.int 0), .val (.int 0), .val (.int 15)]) rfl k) ?_
          show own_Go p e below KK T2 (mkF m 121 #[.val (.int p1), .val (.int 0), .val (.int 0), .val (.int 0), .val (.int 1), .val (.int 0), .val (.int 0), .val (.int 0), .val (.int 0), .val (.int 0), .val (.int 15)] [])
          refine own_at (fun t k => XS.iload X2.here hx rfl (hb hby at_121) rfl k) ?_
          show own_Go p e below KK T2 (mkF m 123 #[.val (.int p1), .val (.int 0), .val (.int 0), .val (.int 0), .val (.int 1), .val (.int 0), .val (.int 0), .val (.int 0), .val (.int 0), .val (.int 0), .val (.int 15)] [(.int 0)])
          refine own_at (fun t k => XS.iloadN X2.here hx rfl (hb hby at_123) rfl k) ?_
          show own_Go p e below KK T2 (mkF m 124 #[.val (.int p1), .val (.int 0), .val (.int 0), .val (.int 0), .val (.int 1), .val (.int 0), .val (.int 0), .val (.int 0), .val (.int 0), .val (.int 0), .val (.int 15)] [(.int 0), (.int 0)])
          have hc124 : (0 : Int32) = (0 : Int32) := by decide
          refine own_at (fun t k => XS.icmpNo X2.here hx rfl (hb hby at_124) rfl (Jvm.Free.XT.ii_ne_f hc124) k) ?_
          show own_Go p e below KK T2 (mkF m 127 #[.val (.int p1), .val (.int 0), .val (.int 0), .val (.int 0), .val (.int 1), .val (.int 0), .val (.int 0), .val (.int 0), .val (.int 0), .val (.int 0), .val (.int 15)] [])
          refine own_at (fun t k => XS.iload X2.here hx rfl (hb hby at_127) rfl k) ?_
          show own_Go p e below KK T2 (mkF m 129 #[.val (.int p1), .val (.int 0), .val (.int 0), .val (.int 0), .val (.int 1), .val (.int 0), .val (.int 0), .val (.int 0), .val (.int 0), .val (.int 0), .val (.int 15)] [(.int 0)])
          refine own_at (fun t k => XS.iloadN X2.here hx rfl (hb hby at_129) rfl k) ?_
          show own_Go p e below KK T2 (mkF m 130 #[.val (.int p1), .val (.int 0), .val (.int 0), .val (.int 0), .val (.int 1), .val (.int 0), .val (.int 0), .val (.int 0), .val (.int 0), .val (.int 0), .val (.int 15)] [(.int 0), (.int 0)])
          have hc130 : (0 : Int32) = (0 : Int32) := by decide
          refine own_at (fun t k => XS.ifYes X2.here hx rfl (pc0 := 130) (pc' := 141) rfl (hb hby at_130) rfl (Jvm.Free.XT.i0_eq_t hc130) (by decide) (by decide) k) ?_
          show own_Go p e below KK T2 (mkF m 141 #[.val (.int p1), .val (.int 0), .val (.int 0), .val (.int 0), .val (.int 1), .val (.int 0), .val (.int 0), .val (.int 0), .val (.int 0), .val (.int 0), .val (.int 15)] [(.int 0)])
          refine own_at (fun t k => XS.iconst X2.here hx rfl (hb hby at_141) k) ?_
          show own_Go p e below KK T2 (mkF m 142 #[.val (.int p1), .val (.int 0), .val (.int 0), .val (.int 0), .val (.int 1), .val (.int 0), .val (.int 0), .val (.int 0), .val (.int 0), .val (.int 0), .val (.int 15)] [(.int 0), (.int 0)])
          have hc142 : (0 : Int32) = (0 : Int32) := by decide
          refine own_at (fun t k => XS.icmpNo X2.here hx rfl (hb hby at_142) rfl (Jvm.Free.XT.ii_ne_f hc142) k) ?_
          show own_Go p e below KK T2 (mkF m 145 #[.val (.int p1), .val (.int 0), .val (.int 0), .val (.int 0), .val (.int 1), .val (.int 0), .val (.int 0), .val (.int 0), .val (.int 0), .val (.int 0), .val (.int 15)] [])
          refine own_at (fun t k => XS.iload X2.here hx rfl (hb hby at_145) rfl k) ?_
          show own_Go p e below KK T2 (mkF m 147 #[.val (.int p1), .val (.int 0), .val (.int 0), .val (.int 0), .val (.int 1), .val (.int 0), .val (.int 0), .val (.int 0), .val (.int 0), .val (.int 0), .val (.int 15)] [(.int 0)])
          refine own_at (fun t k => XS.iloadN X2.here hx rfl (hb hby at_147) rfl k) ?_
          show own_Go p e below KK T2 (mkF m 148 #[.val (.int p1), .val (.int 0), .val (.int 0), .val (.int 0), .val (.int 1), .val (.int 0), .val (.int 0), .val (.int 0), .val (.int 0), .val (.int 0), .val (.int 15)] [(.int 0), (.int 0)])
          have hc148 : (0 : Int32) = (0 : Int32) := by decide
          refine own_at (fun t k => XS.icmpNo X2.here hx rfl (hb hby at_148) rfl (Jvm.Free.XT.ii_ne_f hc148) k) ?_
          show own_Go p e below KK T2 (mkF m 151 #[.val (.int p1), .val (.int 0), .val (.int 0), .val (.int 0), .val (.int 1), .val (.int 0), .val (.int 0), .val (.int 0), .val (.int 0), .val (.int 0), .val (.int 15)] [])
          refine own_at (fun t k => XS.iload X2.here hx rfl (hb hby at_151) rfl k) ?_
          show own_Go p e below KK T2 (mkF m 153 #[.val (.int p1), .val (.int 0), .val (.int 0), .val (.int 0), .val (.int 1), .val (.int 0), .val (.int 0), .val (.int 0), .val (.int 0), .val (.int 0), .val (.int 15)] [(.int 0)])
          refine own_at (fun t k => XS.iloadN X2.here hx rfl (hb hby at_153) rfl k) ?_
          show own_Go p e below KK T2 (mkF m 154 #[.val (.int p1), .val (.int 0), .val (.int 0), .val (.int 0), .val (.int 1), .val (.int 0), .val (.int 0), .val (.int 0), .val (.int 0), .val (.int 0), .val (.int 15)] [(.int 0), (.int 0)])
          have hc154 : (0 : Int32) = (0 : Int32) := by decide
          refine own_at (fun t k => XS.ifYes X2.here hx rfl (pc0 := 154) (pc' := 166) rfl (hb hby at_154) rfl (Jvm.Free.XT.i0_eq_t hc154) (by decide) (by decide) k) ?_
          show own_Go p e below KK T2 (mkF m 166 #[.val (.int p1), .val (.int 0), .val (.int 0), .val (.int 0), .val (.int 1), .val (.int 0), .val (.int 0), .val (.int 0), .val (.int 0), .val (.int 0), .val (.int 15)] [(.int 0)])
          refine own_at (fun t k => XS.iconst X2.here hx rfl (hb hby at_166) k) ?_
          show own_Go p e below KK T2 (mkF m 167 #[.val (.int p1), .val (.int 0), .val (.int 0), .val (.int 0), .val (.int 1), .val (.int 0), .val (.int 0), .val (.int 0), .val (.int 0), .val (.int 0), .val (.int 15)] [(.int 0), (.int 0)])
          have hc167 : (0 : Int32) = (0 : Int32) := by decide
          refine own_at (fun t k => XS.icmpNo X2.here hx rfl (hb hby at_167) rfl (Jvm.Free.XT.ii_ne_f hc167) k) ?_
          show own_Go p e below KK T2 (mkF m 170 #[.val (.int p1), .val (.int 0), .val (.int 0), .val (.int 0), .val (.int 1), .val (.int 0), .val (.int 0), .val (.int 0), .val (.int 0), .val (.int 0), .val (.int 15)] [])
          refine own_at (fun t k => XS.iload X2.here hx rfl (hb hby at_170) rfl k) ?_
          show own_Go p e below KK T2 (mkF m 172 #[.val (.int p1), .val (.int 0), .val (.int 0), .val (.int 0), .val (.int 1), .val (.int 0), .val (.int 0), .val (.int 0), .val (.int 0), .val (.int 0), .val (.int 15)] [(.int 0)])
          refine own_at (fun t k => XS.iload X2.here hx rfl (hb hby at_172) rfl k) ?_
          show own_Go p e below KK T2 (mkF m 174 #[.val (.int p1), .val (.int 0), .val (.int 0), .val (.int 0), .val (.int 1), .val (.int 0), .val (.int 0), .val (.int 0), .val (.int 0), .val (.int 0), .val (.int 15)] [(.int 15), (.int 0)])
          refine own_at (fun t k => XS.iconst X2.here hx rfl (hb hby at_174) k) ?_
          show own_Go p e below KK T2 (mkF m 175 #[.val (.int p1), .val (.int 0), .val (.int 0), .val (.int 0), .val (.int 1), .val (.int 0), .val (.int 0), .val (.int 0), .val (.int 0), .val (.int 0), .val (.int 15)] [(.int (-1 : Int32)), (.int 15), (.int 0)])
          refine own_at (fun t k => XS.ixor X2.here hx rfl (hb hby at_175) rfl k) ?_
          show own_Go p e below KK T2 (mkF m 176 #[.val (.int p1), .val (.int 0), .val (.int 0), .val (.int 0), .val (.int 1), .val (.int 0), .val (.int 0), .val (.int 0), .val (.int 0), .val (.int 0), .val (.int 15)] [(.int ((15 : Int32) ^^^ (-1 : Int32))), (.int 0)])
          rw [show ((15 : Int32) ^^^ (-1 : Int32)) = (-16 : Int32) from by decide]
          show own_Go p e below KK T2 (mkF m 176 #[.val (.int p1), .val (.int 0), .val (.int 0), .val (.int 0), .val (.int 1), .val (.int 0), .val (.int 0), .val (.int 0), .val (.int 0), .val (.int 0), .val (.int 15)] [(.int (-16 : Int32)), (.int 0)])
          refine own_at (fun t k => XS.iand X2.here hx rfl (hb hby at_176) rfl k) ?_
          show own_Go p e below KK T2 (mkF m 177 #[.val (.int p1), .val (.int 0), .val (.int 0), .val (.int 0), .val (.int 1), .val (.int 0), .val (.int 0), .val (.int 0), .val (.int 0), .val (.int 0), .val (.int 15)] [(.int ((0 : Int32) &&& (-16 : Int32)))])
          rw [show ((0 : Int32) &&& (-16 : Int32)) = (0 : Int32) from by decide]
          show own_Go p e below KK T2 (mkF m 177 #[.val (.int p1), .val (.int 0), .val (.int 0), .val (.int 0), .val (.int 1), .val (.int 0), .val (.int 0), .val (.int 0), .val (.int 0), .val (.int 0), .val (.int 15)] [(.int 0)])
          have hc177 : (0 : Int32) = (0 : Int32) := by decide
          refine own_at (fun t k => XS.ifNo X2.here hx rfl (hb hby at_177) rfl (Jvm.Free.XT.i0_ne_f hc177) k) ?_
          show own_Go p e below KK T2 (mkF m 180 #[.val (.int p1), .val (.int 0), .val (.int 0), .val (.int 0), .val (.int 1), .val (.int 0), .val (.int 0), .val (.int 0), .val (.int 0), .val (.int 0), .val (.int 15)] [])
          refine own_at (fun t k => XS.iload X2.here hx rfl (hb hby at_180) rfl k) ?_
          show own_Go p e below KK T2 (mkF m 182 #[.val (.int p1), .val (.int 0), .val (.int 0), .val (.int 0), .val (.int 1), .val (.int 0), .val (.int 0), .val (.int 0), .val (.int 0), .val (.int 0), .val (.int 15)] [(.int 0)])
          have hc182 : (0 : Int32) = (0 : Int32) := by decide
          refine own_at (fun t k => XS.ifNo X2.here hx rfl (hb hby at_182) rfl (Jvm.Free.XT.i0_ne_f hc182) k) ?_
          show own_Go p e below KK T2 (mkF m 185 #[.val (.int p1), .val (.int 0), .val (.int 0), .val (.int 0), .val (.int 1), .val (.int 0), .val (.int 0), .val (.int 0), .val (.int 0), .val (.int 0), .val (.int 15)] [])
          refine own_at (fun t k => XS.iconst X2.here hx rfl (hb hby at_185) k) ?_
          show own_Go p e below KK T2 (mkF m 186 #[.val (.int p1), .val (.int 0), .val (.int 0), .val (.int 0), .val (.int 1), .val (.int 0), .val (.int 0), .val (.int 0), .val (.int 0), .val (.int 0), .val (.int 15)] [(.int 1)])
          refine own_at (fun t k => XS.goto X2.here hx rfl (pc0 := 186) (pc' := 190) rfl (hb hby at_186) (by decide) (by decide) k) ?_
          show own_Go p e below KK T2 (mkF m 190 #[.val (.int p1), .val (.int 0), .val (.int 0), .val (.int 0), .val (.int 1), .val (.int 0), .val (.int 0), .val (.int 0), .val (.int 0), .val (.int 0), .val (.int 15)] [(.int 1)])
          refine own_at (fun t k => XS.iloadN X2.here hx rfl (hb hby at_190) rfl k) ?_
          show own_Go p e below KK T2 (mkF m 191 #[.val (.int p1), .val (.int 0), .val (.int 0), .val (.int 0), .val (.int 1), .val (.int 0), .val (.int 0), .val (.int 0), .val (.int 0), .val (.int 0), .val (.int 15)] [(.int 0), (.int 1)])
          have hc191 : (0 : Int32) = (0 : Int32) := by decide
          refine own_at (fun t k => XS.ifNo X2.here hx rfl (hb hby at_191) rfl (Jvm.Free.XT.i0_ne_f hc191) k) ?_
          show own_Go p e below KK T2 (mkF m 194 #[.val (.int p1), .val (.int 0), .val (.int 0), .val (.int 0), .val (.int 1), .val (.int 0), .val (.int 0), .val (.int 0), .val (.int 0), .val (.int 0), .val (.int 15)] [(.int 1)])
          refine own_at (fun t k => XS.iloadN X2.here hx rfl (hb hby at_194) rfl k) ?_
          show own_Go p e below KK T2 (mkF m 195 #[.val (.int p1), .val (.int 0), .val (.int 0), .val (.int 0), .val (.int 1), .val (.int 0), .val (.int 0), .val (.int 0), .val (.int 0), .val (.int 0), .val (.int 15)] [(.int 0), (.int 1)])
          have hc195 : (0 : Int32) = (0 : Int32) := by decide
          refine own_at (fun t k => XS.ifNo X2.here hx rfl (hb hby at_195) rfl (Jvm.Free.XT.i0_ne_f hc195) k) ?_
          show own_Go p e below KK T2 (mkF m 198 #[.val (.int p1), .val (.int 0), .val (.int 0), .val (.int 0), .val (.int 1), .val (.int 0), .val (.int 0), .val (.int 0), .val (.int 0), .val (.int 0), .val (.int 15)] [(.int 1)])
          refine own_at (fun t k => XS.iconst X2.here hx rfl (hb hby at_198) k) ?_
          show own_Go p e below KK T2 (mkF m 199 #[.val (.int p1), .val (.int 0), .val (.int 0), .val (.int 0), .val (.int 1), .val (.int 0), .val (.int 0), .val (.int 0), .val (.int 0), .val (.int 0), .val (.int 15)] [(.int 1), (.int 1)])
          refine own_at (fun t k => XS.goto X2.here hx rfl (pc0 := 199) (pc' := 203) rfl (hb hby at_199) (by decide) (by decide) k) ?_
          show own_Go p e below KK T2 (mkF m 203 #[.val (.int p1), .val (.int 0), .val (.int 0), .val (.int 0), .val (.int 1), .val (.int 0), .val (.int 0), .val (.int 0), .val (.int 0), .val (.int 0), .val (.int 15)] [(.int 1), (.int 1)])
          have hc203 : (1 : Int32) = (1 : Int32) := by decide
          refine own_at (fun t k => XS.icmpNo X2.here hx rfl (hb hby at_203) rfl (Jvm.Free.XT.ii_ne_f hc203) k) ?_
          show own_Go p e below KK T2 (mkF m 206 #[.val (.int p1), .val (.int 0), .val (.int 0), .val (.int 0), .val (.int 1), .val (.int 0), .val (.int 0), .val (.int 0), .val (.int 0), .val (.int 0), .val (.int 15)] [])
          refine own_at (fun t k => XS.iconst X2.here hx rfl (hb hby at_206) k) ?_
          show own_Go p e below KK T2 (mkF m 207 #[.val (.int p1), .val (.int 0), .val (.int 0), .val (.int 0), .val (.int 1), .val (.int 0), .val (.int 0), .val (.int 0), .val (.int 0), .val (.int 0), .val (.int 15)] [(.int 1)])
          refine own_at (fun t k => XS.goto X2.here hx rfl (pc0 := 207) (pc' := 211) rfl (hb hby at_207) (by decide) (by decide) k) ?_
          show own_Go p e below KK T2 (mkF m 211 #[.val (.int p1), .val (.int 0), .val (.int 0), .val (.int 0), .val (.int 1), .val (.int 0), .val (.int 0), .val (.int 0), .val (.int 0), .val (.int 0), .val (.int 15)] [(.int 1)])
          subst hKK
          exact own_retN X2 hx hlk (t := .boolean) Bd.returns (by simp) (hb hby at_211) (w := (1 : Int32)) (show nar .boolean (1 : Int32) = 1 from by decide) ⟨rfl, N2⟩ (Nat.le_of_ble_eq_true rfl) (Nat.le_of_ble_eq_true rfl)
      · refine own_at (fun t k => XS.ifNo X0.here hx rfl (hb hby at_27) rfl (Jvm.Free.XT.i0_eq_f hc27) k) ?_
        show own_Go p e below KK s₁ (mkF m 30 #[.val (.int p1), .val (.int 0), .val (.int 0), .unset, .unset, .unset, .unset, .unset, .unset, .unset, .unset] [])
        refine own_at (fun t k => XS.iconst X0.here hx rfl (hb hby at_30) k) ?_
        show own_Go p e below KK s₁ (mkF m 31 #[.val (.int p1), .val (.int 0), .val (.int 0), .unset, .unset, .unset, .unset, .unset, .unset, .unset, .unset] [(.int 1)])
        refine own_at (fun t k => XS.goto X0.here hx rfl (pc0 := 31) (pc' := 35) rfl (hb hby at_31) (by decide) (by decide) k) ?_
        show own_Go p e below KK s₁ (mkF m 35 #[.val (.int p1), .val (.int 0), .val (.int 0), .unset, .unset, .unset, .unset, .unset, .unset, .unset, .unset] [(.int 1)])
        refine own_at (fun t k => XS.istoreN X0.here hx rfl (hb hby at_35) rfl (l' := #[.val (.int p1), .val (.int 0), .val (.int 0), .val (.int 1), .unset, .unset, .unset, .unset, .unset, .unset, .unset]) rfl k) ?_
        show own_Go p e below KK s₁ (mkF m 36 #[.val (.int p1), .val (.int 0), .val (.int 0), .val (.int 1), .unset, .unset, .unset, .unset, .unset, .unset, .unset] [])
        refine own_at (fun t k => XS.iloadN X0.here hx rfl (hb hby at_36) rfl k) ?_
        show own_Go p e below KK s₁ (mkF m 37 #[.val (.int p1), .val (.int 0), .val (.int 0), .val (.int 1), .unset, .unset, .unset, .unset, .unset, .unset, .unset] [(.int p1)])
        refine own_at (fun t k => XS.bipush X0.here hx rfl (hb hby at_37) k) ?_
        show own_Go p e below KK s₁ (mkF m 39 #[.val (.int p1), .val (.int 0), .val (.int 0), .val (.int 1), .unset, .unset, .unset, .unset, .unset, .unset, .unset] [(.int 8), (.int p1)])
        refine own_at (fun t k => XS.iand X0.here hx rfl (hb hby at_39) rfl k) ?_
        show own_Go p e below KK s₁ (mkF m 40 #[.val (.int p1), .val (.int 0), .val (.int 0), .val (.int 1), .unset, .unset, .unset, .unset, .unset, .unset, .unset] [(.int (p1 &&& (8 : Int32)))])
        by_cases hc40 : (p1 &&& (8 : Int32)) = (0 : Int32)
        · refine own_at (fun t k => XS.ifYes X0.here hx rfl (pc0 := 40) (pc' := 47) rfl (hb hby at_40) rfl (Jvm.Free.XT.i0_eq_t hc40) (by decide) (by decide) k) ?_
          show own_Go p e below KK s₁ (mkF m 47 #[.val (.int p1), .val (.int 0), .val (.int 0), .val (.int 1), .unset, .unset, .unset, .unset, .unset, .unset, .unset] [])
          refine own_at (fun t k => XS.iconst X0.here hx rfl (hb hby at_47) k) ?_
          show own_Go p e below KK s₁ (mkF m 48 #[.val (.int p1), .val (.int 0), .val (.int 0), .val (.int 1), .unset, .unset, .unset, .unset, .unset, .unset, .unset] [(.int 0)])
          refine own_at (fun t k => XS.istore X0.here hx rfl (hb hby at_48) rfl (l' := #[.val (.int p1), .val (.int 0), .val (.int 0), .val (.int 1), .val (.int 0), .unset, .unset, .unset, .unset, .unset, .unset]) rfl k) ?_
          show own_Go p e below KK s₁ (mkF m 50 #[.val (.int p1), .val (.int 0), .val (.int 0), .val (.int 1), .val (.int 0), .unset, .unset, .unset, .unset, .unset, .unset] [])
          refine own_at (fun t k => XS.iloadN X0.here hx rfl (hb hby at_50) rfl k) ?_
          show own_Go p e below KK s₁ (mkF m 51 #[.val (.int p1), .val (.int 0), .val (.int 0), .val (.int 1), .val (.int 0), .unset, .unset, .unset, .unset, .unset, .unset] [(.int 0)])
          refine own_at (fun t k => XS.iloadN X0.here hx rfl (hb hby at_51) rfl k) ?_
          show own_Go p e below KK s₁ (mkF m 52 #[.val (.int p1), .val (.int 0), .val (.int 0), .val (.int 1), .val (.int 0), .unset, .unset, .unset, .unset, .unset, .unset] [(.int 0), (.int 0)])
          refine own_at (fun t k => XS.iloadN X0.here hx rfl (hb hby at_52) rfl k) ?_
          show own_Go p e below KK s₁ (mkF m 53 #[.val (.int p1), .val (.int 0), .val (.int 0), .val (.int 1), .val (.int 0), .unset, .unset, .unset, .unset, .unset, .unset] [(.int 1), (.int 0), (.int 0)])
          refine own_at (fun t k => XS.iload X0.here hx rfl (hb hby at_53) rfl k) ?_
          show own_Go p e below KK s₁ (mkF m 55 #[.val (.int p1), .val (.int 0), .val (.int 0), .val (.int 1), .val (.int 0), .unset, .unset, .unset, .unset, .unset, .unset] [(.int 0), (.int 1), (.int 0), (.int 0)])
          obtain ⟨_, _, ⟨T3, L3, k3, n3⟩, -, X3, ⟨Lc3, hQ3, l3, y3, z3⟩, st3⟩ := Jvm.LawKit.callS X0 hx (y := (⟨"com/example/oyster/oyster/core/form/NamedTest", "ends", "(ZZZZ)I"⟩ : MethodName)) hown (mvT hZ (hw _ (List.mem_of_getElem? (i := 0) rfl))) (mvT hZ (hw _ (List.mem_of_getElem? (i := 1) rfl))) (mvT hZ (hw _ (List.mem_of_getElem? (i := 2) rfl))) (mvT hZ (hw _ (List.mem_of_getElem? (i := 3) rfl))) (by decide) (backOf (W := 0) (rm_prog_119_2 l Z a0 hw [] (0 : Int32) (0 : Int32) (1 : Int32) (0 : Int32)  h0 n0 Z0 ) hZ (hw _ (List.mem_of_getElem? (i := 3) rfl)) (hw _ (List.mem_of_getElem? (i := 2) rfl)) (by decide) (by decide)) (g := (mkF m 55 #[.val (.int p1), .val (.int 0), .val (.int 0), .val (.int 1), .val (.int 0), .unset, .unset, .unset, .unset, .unset, .unset] [(.int 0), (.int 1), (.int 0), (.int 0)])) rfl (by rw [hml]; rfl) (argsL := [(.int 0), (.int 0), (.int 1), (.int 0)]) (rest := []) (lenOf pd__ZZZZ_I rfl) rfl (by show 2 * 0 + _ ≤ _; exact Nat.le_of_eq rfl) (hb hby at_55) (fun _ _ => ⟨rfl, e0, (by decide : 0 + 0 ≤ _), (by decide : 0 + 0 ≤ _)⟩)
          dsimp only [Pt.U, Pt.locs, Pt.cells, Pt.slots] at X3 l3 y3 z3 st3 hQ3
          subst l3 y3 z3
          obtain ⟨rfl, N3q, e3⟩ := hQ3
          rw [show (own_F_prog_119_2 (0 : Int32) (0 : Int32) (1 : Int32) (0 : Int32)) = (4 : Int32) from by decide] at st3
          have N3 := Fr.app N0 N3q
          refine own_of (fun t k => st3 t k) ?_
          show own_Go p e below KK T3 (mkF m 58 #[.val (.int p1), .val (.int 0), .val (.int 0), .val (.int 1), .val (.int 0), .unset, .unset, .unset, .unset, .unset, .unset] [(.int 4)])
          refine own_at (fun t k => XS.istore X3.here hx rfl (hb hby at_58) rfl (l' := #[.val (.int p1), .val (.int 0), .val (.int 0), .val (.int 1), .val (.int 0), .val (.int 4), .unset, .unset, .unset, .unset, .unset]) rfl k) ?_
          show own_Go p e below KK T3 (mkF m 60 #[.val (.int p1), .val (.int 0), .val (.int 0), .val (.int 1), .val (.int 0), .val (.int 4), .unset, .unset, .unset, .unset, .unset] [])
          refine own_at (fun t k => XS.iload X3.here hx rfl (hb hby at_60) rfl k) ?_
          show own_Go p e below KK T3 (mkF m 62 #[.val (.int p1), .val (.int 0), .val (.int 0), .val (.int 1), .val (.int 0), .val (.int 4), .unset, .unset, .unset, .unset, .unset] [(.int 4)])
          refine own_at (fun t k => XS.iconst X3.here hx rfl (hb hby at_62) k) ?_
          show own_Go p e below KK T3 (mkF m 63 #[.val (.int p1), .val (.int 0), .val (.int 0), .val (.int 1), .val (.int 0), .val (.int 4), .unset, .unset, .unset, .unset, .unset] [(.int 1), (.int 4)])
          refine own_at (fun t k => XS.iand X3.here hx rfl (hb hby at_63) rfl k) ?_
          show own_Go p e below KK T3 (mkF m 64 #[.val (.int p1), .val (.int 0), .val (.int 0), .val (.int 1), .val (.int 0), .val (.int 4), .unset, .unset, .unset, .unset, .unset] [(.int ((4 : Int32) &&& (1 : Int32)))])
          rw [show ((4 : Int32) &&& (1 : Int32)) = (0 : Int32) from by decide]
          show own_Go p e below KK T3 (mkF m 64 #[.val (.int p1), .val (.int 0), .val (.int 0), .val (.int 1), .val (.int 0), .val (.int 4), .unset, .unset, .unset, .unset, .unset] [(.int 0)])
          have hc64 : (0 : Int32) = (0 : Int32) := by decide
          refine own_at (fun t k => XS.ifYes X3.here hx rfl (pc0 := 64) (pc' := 71) rfl (hb hby at_64) rfl (Jvm.Free.XT.i0_eq_t hc64) (by decide) (by decide) k) ?_
          show own_Go p e below KK T3 (mkF m 71 #[.val (.int p1), .val (.int 0), .val (.int 0), .val (.int 1), .val (.int 0), .val (.int 4), .unset, .unset, .unset, .unset, .unset] [])
          refine own_at (fun t k => XS.iconst X3.here hx rfl (hb hby at_71) k) ?_
          show own_Go p e below KK T3 (mkF m 72 #[.val (.int p1), .val (.int 0), .val (.int 0), .val (.int 1), .val (.int 0), .val (.int 4), .unset, .unset, .unset, .unset, .unset] [(.int 0)])
          refine own_at (fun t k => XS.istore X3.here hx rfl (hb hby at_72) rfl (l' := #[.val (.int p1), .val (.int 0), .val (.int 0), .val (.int 1), .val (.int 0), .val (.int 4), .val (.int 0), .unset, .unset, .unset, .unset]) rfl k) ?_
          show own_Go p e below KK T3 (mkF m 74 #[.val (.int p1), .val (.int 0), .val (.int 0), .val (.int 1), .val (.int 0), .val (.int 4), .val (.int 0), .unset, .unset, .unset, .unset] [])
          refine own_at (fun t k => XS.iload X3.here hx rfl (hb hby at_74) rfl k) ?_
          show own_Go p e below KK T3 (mkF m 76 #[.val (.int p1), .val (.int 0), .val (.int 0), .val (.int 1), .val (.int 0), .val (.int 4), .val (.int 0), .unset, .unset, .unset, .unset] [(.int 4)])
          refine own_at (fun t k => XS.iconst X3.here hx rfl (hb hby at_76) k) ?_
          show own_Go p e below KK T3 (mkF m 77 #[.val (.int p1), .val (.int 0), .val (.int 0), .val (.int 1), .val (.int 0), .val (.int 4), .val (.int 0), .unset, .unset, .unset, .unset] [(.int 2), (.int 4)])
          refine own_at (fun t k => XS.iand X3.here hx rfl (hb hby at_77) rfl k) ?_
          show own_Go p e below KK T3 (mkF m 78 #[.val (.int p1), .val (.int 0), .val (.int 0), .val (.int 1), .val (.int 0), .val (.int 4), .val (.int 0), .unset, .unset, .unset, .unset] [(.int ((4 : Int32) &&& (2 : Int32)))])
          rw [show ((4 : Int32) &&& (2 : Int32)) = (0 : Int32) from by decide]
          show own_Go p e below KK T3 (mkF m 78 #[.val (.int p1), .val (.int 0), .val (.int 0), .val (.int 1), .val (.int 0), .val (.int 4), .val (.int 0), .unset, .unset, .unset, .unset] [(.int 0)])
          have hc78 : (0 : Int32) = (0 : Int32) := by decide
          refine own_at (fun t k => XS.ifYes X3.here hx rfl (pc0 := 78) (pc' := 85) rfl (hb hby at_78) rfl (Jvm.Free.XT.i0_eq_t hc78) (by decide) (by decide) k) ?_
          show own_Go p e below KK T3 (mkF m 85 #[.val (.int p1), .val (.int 0), .val (.int 0), .val (.int 1), .val (.int 0), .val (.int 4), .val (.int 0), .unset, .unset, .unset, .unset] [])
          refine own_at (fun t k => XS.iconst X3.here hx rfl (hb hby at_85) k) ?_
          show own_Go p e below KK T3 (mkF m 86 #[.val (.int p1), .val (.int 0), .val (.int 0), .val (.int 1), .val (.int 0), .val (.int 4), .val (.int 0), .unset, .unset, .unset, .unset] [(.int 0)])
          refine own_at (fun t k => XS.istore X3.here hx rfl (hb hby at_86) rfl (l' := #[.val (.int p1), .val (.int 0), .val (.int 0), .val (.int 1), .val (.int 0), .val (.int 4), .val (.int 0), .val (.int 0), .unset, .unset, .unset]) rfl k) ?_
          show own_Go p e below KK T3 (mkF m 88 #[.val (.int p1), .val (.int 0), .val (.int 0), .val (.int 1), .val (.int 0), .val (.int 4), .val (.int 0), .val (.int 0), .unset, .unset, .unset] [])
          refine own_at (fun t k => XS.iload X3.here hx rfl (hb hby at_88) rfl k) ?_
          show own_Go p e below KK T3 (mkF m 90 #[.val (.int p1), .val (.int 0), .val (.int 0), .val (.int 1), .val (.int 0), .val (.int 4), .val (.int 0), .val (.int 0), .unset, .unset, .unset] [(.int 4)])
          refine own_at (fun t k => XS.iconst X3.here hx rfl (hb hby at_90) k) ?_
          show own_Go p e below KK T3 (mkF m 91 #[.val (.int p1), .val (.int 0), .val (.int 0), .val (.int 1), .val (.int 0), .val (.int 4), .val (.int 0), .val (.int 0), .unset, .unset, .unset] [(.int 4), (.int 4)])
          refine own_at (fun t k => XS.iand X3.here hx rfl (hb hby at_91) rfl k) ?_
          show own_Go p e below KK T3 (mkF m 92 #[.val (.int p1), .val (.int 0), .val (.int 0), .val (.int 1), .val (.int 0), .val (.int 4), .val (.int 0), .val (.int 0), .unset, .unset, .unset] [(.int ((4 : Int32) &&& (4 : Int32)))])
          rw [show ((4 : Int32) &&& (4 : Int32)) = (4 : Int32) from by decide]
          show own_Go p e below KK T3 (mkF m 92 #[.val (.int p1), .val (.int 0), .val (.int 0), .val (.int 1), .val (.int 0), .val (.int 4), .val (.int 0), .val (.int 0), .unset, .unset, .unset] [(.int 4)])
          have hc92 : ¬ ((4 : Int32) = (0 : Int32)) := by decide
          refine own_at (fun t k => XS.ifNo X3.here hx rfl (hb hby at_92) rfl (Jvm.Free.XT.i0_eq_f hc92) k) ?_
          show own_Go p e below KK T3 (mkF m 95 #[.val (.int p1), .val (.int 0), .val (.int 0), .val (.int 1), .val (.int 0), .val (.int 4), .val (.int 0), .val (.int 0), .unset, .unset, .unset] [])
          refine own_at (fun t k => XS.iconst X3.here hx rfl (hb hby at_95) k) ?_
          show own_Go p e below KK T3 (mkF m 96 #[.val (.int p1), .val (.int 0), .val (.int 0), .val (.int 1), .val (.int 0), .val (.int 4), .val (.int 0), .val (.int 0), .unset, .unset, .unset] [(.int 1)])
          refine own_at (fun t k => XS.goto X3.here hx rfl (pc0 := 96) (pc' := 100) rfl (hb hby at_96) (by decide) (by decide) k) ?_
          show own_Go p e below KK T3 (mkF m 100 #[.val (.int p1), .val (.int 0), .val (.int 0), .val (.int 1), .val (.int 0), .val (.int 4), .val (.int 0), .val (.int 0), .unset, .unset, .unset] [(.int 1)])
          refine own_at (fun t k => XS.istore X3.here hx rfl (hb hby at_100) rfl (l' := #[.val (.int p1), .val (.int 0), .val (.int 0), .val (.int 1), .val (.int 0), .val (.int 4), .val (.int 0), .val (.int 0), .val (.int 1), .unset, .unset]) rfl k) ?_
          show own_Go p e below KK T3 (mkF m 102 #[.val (.int p1), .val (.int 0), .val (.int 0), .val (.int 1), .val (.int 0), .val (.int 4), .val (.int 0), .val (.int 0), .val (.int 1), .unset, .unset] [])
          refine own_at (fun t k => XS.iload X3.here hx rfl (hb hby at_102) rfl k) ?_
          show own_Go p e below KK T3 (mkF m 104 #[.val (.int p1), .val (.int 0), .val (.int 0), .val (.int 1), .val (.int 0), .val (.int 4), .val (.int 0), .val (.int 0), .val (.int 1), .unset, .unset] [(.int 4)])
          refine own_at (fun t k => XS.bipush X3.here hx rfl (hb hby at_104) k) ?_
          show own_Go p e below KK T3 (mkF m 106 #[.val (.int p1), .val (.int 0), .val (.int 0), .val (.int 1), .val (.int 0), .val (.int 4), .val (.int 0), .val (.int 0), .val (.int 1), .unset, .unset] [(.int 8), (.int 4)])
          refine own_at (fun t k => XS.iand X3.here hx rfl (hb hby at_106) rfl k) ?_
          show own_Go p e below KK T3 (mkF m 107 #[.val (.int p1), .val (.int 0), .val (.int 0), .val (.int 1), .val (.int 0), .val (.int 4), .val (.int 0), .val (.int 0), .val (.int 1), .unset, .unset] [(.int ((4 : Int32) &&& (8 : Int32)))])
          rw [show ((4 : Int32) &&& (8 : Int32)) = (0 : Int32) from by decide]
          show own_Go p e below KK T3 (mkF m 107 #[.val (.int p1), .val (.int 0), .val (.int 0), .val (.int 1), .val (.int 0), .val (.int 4), .val (.int 0), .val (.int 0), .val (.int 1), .unset, .unset] [(.int 0)])
          have hc107 : (0 : Int32) = (0 : Int32) := by decide
          refine own_at (fun t k => XS.ifYes X3.here hx rfl (pc0 := 107) (pc' := 114) rfl (hb hby at_107) rfl (Jvm.Free.XT.i0_eq_t hc107) (by decide) (by decide) k) ?_
          show own_Go p e below KK T3 (mkF m 114 #[.val (.int p1), .val (.int 0), .val (.int 0), .val (.int 1), .val (.int 0), .val (.int 4), .val (.int 0), .val (.int 0), .val (.int 1), .unset, .unset] [])
          refine own_at (fun t k => XS.iconst X3.here hx rfl (hb hby at_114) k) ?_
          show own_Go p e below KK T3 (mkF m 115 #[.val (.int p1), .val (.int 0), .val (.int 0), .val (.int 1), .val (.int 0), .val (.int 4), .val (.int 0), .val (.int 0), .val (.int 1), .unset, .unset] [(.int 0)])
          refine own_at (fun t k => XS.istore X3.here hx rfl (hb hby at_115) rfl (l' := #[.val (.int p1), .val (.int 0), .val (.int 0), .val (.int 1), .val (.int 0), .val (.int 4), .val (.int 0), .val (.int 0), .val (.int 1), .val (.int 0), .unset]) rfl k) ?_
          show own_Go p e below KK T3 (mkF m 117 #[.val (.int p1), .val (.int 0), .val (.int 0), .val (.int 1), .val (.int 0), .val (.int 4), .val (.int 0), .val (.int 0), .val (.int 1), .val (.int 0), .unset] [])
          refine own_at (fun t k => XS.bipush X3.here hx rfl (hb hby at_117) k) ?_
          show own_Go p e below KK T3 (mkF m 119 #[.val (.int p1), .val (.int 0), .val (.int 0), .val (.int 1), .val (.int 0), .val (.int 4), .val (.int 0), .val (.int 0), .val (.int 1), .val (.int 0), .unset] [(.int 15)])
          refine own_at (fun t k => XS.istore X3.here hx rfl (hb hby at_119) rfl (l' := #[.val (.int p1), .val (.int 0), .val (.int 0), .val (.int 1), .val (.int 0), .val (.int 4), .val (.int 0), .val (.int 0), .val (.int 1), .val (.int 0), .val (.int 15)]) rfl k) ?_
          show own_Go p e below KK T3 (mkF m 121 #[.val (.int p1), .val (.int 0), .val (.int 0), .val (.int 1), .val (.int 0), .val (.int 4), .val (.int 0), .val (.int 0), .val (.int 1), .val (.int 0), .val (.int 15)] [])
          refine own_at (fun t k => XS.iload X3.here hx rfl (hb hby at_121) rfl k) ?_
          show own_Go p e below KK T3 (mkF m 123 #[.val (.int p1), .val (.int 0), .val (.int 0), .val (.int 1), .val (.int 0), .val (.int 4), .val (.int 0), .val (.int 0), .val (.int 1), .val (.int 0), .val (.int 15)] [(.int 0)])
          refine own_at (fun t k => XS.iloadN X3.here hx rfl (hb hby at_123) rfl k) ?_
          show own_Go p e below KK T3 (mkF m 124 #[.val (.int p1), .val (.int 0), .val (.int 0), .val (.int 1), .val (.int 0), .val (.int 4), .val (.int 0), .val (.int 0), .val (.int 1), .val (.int 0), .val (.int 15)] [(.int 0), (.int 0)])
          have hc124 : (0 : Int32) = (0 : Int32) := by decide
          refine own_at (fun t k => XS.icmpNo X3.here hx rfl (hb hby at_124) rfl (Jvm.Free.XT.ii_ne_f hc124) k) ?_
          show own_Go p e below KK T3 (mkF m 127 #[.val (.int p1), .val (.int 0), .val (.int 0), .val (.int 1), .val (.int 0), .val (.int 4), .val (.int 0), .val (.int 0), .val (.int 1), .val (.int 0), .val (.int 15)] [])
          refine own_at (fun t k => XS.iload X3.here hx rfl (hb hby at_127) rfl k) ?_
          show own_Go p e below KK T3 (mkF m 129 #[.val (.int p1), .val (.int 0), .val (.int 0), .val (.int 1), .val (.int 0), .val (.int 4), .val (.int 0), .val (.int 0), .val (.int 1), .val (.int 0), .val (.int 15)] [(.int 0)])
          refine own_at (fun t k => XS.iloadN X3.here hx rfl (hb hby at_129) rfl k) ?_
          show own_Go p e below KK T3 (mkF m 130 #[.val (.int p1), .val (.int 0), .val (.int 0), .val (.int 1), .val (.int 0), .val (.int 4), .val (.int 0), .val (.int 0), .val (.int 1), .val (.int 0), .val (.int 15)] [(.int 0), (.int 0)])
          have hc130 : (0 : Int32) = (0 : Int32) := by decide
          refine own_at (fun t k => XS.ifYes X3.here hx rfl (pc0 := 130) (pc' := 141) rfl (hb hby at_130) rfl (Jvm.Free.XT.i0_eq_t hc130) (by decide) (by decide) k) ?_
          show own_Go p e below KK T3 (mkF m 141 #[.val (.int p1), .val (.int 0), .val (.int 0), .val (.int 1), .val (.int 0), .val (.int 4), .val (.int 0), .val (.int 0), .val (.int 1), .val (.int 0), .val (.int 15)] [(.int 0)])
          refine own_at (fun t k => XS.iconst X3.here hx rfl (hb hby at_141) k) ?_
          show own_Go p e below KK T3 (mkF m 142 #[.val (.int p1), .val (.int 0), .val (.int 0), .val (.int 1), .val (.int 0), .val (.int 4), .val (.int 0), .val (.int 0), .val (.int 1), .val (.int 0), .val (.int 15)] [(.int 0), (.int 0)])
          have hc142 : (0 : Int32) = (0 : Int32) := by decide
          refine own_at (fun t k => XS.icmpNo X3.here hx rfl (hb hby at_142) rfl (Jvm.Free.XT.ii_ne_f hc142) k) ?_
          show own_Go p e below KK T3 (mkF m 145 #[.val (.int p1), .val (.int 0), .val (.int 0), .val (.int 1), .val (.int 0), .val (.int 4), .val (.int 0), .val (.int 0), .val (.int 1), .val (.int 0), .val (.int 15)] [])
          refine own_at (fun t k => XS.iload X3.here hx rfl (hb hby at_145) rfl k) ?_
          show own_Go p e below KK T3 (mkF m 147 #[.val (.int p1), .val (.int 0), .val (.int 0), .val (.int 1), .val (.int 0), .val (.int 4), .val (.int 0), .val (.int 0), .val (.int 1), .val (.int 0), .val (.int 15)] [(.int 1)])
          refine own_at (fun t k => XS.iloadN X3.here hx rfl (hb hby at_147) rfl k) ?_
          show own_Go p e below KK T3 (mkF m 148 #[.val (.int p1), .val (.int 0), .val (.int 0), .val (.int 1), .val (.int 0), .val (.int 4), .val (.int 0), .val (.int 0), .val (.int 1), .val (.int 0), .val (.int 15)] [(.int 1), (.int 1)])
          have hc148 : (1 : Int32) = (1 : Int32) := by decide
          refine own_at (fun t k => XS.icmpNo X3.here hx rfl (hb hby at_148) rfl (Jvm.Free.XT.ii_ne_f hc148) k) ?_
          show own_Go p e below KK T3 (mkF m 151 #[.val (.int p1), .val (.int 0), .val (.int 0), .val (.int 1), .val (.int 0), .val (.int 4), .val (.int 0), .val (.int 0), .val (.int 1), .val (.int 0), .val (.int 15)] [])
          refine own_at (fun t k => XS.iload X3.here hx rfl (hb hby at_151) rfl k) ?_
          show own_Go p e below KK T3 (mkF m 153 #[.val (.int p1), .val (.int 0), .val (.int 0), .val (.int 1), .val (.int 0), .val (.int 4), .val (.int 0), .val (.int 0), .val (.int 1), .val (.int 0), .val (.int 15)] [(.int 0)])
          refine own_at (fun t k => XS.iloadN X3.here hx rfl (hb hby at_153) rfl k) ?_
          show own_Go p e below KK T3 (mkF m 154 #[.val (.int p1), .val (.int 0), .val (.int 0), .val (.int 1), .val (.int 0), .val (.int 4), .val (.int 0), .val (.int 0), .val (.int 1), .val (.int 0), .val (.int 15)] [(.int 1), (.int 0)])
          have hc154 : ¬ ((1 : Int32) = (0 : Int32)) := by decide
          refine own_at (fun t k => XS.ifNo X3.here hx rfl (hb hby at_154) rfl (Jvm.Free.XT.i0_eq_f hc154) k) ?_
          show own_Go p e below KK T3 (mkF m 157 #[.val (.int p1), .val (.int 0), .val (.int 0), .val (.int 1), .val (.int 0), .val (.int 4), .val (.int 0), .val (.int 0), .val (.int 1), .val (.int 0), .val (.int 15)] [(.int 0)])
          refine own_at (fun t k => XS.iload X3.here hx rfl (hb hby at_157) rfl k) ?_
          show own_Go p e below KK T3 (mkF m 159 #[.val (.int p1), .val (.int 0), .val (.int 0), .val (.int 1), .val (.int 0), .val (.int 4), .val (.int 0), .val (.int 0), .val (.int 1), .val (.int 0), .val (.int 15)] [(.int 0), (.int 0)])
          have hc159 : (0 : Int32) = (0 : Int32) := by decide
          refine own_at (fun t k => XS.ifYes X3.here hx rfl (pc0 := 159) (pc' := 166) rfl (hb hby at_159) rfl (Jvm.Free.XT.i0_eq_t hc159) (by decide) (by decide) k) ?_
          show own_Go p e below KK T3 (mkF m 166 #[.val (.int p1), .val (.int 0), .val (.int 0), .val (.int 1), .val (.int 0), .val (.int 4), .val (.int 0), .val (.int 0), .val (.int 1), .val (.int 0), .val (.int 15)] [(.int 0)])
          refine own_at (fun t k => XS.iconst X3.here hx rfl (hb hby at_166) k) ?_
          show own_Go p e below KK T3 (mkF m 167 #[.val (.int p1), .val (.int 0), .val (.int 0), .val (.int 1), .val (.int 0), .val (.int 4), .val (.int 0), .val (.int 0), .val (.int 1), .val (.int 0), .val (.int 15)] [(.int 0), (.int 0)])
          have hc167 : (0 : Int32) = (0 : Int32) := by decide
          refine own_at (fun t k => XS.icmpNo X3.here hx rfl (hb hby at_167) rfl (Jvm.Free.XT.ii_ne_f hc167) k) ?_
          show own_Go p e below KK T3 (mkF m 170 #[.val (.int p1), .val (.int 0), .val (.int 0), .val (.int 1), .val (.int 0), .val (.int 4), .val (.int 0), .val (.int 0), .val (.int 1), .val (.int 0), .val (.int 15)] [])
          refine own_at (fun t k => XS.iload X3.here hx rfl (hb hby at_170) rfl k) ?_
          show own_Go p e below KK T3 (mkF m 172 #[.val (.int p1), .val (.int 0), .val (.int 0), .val (.int 1), .val (.int 0), .val (.int 4), .val (.int 0), .val (.int 0), .val (.int 1), .val (.int 0), .val (.int 15)] [(.int 4)])
          refine own_at (fun t k => XS.iload X3.here hx rfl (hb hby at_172) rfl k) ?_
          show own_Go p e below KK T3 (mkF m 174 #[.val (.int p1), .val (.int 0), .val (.int 0), .val (.int 1), .val (.int 0), .val (.int 4), .val (.int 0), .val (.int 0), .val (.int 1), .val (.int 0), .val (.int 15)] [(.int 15), (.int 4)])
          refine own_at (fun t k => XS.iconst X3.here hx rfl (hb hby at_174) k) ?_
          show own_Go p e below KK T3 (mkF m 175 #[.val (.int p1), .val (.int 0), .val (.int 0), .val (.int 1), .val (.int 0), .val (.int 4), .val (.int 0), .val (.int 0), .val (.int 1), .val (.int 0), .val (.int 15)] [(.int (-1 : Int32)), (.int 15), (.int 4)])
          refine own_at (fun t k => XS.ixor X3.here hx rfl (hb hby at_175) rfl k) ?_
          show own_Go p e below KK T3 (mkF m 176 #[.val (.int p1), .val (.int 0), .val (.int 0), .val (.int 1), .val (.int 0), .val (.int 4), .val (.int 0), .val (.int 0), .val (.int 1), .val (.int 0), .val (.int 15)] [(.int ((15 : Int32) ^^^ (-1 : Int32))), (.int 4)])
          rw [show ((15 : Int32) ^^^ (-1 : Int32)) = (-16 : Int32) from by decide]
          show own_Go p e below KK T3 (mkF m 176 #[.val (.int p1), .val (.int 0), .val (.int 0), .val (.int 1), .val (.int 0), .val (.int 4), .val (.int 0), .val (.int 0), .val (.int 1), .val (.int 0), .val (.int 15)] [(.int (-16 : Int32)), (.int 4)])
          refine own_at (fun t k => XS.iand X3.here hx rfl (hb hby at_176) rfl k) ?_
          show own_Go p e below KK T3 (mkF m 177 #[.val (.int p1), .val (.int 0), .val (.int 0), .val (.int 1), .val (.int 0), .val (.int 4), .val (.int 0), .val (.int 0), .val (.int 1), .val (.int 0), .val (.int 15)] [(.int ((4 : Int32) &&& (-16 : Int32)))])
          rw [show ((4 : Int32) &&& (-16 : Int32)) = (0 : Int32) from by decide]
          show own_Go p e below KK T3 (mkF m 177 #[.val (.int p1), .val (.int 0), .val (.int 0), .val (.int 1), .val (.int 0), .val (.int 4), .val (.int 0), .val (.int 0), .val (.int 1), .val (.int 0), .val (.int 15)] [(.int 0)])
          have hc177 : (0 : Int32) = (0 : Int32) := by decide
          refine own_at (fun t k => XS.ifNo X3.here hx rfl (hb hby at_177) rfl (Jvm.Free.XT.i0_ne_f hc177) k) ?_
          show own_Go p e below KK T3 (mkF m 180 #[.val (.int p1), .val (.int 0), .val (.int 0), .val (.int 1), .val (.int 0), .val (.int 4), .val (.int 0), .val (.int 0), .val (.int 1), .val (.int 0), .val (.int 15)] [])
          refine own_at (fun t k => XS.iload X3.here hx rfl (hb hby at_180) rfl k) ?_
          show own_Go p e below KK T3 (mkF m 182 #[.val (.int p1), .val (.int 0), .val (.int 0), .val (.int 1), .val (.int 0), .val (.int 4), .val (.int 0), .val (.int 0), .val (.int 1), .val (.int 0), .val (.int 15)] [(.int 4)])
          have hc182 : ¬ ((4 : Int32) = (0 : Int32)) := by decide
          refine own_at (fun t k => XS.ifYes X3.here hx rfl (pc0 := 182) (pc' := 189) rfl (hb hby at_182) rfl (Jvm.Free.XT.i0_ne_t hc182) (by decide) (by decide) k) ?_
          show own_Go p e below KK T3 (mkF m 189 #[.val (.int p1), .val (.int 0), .val (.int 0), .val (.int 1), .val (.int 0), .val (.int 4), .val (.int 0), .val (.int 0), .val (.int 1), .val (.int 0), .val (.int 15)] [])
          refine own_at (fun t k => XS.iconst X3.here hx rfl (hb hby at_189) k) ?_
          show own_Go p e below KK T3 (mkF m 190 #[.val (.int p1), .val (.int 0), .val (.int 0), .val (.int 1), .val (.int 0), .val (.int 4), .val (.int 0), .val (.int 0), .val (.int 1), .val (.int 0), .val (.int 15)] [(.int 0)])
          refine own_at (fun t k => XS.iloadN X3.here hx rfl (hb hby at_190) rfl k) ?_
          show own_Go p e below KK T3 (mkF m 191 #[.val (.int p1), .val (.int 0), .val (.int 0), .val (.int 1), .val (.int 0), .val (.int 4), .val (.int 0), .val (.int 0), .val (.int 1), .val (.int 0), .val (.int 15)] [(.int 0), (.int 0)])
          have hc191 : (0 : Int32) = (0 : Int32) := by decide
          refine own_at (fun t k => XS.ifNo X3.here hx rfl (hb hby at_191) rfl (Jvm.Free.XT.i0_ne_f hc191) k) ?_
          show own_Go p e below KK T3 (mkF m 194 #[.val (.int p1), .val (.int 0), .val (.int 0), .val (.int 1), .val (.int 0), .val (.int 4), .val (.int 0), .val (.int 0), .val (.int 1), .val (.int 0), .val (.int 15)] [(.int 0)])
          refine own_at (fun t k => XS.iloadN X3.here hx rfl (hb hby at_194) rfl k) ?_
          show own_Go p e below KK T3 (mkF m 195 #[.val (.int p1), .val (.int 0), .val (.int 0), .val (.int 1), .val (.int 0), .val (.int 4), .val (.int 0), .val (.int 0), .val (.int 1), .val (.int 0), .val (.int 15)] [(.int 1), (.int 0)])
          have hc195 : ¬ ((1 : Int32) = (0 : Int32)) := by decide
          refine own_at (fun t k => XS.ifYes X3.here hx rfl (pc0 := 195) (pc' := 202) rfl (hb hby at_195) rfl (Jvm.Free.XT.i0_ne_t hc195) (by decide) (by decide) k) ?_
          show own_Go p e below KK T3 (mkF m 202 #[.val (.int p1), .val (.int 0), .val (.int 0), .val (.int 1), .val (.int 0), .val (.int 4), .val (.int 0), .val (.int 0), .val (.int 1), .val (.int 0), .val (.int 15)] [(.int 0)])
          refine own_at (fun t k => XS.iconst X3.here hx rfl (hb hby at_202) k) ?_
          show own_Go p e below KK T3 (mkF m 203 #[.val (.int p1), .val (.int 0), .val (.int 0), .val (.int 1), .val (.int 0), .val (.int 4), .val (.int 0), .val (.int 0), .val (.int 1), .val (.int 0), .val (.int 15)] [(.int 0), (.int 0)])
          have hc203 : (0 : Int32) = (0 : Int32) := by decide
          refine own_at (fun t k => XS.icmpNo X3.here hx rfl (hb hby at_203) rfl (Jvm.Free.XT.ii_ne_f hc203) k) ?_
          show own_Go p e below KK T3 (mkF m 206 #[.val (.int p1), .val (.int 0), .val (.int 0), .val (.int 1), .val (.int 0), .val (.int 4), .val (.int 0), .val (.int 0), .val (.int 1), .val (.int 0), .val (.int 15)] [])
          refine own_at (fun t k => XS.iconst X3.here hx rfl (hb hby at_206) k) ?_
          show own_Go p e below KK T3 (mkF m 207 #[.val (.int p1), .val (.int 0), .val (.int 0), .val (.int 1), .val (.int 0), .val (.int 4), .val (.int 0), .val (.int 0), .val (.int 1), .val (.int 0), .val (.int 15)] [(.int 1)])
          refine own_at (fun t k => XS.goto X3.here hx rfl (pc0 := 207) (pc' := 211) rfl (hb hby at_207) (by decide) (by decide) k) ?_
          show own_Go p e below KK T3 (mkF m 211 #[.val (.int p1), .val (.int 0), .val (.int 0), .val (.int 1), .val (.int 0), .val (.int 4), .val (.int 0), .val (.int 0), .val (.int 1), .val (.int 0), .val (.int 15)] [(.int 1)])
          subst hKK
          exact own_retN X3 hx hlk (t := .boolean) Bd.returns (by simp) (hb hby at_211) (w := (1 : Int32)) (show nar .boolean (1 : Int32) = 1 from by decide) ⟨rfl, N3⟩ (Nat.le_of_ble_eq_true rfl) (Nat.le_of_ble_eq_true rfl)
        · refine own_at (fun t k => XS.ifNo X0.here hx rfl (hb hby at_40) rfl (Jvm.Free.XT.i0_eq_f hc40) k) ?_
          show own_Go p e below KK s₁ (mkF m 43 #[.val (.int p1), .val (.int 0), .val (.int 0), .val (.int 1), .unset, .unset, .unset, .unset, .unset, .unset, .unset] [])
          refine own_at (fun t k => XS.iconst X0.here hx rfl (hb hby at_43) k) ?_
          show own_Go p e below KK s₁ (mkF m 44 #[.val (.int p1), .val (.int 0), .val (.int 0), .val (.int 1), .unset, .unset, .unset, .unset, .unset, .unset, .unset] [(.int 1)])
          refine own_at (fun t k => XS.goto X0.here hx rfl (pc0 := 44) (pc' := 48) rfl (hb hby at_44) (by decide) (by decide) k) ?_
          show own_Go p e below KK s₁ (mkF m 48 #[.val (.int p1), .val (.int 0), .val (.int 0), .val (.int 1), .unset, .unset, .unset, .unset, .unset, .unset, .unset] [(.int 1)])
          refine own_at (fun t k => XS.istore X0.here hx rfl (hb hby at_48) rfl (l' := #[.val (.int p1), .val (.int 0), .val (.int 0), .val (.int 1), .val (.int 1), .unset, .unset, .unset, .unset, .unset, .unset]) rfl k) ?_
          show own_Go p e below KK s₁ (mkF m 50 #[.val (.int p1), .val (.int 0), .val (.int 0), .val (.int 1), .val (.int 1), .unset, .unset, .unset, .unset, .unset, .unset] [])
          refine own_at (fun t k => XS.iloadN X0.here hx rfl (hb hby at_50) rfl k) ?_
          show own_Go p e below KK s₁ (mkF m 51 #[.val (.int p1), .val (.int 0), .val (.int 0), .val (.int 1), .val (.int 1), .unset, .unset, .unset, .unset, .unset, .unset] [(.int 0)])
          refine own_at (fun t k => XS.iloadN X0.here hx rfl (hb hby at_51) rfl k) ?_
          show own_Go p e below KK s₁ (mkF m 52 #[.val (.int p1), .val (.int 0), .val (.int 0), .val (.int 1), .val (.int 1), .unset, .unset, .unset, .unset, .unset, .unset] [(.int 0), (.int 0)])
          refine own_at (fun t k => XS.iloadN X0.here hx rfl (hb hby at_52) rfl k) ?_
          show own_Go p e below KK s₁ (mkF m 53 #[.val (.int p1), .val (.int 0), .val (.int 0), .val (.int 1), .val (.int 1), .unset, .unset, .unset, .unset, .unset, .unset] [(.int 1), (.int 0), (.int 0)])
          refine own_at (fun t k => XS.iload X0.here hx rfl (hb hby at_53) rfl k) ?_
          show own_Go p e below KK s₁ (mkF m 55 #[.val (.int p1), .val (.int 0), .val (.int 0), .val (.int 1), .val (.int 1), .unset, .unset, .unset, .unset, .unset, .unset] [(.int 1), (.int 1), (.int 0), (.int 0)])
          obtain ⟨_, _, ⟨T4, L4, k4, n4⟩, -, X4, ⟨Lc4, hQ4, l4, y4, z4⟩, st4⟩ := Jvm.LawKit.callS X0 hx (y := (⟨"com/example/oyster/oyster/core/form/NamedTest", "ends", "(ZZZZ)I"⟩ : MethodName)) hown (mvT hZ (hw _ (List.mem_of_getElem? (i := 0) rfl))) (mvT hZ (hw _ (List.mem_of_getElem? (i := 1) rfl))) (mvT hZ (hw _ (List.mem_of_getElem? (i := 2) rfl))) (mvT hZ (hw _ (List.mem_of_getElem? (i := 3) rfl))) (by decide) (backOf (W := 0) (rm_prog_119_2 l Z a0 hw [] (0 : Int32) (0 : Int32) (1 : Int32) (1 : Int32)  h0 n0 Z0 ) hZ (hw _ (List.mem_of_getElem? (i := 3) rfl)) (hw _ (List.mem_of_getElem? (i := 2) rfl)) (by decide) (by decide)) (g := (mkF m 55 #[.val (.int p1), .val (.int 0), .val (.int 0), .val (.int 1), .val (.int 1), .unset, .unset, .unset, .unset, .unset, .unset] [(.int 1), (.int 1), (.int 0), (.int 0)])) rfl (by rw [hml]; rfl) (argsL := [(.int 0), (.int 0), (.int 1), (.int 1)]) (rest := []) (lenOf pd__ZZZZ_I rfl) rfl (by show 2 * 0 + _ ≤ _; exact Nat.le_of_eq rfl) (hb hby at_55) (fun _ _ => ⟨rfl, e0, (by decide : 0 + 0 ≤ _), (by decide : 0 + 0 ≤ _)⟩)
          dsimp only [Pt.U, Pt.locs, Pt.cells, Pt.slots] at X4 l4 y4 z4 st4 hQ4
          subst l4 y4 z4
          obtain ⟨rfl, N4q, e4⟩ := hQ4
          rw [show (own_F_prog_119_2 (0 : Int32) (0 : Int32) (1 : Int32) (1 : Int32)) = (12 : Int32) from by decide] at st4
          have N4 := Fr.app N0 N4q
          refine own_of (fun t k => st4 t k) ?_
          show own_Go p e below KK T4 (mkF m 58 #[.val (.int p1), .val (.int 0), .val (.int 0), .val (.int 1), .val (.int 1), .unset, .unset, .unset, .unset, .unset, .unset] [(.int 12)])
          refine own_at (fun t k => XS.istore X4.here hx rfl (hb hby at_58) rfl (l' := #[.val (.int p1), .val (.int 0), .val (.int 0), .val (.int 1), .val (.int 1), .val (.int 12), .unset, .unset, .unset, .unset, .unset]) rfl k) ?_
          show own_Go p e below KK T4 (mkF m 60 #[.val (.int p1), .val (.int 0), .val (.int 0), .val (.int 1), .val (.int 1), .val (.int 12), .unset, .unset, .unset, .unset, .unset] [])
          refine own_at (fun t k => XS.iload X4.here hx rfl (hb hby at_60) rfl k) ?_
          show own_Go p e below KK T4 (mkF m 62 #[.val (.int p1), .val (.int 0), .val (.int 0), .val (.int 1), .val (.int 1), .val (.int 12), .unset, .unset, .unset, .unset, .unset] [(.int 12)])
          refine own_at (fun t k => XS.iconst X4.here hx rfl (hb hby at_62) k) ?_
          show own_Go p e below KK T4 (mkF m 63 #[.val (.int p1), .val (.int 0), .val (.int 0), .val (.int 1), .val (.int 1), .val (.int 12), .unset, .unset, .unset, .unset, .unset] [(.int 1), (.int 12)])
          refine own_at (fun t k => XS.iand X4.here hx rfl (hb hby at_63) rfl k) ?_
          show own_Go p e below KK T4 (mkF m 64 #[.val (.int p1), .val (.int 0), .val (.int 0), .val (.int 1), .val (.int 1), .val (.int 12), .unset, .unset, .unset, .unset, .unset] [(.int ((12 : Int32) &&& (1 : Int32)))])
          rw [show ((12 : Int32) &&& (1 : Int32)) = (0 : Int32) from by decide]
          show own_Go p e below KK T4 (mkF m 64 #[.val (.int p1), .val (.int 0), .val (.int 0), .val (.int 1), .val (.int 1), .val (.int 12), .unset, .unset, .unset, .unset, .unset] [(.int 0)])
          have hc64 : (0 : Int32) = (0 : Int32) := by decide
          refine own_at (fun t k => XS.ifYes X4.here hx rfl (pc0 := 64) (pc' := 71) rfl (hb hby at_64) rfl (Jvm.Free.XT.i0_eq_t hc64) (by decide) (by decide) k) ?_
          show own_Go p e below KK T4 (mkF m 71 #[.val (.int p1), .val (.int 0), .val (.int 0), .val (.int 1), .val (.int 1), .val (.int 12), .unset, .unset, .unset, .unset, .unset] [])
          refine own_at (fun t k => XS.iconst X4.here hx rfl (hb hby at_71) k) ?_
          show own_Go p e below KK T4 (mkF m 72 #[.val (.int p1), .val (.int 0), .val (.int 0), .val (.int 1), .val (.int 1), .val (.int 12), .unset, .unset, .unset, .unset, .unset] [(.int 0)])
          refine own_at (fun t k => XS.istore X4.here hx rfl (hb hby at_72) rfl (l' := #[.val (.int p1), .val (.int 0), .val (.int 0), .val (.int 1), .val (.int 1), .val (.int 12), .val (.int 0), .unset, .unset, .unset, .unset]) rfl k) ?_
          show own_Go p e below KK T4 (mkF m 74 #[.val (.int p1), .val (.int 0), .val (.int 0), .val (.int 1), .val (.int 1), .val (.int 12), .val (.int 0), .unset, .unset, .unset, .unset] [])
          refine own_at (fun t k => XS.iload X4.here hx rfl (hb hby at_74) rfl k) ?_
          show own_Go p e below KK T4 (mkF m 76 #[.val (.int p1), .val (.int 0), .val (.int 0), .val (.int 1), .val (.int 1), .val (.int 12), .val (.int 0), .unset, .unset, .unset, .unset] [(.int 12)])
          refine own_at (fun t k => XS.iconst X4.here hx rfl (hb hby at_76) k) ?_
          show own_Go p e below KK T4 (mkF m 77 #[.val (.int p1), .val (.int 0), .val (.int 0), .val (.int 1), .val (.int 1), .val (.int 12), .val (.int 0), .unset, .unset, .unset, .unset] [(.int 2), (.int 12)])
          refine own_at (fun t k => XS.iand X4.here hx rfl (hb hby at_77) rfl k) ?_
          show own_Go p e below KK T4 (mkF m 78 #[.val (.int p1), .val (.int 0), .val (.int 0), .val (.int 1), .val (.int 1), .val (.int 12), .val (.int 0), .unset, .unset, .unset, .unset] [(.int ((12 : Int32) &&& (2 : Int32)))])
          rw [show ((12 : Int32) &&& (2 : Int32)) = (0 : Int32) from by decide]
          show own_Go p e below KK T4 (mkF m 78 #[.val (.int p1), .val (.int 0), .val (.int 0), .val (.int 1), .val (.int 1), .val (.int 12), .val (.int 0), .unset, .unset, .unset, .unset] [(.int 0)])
          have hc78 : (0 : Int32) = (0 : Int32) := by decide
          refine own_at (fun t k => XS.ifYes X4.here hx rfl (pc0 := 78) (pc' := 85) rfl (hb hby at_78) rfl (Jvm.Free.XT.i0_eq_t hc78) (by decide) (by decide) k) ?_
          show own_Go p e below KK T4 (mkF m 85 #[.val (.int p1), .val (.int 0), .val (.int 0), .val (.int 1), .val (.int 1), .val (.int 12), .val (.int 0), .unset, .unset, .unset, .unset] [])
          refine own_at (fun t k => XS.iconst X4.here hx rfl (hb hby at_85) k) ?_
          show own_Go p e below KK T4 (mkF m 86 #[.val (.int p1), .val (.int 0), .val (.int 0), .val (.int 1), .val (.int 1), .val (.int 12), .val (.int 0), .unset, .unset, .unset, .unset] [(.int 0)])
          refine own_at (fun t k => XS.istore X4.here hx rfl (hb hby at_86) rfl (l' := #[.val (.int p1), .val (.int 0), .val (.int 0), .val (.int 1), .val (.int 1), .val (.int 12), .val (.int 0), .val (.int 0), .unset, .unset, .unset]) rfl k) ?_
          show own_Go p e below KK T4 (mkF m 88 #[.val (.int p1), .val (.int 0), .val (.int 0), .val (.int 1), .val (.int 1), .val (.int 12), .val (.int 0), .val (.int 0), .unset, .unset, .unset] [])
          refine own_at (fun t k => XS.iload X4.here hx rfl (hb hby at_88) rfl k) ?_
          show own_Go p e below KK T4 (mkF m 90 #[.val (.int p1), .val (.int 0), .val (.int 0), .val (.int 1), .val (.int 1), .val (.int 12), .val (.int 0), .val (.int 0), .unset, .unset, .unset] [(.int 12)])
          refine own_at (fun t k => XS.iconst X4.here hx rfl (hb hby at_90) k) ?_
          show own_Go p e below KK T4 (mkF m 91 #[.val (.int p1), .val (.int 0), .val (.int 0), .val (.int 1), .val (.int 1), .val (.int 12), .val (.int 0), .val (.int 0), .unset, .unset, .unset] [(.int 4), (.int 12)])
          refine own_at (fun t k => XS.iand X4.here hx rfl (hb hby at_91) rfl k) ?_
          show own_Go p e below KK T4 (mkF m 92 #[.val (.int p1), .val (.int 0), .val (.int 0), .val (.int 1), .val (.int 1), .val (.int 12), .val (.int 0), .val (.int 0), .unset, .unset, .unset] [(.int ((12 : Int32) &&& (4 : Int32)))])
          rw [show ((12 : Int32) &&& (4 : Int32)) = (4 : Int32) from by decide]
          show own_Go p e below KK T4 (mkF m 92 #[.val (.int p1), .val (.int 0), .val (.int 0), .val (.int 1), .val (.int 1), .val (.int 12), .val (.int 0), .val (.int 0), .unset, .unset, .unset] [(.int 4)])
          have hc92 : ¬ ((4 : Int32) = (0 : Int32)) := by decide
          refine own_at (fun t k => XS.ifNo X4.here hx rfl (hb hby at_92) rfl (Jvm.Free.XT.i0_eq_f hc92) k) ?_
          show own_Go p e below KK T4 (mkF m 95 #[.val (.int p1), .val (.int 0), .val (.int 0), .val (.int 1), .val (.int 1), .val (.int 12), .val (.int 0), .val (.int 0), .unset, .unset, .unset] [])
          refine own_at (fun t k => XS.iconst X4.here hx rfl (hb hby at_95) k) ?_
          show own_Go p e below KK T4 (mkF m 96 #[.val (.int p1), .val (.int 0), .val (.int 0), .val (.int 1), .val (.int 1), .val (.int 12), .val (.int 0), .val (.int 0), .unset, .unset, .unset] [(.int 1)])
          refine own_at (fun t k => XS.goto X4.here hx rfl (pc0 := 96) (pc' := 100) rfl (hb hby at_96) (by decide) (by decide) k) ?_
          show own_Go p e below KK T4 (mkF m 100 #[.val (.int p1), .val (.int 0), .val (.int 0), .val (.int 1), .val (.int 1), .val (.int 12), .val (.int 0), .val (.int 0), .unset, .unset, .unset] [(.int 1)])
          refine own_at (fun t k => XS.istore X4.here hx rfl (hb hby at_100) rfl (l' := #[.val (.int p1), .val (.int 0), .val (.int 0), .val (.int 1), .val (.int 1), .val (.int 12), .val (.int 0), .val (.int 0), .val (.int 1), .unset, .unset]) rfl k) ?_
          show own_Go p e below KK T4 (mkF m 102 #[.val (.int p1), .val (.int 0), .val (.int 0), .val (.int 1), .val (.int 1), .val (.int 12), .val (.int 0), .val (.int 0), .val (.int 1), .unset, .unset] [])
          refine own_at (fun t k => XS.iload X4.here hx rfl (hb hby at_102) rfl k) ?_
          show own_Go p e below KK T4 (mkF m 104 #[.val (.int p1), .val (.int 0), .val (.int 0), .val (.int 1), .val (.int 1), .val (.int 12), .val (.int 0), .val (.int 0), .val (.int 1), .unset, .unset] [(.int 12)])
          refine own_at (fun t k => XS.bipush X4.here hx rfl (hb hby at_104) k) ?_
          show own_Go p e below KK T4 (mkF m 106 #[.val (.int p1), .val (.int 0), .val (.int 0), .val (.int 1), .val (.int 1), .val (.int 12), .val (.int 0), .val (.int 0), .val (.int 1), .unset, .unset] [(.int 8), (.int 12)])
          refine own_at (fun t k => XS.iand X4.here hx rfl (hb hby at_106) rfl k) ?_
          show own_Go p e below KK T4 (mkF m 107 #[.val (.int p1), .val (.int 0), .val (.int 0), .val (.int 1), .val (.int 1), .val (.int 12), .val (.int 0), .val (.int 0), .val (.int 1), .unset, .unset] [(.int ((12 : Int32) &&& (8 : Int32)))])
          rw [show ((12 : Int32) &&& (8 : Int32)) = (8 : Int32) from by decide]
          show own_Go p e below KK T4 (mkF m 107 #[.val (.int p1), .val (.int 0), .val (.int 0), .val (.int 1), .val (.int 1), .val (.int 12), .val (.int 0), .val (.int 0), .val (.int 1), .unset, .unset] [(.int 8)])
          have hc107 : ¬ ((8 : Int32) = (0 : Int32)) := by decide
          refine own_at (fun t k => XS.ifNo X4.here hx rfl (hb hby at_107) rfl (Jvm.Free.XT.i0_eq_f hc107) k) ?_
          show own_Go p e below KK T4 (mkF m 110 #[.val (.int p1), .val (.int 0), .val (.int 0), .val (.int 1), .val (.int 1), .val (.int 12), .val (.int 0), .val (.int 0), .val (.int 1), .unset, .unset] [])
          refine own_at (fun t k => XS.iconst X4.here hx rfl (hb hby at_110) k) ?_
          show own_Go p e below KK T4 (mkF m 111 #[.val (.int p1), .val (.int 0), .val (.int 0), .val (.int 1), .val (.int 1), .val (.int 12), .val (.int 0), .val (.int 0), .val (.int 1), .unset, .unset] [(.int 1)])
          refine own_at (fun t k => XS.goto X4.here hx rfl (pc0 := 111) (pc' := 115) rfl (hb hby at_111) (by decide) (by decide) k) ?_
          show own_Go p e below KK T4 (mkF m 115 #[.val (.int p1), .val (.int 0), .val (.int 0), .val (.int 1), .val (.int 1), .val (.int 12), .val (.int 0), .val (.int 0), .val (.int 1), .unset, .unset] [(.int 1)])
          refine own_at (fun t k => XS.istore X4.here hx rfl (hb hby at_115) rfl (l' := #[.val (.int p1), .val (.int 0), .val (.int 0), .val (.int 1), .val (.int 1), .val (.int 12), .val (.int 0), .val (.int 0), .val (.int 1), .val (.int 1), .unset]) rfl k) ?_
          show own_Go p e below KK T4 (mkF m 117 #[.val (.int p1), .val (.int 0), .val (.int 0), .val (.int 1), .val (.int 1), .val (.int 12), .val (.int 0), .val (.int 0), .val (.int 1), .val (.int 1), .unset] [])
          refine own_at (fun t k => XS.bipush X4.here hx rfl (hb hby at_117) k) ?_
          show own_Go p e below KK T4 (mkF m 119 #[.val (.int p1), .val (.int 0), .val (.int 0), .val (.int 1), .val (.int 1), .val (.int 12), .val (.int 0), .val (.int 0), .val (.int 1), .val (.int 1), .unset] [(.int 15)])
          refine own_at (fun t k => XS.istore X4.here hx rfl (hb hby at_119) rfl (l' := #[.val (.int p1), .val (.int 0), .val (.int 0), .val (.int 1), .val (.int 1), .val (.int 12), .val (.int 0), .val (.int 0), .val (.int 1), .val (.int 1), .val (.int 15)]) rfl k) ?_
          show own_Go p e below KK T4 (mkF m 121 #[.val (.int p1), .val (.int 0), .val (.int 0), .val (.int 1), .val (.int 1), .val (.int 12), .val (.int 0), .val (.int 0), .val (.int 1), .val (.int 1), .val (.int 15)] [])
          refine own_at (fun t k => XS.iload X4.here hx rfl (hb hby at_121) rfl k) ?_
          show own_Go p e below KK T4 (mkF m 123 #[.val (.int p1), .val (.int 0), .val (.int 0), .val (.int 1), .val (.int 1), .val (.int 12), .val (.int 0), .val (.int 0), .val (.int 1), .val (.int 1), .val (.int 15)] [(.int 0)])
          refine own_at (fun t k => XS.iloadN X4.here hx rfl (hb hby at_123) rfl k) ?_
          show own_Go p e below KK T4 (mkF m 124 #[.val (.int p1), .val (.int 0), .val (.int 0), .val (.int 1), .val (.int 1), .val (.int 12), .val (.int 0), .val (.int 0), .val (.int 1), .val (.int 1), .val (.int 15)] [(.int 0), (.int 0)])
          have hc124 : (0 : Int32) = (0 : Int32) := by decide
          refine own_at (fun t k => XS.icmpNo X4.here hx rfl (hb hby at_124) rfl (Jvm.Free.XT.ii_ne_f hc124) k) ?_
          show own_Go p e below KK T4 (mkF m 127 #[.val (.int p1), .val (.int 0), .val (.int 0), .val (.int 1), .val (.int 1), .val (.int 12), .val (.int 0), .val (.int 0), .val (.int 1), .val (.int 1), .val (.int 15)] [])
          refine own_at (fun t k => XS.iload X4.here hx rfl (hb hby at_127) rfl k) ?_
          show own_Go p e below KK T4 (mkF m 129 #[.val (.int p1), .val (.int 0), .val (.int 0), .val (.int 1), .val (.int 1), .val (.int 12), .val (.int 0), .val (.int 0), .val (.int 1), .val (.int 1), .val (.int 15)] [(.int 0)])
          refine own_at (fun t k => XS.iloadN X4.here hx rfl (hb hby at_129) rfl k) ?_
          show own_Go p e below KK T4 (mkF m 130 #[.val (.int p1), .val (.int 0), .val (.int 0), .val (.int 1), .val (.int 1), .val (.int 12), .val (.int 0), .val (.int 0), .val (.int 1), .val (.int 1), .val (.int 15)] [(.int 0), (.int 0)])
          have hc130 : (0 : Int32) = (0 : Int32) := by decide
          refine own_at (fun t k => XS.ifYes X4.here hx rfl (pc0 := 130) (pc' := 141) rfl (hb hby at_130) rfl (Jvm.Free.XT.i0_eq_t hc130) (by decide) (by decide) k) ?_
          show own_Go p e below KK T4 (mkF m 141 #[.val (.int p1), .val (.int 0), .val (.int 0), .val (.int 1), .val (.int 1), .val (.int 12), .val (.int 0), .val (.int 0), .val (.int 1), .val (.int 1), .val (.int 15)] [(.int 0)])
          refine own_at (fun t k => XS.iconst X4.here hx rfl (hb hby at_141) k) ?_
          show own_Go p e below KK T4 (mkF m 142 #[.val (.int p1), .val (.int 0), .val (.int 0), .val (.int 1), .val (.int 1), .val (.int 12), .val (.int 0), .val (.int 0), .val (.int 1), .val (.int 1), .val (.int 15)] [(.int 0), (.int 0)])
          have hc142 : (0 : Int32) = (0 : Int32) := by decide
          refine own_at (fun t k => XS.icmpNo X4.here hx rfl (hb hby at_142) rfl (Jvm.Free.XT.ii_ne_f hc142) k) ?_
          show own_Go p e below KK T4 (mkF m 145 #[.val (.int p1), .val (.int 0), .val (.int 0), .val (.int 1), .val (.int 1), .val (.int 12), .val (.int 0), .val (.int 0), .val (.int 1), .val (.int 1), .val (.int 15)] [])
          refine own_at (fun t k => XS.iload X4.here hx rfl (hb hby at_145) rfl k) ?_
          show own_Go p e below KK T4 (mkF m 147 #[.val (.int p1), .val (.int 0), .val (.int 0), .val (.int 1), .val (.int 1), .val (.int 12), .val (.int 0), .val (.int 0), .val (.int 1), .val (.int 1), .val (.int 15)] [(.int 1)])
          refine own_at (fun t k => XS.iloadN X4.here hx rfl (hb hby at_147) rfl k) ?_
          show own_Go p e below KK T4 (mkF m 148 #[.val (.int p1), .val (.int 0), .val (.int 0), .val (.int 1), .val (.int 1), .val (.int 12), .val (.int 0), .val (.int 0), .val (.int 1), .val (.int 1), .val (.int 15)] [(.int 1), (.int 1)])
          have hc148 : (1 : Int32) = (1 : Int32) := by decide
          refine own_at (fun t k => XS.icmpNo X4.here hx rfl (hb hby at_148) rfl (Jvm.Free.XT.ii_ne_f hc148) k) ?_
          show own_Go p e below KK T4 (mkF m 151 #[.val (.int p1), .val (.int 0), .val (.int 0), .val (.int 1), .val (.int 1), .val (.int 12), .val (.int 0), .val (.int 0), .val (.int 1), .val (.int 1), .val (.int 15)] [])
          refine own_at (fun t k => XS.iload X4.here hx rfl (hb hby at_151) rfl k) ?_
          show own_Go p e below KK T4 (mkF m 153 #[.val (.int p1), .val (.int 0), .val (.int 0), .val (.int 1), .val (.int 1), .val (.int 12), .val (.int 0), .val (.int 0), .val (.int 1), .val (.int 1), .val (.int 15)] [(.int 1)])
          refine own_at (fun t k => XS.iloadN X4.here hx rfl (hb hby at_153) rfl k) ?_
          show own_Go p e below KK T4 (mkF m 154 #[.val (.int p1), .val (.int 0), .val (.int 0), .val (.int 1), .val (.int 1), .val (.int 12), .val (.int 0), .val (.int 0), .val (.int 1), .val (.int 1), .val (.int 15)] [(.int 1), (.int 1)])
          have hc154 : ¬ ((1 : Int32) = (0 : Int32)) := by decide
          refine own_at (fun t k => XS.ifNo X4.here hx rfl (hb hby at_154) rfl (Jvm.Free.XT.i0_eq_f hc154) k) ?_
          show own_Go p e below KK T4 (mkF m 157 #[.val (.int p1), .val (.int 0), .val (.int 0), .val (.int 1), .val (.int 1), .val (.int 12), .val (.int 0), .val (.int 0), .val (.int 1), .val (.int 1), .val (.int 15)] [(.int 1)])
          refine own_at (fun t k => XS.iload X4.here hx rfl (hb hby at_157) rfl k) ?_
          show own_Go p e below KK T4 (mkF m 159 #[.val (.int p1), .val (.int 0), .val (.int 0), .val (.int 1), .val (.int 1), .val (.int 12), .val (.int 0), .val (.int 0), .val (.int 1), .val (.int 1), .val (.int 15)] [(.int 1), (.int 1)])
          have hc159 : ¬ ((1 : Int32) = (0 : Int32)) := by decide
          refine own_at (fun t k => XS.ifNo X4.here hx rfl (hb hby at_159) rfl (Jvm.Free.XT.i0_eq_f hc159) k) ?_
          show own_Go p e below KK T4 (mkF m 162 #[.val (.int p1), .val (.int 0), .val (.int 0), .val (.int 1), .val (.int 1), .val (.int 12), .val (.int 0), .val (.int 0), .val (.int 1), .val (.int 1), .val (.int 15)] [(.int 1)])
          refine own_at (fun t k => XS.iconst X4.here hx rfl (hb hby at_162) k) ?_
          show own_Go p e below KK T4 (mkF m 163 #[.val (.int p1), .val (.int 0), .val (.int 0), .val (.int 1), .val (.int 1), .val (.int 12), .val (.int 0), .val (.int 0), .val (.int 1), .val (.int 1), .val (.int 15)] [(.int 1), (.int 1)])
          refine own_at (fun t k => XS.goto X4.here hx rfl (pc0 := 163) (pc' := 167) rfl (hb hby at_163) (by decide) (by decide) k) ?_
          show own_Go p e below KK T4 (mkF m 167 #[.val (.int p1), .val (.int 0), .val (.int 0), .val (.int 1), .val (.int 1), .val (.int 12), .val (.int 0), .val (.int 0), .val (.int 1), .val (.int 1), .val (.int 15)] [(.int 1), (.int 1)])
          have hc167 : (1 : Int32) = (1 : Int32) := by decide
          refine own_at (fun t k => XS.icmpNo X4.here hx rfl (hb hby at_167) rfl (Jvm.Free.XT.ii_ne_f hc167) k) ?_
          show own_Go p e below KK T4 (mkF m 170 #[.val (.int p1), .val (.int 0), .val (.int 0), .val (.int 1), .val (.int 1), .val (.int 12), .val (.int 0), .val (.int 0), .val (.int 1), .val (.int 1), .val (.int 15)] [])
          refine own_at (fun t k => XS.iload X4.here hx rfl (hb hby at_170) rfl k) ?_
          show own_Go p e below KK T4 (mkF m 172 #[.val (.int p1), .val (.int 0), .val (.int 0), .val (.int 1), .val (.int 1), .val (.int 12), .val (.int 0), .val (.int 0), .val (.int 1), .val (.int 1), .val (.int 15)] [(.int 12)])
          refine own_at (fun t k => XS.iload X4.here hx rfl (hb hby at_172) rfl k) ?_
          show own_Go p e below KK T4 (mkF m 174 #[.val (.int p1), .val (.int 0), .val (.int 0), .val (.int 1), .val (.int 1), .val (.int 12), .val (.int 0), .val (.int 0), .val (.int 1), .val (.int 1), .val (.int 15)] [(.int 15), (.int 12)])
          refine own_at (fun t k => XS.iconst X4.here hx rfl (hb hby at_174) k) ?_
          show own_Go p e below KK T4 (mkF m 175 #[.val (.int p1), .val (.int 0), .val (.int 0), .val (.int 1), .val (.int 1), .val (.int 12), .val (.int 0), .val (.int 0), .val (.int 1), .val (.int 1), .val (.int 15)] [(.int (-1 : Int32)), (.int 15), (.int 12)])
          refine own_at (fun t k => XS.ixor X4.here hx rfl (hb hby at_175) rfl k) ?_
          show own_Go p e below KK T4 (mkF m 176 #[.val (.int p1), .val (.int 0), .val (.int 0), .val (.int 1), .val (.int 1), .val (.int 12), .val (.int 0), .val (.int 0), .val (.int 1), .val (.int 1), .val (.int 15)] [(.int ((15 : Int32) ^^^ (-1 : Int32))), (.int 12)])
          rw [show ((15 : Int32) ^^^ (-1 : Int32)) = (-16 : Int32) from by decide]
          show own_Go p e below KK T4 (mkF m 176 #[.val (.int p1), .val (.int 0), .val (.int 0), .val (.int 1), .val (.int 1), .val (.int 12), .val (.int 0), .val (.int 0), .val (.int 1), .val (.int 1), .val (.int 15)] [(.int (-16 : Int32)), (.int 12)])
          refine own_at (fun t k => XS.iand X4.here hx rfl (hb hby at_176) rfl k) ?_
          show own_Go p e below KK T4 (mkF m 177 #[.val (.int p1), .val (.int 0), .val (.int 0), .val (.int 1), .val (.int 1), .val (.int 12), .val (.int 0), .val (.int 0), .val (.int 1), .val (.int 1), .val (.int 15)] [(.int ((12 : Int32) &&& (-16 : Int32)))])
          rw [show ((12 : Int32) &&& (-16 : Int32)) = (0 : Int32) from by decide]
          show own_Go p e below KK T4 (mkF m 177 #[.val (.int p1), .val (.int 0), .val (.int 0), .val (.int 1), .val (.int 1), .val (.int 12), .val (.int 0), .val (.int 0), .val (.int 1), .val (.int 1), .val (.int 15)] [(.int 0)])
          have hc177 : (0 : Int32) = (0 : Int32) := by decide
          refine own_at (fun t k => XS.ifNo X4.here hx rfl (hb hby at_177) rfl (Jvm.Free.XT.i0_ne_f hc177) k) ?_
          show own_Go p e below KK T4 (mkF m 180 #[.val (.int p1), .val (.int 0), .val (.int 0), .val (.int 1), .val (.int 1), .val (.int 12), .val (.int 0), .val (.int 0), .val (.int 1), .val (.int 1), .val (.int 15)] [])
          refine own_at (fun t k => XS.iload X4.here hx rfl (hb hby at_180) rfl k) ?_
          show own_Go p e below KK T4 (mkF m 182 #[.val (.int p1), .val (.int 0), .val (.int 0), .val (.int 1), .val (.int 1), .val (.int 12), .val (.int 0), .val (.int 0), .val (.int 1), .val (.int 1), .val (.int 15)] [(.int 12)])
          have hc182 : ¬ ((12 : Int32) = (0 : Int32)) := by decide
          refine own_at (fun t k => XS.ifYes X4.here hx rfl (pc0 := 182) (pc' := 189) rfl (hb hby at_182) rfl (Jvm.Free.XT.i0_ne_t hc182) (by decide) (by decide) k) ?_
          show own_Go p e below KK T4 (mkF m 189 #[.val (.int p1), .val (.int 0), .val (.int 0), .val (.int 1), .val (.int 1), .val (.int 12), .val (.int 0), .val (.int 0), .val (.int 1), .val (.int 1), .val (.int 15)] [])
          refine own_at (fun t k => XS.iconst X4.here hx rfl (hb hby at_189) k) ?_
          show own_Go p e below KK T4 (mkF m 190 #[.val (.int p1), .val (.int 0), .val (.int 0), .val (.int 1), .val (.int 1), .val (.int 12), .val (.int 0), .val (.int 0), .val (.int 1), .val (.int 1), .val (.int 15)] [(.int 0)])
          refine own_at (fun t k => XS.iloadN X4.here hx rfl (hb hby at_190) rfl k) ?_
          show own_Go p e below KK T4 (mkF m 191 #[.val (.int p1), .val (.int 0), .val (.int 0), .val (.int 1), .val (.int 1), .val (.int 12), .val (.int 0), .val (.int 0), .val (.int 1), .val (.int 1), .val (.int 15)] [(.int 0), (.int 0)])
          have hc191 : (0 : Int32) = (0 : Int32) := by decide
          refine own_at (fun t k => XS.ifNo X4.here hx rfl (hb hby at_191) rfl (Jvm.Free.XT.i0_ne_f hc191) k) ?_
          show own_Go p e below KK T4 (mkF m 194 #[.val (.int p1), .val (.int 0), .val (.int 0), .val (.int 1), .val (.int 1), .val (.int 12), .val (.int 0), .val (.int 0), .val (.int 1), .val (.int 1), .val (.int 15)] [(.int 0)])
          refine own_at (fun t k => XS.iloadN X4.here hx rfl (hb hby at_194) rfl k) ?_
          show own_Go p e below KK T4 (mkF m 195 #[.val (.int p1), .val (.int 0), .val (.int 0), .val (.int 1), .val (.int 1), .val (.int 12), .val (.int 0), .val (.int 0), .val (.int 1), .val (.int 1), .val (.int 15)] [(.int 1), (.int 0)])
          have hc195 : ¬ ((1 : Int32) = (0 : Int32)) := by decide
          refine own_at (fun t k => XS.ifYes X4.here hx rfl (pc0 := 195) (pc' := 202) rfl (hb hby at_195) rfl (Jvm.Free.XT.i0_ne_t hc195) (by decide) (by decide) k) ?_
          show own_Go p e below KK T4 (mkF m 202 #[.val (.int p1), .val (.int 0), .val (.int 0), .val (.int 1), .val (.int 1), .val (.int 12), .val (.int 0), .val (.int 0), .val (.int 1), .val (.int 1), .val (.int 15)] [(.int 0)])
          refine own_at (fun t k => XS.iconst X4.here hx rfl (hb hby at_202) k) ?_
          show own_Go p e below KK T4 (mkF m 203 #[.val (.int p1), .val (.int 0), .val (.int 0), .val (.int 1), .val (.int 1), .val (.int 12), .val (.int 0), .val (.int 0), .val (.int 1), .val (.int 1), .val (.int 15)] [(.int 0), (.int 0)])
          have hc203 : (0 : Int32) = (0 : Int32) := by decide
          refine own_at (fun t k => XS.icmpNo X4.here hx rfl (hb hby at_203) rfl (Jvm.Free.XT.ii_ne_f hc203) k) ?_
          show own_Go p e below KK T4 (mkF m 206 #[.val (.int p1), .val (.int 0), .val (.int 0), .val (.int 1), .val (.int 1), .val (.int 12), .val (.int 0), .val (.int 0), .val (.int 1), .val (.int 1), .val (.int 15)] [])
          refine own_at (fun t k => XS.iconst X4.here hx rfl (hb hby at_206) k) ?_
          show own_Go p e below KK T4 (mkF m 207 #[.val (.int p1), .val (.int 0), .val (.int 0), .val (.int 1), .val (.int 1), .val (.int 12), .val (.int 0), .val (.int 0), .val (.int 1), .val (.int 1), .val (.int 15)] [(.int 1)])
          refine own_at (fun t k => XS.goto X4.here hx rfl (pc0 := 207) (pc' := 211) rfl (hb hby at_207) (by decide) (by decide) k) ?_
          show own_Go p e below KK T4 (mkF m 211 #[.val (.int p1), .val (.int 0), .val (.int 0), .val (.int 1), .val (.int 1), .val (.int 12), .val (.int 0), .val (.int 0), .val (.int 1), .val (.int 1), .val (.int 15)] [(.int 1)])
          subst hKK
          exact own_retN X4 hx hlk (t := .boolean) Bd.returns (by simp) (hb hby at_211) (w := (1 : Int32)) (show nar .boolean (1 : Int32) = 1 from by decide) ⟨rfl, N4⟩ (Nat.le_of_ble_eq_true rfl) (Nat.le_of_ble_eq_true rfl)
    · refine own_at (fun t k => XS.ifNo X0.here hx rfl (hb hby at_15) rfl (Jvm.Free.XT.i0_eq_f hc15) k) ?_
      show own_Go p e below KK s₁ (mkF m 18 #[.val (.int p1), .val (.int 0), .unset, .unset, .unset, .unset, .unset, .unset, .unset, .unset, .unset] [])
      refine own_at (fun t k => XS.iconst X0.here hx rfl (hb hby at_18) k) ?_
      show own_Go p e below KK s₁ (mkF m 19 #[.val (.int p1), .val (.int 0), .unset, .unset, .unset, .unset, .unset, .unset, .unset, .unset, .unset] [(.int 1)])
      refine own_at (fun t k => XS.goto X0.here hx rfl (pc0 := 19) (pc' := 23) rfl (hb hby at_19) (by decide) (by decide) k) ?_
      show own_Go p e below KK s₁ (mkF m 23 #[.val (.int p1), .val (.int 0), .unset, .unset, .unset, .unset, .unset, .unset, .unset, .unset, .unset] [(.int 1)])
      refine own_at (fun t k => XS.istoreN X0.here hx rfl (hb hby at_23) rfl (l' := #[.val (.int p1), .val (.int 0), .val (.int 1), .unset, .unset, .unset, .unset, .unset, .unset, .unset, .unset]) rfl k) ?_
      show own_Go p e below KK s₁ (mkF m 24 #[.val (.int p1), .val (.int 0), .val (.int 1), .unset, .unset, .unset, .unset, .unset, .unset, .unset, .unset] [])
      refine own_at (fun t k => XS.iloadN X0.here hx rfl (hb hby at_24) rfl k) ?_
      show own_Go p e below KK s₁ (mkF m 25 #[.val (.int p1), .val (.int 0), .val (.int 1), .unset, .unset, .unset, .unset, .unset, .unset, .unset, .unset] [(.int p1)])
      refine own_at (fun t k => XS.iconst X0.here hx rfl (hb hby at_25) k) ?_
      show own_Go p e below KK s₁ (mkF m 26 #[.val (.int p1), .val (.int 0), .val (.int 1), .unset, .unset, .unset, .unset, .unset, .unset, .unset, .unset] [(.int 4), (.int p1)])
      refine own_at (fun t k => XS.iand X0.here hx rfl (hb hby at_26) rfl k) ?_
      show own_Go p e below KK s₁ (mkF m 27 #[.val (.int p1), .val (.int 0), .val (.int 1), .unset, .unset, .unset, .unset, .unset, .unset, .unset, .unset] [(.int (p1 &&& (4 : Int32)))])
      by_cases hc27 : (p1 &&& (4 : Int32)) = (0 : Int32)
      · refine own_at (fun t k => XS.ifYes X0.here hx rfl (pc0 := 27) (pc' := 34) rfl (hb hby at_27) rfl (Jvm.Free.XT.i0_eq_t hc27) (by decide) (by decide) k) ?_
        show own_Go p e below KK s₁ (mkF m 34 #[.val (.int p1), .val (.int 0), .val (.int 1), .unset, .unset, .unset, .unset, .unset, .unset, .unset, .unset] [])
        refine own_at (fun t k => XS.iconst X0.here hx rfl (hb hby at_34) k) ?_
        show own_Go p e below KK s₁ (mkF m 35 #[.val (.int p1), .val (.int 0), .val (.int 1), .unset, .unset, .unset, .unset, .unset, .unset, .unset, .unset] [(.int 0)])
        refine own_at (fun t k => XS.istoreN X0.here hx rfl (hb hby at_35) rfl (l' := #[.val (.int p1), .val (.int 0), .val (.int 1), .val (.int 0), .unset, .unset, .unset, .unset, .unset, .unset, .unset]) rfl k) ?_
        show own_Go p e below KK s₁ (mkF m 36 #[.val (.int p1), .val (.int 0), .val (.int 1), .val (.int 0), .unset, .unset, .unset, .unset, .unset, .unset, .unset] [])
        refine own_at (fun t k => XS.iloadN X0.here hx rfl (hb hby at_36) rfl k) ?_
        show own_Go p e below KK s₁ (mkF m 37 #[.val (.int p1), .val (.int 0), .val (.int 1), .val (.int 0), .unset, .unset, .unset, .unset, .unset, .unset, .unset] [(.int p1)])
        refine own_at (fun t k => XS.bipush X0.here hx rfl (hb hby at_37) k) ?_
        show own_Go p e below KK s₁ (mkF m 39 #[.val (.int p1), .val (.int 0), .val (.int 1), .val (.int 0), .unset, .unset, .unset, .unset, .unset, .unset, .unset] [(.int 8), (.int p1)])
        refine own_at (fun t k => XS.iand X0.here hx rfl (hb hby at_39) rfl k) ?_
        show own_Go p e below KK s₁ (mkF m 40 #[.val (.int p1), .val (.int 0), .val (.int 1), .val (.int 0), .unset, .unset, .unset, .unset, .unset, .unset, .unset] [(.int (p1 &&& (8 : Int32)))])
        by_cases hc40 : (p1 &&& (8 : Int32)) = (0 : Int32)
        · refine own_at (fun t k => XS.ifYes X0.here hx rfl (pc0 := 40) (pc' := 47) rfl (hb hby at_40) rfl (Jvm.Free.XT.i0_eq_t hc40) (by decide) (by decide) k) ?_
          show own_Go p e below KK s₁ (mkF m 47 #[.val (.int p1), .val (.int 0), .val (.int 1), .val (.int 0), .unset, .unset, .unset, .unset, .unset, .unset, .unset] [])
          refine own_at (fun t k => XS.iconst X0.here hx rfl (hb hby at_47) k) ?_
          show own_Go p e below KK s₁ (mkF m 48 #[.val (.int p1), .val (.int 0), .val (.int 1), .val (.int 0), .unset, .unset, .unset, .unset, .unset, .unset, .unset] [(.int 0)])
          refine own_at (fun t k => XS.istore X0.here hx rfl (hb hby at_48) rfl (l' := #[.val (.int p1), .val (.int 0), .val (.int 1), .val (.int 0), .val (.int 0), .unset, .unset, .unset, .unset, .unset, .unset]) rfl k) ?_
          show own_Go p e below KK s₁ (mkF m 50 #[.val (.int p1), .val (.int 0), .val (.int 1), .val (.int 0), .val (.int 0), .unset, .unset, .unset, .unset, .unset, .unset] [])
          refine own_at (fun t k => XS.iloadN X0.here hx rfl (hb hby at_50) rfl k) ?_
          show own_Go p e below KK s₁ (mkF m 51 #[.val (.int p1), .val (.int 0), .val (.int 1), .val (.int 0), .val (.int 0), .unset, .unset, .unset, .unset, .unset, .unset] [(.int 0)])
          refine own_at (fun t k => XS.iloadN X0.here hx rfl (hb hby at_51) rfl k) ?_
          show own_Go p e below KK s₁ (mkF m 52 #[.val (.int p1), .val (.int 0), .val (.int 1), .val (.int 0), .val (.int 0), .unset, .unset, .unset, .unset, .unset, .unset] [(.int 1), (.int 0)])
          refine own_at (fun t k => XS.iloadN X0.here hx rfl (hb hby at_52) rfl k) ?_
          show own_Go p e below KK s₁ (mkF m 53 #[.val (.int p1), .val (.int 0), .val (.int 1), .val (.int 0), .val (.int 0), .unset, .unset, .unset, .unset, .unset, .unset] [(.int 0), (.int 1), (.int 0)])
          refine own_at (fun t k => XS.iload X0.here hx rfl (hb hby at_53) rfl k) ?_
          show own_Go p e below KK s₁ (mkF m 55 #[.val (.int p1), .val (.int 0), .val (.int 1), .val (.int 0), .val (.int 0), .unset, .unset, .unset, .unset, .unset, .unset] [(.int 0), (.int 0), (.int 1), (.int 0)])
          obtain ⟨_, _, ⟨T5, L5, k5, n5⟩, -, X5, ⟨Lc5, hQ5, l5, y5, z5⟩, st5⟩ := Jvm.LawKit.callS X0 hx (y := (⟨"com/example/oyster/oyster/core/form/NamedTest", "ends", "(ZZZZ)I"⟩ : MethodName)) hown (mvT hZ (hw _ (List.mem_of_getElem? (i := 0) rfl))) (mvT hZ (hw _ (List.mem_of_getElem? (i := 1) rfl))) (mvT hZ (hw _ (List.mem_of_getElem? (i := 2) rfl))) (mvT hZ (hw _ (List.mem_of_getElem? (i := 3) rfl))) (by decide) (backOf (W := 0) (rm_prog_119_2 l Z a0 hw [] (0 : Int32) (1 : Int32) (0 : Int32) (0 : Int32)  h0 n0 Z0 ) hZ (hw _ (List.mem_of_getElem? (i := 3) rfl)) (hw _ (List.mem_of_getElem? (i := 2) rfl)) (by decide) (by decide)) (g := (mkF m 55 #[.val (.int p1), .val (.int 0), .val (.int 1), .val (.int 0), .val (.int 0), .unset, .unset, .unset, .unset, .unset, .unset] [(.int 0), (.int 0), (.int 1), (.int 0)])) rfl (by rw [hml]; rfl) (argsL := [(.int 0), (.int 1), (.int 0), (.int 0)]) (rest := []) (lenOf pd__ZZZZ_I rfl) rfl (by show 2 * 0 + _ ≤ _; exact Nat.le_of_eq rfl) (hb hby at_55) (fun _ _ => ⟨rfl, e0, (by decide : 0 + 0 ≤ _), (by decide : 0 + 0 ≤ _)⟩)
          dsimp only [Pt.U, Pt.locs, Pt.cells, Pt.slots] at X5 l5 y5 z5 st5 hQ5
          subst l5 y5 z5
          obtain ⟨rfl, N5q, e5⟩ := hQ5
          rw [show (own_F_prog_119_2 (0 : Int32) (1 : Int32) (0 : Int32) (0 : Int32)) = (0 : Int32) from by decide] at st5
          have N5 := Fr.app N0 N5q
          refine own_of (fun t k => st5 t k) ?_
          show own_Go p e below KK T5 (mkF m 58 #[.val (.int p1), .val (.int 0), .val (.int 1), .val (.int 0), .val (.int 0), .unset, .unset, .unset, .unset, .unset, .unset] [(.int 0)])
          refine own_at (fun t k => XS.istore X5.here hx rfl (hb hby at_58) rfl (l' := #[.val (.int p1), .val (.int 0), .val (.int 1), .val (.int 0), .val (.int 0), .val (.int 0), .unset, .unset, .unset, .unset, .unset]) rfl k) ?_
          show own_Go p e below KK T5 (mkF m 60 #[.val (.int p1), .val (.int 0), .val (.int 1), .val (.int 0), .val (.int 0), .val (.int 0), .unset, .unset, .unset, .unset, .unset] [])
          refine own_at (fun t k => XS.iload X5.here hx rfl (hb hby at_60) rfl k) ?_
          show own_Go p e below KK T5 (mkF m 62 #[.val (.int p1), .val (.int 0), .val (.int 1), .val (.int 0), .val (.int 0), .val (.int 0), .unset, .unset, .unset, .unset, .unset] [(.int 0)])
          refine own_at (fun t k => XS.iconst X5.here hx rfl (hb hby at_62) k) ?_
          show own_Go p e below KK T5 (mkF m 63 #[.val (.int p1), .val (.int 0), .val (.int 1), .val (.int 0), .val (.int 0), .val (.int 0), .unset, .unset, .unset, .unset, .unset] [(.int 1), (.int 0)])
          refine own_at (fun t k => XS.iand X5.here hx rfl (hb hby at_63) rfl k) ?_
          show own_Go p e below KK T5 (mkF m 64 #[.val (.int p1), .val (.int 0), .val (.int 1), .val (.int 0), .val (.int 0), .val (.int 0), .unset, .unset, .unset, .unset, .unset] [(.int ((0 : Int32) &&& (1 : Int32)))])
          rw [show ((0 : Int32) &&& (1 : Int32)) = (0 : Int32) from by decide]
          show own_Go p e below KK T5 (mkF m 64 #[.val (.int p1), .val (.int 0), .val (.int 1), .val (.int 0), .val (.int 0), .val (.int 0), .unset, .unset, .unset, .unset, .unset] [(.int 0)])
          have hc64 : (0 : Int32) = (0 : Int32) := by decide
          refine own_at (fun t k => XS.ifYes X5.here hx rfl (pc0 := 64) (pc' := 71) rfl (hb hby at_64) rfl (Jvm.Free.XT.i0_eq_t hc64) (by decide) (by decide) k) ?_
          show own_Go p e below KK T5 (mkF m 71 #[.val (.int p1), .val (.int 0), .val (.int 1), .val (.int 0), .val (.int 0), .val (.int 0), .unset, .unset, .unset, .unset, .unset] [])
          refine own_at (fun t k => XS.iconst X5.here hx rfl (hb hby at_71) k) ?_
          show own_Go p e below KK T5 (mkF m 72 #[.val (.int p1), .val (.int 0), .val (.int 1), .val (.int 0), .val (.int 0), .val (.int 0), .unset, .unset, .unset, .unset, .unset] [(.int 0)])
          refine own_at (fun t k => XS.istore X5.here hx rfl (hb hby at_72) rfl (l' := #[.val (.int p1), .val (.int 0), .val (.int 1), .val (.int 0), .val (.int 0), .val (.int 0), .val (.int 0), .unset, .unset, .unset, .unset]) rfl k) ?_
          show own_Go p e below KK T5 (mkF m 74 #[.val (.int p1), .val (.int 0), .val (.int 1), .val (.int 0), .val (.int 0), .val (.int 0), .val (.int 0), .unset, .unset, .unset, .unset] [])
          refine own_at (fun t k => XS.iload X5.here hx rfl (hb hby at_74) rfl k) ?_
          show own_Go p e below KK T5 (mkF m 76 #[.val (.int p1), .val (.int 0), .val (.int 1), .val (.int 0), .val (.int 0), .val (.int 0), .val (.int 0), .unset, .unset, .unset, .unset] [(.int 0)])
          refine own_at (fun t k => XS.iconst X5.here hx rfl (hb hby at_76) k) ?_
          show own_Go p e below KK T5 (mkF m 77 #[.val (.int p1), .val (.int 0), .val (.int 1), .val (.int 0), .val (.int 0), .val (.int 0), .val (.int 0), .unset, .unset, .unset, .unset] [(.int 2), (.int 0)])
          refine own_at (fun t k => XS.iand X5.here hx rfl (hb hby at_77) rfl k) ?_
          show own_Go p e below KK T5 (mkF m 78 #[.val (.int p1), .val (.int 0), .val (.int 1), .val (.int 0), .val (.int 0), .val (.int 0), .val (.int 0), .unset, .unset, .unset, .unset] [(.int ((0 : Int32) &&& (2 : Int32)))])
          rw [show ((0 : Int32) &&& (2 : Int32)) = (0 : Int32) from by decide]
          show own_Go p e below KK T5 (mkF m 78 #[.val (.int p1), .val (.int 0), .val (.int 1), .val (.int 0), .val (.int 0), .val (.int 0), .val (.int 0), .unset, .unset, .unset, .unset] [(.int 0)])
          have hc78 : (0 : Int32) = (0 : Int32) := by decide
          refine own_at (fun t k => XS.ifYes X5.here hx rfl (pc0 := 78) (pc' := 85) rfl (hb hby at_78) rfl (Jvm.Free.XT.i0_eq_t hc78) (by decide) (by decide) k) ?_
          show own_Go p e below KK T5 (mkF m 85 #[.val (.int p1), .val (.int 0), .val (.int 1), .val (.int 0), .val (.int 0), .val (.int 0), .val (.int 0), .unset, .unset, .unset, .unset] [])
          refine own_at (fun t k => XS.iconst X5.here hx rfl (hb hby at_85) k) ?_
          show own_Go p e below KK T5 (mkF m 86 #[.val (.int p1), .val (.int 0), .val (.int 1), .val (.int 0), .val (.int 0), .val (.int 0), .val (.int 0), .unset, .unset, .unset, .unset] [(.int 0)])
          refine own_at (fun t k => XS.istore X5.here hx rfl (hb hby at_86) rfl (l' := #[.val (.int p1), .val (.int 0), .val (.int 1), .val (.int 0), .val (.int 0), .val (.int 0), .val (.int 0), .val (.int 0), .unset, .unset, .unset]) rfl k) ?_
          show own_Go p e below KK T5 (mkF m 88 #[.val (.int p1), .val (.int 0), .val (.int 1), .val (.int 0), .val (.int 0), .val (.int 0), .val (.int 0), .val (.int 0), .unset, .unset, .unset] [])
          refine own_at (fun t k => XS.iload X5.here hx rfl (hb hby at_88) rfl k) ?_
          show own_Go p e below KK T5 (mkF m 90 #[.val (.int p1), .val (.int 0), .val (.int 1), .val (.int 0), .val (.int 0), .val (.int 0), .val (.int 0), .val (.int 0), .unset, .unset, .unset] [(.int 0)])
          refine own_at (fun t k => XS.iconst X5.here hx rfl (hb hby at_90) k) ?_
          show own_Go p e below KK T5 (mkF m 91 #[.val (.int p1), .val (.int 0), .val (.int 1), .val (.int 0), .val (.int 0), .val (.int 0), .val (.int 0), .val (.int 0), .unset, .unset, .unset] [(.int 4), (.int 0)])
          refine own_at (fun t k => XS.iand X5.here hx rfl (hb hby at_91) rfl k) ?_
          show own_Go p e below KK T5 (mkF m 92 #[.val (.int p1), .val (.int 0), .val (.int 1), .val (.int 0), .val (.int 0), .val (.int 0), .val (.int 0), .val (.int 0), .unset, .unset, .unset] [(.int ((0 : Int32) &&& (4 : Int32)))])
          rw [show ((0 : Int32) &&& (4 : Int32)) = (0 : Int32) from by decide]
          show own_Go p e below KK T5 (mkF m 92 #[.val (.int p1), .val (.int 0), .val (.int 1), .val (.int 0), .val (.int 0), .val (.int 0), .val (.int 0), .val (.int 0), .unset, .unset, .unset] [(.int 0)])
          have hc92 : (0 : Int32) = (0 : Int32) := by decide
          refine own_at (fun t k => XS.ifYes X5.here hx rfl (pc0 := 92) (pc' := 99) rfl (hb hby at_92) rfl (Jvm.Free.XT.i0_eq_t hc92) (by decide) (by decide) k) ?_
          show own_Go p e below KK T5 (mkF m 99 #[.val (.int p1), .val (.int 0), .val (.int 1), .val (.int 0), .val (.int 0), .val (.int 0), .val (.int 0), .val (.int 0), .unset, .unset, .unset] [])
          refine own_at (fun t k => XS.iconst X5.here hx rfl (hb hby at_99) k) ?_
          show own_Go p e below KK T5 (mkF m 100 #[.val (.int p1), .val (.int 0), .val (.int 1), .val (.int 0), .val (.int 0), .val (.int 0), .val (.int 0), .val (.int 0), .unset, .unset, .unset] [(.int 0)])
          refine own_at (fun t k => XS.istore X5.here hx rfl (hb hby at_100) rfl (l' := #[.val (.int p1), .val (.int 0), .val (.int 1), .val (.int 0), .val (.int 0), .val (.int 0), .val (.int 0), .val (.int 0), .val (.int 0), .unset, .unset]) rfl k) ?_
          show own_Go p e below KK T5 (mkF m 102 #[.val (.int p1), .val (.int 0), .val (.int 1), .val (.int 0), .val (.int 0), .val (.int 0), .val (.int 0), .val (.int 0), .val (.int 0), .unset, .unset] [])
          refine own_at (fun t k => XS.iload X5.here hx rfl (hb hby at_102) rfl k) ?_
          show own_Go p e below KK T5 (mkF m 104 #[.val (.int p1), .val (.int 0), .val (.int 1), .val (.int 0), .val (.int 0), .val (.int 0), .val (.int 0), .val (.int 0), .val (.int 0), .unset, .unset] [(.int 0)])
          refine own_at (fun t k => XS.bipush X5.here hx rfl (hb hby at_104) k) ?_
          show own_Go p e below KK T5 (mkF m 106 #[.val (.int p1), .val (.int 0), .val (.int 1), .val (.int 0), .val (.int 0), .val (.int 0), .val (.int 0), .val (.int 0), .val (.int 0), .unset, .unset] [(.int 8), (.int 0)])
          refine own_at (fun t k => XS.iand X5.here hx rfl (hb hby at_106) rfl k) ?_
          show own_Go p e below KK T5 (mkF m 107 #[.val (.int p1), .val (.int 0), .val (.int 1), .val (.int 0), .val (.int 0), .val (.int 0), .val (.int 0), .val (.int 0), .val (.int 0), .unset, .unset] [(.int ((0 : Int32) &&& (8 : Int32)))])
          rw [show ((0 : Int32) &&& (8 : Int32)) = (0 : Int32) from by decide]
          show own_Go p e below KK T5 (mkF m 107 #[.val (.int p1), .val (.int 0), .val (.int 1), .val (.int 0), .val (.int 0), .val (.int 0), .val (.int 0), .val (.int 0), .val (.int 0), .unset, .unset] [(.int 0)])
          have hc107 : (0 : Int32) = (0 : Int32) := by decide
          refine own_at (fun t k => XS.ifYes X5.here hx rfl (pc0 := 107) (pc' := 114) rfl (hb hby at_107) rfl (Jvm.Free.XT.i0_eq_t hc107) (by decide) (by decide) k) ?_
          show own_Go p e below KK T5 (mkF m 114 #[.val (.int p1), .val (.int 0), .val (.int 1), .val (.int 0), .val (.int 0), .val (.int 0), .val (.int 0), .val (.int 0), .val (.int 0), .unset, .unset] [])
          refine own_at (fun t k => XS.iconst X5.here hx rfl (hb hby at_114) k) ?_
          show own_Go p e below KK T5 (mkF m 115 #[.val (.int p1), .val (.int 0), .val (.int 1), .val (.int 0), .val (.int 0), .val (.int 0), .val (.int 0), .val (.int 0), .val (.int 0), .unset, .unset] [(.int 0)])
          refine own_at (fun t k => XS.istore X5.here hx rfl (hb hby at_115) rfl (l' := #[.val (.int p1), .val (.int 0), .val (.int 1), .val (.int 0), .val (.int 0), .val (.int 0), .val (.int 0), .val (.int 0), .val (.int 0), .val (.int 0), .unset]) rfl k) ?_
          show own_Go p e below KK T5 (mkF m 117 #[.val (.int p1), .val (.int 0), .val (.int 1), .val (.int 0), .val (.int 0), .val (.int 0), .val (.int 0), .val (.int 0), .val (.int 0), .val (.int 0), .unset] [])
          refine own_at (fun t k => XS.bipush X5.here hx rfl (hb hby at_117) k) ?_
          show own_Go p e below KK T5 (mkF m 119 #[.val (.int p1), .val (.int 0), .val (.int 1), .val (.int 0), .val (.int 0), .val (.int 0), .val (.int 0), .val (.int 0), .val (.int 0), .val (.int 0), .unset] [(.int 15)])
          refine own_at (fun t k => XS.istore X5.here hx rfl (hb hby at_119) rfl (l' := #[.val (.int p1), .val (.int 0), .val (.int 1), .val (.int 0), .val (.int 0), .val (.int 0), .val (.int 0), .val (.int 0), .val (.int 0), .val (.int 0), .val (.int 15)]) rfl k) ?_
          show own_Go p e below KK T5 (mkF m 121 #[.val (.int p1), .val (.int 0), .val (.int 1), .val (.int 0), .val (.int 0), .val (.int 0), .val (.int 0), .val (.int 0), .val (.int 0), .val (.int 0), .val (.int 15)] [])
          refine own_at (fun t k => XS.iload X5.here hx rfl (hb hby at_121) rfl k) ?_
          show own_Go p e below KK T5 (mkF m 123 #[.val (.int p1), .val (.int 0), .val (.int 1), .val (.int 0), .val (.int 0), .val (.int 0), .val (.int 0), .val (.int 0), .val (.int 0), .val (.int 0), .val (.int 15)] [(.int 0)])
          refine own_at (fun t k => XS.iloadN X5.here hx rfl (hb hby at_123) rfl k) ?_
          show own_Go p e below KK T5 (mkF m 124 #[.val (.int p1), .val (.int 0), .val (.int 1), .val (.int 0), .val (.int 0), .val (.int 0), .val (.int 0), .val (.int 0), .val (.int 0), .val (.int 0), .val (.int 15)] [(.int 0), (.int 0)])
          have hc124 : (0 : Int32) = (0 : Int32) := by decide
          refine own_at (fun t k => XS.icmpNo X5.here hx rfl (hb hby at_124) rfl (Jvm.Free.XT.ii_ne_f hc124) k) ?_
          show own_Go p e below KK T5 (mkF m 127 #[.val (.int p1), .val (.int 0), .val (.int 1), .val (.int 0), .val (.int 0), .val (.int 0), .val (.int 0), .val (.int 0), .val (.int 0), .val (.int 0), .val (.int 15)] [])
          refine own_at (fun t k => XS.iload X5.here hx rfl (hb hby at_127) rfl k) ?_
          show own_Go p e below KK T5 (mkF m 129 #[.val (.int p1), .val (.int 0), .val (.int 1), .val (.int 0), .val (.int 0), .val (.int 0), .val (.int 0), .val (.int 0), .val (.int 0), .val (.int 0), .val (.int 15)] [(.int 0)])
          refine own_at (fun t k => XS.iloadN X5.here hx rfl (hb hby at_129) rfl k) ?_
          show own_Go p e below KK T5 (mkF m 130 #[.val (.int p1), .val (.int 0), .val (.int 1), .val (.int 0), .val (.int 0), .val (.int 0), .val (.int 0), .val (.int 0), .val (.int 0), .val (.int 0), .val (.int 15)] [(.int 0), (.int 0)])
          have hc130 : (0 : Int32) = (0 : Int32) := by decide
          refine own_at (fun t k => XS.ifYes X5.here hx rfl (pc0 := 130) (pc' := 141) rfl (hb hby at_130) rfl (Jvm.Free.XT.i0_eq_t hc130) (by decide) (by decide) k) ?_
          show own_Go p e below KK T5 (mkF m 141 #[.val (.int p1), .val (.int 0), .val (.int 1), .val (.int 0), .val (.int 0), .val (.int 0), .val (.int 0), .val (.int 0), .val (.int 0), .val (.int 0), .val (.int 15)] [(.int 0)])
          refine own_at (fun t k => XS.iconst X5.here hx rfl (hb hby at_141) k) ?_
          show own_Go p e below KK T5 (mkF m 142 #[.val (.int p1), .val (.int 0), .val (.int 1), .val (.int 0), .val (.int 0), .val (.int 0), .val (.int 0), .val (.int 0), .val (.int 0), .val (.int 0), .val (.int 15)] [(.int 0), (.int 0)])
          have hc142 : (0 : Int32) = (0 : Int32) := by decide
          refine own_at (fun t k => XS.icmpNo X5.here hx rfl (hb hby at_142) rfl (Jvm.Free.XT.ii_ne_f hc142) k) ?_
          show own_Go p e below KK T5 (mkF m 145 #[.val (.int p1), .val (.int 0), .val (.int 1), .val (.int 0), .val (.int 0), .val (.int 0), .val (.int 0), .val (.int 0), .val (.int 0), .val (.int 0), .val (.int 15)] [])
          refine own_at (fun t k => XS.iload X5.here hx rfl (hb hby at_145) rfl k) ?_
          show own_Go p e below KK T5 (mkF m 147 #[.val (.int p1), .val (.int 0), .val (.int 1), .val (.int 0), .val (.int 0), .val (.int 0), .val (.int 0), .val (.int 0), .val (.int 0), .val (.int 0), .val (.int 15)] [(.int 0)])
          refine own_at (fun t k => XS.iloadN X5.here hx rfl (hb hby at_147) rfl k) ?_
          show own_Go p e below KK T5 (mkF m 148 #[.val (.int p1), .val (.int 0), .val (.int 1), .val (.int 0), .val (.int 0), .val (.int 0), .val (.int 0), .val (.int 0), .val (.int 0), .val (.int 0), .val (.int 15)] [(.int 0), (.int 0)])
          have hc148 : (0 : Int32) = (0 : Int32) := by decide
          refine own_at (fun t k => XS.icmpNo X5.here hx rfl (hb hby at_148) rfl (Jvm.Free.XT.ii_ne_f hc148) k) ?_
          show own_Go p e below KK T5 (mkF m 151 #[.val (.int p1), .val (.int 0), .val (.int 1), .val (.int 0), .val (.int 0), .val (.int 0), .val (.int 0), .val (.int 0), .val (.int 0), .val (.int 0), .val (.int 15)] [])
          refine own_at (fun t k => XS.iload X5.here hx rfl (hb hby at_151) rfl k) ?_
          show own_Go p e below KK T5 (mkF m 153 #[.val (.int p1), .val (.int 0), .val (.int 1), .val (.int 0), .val (.int 0), .val (.int 0), .val (.int 0), .val (.int 0), .val (.int 0), .val (.int 0), .val (.int 15)] [(.int 0)])
          refine own_at (fun t k => XS.iloadN X5.here hx rfl (hb hby at_153) rfl k) ?_
          show own_Go p e below KK T5 (mkF m 154 #[.val (.int p1), .val (.int 0), .val (.int 1), .val (.int 0), .val (.int 0), .val (.int 0), .val (.int 0), .val (.int 0), .val (.int 0), .val (.int 0), .val (.int 15)] [(.int 0), (.int 0)])
          have hc154 : (0 : Int32) = (0 : Int32) := by decide
          refine own_at (fun t k => XS.ifYes X5.here hx rfl (pc0 := 154) (pc' := 166) rfl (hb hby at_154) rfl (Jvm.Free.XT.i0_eq_t hc154) (by decide) (by decide) k) ?_
          show own_Go p e below KK T5 (mkF m 166 #[.val (.int p1), .val (.int 0), .val (.int 1), .val (.int 0), .val (.int 0), .val (.int 0), .val (.int 0), .val (.int 0), .val (.int 0), .val (.int 0), .val (.int 15)] [(.int 0)])
          refine own_at (fun t k => XS.iconst X5.here hx rfl (hb hby at_166) k) ?_
          show own_Go p e below KK T5 (mkF m 167 #[.val (.int p1), .val (.int 0), .val (.int 1), .val (.int 0), .val (.int 0), .val (.int 0), .val (.int 0), .val (.int 0), .val (.int 0), .val (.int 0), .val (.int 15)] [(.int 0), (.int 0)])
          have hc167 : (0 : Int32) = (0 : Int32) := by decide
          refine own_at (fun t k => XS.icmpNo X5.here hx rfl (hb hby at_167) rfl (Jvm.Free.XT.ii_ne_f hc167) k) ?_
          show own_Go p e below KK T5 (mkF m 170 #[.val (.int p1), .val (.int 0), .val (.int 1), .val (.int 0), .val (.int 0), .val (.int 0), .val (.int 0), .val (.int 0), .val (.int 0), .val (.int 0), .val (.int 15)] [])
          refine own_at (fun t k => XS.iload X5.here hx rfl (hb hby at_170) rfl k) ?_
          show own_Go p e below KK T5 (mkF m 172 #[.val (.int p1), .val (.int 0), .val (.int 1), .val (.int 0), .val (.int 0), .val (.int 0), .val (.int 0), .val (.int 0), .val (.int 0), .val (.int 0), .val (.int 15)] [(.int 0)])
          refine own_at (fun t k => XS.iload X5.here hx rfl (hb hby at_172) rfl k) ?_
          show own_Go p e below KK T5 (mkF m 174 #[.val (.int p1), .val (.int 0), .val (.int 1), .val (.int 0), .val (.int 0), .val (.int 0), .val (.int 0), .val (.int 0), .val (.int 0), .val (.int 0), .val (.int 15)] [(.int 15), (.int 0)])
          refine own_at (fun t k => XS.iconst X5.here hx rfl (hb hby at_174) k) ?_
          show own_Go p e below KK T5 (mkF m 175 #[.val (.int p1), .val (.int 0), .val (.int 1), .val (.int 0), .val (.int 0), .val (.int 0), .val (.int 0), .val (.int 0), .val (.int 0), .val (.int 0), .val (.int 15)] [(.int (-1 : Int32)), (.int 15), (.int 0)])
          refine own_at (fun t k => XS.ixor X5.here hx rfl (hb hby at_175) rfl k) ?_
          show own_Go p e below KK T5 (mkF m 176 #[.val (.int p1), .val (.int 0), .val (.int 1), .val (.int 0), .val (.int 0), .val (.int 0), .val (.int 0), .val (.int 0), .val (.int 0), .val (.int 0), .val (.int 15)] [(.int ((15 : Int32) ^^^ (-1 : Int32))), (.int 0)])
          rw [show ((15 : Int32) ^^^ (-1 : Int32)) = (-16 : Int32) from by decide]
          show own_Go p e below KK T5 (mkF m 176 #[.val (.int p1), .val (.int 0), .val (.int 1), .val (.int 0), .val (.int 0), .val (.int 0), .val (.int 0), .val (.int 0), .val (.int 0), .val (.int 0), .val (.int 15)] [(.int (-16 : Int32)), (.int 0)])
          refine own_at (fun t k => XS.iand X5.here hx rfl (hb hby at_176) rfl k) ?_
          show own_Go p e below KK T5 (mkF m 177 #[.val (.int p1), .val (.int 0), .val (.int 1), .val (.int 0), .val (.int 0), .val (.int 0), .val (.int 0), .val (.int 0), .val (.int 0), .val (.int 0), .val (.int 15)] [(.int ((0 : Int32) &&& (-16 : Int32)))])
          rw [show ((0 : Int32) &&& (-16 : Int32)) = (0 : Int32) from by decide]
          show own_Go p e below KK T5 (mkF m 177 #[.val (.int p1), .val (.int 0), .val (.int 1), .val (.int 0), .val (.int 0), .val (.int 0), .val (.int 0), .val (.int 0), .val (.int 0), .val (.int 0), .val (.int 15)] [(.int 0)])
          have hc177 : (0 : Int32) = (0 : Int32) := by decide
          refine own_at (fun t k => XS.ifNo X5.here hx rfl (hb hby at_177) rfl (Jvm.Free.XT.i0_ne_f hc177) k) ?_
          show own_Go p e below KK T5 (mkF m 180 #[.val (.int p1), .val (.int 0), .val (.int 1), .val (.int 0), .val (.int 0), .val (.int 0), .val (.int 0), .val (.int 0), .val (.int 0), .val (.int 0), .val (.int 15)] [])
          refine own_at (fun t k => XS.iload X5.here hx rfl (hb hby at_180) rfl k) ?_
          show own_Go p e below KK T5 (mkF m 182 #[.val (.int p1), .val (.int 0), .val (.int 1), .val (.int 0), .val (.int 0), .val (.int 0), .val (.int 0), .val (.int 0), .val (.int 0), .val (.int 0), .val (.int 15)] [(.int 0)])
          have hc182 : (0 : Int32) = (0 : Int32) := by decide
          refine own_at (fun t k => XS.ifNo X5.here hx rfl (hb hby at_182) rfl (Jvm.Free.XT.i0_ne_f hc182) k) ?_
          show own_Go p e below KK T5 (mkF m 185 #[.val (.int p1), .val (.int 0), .val (.int 1), .val (.int 0), .val (.int 0), .val (.int 0), .val (.int 0), .val (.int 0), .val (.int 0), .val (.int 0), .val (.int 15)] [])
          refine own_at (fun t k => XS.iconst X5.here hx rfl (hb hby at_185) k) ?_
          show own_Go p e below KK T5 (mkF m 186 #[.val (.int p1), .val (.int 0), .val (.int 1), .val (.int 0), .val (.int 0), .val (.int 0), .val (.int 0), .val (.int 0), .val (.int 0), .val (.int 0), .val (.int 15)] [(.int 1)])
          refine own_at (fun t k => XS.goto X5.here hx rfl (pc0 := 186) (pc' := 190) rfl (hb hby at_186) (by decide) (by decide) k) ?_
          show own_Go p e below KK T5 (mkF m 190 #[.val (.int p1), .val (.int 0), .val (.int 1), .val (.int 0), .val (.int 0), .val (.int 0), .val (.int 0), .val (.int 0), .val (.int 0), .val (.int 0), .val (.int 15)] [(.int 1)])
          refine own_at (fun t k => XS.iloadN X5.here hx rfl (hb hby at_190) rfl k) ?_
          show own_Go p e below KK T5 (mkF m 191 #[.val (.int p1), .val (.int 0), .val (.int 1), .val (.int 0), .val (.int 0), .val (.int 0), .val (.int 0), .val (.int 0), .val (.int 0), .val (.int 0), .val (.int 15)] [(.int 0), (.int 1)])
          have hc191 : (0 : Int32) = (0 : Int32) := by decide
          refine own_at (fun t k => XS.ifNo X5.here hx rfl (hb hby at_191) rfl (Jvm.Free.XT.i0_ne_f hc191) k) ?_
          show own_Go p e below KK T5 (mkF m 194 #[.val (.int p1), .val (.int 0), .val (.int 1), .val (.int 0), .val (.int 0), .val (.int 0), .val (.int 0), .val (.int 0), .val (.int 0), .val (.int 0), .val (.int 15)] [(.int 1)])
          refine own_at (fun t k => XS.iloadN X5.here hx rfl (hb hby at_194) rfl k) ?_
          show own_Go p e below KK T5 (mkF m 195 #[.val (.int p1), .val (.int 0), .val (.int 1), .val (.int 0), .val (.int 0), .val (.int 0), .val (.int 0), .val (.int 0), .val (.int 0), .val (.int 0), .val (.int 15)] [(.int 0), (.int 1)])
          have hc195 : (0 : Int32) = (0 : Int32) := by decide
          refine own_at (fun t k => XS.ifNo X5.here hx rfl (hb hby at_195) rfl (Jvm.Free.XT.i0_ne_f hc195) k) ?_
          show own_Go p e below KK T5 (mkF m 198 #[.val (.int p1), .val (.int 0), .val (.int 1), .val (.int 0), .val (.int 0), .val (.int 0), .val (.int 0), .val (.int 0), .val (.int 0), .val (.int 0), .val (.int 15)] [(.int 1)])
          refine own_at (fun t k => XS.iconst X5.here hx rfl (hb hby at_198) k) ?_
          show own_Go p e below KK T5 (mkF m 199 #[.val (.int p1), .val (.int 0), .val (.int 1), .val (.int 0), .val (.int 0), .val (.int 0), .val (.int 0), .val (.int 0), .val (.int 0), .val (.int 0), .val (.int 15)] [(.int 1), (.int 1)])
          refine own_at (fun t k => XS.goto X5.here hx rfl (pc0 := 199) (pc' := 203) rfl (hb hby at_199) (by decide) (by decide) k) ?_
          show own_Go p e below KK T5 (mkF m 203 #[.val (.int p1), .val (.int 0), .val (.int 1), .val (.int 0), .val (.int 0), .val (.int 0), .val (.int 0), .val (.int 0), .val (.int 0), .val (.int 0), .val (.int 15)] [(.int 1), (.int 1)])
          have hc203 : (1 : Int32) = (1 : Int32) := by decide
          refine own_at (fun t k => XS.icmpNo X5.here hx rfl (hb hby at_203) rfl (Jvm.Free.XT.ii_ne_f hc203) k) ?_
          show own_Go p e below KK T5 (mkF m 206 #[.val (.int p1), .val (.int 0), .val (.int 1), .val (.int 0), .val (.int 0), .val (.int 0), .val (.int 0), .val (.int 0), .val (.int 0), .val (.int 0), .val (.int 15)] [])
          refine own_at (fun t k => XS.iconst X5.here hx rfl (hb hby at_206) k) ?_
          show own_Go p e below KK T5 (mkF m 207 #[.val (.int p1), .val (.int 0), .val (.int 1), .val (.int 0), .val (.int 0), .val (.int 0), .val (.int 0), .val (.int 0), .val (.int 0), .val (.int 0), .val (.int 15)] [(.int 1)])
          refine own_at (fun t k => XS.goto X5.here hx rfl (pc0 := 207) (pc' := 211) rfl (hb hby at_207) (by decide) (by decide) k) ?_
          show own_Go p e below KK T5 (mkF m 211 #[.val (.int p1), .val (.int 0), .val (.int 1), .val (.int 0), .val (.int 0), .val (.int 0), .val (.int 0), .val (.int 0), .val (.int 0), .val (.int 0), .val (.int 15)] [(.int 1)])
          subst hKK
          exact own_retN X5 hx hlk (t := .boolean) Bd.returns (by simp) (hb hby at_211) (w := (1 : Int32)) (show nar .boolean (1 : Int32) = 1 from by decide) ⟨rfl, N5⟩ (Nat.le_of_ble_eq_true rfl) (Nat.le_of_ble_eq_true rfl)
        · refine own_at (fun t k => XS.ifNo X0.here hx rfl (hb hby at_40) rfl (Jvm.Free.XT.i0_eq_f hc40) k) ?_
          show own_Go p e below KK s₁ (mkF m 43 #[.val (.int p1), .val (.int 0), .val (.int 1), .val (.int 0), .unset, .unset, .unset, .unset, .unset, .unset, .unset] [])
          refine own_at (fun t k => XS.iconst X0.here hx rfl (hb hby at_43) k) ?_
          show own_Go p e below KK s₁ (mkF m 44 #[.val (.int p1), .val (.int 0), .val (.int 1), .val (.int 0), .unset, .unset, .unset, .unset, .unset, .unset, .unset] [(.int 1)])
          refine own_at (fun t k => XS.goto X0.here hx rfl (pc0 := 44) (pc' := 48) rfl (hb hby at_44) (by decide) (by decide) k) ?_
          show own_Go p e below KK s₁ (mkF m 48 #[.val (.int p1), .val (.int 0), .val (.int 1), .val (.int 0), .unset, .unset, .unset, .unset, .unset, .unset, .unset] [(.int 1)])
          refine own_at (fun t k => XS.istore X0.here hx rfl (hb hby at_48) rfl (l' := #[.val (.int p1), .val (.int 0), .val (.int 1), .val (.int 0), .val (.int 1), .unset, .unset, .unset, .unset, .unset, .unset]) rfl k) ?_
          show own_Go p e below KK s₁ (mkF m 50 #[.val (.int p1), .val (.int 0), .val (.int 1), .val (.int 0), .val (.int 1), .unset, .unset, .unset, .unset, .unset, .unset] [])
          refine own_at (fun t k => XS.iloadN X0.here hx rfl (hb hby at_50) rfl k) ?_
          show own_Go p e below KK s₁ (mkF m 51 #[.val (.int p1), .val (.int 0), .val (.int 1), .val (.int 0), .val (.int 1), .unset, .unset, .unset, .unset, .unset, .unset] [(.int 0)])
          refine own_at (fun t k => XS.iloadN X0.here hx rfl (hb hby at_51) rfl k) ?_
          show own_Go p e below KK s₁ (mkF m 52 #[.val (.int p1), .val (.int 0), .val (.int 1), .val (.int 0), .val (.int 1), .unset, .unset, .unset, .unset, .unset, .unset] [(.int 1), (.int 0)])
          refine own_at (fun t k => XS.iloadN X0.here hx rfl (hb hby at_52) rfl k) ?_
          show own_Go p e below KK s₁ (mkF m 53 #[.val (.int p1), .val (.int 0), .val (.int 1), .val (.int 0), .val (.int 1), .unset, .unset, .unset, .unset, .unset, .unset] [(.int 0), (.int 1), (.int 0)])
          refine own_at (fun t k => XS.iload X0.here hx rfl (hb hby at_53) rfl k) ?_
          show own_Go p e below KK s₁ (mkF m 55 #[.val (.int p1), .val (.int 0), .val (.int 1), .val (.int 0), .val (.int 1), .unset, .unset, .unset, .unset, .unset, .unset] [(.int 1), (.int 0), (.int 1), (.int 0)])
          obtain ⟨_, _, ⟨T6, L6, k6, n6⟩, -, X6, ⟨Lc6, hQ6, l6, y6, z6⟩, st6⟩ := Jvm.LawKit.callS X0 hx (y := (⟨"com/example/oyster/oyster/core/form/NamedTest", "ends", "(ZZZZ)I"⟩ : MethodName)) hown (mvT hZ (hw _ (List.mem_of_getElem? (i := 0) rfl))) (mvT hZ (hw _ (List.mem_of_getElem? (i := 1) rfl))) (mvT hZ (hw _ (List.mem_of_getElem? (i := 2) rfl))) (mvT hZ (hw _ (List.mem_of_getElem? (i := 3) rfl))) (by decide) (backOf (W := 0) (rm_prog_119_2 l Z a0 hw [] (0 : Int32) (1 : Int32) (0 : Int32) (1 : Int32)  h0 n0 Z0 ) hZ (hw _ (List.mem_of_getElem? (i := 3) rfl)) (hw _ (List.mem_of_getElem? (i := 2) rfl)) (by decide) (by decide)) (g := (mkF m 55 #[.val (.int p1), .val (.int 0), .val (.int 1), .val (.int 0), .val (.int 1), .unset, .unset, .unset, .unset, .unset, .unset] [(.int 1), (.int 0), (.int 1), (.int 0)])) rfl (by rw [hml]; rfl) (argsL := [(.int 0), (.int 1), (.int 0), (.int 1)]) (rest := []) (lenOf pd__ZZZZ_I rfl) rfl (by show 2 * 0 + _ ≤ _; exact Nat.le_of_eq rfl) (hb hby at_55) (fun _ _ => ⟨rfl, e0, (by decide : 0 + 0 ≤ _), (by decide : 0 + 0 ≤ _)⟩)
          dsimp only [Pt.U, Pt.locs, Pt.cells, Pt.slots] at X6 l6 y6 z6 st6 hQ6
          subst l6 y6 z6
          obtain ⟨rfl, N6q, e6⟩ := hQ6
          rw [show (own_F_prog_119_2 (0 : Int32) (1 : Int32) (0 : Int32) (1 : Int32)) = (0 : Int32) from by decide] at st6
          have N6 := Fr.app N0 N6q
          refine own_of (fun t k => st6 t k) ?_
          show own_Go p e below KK T6 (mkF m 58 #[.val (.int p1), .val (.int 0), .val (.int 1), .val (.int 0), .val (.int 1), .unset, .unset, .unset, .unset, .unset, .unset] [(.int 0)])
          refine own_at (fun t k => XS.istore X6.here hx rfl (hb hby at_58) rfl (l' := #[.val (.int p1), .val (.int 0), .val (.int 1), .val (.int 0), .val (.int 1), .val (.int 0), .unset, .unset, .unset, .unset, .unset]) rfl k) ?_
          show own_Go p e below KK T6 (mkF m 60 #[.val (.int p1), .val (.int 0), .val (.int 1), .val (.int 0), .val (.int 1), .val (.int 0), .unset, .unset, .unset, .unset, .unset] [])
          refine own_at (fun t k => XS.iload X6.here hx rfl (hb hby at_60) rfl k) ?_
          show own_Go p e below KK T6 (mkF m 62 #[.val (.int p1), .val (.int 0), .val (.int 1), .val (.int 0), .val (.int 1), .val (.int 0), .unset, .unset, .unset, .unset, .unset] [(.int 0)])
          refine own_at (fun t k => XS.iconst X6.here hx rfl (hb hby at_62) k) ?_
          show own_Go p e below KK T6 (mkF m 63 #[.val (.int p1), .val (.int 0), .val (.int 1), .val (.int 0), .val (.int 1), .val (.int 0), .unset, .unset, .unset, .unset, .unset] [(.int 1), (.int 0)])
          refine own_at (fun t k => XS.iand X6.here hx rfl (hb hby at_63) rfl k) ?_
          show own_Go p e below KK T6 (mkF m 64 #[.val (.int p1), .val (.int 0), .val (.int 1), .val (.int 0), .val (.int 1), .val (.int 0), .unset, .unset, .unset, .unset, .unset] [(.int ((0 : Int32) &&& (1 : Int32)))])
          rw [show ((0 : Int32) &&& (1 : Int32)) = (0 : Int32) from by decide]
          show own_Go p e below KK T6 (mkF m 64 #[.val (.int p1), .val (.int 0), .val (.int 1), .val (.int 0), .val (.int 1), .val (.int 0), .unset, .unset, .unset, .unset, .unset] [(.int 0)])
          have hc64 : (0 : Int32) = (0 : Int32) := by decide
          refine own_at (fun t k => XS.ifYes X6.here hx rfl (pc0 := 64) (pc' := 71) rfl (hb hby at_64) rfl (Jvm.Free.XT.i0_eq_t hc64) (by decide) (by decide) k) ?_
          show own_Go p e below KK T6 (mkF m 71 #[.val (.int p1), .val (.int 0), .val (.int 1), .val (.int 0), .val (.int 1), .val (.int 0), .unset, .unset, .unset, .unset, .unset] [])
          refine own_at (fun t k => XS.iconst X6.here hx rfl (hb hby at_71) k) ?_
          show own_Go p e below KK T6 (mkF m 72 #[.val (.int p1), .val (.int 0), .val (.int 1), .val (.int 0), .val (.int 1), .val (.int 0), .unset, .unset, .unset, .unset, .unset] [(.int 0)])
          refine own_at (fun t k => XS.istore X6.here hx rfl (hb hby at_72) rfl (l' := #[.val (.int p1), .val (.int 0), .val (.int 1), .val (.int 0), .val (.int 1), .val (.int 0), .val (.int 0), .unset, .unset, .unset, .unset]) rfl k) ?_
          show own_Go p e below KK T6 (mkF m 74 #[.val (.int p1), .val (.int 0), .val (.int 1), .val (.int 0), .val (.int 1), .val (.int 0), .val (.int 0), .unset, .unset, .unset, .unset] [])
          refine own_at (fun t k => XS.iload X6.here hx rfl (hb hby at_74) rfl k) ?_
          show own_Go p e below KK T6 (mkF m 76 #[.val (.int p1), .val (.int 0), .val (.int 1), .val (.int 0), .val (.int 1), .val (.int 0), .val (.int 0), .unset, .unset, .unset, .unset] [(.int 0)])
          refine own_at (fun t k => XS.iconst X6.here hx rfl (hb hby at_76) k) ?_
          show own_Go p e below KK T6 (mkF m 77 #[.val (.int p1), .val (.int 0), .val (.int 1), .val (.int 0), .val (.int 1), .val (.int 0), .val (.int 0), .unset, .unset, .unset, .unset] [(.int 2), (.int 0)])
          refine own_at (fun t k => XS.iand X6.here hx rfl (hb hby at_77) rfl k) ?_
          show own_Go p e below KK T6 (mkF m 78 #[.val (.int p1), .val (.int 0), .val (.int 1), .val (.int 0), .val (.int 1), .val (.int 0), .val (.int 0), .unset, .unset, .unset, .unset] [(.int ((0 : Int32) &&& (2 : Int32)))])
          rw [show ((0 : Int32) &&& (2 : Int32)) = (0 : Int32) from by decide]
          show own_Go p e below KK T6 (mkF m 78 #[.val (.int p1), .val (.int 0), .val (.int 1), .val (.int 0), .val (.int 1), .val (.int 0), .val (.int 0), .unset, .unset, .unset, .unset] [(.int 0)])
          have hc78 : (0 : Int32) = (0 : Int32) := by decide
          refine own_at (fun t k => XS.ifYes X6.here hx rfl (pc0 := 78) (pc' := 85) rfl (hb hby at_78) rfl (Jvm.Free.XT.i0_eq_t hc78) (by decide) (by decide) k) ?_
          show own_Go p e below KK T6 (mkF m 85 #[.val (.int p1), .val (.int 0), .val (.int 1), .val (.int 0), .val (.int 1), .val (.int 0), .val (.int 0), .unset, .unset, .unset, .unset] [])
          refine own_at (fun t k => XS.iconst X6.here hx rfl (hb hby at_85) k) ?_
          show own_Go p e below KK T6 (mkF m 86 #[.val (.int p1), .val (.int 0), .val (.int 1), .val (.int 0), .val (.int 1), .val (.int 0), .val (.int 0), .unset, .unset, .unset, .unset] [(.int 0)])
          refine own_at (fun t k => XS.istore X6.here hx rfl (hb hby at_86) rfl (l' := #[.val (.int p1), .val (.int 0), .val (.int 1), .val (.int 0), .val (.int 1), .val (.int 0), .val (.int 0), .val (.int 0), .unset, .unset, .unset]) rfl k) ?_
          show own_Go p e below KK T6 (mkF m 88 #[.val (.int p1), .val (.int 0), .val (.int 1), .val (.int 0), .val (.int 1), .val (.int 0), .val (.int 0), .val (.int 0), .unset, .unset, .unset] [])
          refine own_at (fun t k => XS.iload X6.here hx rfl (hb hby at_88) rfl k) ?_
          show own_Go p e below KK T6 (mkF m 90 #[.val (.int p1), .val (.int 0), .val (.int 1), .val (.int 0), .val (.int 1), .val (.int 0), .val (.int 0), .val (.int 0), .unset, .unset, .unset] [(.int 0)])
          refine own_at (fun t k => XS.iconst X6.here hx rfl (hb hby at_90) k) ?_
          show own_Go p e below KK T6 (mkF m 91 #[.val (.int p1), .val (.int 0), .val (.int 1), .val (.int 0), .val (.int 1), .val (.int 0), .val (.int 0), .val (.int 0), .unset, .unset, .unset] [(.int 4), (.int 0)])
          refine own_at (fun t k => XS.iand X6.here hx rfl (hb hby at_91) rfl k) ?_
          show own_Go p e below KK T6 (mkF m 92 #[.val (.int p1), .val (.int 0), .val (.int 1), .val (.int 0), .val (.int 1), .val (.int 0), .val (.int 0), .val (.int 0), .unset, .unset, .unset] [(.int ((0 : Int32) &&& (4 : Int32)))])
          rw [show ((0 : Int32) &&& (4 : Int32)) = (0 : Int32) from by decide]
          show own_Go p e below KK T6 (mkF m 92 #[.val (.int p1), .val (.int 0), .val (.int 1), .val (.int 0), .val (.int 1), .val (.int 0), .val (.int 0), .val (.int 0), .unset, .unset, .unset] [(.int 0)])
          have hc92 : (0 : Int32) = (0 : Int32) := by decide
          refine own_at (fun t k => XS.ifYes X6.here hx rfl (pc0 := 92) (pc' := 99) rfl (hb hby at_92) rfl (Jvm.Free.XT.i0_eq_t hc92) (by decide) (by decide) k) ?_
          show own_Go p e below KK T6 (mkF m 99 #[.val (.int p1), .val (.int 0), .val (.int 1), .val (.int 0), .val (.int 1), .val (.int 0), .val (.int 0), .val (.int 0), .unset, .unset, .unset] [])
          refine own_at (fun t k => XS.iconst X6.here hx rfl (hb hby at_99) k) ?_
          show own_Go p e below KK T6 (mkF m 100 #[.val (.int p1), .val (.int 0), .val (.int 1), .val (.int 0), .val (.int 1), .val (.int 0), .val (.int 0), .val (.int 0), .unset, .unset, .unset] [(.int 0)])
          refine own_at (fun t k => XS.istore X6.here hx rfl (hb hby at_100) rfl (l' := #[.val (.int p1), .val (.int 0), .val (.int 1), .val (.int 0), .val (.int 1), .val (.int 0), .val (.int 0), .val (.int 0), .val (.int 0), .unset, .unset]) rfl k) ?_
          show own_Go p e below KK T6 (mkF m 102 #[.val (.int p1), .val (.int 0), .val (.int 1), .val (.int 0), .val (.int 1), .val (.int 0), .val (.int 0), .val (.int 0), .val (.int 0), .unset, .unset] [])
          refine own_at (fun t k => XS.iload X6.here hx rfl (hb hby at_102) rfl k) ?_
          show own_Go p e below KK T6 (mkF m 104 #[.val (.int p1), .val (.int 0), .val (.int 1), .val (.int 0), .val (.int 1), .val (.int 0), .val (.int 0), .val (.int 0), .val (.int 0), .unset, .unset] [(.int 0)])
          refine own_at (fun t k => XS.bipush X6.here hx rfl (hb hby at_104) k) ?_
          show own_Go p e below KK T6 (mkF m 106 #[.val (.int p1), .val (.int 0), .val (.int 1), .val (.int 0), .val (.int 1), .val (.int 0), .val (.int 0), .val (.int 0), .val (.int 0), .unset, .unset] [(.int 8), (.int 0)])
          refine own_at (fun t k => XS.iand X6.here hx rfl (hb hby at_106) rfl k) ?_
          show own_Go p e below KK T6 (mkF m 107 #[.val (.int p1), .val (.int 0), .val (.int 1), .val (.int 0), .val (.int 1), .val (.int 0), .val (.int 0), .val (.int 0), .val (.int 0), .unset, .unset] [(.int ((0 : Int32) &&& (8 : Int32)))])
          rw [show ((0 : Int32) &&& (8 : Int32)) = (0 : Int32) from by decide]
          show own_Go p e below KK T6 (mkF m 107 #[.val (.int p1), .val (.int 0), .val (.int 1), .val (.int 0), .val (.int 1), .val (.int 0), .val (.int 0), .val (.int 0), .val (.int 0), .unset, .unset] [(.int 0)])
          have hc107 : (0 : Int32) = (0 : Int32) := by decide
          refine own_at (fun t k => XS.ifYes X6.here hx rfl (pc0 := 107) (pc' := 114) rfl (hb hby at_107) rfl (Jvm.Free.XT.i0_eq_t hc107) (by decide) (by decide) k) ?_
          show own_Go p e below KK T6 (mkF m 114 #[.val (.int p1), .val (.int 0), .val (.int 1), .val (.int 0), .val (.int 1), .val (.int 0), .val (.int 0), .val (.int 0), .val (.int 0), .unset, .unset] [])
          refine own_at (fun t k => XS.iconst X6.here hx rfl (hb hby at_114) k) ?_
          show own_Go p e below KK T6 (mkF m 115 #[.val (.int p1), .val (.int 0), .val (.int 1), .val (.int 0), .val (.int 1), .val (.int 0), .val (.int 0), .val (.int 0), .val (.int 0), .unset, .unset] [(.int 0)])
          refine own_at (fun t k => XS.istore X6.here hx rfl (hb hby at_115) rfl (l' := #[.val (.int p1), .val (.int 0), .val (.int 1), .val (.int 0), .val (.int 1), .val (.int 0), .val (.int 0), .val (.int 0), .val (.int 0), .val (.int 0), .unset]) rfl k) ?_
          show own_Go p e below KK T6 (mkF m 117 #[.val (.int p1), .val (.int 0), .val (.int 1), .val (.int 0), .val (.int 1), .val (.int 0), .val (.int 0), .val (.int 0), .val (.int 0), .val (.int 0), .unset] [])
          refine own_at (fun t k => XS.bipush X6.here hx rfl (hb hby at_117) k) ?_
          show own_Go p e below KK T6 (mkF m 119 #[.val (.int p1), .val (.int 0), .val (.int 1), .val (.int 0), .val (.int 1), .val (.int 0), .val (.int 0), .val (.int 0), .val (.int 0), .val (.int 0), .unset] [(.int 15)])
          refine own_at (fun t k => XS.istore X6.here hx rfl (hb hby at_119) rfl (l' := #[.val (.int p1), .val (.int 0), .val (.int 1), .val (.int 0), .val (.int 1), .val (.int 0), .val (.int 0), .val (.int 0), .val (.int 0), .val (.int 0), .val (.int 15)]) rfl k) ?_
          show own_Go p e below KK T6 (mkF m 121 #[.val (.int p1), .val (.int 0), .val (.int 1), .val (.int 0), .val (.int 1), .val (.int 0), .val (.int 0), .val (.int 0), .val (.int 0), .val (.int 0), .val (.int 15)] [])
          refine own_at (fun t k => XS.iload X6.here hx rfl (hb hby at_121) rfl k) ?_
          show own_Go p e below KK T6 (mkF m 123 #[.val (.int p1), .val (.int 0), .val (.int 1), .val (.int 0), .val (.int 1), .val (.int 0), .val (.int 0), .val (.int 0), .val (.int 0), .val (.int 0), .val (.int 15)] [(.int 0)])
          refine own_at (fun t k => XS.iloadN X6.here hx rfl (hb hby at_123) rfl k) ?_
          show own_Go p e below KK T6 (mkF m 124 #[.val (.int p1), .val (.int 0), .val (.int 1), .val (.int 0), .val (.int 1), .val (.int 0), .val (.int 0), .val (.int 0), .val (.int 0), .val (.int 0), .val (.int 15)] [(.int 0), (.int 0)])
          have hc124 : (0 : Int32) = (0 : Int32) := by decide
          refine own_at (fun t k => XS.icmpNo X6.here hx rfl (hb hby at_124) rfl (Jvm.Free.XT.ii_ne_f hc124) k) ?_
          show own_Go p e below KK T6 (mkF m 127 #[.val (.int p1), .val (.int 0), .val (.int 1), .val (.int 0), .val (.int 1), .val (.int 0), .val (.int 0), .val (.int 0), .val (.int 0), .val (.int 0), .val (.int 15)] [])
          refine own_at (fun t k => XS.iload X6.here hx rfl (hb hby at_127) rfl k) ?_
          show own_Go p e below KK T6 (mkF m 129 #[.val (.int p1), .val (.int 0), .val (.int 1), .val (.int 0), .val (.int 1), .val (.int 0), .val (.int 0), .val (.int 0), .val (.int 0), .val (.int 0), .val (.int 15)] [(.int 0)])
          refine own_at (fun t k => XS.iloadN X6.here hx rfl (hb hby at_129) rfl k) ?_
          show own_Go p e below KK T6 (mkF m 130 #[.val (.int p1), .val (.int 0), .val (.int 1), .val (.int 0), .val (.int 1), .val (.int 0), .val (.int 0), .val (.int 0), .val (.int 0), .val (.int 0), .val (.int 15)] [(.int 0), (.int 0)])
          have hc130 : (0 : Int32) = (0 : Int32) := by decide
          refine own_at (fun t k => XS.ifYes X6.here hx rfl (pc0 := 130) (pc' := 141) rfl (hb hby at_130) rfl (Jvm.Free.XT.i0_eq_t hc130) (by decide) (by decide) k) ?_
          show own_Go p e below KK T6 (mkF m 141 #[.val (.int p1), .val (.int 0), .val (.int 1), .val (.int 0), .val (.int 1), .val (.int 0), .val (.int 0), .val (.int 0), .val (.int 0), .val (.int 0), .val (.int 15)] [(.int 0)])
          refine own_at (fun t k => XS.iconst X6.here hx rfl (hb hby at_141) k) ?_
          show own_Go p e below KK T6 (mkF m 142 #[.val (.int p1), .val (.int 0), .val (.int 1), .val (.int 0), .val (.int 1), .val (.int 0), .val (.int 0), .val (.int 0), .val (.int 0), .val (.int 0), .val (.int 15)] [(.int 0), (.int 0)])
          have hc142 : (0 : Int32) = (0 : Int32) := by decide
          refine own_at (fun t k => XS.icmpNo X6.here hx rfl (hb hby at_142) rfl (Jvm.Free.XT.ii_ne_f hc142) k) ?_
          show own_Go p e below KK T6 (mkF m 145 #[.val (.int p1), .val (.int 0), .val (.int 1), .val (.int 0), .val (.int 1), .val (.int 0), .val (.int 0), .val (.int 0), .val (.int 0), .val (.int 0), .val (.int 15)] [])
          refine own_at (fun t k => XS.iload X6.here hx rfl (hb hby at_145) rfl k) ?_
          show own_Go p e below KK T6 (mkF m 147 #[.val (.int p1), .val (.int 0), .val (.int 1), .val (.int 0), .val (.int 1), .val (.int 0), .val (.int 0), .val (.int 0), .val (.int 0), .val (.int 0), .val (.int 15)] [(.int 0)])
          refine own_at (fun t k => XS.iloadN X6.here hx rfl (hb hby at_147) rfl k) ?_
          show own_Go p e below KK T6 (mkF m 148 #[.val (.int p1), .val (.int 0), .val (.int 1), .val (.int 0), .val (.int 1), .val (.int 0), .val (.int 0), .val (.int 0), .val (.int 0), .val (.int 0), .val (.int 15)] [(.int 0), (.int 0)])
          have hc148 : (0 : Int32) = (0 : Int32) := by decide
          refine own_at (fun t k => XS.icmpNo X6.here hx rfl (hb hby at_148) rfl (Jvm.Free.XT.ii_ne_f hc148) k) ?_
          show own_Go p e below KK T6 (mkF m 151 #[.val (.int p1), .val (.int 0), .val (.int 1), .val (.int 0), .val (.int 1), .val (.int 0), .val (.int 0), .val (.int 0), .val (.int 0), .val (.int 0), .val (.int 15)] [])
          refine own_at (fun t k => XS.iload X6.here hx rfl (hb hby at_151) rfl k) ?_
          show own_Go p e below KK T6 (mkF m 153 #[.val (.int p1), .val (.int 0), .val (.int 1), .val (.int 0), .val (.int 1), .val (.int 0), .val (.int 0), .val (.int 0), .val (.int 0), .val (.int 0), .val (.int 15)] [(.int 0)])
          refine own_at (fun t k => XS.iloadN X6.here hx rfl (hb hby at_153) rfl k) ?_
          show own_Go p e below KK T6 (mkF m 154 #[.val (.int p1), .val (.int 0), .val (.int 1), .val (.int 0), .val (.int 1), .val (.int 0), .val (.int 0), .val (.int 0), .val (.int 0), .val (.int 0), .val (.int 15)] [(.int 0), (.int 0)])
          have hc154 : (0 : Int32) = (0 : Int32) := by decide
          refine own_at (fun t k => XS.ifYes X6.here hx rfl (pc0 := 154) (pc' := 166) rfl (hb hby at_154) rfl (Jvm.Free.XT.i0_eq_t hc154) (by decide) (by decide) k) ?_
          show own_Go p e below KK T6 (mkF m 166 #[.val (.int p1), .val (.int 0), .val (.int 1), .val (.int 0), .val (.int 1), .val (.int 0), .val (.int 0), .val (.int 0), .val (.int 0), .val (.int 0), .val (.int 15)] [(.int 0)])
          refine own_at (fun t k => XS.iconst X6.here hx rfl (hb hby at_166) k) ?_
          show own_Go p e below KK T6 (mkF m 167 #[.val (.int p1), .val (.int 0), .val (.int 1), .val (.int 0), .val (.int 1), .val (.int 0), .val (.int 0), .val (.int 0), .val (.int 0), .val (.int 0), .val (.int 15)] [(.int 0), (.int 0)])
          have hc167 : (0 : Int32) = (0 : Int32) := by decide
          refine own_at (fun t k => XS.icmpNo X6.here hx rfl (hb hby at_167) rfl (Jvm.Free.XT.ii_ne_f hc167) k) ?_
          show own_Go p e below KK T6 (mkF m 170 #[.val (.int p1), .val (.int 0), .val (.int 1), .val (.int 0), .val (.int 1), .val (.int 0), .val (.int 0), .val (.int 0), .val (.int 0), .val (.int 0), .val (.int 15)] [])
          refine own_at (fun t k => XS.iload X6.here hx rfl (hb hby at_170) rfl k) ?_
          show own_Go p e below KK T6 (mkF m 172 #[.val (.int p1), .val (.int 0), .val (.int 1), .val (.int 0), .val (.int 1), .val (.int 0), .val (.int 0), .val (.int 0), .val (.int 0), .val (.int 0), .val (.int 15)] [(.int 0)])
          refine own_at (fun t k => XS.iload X6.here hx rfl (hb hby at_172) rfl k) ?_
          show own_Go p e below KK T6 (mkF m 174 #[.val (.int p1), .val (.int 0), .val (.int 1), .val (.int 0), .val (.int 1), .val (.int 0), .val (.int 0), .val (.int 0), .val (.int 0), .val (.int 0), .val (.int 15)] [(.int 15), (.int 0)])
          refine own_at (fun t k => XS.iconst X6.here hx rfl (hb hby at_174) k) ?_
          show own_Go p e below KK T6 (mkF m 175 #[.val (.int p1), .val (.int 0), .val (.int 1), .val (.int 0), .val (.int 1), .val (.int 0), .val (.int 0), .val (.int 0), .val (.int 0), .val (.int 0), .val (.int 15)] [(.int (-1 : Int32)), (.int 15), (.int 0)])
          refine own_at (fun t k => XS.ixor X6.here hx rfl (hb hby at_175) rfl k) ?_
          show own_Go p e below KK T6 (mkF m 176 #[.val (.int p1), .val (.int 0), .val (.int 1), .val (.int 0), .val (.int 1), .val (.int 0), .val (.int 0), .val (.int 0), .val (.int 0), .val (.int 0), .val (.int 15)] [(.int ((15 : Int32) ^^^ (-1 : Int32))), (.int 0)])
          rw [show ((15 : Int32) ^^^ (-1 : Int32)) = (-16 : Int32) from by decide]
          show own_Go p e below KK T6 (mkF m 176 #[.val (.int p1), .val (.int 0), .val (.int 1), .val (.int 0), .val (.int 1), .val (.int 0), .val (.int 0), .val (.int 0), .val (.int 0), .val (.int 0), .val (.int 15)] [(.int (-16 : Int32)), (.int 0)])
          refine own_at (fun t k => XS.iand X6.here hx rfl (hb hby at_176) rfl k) ?_
          show own_Go p e below KK T6 (mkF m 177 #[.val (.int p1), .val (.int 0), .val (.int 1), .val (.int 0), .val (.int 1), .val (.int 0), .val (.int 0), .val (.int 0), .val (.int 0), .val (.int 0), .val (.int 15)] [(.int ((0 : Int32) &&& (-16 : Int32)))])
          rw [show ((0 : Int32) &&& (-16 : Int32)) = (0 : Int32) from by decide]
          show own_Go p e below KK T6 (mkF m 177 #[.val (.int p1), .val (.int 0), .val (.int 1), .val (.int 0), .val (.int 1), .val (.int 0), .val (.int 0), .val (.int 0), .val (.int 0), .val (.int 0), .val (.int 15)] [(.int 0)])
          have hc177 : (0 : Int32) = (0 : Int32) := by decide
          refine own_at (fun t k => XS.ifNo X6.here hx rfl (hb hby at_177) rfl (Jvm.Free.XT.i0_ne_f hc177) k) ?_
          show own_Go p e below KK T6 (mkF m 180 #[.val (.int p1), .val (.int 0), .val (.int 1), .val (.int 0), .val (.int 1), .val (.int 0), .val (.int 0), .val (.int 0), .val (.int 0), .val (.int 0), .val (.int 15)] [])
          refine own_at (fun t k => XS.iload X6.here hx rfl (hb hby at_180) rfl k) ?_
          show own_Go p e below KK T6 (mkF m 182 #[.val (.int p1), .val (.int 0), .val (.int 1), .val (.int 0), .val (.int 1), .val (.int 0), .val (.int 0), .val (.int 0), .val (.int 0), .val (.int 0), .val (.int 15)] [(.int 0)])
          have hc182 : (0 : Int32) = (0 : Int32) := by decide
          refine own_at (fun t k => XS.ifNo X6.here hx rfl (hb hby at_182) rfl (Jvm.Free.XT.i0_ne_f hc182) k) ?_
          show own_Go p e below KK T6 (mkF m 185 #[.val (.int p1), .val (.int 0), .val (.int 1), .val (.int 0), .val (.int 1), .val (.int 0), .val (.int 0), .val (.int 0), .val (.int 0), .val (.int 0), .val (.int 15)] [])
          refine own_at (fun t k => XS.iconst X6.here hx rfl (hb hby at_185) k) ?_
          show own_Go p e below KK T6 (mkF m 186 #[.val (.int p1), .val (.int 0), .val (.int 1), .val (.int 0), .val (.int 1), .val (.int 0), .val (.int 0), .val (.int 0), .val (.int 0), .val (.int 0), .val (.int 15)] [(.int 1)])
          refine own_at (fun t k => XS.goto X6.here hx rfl (pc0 := 186) (pc' := 190) rfl (hb hby at_186) (by decide) (by decide) k) ?_
          show own_Go p e below KK T6 (mkF m 190 #[.val (.int p1), .val (.int 0), .val (.int 1), .val (.int 0), .val (.int 1), .val (.int 0), .val (.int 0), .val (.int 0), .val (.int 0), .val (.int 0), .val (.int 15)] [(.int 1)])
          refine own_at (fun t k => XS.iloadN X6.here hx rfl (hb hby at_190) rfl k) ?_
          show own_Go p e below KK T6 (mkF m 191 #[.val (.int p1), .val (.int 0), .val (.int 1), .val (.int 0), .val (.int 1), .val (.int 0), .val (.int 0), .val (.int 0), .val (.int 0), .val (.int 0), .val (.int 15)] [(.int 0), (.int 1)])
          have hc191 : (0 : Int32) = (0 : Int32) := by decide
          refine own_at (fun t k => XS.ifNo X6.here hx rfl (hb hby at_191) rfl (Jvm.Free.XT.i0_ne_f hc191) k) ?_
          show own_Go p e below KK T6 (mkF m 194 #[.val (.int p1), .val (.int 0), .val (.int 1), .val (.int 0), .val (.int 1), .val (.int 0), .val (.int 0), .val (.int 0), .val (.int 0), .val (.int 0), .val (.int 15)] [(.int 1)])
          refine own_at (fun t k => XS.iloadN X6.here hx rfl (hb hby at_194) rfl k) ?_
          show own_Go p e below KK T6 (mkF m 195 #[.val (.int p1), .val (.int 0), .val (.int 1), .val (.int 0), .val (.int 1), .val (.int 0), .val (.int 0), .val (.int 0), .val (.int 0), .val (.int 0), .val (.int 15)] [(.int 0), (.int 1)])
          have hc195 : (0 : Int32) = (0 : Int32) := by decide
          refine own_at (fun t k => XS.ifNo X6.here hx rfl (hb hby at_195) rfl (Jvm.Free.XT.i0_ne_f hc195) k) ?_
          show own_Go p e below KK T6 (mkF m 198 #[.val (.int p1), .val (.int 0), .val (.int 1), .val (.int 0), .val (.int 1), .val (.int 0), .val (.int 0), .val (.int 0), .val (.int 0), .val (.int 0), .val (.int 15)] [(.int 1)])
          refine own_at (fun t k => XS.iconst X6.here hx rfl (hb hby at_198) k) ?_
          show own_Go p e below KK T6 (mkF m 199 #[.val (.int p1), .val (.int 0), .val (.int 1), .val (.int 0), .val (.int 1), .val (.int 0), .val (.int 0), .val (.int 0), .val (.int 0), .val (.int 0), .val (.int 15)] [(.int 1), (.int 1)])
          refine own_at (fun t k => XS.goto X6.here hx rfl (pc0 := 199) (pc' := 203) rfl (hb hby at_199) (by decide) (by decide) k) ?_
          show own_Go p e below KK T6 (mkF m 203 #[.val (.int p1), .val (.int 0), .val (.int 1), .val (.int 0), .val (.int 1), .val (.int 0), .val (.int 0), .val (.int 0), .val (.int 0), .val (.int 0), .val (.int 15)] [(.int 1), (.int 1)])
          have hc203 : (1 : Int32) = (1 : Int32) := by decide
          refine own_at (fun t k => XS.icmpNo X6.here hx rfl (hb hby at_203) rfl (Jvm.Free.XT.ii_ne_f hc203) k) ?_
          show own_Go p e below KK T6 (mkF m 206 #[.val (.int p1), .val (.int 0), .val (.int 1), .val (.int 0), .val (.int 1), .val (.int 0), .val (.int 0), .val (.int 0), .val (.int 0), .val (.int 0), .val (.int 15)] [])
          refine own_at (fun t k => XS.iconst X6.here hx rfl (hb hby at_206) k) ?_
          show own_Go p e below KK T6 (mkF m 207 #[.val (.int p1), .val (.int 0), .val (.int 1), .val (.int 0), .val (.int 1), .val (.int 0), .val (.int 0), .val (.int 0), .val (.int 0), .val (.int 0), .val (.int 15)] [(.int 1)])
          refine own_at (fun t k => XS.goto X6.here hx rfl (pc0 := 207) (pc' := 211) rfl (hb hby at_207) (by decide) (by decide) k) ?_
          show own_Go p e below KK T6 (mkF m 211 #[.val (.int p1), .val (.int 0), .val (.int 1), .val (.int 0), .val (.int 1), .val (.int 0), .val (.int 0), .val (.int 0), .val (.int 0), .val (.int 0), .val (.int 15)] [(.int 1)])
          subst hKK
          exact own_retN X6 hx hlk (t := .boolean) Bd.returns (by simp) (hb hby at_211) (w := (1 : Int32)) (show nar .boolean (1 : Int32) = 1 from by decide) ⟨rfl, N6⟩ (Nat.le_of_ble_eq_true rfl) (Nat.le_of_ble_eq_true rfl)
      · refine own_at (fun t k => XS.ifNo X0.here hx rfl (hb hby at_27) rfl (Jvm.Free.XT.i0_eq_f hc27) k) ?_
        show own_Go p e below KK s₁ (mkF m 30 #[.val (.int p1), .val (.int 0), .val (.int 1), .unset, .unset, .unset, .unset, .unset, .unset, .unset, .unset] [])
        refine own_at (fun t k => XS.iconst X0.here hx rfl (hb hby at_30) k) ?_
        show own_Go p e below KK s₁ (mkF m 31 #[.val (.int p1), .val (.int 0), .val (.int 1), .unset, .unset, .unset, .unset, .unset, .unset, .unset, .unset] [(.int 1)])
        refine own_at (fun t k => XS.goto X0.here hx rfl (pc0 := 31) (pc' := 35) rfl (hb hby at_31) (by decide) (by decide) k) ?_
        show own_Go p e below KK s₁ (mkF m 35 #[.val (.int p1), .val (.int 0), .val (.int 1), .unset, .unset, .unset, .unset, .unset, .unset, .unset, .unset] [(.int 1)])
        refine own_at (fun t k => XS.istoreN X0.here hx rfl (hb hby at_35) rfl (l' := #[.val (.int p1), .val (.int 0), .val (.int 1), .val (.int 1), .unset, .unset, .unset, .unset, .unset, .unset, .unset]) rfl k) ?_
        show own_Go p e below KK s₁ (mkF m 36 #[.val (.int p1), .val (.int 0), .val (.int 1), .val (.int 1), .unset, .unset, .unset, .unset, .unset, .unset, .unset] [])
        refine own_at (fun t k => XS.iloadN X0.here hx rfl (hb hby at_36) rfl k) ?_
        show own_Go p e below KK s₁ (mkF m 37 #[.val (.int p1), .val (.int 0), .val (.int 1), .val (.int 1), .unset, .unset, .unset, .unset, .unset, .unset, .unset] [(.int p1)])
        refine own_at (fun t k => XS.bipush X0.here hx rfl (hb hby at_37) k) ?_
        show own_Go p e below KK s₁ (mkF m 39 #[.val (.int p1), .val (.int 0), .val (.int 1), .val (.int 1), .unset, .unset, .unset, .unset, .unset, .unset, .unset] [(.int 8), (.int p1)])
        refine own_at (fun t k => XS.iand X0.here hx rfl (hb hby at_39) rfl k) ?_
        show own_Go p e below KK s₁ (mkF m 40 #[.val (.int p1), .val (.int 0), .val (.int 1), .val (.int 1), .unset, .unset, .unset, .unset, .unset, .unset, .unset] [(.int (p1 &&& (8 : Int32)))])
        by_cases hc40 : (p1 &&& (8 : Int32)) = (0 : Int32)
        · refine own_at (fun t k => XS.ifYes X0.here hx rfl (pc0 := 40) (pc' := 47) rfl (hb hby at_40) rfl (Jvm.Free.XT.i0_eq_t hc40) (by decide) (by decide) k) ?_
          show own_Go p e below KK s₁ (mkF m 47 #[.val (.int p1), .val (.int 0), .val (.int 1), .val (.int 1), .unset, .unset, .unset, .unset, .unset, .unset, .unset] [])
          refine own_at (fun t k => XS.iconst X0.here hx rfl (hb hby at_47) k) ?_
          show own_Go p e below KK s₁ (mkF m 48 #[.val (.int p1), .val (.int 0), .val (.int 1), .val (.int 1), .unset, .unset, .unset, .unset, .unset, .unset, .unset] [(.int 0)])
          refine own_at (fun t k => XS.istore X0.here hx rfl (hb hby at_48) rfl (l' := #[.val (.int p1), .val (.int 0), .val (.int 1), .val (.int 1), .val (.int 0), .unset, .unset, .unset, .unset, .unset, .unset]) rfl k) ?_
          show own_Go p e below KK s₁ (mkF m 50 #[.val (.int p1), .val (.int 0), .val (.int 1), .val (.int 1), .val (.int 0), .unset, .unset, .unset, .unset, .unset, .unset] [])
          refine own_at (fun t k => XS.iloadN X0.here hx rfl (hb hby at_50) rfl k) ?_
          show own_Go p e below KK s₁ (mkF m 51 #[.val (.int p1), .val (.int 0), .val (.int 1), .val (.int 1), .val (.int 0), .unset, .unset, .unset, .unset, .unset, .unset] [(.int 0)])
          refine own_at (fun t k => XS.iloadN X0.here hx rfl (hb hby at_51) rfl k) ?_
          show own_Go p e below KK s₁ (mkF m 52 #[.val (.int p1), .val (.int 0), .val (.int 1), .val (.int 1), .val (.int 0), .unset, .unset, .unset, .unset, .unset, .unset] [(.int 1), (.int 0)])
          refine own_at (fun t k => XS.iloadN X0.here hx rfl (hb hby at_52) rfl k) ?_
          show own_Go p e below KK s₁ (mkF m 53 #[.val (.int p1), .val (.int 0), .val (.int 1), .val (.int 1), .val (.int 0), .unset, .unset, .unset, .unset, .unset, .unset] [(.int 1), (.int 1), (.int 0)])
          refine own_at (fun t k => XS.iload X0.here hx rfl (hb hby at_53) rfl k) ?_
          show own_Go p e below KK s₁ (mkF m 55 #[.val (.int p1), .val (.int 0), .val (.int 1), .val (.int 1), .val (.int 0), .unset, .unset, .unset, .unset, .unset, .unset] [(.int 0), (.int 1), (.int 1), (.int 0)])
          obtain ⟨_, _, ⟨T7, L7, k7, n7⟩, -, X7, ⟨Lc7, hQ7, l7, y7, z7⟩, st7⟩ := Jvm.LawKit.callS X0 hx (y := (⟨"com/example/oyster/oyster/core/form/NamedTest", "ends", "(ZZZZ)I"⟩ : MethodName)) hown (mvT hZ (hw _ (List.mem_of_getElem? (i := 0) rfl))) (mvT hZ (hw _ (List.mem_of_getElem? (i := 1) rfl))) (mvT hZ (hw _ (List.mem_of_getElem? (i := 2) rfl))) (mvT hZ (hw _ (List.mem_of_getElem? (i := 3) rfl))) (by decide) (backOf (W := 0) (rm_prog_119_2 l Z a0 hw [] (0 : Int32) (1 : Int32) (1 : Int32) (0 : Int32)  h0 n0 Z0 ) hZ (hw _ (List.mem_of_getElem? (i := 3) rfl)) (hw _ (List.mem_of_getElem? (i := 2) rfl)) (by decide) (by decide)) (g := (mkF m 55 #[.val (.int p1), .val (.int 0), .val (.int 1), .val (.int 1), .val (.int 0), .unset, .unset, .unset, .unset, .unset, .unset] [(.int 0), (.int 1), (.int 1), (.int 0)])) rfl (by rw [hml]; rfl) (argsL := [(.int 0), (.int 1), (.int 1), (.int 0)]) (rest := []) (lenOf pd__ZZZZ_I rfl) rfl (by show 2 * 0 + _ ≤ _; exact Nat.le_of_eq rfl) (hb hby at_55) (fun _ _ => ⟨rfl, e0, (by decide : 0 + 0 ≤ _), (by decide : 0 + 0 ≤ _)⟩)
          dsimp only [Pt.U, Pt.locs, Pt.cells, Pt.slots] at X7 l7 y7 z7 st7 hQ7
          subst l7 y7 z7
          obtain ⟨rfl, N7q, e7⟩ := hQ7
          rw [show (own_F_prog_119_2 (0 : Int32) (1 : Int32) (1 : Int32) (0 : Int32)) = (4 : Int32) from by decide] at st7
          have N7 := Fr.app N0 N7q
          refine own_of (fun t k => st7 t k) ?_
          show own_Go p e below KK T7 (mkF m 58 #[.val (.int p1), .val (.int 0), .val (.int 1), .val (.int 1), .val (.int 0), .unset, .unset, .unset, .unset, .unset, .unset] [(.int 4)])
          refine own_at (fun t k => XS.istore X7.here hx rfl (hb hby at_58) rfl (l' := #[.val (.int p1), .val (.int 0), .val (.int 1), .val (.int 1), .val (.int 0), .val (.int 4), .unset, .unset, .unset, .unset, .unset]) rfl k) ?_
          show own_Go p e below KK T7 (mkF m 60 #[.val (.int p1), .val (.int 0), .val (.int 1), .val (.int 1), .val (.int 0), .val (.int 4), .unset, .unset, .unset, .unset, .unset] [])
          refine own_at (fun t k => XS.iload X7.here hx rfl (hb hby at_60) rfl k) ?_
          show own_Go p e below KK T7 (mkF m 62 #[.val (.int p1), .val (.int 0), .val (.int 1), .val (.int 1), .val (.int 0), .val (.int 4), .unset, .unset, .unset, .unset, .unset] [(.int 4)])
          refine own_at (fun t k => XS.iconst X7.here hx rfl (hb hby at_62) k) ?_
          show own_Go p e below KK T7 (mkF m 63 #[.val (.int p1), .val (.int 0), .val (.int 1), .val (.int 1), .val (.int 0), .val (.int 4), .unset, .unset, .unset, .unset, .unset] [(.int 1), (.int 4)])
          refine own_at (fun t k => XS.iand X7.here hx rfl (hb hby at_63) rfl k) ?_
          show own_Go p e below KK T7 (mkF m 64 #[.val (.int p1), .val (.int 0), .val (.int 1), .val (.int 1), .val (.int 0), .val (.int 4), .unset, .unset, .unset, .unset, .unset] [(.int ((4 : Int32) &&& (1 : Int32)))])
          rw [show ((4 : Int32) &&& (1 : Int32)) = (0 : Int32) from by decide]
          show own_Go p e below KK T7 (mkF m 64 #[.val (.int p1), .val (.int 0), .val (.int 1), .val (.int 1), .val (.int 0), .val (.int 4), .unset, .unset, .unset, .unset, .unset] [(.int 0)])
          have hc64 : (0 : Int32) = (0 : Int32) := by decide
          refine own_at (fun t k => XS.ifYes X7.here hx rfl (pc0 := 64) (pc' := 71) rfl (hb hby at_64) rfl (Jvm.Free.XT.i0_eq_t hc64) (by decide) (by decide) k) ?_
          show own_Go p e below KK T7 (mkF m 71 #[.val (.int p1), .val (.int 0), .val (.int 1), .val (.int 1), .val (.int 0), .val (.int 4), .unset, .unset, .unset, .unset, .unset] [])
          refine own_at (fun t k => XS.iconst X7.here hx rfl (hb hby at_71) k) ?_
          show own_Go p e below KK T7 (mkF m 72 #[.val (.int p1), .val (.int 0), .val (.int 1), .val (.int 1), .val (.int 0), .val (.int 4), .unset, .unset, .unset, .unset, .unset] [(.int 0)])
          refine own_at (fun t k => XS.istore X7.here hx rfl (hb hby at_72) rfl (l' := #[.val (.int p1), .val (.int 0), .val (.int 1), .val (.int 1), .val (.int 0), .val (.int 4), .val (.int 0), .unset, .unset, .unset, .unset]) rfl k) ?_
          show own_Go p e below KK T7 (mkF m 74 #[.val (.int p1), .val (.int 0), .val (.int 1), .val (.int 1), .val (.int 0), .val (.int 4), .val (.int 0), .unset, .unset, .unset, .unset] [])
          refine own_at (fun t k => XS.iload X7.here hx rfl (hb hby at_74) rfl k) ?_
          show own_Go p e below KK T7 (mkF m 76 #[.val (.int p1), .val (.int 0), .val (.int 1), .val (.int 1), .val (.int 0), .val (.int 4), .val (.int 0), .unset, .unset, .unset, .unset] [(.int 4)])
          refine own_at (fun t k => XS.iconst X7.here hx rfl (hb hby at_76) k) ?_
          show own_Go p e below KK T7 (mkF m 77 #[.val (.int p1), .val (.int 0), .val (.int 1), .val (.int 1), .val (.int 0), .val (.int 4), .val (.int 0), .unset, .unset, .unset, .unset] [(.int 2), (.int 4)])
          refine own_at (fun t k => XS.iand X7.here hx rfl (hb hby at_77) rfl k) ?_
          show own_Go p e below KK T7 (mkF m 78 #[.val (.int p1), .val (.int 0), .val (.int 1), .val (.int 1), .val (.int 0), .val (.int 4), .val (.int 0), .unset, .unset, .unset, .unset] [(.int ((4 : Int32) &&& (2 : Int32)))])
          rw [show ((4 : Int32) &&& (2 : Int32)) = (0 : Int32) from by decide]
          show own_Go p e below KK T7 (mkF m 78 #[.val (.int p1), .val (.int 0), .val (.int 1), .val (.int 1), .val (.int 0), .val (.int 4), .val (.int 0), .unset, .unset, .unset, .unset] [(.int 0)])
          have hc78 : (0 : Int32) = (0 : Int32) := by decide
          refine own_at (fun t k => XS.ifYes X7.here hx rfl (pc0 := 78) (pc' := 85) rfl (hb hby at_78) rfl (Jvm.Free.XT.i0_eq_t hc78) (by decide) (by decide) k) ?_
          show own_Go p e below KK T7 (mkF m 85 #[.val (.int p1), .val (.int 0), .val (.int 1), .val (.int 1), .val (.int 0), .val (.int 4), .val (.int 0), .unset, .unset, .unset, .unset] [])
          refine own_at (fun t k => XS.iconst X7.here hx rfl (hb hby at_85) k) ?_
          show own_Go p e below KK T7 (mkF m 86 #[.val (.int p1), .val (.int 0), .val (.int 1), .val (.int 1), .val (.int 0), .val (.int 4), .val (.int 0), .unset, .unset, .unset, .unset] [(.int 0)])
          refine own_at (fun t k => XS.istore X7.here hx rfl (hb hby at_86) rfl (l' := #[.val (.int p1), .val (.int 0), .val (.int 1), .val (.int 1), .val (.int 0), .val (.int 4), .val (.int 0), .val (.int 0), .unset, .unset, .unset]) rfl k) ?_
          show own_Go p e below KK T7 (mkF m 88 #[.val (.int p1), .val (.int 0), .val (.int 1), .val (.int 1), .val (.int 0), .val (.int 4), .val (.int 0), .val (.int 0), .unset, .unset, .unset] [])
          refine own_at (fun t k => XS.iload X7.here hx rfl (hb hby at_88) rfl k) ?_
          show own_Go p e below KK T7 (mkF m 90 #[.val (.int p1), .val (.int 0), .val (.int 1), .val (.int 1), .val (.int 0), .val (.int 4), .val (.int 0), .val (.int 0), .unset, .unset, .unset] [(.int 4)])
          refine own_at (fun t k => XS.iconst X7.here hx rfl (hb hby at_90) k) ?_
          show own_Go p e below KK T7 (mkF m 91 #[.val (.int p1), .val (.int 0), .val (.int 1), .val (.int 1), .val (.int 0), .val (.int 4), .val (.int 0), .val (.int 0), .unset, .unset, .unset] [(.int 4), (.int 4)])
          refine own_at (fun t k => XS.iand X7.here hx rfl (hb hby at_91) rfl k) ?_
          show own_Go p e below KK T7 (mkF m 92 #[.val (.int p1), .val (.int 0), .val (.int 1), .val (.int 1), .val (.int 0), .val (.int 4), .val (.int 0), .val (.int 0), .unset, .unset, .unset] [(.int ((4 : Int32) &&& (4 : Int32)))])
          rw [show ((4 : Int32) &&& (4 : Int32)) = (4 : Int32) from by decide]
          show own_Go p e below KK T7 (mkF m 92 #[.val (.int p1), .val (.int 0), .val (.int 1), .val (.int 1), .val (.int 0), .val (.int 4), .val (.int 0), .val (.int 0), .unset, .unset, .unset] [(.int 4)])
          have hc92 : ¬ ((4 : Int32) = (0 : Int32)) := by decide
          refine own_at (fun t k => XS.ifNo X7.here hx rfl (hb hby at_92) rfl (Jvm.Free.XT.i0_eq_f hc92) k) ?_
          show own_Go p e below KK T7 (mkF m 95 #[.val (.int p1), .val (.int 0), .val (.int 1), .val (.int 1), .val (.int 0), .val (.int 4), .val (.int 0), .val (.int 0), .unset, .unset, .unset] [])
          refine own_at (fun t k => XS.iconst X7.here hx rfl (hb hby at_95) k) ?_
          show own_Go p e below KK T7 (mkF m 96 #[.val (.int p1), .val (.int 0), .val (.int 1), .val (.int 1), .val (.int 0), .val (.int 4), .val (.int 0), .val (.int 0), .unset, .unset, .unset] [(.int 1)])
          refine own_at (fun t k => XS.goto X7.here hx rfl (pc0 := 96) (pc' := 100) rfl (hb hby at_96) (by decide) (by decide) k) ?_
          show own_Go p e below KK T7 (mkF m 100 #[.val (.int p1), .val (.int 0), .val (.int 1), .val (.int 1), .val (.int 0), .val (.int 4), .val (.int 0), .val (.int 0), .unset, .unset, .unset] [(.int 1)])
          refine own_at (fun t k => XS.istore X7.here hx rfl (hb hby at_100) rfl (l' := #[.val (.int p1), .val (.int 0), .val (.int 1), .val (.int 1), .val (.int 0), .val (.int 4), .val (.int 0), .val (.int 0), .val (.int 1), .unset, .unset]) rfl k) ?_
          show own_Go p e below KK T7 (mkF m 102 #[.val (.int p1), .val (.int 0), .val (.int 1), .val (.int 1), .val (.int 0), .val (.int 4), .val (.int 0), .val (.int 0), .val (.int 1), .unset, .unset] [])
          refine own_at (fun t k => XS.iload X7.here hx rfl (hb hby at_102) rfl k) ?_
          show own_Go p e below KK T7 (mkF m 104 #[.val (.int p1), .val (.int 0), .val (.int 1), .val (.int 1), .val (.int 0), .val (.int 4), .val (.int 0), .val (.int 0), .val (.int 1), .unset, .unset] [(.int 4)])
          refine own_at (fun t k => XS.bipush X7.here hx rfl (hb hby at_104) k) ?_
          show own_Go p e below KK T7 (mkF m 106 #[.val (.int p1), .val (.int 0), .val (.int 1), .val (.int 1), .val (.int 0), .val (.int 4), .val (.int 0), .val (.int 0), .val (.int 1), .unset, .unset] [(.int 8), (.int 4)])
          refine own_at (fun t k => XS.iand X7.here hx rfl (hb hby at_106) rfl k) ?_
          show own_Go p e below KK T7 (mkF m 107 #[.val (.int p1), .val (.int 0), .val (.int 1), .val (.int 1), .val (.int 0), .val (.int 4), .val (.int 0), .val (.int 0), .val (.int 1), .unset, .unset] [(.int ((4 : Int32) &&& (8 : Int32)))])
          rw [show ((4 : Int32) &&& (8 : Int32)) = (0 : Int32) from by decide]
          show own_Go p e below KK T7 (mkF m 107 #[.val (.int p1), .val (.int 0), .val (.int 1), .val (.int 1), .val (.int 0), .val (.int 4), .val (.int 0), .val (.int 0), .val (.int 1), .unset, .unset] [(.int 0)])
          have hc107 : (0 : Int32) = (0 : Int32) := by decide
          refine own_at (fun t k => XS.ifYes X7.here hx rfl (pc0 := 107) (pc' := 114) rfl (hb hby at_107) rfl (Jvm.Free.XT.i0_eq_t hc107) (by decide) (by decide) k) ?_
          show own_Go p e below KK T7 (mkF m 114 #[.val (.int p1), .val (.int 0), .val (.int 1), .val (.int 1), .val (.int 0), .val (.int 4), .val (.int 0), .val (.int 0), .val (.int 1), .unset, .unset] [])
          refine own_at (fun t k => XS.iconst X7.here hx rfl (hb hby at_114) k) ?_
          show own_Go p e below KK T7 (mkF m 115 #[.val (.int p1), .val (.int 0), .val (.int 1), .val (.int 1), .val (.int 0), .val (.int 4), .val (.int 0), .val (.int 0), .val (.int 1), .unset, .unset] [(.int 0)])
          refine own_at (fun t k => XS.istore X7.here hx rfl (hb hby at_115) rfl (l' := #[.val (.int p1), .val (.int 0), .val (.int 1), .val (.int 1), .val (.int 0), .val (.int 4), .val (.int 0), .val (.int 0), .val (.int 1), .val (.int 0), .unset]) rfl k) ?_
          show own_Go p e below KK T7 (mkF m 117 #[.val (.int p1), .val (.int 0), .val (.int 1), .val (.int 1), .val (.int 0), .val (.int 4), .val (.int 0), .val (.int 0), .val (.int 1), .val (.int 0), .unset] [])
          refine own_at (fun t k => XS.bipush X7.here hx rfl (hb hby at_117) k) ?_
          show own_Go p e below KK T7 (mkF m 119 #[.val (.int p1), .val (.int 0), .val (.int 1), .val (.int 1), .val (.int 0), .val (.int 4), .val (.int 0), .val (.int 0), .val (.int 1), .val (.int 0), .unset] [(.int 15)])
          refine own_at (fun t k => XS.istore X7.here hx rfl (hb hby at_119) rfl (l' := #[.val (.int p1), .val (.int 0), .val (.int 1), .val (.int 1), .val (.int 0), .val (.int 4), .val (.int 0), .val (.int 0), .val (.int 1), .val (.int 0), .val (.int 15)]) rfl k) ?_
          show own_Go p e below KK T7 (mkF m 121 #[.val (.int p1), .val (.int 0), .val (.int 1), .val (.int 1), .val (.int 0), .val (.int 4), .val (.int 0), .val (.int 0), .val (.int 1), .val (.int 0), .val (.int 15)] [])
          refine own_at (fun t k => XS.iload X7.here hx rfl (hb hby at_121) rfl k) ?_
          show own_Go p e below KK T7 (mkF m 123 #[.val (.int p1), .val (.int 0), .val (.int 1), .val (.int 1), .val (.int 0), .val (.int 4), .val (.int 0), .val (.int 0), .val (.int 1), .val (.int 0), .val (.int 15)] [(.int 0)])
          refine own_at (fun t k => XS.iloadN X7.here hx rfl (hb hby at_123) rfl k) ?_
          show own_Go p e below KK T7 (mkF m 124 #[.val (.int p1), .val (.int 0), .val (.int 1), .val (.int 1), .val (.int 0), .val (.int 4), .val (.int 0), .val (.int 0), .val (.int 1), .val (.int 0), .val (.int 15)] [(.int 0), (.int 0)])
          have hc124 : (0 : Int32) = (0 : Int32) := by decide
          refine own_at (fun t k => XS.icmpNo X7.here hx rfl (hb hby at_124) rfl (Jvm.Free.XT.ii_ne_f hc124) k) ?_
          show own_Go p e below KK T7 (mkF m 127 #[.val (.int p1), .val (.int 0), .val (.int 1), .val (.int 1), .val (.int 0), .val (.int 4), .val (.int 0), .val (.int 0), .val (.int 1), .val (.int 0), .val (.int 15)] [])
          refine own_at (fun t k => XS.iload X7.here hx rfl (hb hby at_127) rfl k) ?_
          show own_Go p e below KK T7 (mkF m 129 #[.val (.int p1), .val (.int 0), .val (.int 1), .val (.int 1), .val (.int 0), .val (.int 4), .val (.int 0), .val (.int 0), .val (.int 1), .val (.int 0), .val (.int 15)] [(.int 0)])
          refine own_at (fun t k => XS.iloadN X7.here hx rfl (hb hby at_129) rfl k) ?_
          show own_Go p e below KK T7 (mkF m 130 #[.val (.int p1), .val (.int 0), .val (.int 1), .val (.int 1), .val (.int 0), .val (.int 4), .val (.int 0), .val (.int 0), .val (.int 1), .val (.int 0), .val (.int 15)] [(.int 0), (.int 0)])
          have hc130 : (0 : Int32) = (0 : Int32) := by decide
          refine own_at (fun t k => XS.ifYes X7.here hx rfl (pc0 := 130) (pc' := 141) rfl (hb hby at_130) rfl (Jvm.Free.XT.i0_eq_t hc130) (by decide) (by decide) k) ?_
          show own_Go p e below KK T7 (mkF m 141 #[.val (.int p1), .val (.int 0), .val (.int 1), .val (.int 1), .val (.int 0), .val (.int 4), .val (.int 0), .val (.int 0), .val (.int 1), .val (.int 0), .val (.int 15)] [(.int 0)])
          refine own_at (fun t k => XS.iconst X7.here hx rfl (hb hby at_141) k) ?_
          show own_Go p e below KK T7 (mkF m 142 #[.val (.int p1), .val (.int 0), .val (.int 1), .val (.int 1), .val (.int 0), .val (.int 4), .val (.int 0), .val (.int 0), .val (.int 1), .val (.int 0), .val (.int 15)] [(.int 0), (.int 0)])
          have hc142 : (0 : Int32) = (0 : Int32) := by decide
          refine own_at (fun t k => XS.icmpNo X7.here hx rfl (hb hby at_142) rfl (Jvm.Free.XT.ii_ne_f hc142) k) ?_
          show own_Go p e below KK T7 (mkF m 145 #[.val (.int p1), .val (.int 0), .val (.int 1), .val (.int 1), .val (.int 0), .val (.int 4), .val (.int 0), .val (.int 0), .val (.int 1), .val (.int 0), .val (.int 15)] [])
          refine own_at (fun t k => XS.iload X7.here hx rfl (hb hby at_145) rfl k) ?_
          show own_Go p e below KK T7 (mkF m 147 #[.val (.int p1), .val (.int 0), .val (.int 1), .val (.int 1), .val (.int 0), .val (.int 4), .val (.int 0), .val (.int 0), .val (.int 1), .val (.int 0), .val (.int 15)] [(.int 1)])
          refine own_at (fun t k => XS.iloadN X7.here hx rfl (hb hby at_147) rfl k) ?_
          show own_Go p e below KK T7 (mkF m 148 #[.val (.int p1), .val (.int 0), .val (.int 1), .val (.int 1), .val (.int 0), .val (.int 4), .val (.int 0), .val (.int 0), .val (.int 1), .val (.int 0), .val (.int 15)] [(.int 1), (.int 1)])
          have hc148 : (1 : Int32) = (1 : Int32) := by decide
          refine own_at (fun t k => XS.icmpNo X7.here hx rfl (hb hby at_148) rfl (Jvm.Free.XT.ii_ne_f hc148) k) ?_
          show own_Go p e below KK T7 (mkF m 151 #[.val (.int p1), .val (.int 0), .val (.int 1), .val (.int 1), .val (.int 0), .val (.int 4), .val (.int 0), .val (.int 0), .val (.int 1), .val (.int 0), .val (.int 15)] [])
          refine own_at (fun t k => XS.iload X7.here hx rfl (hb hby at_151) rfl k) ?_
          show own_Go p e below KK T7 (mkF m 153 #[.val (.int p1), .val (.int 0), .val (.int 1), .val (.int 1), .val (.int 0), .val (.int 4), .val (.int 0), .val (.int 0), .val (.int 1), .val (.int 0), .val (.int 15)] [(.int 0)])
          refine own_at (fun t k => XS.iloadN X7.here hx rfl (hb hby at_153) rfl k) ?_
          show own_Go p e below KK T7 (mkF m 154 #[.val (.int p1), .val (.int 0), .val (.int 1), .val (.int 1), .val (.int 0), .val (.int 4), .val (.int 0), .val (.int 0), .val (.int 1), .val (.int 0), .val (.int 15)] [(.int 1), (.int 0)])
          have hc154 : ¬ ((1 : Int32) = (0 : Int32)) := by decide
          refine own_at (fun t k => XS.ifNo X7.here hx rfl (hb hby at_154) rfl (Jvm.Free.XT.i0_eq_f hc154) k) ?_
          show own_Go p e below KK T7 (mkF m 157 #[.val (.int p1), .val (.int 0), .val (.int 1), .val (.int 1), .val (.int 0), .val (.int 4), .val (.int 0), .val (.int 0), .val (.int 1), .val (.int 0), .val (.int 15)] [(.int 0)])
          refine own_at (fun t k => XS.iload X7.here hx rfl (hb hby at_157) rfl k) ?_
          show own_Go p e below KK T7 (mkF m 159 #[.val (.int p1), .val (.int 0), .val (.int 1), .val (.int 1), .val (.int 0), .val (.int 4), .val (.int 0), .val (.int 0), .val (.int 1), .val (.int 0), .val (.int 15)] [(.int 0), (.int 0)])
          have hc159 : (0 : Int32) = (0 : Int32) := by decide
          refine own_at (fun t k => XS.ifYes X7.here hx rfl (pc0 := 159) (pc' := 166) rfl (hb hby at_159) rfl (Jvm.Free.XT.i0_eq_t hc159) (by decide) (by decide) k) ?_
          show own_Go p e below KK T7 (mkF m 166 #[.val (.int p1), .val (.int 0), .val (.int 1), .val (.int 1), .val (.int 0), .val (.int 4), .val (.int 0), .val (.int 0), .val (.int 1), .val (.int 0), .val (.int 15)] [(.int 0)])
          refine own_at (fun t k => XS.iconst X7.here hx rfl (hb hby at_166) k) ?_
          show own_Go p e below KK T7 (mkF m 167 #[.val (.int p1), .val (.int 0), .val (.int 1), .val (.int 1), .val (.int 0), .val (.int 4), .val (.int 0), .val (.int 0), .val (.int 1), .val (.int 0), .val (.int 15)] [(.int 0), (.int 0)])
          have hc167 : (0 : Int32) = (0 : Int32) := by decide
          refine own_at (fun t k => XS.icmpNo X7.here hx rfl (hb hby at_167) rfl (Jvm.Free.XT.ii_ne_f hc167) k) ?_
          show own_Go p e below KK T7 (mkF m 170 #[.val (.int p1), .val (.int 0), .val (.int 1), .val (.int 1), .val (.int 0), .val (.int 4), .val (.int 0), .val (.int 0), .val (.int 1), .val (.int 0), .val (.int 15)] [])
          refine own_at (fun t k => XS.iload X7.here hx rfl (hb hby at_170) rfl k) ?_
          show own_Go p e below KK T7 (mkF m 172 #[.val (.int p1), .val (.int 0), .val (.int 1), .val (.int 1), .val (.int 0), .val (.int 4), .val (.int 0), .val (.int 0), .val (.int 1), .val (.int 0), .val (.int 15)] [(.int 4)])
          refine own_at (fun t k => XS.iload X7.here hx rfl (hb hby at_172) rfl k) ?_
          show own_Go p e below KK T7 (mkF m 174 #[.val (.int p1), .val (.int 0), .val (.int 1), .val (.int 1), .val (.int 0), .val (.int 4), .val (.int 0), .val (.int 0), .val (.int 1), .val (.int 0), .val (.int 15)] [(.int 15), (.int 4)])
          refine own_at (fun t k => XS.iconst X7.here hx rfl (hb hby at_174) k) ?_
          show own_Go p e below KK T7 (mkF m 175 #[.val (.int p1), .val (.int 0), .val (.int 1), .val (.int 1), .val (.int 0), .val (.int 4), .val (.int 0), .val (.int 0), .val (.int 1), .val (.int 0), .val (.int 15)] [(.int (-1 : Int32)), (.int 15), (.int 4)])
          refine own_at (fun t k => XS.ixor X7.here hx rfl (hb hby at_175) rfl k) ?_
          show own_Go p e below KK T7 (mkF m 176 #[.val (.int p1), .val (.int 0), .val (.int 1), .val (.int 1), .val (.int 0), .val (.int 4), .val (.int 0), .val (.int 0), .val (.int 1), .val (.int 0), .val (.int 15)] [(.int ((15 : Int32) ^^^ (-1 : Int32))), (.int 4)])
          rw [show ((15 : Int32) ^^^ (-1 : Int32)) = (-16 : Int32) from by decide]
          show own_Go p e below KK T7 (mkF m 176 #[.val (.int p1), .val (.int 0), .val (.int 1), .val (.int 1), .val (.int 0), .val (.int 4), .val (.int 0), .val (.int 0), .val (.int 1), .val (.int 0), .val (.int 15)] [(.int (-16 : Int32)), (.int 4)])
          refine own_at (fun t k => XS.iand X7.here hx rfl (hb hby at_176) rfl k) ?_
          show own_Go p e below KK T7 (mkF m 177 #[.val (.int p1), .val (.int 0), .val (.int 1), .val (.int 1), .val (.int 0), .val (.int 4), .val (.int 0), .val (.int 0), .val (.int 1), .val (.int 0), .val (.int 15)] [(.int ((4 : Int32) &&& (-16 : Int32)))])
          rw [show ((4 : Int32) &&& (-16 : Int32)) = (0 : Int32) from by decide]
          show own_Go p e below KK T7 (mkF m 177 #[.val (.int p1), .val (.int 0), .val (.int 1), .val (.int 1), .val (.int 0), .val (.int 4), .val (.int 0), .val (.int 0), .val (.int 1), .val (.int 0), .val (.int 15)] [(.int 0)])
          have hc177 : (0 : Int32) = (0 : Int32) := by decide
          refine own_at (fun t k => XS.ifNo X7.here hx rfl (hb hby at_177) rfl (Jvm.Free.XT.i0_ne_f hc177) k) ?_
          show own_Go p e below KK T7 (mkF m 180 #[.val (.int p1), .val (.int 0), .val (.int 1), .val (.int 1), .val (.int 0), .val (.int 4), .val (.int 0), .val (.int 0), .val (.int 1), .val (.int 0), .val (.int 15)] [])
          refine own_at (fun t k => XS.iload X7.here hx rfl (hb hby at_180) rfl k) ?_
          show own_Go p e below KK T7 (mkF m 182 #[.val (.int p1), .val (.int 0), .val (.int 1), .val (.int 1), .val (.int 0), .val (.int 4), .val (.int 0), .val (.int 0), .val (.int 1), .val (.int 0), .val (.int 15)] [(.int 4)])
          have hc182 : ¬ ((4 : Int32) = (0 : Int32)) := by decide
          refine own_at (fun t k => XS.ifYes X7.here hx rfl (pc0 := 182) (pc' := 189) rfl (hb hby at_182) rfl (Jvm.Free.XT.i0_ne_t hc182) (by decide) (by decide) k) ?_
          show own_Go p e below KK T7 (mkF m 189 #[.val (.int p1), .val (.int 0), .val (.int 1), .val (.int 1), .val (.int 0), .val (.int 4), .val (.int 0), .val (.int 0), .val (.int 1), .val (.int 0), .val (.int 15)] [])
          refine own_at (fun t k => XS.iconst X7.here hx rfl (hb hby at_189) k) ?_
          show own_Go p e below KK T7 (mkF m 190 #[.val (.int p1), .val (.int 0), .val (.int 1), .val (.int 1), .val (.int 0), .val (.int 4), .val (.int 0), .val (.int 0), .val (.int 1), .val (.int 0), .val (.int 15)] [(.int 0)])
          refine own_at (fun t k => XS.iloadN X7.here hx rfl (hb hby at_190) rfl k) ?_
          show own_Go p e below KK T7 (mkF m 191 #[.val (.int p1), .val (.int 0), .val (.int 1), .val (.int 1), .val (.int 0), .val (.int 4), .val (.int 0), .val (.int 0), .val (.int 1), .val (.int 0), .val (.int 15)] [(.int 0), (.int 0)])
          have hc191 : (0 : Int32) = (0 : Int32) := by decide
          refine own_at (fun t k => XS.ifNo X7.here hx rfl (hb hby at_191) rfl (Jvm.Free.XT.i0_ne_f hc191) k) ?_
          show own_Go p e below KK T7 (mkF m 194 #[.val (.int p1), .val (.int 0), .val (.int 1), .val (.int 1), .val (.int 0), .val (.int 4), .val (.int 0), .val (.int 0), .val (.int 1), .val (.int 0), .val (.int 15)] [(.int 0)])
          refine own_at (fun t k => XS.iloadN X7.here hx rfl (hb hby at_194) rfl k) ?_
          show own_Go p e below KK T7 (mkF m 195 #[.val (.int p1), .val (.int 0), .val (.int 1), .val (.int 1), .val (.int 0), .val (.int 4), .val (.int 0), .val (.int 0), .val (.int 1), .val (.int 0), .val (.int 15)] [(.int 1), (.int 0)])
          have hc195 : ¬ ((1 : Int32) = (0 : Int32)) := by decide
          refine own_at (fun t k => XS.ifYes X7.here hx rfl (pc0 := 195) (pc' := 202) rfl (hb hby at_195) rfl (Jvm.Free.XT.i0_ne_t hc195) (by decide) (by decide) k) ?_
          show own_Go p e below KK T7 (mkF m 202 #[.val (.int p1), .val (.int 0), .val (.int 1), .val (.int 1), .val (.int 0), .val (.int 4), .val (.int 0), .val (.int 0), .val (.int 1), .val (.int 0), .val (.int 15)] [(.int 0)])
          refine own_at (fun t k => XS.iconst X7.here hx rfl (hb hby at_202) k) ?_
          show own_Go p e below KK T7 (mkF m 203 #[.val (.int p1), .val (.int 0), .val (.int 1), .val (.int 1), .val (.int 0), .val (.int 4), .val (.int 0), .val (.int 0), .val (.int 1), .val (.int 0), .val (.int 15)] [(.int 0), (.int 0)])
          have hc203 : (0 : Int32) = (0 : Int32) := by decide
          refine own_at (fun t k => XS.icmpNo X7.here hx rfl (hb hby at_203) rfl (Jvm.Free.XT.ii_ne_f hc203) k) ?_
          show own_Go p e below KK T7 (mkF m 206 #[.val (.int p1), .val (.int 0), .val (.int 1), .val (.int 1), .val (.int 0), .val (.int 4), .val (.int 0), .val (.int 0), .val (.int 1), .val (.int 0), .val (.int 15)] [])
          refine own_at (fun t k => XS.iconst X7.here hx rfl (hb hby at_206) k) ?_
          show own_Go p e below KK T7 (mkF m 207 #[.val (.int p1), .val (.int 0), .val (.int 1), .val (.int 1), .val (.int 0), .val (.int 4), .val (.int 0), .val (.int 0), .val (.int 1), .val (.int 0), .val (.int 15)] [(.int 1)])
          refine own_at (fun t k => XS.goto X7.here hx rfl (pc0 := 207) (pc' := 211) rfl (hb hby at_207) (by decide) (by decide) k) ?_
          show own_Go p e below KK T7 (mkF m 211 #[.val (.int p1), .val (.int 0), .val (.int 1), .val (.int 1), .val (.int 0), .val (.int 4), .val (.int 0), .val (.int 0), .val (.int 1), .val (.int 0), .val (.int 15)] [(.int 1)])
          subst hKK
          exact own_retN X7 hx hlk (t := .boolean) Bd.returns (by simp) (hb hby at_211) (w := (1 : Int32)) (show nar .boolean (1 : Int32) = 1 from by decide) ⟨rfl, N7⟩ (Nat.le_of_ble_eq_true rfl) (Nat.le_of_ble_eq_true rfl)
        · refine own_at (fun t k => XS.ifNo X0.here hx rfl (hb hby at_40) rfl (Jvm.Free.XT.i0_eq_f hc40) k) ?_
          show own_Go p e below KK s₁ (mkF m 43 #[.val (.int p1), .val (.int 0), .val (.int 1), .val (.int 1), .unset, .unset, .unset, .unset, .unset, .unset, .unset] [])
          refine own_at (fun t k => XS.iconst X0.here hx rfl (hb hby at_43) k) ?_
          show own_Go p e below KK s₁ (mkF m 44 #[.val (.int p1), .val (.int 0), .val (.int 1), .val (.int 1), .unset, .unset, .unset, .unset, .unset, .unset, .unset] [(.int 1)])
          refine own_at (fun t k => XS.goto X0.here hx rfl (pc0 := 44) (pc' := 48) rfl (hb hby at_44) (by decide) (by decide) k) ?_
          show own_Go p e below KK s₁ (mkF m 48 #[.val (.int p1), .val (.int 0), .val (.int 1), .val (.int 1), .unset, .unset, .unset, .unset, .unset, .unset, .unset] [(.int 1)])
          refine own_at (fun t k => XS.istore X0.here hx rfl (hb hby at_48) rfl (l' := #[.val (.int p1), .val (.int 0), .val (.int 1), .val (.int 1), .val (.int 1), .unset, .unset, .unset, .unset, .unset, .unset]) rfl k) ?_
          show own_Go p e below KK s₁ (mkF m 50 #[.val (.int p1), .val (.int 0), .val (.int 1), .val (.int 1), .val (.int 1), .unset, .unset, .unset, .unset, .unset, .unset] [])
          refine own_at (fun t k => XS.iloadN X0.here hx rfl (hb hby at_50) rfl k) ?_
          show own_Go p e below KK s₁ (mkF m 51 #[.val (.int p1), .val (.int 0), .val (.int 1), .val (.int 1), .val (.int 1), .unset, .unset, .unset, .unset, .unset, .unset] [(.int 0)])
          refine own_at (fun t k => XS.iloadN X0.here hx rfl (hb hby at_51) rfl k) ?_
          show own_Go p e below KK s₁ (mkF m 52 #[.val (.int p1), .val (.int 0), .val (.int 1), .val (.int 1), .val (.int 1), .unset, .unset, .unset, .unset, .unset, .unset] [(.int 1), (.int 0)])
          refine own_at (fun t k => XS.iloadN X0.here hx rfl (hb hby at_52) rfl k) ?_
          show own_Go p e below KK s₁ (mkF m 53 #[.val (.int p1), .val (.int 0), .val (.int 1), .val (.int 1), .val (.int 1), .unset, .unset, .unset, .unset, .unset, .unset] [(.int 1), (.int 1), (.int 0)])
          refine own_at (fun t k => XS.iload X0.here hx rfl (hb hby at_53) rfl k) ?_
          show own_Go p e below KK s₁ (mkF m 55 #[.val (.int p1), .val (.int 0), .val (.int 1), .val (.int 1), .val (.int 1), .unset, .unset, .unset, .unset, .unset, .unset] [(.int 1), (.int 1), (.int 1), (.int 0)])
          obtain ⟨_, _, ⟨T8, L8, k8, n8⟩, -, X8, ⟨Lc8, hQ8, l8, y8, z8⟩, st8⟩ := Jvm.LawKit.callS X0 hx (y := (⟨"com/example/oyster/oyster/core/form/NamedTest", "ends", "(ZZZZ)I"⟩ : MethodName)) hown (mvT hZ (hw _ (List.mem_of_getElem? (i := 0) rfl))) (mvT hZ (hw _ (List.mem_of_getElem? (i := 1) rfl))) (mvT hZ (hw _ (List.mem_of_getElem? (i := 2) rfl))) (mvT hZ (hw _ (List.mem_of_getElem? (i := 3) rfl))) (by decide) (backOf (W := 0) (rm_prog_119_2 l Z a0 hw [] (0 : Int32) (1 : Int32) (1 : Int32) (1 : Int32)  h0 n0 Z0 ) hZ (hw _ (List.mem_of_getElem? (i := 3) rfl)) (hw _ (List.mem_of_getElem? (i := 2) rfl)) (by decide) (by decide)) (g := (mkF m 55 #[.val (.int p1), .val (.int 0), .val (.int 1), .val (.int 1), .val (.int 1), .unset, .unset, .unset, .unset, .unset, .unset] [(.int 1), (.int 1), (.int 1), (.int 0)])) rfl (by rw [hml]; rfl) (argsL := [(.int 0), (.int 1), (.int 1), (.int 1)]) (rest := []) (lenOf pd__ZZZZ_I rfl) rfl (by show 2 * 0 + _ ≤ _; exact Nat.le_of_eq rfl) (hb hby at_55) (fun _ _ => ⟨rfl, e0, (by decide : 0 + 0 ≤ _), (by decide : 0 + 0 ≤ _)⟩)
          dsimp only [Pt.U, Pt.locs, Pt.cells, Pt.slots] at X8 l8 y8 z8 st8 hQ8
          subst l8 y8 z8
          obtain ⟨rfl, N8q, e8⟩ := hQ8
          rw [show (own_F_prog_119_2 (0 : Int32) (1 : Int32) (1 : Int32) (1 : Int32)) = (12 : Int32) from by decide] at st8
          have N8 := Fr.app N0 N8q
          refine own_of (fun t k => st8 t k) ?_
          show own_Go p e below KK T8 (mkF m 58 #[.val (.int p1), .val (.int 0), .val (.int 1), .val (.int 1), .val (.int 1), .unset, .unset, .unset, .unset, .unset, .unset] [(.int 12)])
          refine own_at (fun t k => XS.istore X8.here hx rfl (hb hby at_58) rfl (l' := #[.val (.int p1), .val (.int 0), .val (.int 1), .val (.int 1), .val (.int 1), .val (.int 12), .unset, .unset, .unset, .unset, .unset]) rfl k) ?_
          show own_Go p e below KK T8 (mkF m 60 #[.val (.int p1), .val (.int 0), .val (.int 1), .val (.int 1), .val (.int 1), .val (.int 12), .unset, .unset, .unset, .unset, .unset] [])
          refine own_at (fun t k => XS.iload X8.here hx rfl (hb hby at_60) rfl k) ?_
          show own_Go p e below KK T8 (mkF m 62 #[.val (.int p1), .val (.int 0), .val (.int 1), .val (.int 1), .val (.int 1), .val (.int 12), .unset, .unset, .unset, .unset, .unset] [(.int 12)])
          refine own_at (fun t k => XS.iconst X8.here hx rfl (hb hby at_62) k) ?_
          show own_Go p e below KK T8 (mkF m 63 #[.val (.int p1), .val (.int 0), .val (.int 1), .val (.int 1), .val (.int 1), .val (.int 12), .unset, .unset, .unset, .unset, .unset] [(.int 1), (.int 12)])
          refine own_at (fun t k => XS.iand X8.here hx rfl (hb hby at_63) rfl k) ?_
          show own_Go p e below KK T8 (mkF m 64 #[.val (.int p1), .val (.int 0), .val (.int 1), .val (.int 1), .val (.int 1), .val (.int 12), .unset, .unset, .unset, .unset, .unset] [(.int ((12 : Int32) &&& (1 : Int32)))])
          rw [show ((12 : Int32) &&& (1 : Int32)) = (0 : Int32) from by decide]
          show own_Go p e below KK T8 (mkF m 64 #[.val (.int p1), .val (.int 0), .val (.int 1), .val (.int 1), .val (.int 1), .val (.int 12), .unset, .unset, .unset, .unset, .unset] [(.int 0)])
          have hc64 : (0 : Int32) = (0 : Int32) := by decide
          refine own_at (fun t k => XS.ifYes X8.here hx rfl (pc0 := 64) (pc' := 71) rfl (hb hby at_64) rfl (Jvm.Free.XT.i0_eq_t hc64) (by decide) (by decide) k) ?_
          show own_Go p e below KK T8 (mkF m 71 #[.val (.int p1), .val (.int 0), .val (.int 1), .val (.int 1), .val (.int 1), .val (.int 12), .unset, .unset, .unset, .unset, .unset] [])
          refine own_at (fun t k => XS.iconst X8.here hx rfl (hb hby at_71) k) ?_
          show own_Go p e below KK T8 (mkF m 72 #[.val (.int p1), .val (.int 0), .val (.int 1), .val (.int 1), .val (.int 1), .val (.int 12), .unset, .unset, .unset, .unset, .unset] [(.int 0)])
          refine own_at (fun t k => XS.istore X8.here hx rfl (hb hby at_72) rfl (l' := #[.val (.int p1), .val (.int 0), .val (.int 1), .val (.int 1), .val (.int 1), .val (.int 12), .val (.int 0), .unset, .unset, .unset, .unset]) rfl k) ?_
          show own_Go p e below KK T8 (mkF m 74 #[.val (.int p1), .val (.int 0), .val (.int 1), .val (.int 1), .val (.int 1), .val (.int 12), .val (.int 0), .unset, .unset, .unset, .unset] [])
          refine own_at (fun t k => XS.iload X8.here hx rfl (hb hby at_74) rfl k) ?_
          show own_Go p e below KK T8 (mkF m 76 #[.val (.int p1), .val (.int 0), .val (.int 1), .val (.int 1), .val (.int 1), .val (.int 12), .val (.int 0), .unset, .unset, .unset, .unset] [(.int 12)])
          refine own_at (fun t k => XS.iconst X8.here hx rfl (hb hby at_76) k) ?_
          show own_Go p e below KK T8 (mkF m 77 #[.val (.int p1), .val (.int 0), .val (.int 1), .val (.int 1), .val (.int 1), .val (.int 12), .val (.int 0), .unset, .unset, .unset, .unset] [(.int 2), (.int 12)])
          refine own_at (fun t k => XS.iand X8.here hx rfl (hb hby at_77) rfl k) ?_
          show own_Go p e below KK T8 (mkF m 78 #[.val (.int p1), .val (.int 0), .val (.int 1), .val (.int 1), .val (.int 1), .val (.int 12), .val (.int 0), .unset, .unset, .unset, .unset] [(.int ((12 : Int32) &&& (2 : Int32)))])
          rw [show ((12 : Int32) &&& (2 : Int32)) = (0 : Int32) from by decide]
          show own_Go p e below KK T8 (mkF m 78 #[.val (.int p1), .val (.int 0), .val (.int 1), .val (.int 1), .val (.int 1), .val (.int 12), .val (.int 0), .unset, .unset, .unset, .unset] [(.int 0)])
          have hc78 : (0 : Int32) = (0 : Int32) := by decide
          refine own_at (fun t k => XS.ifYes X8.here hx rfl (pc0 := 78) (pc' := 85) rfl (hb hby at_78) rfl (Jvm.Free.XT.i0_eq_t hc78) (by decide) (by decide) k) ?_
          show own_Go p e below KK T8 (mkF m 85 #[.val (.int p1), .val (.int 0), .val (.int 1), .val (.int 1), .val (.int 1), .val (.int 12), .val (.int 0), .unset, .unset, .unset, .unset] [])
          refine own_at (fun t k => XS.iconst X8.here hx rfl (hb hby at_85) k) ?_
          show own_Go p e below KK T8 (mkF m 86 #[.val (.int p1), .val (.int 0), .val (.int 1), .val (.int 1), .val (.int 1), .val (.int 12), .val (.int 0), .unset, .unset, .unset, .unset] [(.int 0)])
          refine own_at (fun t k => XS.istore X8.here hx rfl (hb hby at_86) rfl (l' := #[.val (.int p1), .val (.int 0), .val (.int 1), .val (.int 1), .val (.int 1), .val (.int 12), .val (.int 0), .val (.int 0), .unset, .unset, .unset]) rfl k) ?_
          show own_Go p e below KK T8 (mkF m 88 #[.val (.int p1), .val (.int 0), .val (.int 1), .val (.int 1), .val (.int 1), .val (.int 12), .val (.int 0), .val (.int 0), .unset, .unset, .unset] [])
          refine own_at (fun t k => XS.iload X8.here hx rfl (hb hby at_88) rfl k) ?_
          show own_Go p e below KK T8 (mkF m 90 #[.val (.int p1), .val (.int 0), .val (.int 1), .val (.int 1), .val (.int 1), .val (.int 12), .val (.int 0), .val (.int 0), .unset, .unset, .unset] [(.int 12)])
          refine own_at (fun t k => XS.iconst X8.here hx rfl (hb hby at_90) k) ?_
          show own_Go p e below KK T8 (mkF m 91 #[.val (.int p1), .val (.int 0), .val (.int 1), .val (.int 1), .val (.int 1), .val (.int 12), .val (.int 0), .val (.int 0), .unset, .unset, .unset] [(.int 4), (.int 12)])
          refine own_at (fun t k => XS.iand X8.here hx rfl (hb hby at_91) rfl k) ?_
          show own_Go p e below KK T8 (mkF m 92 #[.val (.int p1), .val (.int 0), .val (.int 1), .val (.int 1), .val (.int 1), .val (.int 12), .val (.int 0), .val (.int 0), .unset, .unset, .unset] [(.int ((12 : Int32) &&& (4 : Int32)))])
          rw [show ((12 : Int32) &&& (4 : Int32)) = (4 : Int32) from by decide]
          show own_Go p e below KK T8 (mkF m 92 #[.val (.int p1), .val (.int 0), .val (.int 1), .val (.int 1), .val (.int 1), .val (.int 12), .val (.int 0), .val (.int 0), .unset, .unset, .unset] [(.int 4)])
          have hc92 : ¬ ((4 : Int32) = (0 : Int32)) := by decide
          refine own_at (fun t k => XS.ifNo X8.here hx rfl (hb hby at_92) rfl (Jvm.Free.XT.i0_eq_f hc92) k) ?_
          show own_Go p e below KK T8 (mkF m 95 #[.val (.int p1), .val (.int 0), .val (.int 1), .val (.int 1), .val (.int 1), .val (.int 12), .val (.int 0), .val (.int 0), .unset, .unset, .unset] [])
          refine own_at (fun t k => XS.iconst X8.here hx rfl (hb hby at_95) k) ?_
          show own_Go p e below KK T8 (mkF m 96 #[.val (.int p1), .val (.int 0), .val (.int 1), .val (.int 1), .val (.int 1), .val (.int 12), .val (.int 0), .val (.int 0), .unset, .unset, .unset] [(.int 1)])
          refine own_at (fun t k => XS.goto X8.here hx rfl (pc0 := 96) (pc' := 100) rfl (hb hby at_96) (by decide) (by decide) k) ?_
          show own_Go p e below KK T8 (mkF m 100 #[.val (.int p1), .val (.int 0), .val (.int 1), .val (.int 1), .val (.int 1), .val (.int 12), .val (.int 0), .val (.int 0), .unset, .unset, .unset] [(.int 1)])
          refine own_at (fun t k => XS.istore X8.here hx rfl (hb hby at_100) rfl (l' := #[.val (.int p1), .val (.int 0), .val (.int 1), .val (.int 1), .val (.int 1), .val (.int 12), .val (.int 0), .val (.int 0), .val (.int 1), .unset, .unset]) rfl k) ?_
          show own_Go p e below KK T8 (mkF m 102 #[.val (.int p1), .val (.int 0), .val (.int 1), .val (.int 1), .val (.int 1), .val (.int 12), .val (.int 0), .val (.int 0), .val (.int 1), .unset, .unset] [])
          refine own_at (fun t k => XS.iload X8.here hx rfl (hb hby at_102) rfl k) ?_
          show own_Go p e below KK T8 (mkF m 104 #[.val (.int p1), .val (.int 0), .val (.int 1), .val (.int 1), .val (.int 1), .val (.int 12), .val (.int 0), .val (.int 0), .val (.int 1), .unset, .unset] [(.int 12)])
          refine own_at (fun t k => XS.bipush X8.here hx rfl (hb hby at_104) k) ?_
          show own_Go p e below KK T8 (mkF m 106 #[.val (.int p1), .val (.int 0), .val (.int 1), .val (.int 1), .val (.int 1), .val (.int 12), .val (.int 0), .val (.int 0), .val (.int 1), .unset, .unset] [(.int 8), (.int 12)])
          refine own_at (fun t k => XS.iand X8.here hx rfl (hb hby at_106) rfl k) ?_
          show own_Go p e below KK T8 (mkF m 107 #[.val (.int p1), .val (.int 0), .val (.int 1), .val (.int 1), .val (.int 1), .val (.int 12), .val (.int 0), .val (.int 0), .val (.int 1), .unset, .unset] [(.int ((12 : Int32) &&& (8 : Int32)))])
          rw [show ((12 : Int32) &&& (8 : Int32)) = (8 : Int32) from by decide]
          show own_Go p e below KK T8 (mkF m 107 #[.val (.int p1), .val (.int 0), .val (.int 1), .val (.int 1), .val (.int 1), .val (.int 12), .val (.int 0), .val (.int 0), .val (.int 1), .unset, .unset] [(.int 8)])
          have hc107 : ¬ ((8 : Int32) = (0 : Int32)) := by decide
          refine own_at (fun t k => XS.ifNo X8.here hx rfl (hb hby at_107) rfl (Jvm.Free.XT.i0_eq_f hc107) k) ?_
          show own_Go p e below KK T8 (mkF m 110 #[.val (.int p1), .val (.int 0), .val (.int 1), .val (.int 1), .val (.int 1), .val (.int 12), .val (.int 0), .val (.int 0), .val (.int 1), .unset, .unset] [])
          refine own_at (fun t k => XS.iconst X8.here hx rfl (hb hby at_110) k) ?_
          show own_Go p e below KK T8 (mkF m 111 #[.val (.int p1), .val (.int 0), .val (.int 1), .val (.int 1), .val (.int 1), .val (.int 12), .val (.int 0), .val (.int 0), .val (.int 1), .unset, .unset] [(.int 1)])
          refine own_at (fun t k => XS.goto X8.here hx rfl (pc0 := 111) (pc' := 115) rfl (hb hby at_111) (by decide) (by decide) k) ?_
          show own_Go p e below KK T8 (mkF m 115 #[.val (.int p1), .val (.int 0), .val (.int 1), .val (.int 1), .val (.int 1), .val (.int 12), .val (.int 0), .val (.int 0), .val (.int 1), .unset, .unset] [(.int 1)])
          refine own_at (fun t k => XS.istore X8.here hx rfl (hb hby at_115) rfl (l' := #[.val (.int p1), .val (.int 0), .val (.int 1), .val (.int 1), .val (.int 1), .val (.int 12), .val (.int 0), .val (.int 0), .val (.int 1), .val (.int 1), .unset]) rfl k) ?_
          show own_Go p e below KK T8 (mkF m 117 #[.val (.int p1), .val (.int 0), .val (.int 1), .val (.int 1), .val (.int 1), .val (.int 12), .val (.int 0), .val (.int 0), .val (.int 1), .val (.int 1), .unset] [])
          refine own_at (fun t k => XS.bipush X8.here hx rfl (hb hby at_117) k) ?_
          show own_Go p e below KK T8 (mkF m 119 #[.val (.int p1), .val (.int 0), .val (.int 1), .val (.int 1), .val (.int 1), .val (.int 12), .val (.int 0), .val (.int 0), .val (.int 1), .val (.int 1), .unset] [(.int 15)])
          refine own_at (fun t k => XS.istore X8.here hx rfl (hb hby at_119) rfl (l' := #[.val (.int p1), .val (.int 0), .val (.int 1), .val (.int 1), .val (.int 1), .val (.int 12), .val (.int 0), .val (.int 0), .val (.int 1), .val (.int 1), .val (.int 15)]) rfl k) ?_
          show own_Go p e below KK T8 (mkF m 121 #[.val (.int p1), .val (.int 0), .val (.int 1), .val (.int 1), .val (.int 1), .val (.int 12), .val (.int 0), .val (.int 0), .val (.int 1), .val (.int 1), .val (.int 15)] [])
          refine own_at (fun t k => XS.iload X8.here hx rfl (hb hby at_121) rfl k) ?_
          show own_Go p e below KK T8 (mkF m 123 #[.val (.int p1), .val (.int 0), .val (.int 1), .val (.int 1), .val (.int 1), .val (.int 12), .val (.int 0), .val (.int 0), .val (.int 1), .val (.int 1), .val (.int 15)] [(.int 0)])
          refine own_at (fun t k => XS.iloadN X8.here hx rfl (hb hby at_123) rfl k) ?_
          show own_Go p e below KK T8 (mkF m 124 #[.val (.int p1), .val (.int 0), .val (.int 1), .val (.int 1), .val (.int 1), .val (.int 12), .val (.int 0), .val (.int 0), .val (.int 1), .val (.int 1), .val (.int 15)] [(.int 0), (.int 0)])
          have hc124 : (0 : Int32) = (0 : Int32) := by decide
          refine own_at (fun t k => XS.icmpNo X8.here hx rfl (hb hby at_124) rfl (Jvm.Free.XT.ii_ne_f hc124) k) ?_
          show own_Go p e below KK T8 (mkF m 127 #[.val (.int p1), .val (.int 0), .val (.int 1), .val (.int 1), .val (.int 1), .val (.int 12), .val (.int 0), .val (.int 0), .val (.int 1), .val (.int 1), .val (.int 15)] [])
          refine own_at (fun t k => XS.iload X8.here hx rfl (hb hby at_127) rfl k) ?_
          show own_Go p e below KK T8 (mkF m 129 #[.val (.int p1), .val (.int 0), .val (.int 1), .val (.int 1), .val (.int 1), .val (.int 12), .val (.int 0), .val (.int 0), .val (.int 1), .val (.int 1), .val (.int 15)] [(.int 0)])
          refine own_at (fun t k => XS.iloadN X8.here hx rfl (hb hby at_129) rfl k) ?_
          show own_Go p e below KK T8 (mkF m 130 #[.val (.int p1), .val (.int 0), .val (.int 1), .val (.int 1), .val (.int 1), .val (.int 12), .val (.int 0), .val (.int 0), .val (.int 1), .val (.int 1), .val (.int 15)] [(.int 0), (.int 0)])
          have hc130 : (0 : Int32) = (0 : Int32) := by decide
          refine own_at (fun t k => XS.ifYes X8.here hx rfl (pc0 := 130) (pc' := 141) rfl (hb hby at_130) rfl (Jvm.Free.XT.i0_eq_t hc130) (by decide) (by decide) k) ?_
          show own_Go p e below KK T8 (mkF m 141 #[.val (.int p1), .val (.int 0), .val (.int 1), .val (.int 1), .val (.int 1), .val (.int 12), .val (.int 0), .val (.int 0), .val (.int 1), .val (.int 1), .val (.int 15)] [(.int 0)])
          refine own_at (fun t k => XS.iconst X8.here hx rfl (hb hby at_141) k) ?_
          show own_Go p e below KK T8 (mkF m 142 #[.val (.int p1), .val (.int 0), .val (.int 1), .val (.int 1), .val (.int 1), .val (.int 12), .val (.int 0), .val (.int 0), .val (.int 1), .val (.int 1), .val (.int 15)] [(.int 0), (.int 0)])
          have hc142 : (0 : Int32) = (0 : Int32) := by decide
          refine own_at (fun t k => XS.icmpNo X8.here hx rfl (hb hby at_142) rfl (Jvm.Free.XT.ii_ne_f hc142) k) ?_
          show own_Go p e below KK T8 (mkF m 145 #[.val (.int p1), .val (.int 0), .val (.int 1), .val (.int 1), .val (.int 1), .val (.int 12), .val (.int 0), .val (.int 0), .val (.int 1), .val (.int 1), .val (.int 15)] [])
          refine own_at (fun t k => XS.iload X8.here hx rfl (hb hby at_145) rfl k) ?_
          show own_Go p e below KK T8 (mkF m 147 #[.val (.int p1), .val (.int 0), .val (.int 1), .val (.int 1), .val (.int 1), .val (.int 12), .val (.int 0), .val (.int 0), .val (.int 1), .val (.int 1), .val (.int 15)] [(.int 1)])
          refine own_at (fun t k => XS.iloadN X8.here hx rfl (hb hby at_147) rfl k) ?_
          show own_Go p e below KK T8 (mkF m 148 #[.val (.int p1), .val (.int 0), .val (.int 1), .val (.int 1), .val (.int 1), .val (.int 12), .val (.int 0), .val (.int 0), .val (.int 1), .val (.int 1), .val (.int 15)] [(.int 1), (.int 1)])
          have hc148 : (1 : Int32) = (1 : Int32) := by decide
          refine own_at (fun t k => XS.icmpNo X8.here hx rfl (hb hby at_148) rfl (Jvm.Free.XT.ii_ne_f hc148) k) ?_
          show own_Go p e below KK T8 (mkF m 151 #[.val (.int p1), .val (.int 0), .val (.int 1), .val (.int 1), .val (.int 1), .val (.int 12), .val (.int 0), .val (.int 0), .val (.int 1), .val (.int 1), .val (.int 15)] [])
          refine own_at (fun t k => XS.iload X8.here hx rfl (hb hby at_151) rfl k) ?_
          show own_Go p e below KK T8 (mkF m 153 #[.val (.int p1), .val (.int 0), .val (.int 1), .val (.int 1), .val (.int 1), .val (.int 12), .val (.int 0), .val (.int 0), .val (.int 1), .val (.int 1), .val (.int 15)] [(.int 1)])
          refine own_at (fun t k => XS.iloadN X8.here hx rfl (hb hby at_153) rfl k) ?_
          show own_Go p e below KK T8 (mkF m 154 #[.val (.int p1), .val (.int 0), .val (.int 1), .val (.int 1), .val (.int 1), .val (.int 12), .val (.int 0), .val (.int 0), .val (.int 1), .val (.int 1), .val (.int 15)] [(.int 1), (.int 1)])
          have hc154 : ¬ ((1 : Int32) = (0 : Int32)) := by decide
          refine own_at (fun t k => XS.ifNo X8.here hx rfl (hb hby at_154) rfl (Jvm.Free.XT.i0_eq_f hc154) k) ?_
          show own_Go p e below KK T8 (mkF m 157 #[.val (.int p1), .val (.int 0), .val (.int 1), .val (.int 1), .val (.int 1), .val (.int 12), .val (.int 0), .val (.int 0), .val (.int 1), .val (.int 1), .val (.int 15)] [(.int 1)])
          refine own_at (fun t k => XS.iload X8.here hx rfl (hb hby at_157) rfl k) ?_
          show own_Go p e below KK T8 (mkF m 159 #[.val (.int p1), .val (.int 0), .val (.int 1), .val (.int 1), .val (.int 1), .val (.int 12), .val (.int 0), .val (.int 0), .val (.int 1), .val (.int 1), .val (.int 15)] [(.int 1), (.int 1)])
          have hc159 : ¬ ((1 : Int32) = (0 : Int32)) := by decide
          refine own_at (fun t k => XS.ifNo X8.here hx rfl (hb hby at_159) rfl (Jvm.Free.XT.i0_eq_f hc159) k) ?_
          show own_Go p e below KK T8 (mkF m 162 #[.val (.int p1), .val (.int 0), .val (.int 1), .val (.int 1), .val (.int 1), .val (.int 12), .val (.int 0), .val (.int 0), .val (.int 1), .val (.int 1), .val (.int 15)] [(.int 1)])
          refine own_at (fun t k => XS.iconst X8.here hx rfl (hb hby at_162) k) ?_
          show own_Go p e below KK T8 (mkF m 163 #[.val (.int p1), .val (.int 0), .val (.int 1), .val (.int 1), .val (.int 1), .val (.int 12), .val (.int 0), .val (.int 0), .val (.int 1), .val (.int 1), .val (.int 15)] [(.int 1), (.int 1)])
          refine own_at (fun t k => XS.goto X8.here hx rfl (pc0 := 163) (pc' := 167) rfl (hb hby at_163) (by decide) (by decide) k) ?_
          show own_Go p e below KK T8 (mkF m 167 #[.val (.int p1), .val (.int 0), .val (.int 1), .val (.int 1), .val (.int 1), .val (.int 12), .val (.int 0), .val (.int 0), .val (.int 1), .val (.int 1), .val (.int 15)] [(.int 1), (.int 1)])
          have hc167 : (1 : Int32) = (1 : Int32) := by decide
          refine own_at (fun t k => XS.icmpNo X8.here hx rfl (hb hby at_167) rfl (Jvm.Free.XT.ii_ne_f hc167) k) ?_
          show own_Go p e below KK T8 (mkF m 170 #[.val (.int p1), .val (.int 0), .val (.int 1), .val (.int 1), .val (.int 1), .val (.int 12), .val (.int 0), .val (.int 0), .val (.int 1), .val (.int 1), .val (.int 15)] [])
          refine own_at (fun t k => XS.iload X8.here hx rfl (hb hby at_170) rfl k) ?_
          show own_Go p e below KK T8 (mkF m 172 #[.val (.int p1), .val (.int 0), .val (.int 1), .val (.int 1), .val (.int 1), .val (.int 12), .val (.int 0), .val (.int 0), .val (.int 1), .val (.int 1), .val (.int 15)] [(.int 12)])
          refine own_at (fun t k => XS.iload X8.here hx rfl (hb hby at_172) rfl k) ?_
          show own_Go p e below KK T8 (mkF m 174 #[.val (.int p1), .val (.int 0), .val (.int 1), .val (.int 1), .val (.int 1), .val (.int 12), .val (.int 0), .val (.int 0), .val (.int 1), .val (.int 1), .val (.int 15)] [(.int 15), (.int 12)])
          refine own_at (fun t k => XS.iconst X8.here hx rfl (hb hby at_174) k) ?_
          show own_Go p e below KK T8 (mkF m 175 #[.val (.int p1), .val (.int 0), .val (.int 1), .val (.int 1), .val (.int 1), .val (.int 12), .val (.int 0), .val (.int 0), .val (.int 1), .val (.int 1), .val (.int 15)] [(.int (-1 : Int32)), (.int 15), (.int 12)])
          refine own_at (fun t k => XS.ixor X8.here hx rfl (hb hby at_175) rfl k) ?_
          show own_Go p e below KK T8 (mkF m 176 #[.val (.int p1), .val (.int 0), .val (.int 1), .val (.int 1), .val (.int 1), .val (.int 12), .val (.int 0), .val (.int 0), .val (.int 1), .val (.int 1), .val (.int 15)] [(.int ((15 : Int32) ^^^ (-1 : Int32))), (.int 12)])
          rw [show ((15 : Int32) ^^^ (-1 : Int32)) = (-16 : Int32) from by decide]
          show own_Go p e below KK T8 (mkF m 176 #[.val (.int p1), .val (.int 0), .val (.int 1), .val (.int 1), .val (.int 1), .val (.int 12), .val (.int 0), .val (.int 0), .val (.int 1), .val (.int 1), .val (.int 15)] [(.int (-16 : Int32)), (.int 12)])
          refine own_at (fun t k => XS.iand X8.here hx rfl (hb hby at_176) rfl k) ?_
          show own_Go p e below KK T8 (mkF m 177 #[.val (.int p1), .val (.int 0), .val (.int 1), .val (.int 1), .val (.int 1), .val (.int 12), .val (.int 0), .val (.int 0), .val (.int 1), .val (.int 1), .val (.int 15)] [(.int ((12 : Int32) &&& (-16 : Int32)))])
          rw [show ((12 : Int32) &&& (-16 : Int32)) = (0 : Int32) from by decide]
          show own_Go p e below KK T8 (mkF m 177 #[.val (.int p1), .val (.int 0), .val (.int 1), .val (.int 1), .val (.int 1), .val (.int 12), .val (.int 0), .val (.int 0), .val (.int 1), .val (.int 1), .val (.int 15)] [(.int 0)])
          have hc177 : (0 : Int32) = (0 : Int32) := by decide
          refine own_at (fun t k => XS.ifNo X8.here hx rfl (hb hby at_177) rfl (Jvm.Free.XT.i0_ne_f hc177) k) ?_
          show own_Go p e below KK T8 (mkF m 180 #[.val (.int p1), .val (.int 0), .val (.int 1), .val (.int 1), .val (.int 1), .val (.int 12), .val (.int 0), .val (.int 0), .val (.int 1), .val (.int 1), .val (.int 15)] [])
          refine own_at (fun t k => XS.iload X8.here hx rfl (hb hby at_180) rfl k) ?_
          show own_Go p e below KK T8 (mkF m 182 #[.val (.int p1), .val (.int 0), .val (.int 1), .val (.int 1), .val (.int 1), .val (.int 12), .val (.int 0), .val (.int 0), .val (.int 1), .val (.int 1), .val (.int 15)] [(.int 12)])
          have hc182 : ¬ ((12 : Int32) = (0 : Int32)) := by decide
          refine own_at (fun t k => XS.ifYes X8.here hx rfl (pc0 := 182) (pc' := 189) rfl (hb hby at_182) rfl (Jvm.Free.XT.i0_ne_t hc182) (by decide) (by decide) k) ?_
          show own_Go p e below KK T8 (mkF m 189 #[.val (.int p1), .val (.int 0), .val (.int 1), .val (.int 1), .val (.int 1), .val (.int 12), .val (.int 0), .val (.int 0), .val (.int 1), .val (.int 1), .val (.int 15)] [])
          refine own_at (fun t k => XS.iconst X8.here hx rfl (hb hby at_189) k) ?_
          show own_Go p e below KK T8 (mkF m 190 #[.val (.int p1), .val (.int 0), .val (.int 1), .val (.int 1), .val (.int 1), .val (.int 12), .val (.int 0), .val (.int 0), .val (.int 1), .val (.int 1), .val (.int 15)] [(.int 0)])
          refine own_at (fun t k => XS.iloadN X8.here hx rfl (hb hby at_190) rfl k) ?_
          show own_Go p e below KK T8 (mkF m 191 #[.val (.int p1), .val (.int 0), .val (.int 1), .val (.int 1), .val (.int 1), .val (.int 12), .val (.int 0), .val (.int 0), .val (.int 1), .val (.int 1), .val (.int 15)] [(.int 0), (.int 0)])
          have hc191 : (0 : Int32) = (0 : Int32) := by decide
          refine own_at (fun t k => XS.ifNo X8.here hx rfl (hb hby at_191) rfl (Jvm.Free.XT.i0_ne_f hc191) k) ?_
          show own_Go p e below KK T8 (mkF m 194 #[.val (.int p1), .val (.int 0), .val (.int 1), .val (.int 1), .val (.int 1), .val (.int 12), .val (.int 0), .val (.int 0), .val (.int 1), .val (.int 1), .val (.int 15)] [(.int 0)])
          refine own_at (fun t k => XS.iloadN X8.here hx rfl (hb hby at_194) rfl k) ?_
          show own_Go p e below KK T8 (mkF m 195 #[.val (.int p1), .val (.int 0), .val (.int 1), .val (.int 1), .val (.int 1), .val (.int 12), .val (.int 0), .val (.int 0), .val (.int 1), .val (.int 1), .val (.int 15)] [(.int 1), (.int 0)])
          have hc195 : ¬ ((1 : Int32) = (0 : Int32)) := by decide
          refine own_at (fun t k => XS.ifYes X8.here hx rfl (pc0 := 195) (pc' := 202) rfl (hb hby at_195) rfl (Jvm.Free.XT.i0_ne_t hc195) (by decide) (by decide) k) ?_
          show own_Go p e below KK T8 (mkF m 202 #[.val (.int p1), .val (.int 0), .val (.int 1), .val (.int 1), .val (.int 1), .val (.int 12), .val (.int 0), .val (.int 0), .val (.int 1), .val (.int 1), .val (.int 15)] [(.int 0)])
          refine own_at (fun t k => XS.iconst X8.here hx rfl (hb hby at_202) k) ?_
          show own_Go p e below KK T8 (mkF m 203 #[.val (.int p1), .val (.int 0), .val (.int 1), .val (.int 1), .val (.int 1), .val (.int 12), .val (.int 0), .val (.int 0), .val (.int 1), .val (.int 1), .val (.int 15)] [(.int 0), (.int 0)])
          have hc203 : (0 : Int32) = (0 : Int32) := by decide
          refine own_at (fun t k => XS.icmpNo X8.here hx rfl (hb hby at_203) rfl (Jvm.Free.XT.ii_ne_f hc203) k) ?_
          show own_Go p e below KK T8 (mkF m 206 #[.val (.int p1), .val (.int 0), .val (.int 1), .val (.int 1), .val (.int 1), .val (.int 12), .val (.int 0), .val (.int 0), .val (.int 1), .val (.int 1), .val (.int 15)] [])
          refine own_at (fun t k => XS.iconst X8.here hx rfl (hb hby at_206) k) ?_
          show own_Go p e below KK T8 (mkF m 207 #[.val (.int p1), .val (.int 0), .val (.int 1), .val (.int 1), .val (.int 1), .val (.int 12), .val (.int 0), .val (.int 0), .val (.int 1), .val (.int 1), .val (.int 15)] [(.int 1)])
          refine own_at (fun t k => XS.goto X8.here hx rfl (pc0 := 207) (pc' := 211) rfl (hb hby at_207) (by decide) (by decide) k) ?_
          show own_Go p e below KK T8 (mkF m 211 #[.val (.int p1), .val (.int 0), .val (.int 1), .val (.int 1), .val (.int 1), .val (.int 12), .val (.int 0), .val (.int 0), .val (.int 1), .val (.int 1), .val (.int 15)] [(.int 1)])
          subst hKK
          exact own_retN X8 hx hlk (t := .boolean) Bd.returns (by simp) (hb hby at_211) (w := (1 : Int32)) (show nar .boolean (1 : Int32) = 1 from by decide) ⟨rfl, N8⟩ (Nat.le_of_ble_eq_true rfl) (Nat.le_of_ble_eq_true rfl)
  · refine own_at (fun t k => XS.ifNo X0.here hx rfl (hb hby at_3) rfl (Jvm.Free.XT.i0_eq_f hc3) k) ?_
    show own_Go p e below KK s₁ (mkF m 6 #[.val (.int p1), .unset, .unset, .unset, .unset, .unset, .unset, .unset, .unset, .unset, .unset] [])
    refine own_at (fun t k => XS.iconst X0.here hx rfl (hb hby at_6) k) ?_
    show own_Go p e below KK s₁ (mkF m 7 #[.val (.int p1), .unset, .unset, .unset, .unset, .unset, .unset, .unset, .unset, .unset, .unset] [(.int 1)])
    refine own_at (fun t k => XS.goto X0.here hx rfl (pc0 := 7) (pc' := 11) rfl (hb hby at_7) (by decide) (by decide) k) ?_
    show own_Go p e below KK s₁ (mkF m 11 #[.val (.int p1), .unset, .unset, .unset, .unset, .unset, .unset, .unset, .unset, .unset, .unset] [(.int 1)])
    refine own_at (fun t k => XS.istoreN X0.here hx rfl (hb hby at_11) rfl (l' := #[.val (.int p1), .val (.int 1), .unset, .unset, .unset, .unset, .unset, .unset, .unset, .unset, .unset]) rfl k) ?_
    show own_Go p e below KK s₁ (mkF m 12 #[.val (.int p1), .val (.int 1), .unset, .unset, .unset, .unset, .unset, .unset, .unset, .unset, .unset] [])
    refine own_at (fun t k => XS.iloadN X0.here hx rfl (hb hby at_12) rfl k) ?_
    show own_Go p e below KK s₁ (mkF m 13 #[.val (.int p1), .val (.int 1), .unset, .unset, .unset, .unset, .unset, .unset, .unset, .unset, .unset] [(.int p1)])
    refine own_at (fun t k => XS.iconst X0.here hx rfl (hb hby at_13) k) ?_
    show own_Go p e below KK s₁ (mkF m 14 #[.val (.int p1), .val (.int 1), .unset, .unset, .unset, .unset, .unset, .unset, .unset, .unset, .unset] [(.int 2), (.int p1)])
    refine own_at (fun t k => XS.iand X0.here hx rfl (hb hby at_14) rfl k) ?_
    show own_Go p e below KK s₁ (mkF m 15 #[.val (.int p1), .val (.int 1), .unset, .unset, .unset, .unset, .unset, .unset, .unset, .unset, .unset] [(.int (p1 &&& (2 : Int32)))])
    by_cases hc15 : (p1 &&& (2 : Int32)) = (0 : Int32)
    · refine own_at (fun t k => XS.ifYes X0.here hx rfl (pc0 := 15) (pc' := 22) rfl (hb hby at_15) rfl (Jvm.Free.XT.i0_eq_t hc15) (by decide) (by decide) k) ?_
      show own_Go p e below KK s₁ (mkF m 22 #[.val (.int p1), .val (.int 1), .unset, .unset, .unset, .unset, .unset, .unset, .unset, .unset, .unset] [])
      refine own_at (fun t k => XS.iconst X0.here hx rfl (hb hby at_22) k) ?_
      show own_Go p e below KK s₁ (mkF m 23 #[.val (.int p1), .val (.int 1), .unset, .unset, .unset, .unset, .unset, .unset, .unset, .unset, .unset] [(.int 0)])
      refine own_at (fun t k => XS.istoreN X0.here hx rfl (hb hby at_23) rfl (l' := #[.val (.int p1), .val (.int 1), .val (.int 0), .unset, .unset, .unset, .unset, .unset, .unset, .unset, .unset]) rfl k) ?_
      show own_Go p e below KK s₁ (mkF m 24 #[.val (.int p1), .val (.int 1), .val (.int 0), .unset, .unset, .unset, .unset, .unset, .unset, .unset, .unset] [])
      refine own_at (fun t k => XS.iloadN X0.here hx rfl (hb hby at_24) rfl k) ?_
      show own_Go p e below KK s₁ (mkF m 25 #[.val (.int p1), .val (.int 1), .val (.int 0), .unset, .unset, .unset, .unset, .unset, .unset, .unset, .unset] [(.int p1)])
      refine own_at (fun t k => XS.iconst X0.here hx rfl (hb hby at_25) k) ?_
      show own_Go p e below KK s₁ (mkF m 26 #[.val (.int p1), .val (.int 1), .val (.int 0), .unset, .unset, .unset, .unset, .unset, .unset, .unset, .unset] [(.int 4), (.int p1)])
      refine own_at (fun t k => XS.iand X0.here hx rfl (hb hby at_26) rfl k) ?_
      show own_Go p e below KK s₁ (mkF m 27 #[.val (.int p1), .val (.int 1), .val (.int 0), .unset, .unset, .unset, .unset, .unset, .unset, .unset, .unset] [(.int (p1 &&& (4 : Int32)))])
      by_cases hc27 : (p1 &&& (4 : Int32)) = (0 : Int32)
      · refine own_at (fun t k => XS.ifYes X0.here hx rfl (pc0 := 27) (pc' := 34) rfl (hb hby at_27) rfl (Jvm.Free.XT.i0_eq_t hc27) (by decide) (by decide) k) ?_
        show own_Go p e below KK s₁ (mkF m 34 #[.val (.int p1), .val (.int 1), .val (.int 0), .unset, .unset, .unset, .unset, .unset, .unset, .unset, .unset] [])
        refine own_at (fun t k => XS.iconst X0.here hx rfl (hb hby at_34) k) ?_
        show own_Go p e below KK s₁ (mkF m 35 #[.val (.int p1), .val (.int 1), .val (.int 0), .unset, .unset, .unset, .unset, .unset, .unset, .unset, .unset] [(.int 0)])
        refine own_at (fun t k => XS.istoreN X0.here hx rfl (hb hby at_35) rfl (l' := #[.val (.int p1), .val (.int 1), .val (.int 0), .val (.int 0), .unset, .unset, .unset, .unset, .unset, .unset, .unset]) rfl k) ?_
        show own_Go p e below KK s₁ (mkF m 36 #[.val (.int p1), .val (.int 1), .val (.int 0), .val (.int 0), .unset, .unset, .unset, .unset, .unset, .unset, .unset] [])
        refine own_at (fun t k => XS.iloadN X0.here hx rfl (hb hby at_36) rfl k) ?_
        show own_Go p e below KK s₁ (mkF m 37 #[.val (.int p1), .val (.int 1), .val (.int 0), .val (.int 0), .unset, .unset, .unset, .unset, .unset, .unset, .unset] [(.int p1)])
        refine own_at (fun t k => XS.bipush X0.here hx rfl (hb hby at_37) k) ?_
        show own_Go p e below KK s₁ (mkF m 39 #[.val (.int p1), .val (.int 1), .val (.int 0), .val (.int 0), .unset, .unset, .unset, .unset, .unset, .unset, .unset] [(.int 8), (.int p1)])
        refine own_at (fun t k => XS.iand X0.here hx rfl (hb hby at_39) rfl k) ?_
        show own_Go p e below KK s₁ (mkF m 40 #[.val (.int p1), .val (.int 1), .val (.int 0), .val (.int 0), .unset, .unset, .unset, .unset, .unset, .unset, .unset] [(.int (p1 &&& (8 : Int32)))])
        by_cases hc40 : (p1 &&& (8 : Int32)) = (0 : Int32)
        · refine own_at (fun t k => XS.ifYes X0.here hx rfl (pc0 := 40) (pc' := 47) rfl (hb hby at_40) rfl (Jvm.Free.XT.i0_eq_t hc40) (by decide) (by decide) k) ?_
          show own_Go p e below KK s₁ (mkF m 47 #[.val (.int p1), .val (.int 1), .val (.int 0), .val (.int 0), .unset, .unset, .unset, .unset, .unset, .unset, .unset] [])
          refine own_at (fun t k => XS.iconst X0.here hx rfl (hb hby at_47) k) ?_
          show own_Go p e below KK s₁ (mkF m 48 #[.val (.int p1), .val (.int 1), .val (.int 0), .val (.int 0), .unset, .unset, .unset, .unset, .unset, .unset, .unset] [(.int 0)])
          refine own_at (fun t k => XS.istore X0.here hx rfl (hb hby at_48) rfl (l' := #[.val (.int p1), .val (.int 1), .val (.int 0), .val (.int 0), .val (.int 0), .unset, .unset, .unset, .unset, .unset, .unset]) rfl k) ?_
          show own_Go p e below KK s₁ (mkF m 50 #[.val (.int p1), .val (.int 1), .val (.int 0), .val (.int 0), .val (.int 0), .unset, .unset, .unset, .unset, .unset, .unset] [])
          refine own_at (fun t k => XS.iloadN X0.here hx rfl (hb hby at_50) rfl k) ?_
          show own_Go p e below KK s₁ (mkF m 51 #[.val (.int p1), .val (.int 1), .val (.int 0), .val (.int 0), .val (.int 0), .unset, .unset, .unset, .unset, .unset, .unset] [(.int 1)])
          refine own_at (fun t k => XS.iloadN X0.here hx rfl (hb hby at_51) rfl k) ?_
          show own_Go p e below KK s₁ (mkF m 52 #[.val (.int p1), .val (.int 1), .val (.int 0), .val (.int 0), .val (.int 0), .unset, .unset, .unset, .unset, .unset, .unset] [(.int 0), (.int 1)])
          refine own_at (fun t k => XS.iloadN X0.here hx rfl (hb hby at_52) rfl k) ?_
          show own_Go p e below KK s₁ (mkF m 53 #[.val (.int p1), .val (.int 1), .val (.int 0), .val (.int 0), .val (.int 0), .unset, .unset, .unset, .unset, .unset, .unset] [(.int 0), (.int 0), (.int 1)])
          refine own_at (fun t k => XS.iload X0.here hx rfl (hb hby at_53) rfl k) ?_
          show own_Go p e below KK s₁ (mkF m 55 #[.val (.int p1), .val (.int 1), .val (.int 0), .val (.int 0), .val (.int 0), .unset, .unset, .unset, .unset, .unset, .unset] [(.int 0), (.int 0), (.int 0), (.int 1)])
          obtain ⟨_, _, ⟨T9, L9, k9, n9⟩, -, X9, ⟨Lc9, hQ9, l9, y9, z9⟩, st9⟩ := Jvm.LawKit.callS X0 hx (y := (⟨"com/example/oyster/oyster/core/form/NamedTest", "ends", "(ZZZZ)I"⟩ : MethodName)) hown (mvT hZ (hw _ (List.mem_of_getElem? (i := 0) rfl))) (mvT hZ (hw _ (List.mem_of_getElem? (i := 1) rfl))) (mvT hZ (hw _ (List.mem_of_getElem? (i := 2) rfl))) (mvT hZ (hw _ (List.mem_of_getElem? (i := 3) rfl))) (by decide) (backOf (W := 0) (rm_prog_119_2 l Z a0 hw [] (1 : Int32) (0 : Int32) (0 : Int32) (0 : Int32)  h0 n0 Z0 ) hZ (hw _ (List.mem_of_getElem? (i := 3) rfl)) (hw _ (List.mem_of_getElem? (i := 2) rfl)) (by decide) (by decide)) (g := (mkF m 55 #[.val (.int p1), .val (.int 1), .val (.int 0), .val (.int 0), .val (.int 0), .unset, .unset, .unset, .unset, .unset, .unset] [(.int 0), (.int 0), (.int 0), (.int 1)])) rfl (by rw [hml]; rfl) (argsL := [(.int 1), (.int 0), (.int 0), (.int 0)]) (rest := []) (lenOf pd__ZZZZ_I rfl) rfl (by show 2 * 0 + _ ≤ _; exact Nat.le_of_eq rfl) (hb hby at_55) (fun _ _ => ⟨rfl, e0, (by decide : 0 + 0 ≤ _), (by decide : 0 + 0 ≤ _)⟩)
          dsimp only [Pt.U, Pt.locs, Pt.cells, Pt.slots] at X9 l9 y9 z9 st9 hQ9
          subst l9 y9 z9
          obtain ⟨rfl, N9q, e9⟩ := hQ9
          rw [show (own_F_prog_119_2 (1 : Int32) (0 : Int32) (0 : Int32) (0 : Int32)) = (1 : Int32) from by decide] at st9
          have N9 := Fr.app N0 N9q
          refine own_of (fun t k => st9 t k) ?_
          show own_Go p e below KK T9 (mkF m 58 #[.val (.int p1), .val (.int 1), .val (.int 0), .val (.int 0), .val (.int 0), .unset, .unset, .unset, .unset, .unset, .unset] [(.int 1)])
          refine own_at (fun t k => XS.istore X9.here hx rfl (hb hby at_58) rfl (l' := #[.val (.int p1), .val (.int 1), .val (.int 0), .val (.int 0), .val (.int 0), .val (.int 1), .unset, .unset, .unset, .unset, .unset]) rfl k) ?_
          show own_Go p e below KK T9 (mkF m 60 #[.val (.int p1), .val (.int 1), .val (.int 0), .val (.int 0), .val (.int 0), .val (.int 1), .unset, .unset, .unset, .unset, .unset] [])
          refine own_at (fun t k => XS.iload X9.here hx rfl (hb hby at_60) rfl k) ?_
          show own_Go p e below KK T9 (mkF m 62 #[.val (.int p1), .val (.int 1), .val (.int 0), .val (.int 0), .val (.int 0), .val (.int 1), .unset, .unset, .unset, .unset, .unset] [(.int 1)])
          refine own_at (fun t k => XS.iconst X9.here hx rfl (hb hby at_62) k) ?_
          show own_Go p e below KK T9 (mkF m 63 #[.val (.int p1), .val (.int 1), .val (.int 0), .val (.int 0), .val (.int 0), .val (.int 1), .unset, .unset, .unset, .unset, .unset] [(.int 1), (.int 1)])
          refine own_at (fun t k => XS.iand X9.here hx rfl (hb hby at_63) rfl k) ?_
          show own_Go p e below KK T9 (mkF m 64 #[.val (.int p1), .val (.int 1), .val (.int 0), .val (.int 0), .val (.int 0), .val (.int 1), .unset, .unset, .unset, .unset, .unset] [(.int ((1 : Int32) &&& (1 : Int32)))])
          rw [show ((1 : Int32) &&& (1 : Int32)) = (1 : Int32) from by decide]
          show own_Go p e below KK T9 (mkF m 64 #[.val (.int p1), .val (.int 1), .val (.int 0), .val (.int 0), .val (.int 0), .val (.int 1), .unset, .unset, .unset, .unset, .unset] [(.int 1)])
          have hc64 : ¬ ((1 : Int32) = (0 : Int32)) := by decide
          refine own_at (fun t k => XS.ifNo X9.here hx rfl (hb hby at_64) rfl (Jvm.Free.XT.i0_eq_f hc64) k) ?_
          show own_Go p e below KK T9 (mkF m 67 #[.val (.int p1), .val (.int 1), .val (.int 0), .val (.int 0), .val (.int 0), .val (.int 1), .unset, .unset, .unset, .unset, .unset] [])
          refine own_at (fun t k => XS.iconst X9.here hx rfl (hb hby at_67) k) ?_
          show own_Go p e below KK T9 (mkF m 68 #[.val (.int p1), .val (.int 1), .val (.int 0), .val (.int 0), .val (.int 0), .val (.int 1), .unset, .unset, .unset, .unset, .unset] [(.int 1)])
          refine own_at (fun t k => XS.goto X9.here hx rfl (pc0 := 68) (pc' := 72) rfl (hb hby at_68) (by decide) (by decide) k) ?_
          show own_Go p e below KK T9 (mkF m 72 #[.val (.int p1), .val (.int 1), .val (.int 0), .val (.int 0), .val (.int 0), .val (.int 1), .unset, .unset, .unset, .unset, .unset] [(.int 1)])
          refine own_at (fun t k => XS.istore X9.here hx rfl (hb hby at_72) rfl (l' := #[.val (.int p1), .val (.int 1), .val (.int 0), .val (.int 0), .val (.int 0), .val (.int 1), .val (.int 1), .unset, .unset, .unset, .unset]) rfl k) ?_
          show own_Go p e below KK T9 (mkF m 74 #[.val (.int p1), .val (.int 1), .val (.int 0), .val (.int 0), .val (.int 0), .val (.int 1), .val (.int 1), .unset, .unset, .unset, .unset] [])
          refine own_at (fun t k => XS.iload X9.here hx rfl (hb hby at_74) rfl k) ?_
          show own_Go p e below KK T9 (mkF m 76 #[.val (.int p1), .val (.int 1), .val (.int 0), .val (.int 0), .val (.int 0), .val (.int 1), .val (.int 1), .unset, .unset, .unset, .unset] [(.int 1)])
          refine own_at (fun t k => XS.iconst X9.here hx rfl (hb hby at_76) k) ?_
          show own_Go p e below KK T9 (mkF m 77 #[.val (.int p1), .val (.int 1), .val (.int 0), .val (.int 0), .val (.int 0), .val (.int 1), .val (.int 1), .unset, .unset, .unset, .unset] [(.int 2), (.int 1)])
          refine own_at (fun t k => XS.iand X9.here hx rfl (hb hby at_77) rfl k) ?_
          show own_Go p e below KK T9 (mkF m 78 #[.val (.int p1), .val (.int 1), .val (.int 0), .val (.int 0), .val (.int 0), .val (.int 1), .val (.int 1), .unset, .unset, .unset, .unset] [(.int ((1 : Int32) &&& (2 : Int32)))])
          rw [show ((1 : Int32) &&& (2 : Int32)) = (0 : Int32) from by decide]
          show own_Go p e below KK T9 (mkF m 78 #[.val (.int p1), .val (.int 1), .val (.int 0), .val (.int 0), .val (.int 0), .val (.int 1), .val (.int 1), .unset, .unset, .unset, .unset] [(.int 0)])
          have hc78 : (0 : Int32) = (0 : Int32) := by decide
          refine own_at (fun t k => XS.ifYes X9.here hx rfl (pc0 := 78) (pc' := 85) rfl (hb hby at_78) rfl (Jvm.Free.XT.i0_eq_t hc78) (by decide) (by decide) k) ?_
          show own_Go p e below KK T9 (mkF m 85 #[.val (.int p1), .val (.int 1), .val (.int 0), .val (.int 0), .val (.int 0), .val (.int 1), .val (.int 1), .unset, .unset, .unset, .unset] [])
          refine own_at (fun t k => XS.iconst X9.here hx rfl (hb hby at_85) k) ?_
          show own_Go p e below KK T9 (mkF m 86 #[.val (.int p1), .val (.int 1), .val (.int 0), .val (.int 0), .val (.int 0), .val (.int 1), .val (.int 1), .unset, .unset, .unset, .unset] [(.int 0)])
          refine own_at (fun t k => XS.istore X9.here hx rfl (hb hby at_86) rfl (l' := #[.val (.int p1), .val (.int 1), .val (.int 0), .val (.int 0), .val (.int 0), .val (.int 1), .val (.int 1), .val (.int 0), .unset, .unset, .unset]) rfl k) ?_
          show own_Go p e below KK T9 (mkF m 88 #[.val (.int p1), .val (.int 1), .val (.int 0), .val (.int 0), .val (.int 0), .val (.int 1), .val (.int 1), .val (.int 0), .unset, .unset, .unset] [])
          refine own_at (fun t k => XS.iload X9.here hx rfl (hb hby at_88) rfl k) ?_
          show own_Go p e below KK T9 (mkF m 90 #[.val (.int p1), .val (.int 1), .val (.int 0), .val (.int 0), .val (.int 0), .val (.int 1), .val (.int 1), .val (.int 0), .unset, .unset, .unset] [(.int 1)])
          refine own_at (fun t k => XS.iconst X9.here hx rfl (hb hby at_90) k) ?_
          show own_Go p e below KK T9 (mkF m 91 #[.val (.int p1), .val (.int 1), .val (.int 0), .val (.int 0), .val (.int 0), .val (.int 1), .val (.int 1), .val (.int 0), .unset, .unset, .unset] [(.int 4), (.int 1)])
          refine own_at (fun t k => XS.iand X9.here hx rfl (hb hby at_91) rfl k) ?_
          show own_Go p e below KK T9 (mkF m 92 #[.val (.int p1), .val (.int 1), .val (.int 0), .val (.int 0), .val (.int 0), .val (.int 1), .val (.int 1), .val (.int 0), .unset, .unset, .unset] [(.int ((1 : Int32) &&& (4 : Int32)))])
          rw [show ((1 : Int32) &&& (4 : Int32)) = (0 : Int32) from by decide]
          show own_Go p e below KK T9 (mkF m 92 #[.val (.int p1), .val (.int 1), .val (.int 0), .val (.int 0), .val (.int 0), .val (.int 1), .val (.int 1), .val (.int 0), .unset, .unset, .unset] [(.int 0)])
          have hc92 : (0 : Int32) = (0 : Int32) := by decide
          refine own_at (fun t k => XS.ifYes X9.here hx rfl (pc0 := 92) (pc' := 99) rfl (hb hby at_92) rfl (Jvm.Free.XT.i0_eq_t hc92) (by decide) (by decide) k) ?_
          show own_Go p e below KK T9 (mkF m 99 #[.val (.int p1), .val (.int 1), .val (.int 0), .val (.int 0), .val (.int 0), .val (.int 1), .val (.int 1), .val (.int 0), .unset, .unset, .unset] [])
          refine own_at (fun t k => XS.iconst X9.here hx rfl (hb hby at_99) k) ?_
          show own_Go p e below KK T9 (mkF m 100 #[.val (.int p1), .val (.int 1), .val (.int 0), .val (.int 0), .val (.int 0), .val (.int 1), .val (.int 1), .val (.int 0), .unset, .unset, .unset] [(.int 0)])
          refine own_at (fun t k => XS.istore X9.here hx rfl (hb hby at_100) rfl (l' := #[.val (.int p1), .val (.int 1), .val (.int 0), .val (.int 0), .val (.int 0), .val (.int 1), .val (.int 1), .val (.int 0), .val (.int 0), .unset, .unset]) rfl k) ?_
          show own_Go p e below KK T9 (mkF m 102 #[.val (.int p1), .val (.int 1), .val (.int 0), .val (.int 0), .val (.int 0), .val (.int 1), .val (.int 1), .val (.int 0), .val (.int 0), .unset, .unset] [])
          refine own_at (fun t k => XS.iload X9.here hx rfl (hb hby at_102) rfl k) ?_
          show own_Go p e below KK T9 (mkF m 104 #[.val (.int p1), .val (.int 1), .val (.int 0), .val (.int 0), .val (.int 0), .val (.int 1), .val (.int 1), .val (.int 0), .val (.int 0), .unset, .unset] [(.int 1)])
          refine own_at (fun t k => XS.bipush X9.here hx rfl (hb hby at_104) k) ?_
          show own_Go p e below KK T9 (mkF m 106 #[.val (.int p1), .val (.int 1), .val (.int 0), .val (.int 0), .val (.int 0), .val (.int 1), .val (.int 1), .val (.int 0), .val (.int 0), .unset, .unset] [(.int 8), (.int 1)])
          refine own_at (fun t k => XS.iand X9.here hx rfl (hb hby at_106) rfl k) ?_
          show own_Go p e below KK T9 (mkF m 107 #[.val (.int p1), .val (.int 1), .val (.int 0), .val (.int 0), .val (.int 0), .val (.int 1), .val (.int 1), .val (.int 0), .val (.int 0), .unset, .unset] [(.int ((1 : Int32) &&& (8 : Int32)))])
          rw [show ((1 : Int32) &&& (8 : Int32)) = (0 : Int32) from by decide]
          show own_Go p e below KK T9 (mkF m 107 #[.val (.int p1), .val (.int 1), .val (.int 0), .val (.int 0), .val (.int 0), .val (.int 1), .val (.int 1), .val (.int 0), .val (.int 0), .unset, .unset] [(.int 0)])
          have hc107 : (0 : Int32) = (0 : Int32) := by decide
          refine own_at (fun t k => XS.ifYes X9.here hx rfl (pc0 := 107) (pc' := 114) rfl (hb hby at_107) rfl (Jvm.Free.XT.i0_eq_t hc107) (by decide) (by decide) k) ?_
          show own_Go p e below KK T9 (mkF m 114 #[.val (.int p1), .val (.int 1), .val (.int 0), .val (.int 0), .val (.int 0), .val (.int 1), .val (.int 1), .val (.int 0), .val (.int 0), .unset, .unset] [])
          refine own_at (fun t k => XS.iconst X9.here hx rfl (hb hby at_114) k) ?_
          show own_Go p e below KK T9 (mkF m 115 #[.val (.int p1), .val (.int 1), .val (.int 0), .val (.int 0), .val (.int 0), .val (.int 1), .val (.int 1), .val (.int 0), .val (.int 0), .unset, .unset] [(.int 0)])
          refine own_at (fun t k => XS.istore X9.here hx rfl (hb hby at_115) rfl (l' := #[.val (.int p1), .val (.int 1), .val (.int 0), .val (.int 0), .val (.int 0), .val (.int 1), .val (.int 1), .val (.int 0), .val (.int 0), .val (.int 0), .unset]) rfl k) ?_
          show own_Go p e below KK T9 (mkF m 117 #[.val (.int p1), .val (.int 1), .val (.int 0), .val (.int 0), .val (.int 0), .val (.int 1), .val (.int 1), .val (.int 0), .val (.int 0), .val (.int 0), .unset] [])
          refine own_at (fun t k => XS.bipush X9.here hx rfl (hb hby at_117) k) ?_
          show own_Go p e below KK T9 (mkF m 119 #[.val (.int p1), .val (.int 1), .val (.int 0), .val (.int 0), .val (.int 0), .val (.int 1), .val (.int 1), .val (.int 0), .val (.int 0), .val (.int 0), .unset] [(.int 15)])
          refine own_at (fun t k => XS.istore X9.here hx rfl (hb hby at_119) rfl (l' := #[.val (.int p1), .val (.int 1), .val (.int 0), .val (.int 0), .val (.int 0), .val (.int 1), .val (.int 1), .val (.int 0), .val (.int 0), .val (.int 0), .val (.int 15)]) rfl k) ?_
          show own_Go p e below KK T9 (mkF m 121 #[.val (.int p1), .val (.int 1), .val (.int 0), .val (.int 0), .val (.int 0), .val (.int 1), .val (.int 1), .val (.int 0), .val (.int 0), .val (.int 0), .val (.int 15)] [])
          refine own_at (fun t k => XS.iload X9.here hx rfl (hb hby at_121) rfl k) ?_
          show own_Go p e below KK T9 (mkF m 123 #[.val (.int p1), .val (.int 1), .val (.int 0), .val (.int 0), .val (.int 0), .val (.int 1), .val (.int 1), .val (.int 0), .val (.int 0), .val (.int 0), .val (.int 15)] [(.int 1)])
          refine own_at (fun t k => XS.iloadN X9.here hx rfl (hb hby at_123) rfl k) ?_
          show own_Go p e below KK T9 (mkF m 124 #[.val (.int p1), .val (.int 1), .val (.int 0), .val (.int 0), .val (.int 0), .val (.int 1), .val (.int 1), .val (.int 0), .val (.int 0), .val (.int 0), .val (.int 15)] [(.int 1), (.int 1)])
          have hc124 : (1 : Int32) = (1 : Int32) := by decide
          refine own_at (fun t k => XS.icmpNo X9.here hx rfl (hb hby at_124) rfl (Jvm.Free.XT.ii_ne_f hc124) k) ?_
          show own_Go p e below KK T9 (mkF m 127 #[.val (.int p1), .val (.int 1), .val (.int 0), .val (.int 0), .val (.int 0), .val (.int 1), .val (.int 1), .val (.int 0), .val (.int 0), .val (.int 0), .val (.int 15)] [])
          refine own_at (fun t k => XS.iload X9.here hx rfl (hb hby at_127) rfl k) ?_
          show own_Go p e below KK T9 (mkF m 129 #[.val (.int p1), .val (.int 1), .val (.int 0), .val (.int 0), .val (.int 0), .val (.int 1), .val (.int 1), .val (.int 0), .val (.int 0), .val (.int 0), .val (.int 15)] [(.int 0)])
          refine own_at (fun t k => XS.iloadN X9.here hx rfl (hb hby at_129) rfl k) ?_
          show own_Go p e below KK T9 (mkF m 130 #[.val (.int p1), .val (.int 1), .val (.int 0), .val (.int 0), .val (.int 0), .val (.int 1), .val (.int 1), .val (.int 0), .val (.int 0), .val (.int 0), .val (.int 15)] [(.int 1), (.int 0)])
          have hc130 : ¬ ((1 : Int32) = (0 : Int32)) := by decide
          refine own_at (fun t k => XS.ifNo X9.here hx rfl (hb hby at_130) rfl (Jvm.Free.XT.i0_eq_f hc130) k) ?_
          show own_Go p e below KK T9 (mkF m 133 #[.val (.int p1), .val (.int 1), .val (.int 0), .val (.int 0), .val (.int 0), .val (.int 1), .val (.int 1), .val (.int 0), .val (.int 0), .val (.int 0), .val (.int 15)] [(.int 0)])
          refine own_at (fun t k => XS.iloadN X9.here hx rfl (hb hby at_133) rfl k) ?_
          show own_Go p e below KK T9 (mkF m 134 #[.val (.int p1), .val (.int 1), .val (.int 0), .val (.int 0), .val (.int 0), .val (.int 1), .val (.int 1), .val (.int 0), .val (.int 0), .val (.int 0), .val (.int 15)] [(.int 0), (.int 0)])
          have hc134 : (0 : Int32) = (0 : Int32) := by decide
          refine own_at (fun t k => XS.ifYes X9.here hx rfl (pc0 := 134) (pc' := 141) rfl (hb hby at_134) rfl (Jvm.Free.XT.i0_eq_t hc134) (by decide) (by decide) k) ?_
          show own_Go p e below KK T9 (mkF m 141 #[.val (.int p1), .val (.int 1), .val (.int 0), .val (.int 0), .val (.int 0), .val (.int 1), .val (.int 1), .val (.int 0), .val (.int 0), .val (.int 0), .val (.int 15)] [(.int 0)])
          refine own_at (fun t k => XS.iconst X9.here hx rfl (hb hby at_141) k) ?_
          show own_Go p e below KK T9 (mkF m 142 #[.val (.int p1), .val (.int 1), .val (.int 0), .val (.int 0), .val (.int 0), .val (.int 1), .val (.int 1), .val (.int 0), .val (.int 0), .val (.int 0), .val (.int 15)] [(.int 0), (.int 0)])
          have hc142 : (0 : Int32) = (0 : Int32) := by decide
          refine own_at (fun t k => XS.icmpNo X9.here hx rfl (hb hby at_142) rfl (Jvm.Free.XT.ii_ne_f hc142) k) ?_
          show own_Go p e below KK T9 (mkF m 145 #[.val (.int p1), .val (.int 1), .val (.int 0), .val (.int 0), .val (.int 0), .val (.int 1), .val (.int 1), .val (.int 0), .val (.int 0), .val (.int 0), .val (.int 15)] [])
          refine own_at (fun t k => XS.iload X9.here hx rfl (hb hby at_145) rfl k) ?_
          show own_Go p e below KK T9 (mkF m 147 #[.val (.int p1), .val (.int 1), .val (.int 0), .val (.int 0), .val (.int 0), .val (.int 1), .val (.int 1), .val (.int 0), .val (.int 0), .val (.int 0), .val (.int 15)] [(.int 0)])
          refine own_at (fun t k => XS.iloadN X9.here hx rfl (hb hby at_147) rfl k) ?_
          show own_Go p e below KK T9 (mkF m 148 #[.val (.int p1), .val (.int 1), .val (.int 0), .val (.int 0), .val (.int 0), .val (.int 1), .val (.int 1), .val (.int 0), .val (.int 0), .val (.int 0), .val (.int 15)] [(.int 0), (.int 0)])
          have hc148 : (0 : Int32) = (0 : Int32) := by decide
          refine own_at (fun t k => XS.icmpNo X9.here hx rfl (hb hby at_148) rfl (Jvm.Free.XT.ii_ne_f hc148) k) ?_
          show own_Go p e below KK T9 (mkF m 151 #[.val (.int p1), .val (.int 1), .val (.int 0), .val (.int 0), .val (.int 0), .val (.int 1), .val (.int 1), .val (.int 0), .val (.int 0), .val (.int 0), .val (.int 15)] [])
          refine own_at (fun t k => XS.iload X9.here hx rfl (hb hby at_151) rfl k) ?_
          show own_Go p e below KK T9 (mkF m 153 #[.val (.int p1), .val (.int 1), .val (.int 0), .val (.int 0), .val (.int 0), .val (.int 1), .val (.int 1), .val (.int 0), .val (.int 0), .val (.int 0), .val (.int 15)] [(.int 0)])
          refine own_at (fun t k => XS.iloadN X9.here hx rfl (hb hby at_153) rfl k) ?_
          show own_Go p e below KK T9 (mkF m 154 #[.val (.int p1), .val (.int 1), .val (.int 0), .val (.int 0), .val (.int 0), .val (.int 1), .val (.int 1), .val (.int 0), .val (.int 0), .val (.int 0), .val (.int 15)] [(.int 0), (.int 0)])
          have hc154 : (0 : Int32) = (0 : Int32) := by decide
          refine own_at (fun t k => XS.ifYes X9.here hx rfl (pc0 := 154) (pc' := 166) rfl (hb hby at_154) rfl (Jvm.Free.XT.i0_eq_t hc154) (by decide) (by decide) k) ?_
          show own_Go p e below KK T9 (mkF m 166 #[.val (.int p1), .val (.int 1), .val (.int 0), .val (.int 0), .val (.int 0), .val (.int 1), .val (.int 1), .val (.int 0), .val (.int 0), .val (.int 0), .val (.int 15)] [(.int 0)])
          refine own_at (fun t k => XS.iconst X9.here hx rfl (hb hby at_166) k) ?_
          show own_Go p e below KK T9 (mkF m 167 #[.val (.int p1), .val (.int 1), .val (.int 0), .val (.int 0), .val (.int 0), .val (.int 1), .val (.int 1), .val (.int 0), .val (.int 0), .val (.int 0), .val (.int 15)] [(.int 0), (.int 0)])
          have hc167 : (0 : Int32) = (0 : Int32) := by decide
          refine own_at (fun t k => XS.icmpNo X9.here hx rfl (hb hby at_167) rfl (Jvm.Free.XT.ii_ne_f hc167) k) ?_
          show own_Go p e below KK T9 (mkF m 170 #[.val (.int p1), .val (.int 1), .val (.int 0), .val (.int 0), .val (.int 0), .val (.int 1), .val (.int 1), .val (.int 0), .val (.int 0), .val (.int 0), .val (.int 15)] [])
          refine own_at (fun t k => XS.iload X9.here hx rfl (hb hby at_170) rfl k) ?_
          show own_Go p e below KK T9 (mkF m 172 #[.val (.int p1), .val (.int 1), .val (.int 0), .val (.int 0), .val (.int 0), .val (.int 1), .val (.int 1), .val (.int 0), .val (.int 0), .val (.int 0), .val (.int 15)] [(.int 1)])
          refine own_at (fun t k => XS.iload X9.here hx rfl (hb hby at_172) rfl k) ?_
          show own_Go p e below KK T9 (mkF m 174 #[.val (.int p1), .val (.int 1), .val (.int 0), .val (.int 0), .val (.int 0), .val (.int 1), .val (.int 1), .val (.int 0), .val (.int 0), .val (.int 0), .val (.int 15)] [(.int 15), (.int 1)])
          refine own_at (fun t k => XS.iconst X9.here hx rfl (hb hby at_174) k) ?_
          show own_Go p e below KK T9 (mkF m 175 #[.val (.int p1), .val (.int 1), .val (.int 0), .val (.int 0), .val (.int 0), .val (.int 1), .val (.int 1), .val (.int 0), .val (.int 0), .val (.int 0), .val (.int 15)] [(.int (-1 : Int32)), (.int 15), (.int 1)])
          refine own_at (fun t k => XS.ixor X9.here hx rfl (hb hby at_175) rfl k) ?_
          show own_Go p e below KK T9 (mkF m 176 #[.val (.int p1), .val (.int 1), .val (.int 0), .val (.int 0), .val (.int 0), .val (.int 1), .val (.int 1), .val (.int 0), .val (.int 0), .val (.int 0), .val (.int 15)] [(.int ((15 : Int32) ^^^ (-1 : Int32))), (.int 1)])
          rw [show ((15 : Int32) ^^^ (-1 : Int32)) = (-16 : Int32) from by decide]
          show own_Go p e below KK T9 (mkF m 176 #[.val (.int p1), .val (.int 1), .val (.int 0), .val (.int 0), .val (.int 0), .val (.int 1), .val (.int 1), .val (.int 0), .val (.int 0), .val (.int 0), .val (.int 15)] [(.int (-16 : Int32)), (.int 1)])
          refine own_at (fun t k => XS.iand X9.here hx rfl (hb hby at_176) rfl k) ?_
          show own_Go p e below KK T9 (mkF m 177 #[.val (.int p1), .val (.int 1), .val (.int 0), .val (.int 0), .val (.int 0), .val (.int 1), .val (.int 1), .val (.int 0), .val (.int 0), .val (.int 0), .val (.int 15)] [(.int ((1 : Int32) &&& (-16 : Int32)))])
          rw [show ((1 : Int32) &&& (-16 : Int32)) = (0 : Int32) from by decide]
          show own_Go p e below KK T9 (mkF m 177 #[.val (.int p1), .val (.int 1), .val (.int 0), .val (.int 0), .val (.int 0), .val (.int 1), .val (.int 1), .val (.int 0), .val (.int 0), .val (.int 0), .val (.int 15)] [(.int 0)])
          have hc177 : (0 : Int32) = (0 : Int32) := by decide
          refine own_at (fun t k => XS.ifNo X9.here hx rfl (hb hby at_177) rfl (Jvm.Free.XT.i0_ne_f hc177) k) ?_
          show own_Go p e below KK T9 (mkF m 180 #[.val (.int p1), .val (.int 1), .val (.int 0), .val (.int 0), .val (.int 0), .val (.int 1), .val (.int 1), .val (.int 0), .val (.int 0), .val (.int 0), .val (.int 15)] [])
          refine own_at (fun t k => XS.iload X9.here hx rfl (hb hby at_180) rfl k) ?_
          show own_Go p e below KK T9 (mkF m 182 #[.val (.int p1), .val (.int 1), .val (.int 0), .val (.int 0), .val (.int 0), .val (.int 1), .val (.int 1), .val (.int 0), .val (.int 0), .val (.int 0), .val (.int 15)] [(.int 1)])
          have hc182 : ¬ ((1 : Int32) = (0 : Int32)) := by decide
          refine own_at (fun t k => XS.ifYes X9.here hx rfl (pc0 := 182) (pc' := 189) rfl (hb hby at_182) rfl (Jvm.Free.XT.i0_ne_t hc182) (by decide) (by decide) k) ?_
          show own_Go p e below KK T9 (mkF m 189 #[.val (.int p1), .val (.int 1), .val (.int 0), .val (.int 0), .val (.int 0), .val (.int 1), .val (.int 1), .val (.int 0), .val (.int 0), .val (.int 0), .val (.int 15)] [])
          refine own_at (fun t k => XS.iconst X9.here hx rfl (hb hby at_189) k) ?_
          show own_Go p e below KK T9 (mkF m 190 #[.val (.int p1), .val (.int 1), .val (.int 0), .val (.int 0), .val (.int 0), .val (.int 1), .val (.int 1), .val (.int 0), .val (.int 0), .val (.int 0), .val (.int 15)] [(.int 0)])
          refine own_at (fun t k => XS.iloadN X9.here hx rfl (hb hby at_190) rfl k) ?_
          show own_Go p e below KK T9 (mkF m 191 #[.val (.int p1), .val (.int 1), .val (.int 0), .val (.int 0), .val (.int 0), .val (.int 1), .val (.int 1), .val (.int 0), .val (.int 0), .val (.int 0), .val (.int 15)] [(.int 1), (.int 0)])
          have hc191 : ¬ ((1 : Int32) = (0 : Int32)) := by decide
          refine own_at (fun t k => XS.ifYes X9.here hx rfl (pc0 := 191) (pc' := 202) rfl (hb hby at_191) rfl (Jvm.Free.XT.i0_ne_t hc191) (by decide) (by decide) k) ?_
          show own_Go p e below KK T9 (mkF m 202 #[.val (.int p1), .val (.int 1), .val (.int 0), .val (.int 0), .val (.int 0), .val (.int 1), .val (.int 1), .val (.int 0), .val (.int 0), .val (.int 0), .val (.int 15)] [(.int 0)])
          refine own_at (fun t k => XS.iconst X9.here hx rfl (hb hby at_202) k) ?_
          show own_Go p e below KK T9 (mkF m 203 #[.val (.int p1), .val (.int 1), .val (.int 0), .val (.int 0), .val (.int 0), .val (.int 1), .val (.int 1), .val (.int 0), .val (.int 0), .val (.int 0), .val (.int 15)] [(.int 0), (.int 0)])
          have hc203 : (0 : Int32) = (0 : Int32) := by decide
          refine own_at (fun t k => XS.icmpNo X9.here hx rfl (hb hby at_203) rfl (Jvm.Free.XT.ii_ne_f hc203) k) ?_
          show own_Go p e below KK T9 (mkF m 206 #[.val (.int p1), .val (.int 1), .val (.int 0), .val (.int 0), .val (.int 0), .val (.int 1), .val (.int 1), .val (.int 0), .val (.int 0), .val (.int 0), .val (.int 15)] [])
          refine own_at (fun t k => XS.iconst X9.here hx rfl (hb hby at_206) k) ?_
          show own_Go p e below KK T9 (mkF m 207 #[.val (.int p1), .val (.int 1), .val (.int 0), .val (.int 0), .val (.int 0), .val (.int 1), .val (.int 1), .val (.int 0), .val (.int 0), .val (.int 0), .val (.int 15)] [(.int 1)])
          refine own_at (fun t k => XS.goto X9.here hx rfl (pc0 := 207) (pc' := 211) rfl (hb hby at_207) (by decide) (by decide) k) ?_
          show own_Go p e below KK T9 (mkF m 211 #[.val (.int p1), .val (.int 1), .val (.int 0), .val (.int 0), .val (.int 0), .val (.int 1), .val (.int 1), .val (.int 0), .val (.int 0), .val (.int 0), .val (.int 15)] [(.int 1)])
          subst hKK
          exact own_retN X9 hx hlk (t := .boolean) Bd.returns (by simp) (hb hby at_211) (w := (1 : Int32)) (show nar .boolean (1 : Int32) = 1 from by decide) ⟨rfl, N9⟩ (Nat.le_of_ble_eq_true rfl) (Nat.le_of_ble_eq_true rfl)
        · refine own_at (fun t k => XS.ifNo X0.here hx rfl (hb hby at_40) rfl (Jvm.Free.XT.i0_eq_f hc40) k) ?_
          show own_Go p e below KK s₁ (mkF m 43 #[.val (.int p1), .val (.int 1), .val (.int 0), .val (.int 0), .unset, .unset, .unset, .unset, .unset, .unset, .unset] [])
          refine own_at (fun t k => XS.iconst X0.here hx rfl (hb hby at_43) k) ?_
          show own_Go p e below KK s₁ (mkF m 44 #[.val (.int p1), .val (.int 1), .val (.int 0), .val (.int 0), .unset, .unset, .unset, .unset, .unset, .unset, .unset] [(.int 1)])
          refine own_at (fun t k => XS.goto X0.here hx rfl (pc0 := 44) (pc' := 48) rfl (hb hby at_44) (by decide) (by decide) k) ?_
          show own_Go p e below KK s₁ (mkF m 48 #[.val (.int p1), .val (.int 1), .val (.int 0), .val (.int 0), .unset, .unset, .unset, .unset, .unset, .unset, .unset] [(.int 1)])
          refine own_at (fun t k => XS.istore X0.here hx rfl (hb hby at_48) rfl (l' := #[.val (.int p1), .val (.int 1), .val (.int 0), .val (.int 0), .val (.int 1), .unset, .unset, .unset, .unset, .unset, .unset]) rfl k) ?_
          show own_Go p e below KK s₁ (mkF m 50 #[.val (.int p1), .val (.int 1), .val (.int 0), .val (.int 0), .val (.int 1), .unset, .unset, .unset, .unset, .unset, .unset] [])
          refine own_at (fun t k => XS.iloadN X0.here hx rfl (hb hby at_50) rfl k) ?_
          show own_Go p e below KK s₁ (mkF m 51 #[.val (.int p1), .val (.int 1), .val (.int 0), .val (.int 0), .val (.int 1), .unset, .unset, .unset, .unset, .unset, .unset] [(.int 1)])
          refine own_at (fun t k => XS.iloadN X0.here hx rfl (hb hby at_51) rfl k) ?_
          show own_Go p e below KK s₁ (mkF m 52 #[.val (.int p1), .val (.int 1), .val (.int 0), .val (.int 0), .val (.int 1), .unset, .unset, .unset, .unset, .unset, .unset] [(.int 0), (.int 1)])
          refine own_at (fun t k => XS.iloadN X0.here hx rfl (hb hby at_52) rfl k) ?_
          show own_Go p e below KK s₁ (mkF m 53 #[.val (.int p1), .val (.int 1), .val (.int 0), .val (.int 0), .val (.int 1), .unset, .unset, .unset, .unset, .unset, .unset] [(.int 0), (.int 0), (.int 1)])
          refine own_at (fun t k => XS.iload X0.here hx rfl (hb hby at_53) rfl k) ?_
          show own_Go p e below KK s₁ (mkF m 55 #[.val (.int p1), .val (.int 1), .val (.int 0), .val (.int 0), .val (.int 1), .unset, .unset, .unset, .unset, .unset, .unset] [(.int 1), (.int 0), (.int 0), (.int 1)])
          obtain ⟨_, _, ⟨T10, L10, k10, n10⟩, -, X10, ⟨Lc10, hQ10, l10, y10, z10⟩, st10⟩ := Jvm.LawKit.callS X0 hx (y := (⟨"com/example/oyster/oyster/core/form/NamedTest", "ends", "(ZZZZ)I"⟩ : MethodName)) hown (mvT hZ (hw _ (List.mem_of_getElem? (i := 0) rfl))) (mvT hZ (hw _ (List.mem_of_getElem? (i := 1) rfl))) (mvT hZ (hw _ (List.mem_of_getElem? (i := 2) rfl))) (mvT hZ (hw _ (List.mem_of_getElem? (i := 3) rfl))) (by decide) (backOf (W := 0) (rm_prog_119_2 l Z a0 hw [] (1 : Int32) (0 : Int32) (0 : Int32) (1 : Int32)  h0 n0 Z0 ) hZ (hw _ (List.mem_of_getElem? (i := 3) rfl)) (hw _ (List.mem_of_getElem? (i := 2) rfl)) (by decide) (by decide)) (g := (mkF m 55 #[.val (.int p1), .val (.int 1), .val (.int 0), .val (.int 0), .val (.int 1), .unset, .unset, .unset, .unset, .unset, .unset] [(.int 1), (.int 0), (.int 0), (.int 1)])) rfl (by rw [hml]; rfl) (argsL := [(.int 1), (.int 0), (.int 0), (.int 1)]) (rest := []) (lenOf pd__ZZZZ_I rfl) rfl (by show 2 * 0 + _ ≤ _; exact Nat.le_of_eq rfl) (hb hby at_55) (fun _ _ => ⟨rfl, e0, (by decide : 0 + 0 ≤ _), (by decide : 0 + 0 ≤ _)⟩)
          dsimp only [Pt.U, Pt.locs, Pt.cells, Pt.slots] at X10 l10 y10 z10 st10 hQ10
          subst l10 y10 z10
          obtain ⟨rfl, N10q, e10⟩ := hQ10
          rw [show (own_F_prog_119_2 (1 : Int32) (0 : Int32) (0 : Int32) (1 : Int32)) = (1 : Int32) from by decide] at st10
          have N10 := Fr.app N0 N10q
          refine own_of (fun t k => st10 t k) ?_
          show own_Go p e below KK T10 (mkF m 58 #[.val (.int p1), .val (.int 1), .val (.int 0), .val (.int 0), .val (.int 1), .unset, .unset, .unset, .unset, .unset, .unset] [(.int 1)])
          refine own_at (fun t k => XS.istore X10.here hx rfl (hb hby at_58) rfl (l' := #[.val (.int p1), .val (.int 1), .val (.int 0), .val (.int 0), .val (.int 1), .val (.int 1), .unset, .unset, .unset, .unset, .unset]) rfl k) ?_
          show own_Go p e below KK T10 (mkF m 60 #[.val (.int p1), .val (.int 1), .val (.int 0), .val (.int 0), .val (.int 1), .val (.int 1), .unset, .unset, .unset, .unset, .unset] [])
          refine own_at (fun t k => XS.iload X10.here hx rfl (hb hby at_60) rfl k) ?_
          show own_Go p e below KK T10 (mkF m 62 #[.val (.int p1), .val (.int 1), .val (.int 0), .val (.int 0), .val (.int 1), .val (.int 1), .unset, .unset, .unset, .unset, .unset] [(.int 1)])
          refine own_at (fun t k => XS.iconst X10.here hx rfl (hb hby at_62) k) ?_
          show own_Go p e below KK T10 (mkF m 63 #[.val (.int p1), .val (.int 1), .val (.int 0), .val (.int 0), .val (.int 1), .val (.int 1), .unset, .unset, .unset, .unset, .unset] [(.int 1), (.int 1)])
          refine own_at (fun t k => XS.iand X10.here hx rfl (hb hby at_63) rfl k) ?_
          show own_Go p e below KK T10 (mkF m 64 #[.val (.int p1), .val (.int 1), .val (.int 0), .val (.int 0), .val (.int 1), .val (.int 1), .unset, .unset, .unset, .unset, .unset] [(.int ((1 : Int32) &&& (1 : Int32)))])
          rw [show ((1 : Int32) &&& (1 : Int32)) = (1 : Int32) from by decide]
          show own_Go p e below KK T10 (mkF m 64 #[.val (.int p1), .val (.int 1), .val (.int 0), .val (.int 0), .val (.int 1), .val (.int 1), .unset, .unset, .unset, .unset, .unset] [(.int 1)])
          have hc64 : ¬ ((1 : Int32) = (0 : Int32)) := by decide
          refine own_at (fun t k => XS.ifNo X10.here hx rfl (hb hby at_64) rfl (Jvm.Free.XT.i0_eq_f hc64) k) ?_
          show own_Go p e below KK T10 (mkF m 67 #[.val (.int p1), .val (.int 1), .val (.int 0), .val (.int 0), .val (.int 1), .val (.int 1), .unset, .unset, .unset, .unset, .unset] [])
          refine own_at (fun t k => XS.iconst X10.here hx rfl (hb hby at_67) k) ?_
          show own_Go p e below KK T10 (mkF m 68 #[.val (.int p1), .val (.int 1), .val (.int 0), .val (.int 0), .val (.int 1), .val (.int 1), .unset, .unset, .unset, .unset, .unset] [(.int 1)])
          refine own_at (fun t k => XS.goto X10.here hx rfl (pc0 := 68) (pc' := 72) rfl (hb hby at_68) (by decide) (by decide) k) ?_
          show own_Go p e below KK T10 (mkF m 72 #[.val (.int p1), .val (.int 1), .val (.int 0), .val (.int 0), .val (.int 1), .val (.int 1), .unset, .unset, .unset, .unset, .unset] [(.int 1)])
          refine own_at (fun t k => XS.istore X10.here hx rfl (hb hby at_72) rfl (l' := #[.val (.int p1), .val (.int 1), .val (.int 0), .val (.int 0), .val (.int 1), .val (.int 1), .val (.int 1), .unset, .unset, .unset, .unset]) rfl k) ?_
          show own_Go p e below KK T10 (mkF m 74 #[.val (.int p1), .val (.int 1), .val (.int 0), .val (.int 0), .val (.int 1), .val (.int 1), .val (.int 1), .unset, .unset, .unset, .unset] [])
          refine own_at (fun t k => XS.iload X10.here hx rfl (hb hby at_74) rfl k) ?_
          show own_Go p e below KK T10 (mkF m 76 #[.val (.int p1), .val (.int 1), .val (.int 0), .val (.int 0), .val (.int 1), .val (.int 1), .val (.int 1), .unset, .unset, .unset, .unset] [(.int 1)])
          refine own_at (fun t k => XS.iconst X10.here hx rfl (hb hby at_76) k) ?_
          show own_Go p e below KK T10 (mkF m 77 #[.val (.int p1), .val (.int 1), .val (.int 0), .val (.int 0), .val (.int 1), .val (.int 1), .val (.int 1), .unset, .unset, .unset, .unset] [(.int 2), (.int 1)])
          refine own_at (fun t k => XS.iand X10.here hx rfl (hb hby at_77) rfl k) ?_
          show own_Go p e below KK T10 (mkF m 78 #[.val (.int p1), .val (.int 1), .val (.int 0), .val (.int 0), .val (.int 1), .val (.int 1), .val (.int 1), .unset, .unset, .unset, .unset] [(.int ((1 : Int32) &&& (2 : Int32)))])
          rw [show ((1 : Int32) &&& (2 : Int32)) = (0 : Int32) from by decide]
          show own_Go p e below KK T10 (mkF m 78 #[.val (.int p1), .val (.int 1), .val (.int 0), .val (.int 0), .val (.int 1), .val (.int 1), .val (.int 1), .unset, .unset, .unset, .unset] [(.int 0)])
          have hc78 : (0 : Int32) = (0 : Int32) := by decide
          refine own_at (fun t k => XS.ifYes X10.here hx rfl (pc0 := 78) (pc' := 85) rfl (hb hby at_78) rfl (Jvm.Free.XT.i0_eq_t hc78) (by decide) (by decide) k) ?_
          show own_Go p e below KK T10 (mkF m 85 #[.val (.int p1), .val (.int 1), .val (.int 0), .val (.int 0), .val (.int 1), .val (.int 1), .val (.int 1), .unset, .unset, .unset, .unset] [])
          refine own_at (fun t k => XS.iconst X10.here hx rfl (hb hby at_85) k) ?_
          show own_Go p e below KK T10 (mkF m 86 #[.val (.int p1), .val (.int 1), .val (.int 0), .val (.int 0), .val (.int 1), .val (.int 1), .val (.int 1), .unset, .unset, .unset, .unset] [(.int 0)])
          refine own_at (fun t k => XS.istore X10.here hx rfl (hb hby at_86) rfl (l' := #[.val (.int p1), .val (.int 1), .val (.int 0), .val (.int 0), .val (.int 1), .val (.int 1), .val (.int 1), .val (.int 0), .unset, .unset, .unset]) rfl k) ?_
          show own_Go p e below KK T10 (mkF m 88 #[.val (.int p1), .val (.int 1), .val (.int 0), .val (.int 0), .val (.int 1), .val (.int 1), .val (.int 1), .val (.int 0), .unset, .unset, .unset] [])
          refine own_at (fun t k => XS.iload X10.here hx rfl (hb hby at_88) rfl k) ?_
          show own_Go p e below KK T10 (mkF m 90 #[.val (.int p1), .val (.int 1), .val (.int 0), .val (.int 0), .val (.int 1), .val (.int 1), .val (.int 1), .val (.int 0), .unset, .unset, .unset] [(.int 1)])
          refine own_at (fun t k => XS.iconst X10.here hx rfl (hb hby at_90) k) ?_
          show own_Go p e below KK T10 (mkF m 91 #[.val (.int p1), .val (.int 1), .val (.int 0), .val (.int 0), .val (.int 1), .val (.int 1), .val (.int 1), .val (.int 0), .unset, .unset, .unset] [(.int 4), (.int 1)])
          refine own_at (fun t k => XS.iand X10.here hx rfl (hb hby at_91) rfl k) ?_
          show own_Go p e below KK T10 (mkF m 92 #[.val (.int p1), .val (.int 1), .val (.int 0), .val (.int 0), .val (.int 1), .val (.int 1), .val (.int 1), .val (.int 0), .unset, .unset, .unset] [(.int ((1 : Int32) &&& (4 : Int32)))])
          rw [show ((1 : Int32) &&& (4 : Int32)) = (0 : Int32) from by decide]
          show own_Go p e below KK T10 (mkF m 92 #[.val (.int p1), .val (.int 1), .val (.int 0), .val (.int 0), .val (.int 1), .val (.int 1), .val (.int 1), .val (.int 0), .unset, .unset, .unset] [(.int 0)])
          have hc92 : (0 : Int32) = (0 : Int32) := by decide
          refine own_at (fun t k => XS.ifYes X10.here hx rfl (pc0 := 92) (pc' := 99) rfl (hb hby at_92) rfl (Jvm.Free.XT.i0_eq_t hc92) (by decide) (by decide) k) ?_
          show own_Go p e below KK T10 (mkF m 99 #[.val (.int p1), .val (.int 1), .val (.int 0), .val (.int 0), .val (.int 1), .val (.int 1), .val (.int 1), .val (.int 0), .unset, .unset, .unset] [])
          refine own_at (fun t k => XS.iconst X10.here hx rfl (hb hby at_99) k) ?_
          show own_Go p e below KK T10 (mkF m 100 #[.val (.int p1), .val (.int 1), .val (.int 0), .val (.int 0), .val (.int 1), .val (.int 1), .val (.int 1), .val (.int 0), .unset, .unset, .unset] [(.int 0)])
          refine own_at (fun t k => XS.istore X10.here hx rfl (hb hby at_100) rfl (l' := #[.val (.int p1), .val (.int 1), .val (.int 0), .val (.int 0), .val (.int 1), .val (.int 1), .val (.int 1), .val (.int 0), .val (.int 0), .unset, .unset]) rfl k) ?_
          show own_Go p e below KK T10 (mkF m 102 #[.val (.int p1), .val (.int 1), .val (.int 0), .val (.int 0), .val (.int 1), .val (.int 1), .val (.int 1), .val (.int 0), .val (.int 0), .unset, .unset] [])
          refine own_at (fun t k => XS.iload X10.here hx rfl (hb hby at_102) rfl k) ?_
          show own_Go p e below KK T10 (mkF m 104 #[.val (.int p1), .val (.int 1), .val (.int 0), .val (.int 0), .val (.int 1), .val (.int 1), .val (.int 1), .val (.int 0), .val (.int 0), .unset, .unset] [(.int 1)])
          refine own_at (fun t k => XS.bipush X10.here hx rfl (hb hby at_104) k) ?_
          show own_Go p e below KK T10 (mkF m 106 #[.val (.int p1), .val (.int 1), .val (.int 0), .val (.int 0), .val (.int 1), .val (.int 1), .val (.int 1), .val (.int 0), .val (.int 0), .unset, .unset] [(.int 8), (.int 1)])
          refine own_at (fun t k => XS.iand X10.here hx rfl (hb hby at_106) rfl k) ?_
          show own_Go p e below KK T10 (mkF m 107 #[.val (.int p1), .val (.int 1), .val (.int 0), .val (.int 0), .val (.int 1), .val (.int 1), .val (.int 1), .val (.int 0), .val (.int 0), .unset, .unset] [(.int ((1 : Int32) &&& (8 : Int32)))])
          rw [show ((1 : Int32) &&& (8 : Int32)) = (0 : Int32) from by decide]
          show own_Go p e below KK T10 (mkF m 107 #[.val (.int p1), .val (.int 1), .val (.int 0), .val (.int 0), .val (.int 1), .val (.int 1), .val (.int 1), .val (.int 0), .val (.int 0), .unset, .unset] [(.int 0)])
          have hc107 : (0 : Int32) = (0 : Int32) := by decide
          refine own_at (fun t k => XS.ifYes X10.here hx rfl (pc0 := 107) (pc' := 114) rfl (hb hby at_107) rfl (Jvm.Free.XT.i0_eq_t hc107) (by decide) (by decide) k) ?_
          show own_Go p e below KK T10 (mkF m 114 #[.val (.int p1), .val (.int 1), .val (.int 0), .val (.int 0), .val (.int 1), .val (.int 1), .val (.int 1), .val (.int 0), .val (.int 0), .unset, .unset] [])
          refine own_at (fun t k => XS.iconst X10.here hx rfl (hb hby at_114) k) ?_
          show own_Go p e below KK T10 (mkF m 115 #[.val (.int p1), .val (.int 1), .val (.int 0), .val (.int 0), .val (.int 1), .val (.int 1), .val (.int 1), .val (.int 0), .val (.int 0), .unset, .unset] [(.int 0)])
          refine own_at (fun t k => XS.istore X10.here hx rfl (hb hby at_115) rfl (l' := #[.val (.int p1), .val (.int 1), .val (.int 0), .val (.int 0), .val (.int 1), .val (.int 1), .val (.int 1), .val (.int 0), .val (.int 0), .val (.int 0), .unset]) rfl k) ?_
          show own_Go p e below KK T10 (mkF m 117 #[.val (.int p1), .val (.int 1), .val (.int 0), .val (.int 0), .val (.int 1), .val (.int 1), .val (.int 1), .val (.int 0), .val (.int 0), .val (.int 0), .unset] [])
          refine own_at (fun t k => XS.bipush X10.here hx rfl (hb hby at_117) k) ?_
          show own_Go p e below KK T10 (mkF m 119 #[.val (.int p1), .val (.int 1), .val (.int 0), .val (.int 0), .val (.int 1), .val (.int 1), .val (.int 1), .val (.int 0), .val (.int 0), .val (.int 0), .unset] [(.int 15)])
          refine own_at (fun t k => XS.istore X10.here hx rfl (hb hby at_119) rfl (l' := #[.val (.int p1), .val (.int 1), .val (.int 0), .val (.int 0), .val (.int 1), .val (.int 1), .val (.int 1), .val (.int 0), .val (.int 0), .val (.int 0), .val (.int 15)]) rfl k) ?_
          show own_Go p e below KK T10 (mkF m 121 #[.val (.int p1), .val (.int 1), .val (.int 0), .val (.int 0), .val (.int 1), .val (.int 1), .val (.int 1), .val (.int 0), .val (.int 0), .val (.int 0), .val (.int 15)] [])
          refine own_at (fun t k => XS.iload X10.here hx rfl (hb hby at_121) rfl k) ?_
          show own_Go p e below KK T10 (mkF m 123 #[.val (.int p1), .val (.int 1), .val (.int 0), .val (.int 0), .val (.int 1), .val (.int 1), .val (.int 1), .val (.int 0), .val (.int 0), .val (.int 0), .val (.int 15)] [(.int 1)])
          refine own_at (fun t k => XS.iloadN X10.here hx rfl (hb hby at_123) rfl k) ?_
          show own_Go p e below KK T10 (mkF m 124 #[.val (.int p1), .val (.int 1), .val (.int 0), .val (.int 0), .val (.int 1), .val (.int 1), .val (.int 1), .val (.int 0), .val (.int 0), .val (.int 0), .val (.int 15)] [(.int 1), (.int 1)])
          have hc124 : (1 : Int32) = (1 : Int32) := by decide
          refine own_at (fun t k => XS.icmpNo X10.here hx rfl (hb hby at_124) rfl (Jvm.Free.XT.ii_ne_f hc124) k) ?_
          show own_Go p e below KK T10 (mkF m 127 #[.val (.int p1), .val (.int 1), .val (.int 0), .val (.int 0), .val (.int 1), .val (.int 1), .val (.int 1), .val (.int 0), .val (.int 0), .val (.int 0), .val (.int 15)] [])
          refine own_at (fun t k => XS.iload X10.here hx rfl (hb hby at_127) rfl k) ?_
          show own_Go p e below KK T10 (mkF m 129 #[.val (.int p1), .val (.int 1), .val (.int 0), .val (.int 0), .val (.int 1), .val (.int 1), .val (.int 1), .val (.int 0), .val (.int 0), .val (.int 0), .val (.int 15)] [(.int 0)])
          refine own_at (fun t k => XS.iloadN X10.here hx rfl (hb hby at_129) rfl k) ?_
          show own_Go p e below KK T10 (mkF m 130 #[.val (.int p1), .val (.int 1), .val (.int 0), .val (.int 0), .val (.int 1), .val (.int 1), .val (.int 1), .val (.int 0), .val (.int 0), .val (.int 0), .val (.int 15)] [(.int 1), (.int 0)])
          have hc130 : ¬ ((1 : Int32) = (0 : Int32)) := by decide
          refine own_at (fun t k => XS.ifNo X10.here hx rfl (hb hby at_130) rfl (Jvm.Free.XT.i0_eq_f hc130) k) ?_
          show own_Go p e below KK T10 (mkF m 133 #[.val (.int p1), .val (.int 1), .val (.int 0), .val (.int 0), .val (.int 1), .val (.int 1), .val (.int 1), .val (.int 0), .val (.int 0), .val (.int 0), .val (.int 15)] [(.int 0)])
          refine own_at (fun t k => XS.iloadN X10.here hx rfl (hb hby at_133) rfl k) ?_
          show own_Go p e below KK T10 (mkF m 134 #[.val (.int p1), .val (.int 1), .val (.int 0), .val (.int 0), .val (.int 1), .val (.int 1), .val (.int 1), .val (.int 0), .val (.int 0), .val (.int 0), .val (.int 15)] [(.int 0), (.int 0)])
          have hc134 : (0 : Int32) = (0 : Int32) := by decide
          refine own_at (fun t k => XS.ifYes X10.here hx rfl (pc0 := 134) (pc' := 141) rfl (hb hby at_134) rfl (Jvm.Free.XT.i0_eq_t hc134) (by decide) (by decide) k) ?_
          show own_Go p e below KK T10 (mkF m 141 #[.val (.int p1), .val (.int 1), .val (.int 0), .val (.int 0), .val (.int 1), .val (.int 1), .val (.int 1), .val (.int 0), .val (.int 0), .val (.int 0), .val (.int 15)] [(.int 0)])
          refine own_at (fun t k => XS.iconst X10.here hx rfl (hb hby at_141) k) ?_
          show own_Go p e below KK T10 (mkF m 142 #[.val (.int p1), .val (.int 1), .val (.int 0), .val (.int 0), .val (.int 1), .val (.int 1), .val (.int 1), .val (.int 0), .val (.int 0), .val (.int 0), .val (.int 15)] [(.int 0), (.int 0)])
          have hc142 : (0 : Int32) = (0 : Int32) := by decide
          refine own_at (fun t k => XS.icmpNo X10.here hx rfl (hb hby at_142) rfl (Jvm.Free.XT.ii_ne_f hc142) k) ?_
          show own_Go p e below KK T10 (mkF m 145 #[.val (.int p1), .val (.int 1), .val (.int 0), .val (.int 0), .val (.int 1), .val (.int 1), .val (.int 1), .val (.int 0), .val (.int 0), .val (.int 0), .val (.int 15)] [])
          refine own_at (fun t k => XS.iload X10.here hx rfl (hb hby at_145) rfl k) ?_
          show own_Go p e below KK T10 (mkF m 147 #[.val (.int p1), .val (.int 1), .val (.int 0), .val (.int 0), .val (.int 1), .val (.int 1), .val (.int 1), .val (.int 0), .val (.int 0), .val (.int 0), .val (.int 15)] [(.int 0)])
          refine own_at (fun t k => XS.iloadN X10.here hx rfl (hb hby at_147) rfl k) ?_
          show own_Go p e below KK T10 (mkF m 148 #[.val (.int p1), .val (.int 1), .val (.int 0), .val (.int 0), .val (.int 1), .val (.int 1), .val (.int 1), .val (.int 0), .val (.int 0), .val (.int 0), .val (.int 15)] [(.int 0), (.int 0)])
          have hc148 : (0 : Int32) = (0 : Int32) := by decide
          refine own_at (fun t k => XS.icmpNo X10.here hx rfl (hb hby at_148) rfl (Jvm.Free.XT.ii_ne_f hc148) k) ?_
          show own_Go p e below KK T10 (mkF m 151 #[.val (.int p1), .val (.int 1), .val (.int 0), .val (.int 0), .val (.int 1), .val (.int 1), .val (.int 1), .val (.int 0), .val (.int 0), .val (.int 0), .val (.int 15)] [])
          refine own_at (fun t k => XS.iload X10.here hx rfl (hb hby at_151) rfl k) ?_
          show own_Go p e below KK T10 (mkF m 153 #[.val (.int p1), .val (.int 1), .val (.int 0), .val (.int 0), .val (.int 1), .val (.int 1), .val (.int 1), .val (.int 0), .val (.int 0), .val (.int 0), .val (.int 15)] [(.int 0)])
          refine own_at (fun t k => XS.iloadN X10.here hx rfl (hb hby at_153) rfl k) ?_
          show own_Go p e below KK T10 (mkF m 154 #[.val (.int p1), .val (.int 1), .val (.int 0), .val (.int 0), .val (.int 1), .val (.int 1), .val (.int 1), .val (.int 0), .val (.int 0), .val (.int 0), .val (.int 15)] [(.int 0), (.int 0)])
          have hc154 : (0 : Int32) = (0 : Int32) := by decide
          refine own_at (fun t k => XS.ifYes X10.here hx rfl (pc0 := 154) (pc' := 166) rfl (hb hby at_154) rfl (Jvm.Free.XT.i0_eq_t hc154) (by decide) (by decide) k) ?_
          show own_Go p e below KK T10 (mkF m 166 #[.val (.int p1), .val (.int 1), .val (.int 0), .val (.int 0), .val (.int 1), .val (.int 1), .val (.int 1), .val (.int 0), .val (.int 0), .val (.int 0), .val (.int 15)] [(.int 0)])
          refine own_at (fun t k => XS.iconst X10.here hx rfl (hb hby at_166) k) ?_
          show own_Go p e below KK T10 (mkF m 167 #[.val (.int p1), .val (.int 1), .val (.int 0), .val (.int 0), .val (.int 1), .val (.int 1), .val (.int 1), .val (.int 0), .val (.int 0), .val (.int 0), .val (.int 15)] [(.int 0), (.int 0)])
          have hc167 : (0 : Int32) = (0 : Int32) := by decide
          refine own_at (fun t k => XS.icmpNo X10.here hx rfl (hb hby at_167) rfl (Jvm.Free.XT.ii_ne_f hc167) k) ?_
          show own_Go p e below KK T10 (mkF m 170 #[.val (.int p1), .val (.int 1), .val (.int 0), .val (.int 0), .val (.int 1), .val (.int 1), .val (.int 1), .val (.int 0), .val (.int 0), .val (.int 0), .val (.int 15)] [])
          refine own_at (fun t k => XS.iload X10.here hx rfl (hb hby at_170) rfl k) ?_
          show own_Go p e below KK T10 (mkF m 172 #[.val (.int p1), .val (.int 1), .val (.int 0), .val (.int 0), .val (.int 1), .val (.int 1), .val (.int 1), .val (.int 0), .val (.int 0), .val (.int 0), .val (.int 15)] [(.int 1)])
          refine own_at (fun t k => XS.iload X10.here hx rfl (hb hby at_172) rfl k) ?_
          show own_Go p e below KK T10 (mkF m 174 #[.val (.int p1), .val (.int 1), .val (.int 0), .val (.int 0), .val (.int 1), .val (.int 1), .val (.int 1), .val (.int 0), .val (.int 0), .val (.int 0), .val (.int 15)] [(.int 15), (.int 1)])
          refine own_at (fun t k => XS.iconst X10.here hx rfl (hb hby at_174) k) ?_
          show own_Go p e below KK T10 (mkF m 175 #[.val (.int p1), .val (.int 1), .val (.int 0), .val (.int 0), .val (.int 1), .val (.int 1), .val (.int 1), .val (.int 0), .val (.int 0), .val (.int 0), .val (.int 15)] [(.int (-1 : Int32)), (.int 15), (.int 1)])
          refine own_at (fun t k => XS.ixor X10.here hx rfl (hb hby at_175) rfl k) ?_
          show own_Go p e below KK T10 (mkF m 176 #[.val (.int p1), .val (.int 1), .val (.int 0), .val (.int 0), .val (.int 1), .val (.int 1), .val (.int 1), .val (.int 0), .val (.int 0), .val (.int 0), .val (.int 15)] [(.int ((15 : Int32) ^^^ (-1 : Int32))), (.int 1)])
          rw [show ((15 : Int32) ^^^ (-1 : Int32)) = (-16 : Int32) from by decide]
          show own_Go p e below KK T10 (mkF m 176 #[.val (.int p1), .val (.int 1), .val (.int 0), .val (.int 0), .val (.int 1), .val (.int 1), .val (.int 1), .val (.int 0), .val (.int 0), .val (.int 0), .val (.int 15)] [(.int (-16 : Int32)), (.int 1)])
          refine own_at (fun t k => XS.iand X10.here hx rfl (hb hby at_176) rfl k) ?_
          show own_Go p e below KK T10 (mkF m 177 #[.val (.int p1), .val (.int 1), .val (.int 0), .val (.int 0), .val (.int 1), .val (.int 1), .val (.int 1), .val (.int 0), .val (.int 0), .val (.int 0), .val (.int 15)] [(.int ((1 : Int32) &&& (-16 : Int32)))])
          rw [show ((1 : Int32) &&& (-16 : Int32)) = (0 : Int32) from by decide]
          show own_Go p e below KK T10 (mkF m 177 #[.val (.int p1), .val (.int 1), .val (.int 0), .val (.int 0), .val (.int 1), .val (.int 1), .val (.int 1), .val (.int 0), .val (.int 0), .val (.int 0), .val (.int 15)] [(.int 0)])
          have hc177 : (0 : Int32) = (0 : Int32) := by decide
          refine own_at (fun t k => XS.ifNo X10.here hx rfl (hb hby at_177) rfl (Jvm.Free.XT.i0_ne_f hc177) k) ?_
          show own_Go p e below KK T10 (mkF m 180 #[.val (.int p1), .val (.int 1), .val (.int 0), .val (.int 0), .val (.int 1), .val (.int 1), .val (.int 1), .val (.int 0), .val (.int 0), .val (.int 0), .val (.int 15)] [])
          refine own_at (fun t k => XS.iload X10.here hx rfl (hb hby at_180) rfl k) ?_
          show own_Go p e below KK T10 (mkF m 182 #[.val (.int p1), .val (.int 1), .val (.int 0), .val (.int 0), .val (.int 1), .val (.int 1), .val (.int 1), .val (.int 0), .val (.int 0), .val (.int 0), .val (.int 15)] [(.int 1)])
          have hc182 : ¬ ((1 : Int32) = (0 : Int32)) := by decide
          refine own_at (fun t k => XS.ifYes X10.here hx rfl (pc0 := 182) (pc' := 189) rfl (hb hby at_182) rfl (Jvm.Free.XT.i0_ne_t hc182) (by decide) (by decide) k) ?_
          show own_Go p e below KK T10 (mkF m 189 #[.val (.int p1), .val (.int 1), .val (.int 0), .val (.int 0), .val (.int 1), .val (.int 1), .val (.int 1), .val (.int 0), .val (.int 0), .val (.int 0), .val (.int 15)] [])
          refine own_at (fun t k => XS.iconst X10.here hx rfl (hb hby at_189) k) ?_
          show own_Go p e below KK T10 (mkF m 190 #[.val (.int p1), .val (.int 1), .val (.int 0), .val (.int 0), .val (.int 1), .val (.int 1), .val (.int 1), .val (.int 0), .val (.int 0), .val (.int 0), .val (.int 15)] [(.int 0)])
          refine own_at (fun t k => XS.iloadN X10.here hx rfl (hb hby at_190) rfl k) ?_
          show own_Go p e below KK T10 (mkF m 191 #[.val (.int p1), .val (.int 1), .val (.int 0), .val (.int 0), .val (.int 1), .val (.int 1), .val (.int 1), .val (.int 0), .val (.int 0), .val (.int 0), .val (.int 15)] [(.int 1), (.int 0)])
          have hc191 : ¬ ((1 : Int32) = (0 : Int32)) := by decide
          refine own_at (fun t k => XS.ifYes X10.here hx rfl (pc0 := 191) (pc' := 202) rfl (hb hby at_191) rfl (Jvm.Free.XT.i0_ne_t hc191) (by decide) (by decide) k) ?_
          show own_Go p e below KK T10 (mkF m 202 #[.val (.int p1), .val (.int 1), .val (.int 0), .val (.int 0), .val (.int 1), .val (.int 1), .val (.int 1), .val (.int 0), .val (.int 0), .val (.int 0), .val (.int 15)] [(.int 0)])
          refine own_at (fun t k => XS.iconst X10.here hx rfl (hb hby at_202) k) ?_
          show own_Go p e below KK T10 (mkF m 203 #[.val (.int p1), .val (.int 1), .val (.int 0), .val (.int 0), .val (.int 1), .val (.int 1), .val (.int 1), .val (.int 0), .val (.int 0), .val (.int 0), .val (.int 15)] [(.int 0), (.int 0)])
          have hc203 : (0 : Int32) = (0 : Int32) := by decide
          refine own_at (fun t k => XS.icmpNo X10.here hx rfl (hb hby at_203) rfl (Jvm.Free.XT.ii_ne_f hc203) k) ?_
          show own_Go p e below KK T10 (mkF m 206 #[.val (.int p1), .val (.int 1), .val (.int 0), .val (.int 0), .val (.int 1), .val (.int 1), .val (.int 1), .val (.int 0), .val (.int 0), .val (.int 0), .val (.int 15)] [])
          refine own_at (fun t k => XS.iconst X10.here hx rfl (hb hby at_206) k) ?_
          show own_Go p e below KK T10 (mkF m 207 #[.val (.int p1), .val (.int 1), .val (.int 0), .val (.int 0), .val (.int 1), .val (.int 1), .val (.int 1), .val (.int 0), .val (.int 0), .val (.int 0), .val (.int 15)] [(.int 1)])
          refine own_at (fun t k => XS.goto X10.here hx rfl (pc0 := 207) (pc' := 211) rfl (hb hby at_207) (by decide) (by decide) k) ?_
          show own_Go p e below KK T10 (mkF m 211 #[.val (.int p1), .val (.int 1), .val (.int 0), .val (.int 0), .val (.int 1), .val (.int 1), .val (.int 1), .val (.int 0), .val (.int 0), .val (.int 0), .val (.int 15)] [(.int 1)])
          subst hKK
          exact own_retN X10 hx hlk (t := .boolean) Bd.returns (by simp) (hb hby at_211) (w := (1 : Int32)) (show nar .boolean (1 : Int32) = 1 from by decide) ⟨rfl, N10⟩ (Nat.le_of_ble_eq_true rfl) (Nat.le_of_ble_eq_true rfl)
      · refine own_at (fun t k => XS.ifNo X0.here hx rfl (hb hby at_27) rfl (Jvm.Free.XT.i0_eq_f hc27) k) ?_
        show own_Go p e below KK s₁ (mkF m 30 #[.val (.int p1), .val (.int 1), .val (.int 0), .unset, .unset, .unset, .unset, .unset, .unset, .unset, .unset] [])
        refine own_at (fun t k => XS.iconst X0.here hx rfl (hb hby at_30) k) ?_
        show own_Go p e below KK s₁ (mkF m 31 #[.val (.int p1), .val (.int 1), .val (.int 0), .unset, .unset, .unset, .unset, .unset, .unset, .unset, .unset] [(.int 1)])
        refine own_at (fun t k => XS.goto X0.here hx rfl (pc0 := 31) (pc' := 35) rfl (hb hby at_31) (by decide) (by decide) k) ?_
        show own_Go p e below KK s₁ (mkF m 35 #[.val (.int p1), .val (.int 1), .val (.int 0), .unset, .unset, .unset, .unset, .unset, .unset, .unset, .unset] [(.int 1)])
        refine own_at (fun t k => XS.istoreN X0.here hx rfl (hb hby at_35) rfl (l' := #[.val (.int p1), .val (.int 1), .val (.int 0), .val (.int 1), .unset, .unset, .unset, .unset, .unset, .unset, .unset]) rfl k) ?_
        show own_Go p e below KK s₁ (mkF m 36 #[.val (.int p1), .val (.int 1), .val (.int 0), .val (.int 1), .unset, .unset, .unset, .unset, .unset, .unset, .unset] [])
        refine own_at (fun t k => XS.iloadN X0.here hx rfl (hb hby at_36) rfl k) ?_
        show own_Go p e below KK s₁ (mkF m 37 #[.val (.int p1), .val (.int 1), .val (.int 0), .val (.int 1), .unset, .unset, .unset, .unset, .unset, .unset, .unset] [(.int p1)])
        refine own_at (fun t k => XS.bipush X0.here hx rfl (hb hby at_37) k) ?_
        show own_Go p e below KK s₁ (mkF m 39 #[.val (.int p1), .val (.int 1), .val (.int 0), .val (.int 1), .unset, .unset, .unset, .unset, .unset, .unset, .unset] [(.int 8), (.int p1)])
        refine own_at (fun t k => XS.iand X0.here hx rfl (hb hby at_39) rfl k) ?_
        show own_Go p e below KK s₁ (mkF m 40 #[.val (.int p1), .val (.int 1), .val (.int 0), .val (.int 1), .unset, .unset, .unset, .unset, .unset, .unset, .unset] [(.int (p1 &&& (8 : Int32)))])
        by_cases hc40 : (p1 &&& (8 : Int32)) = (0 : Int32)
        · refine own_at (fun t k => XS.ifYes X0.here hx rfl (pc0 := 40) (pc' := 47) rfl (hb hby at_40) rfl (Jvm.Free.XT.i0_eq_t hc40) (by decide) (by decide) k) ?_
          show own_Go p e below KK s₁ (mkF m 47 #[.val (.int p1), .val (.int 1), .val (.int 0), .val (.int 1), .unset, .unset, .unset, .unset, .unset, .unset, .unset] [])
          refine own_at (fun t k => XS.iconst X0.here hx rfl (hb hby at_47) k) ?_
          show own_Go p e below KK s₁ (mkF m 48 #[.val (.int p1), .val (.int 1), .val (.int 0), .val (.int 1), .unset, .unset, .unset, .unset, .unset, .unset, .unset] [(.int 0)])
          refine own_at (fun t k => XS.istore X0.here hx rfl (hb hby at_48) rfl (l' := #[.val (.int p1), .val (.int 1), .val (.int 0), .val (.int 1), .val (.int 0), .unset, .unset, .unset, .unset, .unset, .unset]) rfl k) ?_
          show own_Go p e below KK s₁ (mkF m 50 #[.val (.int p1), .val (.int 1), .val (.int 0), .val (.int 1), .val (.int 0), .unset, .unset, .unset, .unset, .unset, .unset] [])
          refine own_at (fun t k => XS.iloadN X0.here hx rfl (hb hby at_50) rfl k) ?_
          show own_Go p e below KK s₁ (mkF m 51 #[.val (.int p1), .val (.int 1), .val (.int 0), .val (.int 1), .val (.int 0), .unset, .unset, .unset, .unset, .unset, .unset] [(.int 1)])
          refine own_at (fun t k => XS.iloadN X0.here hx rfl (hb hby at_51) rfl k) ?_
          show own_Go p e below KK s₁ (mkF m 52 #[.val (.int p1), .val (.int 1), .val (.int 0), .val (.int 1), .val (.int 0), .unset, .unset, .unset, .unset, .unset, .unset] [(.int 0), (.int 1)])
          refine own_at (fun t k => XS.iloadN X0.here hx rfl (hb hby at_52) rfl k) ?_
          show own_Go p e below KK s₁ (mkF m 53 #[.val (.int p1), .val (.int 1), .val (.int 0), .val (.int 1), .val (.int 0), .unset, .unset, .unset, .unset, .unset, .unset] [(.int 1), (.int 0), (.int 1)])
          refine own_at (fun t k => XS.iload X0.here hx rfl (hb hby at_53) rfl k) ?_
          show own_Go p e below KK s₁ (mkF m 55 #[.val (.int p1), .val (.int 1), .val (.int 0), .val (.int 1), .val (.int 0), .unset, .unset, .unset, .unset, .unset, .unset] [(.int 0), (.int 1), (.int 0), (.int 1)])
          obtain ⟨_, _, ⟨T11, L11, k11, n11⟩, -, X11, ⟨Lc11, hQ11, l11, y11, z11⟩, st11⟩ := Jvm.LawKit.callS X0 hx (y := (⟨"com/example/oyster/oyster/core/form/NamedTest", "ends", "(ZZZZ)I"⟩ : MethodName)) hown (mvT hZ (hw _ (List.mem_of_getElem? (i := 0) rfl))) (mvT hZ (hw _ (List.mem_of_getElem? (i := 1) rfl))) (mvT hZ (hw _ (List.mem_of_getElem? (i := 2) rfl))) (mvT hZ (hw _ (List.mem_of_getElem? (i := 3) rfl))) (by decide) (backOf (W := 0) (rm_prog_119_2 l Z a0 hw [] (1 : Int32) (0 : Int32) (1 : Int32) (0 : Int32)  h0 n0 Z0 ) hZ (hw _ (List.mem_of_getElem? (i := 3) rfl)) (hw _ (List.mem_of_getElem? (i := 2) rfl)) (by decide) (by decide)) (g := (mkF m 55 #[.val (.int p1), .val (.int 1), .val (.int 0), .val (.int 1), .val (.int 0), .unset, .unset, .unset, .unset, .unset, .unset] [(.int 0), (.int 1), (.int 0), (.int 1)])) rfl (by rw [hml]; rfl) (argsL := [(.int 1), (.int 0), (.int 1), (.int 0)]) (rest := []) (lenOf pd__ZZZZ_I rfl) rfl (by show 2 * 0 + _ ≤ _; exact Nat.le_of_eq rfl) (hb hby at_55) (fun _ _ => ⟨rfl, e0, (by decide : 0 + 0 ≤ _), (by decide : 0 + 0 ≤ _)⟩)
          dsimp only [Pt.U, Pt.locs, Pt.cells, Pt.slots] at X11 l11 y11 z11 st11 hQ11
          subst l11 y11 z11
          obtain ⟨rfl, N11q, e11⟩ := hQ11
          rw [show (own_F_prog_119_2 (1 : Int32) (0 : Int32) (1 : Int32) (0 : Int32)) = (5 : Int32) from by decide] at st11
          have N11 := Fr.app N0 N11q
          refine own_of (fun t k => st11 t k) ?_
          show own_Go p e below KK T11 (mkF m 58 #[.val (.int p1), .val (.int 1), .val (.int 0), .val (.int 1), .val (.int 0), .unset, .unset, .unset, .unset, .unset, .unset] [(.int 5)])
          refine own_at (fun t k => XS.istore X11.here hx rfl (hb hby at_58) rfl (l' := #[.val (.int p1), .val (.int 1), .val (.int 0), .val (.int 1), .val (.int 0), .val (.int 5), .unset, .unset, .unset, .unset, .unset]) rfl k) ?_
          show own_Go p e below KK T11 (mkF m 60 #[.val (.int p1), .val (.int 1), .val (.int 0), .val (.int 1), .val (.int 0), .val (.int 5), .unset, .unset, .unset, .unset, .unset] [])
          refine own_at (fun t k => XS.iload X11.here hx rfl (hb hby at_60) rfl k) ?_
          show own_Go p e below KK T11 (mkF m 62 #[.val (.int p1), .val (.int 1), .val (.int 0), .val (.int 1), .val (.int 0), .val (.int 5), .unset, .unset, .unset, .unset, .unset] [(.int 5)])
          refine own_at (fun t k => XS.iconst X11.here hx rfl (hb hby at_62) k) ?_
          show own_Go p e below KK T11 (mkF m 63 #[.val (.int p1), .val (.int 1), .val (.int 0), .val (.int 1), .val (.int 0), .val (.int 5), .unset, .unset, .unset, .unset, .unset] [(.int 1), (.int 5)])
          refine own_at (fun t k => XS.iand X11.here hx rfl (hb hby at_63) rfl k) ?_
          show own_Go p e below KK T11 (mkF m 64 #[.val (.int p1), .val (.int 1), .val (.int 0), .val (.int 1), .val (.int 0), .val (.int 5), .unset, .unset, .unset, .unset, .unset] [(.int ((5 : Int32) &&& (1 : Int32)))])
          rw [show ((5 : Int32) &&& (1 : Int32)) = (1 : Int32) from by decide]
          show own_Go p e below KK T11 (mkF m 64 #[.val (.int p1), .val (.int 1), .val (.int 0), .val (.int 1), .val (.int 0), .val (.int 5), .unset, .unset, .unset, .unset, .unset] [(.int 1)])
          have hc64 : ¬ ((1 : Int32) = (0 : Int32)) := by decide
          refine own_at (fun t k => XS.ifNo X11.here hx rfl (hb hby at_64) rfl (Jvm.Free.XT.i0_eq_f hc64) k) ?_
          show own_Go p e below KK T11 (mkF m 67 #[.val (.int p1), .val (.int 1), .val (.int 0), .val (.int 1), .val (.int 0), .val (.int 5), .unset, .unset, .unset, .unset, .unset] [])
          refine own_at (fun t k => XS.iconst X11.here hx rfl (hb hby at_67) k) ?_
          show own_Go p e below KK T11 (mkF m 68 #[.val (.int p1), .val (.int 1), .val (.int 0), .val (.int 1), .val (.int 0), .val (.int 5), .unset, .unset, .unset, .unset, .unset] [(.int 1)])
          refine own_at (fun t k => XS.goto X11.here hx rfl (pc0 := 68) (pc' := 72) rfl (hb hby at_68) (by decide) (by decide) k) ?_
          show own_Go p e below KK T11 (mkF m 72 #[.val (.int p1), .val (.int 1), .val (.int 0), .val (.int 1), .val (.int 0), .val (.int 5), .unset, .unset, .unset, .unset, .unset] [(.int 1)])
          refine own_at (fun t k => XS.istore X11.here hx rfl (hb hby at_72) rfl (l' := #[.val (.int p1), .val (.int 1), .val (.int 0), .val (.int 1), .val (.int 0), .val (.int 5), .val (.int 1), .unset, .unset, .unset, .unset]) rfl k) ?_
          show own_Go p e below KK T11 (mkF m 74 #[.val (.int p1), .val (.int 1), .val (.int 0), .val (.int 1), .val (.int 0), .val (.int 5), .val (.int 1), .unset, .unset, .unset, .unset] [])
          refine own_at (fun t k => XS.iload X11.here hx rfl (hb hby at_74) rfl k) ?_
          show own_Go p e below KK T11 (mkF m 76 #[.val (.int p1), .val (.int 1), .val (.int 0), .val (.int 1), .val (.int 0), .val (.int 5), .val (.int 1), .unset, .unset, .unset, .unset] [(.int 5)])
          refine own_at (fun t k => XS.iconst X11.here hx rfl (hb hby at_76) k) ?_
          show own_Go p e below KK T11 (mkF m 77 #[.val (.int p1), .val (.int 1), .val (.int 0), .val (.int 1), .val (.int 0), .val (.int 5), .val (.int 1), .unset, .unset, .unset, .unset] [(.int 2), (.int 5)])
          refine own_at (fun t k => XS.iand X11.here hx rfl (hb hby at_77) rfl k) ?_
          show own_Go p e below KK T11 (mkF m 78 #[.val (.int p1), .val (.int 1), .val (.int 0), .val (.int 1), .val (.int 0), .val (.int 5), .val (.int 1), .unset, .unset, .unset, .unset] [(.int ((5 : Int32) &&& (2 : Int32)))])
          rw [show ((5 : Int32) &&& (2 : Int32)) = (0 : Int32) from by decide]
          show own_Go p e below KK T11 (mkF m 78 #[.val (.int p1), .val (.int 1), .val (.int 0), .val (.int 1), .val (.int 0), .val (.int 5), .val (.int 1), .unset, .unset, .unset, .unset] [(.int 0)])
          have hc78 : (0 : Int32) = (0 : Int32) := by decide
          refine own_at (fun t k => XS.ifYes X11.here hx rfl (pc0 := 78) (pc' := 85) rfl (hb hby at_78) rfl (Jvm.Free.XT.i0_eq_t hc78) (by decide) (by decide) k) ?_
          show own_Go p e below KK T11 (mkF m 85 #[.val (.int p1), .val (.int 1), .val (.int 0), .val (.int 1), .val (.int 0), .val (.int 5), .val (.int 1), .unset, .unset, .unset, .unset] [])
          refine own_at (fun t k => XS.iconst X11.here hx rfl (hb hby at_85) k) ?_
          show own_Go p e below KK T11 (mkF m 86 #[.val (.int p1), .val (.int 1), .val (.int 0), .val (.int 1), .val (.int 0), .val (.int 5), .val (.int 1), .unset, .unset, .unset, .unset] [(.int 0)])
          refine own_at (fun t k => XS.istore X11.here hx rfl (hb hby at_86) rfl (l' := #[.val (.int p1), .val (.int 1), .val (.int 0), .val (.int 1), .val (.int 0), .val (.int 5), .val (.int 1), .val (.int 0), .unset, .unset, .unset]) rfl k) ?_
          show own_Go p e below KK T11 (mkF m 88 #[.val (.int p1), .val (.int 1), .val (.int 0), .val (.int 1), .val (.int 0), .val (.int 5), .val (.int 1), .val (.int 0), .unset, .unset, .unset] [])
          refine own_at (fun t k => XS.iload X11.here hx rfl (hb hby at_88) rfl k) ?_
          show own_Go p e below KK T11 (mkF m 90 #[.val (.int p1), .val (.int 1), .val (.int 0), .val (.int 1), .val (.int 0), .val (.int 5), .val (.int 1), .val (.int 0), .unset, .unset, .unset] [(.int 5)])
          refine own_at (fun t k => XS.iconst X11.here hx rfl (hb hby at_90) k) ?_
          show own_Go p e below KK T11 (mkF m 91 #[.val (.int p1), .val (.int 1), .val (.int 0), .val (.int 1), .val (.int 0), .val (.int 5), .val (.int 1), .val (.int 0), .unset, .unset, .unset] [(.int 4), (.int 5)])
          refine own_at (fun t k => XS.iand X11.here hx rfl (hb hby at_91) rfl k) ?_
          show own_Go p e below KK T11 (mkF m 92 #[.val (.int p1), .val (.int 1), .val (.int 0), .val (.int 1), .val (.int 0), .val (.int 5), .val (.int 1), .val (.int 0), .unset, .unset, .unset] [(.int ((5 : Int32) &&& (4 : Int32)))])
          rw [show ((5 : Int32) &&& (4 : Int32)) = (4 : Int32) from by decide]
          show own_Go p e below KK T11 (mkF m 92 #[.val (.int p1), .val (.int 1), .val (.int 0), .val (.int 1), .val (.int 0), .val (.int 5), .val (.int 1), .val (.int 0), .unset, .unset, .unset] [(.int 4)])
          have hc92 : ¬ ((4 : Int32) = (0 : Int32)) := by decide
          refine own_at (fun t k => XS.ifNo X11.here hx rfl (hb hby at_92) rfl (Jvm.Free.XT.i0_eq_f hc92) k) ?_
          show own_Go p e below KK T11 (mkF m 95 #[.val (.int p1), .val (.int 1), .val (.int 0), .val (.int 1), .val (.int 0), .val (.int 5), .val (.int 1), .val (.int 0), .unset, .unset, .unset] [])
          refine own_at (fun t k => XS.iconst X11.here hx rfl (hb hby at_95) k) ?_
          show own_Go p e below KK T11 (mkF m 96 #[.val (.int p1), .val (.int 1), .val (.int 0), .val (.int 1), .val (.int 0), .val (.int 5), .val (.int 1), .val (.int 0), .unset, .unset, .unset] [(.int 1)])
          refine own_at (fun t k => XS.goto X11.here hx rfl (pc0 := 96) (pc' := 100) rfl (hb hby at_96) (by decide) (by decide) k) ?_
          show own_Go p e below KK T11 (mkF m 100 #[.val (.int p1), .val (.int 1), .val (.int 0), .val (.int 1), .val (.int 0), .val (.int 5), .val (.int 1), .val (.int 0), .unset, .unset, .unset] [(.int 1)])
          refine own_at (fun t k => XS.istore X11.here hx rfl (hb hby at_100) rfl (l' := #[.val (.int p1), .val (.int 1), .val (.int 0), .val (.int 1), .val (.int 0), .val (.int 5), .val (.int 1), .val (.int 0), .val (.int 1), .unset, .unset]) rfl k) ?_
          show own_Go p e below KK T11 (mkF m 102 #[.val (.int p1), .val (.int 1), .val (.int 0), .val (.int 1), .val (.int 0), .val (.int 5), .val (.int 1), .val (.int 0), .val (.int 1), .unset, .unset] [])
          refine own_at (fun t k => XS.iload X11.here hx rfl (hb hby at_102) rfl k) ?_
          show own_Go p e below KK T11 (mkF m 104 #[.val (.int p1), .val (.int 1), .val (.int 0), .val (.int 1), .val (.int 0), .val (.int 5), .val (.int 1), .val (.int 0), .val (.int 1), .unset, .unset] [(.int 5)])
          refine own_at (fun t k => XS.bipush X11.here hx rfl (hb hby at_104) k) ?_
          show own_Go p e below KK T11 (mkF m 106 #[.val (.int p1), .val (.int 1), .val (.int 0), .val (.int 1), .val (.int 0), .val (.int 5), .val (.int 1), .val (.int 0), .val (.int 1), .unset, .unset] [(.int 8), (.int 5)])
          refine own_at (fun t k => XS.iand X11.here hx rfl (hb hby at_106) rfl k) ?_
          show own_Go p e below KK T11 (mkF m 107 #[.val (.int p1), .val (.int 1), .val (.int 0), .val (.int 1), .val (.int 0), .val (.int 5), .val (.int 1), .val (.int 0), .val (.int 1), .unset, .unset] [(.int ((5 : Int32) &&& (8 : Int32)))])
          rw [show ((5 : Int32) &&& (8 : Int32)) = (0 : Int32) from by decide]
          show own_Go p e below KK T11 (mkF m 107 #[.val (.int p1), .val (.int 1), .val (.int 0), .val (.int 1), .val (.int 0), .val (.int 5), .val (.int 1), .val (.int 0), .val (.int 1), .unset, .unset] [(.int 0)])
          have hc107 : (0 : Int32) = (0 : Int32) := by decide
          refine own_at (fun t k => XS.ifYes X11.here hx rfl (pc0 := 107) (pc' := 114) rfl (hb hby at_107) rfl (Jvm.Free.XT.i0_eq_t hc107) (by decide) (by decide) k) ?_
          show own_Go p e below KK T11 (mkF m 114 #[.val (.int p1), .val (.int 1), .val (.int 0), .val (.int 1), .val (.int 0), .val (.int 5), .val (.int 1), .val (.int 0), .val (.int 1), .unset, .unset] [])
          refine own_at (fun t k => XS.iconst X11.here hx rfl (hb hby at_114) k) ?_
          show own_Go p e below KK T11 (mkF m 115 #[.val (.int p1), .val (.int 1), .val (.int 0), .val (.int 1), .val (.int 0), .val (.int 5), .val (.int 1), .val (.int 0), .val (.int 1), .unset, .unset] [(.int 0)])
          refine own_at (fun t k => XS.istore X11.here hx rfl (hb hby at_115) rfl (l' := #[.val (.int p1), .val (.int 1), .val (.int 0), .val (.int 1), .val (.int 0), .val (.int 5), .val (.int 1), .val (.int 0), .val (.int 1), .val (.int 0), .unset]) rfl k) ?_
          show own_Go p e below KK T11 (mkF m 117 #[.val (.int p1), .val (.int 1), .val (.int 0), .val (.int 1), .val (.int 0), .val (.int 5), .val (.int 1), .val (.int 0), .val (.int 1), .val (.int 0), .unset] [])
          refine own_at (fun t k => XS.bipush X11.here hx rfl (hb hby at_117) k) ?_
          show own_Go p e below KK T11 (mkF m 119 #[.val (.int p1), .val (.int 1), .val (.int 0), .val (.int 1), .val (.int 0), .val (.int 5), .val (.int 1), .val (.int 0), .val (.int 1), .val (.int 0), .unset] [(.int 15)])
          refine own_at (fun t k => XS.istore X11.here hx rfl (hb hby at_119) rfl (l' := #[.val (.int p1), .val (.int 1), .val (.int 0), .val (.int 1), .val (.int 0), .val (.int 5), .val (.int 1), .val (.int 0), .val (.int 1), .val (.int 0), .val (.int 15)]) rfl k) ?_
          show own_Go p e below KK T11 (mkF m 121 #[.val (.int p1), .val (.int 1), .val (.int 0), .val (.int 1), .val (.int 0), .val (.int 5), .val (.int 1), .val (.int 0), .val (.int 1), .val (.int 0), .val (.int 15)] [])
          refine own_at (fun t k => XS.iload X11.here hx rfl (hb hby at_121) rfl k) ?_
          show own_Go p e below KK T11 (mkF m 123 #[.val (.int p1), .val (.int 1), .val (.int 0), .val (.int 1), .val (.int 0), .val (.int 5), .val (.int 1), .val (.int 0), .val (.int 1), .val (.int 0), .val (.int 15)] [(.int 1)])
          refine own_at (fun t k => XS.iloadN X11.here hx rfl (hb hby at_123) rfl k) ?_
          show own_Go p e below KK T11 (mkF m 124 #[.val (.int p1), .val (.int 1), .val (.int 0), .val (.int 1), .val (.int 0), .val (.int 5), .val (.int 1), .val (.int 0), .val (.int 1), .val (.int 0), .val (.int 15)] [(.int 1), (.int 1)])
          have hc124 : (1 : Int32) = (1 : Int32) := by decide
          refine own_at (fun t k => XS.icmpNo X11.here hx rfl (hb hby at_124) rfl (Jvm.Free.XT.ii_ne_f hc124) k) ?_
          show own_Go p e below KK T11 (mkF m 127 #[.val (.int p1), .val (.int 1), .val (.int 0), .val (.int 1), .val (.int 0), .val (.int 5), .val (.int 1), .val (.int 0), .val (.int 1), .val (.int 0), .val (.int 15)] [])
          refine own_at (fun t k => XS.iload X11.here hx rfl (hb hby at_127) rfl k) ?_
          show own_Go p e below KK T11 (mkF m 129 #[.val (.int p1), .val (.int 1), .val (.int 0), .val (.int 1), .val (.int 0), .val (.int 5), .val (.int 1), .val (.int 0), .val (.int 1), .val (.int 0), .val (.int 15)] [(.int 0)])
          refine own_at (fun t k => XS.iloadN X11.here hx rfl (hb hby at_129) rfl k) ?_
          show own_Go p e below KK T11 (mkF m 130 #[.val (.int p1), .val (.int 1), .val (.int 0), .val (.int 1), .val (.int 0), .val (.int 5), .val (.int 1), .val (.int 0), .val (.int 1), .val (.int 0), .val (.int 15)] [(.int 1), (.int 0)])
          have hc130 : ¬ ((1 : Int32) = (0 : Int32)) := by decide
          refine own_at (fun t k => XS.ifNo X11.here hx rfl (hb hby at_130) rfl (Jvm.Free.XT.i0_eq_f hc130) k) ?_
          show own_Go p e below KK T11 (mkF m 133 #[.val (.int p1), .val (.int 1), .val (.int 0), .val (.int 1), .val (.int 0), .val (.int 5), .val (.int 1), .val (.int 0), .val (.int 1), .val (.int 0), .val (.int 15)] [(.int 0)])
          refine own_at (fun t k => XS.iloadN X11.here hx rfl (hb hby at_133) rfl k) ?_
          show own_Go p e below KK T11 (mkF m 134 #[.val (.int p1), .val (.int 1), .val (.int 0), .val (.int 1), .val (.int 0), .val (.int 5), .val (.int 1), .val (.int 0), .val (.int 1), .val (.int 0), .val (.int 15)] [(.int 0), (.int 0)])
          have hc134 : (0 : Int32) = (0 : Int32) := by decide
          refine own_at (fun t k => XS.ifYes X11.here hx rfl (pc0 := 134) (pc' := 141) rfl (hb hby at_134) rfl (Jvm.Free.XT.i0_eq_t hc134) (by decide) (by decide) k) ?_
          show own_Go p e below KK T11 (mkF m 141 #[.val (.int p1), .val (.int 1), .val (.int 0), .val (.int 1), .val (.int 0), .val (.int 5), .val (.int 1), .val (.int 0), .val (.int 1), .val (.int 0), .val (.int 15)] [(.int 0)])
          refine own_at (fun t k => XS.iconst X11.here hx rfl (hb hby at_141) k) ?_
          show own_Go p e below KK T11 (mkF m 142 #[.val (.int p1), .val (.int 1), .val (.int 0), .val (.int 1), .val (.int 0), .val (.int 5), .val (.int 1), .val (.int 0), .val (.int 1), .val (.int 0), .val (.int 15)] [(.int 0), (.int 0)])
          have hc142 : (0 : Int32) = (0 : Int32) := by decide
          refine own_at (fun t k => XS.icmpNo X11.here hx rfl (hb hby at_142) rfl (Jvm.Free.XT.ii_ne_f hc142) k) ?_
          show own_Go p e below KK T11 (mkF m 145 #[.val (.int p1), .val (.int 1), .val (.int 0), .val (.int 1), .val (.int 0), .val (.int 5), .val (.int 1), .val (.int 0), .val (.int 1), .val (.int 0), .val (.int 15)] [])
          refine own_at (fun t k => XS.iload X11.here hx rfl (hb hby at_145) rfl k) ?_
          show own_Go p e below KK T11 (mkF m 147 #[.val (.int p1), .val (.int 1), .val (.int 0), .val (.int 1), .val (.int 0), .val (.int 5), .val (.int 1), .val (.int 0), .val (.int 1), .val (.int 0), .val (.int 15)] [(.int 1)])
          refine own_at (fun t k => XS.iloadN X11.here hx rfl (hb hby at_147) rfl k) ?_
          show own_Go p e below KK T11 (mkF m 148 #[.val (.int p1), .val (.int 1), .val (.int 0), .val (.int 1), .val (.int 0), .val (.int 5), .val (.int 1), .val (.int 0), .val (.int 1), .val (.int 0), .val (.int 15)] [(.int 1), (.int 1)])
          have hc148 : (1 : Int32) = (1 : Int32) := by decide
          refine own_at (fun t k => XS.icmpNo X11.here hx rfl (hb hby at_148) rfl (Jvm.Free.XT.ii_ne_f hc148) k) ?_
          show own_Go p e below KK T11 (mkF m 151 #[.val (.int p1), .val (.int 1), .val (.int 0), .val (.int 1), .val (.int 0), .val (.int 5), .val (.int 1), .val (.int 0), .val (.int 1), .val (.int 0), .val (.int 15)] [])
          refine own_at (fun t k => XS.iload X11.here hx rfl (hb hby at_151) rfl k) ?_
          show own_Go p e below KK T11 (mkF m 153 #[.val (.int p1), .val (.int 1), .val (.int 0), .val (.int 1), .val (.int 0), .val (.int 5), .val (.int 1), .val (.int 0), .val (.int 1), .val (.int 0), .val (.int 15)] [(.int 0)])
          refine own_at (fun t k => XS.iloadN X11.here hx rfl (hb hby at_153) rfl k) ?_
          show own_Go p e below KK T11 (mkF m 154 #[.val (.int p1), .val (.int 1), .val (.int 0), .val (.int 1), .val (.int 0), .val (.int 5), .val (.int 1), .val (.int 0), .val (.int 1), .val (.int 0), .val (.int 15)] [(.int 1), (.int 0)])
          have hc154 : ¬ ((1 : Int32) = (0 : Int32)) := by decide
          refine own_at (fun t k => XS.ifNo X11.here hx rfl (hb hby at_154) rfl (Jvm.Free.XT.i0_eq_f hc154) k) ?_
          show own_Go p e below KK T11 (mkF m 157 #[.val (.int p1), .val (.int 1), .val (.int 0), .val (.int 1), .val (.int 0), .val (.int 5), .val (.int 1), .val (.int 0), .val (.int 1), .val (.int 0), .val (.int 15)] [(.int 0)])
          refine own_at (fun t k => XS.iload X11.here hx rfl (hb hby at_157) rfl k) ?_
          show own_Go p e below KK T11 (mkF m 159 #[.val (.int p1), .val (.int 1), .val (.int 0), .val (.int 1), .val (.int 0), .val (.int 5), .val (.int 1), .val (.int 0), .val (.int 1), .val (.int 0), .val (.int 15)] [(.int 0), (.int 0)])
          have hc159 : (0 : Int32) = (0 : Int32) := by decide
          refine own_at (fun t k => XS.ifYes X11.here hx rfl (pc0 := 159) (pc' := 166) rfl (hb hby at_159) rfl (Jvm.Free.XT.i0_eq_t hc159) (by decide) (by decide) k) ?_
          show own_Go p e below KK T11 (mkF m 166 #[.val (.int p1), .val (.int 1), .val (.int 0), .val (.int 1), .val (.int 0), .val (.int 5), .val (.int 1), .val (.int 0), .val (.int 1), .val (.int 0), .val (.int 15)] [(.int 0)])
          refine own_at (fun t k => XS.iconst X11.here hx rfl (hb hby at_166) k) ?_
          show own_Go p e below KK T11 (mkF m 167 #[.val (.int p1), .val (.int 1), .val (.int 0), .val (.int 1), .val (.int 0), .val (.int 5), .val (.int 1), .val (.int 0), .val (.int 1), .val (.int 0), .val (.int 15)] [(.int 0), (.int 0)])
          have hc167 : (0 : Int32) = (0 : Int32) := by decide
          refine own_at (fun t k => XS.icmpNo X11.here hx rfl (hb hby at_167) rfl (Jvm.Free.XT.ii_ne_f hc167) k) ?_
          show own_Go p e below KK T11 (mkF m 170 #[.val (.int p1), .val (.int 1), .val (.int 0), .val (.int 1), .val (.int 0), .val (.int 5), .val (.int 1), .val (.int 0), .val (.int 1), .val (.int 0), .val (.int 15)] [])
          refine own_at (fun t k => XS.iload X11.here hx rfl (hb hby at_170) rfl k) ?_
          show own_Go p e below KK T11 (mkF m 172 #[.val (.int p1), .val (.int 1), .val (.int 0), .val (.int 1), .val (.int 0), .val (.int 5), .val (.int 1), .val (.int 0), .val (.int 1), .val (.int 0), .val (.int 15)] [(.int 5)])
          refine own_at (fun t k => XS.iload X11.here hx rfl (hb hby at_172) rfl k) ?_
          show own_Go p e below KK T11 (mkF m 174 #[.val (.int p1), .val (.int 1), .val (.int 0), .val (.int 1), .val (.int 0), .val (.int 5), .val (.int 1), .val (.int 0), .val (.int 1), .val (.int 0), .val (.int 15)] [(.int 15), (.int 5)])
          refine own_at (fun t k => XS.iconst X11.here hx rfl (hb hby at_174) k) ?_
          show own_Go p e below KK T11 (mkF m 175 #[.val (.int p1), .val (.int 1), .val (.int 0), .val (.int 1), .val (.int 0), .val (.int 5), .val (.int 1), .val (.int 0), .val (.int 1), .val (.int 0), .val (.int 15)] [(.int (-1 : Int32)), (.int 15), (.int 5)])
          refine own_at (fun t k => XS.ixor X11.here hx rfl (hb hby at_175) rfl k) ?_
          show own_Go p e below KK T11 (mkF m 176 #[.val (.int p1), .val (.int 1), .val (.int 0), .val (.int 1), .val (.int 0), .val (.int 5), .val (.int 1), .val (.int 0), .val (.int 1), .val (.int 0), .val (.int 15)] [(.int ((15 : Int32) ^^^ (-1 : Int32))), (.int 5)])
          rw [show ((15 : Int32) ^^^ (-1 : Int32)) = (-16 : Int32) from by decide]
          show own_Go p e below KK T11 (mkF m 176 #[.val (.int p1), .val (.int 1), .val (.int 0), .val (.int 1), .val (.int 0), .val (.int 5), .val (.int 1), .val (.int 0), .val (.int 1), .val (.int 0), .val (.int 15)] [(.int (-16 : Int32)), (.int 5)])
          refine own_at (fun t k => XS.iand X11.here hx rfl (hb hby at_176) rfl k) ?_
          show own_Go p e below KK T11 (mkF m 177 #[.val (.int p1), .val (.int 1), .val (.int 0), .val (.int 1), .val (.int 0), .val (.int 5), .val (.int 1), .val (.int 0), .val (.int 1), .val (.int 0), .val (.int 15)] [(.int ((5 : Int32) &&& (-16 : Int32)))])
          rw [show ((5 : Int32) &&& (-16 : Int32)) = (0 : Int32) from by decide]
          show own_Go p e below KK T11 (mkF m 177 #[.val (.int p1), .val (.int 1), .val (.int 0), .val (.int 1), .val (.int 0), .val (.int 5), .val (.int 1), .val (.int 0), .val (.int 1), .val (.int 0), .val (.int 15)] [(.int 0)])
          have hc177 : (0 : Int32) = (0 : Int32) := by decide
          refine own_at (fun t k => XS.ifNo X11.here hx rfl (hb hby at_177) rfl (Jvm.Free.XT.i0_ne_f hc177) k) ?_
          show own_Go p e below KK T11 (mkF m 180 #[.val (.int p1), .val (.int 1), .val (.int 0), .val (.int 1), .val (.int 0), .val (.int 5), .val (.int 1), .val (.int 0), .val (.int 1), .val (.int 0), .val (.int 15)] [])
          refine own_at (fun t k => XS.iload X11.here hx rfl (hb hby at_180) rfl k) ?_
          show own_Go p e below KK T11 (mkF m 182 #[.val (.int p1), .val (.int 1), .val (.int 0), .val (.int 1), .val (.int 0), .val (.int 5), .val (.int 1), .val (.int 0), .val (.int 1), .val (.int 0), .val (.int 15)] [(.int 5)])
          have hc182 : ¬ ((5 : Int32) = (0 : Int32)) := by decide
          refine own_at (fun t k => XS.ifYes X11.here hx rfl (pc0 := 182) (pc' := 189) rfl (hb hby at_182) rfl (Jvm.Free.XT.i0_ne_t hc182) (by decide) (by decide) k) ?_
          show own_Go p e below KK T11 (mkF m 189 #[.val (.int p1), .val (.int 1), .val (.int 0), .val (.int 1), .val (.int 0), .val (.int 5), .val (.int 1), .val (.int 0), .val (.int 1), .val (.int 0), .val (.int 15)] [])
          refine own_at (fun t k => XS.iconst X11.here hx rfl (hb hby at_189) k) ?_
          show own_Go p e below KK T11 (mkF m 190 #[.val (.int p1), .val (.int 1), .val (.int 0), .val (.int 1), .val (.int 0), .val (.int 5), .val (.int 1), .val (.int 0), .val (.int 1), .val (.int 0), .val (.int 15)] [(.int 0)])
          refine own_at (fun t k => XS.iloadN X11.here hx rfl (hb hby at_190) rfl k) ?_
          show own_Go p e below KK T11 (mkF m 191 #[.val (.int p1), .val (.int 1), .val (.int 0), .val (.int 1), .val (.int 0), .val (.int 5), .val (.int 1), .val (.int 0), .val (.int 1), .val (.int 0), .val (.int 15)] [(.int 1), (.int 0)])
          have hc191 : ¬ ((1 : Int32) = (0 : Int32)) := by decide
          refine own_at (fun t k => XS.ifYes X11.here hx rfl (pc0 := 191) (pc' := 202) rfl (hb hby at_191) rfl (Jvm.Free.XT.i0_ne_t hc191) (by decide) (by decide) k) ?_
          show own_Go p e below KK T11 (mkF m 202 #[.val (.int p1), .val (.int 1), .val (.int 0), .val (.int 1), .val (.int 0), .val (.int 5), .val (.int 1), .val (.int 0), .val (.int 1), .val (.int 0), .val (.int 15)] [(.int 0)])
          refine own_at (fun t k => XS.iconst X11.here hx rfl (hb hby at_202) k) ?_
          show own_Go p e below KK T11 (mkF m 203 #[.val (.int p1), .val (.int 1), .val (.int 0), .val (.int 1), .val (.int 0), .val (.int 5), .val (.int 1), .val (.int 0), .val (.int 1), .val (.int 0), .val (.int 15)] [(.int 0), (.int 0)])
          have hc203 : (0 : Int32) = (0 : Int32) := by decide
          refine own_at (fun t k => XS.icmpNo X11.here hx rfl (hb hby at_203) rfl (Jvm.Free.XT.ii_ne_f hc203) k) ?_
          show own_Go p e below KK T11 (mkF m 206 #[.val (.int p1), .val (.int 1), .val (.int 0), .val (.int 1), .val (.int 0), .val (.int 5), .val (.int 1), .val (.int 0), .val (.int 1), .val (.int 0), .val (.int 15)] [])
          refine own_at (fun t k => XS.iconst X11.here hx rfl (hb hby at_206) k) ?_
          show own_Go p e below KK T11 (mkF m 207 #[.val (.int p1), .val (.int 1), .val (.int 0), .val (.int 1), .val (.int 0), .val (.int 5), .val (.int 1), .val (.int 0), .val (.int 1), .val (.int 0), .val (.int 15)] [(.int 1)])
          refine own_at (fun t k => XS.goto X11.here hx rfl (pc0 := 207) (pc' := 211) rfl (hb hby at_207) (by decide) (by decide) k) ?_
          show own_Go p e below KK T11 (mkF m 211 #[.val (.int p1), .val (.int 1), .val (.int 0), .val (.int 1), .val (.int 0), .val (.int 5), .val (.int 1), .val (.int 0), .val (.int 1), .val (.int 0), .val (.int 15)] [(.int 1)])
          subst hKK
          exact own_retN X11 hx hlk (t := .boolean) Bd.returns (by simp) (hb hby at_211) (w := (1 : Int32)) (show nar .boolean (1 : Int32) = 1 from by decide) ⟨rfl, N11⟩ (Nat.le_of_ble_eq_true rfl) (Nat.le_of_ble_eq_true rfl)
        · refine own_at (fun t k => XS.ifNo X0.here hx rfl (hb hby at_40) rfl (Jvm.Free.XT.i0_eq_f hc40) k) ?_
          show own_Go p e below KK s₁ (mkF m 43 #[.val (.int p1), .val (.int 1), .val (.int 0), .val (.int 1), .unset, .unset, .unset, .unset, .unset, .unset, .unset] [])
          refine own_at (fun t k => XS.iconst X0.here hx rfl (hb hby at_43) k) ?_
          show own_Go p e below KK s₁ (mkF m 44 #[.val (.int p1), .val (.int 1), .val (.int 0), .val (.int 1), .unset, .unset, .unset, .unset, .unset, .unset, .unset] [(.int 1)])
          refine own_at (fun t k => XS.goto X0.here hx rfl (pc0 := 44) (pc' := 48) rfl (hb hby at_44) (by decide) (by decide) k) ?_
          show own_Go p e below KK s₁ (mkF m 48 #[.val (.int p1), .val (.int 1), .val (.int 0), .val (.int 1), .unset, .unset, .unset, .unset, .unset, .unset, .unset] [(.int 1)])
          refine own_at (fun t k => XS.istore X0.here hx rfl (hb hby at_48) rfl (l' := #[.val (.int p1), .val (.int 1), .val (.int 0), .val (.int 1), .val (.int 1), .unset, .unset, .unset, .unset, .unset, .unset]) rfl k) ?_
          show own_Go p e below KK s₁ (mkF m 50 #[.val (.int p1), .val (.int 1), .val (.int 0), .val (.int 1), .val (.int 1), .unset, .unset, .unset, .unset, .unset, .unset] [])
          refine own_at (fun t k => XS.iloadN X0.here hx rfl (hb hby at_50) rfl k) ?_
          show own_Go p e below KK s₁ (mkF m 51 #[.val (.int p1), .val (.int 1), .val (.int 0), .val (.int 1), .val (.int 1), .unset, .unset, .unset, .unset, .unset, .unset] [(.int 1)])
          refine own_at (fun t k => XS.iloadN X0.here hx rfl (hb hby at_51) rfl k) ?_
          show own_Go p e below KK s₁ (mkF m 52 #[.val (.int p1), .val (.int 1), .val (.int 0), .val (.int 1), .val (.int 1), .unset, .unset, .unset, .unset, .unset, .unset] [(.int 0), (.int 1)])
          refine own_at (fun t k => XS.iloadN X0.here hx rfl (hb hby at_52) rfl k) ?_
          show own_Go p e below KK s₁ (mkF m 53 #[.val (.int p1), .val (.int 1), .val (.int 0), .val (.int 1), .val (.int 1), .unset, .unset, .unset, .unset, .unset, .unset] [(.int 1), (.int 0), (.int 1)])
          refine own_at (fun t k => XS.iload X0.here hx rfl (hb hby at_53) rfl k) ?_
          show own_Go p e below KK s₁ (mkF m 55 #[.val (.int p1), .val (.int 1), .val (.int 0), .val (.int 1), .val (.int 1), .unset, .unset, .unset, .unset, .unset, .unset] [(.int 1), (.int 1), (.int 0), (.int 1)])
          obtain ⟨_, _, ⟨T12, L12, k12, n12⟩, -, X12, ⟨Lc12, hQ12, l12, y12, z12⟩, st12⟩ := Jvm.LawKit.callS X0 hx (y := (⟨"com/example/oyster/oyster/core/form/NamedTest", "ends", "(ZZZZ)I"⟩ : MethodName)) hown (mvT hZ (hw _ (List.mem_of_getElem? (i := 0) rfl))) (mvT hZ (hw _ (List.mem_of_getElem? (i := 1) rfl))) (mvT hZ (hw _ (List.mem_of_getElem? (i := 2) rfl))) (mvT hZ (hw _ (List.mem_of_getElem? (i := 3) rfl))) (by decide) (backOf (W := 0) (rm_prog_119_2 l Z a0 hw [] (1 : Int32) (0 : Int32) (1 : Int32) (1 : Int32)  h0 n0 Z0 ) hZ (hw _ (List.mem_of_getElem? (i := 3) rfl)) (hw _ (List.mem_of_getElem? (i := 2) rfl)) (by decide) (by decide)) (g := (mkF m 55 #[.val (.int p1), .val (.int 1), .val (.int 0), .val (.int 1), .val (.int 1), .unset, .unset, .unset, .unset, .unset, .unset] [(.int 1), (.int 1), (.int 0), (.int 1)])) rfl (by rw [hml]; rfl) (argsL := [(.int 1), (.int 0), (.int 1), (.int 1)]) (rest := []) (lenOf pd__ZZZZ_I rfl) rfl (by show 2 * 0 + _ ≤ _; exact Nat.le_of_eq rfl) (hb hby at_55) (fun _ _ => ⟨rfl, e0, (by decide : 0 + 0 ≤ _), (by decide : 0 + 0 ≤ _)⟩)
          dsimp only [Pt.U, Pt.locs, Pt.cells, Pt.slots] at X12 l12 y12 z12 st12 hQ12
          subst l12 y12 z12
          obtain ⟨rfl, N12q, e12⟩ := hQ12
          rw [show (own_F_prog_119_2 (1 : Int32) (0 : Int32) (1 : Int32) (1 : Int32)) = (13 : Int32) from by decide] at st12
          have N12 := Fr.app N0 N12q
          refine own_of (fun t k => st12 t k) ?_
          show own_Go p e below KK T12 (mkF m 58 #[.val (.int p1), .val (.int 1), .val (.int 0), .val (.int 1), .val (.int 1), .unset, .unset, .unset, .unset, .unset, .unset] [(.int 13)])
          refine own_at (fun t k => XS.istore X12.here hx rfl (hb hby at_58) rfl (l' := #[.val (.int p1), .val (.int 1), .val (.int 0), .val (.int 1), .val (.int 1), .val (.int 13), .unset, .unset, .unset, .unset, .unset]) rfl k) ?_
          show own_Go p e below KK T12 (mkF m 60 #[.val (.int p1), .val (.int 1), .val (.int 0), .val (.int 1), .val (.int 1), .val (.int 13), .unset, .unset, .unset, .unset, .unset] [])
          refine own_at (fun t k => XS.iload X12.here hx rfl (hb hby at_60) rfl k) ?_
          show own_Go p e below KK T12 (mkF m 62 #[.val (.int p1), .val (.int 1), .val (.int 0), .val (.int 1), .val (.int 1), .val (.int 13), .unset, .unset, .unset, .unset, .unset] [(.int 13)])
          refine own_at (fun t k => XS.iconst X12.here hx rfl (hb hby at_62) k) ?_
          show own_Go p e below KK T12 (mkF m 63 #[.val (.int p1), .val (.int 1), .val (.int 0), .val (.int 1), .val (.int 1), .val (.int 13), .unset, .unset, .unset, .unset, .unset] [(.int 1), (.int 13)])
          refine own_at (fun t k => XS.iand X12.here hx rfl (hb hby at_63) rfl k) ?_
          show own_Go p e below KK T12 (mkF m 64 #[.val (.int p1), .val (.int 1), .val (.int 0), .val (.int 1), .val (.int 1), .val (.int 13), .unset, .unset, .unset, .unset, .unset] [(.int ((13 : Int32) &&& (1 : Int32)))])
          rw [show ((13 : Int32) &&& (1 : Int32)) = (1 : Int32) from by decide]
          show own_Go p e below KK T12 (mkF m 64 #[.val (.int p1), .val (.int 1), .val (.int 0), .val (.int 1), .val (.int 1), .val (.int 13), .unset, .unset, .unset, .unset, .unset] [(.int 1)])
          have hc64 : ¬ ((1 : Int32) = (0 : Int32)) := by decide
          refine own_at (fun t k => XS.ifNo X12.here hx rfl (hb hby at_64) rfl (Jvm.Free.XT.i0_eq_f hc64) k) ?_
          show own_Go p e below KK T12 (mkF m 67 #[.val (.int p1), .val (.int 1), .val (.int 0), .val (.int 1), .val (.int 1), .val (.int 13), .unset, .unset, .unset, .unset, .unset] [])
          refine own_at (fun t k => XS.iconst X12.here hx rfl (hb hby at_67) k) ?_
          show own_Go p e below KK T12 (mkF m 68 #[.val (.int p1), .val (.int 1), .val (.int 0), .val (.int 1), .val (.int 1), .val (.int 13), .unset, .unset, .unset, .unset, .unset] [(.int 1)])
          refine own_at (fun t k => XS.goto X12.here hx rfl (pc0 := 68) (pc' := 72) rfl (hb hby at_68) (by decide) (by decide) k) ?_
          show own_Go p e below KK T12 (mkF m 72 #[.val (.int p1), .val (.int 1), .val (.int 0), .val (.int 1), .val (.int 1), .val (.int 13), .unset, .unset, .unset, .unset, .unset] [(.int 1)])
          refine own_at (fun t k => XS.istore X12.here hx rfl (hb hby at_72) rfl (l' := #[.val (.int p1), .val (.int 1), .val (.int 0), .val (.int 1), .val (.int 1), .val (.int 13), .val (.int 1), .unset, .unset, .unset, .unset]) rfl k) ?_
          show own_Go p e below KK T12 (mkF m 74 #[.val (.int p1), .val (.int 1), .val (.int 0), .val (.int 1), .val (.int 1), .val (.int 13), .val (.int 1), .unset, .unset, .unset, .unset] [])
          refine own_at (fun t k => XS.iload X12.here hx rfl (hb hby at_74) rfl k) ?_
          show own_Go p e below KK T12 (mkF m 76 #[.val (.int p1), .val (.int 1), .val (.int 0), .val (.int 1), .val (.int 1), .val (.int 13), .val (.int 1), .unset, .unset, .unset, .unset] [(.int 13)])
          refine own_at (fun t k => XS.iconst X12.here hx rfl (hb hby at_76) k) ?_
          show own_Go p e below KK T12 (mkF m 77 #[.val (.int p1), .val (.int 1), .val (.int 0), .val (.int 1), .val (.int 1), .val (.int 13), .val (.int 1), .unset, .unset, .unset, .unset] [(.int 2), (.int 13)])
          refine own_at (fun t k => XS.iand X12.here hx rfl (hb hby at_77) rfl k) ?_
          show own_Go p e below KK T12 (mkF m 78 #[.val (.int p1), .val (.int 1), .val (.int 0), .val (.int 1), .val (.int 1), .val (.int 13), .val (.int 1), .unset, .unset, .unset, .unset] [(.int ((13 : Int32) &&& (2 : Int32)))])
          rw [show ((13 : Int32) &&& (2 : Int32)) = (0 : Int32) from by decide]
          show own_Go p e below KK T12 (mkF m 78 #[.val (.int p1), .val (.int 1), .val (.int 0), .val (.int 1), .val (.int 1), .val (.int 13), .val (.int 1), .unset, .unset, .unset, .unset] [(.int 0)])
          have hc78 : (0 : Int32) = (0 : Int32) := by decide
          refine own_at (fun t k => XS.ifYes X12.here hx rfl (pc0 := 78) (pc' := 85) rfl (hb hby at_78) rfl (Jvm.Free.XT.i0_eq_t hc78) (by decide) (by decide) k) ?_
          show own_Go p e below KK T12 (mkF m 85 #[.val (.int p1), .val (.int 1), .val (.int 0), .val (.int 1), .val (.int 1), .val (.int 13), .val (.int 1), .unset, .unset, .unset, .unset] [])
          refine own_at (fun t k => XS.iconst X12.here hx rfl (hb hby at_85) k) ?_
          show own_Go p e below KK T12 (mkF m 86 #[.val (.int p1), .val (.int 1), .val (.int 0), .val (.int 1), .val (.int 1), .val (.int 13), .val (.int 1), .unset, .unset, .unset, .unset] [(.int 0)])
          refine own_at (fun t k => XS.istore X12.here hx rfl (hb hby at_86) rfl (l' := #[.val (.int p1), .val (.int 1), .val (.int 0), .val (.int 1), .val (.int 1), .val (.int 13), .val (.int 1), .val (.int 0), .unset, .unset, .unset]) rfl k) ?_
          show own_Go p e below KK T12 (mkF m 88 #[.val (.int p1), .val (.int 1), .val (.int 0), .val (.int 1), .val (.int 1), .val (.int 13), .val (.int 1), .val (.int 0), .unset, .unset, .unset] [])
          refine own_at (fun t k => XS.iload X12.here hx rfl (hb hby at_88) rfl k) ?_
          show own_Go p e below KK T12 (mkF m 90 #[.val (.int p1), .val (.int 1), .val (.int 0), .val (.int 1), .val (.int 1), .val (.int 13), .val (.int 1), .val (.int 0), .unset, .unset, .unset] [(.int 13)])
          refine own_at (fun t k => XS.iconst X12.here hx rfl (hb hby at_90) k) ?_
          show own_Go p e below KK T12 (mkF m 91 #[.val (.int p1), .val (.int 1), .val (.int 0), .val (.int 1), .val (.int 1), .val (.int 13), .val (.int 1), .val (.int 0), .unset, .unset, .unset] [(.int 4), (.int 13)])
          refine own_at (fun t k => XS.iand X12.here hx rfl (hb hby at_91) rfl k) ?_
          show own_Go p e below KK T12 (mkF m 92 #[.val (.int p1), .val (.int 1), .val (.int 0), .val (.int 1), .val (.int 1), .val (.int 13), .val (.int 1), .val (.int 0), .unset, .unset, .unset] [(.int ((13 : Int32) &&& (4 : Int32)))])
          rw [show ((13 : Int32) &&& (4 : Int32)) = (4 : Int32) from by decide]
          show own_Go p e below KK T12 (mkF m 92 #[.val (.int p1), .val (.int 1), .val (.int 0), .val (.int 1), .val (.int 1), .val (.int 13), .val (.int 1), .val (.int 0), .unset, .unset, .unset] [(.int 4)])
          have hc92 : ¬ ((4 : Int32) = (0 : Int32)) := by decide
          refine own_at (fun t k => XS.ifNo X12.here hx rfl (hb hby at_92) rfl (Jvm.Free.XT.i0_eq_f hc92) k) ?_
          show own_Go p e below KK T12 (mkF m 95 #[.val (.int p1), .val (.int 1), .val (.int 0), .val (.int 1), .val (.int 1), .val (.int 13), .val (.int 1), .val (.int 0), .unset, .unset, .unset] [])
          refine own_at (fun t k => XS.iconst X12.here hx rfl (hb hby at_95) k) ?_
          show own_Go p e below KK T12 (mkF m 96 #[.val (.int p1), .val (.int 1), .val (.int 0), .val (.int 1), .val (.int 1), .val (.int 13), .val (.int 1), .val (.int 0), .unset, .unset, .unset] [(.int 1)])
          refine own_at (fun t k => XS.goto X12.here hx rfl (pc0 := 96) (pc' := 100) rfl (hb hby at_96) (by decide) (by decide) k) ?_
          show own_Go p e below KK T12 (mkF m 100 #[.val (.int p1), .val (.int 1), .val (.int 0), .val (.int 1), .val (.int 1), .val (.int 13), .val (.int 1), .val (.int 0), .unset, .unset, .unset] [(.int 1)])
          refine own_at (fun t k => XS.istore X12.here hx rfl (hb hby at_100) rfl (l' := #[.val (.int p1), .val (.int 1), .val (.int 0), .val (.int 1), .val (.int 1), .val (.int 13), .val (.int 1), .val (.int 0), .val (.int 1), .unset, .unset]) rfl k) ?_
          show own_Go p e below KK T12 (mkF m 102 #[.val (.int p1), .val (.int 1), .val (.int 0), .val (.int 1), .val (.int 1), .val (.int 13), .val (.int 1), .val (.int 0), .val (.int 1), .unset, .unset] [])
          refine own_at (fun t k => XS.iload X12.here hx rfl (hb hby at_102) rfl k) ?_
          show own_Go p e below KK T12 (mkF m 104 #[.val (.int p1), .val (.int 1), .val (.int 0), .val (.int 1), .val (.int 1), .val (.int 13), .val (.int 1), .val (.int 0), .val (.int 1), .unset, .unset] [(.int 13)])
          refine own_at (fun t k => XS.bipush X12.here hx rfl (hb hby at_104) k) ?_
          show own_Go p e below KK T12 (mkF m 106 #[.val (.int p1), .val (.int 1), .val (.int 0), .val (.int 1), .val (.int 1), .val (.int 13), .val (.int 1), .val (.int 0), .val (.int 1), .unset, .unset] [(.int 8), (.int 13)])
          refine own_at (fun t k => XS.iand X12.here hx rfl (hb hby at_106) rfl k) ?_
          show own_Go p e below KK T12 (mkF m 107 #[.val (.int p1), .val (.int 1), .val (.int 0), .val (.int 1), .val (.int 1), .val (.int 13), .val (.int 1), .val (.int 0), .val (.int 1), .unset, .unset] [(.int ((13 : Int32) &&& (8 : Int32)))])
          rw [show ((13 : Int32) &&& (8 : Int32)) = (8 : Int32) from by decide]
          show own_Go p e below KK T12 (mkF m 107 #[.val (.int p1), .val (.int 1), .val (.int 0), .val (.int 1), .val (.int 1), .val (.int 13), .val (.int 1), .val (.int 0), .val (.int 1), .unset, .unset] [(.int 8)])
          have hc107 : ¬ ((8 : Int32) = (0 : Int32)) := by decide
          refine own_at (fun t k => XS.ifNo X12.here hx rfl (hb hby at_107) rfl (Jvm.Free.XT.i0_eq_f hc107) k) ?_
          show own_Go p e below KK T12 (mkF m 110 #[.val (.int p1), .val (.int 1), .val (.int 0), .val (.int 1), .val (.int 1), .val (.int 13), .val (.int 1), .val (.int 0), .val (.int 1), .unset, .unset] [])
          refine own_at (fun t k => XS.iconst X12.here hx rfl (hb hby at_110) k) ?_
          show own_Go p e below KK T12 (mkF m 111 #[.val (.int p1), .val (.int 1), .val (.int 0), .val (.int 1), .val (.int 1), .val (.int 13), .val (.int 1), .val (.int 0), .val (.int 1), .unset, .unset] [(.int 1)])
          refine own_at (fun t k => XS.goto X12.here hx rfl (pc0 := 111) (pc' := 115) rfl (hb hby at_111) (by decide) (by decide) k) ?_
          show own_Go p e below KK T12 (mkF m 115 #[.val (.int p1), .val (.int 1), .val (.int 0), .val (.int 1), .val (.int 1), .val (.int 13), .val (.int 1), .val (.int 0), .val (.int 1), .unset, .unset] [(.int 1)])
          refine own_at (fun t k => XS.istore X12.here hx rfl (hb hby at_115) rfl (l' := #[.val (.int p1), .val (.int 1), .val (.int 0), .val (.int 1), .val (.int 1), .val (.int 13), .val (.int 1), .val (.int 0), .val (.int 1), .val (.int 1), .unset]) rfl k) ?_
          show own_Go p e below KK T12 (mkF m 117 #[.val (.int p1), .val (.int 1), .val (.int 0), .val (.int 1), .val (.int 1), .val (.int 13), .val (.int 1), .val (.int 0), .val (.int 1), .val (.int 1), .unset] [])
          refine own_at (fun t k => XS.bipush X12.here hx rfl (hb hby at_117) k) ?_
          show own_Go p e below KK T12 (mkF m 119 #[.val (.int p1), .val (.int 1), .val (.int 0), .val (.int 1), .val (.int 1), .val (.int 13), .val (.int 1), .val (.int 0), .val (.int 1), .val (.int 1), .unset] [(.int 15)])
          refine own_at (fun t k => XS.istore X12.here hx rfl (hb hby at_119) rfl (l' := #[.val (.int p1), .val (.int 1), .val (.int 0), .val (.int 1), .val (.int 1), .val (.int 13), .val (.int 1), .val (.int 0), .val (.int 1), .val (.int 1), .val (.int 15)]) rfl k) ?_
          show own_Go p e below KK T12 (mkF m 121 #[.val (.int p1), .val (.int 1), .val (.int 0), .val (.int 1), .val (.int 1), .val (.int 13), .val (.int 1), .val (.int 0), .val (.int 1), .val (.int 1), .val (.int 15)] [])
          refine own_at (fun t k => XS.iload X12.here hx rfl (hb hby at_121) rfl k) ?_
          show own_Go p e below KK T12 (mkF m 123 #[.val (.int p1), .val (.int 1), .val (.int 0), .val (.int 1), .val (.int 1), .val (.int 13), .val (.int 1), .val (.int 0), .val (.int 1), .val (.int 1), .val (.int 15)] [(.int 1)])
          refine own_at (fun t k => XS.iloadN X12.here hx rfl (hb hby at_123) rfl k) ?_
          show own_Go p e below KK T12 (mkF m 124 #[.val (.int p1), .val (.int 1), .val (.int 0), .val (.int 1), .val (.int 1), .val (.int 13), .val (.int 1), .val (.int 0), .val (.int 1), .val (.int 1), .val (.int 15)] [(.int 1), (.int 1)])
          have hc124 : (1 : Int32) = (1 : Int32) := by decide
          refine own_at (fun t k => XS.icmpNo X12.here hx rfl (hb hby at_124) rfl (Jvm.Free.XT.ii_ne_f hc124) k) ?_
          show own_Go p e below KK T12 (mkF m 127 #[.val (.int p1), .val (.int 1), .val (.int 0), .val (.int 1), .val (.int 1), .val (.int 13), .val (.int 1), .val (.int 0), .val (.int 1), .val (.int 1), .val (.int 15)] [])
          refine own_at (fun t k => XS.iload X12.here hx rfl (hb hby at_127) rfl k) ?_
          show own_Go p e below KK T12 (mkF m 129 #[.val (.int p1), .val (.int 1), .val (.int 0), .val (.int 1), .val (.int 1), .val (.int 13), .val (.int 1), .val (.int 0), .val (.int 1), .val (.int 1), .val (.int 15)] [(.int 0)])
          refine own_at (fun t k => XS.iloadN X12.here hx rfl (hb hby at_129) rfl k) ?_
          show own_Go p e below KK T12 (mkF m 130 #[.val (.int p1), .val (.int 1), .val (.int 0), .val (.int 1), .val (.int 1), .val (.int 13), .val (.int 1), .val (.int 0), .val (.int 1), .val (.int 1), .val (.int 15)] [(.int 1), (.int 0)])
          have hc130 : ¬ ((1 : Int32) = (0 : Int32)) := by decide
          refine own_at (fun t k => XS.ifNo X12.here hx rfl (hb hby at_130) rfl (Jvm.Free.XT.i0_eq_f hc130) k) ?_
          show own_Go p e below KK T12 (mkF m 133 #[.val (.int p1), .val (.int 1), .val (.int 0), .val (.int 1), .val (.int 1), .val (.int 13), .val (.int 1), .val (.int 0), .val (.int 1), .val (.int 1), .val (.int 15)] [(.int 0)])
          refine own_at (fun t k => XS.iloadN X12.here hx rfl (hb hby at_133) rfl k) ?_
          show own_Go p e below KK T12 (mkF m 134 #[.val (.int p1), .val (.int 1), .val (.int 0), .val (.int 1), .val (.int 1), .val (.int 13), .val (.int 1), .val (.int 0), .val (.int 1), .val (.int 1), .val (.int 15)] [(.int 0), (.int 0)])
          have hc134 : (0 : Int32) = (0 : Int32) := by decide
          refine own_at (fun t k => XS.ifYes X12.here hx rfl (pc0 := 134) (pc' := 141) rfl (hb hby at_134) rfl (Jvm.Free.XT.i0_eq_t hc134) (by decide) (by decide) k) ?_
          show own_Go p e below KK T12 (mkF m 141 #[.val (.int p1), .val (.int 1), .val (.int 0), .val (.int 1), .val (.int 1), .val (.int 13), .val (.int 1), .val (.int 0), .val (.int 1), .val (.int 1), .val (.int 15)] [(.int 0)])
          refine own_at (fun t k => XS.iconst X12.here hx rfl (hb hby at_141) k) ?_
          show own_Go p e below KK T12 (mkF m 142 #[.val (.int p1), .val (.int 1), .val (.int 0), .val (.int 1), .val (.int 1), .val (.int 13), .val (.int 1), .val (.int 0), .val (.int 1), .val (.int 1), .val (.int 15)] [(.int 0), (.int 0)])
          have hc142 : (0 : Int32) = (0 : Int32) := by decide
          refine own_at (fun t k => XS.icmpNo X12.here hx rfl (hb hby at_142) rfl (Jvm.Free.XT.ii_ne_f hc142) k) ?_
          show own_Go p e below KK T12 (mkF m 145 #[.val (.int p1), .val (.int 1), .val (.int 0), .val (.int 1), .val (.int 1), .val (.int 13), .val (.int 1), .val (.int 0), .val (.int 1), .val (.int 1), .val (.int 15)] [])
          refine own_at (fun t k => XS.iload X12.here hx rfl (hb hby at_145) rfl k) ?_
          show own_Go p e below KK T12 (mkF m 147 #[.val (.int p1), .val (.int 1), .val (.int 0), .val (.int 1), .val (.int 1), .val (.int 13), .val (.int 1), .val (.int 0), .val (.int 1), .val (.int 1), .val (.int 15)] [(.int 1)])
          refine own_at (fun t k => XS.iloadN X12.here hx rfl (hb hby at_147) rfl k) ?_
          show own_Go p e below KK T12 (mkF m 148 #[.val (.int p1), .val (.int 1), .val (.int 0), .val (.int 1), .val (.int 1), .val (.int 13), .val (.int 1), .val (.int 0), .val (.int 1), .val (.int 1), .val (.int 15)] [(.int 1), (.int 1)])
          have hc148 : (1 : Int32) = (1 : Int32) := by decide
          refine own_at (fun t k => XS.icmpNo X12.here hx rfl (hb hby at_148) rfl (Jvm.Free.XT.ii_ne_f hc148) k) ?_
          show own_Go p e below KK T12 (mkF m 151 #[.val (.int p1), .val (.int 1), .val (.int 0), .val (.int 1), .val (.int 1), .val (.int 13), .val (.int 1), .val (.int 0), .val (.int 1), .val (.int 1), .val (.int 15)] [])
          refine own_at (fun t k => XS.iload X12.here hx rfl (hb hby at_151) rfl k) ?_
          show own_Go p e below KK T12 (mkF m 153 #[.val (.int p1), .val (.int 1), .val (.int 0), .val (.int 1), .val (.int 1), .val (.int 13), .val (.int 1), .val (.int 0), .val (.int 1), .val (.int 1), .val (.int 15)] [(.int 1)])
          refine own_at (fun t k => XS.iloadN X12.here hx rfl (hb hby at_153) rfl k) ?_
          show own_Go p e below KK T12 (mkF m 154 #[.val (.int p1), .val (.int 1), .val (.int 0), .val (.int 1), .val (.int 1), .val (.int 13), .val (.int 1), .val (.int 0), .val (.int 1), .val (.int 1), .val (.int 15)] [(.int 1), (.int 1)])
          have hc154 : ¬ ((1 : Int32) = (0 : Int32)) := by decide
          refine own_at (fun t k => XS.ifNo X12.here hx rfl (hb hby at_154) rfl (Jvm.Free.XT.i0_eq_f hc154) k) ?_
          show own_Go p e below KK T12 (mkF m 157 #[.val (.int p1), .val (.int 1), .val (.int 0), .val (.int 1), .val (.int 1), .val (.int 13), .val (.int 1), .val (.int 0), .val (.int 1), .val (.int 1), .val (.int 15)] [(.int 1)])
          refine own_at (fun t k => XS.iload X12.here hx rfl (hb hby at_157) rfl k) ?_
          show own_Go p e below KK T12 (mkF m 159 #[.val (.int p1), .val (.int 1), .val (.int 0), .val (.int 1), .val (.int 1), .val (.int 13), .val (.int 1), .val (.int 0), .val (.int 1), .val (.int 1), .val (.int 15)] [(.int 1), (.int 1)])
          have hc159 : ¬ ((1 : Int32) = (0 : Int32)) := by decide
          refine own_at (fun t k => XS.ifNo X12.here hx rfl (hb hby at_159) rfl (Jvm.Free.XT.i0_eq_f hc159) k) ?_
          show own_Go p e below KK T12 (mkF m 162 #[.val (.int p1), .val (.int 1), .val (.int 0), .val (.int 1), .val (.int 1), .val (.int 13), .val (.int 1), .val (.int 0), .val (.int 1), .val (.int 1), .val (.int 15)] [(.int 1)])
          refine own_at (fun t k => XS.iconst X12.here hx rfl (hb hby at_162) k) ?_
          show own_Go p e below KK T12 (mkF m 163 #[.val (.int p1), .val (.int 1), .val (.int 0), .val (.int 1), .val (.int 1), .val (.int 13), .val (.int 1), .val (.int 0), .val (.int 1), .val (.int 1), .val (.int 15)] [(.int 1), (.int 1)])
          refine own_at (fun t k => XS.goto X12.here hx rfl (pc0 := 163) (pc' := 167) rfl (hb hby at_163) (by decide) (by decide) k) ?_
          show own_Go p e below KK T12 (mkF m 167 #[.val (.int p1), .val (.int 1), .val (.int 0), .val (.int 1), .val (.int 1), .val (.int 13), .val (.int 1), .val (.int 0), .val (.int 1), .val (.int 1), .val (.int 15)] [(.int 1), (.int 1)])
          have hc167 : (1 : Int32) = (1 : Int32) := by decide
          refine own_at (fun t k => XS.icmpNo X12.here hx rfl (hb hby at_167) rfl (Jvm.Free.XT.ii_ne_f hc167) k) ?_
          show own_Go p e below KK T12 (mkF m 170 #[.val (.int p1), .val (.int 1), .val (.int 0), .val (.int 1), .val (.int 1), .val (.int 13), .val (.int 1), .val (.int 0), .val (.int 1), .val (.int 1), .val (.int 15)] [])
          refine own_at (fun t k => XS.iload X12.here hx rfl (hb hby at_170) rfl k) ?_
          show own_Go p e below KK T12 (mkF m 172 #[.val (.int p1), .val (.int 1), .val (.int 0), .val (.int 1), .val (.int 1), .val (.int 13), .val (.int 1), .val (.int 0), .val (.int 1), .val (.int 1), .val (.int 15)] [(.int 13)])
          refine own_at (fun t k => XS.iload X12.here hx rfl (hb hby at_172) rfl k) ?_
          show own_Go p e below KK T12 (mkF m 174 #[.val (.int p1), .val (.int 1), .val (.int 0), .val (.int 1), .val (.int 1), .val (.int 13), .val (.int 1), .val (.int 0), .val (.int 1), .val (.int 1), .val (.int 15)] [(.int 15), (.int 13)])
          refine own_at (fun t k => XS.iconst X12.here hx rfl (hb hby at_174) k) ?_
          show own_Go p e below KK T12 (mkF m 175 #[.val (.int p1), .val (.int 1), .val (.int 0), .val (.int 1), .val (.int 1), .val (.int 13), .val (.int 1), .val (.int 0), .val (.int 1), .val (.int 1), .val (.int 15)] [(.int (-1 : Int32)), (.int 15), (.int 13)])
          refine own_at (fun t k => XS.ixor X12.here hx rfl (hb hby at_175) rfl k) ?_
          show own_Go p e below KK T12 (mkF m 176 #[.val (.int p1), .val (.int 1), .val (.int 0), .val (.int 1), .val (.int 1), .val (.int 13), .val (.int 1), .val (.int 0), .val (.int 1), .val (.int 1), .val (.int 15)] [(.int ((15 : Int32) ^^^ (-1 : Int32))), (.int 13)])
          rw [show ((15 : Int32) ^^^ (-1 : Int32)) = (-16 : Int32) from by decide]
          show own_Go p e below KK T12 (mkF m 176 #[.val (.int p1), .val (.int 1), .val (.int 0), .val (.int 1), .val (.int 1), .val (.int 13), .val (.int 1), .val (.int 0), .val (.int 1), .val (.int 1), .val (.int 15)] [(.int (-16 : Int32)), (.int 13)])
          refine own_at (fun t k => XS.iand X12.here hx rfl (hb hby at_176) rfl k) ?_
          show own_Go p e below KK T12 (mkF m 177 #[.val (.int p1), .val (.int 1), .val (.int 0), .val (.int 1), .val (.int 1), .val (.int 13), .val (.int 1), .val (.int 0), .val (.int 1), .val (.int 1), .val (.int 15)] [(.int ((13 : Int32) &&& (-16 : Int32)))])
          rw [show ((13 : Int32) &&& (-16 : Int32)) = (0 : Int32) from by decide]
          show own_Go p e below KK T12 (mkF m 177 #[.val (.int p1), .val (.int 1), .val (.int 0), .val (.int 1), .val (.int 1), .val (.int 13), .val (.int 1), .val (.int 0), .val (.int 1), .val (.int 1), .val (.int 15)] [(.int 0)])
          have hc177 : (0 : Int32) = (0 : Int32) := by decide
          refine own_at (fun t k => XS.ifNo X12.here hx rfl (hb hby at_177) rfl (Jvm.Free.XT.i0_ne_f hc177) k) ?_
          show own_Go p e below KK T12 (mkF m 180 #[.val (.int p1), .val (.int 1), .val (.int 0), .val (.int 1), .val (.int 1), .val (.int 13), .val (.int 1), .val (.int 0), .val (.int 1), .val (.int 1), .val (.int 15)] [])
          refine own_at (fun t k => XS.iload X12.here hx rfl (hb hby at_180) rfl k) ?_
          show own_Go p e below KK T12 (mkF m 182 #[.val (.int p1), .val (.int 1), .val (.int 0), .val (.int 1), .val (.int 1), .val (.int 13), .val (.int 1), .val (.int 0), .val (.int 1), .val (.int 1), .val (.int 15)] [(.int 13)])
          have hc182 : ¬ ((13 : Int32) = (0 : Int32)) := by decide
          refine own_at (fun t k => XS.ifYes X12.here hx rfl (pc0 := 182) (pc' := 189) rfl (hb hby at_182) rfl (Jvm.Free.XT.i0_ne_t hc182) (by decide) (by decide) k) ?_
          show own_Go p e below KK T12 (mkF m 189 #[.val (.int p1), .val (.int 1), .val (.int 0), .val (.int 1), .val (.int 1), .val (.int 13), .val (.int 1), .val (.int 0), .val (.int 1), .val (.int 1), .val (.int 15)] [])
          refine own_at (fun t k => XS.iconst X12.here hx rfl (hb hby at_189) k) ?_
          show own_Go p e below KK T12 (mkF m 190 #[.val (.int p1), .val (.int 1), .val (.int 0), .val (.int 1), .val (.int 1), .val (.int 13), .val (.int 1), .val (.int 0), .val (.int 1), .val (.int 1), .val (.int 15)] [(.int 0)])
          refine own_at (fun t k => XS.iloadN X12.here hx rfl (hb hby at_190) rfl k) ?_
          show own_Go p e below KK T12 (mkF m 191 #[.val (.int p1), .val (.int 1), .val (.int 0), .val (.int 1), .val (.int 1), .val (.int 13), .val (.int 1), .val (.int 0), .val (.int 1), .val (.int 1), .val (.int 15)] [(.int 1), (.int 0)])
          have hc191 : ¬ ((1 : Int32) = (0 : Int32)) := by decide
          refine own_at (fun t k => XS.ifYes X12.here hx rfl (pc0 := 191) (pc' := 202) rfl (hb hby at_191) rfl (Jvm.Free.XT.i0_ne_t hc191) (by decide) (by decide) k) ?_
          show own_Go p e below KK T12 (mkF m 202 #[.val (.int p1), .val (.int 1), .val (.int 0), .val (.int 1), .val (.int 1), .val (.int 13), .val (.int 1), .val (.int 0), .val (.int 1), .val (.int 1), .val (.int 15)] [(.int 0)])
          refine own_at (fun t k => XS.iconst X12.here hx rfl (hb hby at_202) k) ?_
          show own_Go p e below KK T12 (mkF m 203 #[.val (.int p1), .val (.int 1), .val (.int 0), .val (.int 1), .val (.int 1), .val (.int 13), .val (.int 1), .val (.int 0), .val (.int 1), .val (.int 1), .val (.int 15)] [(.int 0), (.int 0)])
          have hc203 : (0 : Int32) = (0 : Int32) := by decide
          refine own_at (fun t k => XS.icmpNo X12.here hx rfl (hb hby at_203) rfl (Jvm.Free.XT.ii_ne_f hc203) k) ?_
          show own_Go p e below KK T12 (mkF m 206 #[.val (.int p1), .val (.int 1), .val (.int 0), .val (.int 1), .val (.int 1), .val (.int 13), .val (.int 1), .val (.int 0), .val (.int 1), .val (.int 1), .val (.int 15)] [])
          refine own_at (fun t k => XS.iconst X12.here hx rfl (hb hby at_206) k) ?_
          show own_Go p e below KK T12 (mkF m 207 #[.val (.int p1), .val (.int 1), .val (.int 0), .val (.int 1), .val (.int 1), .val (.int 13), .val (.int 1), .val (.int 0), .val (.int 1), .val (.int 1), .val (.int 15)] [(.int 1)])
          refine own_at (fun t k => XS.goto X12.here hx rfl (pc0 := 207) (pc' := 211) rfl (hb hby at_207) (by decide) (by decide) k) ?_
          show own_Go p e below KK T12 (mkF m 211 #[.val (.int p1), .val (.int 1), .val (.int 0), .val (.int 1), .val (.int 1), .val (.int 13), .val (.int 1), .val (.int 0), .val (.int 1), .val (.int 1), .val (.int 15)] [(.int 1)])
          subst hKK
          exact own_retN X12 hx hlk (t := .boolean) Bd.returns (by simp) (hb hby at_211) (w := (1 : Int32)) (show nar .boolean (1 : Int32) = 1 from by decide) ⟨rfl, N12⟩ (Nat.le_of_ble_eq_true rfl) (Nat.le_of_ble_eq_true rfl)
    · refine own_at (fun t k => XS.ifNo X0.here hx rfl (hb hby at_15) rfl (Jvm.Free.XT.i0_eq_f hc15) k) ?_
      show own_Go p e below KK s₁ (mkF m 18 #[.val (.int p1), .val (.int 1), .unset, .unset, .unset, .unset, .unset, .unset, .unset, .unset, .unset] [])
      refine own_at (fun t k => XS.iconst X0.here hx rfl (hb hby at_18) k) ?_
      show own_Go p e below KK s₁ (mkF m 19 #[.val (.int p1), .val (.int 1), .unset, .unset, .unset, .unset, .unset, .unset, .unset, .unset, .unset] [(.int 1)])
      refine own_at (fun t k => XS.goto X0.here hx rfl (pc0 := 19) (pc' := 23) rfl (hb hby at_19) (by decide) (by decide) k) ?_
      show own_Go p e below KK s₁ (mkF m 23 #[.val (.int p1), .val (.int 1), .unset, .unset, .unset, .unset, .unset, .unset, .unset, .unset, .unset] [(.int 1)])
      refine own_at (fun t k => XS.istoreN X0.here hx rfl (hb hby at_23) rfl (l' := #[.val (.int p1), .val (.int 1), .val (.int 1), .unset, .unset, .unset, .unset, .unset, .unset, .unset, .unset]) rfl k) ?_
      show own_Go p e below KK s₁ (mkF m 24 #[.val (.int p1), .val (.int 1), .val (.int 1), .unset, .unset, .unset, .unset, .unset, .unset, .unset, .unset] [])
      refine own_at (fun t k => XS.iloadN X0.here hx rfl (hb hby at_24) rfl k) ?_
      show own_Go p e below KK s₁ (mkF m 25 #[.val (.int p1), .val (.int 1), .val (.int 1), .unset, .unset, .unset, .unset, .unset, .unset, .unset, .unset] [(.int p1)])
      refine own_at (fun t k => XS.iconst X0.here hx rfl (hb hby at_25) k) ?_
      show own_Go p e below KK s₁ (mkF m 26 #[.val (.int p1), .val (.int 1), .val (.int 1), .unset, .unset, .unset, .unset, .unset, .unset, .unset, .unset] [(.int 4), (.int p1)])
      refine own_at (fun t k => XS.iand X0.here hx rfl (hb hby at_26) rfl k) ?_
      show own_Go p e below KK s₁ (mkF m 27 #[.val (.int p1), .val (.int 1), .val (.int 1), .unset, .unset, .unset, .unset, .unset, .unset, .unset, .unset] [(.int (p1 &&& (4 : Int32)))])
      by_cases hc27 : (p1 &&& (4 : Int32)) = (0 : Int32)
      · refine own_at (fun t k => XS.ifYes X0.here hx rfl (pc0 := 27) (pc' := 34) rfl (hb hby at_27) rfl (Jvm.Free.XT.i0_eq_t hc27) (by decide) (by decide) k) ?_
        show own_Go p e below KK s₁ (mkF m 34 #[.val (.int p1), .val (.int 1), .val (.int 1), .unset, .unset, .unset, .unset, .unset, .unset, .unset, .unset] [])
        refine own_at (fun t k => XS.iconst X0.here hx rfl (hb hby at_34) k) ?_
        show own_Go p e below KK s₁ (mkF m 35 #[.val (.int p1), .val (.int 1), .val (.int 1), .unset, .unset, .unset, .unset, .unset, .unset, .unset, .unset] [(.int 0)])
        refine own_at (fun t k => XS.istoreN X0.here hx rfl (hb hby at_35) rfl (l' := #[.val (.int p1), .val (.int 1), .val (.int 1), .val (.int 0), .unset, .unset, .unset, .unset, .unset, .unset, .unset]) rfl k) ?_
        show own_Go p e below KK s₁ (mkF m 36 #[.val (.int p1), .val (.int 1), .val (.int 1), .val (.int 0), .unset, .unset, .unset, .unset, .unset, .unset, .unset] [])
        refine own_at (fun t k => XS.iloadN X0.here hx rfl (hb hby at_36) rfl k) ?_
        show own_Go p e below KK s₁ (mkF m 37 #[.val (.int p1), .val (.int 1), .val (.int 1), .val (.int 0), .unset, .unset, .unset, .unset, .unset, .unset, .unset] [(.int p1)])
        refine own_at (fun t k => XS.bipush X0.here hx rfl (hb hby at_37) k) ?_
        show own_Go p e below KK s₁ (mkF m 39 #[.val (.int p1), .val (.int 1), .val (.int 1), .val (.int 0), .unset, .unset, .unset, .unset, .unset, .unset, .unset] [(.int 8), (.int p1)])
        refine own_at (fun t k => XS.iand X0.here hx rfl (hb hby at_39) rfl k) ?_
        show own_Go p e below KK s₁ (mkF m 40 #[.val (.int p1), .val (.int 1), .val (.int 1), .val (.int 0), .unset, .unset, .unset, .unset, .unset, .unset, .unset] [(.int (p1 &&& (8 : Int32)))])
        by_cases hc40 : (p1 &&& (8 : Int32)) = (0 : Int32)
        · refine own_at (fun t k => XS.ifYes X0.here hx rfl (pc0 := 40) (pc' := 47) rfl (hb hby at_40) rfl (Jvm.Free.XT.i0_eq_t hc40) (by decide) (by decide) k) ?_
          show own_Go p e below KK s₁ (mkF m 47 #[.val (.int p1), .val (.int 1), .val (.int 1), .val (.int 0), .unset, .unset, .unset, .unset, .unset, .unset, .unset] [])
          refine own_at (fun t k => XS.iconst X0.here hx rfl (hb hby at_47) k) ?_
          show own_Go p e below KK s₁ (mkF m 48 #[.val (.int p1), .val (.int 1), .val (.int 1), .val (.int 0), .unset, .unset, .unset, .unset, .unset, .unset, .unset] [(.int 0)])
          refine own_at (fun t k => XS.istore X0.here hx rfl (hb hby at_48) rfl (l' := #[.val (.int p1), .val (.int 1), .val (.int 1), .val (.int 0), .val (.int 0), .unset, .unset, .unset, .unset, .unset, .unset]) rfl k) ?_
          show own_Go p e below KK s₁ (mkF m 50 #[.val (.int p1), .val (.int 1), .val (.int 1), .val (.int 0), .val (.int 0), .unset, .unset, .unset, .unset, .unset, .unset] [])
          refine own_at (fun t k => XS.iloadN X0.here hx rfl (hb hby at_50) rfl k) ?_
          show own_Go p e below KK s₁ (mkF m 51 #[.val (.int p1), .val (.int 1), .val (.int 1), .val (.int 0), .val (.int 0), .unset, .unset, .unset, .unset, .unset, .unset] [(.int 1)])
          refine own_at (fun t k => XS.iloadN X0.here hx rfl (hb hby at_51) rfl k) ?_
          show own_Go p e below KK s₁ (mkF m 52 #[.val (.int p1), .val (.int 1), .val (.int 1), .val (.int 0), .val (.int 0), .unset, .unset, .unset, .unset, .unset, .unset] [(.int 1), (.int 1)])
          refine own_at (fun t k => XS.iloadN X0.here hx rfl (hb hby at_52) rfl k) ?_
          show own_Go p e below KK s₁ (mkF m 53 #[.val (.int p1), .val (.int 1), .val (.int 1), .val (.int 0), .val (.int 0), .unset, .unset, .unset, .unset, .unset, .unset] [(.int 0), (.int 1), (.int 1)])
          refine own_at (fun t k => XS.iload X0.here hx rfl (hb hby at_53) rfl k) ?_
          show own_Go p e below KK s₁ (mkF m 55 #[.val (.int p1), .val (.int 1), .val (.int 1), .val (.int 0), .val (.int 0), .unset, .unset, .unset, .unset, .unset, .unset] [(.int 0), (.int 0), (.int 1), (.int 1)])
          obtain ⟨_, _, ⟨T13, L13, k13, n13⟩, -, X13, ⟨Lc13, hQ13, l13, y13, z13⟩, st13⟩ := Jvm.LawKit.callS X0 hx (y := (⟨"com/example/oyster/oyster/core/form/NamedTest", "ends", "(ZZZZ)I"⟩ : MethodName)) hown (mvT hZ (hw _ (List.mem_of_getElem? (i := 0) rfl))) (mvT hZ (hw _ (List.mem_of_getElem? (i := 1) rfl))) (mvT hZ (hw _ (List.mem_of_getElem? (i := 2) rfl))) (mvT hZ (hw _ (List.mem_of_getElem? (i := 3) rfl))) (by decide) (backOf (W := 0) (rm_prog_119_2 l Z a0 hw [] (1 : Int32) (1 : Int32) (0 : Int32) (0 : Int32)  h0 n0 Z0 ) hZ (hw _ (List.mem_of_getElem? (i := 3) rfl)) (hw _ (List.mem_of_getElem? (i := 2) rfl)) (by decide) (by decide)) (g := (mkF m 55 #[.val (.int p1), .val (.int 1), .val (.int 1), .val (.int 0), .val (.int 0), .unset, .unset, .unset, .unset, .unset, .unset] [(.int 0), (.int 0), (.int 1), (.int 1)])) rfl (by rw [hml]; rfl) (argsL := [(.int 1), (.int 1), (.int 0), (.int 0)]) (rest := []) (lenOf pd__ZZZZ_I rfl) rfl (by show 2 * 0 + _ ≤ _; exact Nat.le_of_eq rfl) (hb hby at_55) (fun _ _ => ⟨rfl, e0, (by decide : 0 + 0 ≤ _), (by decide : 0 + 0 ≤ _)⟩)
          dsimp only [Pt.U, Pt.locs, Pt.cells, Pt.slots] at X13 l13 y13 z13 st13 hQ13
          subst l13 y13 z13
          obtain ⟨rfl, N13q, e13⟩ := hQ13
          rw [show (own_F_prog_119_2 (1 : Int32) (1 : Int32) (0 : Int32) (0 : Int32)) = (3 : Int32) from by decide] at st13
          have N13 := Fr.app N0 N13q
          refine own_of (fun t k => st13 t k) ?_
          show own_Go p e below KK T13 (mkF m 58 #[.val (.int p1), .val (.int 1), .val (.int 1), .val (.int 0), .val (.int 0), .unset, .unset, .unset, .unset, .unset, .unset] [(.int 3)])
          refine own_at (fun t k => XS.istore X13.here hx rfl (hb hby at_58) rfl (l' := #[.val (.int p1), .val (.int 1), .val (.int 1), .val (.int 0), .val (.int 0), .val (.int 3), .unset, .unset, .unset, .unset, .unset]) rfl k) ?_
          show own_Go p e below KK T13 (mkF m 60 #[.val (.int p1), .val (.int 1), .val (.int 1), .val (.int 0), .val (.int 0), .val (.int 3), .unset, .unset, .unset, .unset, .unset] [])
          refine own_at (fun t k => XS.iload X13.here hx rfl (hb hby at_60) rfl k) ?_
          show own_Go p e below KK T13 (mkF m 62 #[.val (.int p1), .val (.int 1), .val (.int 1), .val (.int 0), .val (.int 0), .val (.int 3), .unset, .unset, .unset, .unset, .unset] [(.int 3)])
          refine own_at (fun t k => XS.iconst X13.here hx rfl (hb hby at_62) k) ?_
          show own_Go p e below KK T13 (mkF m 63 #[.val (.int p1), .val (.int 1), .val (.int 1), .val (.int 0), .val (.int 0), .val (.int 3), .unset, .unset, .unset, .unset, .unset] [(.int 1), (.int 3)])
          refine own_at (fun t k => XS.iand X13.here hx rfl (hb hby at_63) rfl k) ?_
          show own_Go p e below KK T13 (mkF m 64 #[.val (.int p1), .val (.int 1), .val (.int 1), .val (.int 0), .val (.int 0), .val (.int 3), .unset, .unset, .unset, .unset, .unset] [(.int ((3 : Int32) &&& (1 : Int32)))])
          rw [show ((3 : Int32) &&& (1 : Int32)) = (1 : Int32) from by decide]
          show own_Go p e below KK T13 (mkF m 64 #[.val (.int p1), .val (.int 1), .val (.int 1), .val (.int 0), .val (.int 0), .val (.int 3), .unset, .unset, .unset, .unset, .unset] [(.int 1)])
          have hc64 : ¬ ((1 : Int32) = (0 : Int32)) := by decide
          refine own_at (fun t k => XS.ifNo X13.here hx rfl (hb hby at_64) rfl (Jvm.Free.XT.i0_eq_f hc64) k) ?_
          show own_Go p e below KK T13 (mkF m 67 #[.val (.int p1), .val (.int 1), .val (.int 1), .val (.int 0), .val (.int 0), .val (.int 3), .unset, .unset, .unset, .unset, .unset] [])
          refine own_at (fun t k => XS.iconst X13.here hx rfl (hb hby at_67) k) ?_
          show own_Go p e below KK T13 (mkF m 68 #[.val (.int p1), .val (.int 1), .val (.int 1), .val (.int 0), .val (.int 0), .val (.int 3), .unset, .unset, .unset, .unset, .unset] [(.int 1)])
          refine own_at (fun t k => XS.goto X13.here hx rfl (pc0 := 68) (pc' := 72) rfl (hb hby at_68) (by decide) (by decide) k) ?_
          show own_Go p e below KK T13 (mkF m 72 #[.val (.int p1), .val (.int 1), .val (.int 1), .val (.int 0), .val (.int 0), .val (.int 3), .unset, .unset, .unset, .unset, .unset] [(.int 1)])
          refine own_at (fun t k => XS.istore X13.here hx rfl (hb hby at_72) rfl (l' := #[.val (.int p1), .val (.int 1), .val (.int 1), .val (.int 0), .val (.int 0), .val (.int 3), .val (.int 1), .unset, .unset, .unset, .unset]) rfl k) ?_
          show own_Go p e below KK T13 (mkF m 74 #[.val (.int p1), .val (.int 1), .val (.int 1), .val (.int 0), .val (.int 0), .val (.int 3), .val (.int 1), .unset, .unset, .unset, .unset] [])
          refine own_at (fun t k => XS.iload X13.here hx rfl (hb hby at_74) rfl k) ?_
          show own_Go p e below KK T13 (mkF m 76 #[.val (.int p1), .val (.int 1), .val (.int 1), .val (.int 0), .val (.int 0), .val (.int 3), .val (.int 1), .unset, .unset, .unset, .unset] [(.int 3)])
          refine own_at (fun t k => XS.iconst X13.here hx rfl (hb hby at_76) k) ?_
          show own_Go p e below KK T13 (mkF m 77 #[.val (.int p1), .val (.int 1), .val (.int 1), .val (.int 0), .val (.int 0), .val (.int 3), .val (.int 1), .unset, .unset, .unset, .unset] [(.int 2), (.int 3)])
          refine own_at (fun t k => XS.iand X13.here hx rfl (hb hby at_77) rfl k) ?_
          show own_Go p e below KK T13 (mkF m 78 #[.val (.int p1), .val (.int 1), .val (.int 1), .val (.int 0), .val (.int 0), .val (.int 3), .val (.int 1), .unset, .unset, .unset, .unset] [(.int ((3 : Int32) &&& (2 : Int32)))])
          rw [show ((3 : Int32) &&& (2 : Int32)) = (2 : Int32) from by decide]
          show own_Go p e below KK T13 (mkF m 78 #[.val (.int p1), .val (.int 1), .val (.int 1), .val (.int 0), .val (.int 0), .val (.int 3), .val (.int 1), .unset, .unset, .unset, .unset] [(.int 2)])
          have hc78 : ¬ ((2 : Int32) = (0 : Int32)) := by decide
          refine own_at (fun t k => XS.ifNo X13.here hx rfl (hb hby at_78) rfl (Jvm.Free.XT.i0_eq_f hc78) k) ?_
          show own_Go p e below KK T13 (mkF m 81 #[.val (.int p1), .val (.int 1), .val (.int 1), .val (.int 0), .val (.int 0), .val (.int 3), .val (.int 1), .unset, .unset, .unset, .unset] [])
          refine own_at (fun t k => XS.iconst X13.here hx rfl (hb hby at_81) k) ?_
          show own_Go p e below KK T13 (mkF m 82 #[.val (.int p1), .val (.int 1), .val (.int 1), .val (.int 0), .val (.int 0), .val (.int 3), .val (.int 1), .unset, .unset, .unset, .unset] [(.int 1)])
          refine own_at (fun t k => XS.goto X13.here hx rfl (pc0 := 82) (pc' := 86) rfl (hb hby at_82) (by decide) (by decide) k) ?_
          show own_Go p e below KK T13 (mkF m 86 #[.val (.int p1), .val (.int 1), .val (.int 1), .val (.int 0), .val (.int 0), .val (.int 3), .val (.int 1), .unset, .unset, .unset, .unset] [(.int 1)])
          refine own_at (fun t k => XS.istore X13.here hx rfl (hb hby at_86) rfl (l' := #[.val (.int p1), .val (.int 1), .val (.int 1), .val (.int 0), .val (.int 0), .val (.int 3), .val (.int 1), .val (.int 1), .unset, .unset, .unset]) rfl k) ?_
          show own_Go p e below KK T13 (mkF m 88 #[.val (.int p1), .val (.int 1), .val (.int 1), .val (.int 0), .val (.int 0), .val (.int 3), .val (.int 1), .val (.int 1), .unset, .unset, .unset] [])
          refine own_at (fun t k => XS.iload X13.here hx rfl (hb hby at_88) rfl k) ?_
          show own_Go p e below KK T13 (mkF m 90 #[.val (.int p1), .val (.int 1), .val (.int 1), .val (.int 0), .val (.int 0), .val (.int 3), .val (.int 1), .val (.int 1), .unset, .unset, .unset] [(.int 3)])
          refine own_at (fun t k => XS.iconst X13.here hx rfl (hb hby at_90) k) ?_
          show own_Go p e below KK T13 (mkF m 91 #[.val (.int p1), .val (.int 1), .val (.int 1), .val (.int 0), .val (.int 0), .val (.int 3), .val (.int 1), .val (.int 1), .unset, .unset, .unset] [(.int 4), (.int 3)])
          refine own_at (fun t k => XS.iand X13.here hx rfl (hb hby at_91) rfl k) ?_
          show own_Go p e below KK T13 (mkF m 92 #[.val (.int p1), .val (.int 1), .val (.int 1), .val (.int 0), .val (.int 0), .val (.int 3), .val (.int 1), .val (.int 1), .unset, .unset, .unset] [(.int ((3 : Int32) &&& (4 : Int32)))])
          rw [show ((3 : Int32) &&& (4 : Int32)) = (0 : Int32) from by decide]
          show own_Go p e below KK T13 (mkF m 92 #[.val (.int p1), .val (.int 1), .val (.int 1), .val (.int 0), .val (.int 0), .val (.int 3), .val (.int 1), .val (.int 1), .unset, .unset, .unset] [(.int 0)])
          have hc92 : (0 : Int32) = (0 : Int32) := by decide
          refine own_at (fun t k => XS.ifYes X13.here hx rfl (pc0 := 92) (pc' := 99) rfl (hb hby at_92) rfl (Jvm.Free.XT.i0_eq_t hc92) (by decide) (by decide) k) ?_
          show own_Go p e below KK T13 (mkF m 99 #[.val (.int p1), .val (.int 1), .val (.int 1), .val (.int 0), .val (.int 0), .val (.int 3), .val (.int 1), .val (.int 1), .unset, .unset, .unset] [])
          refine own_at (fun t k => XS.iconst X13.here hx rfl (hb hby at_99) k) ?_
          show own_Go p e below KK T13 (mkF m 100 #[.val (.int p1), .val (.int 1), .val (.int 1), .val (.int 0), .val (.int 0), .val (.int 3), .val (.int 1), .val (.int 1), .unset, .unset, .unset] [(.int 0)])
          refine own_at (fun t k => XS.istore X13.here hx rfl (hb hby at_100) rfl (l' := #[.val (.int p1), .val (.int 1), .val (.int 1), .val (.int 0), .val (.int 0), .val (.int 3), .val (.int 1), .val (.int 1), .val (.int 0), .unset, .unset]) rfl k) ?_
          show own_Go p e below KK T13 (mkF m 102 #[.val (.int p1), .val (.int 1), .val (.int 1), .val (.int 0), .val (.int 0), .val (.int 3), .val (.int 1), .val (.int 1), .val (.int 0), .unset, .unset] [])
          refine own_at (fun t k => XS.iload X13.here hx rfl (hb hby at_102) rfl k) ?_
          show own_Go p e below KK T13 (mkF m 104 #[.val (.int p1), .val (.int 1), .val (.int 1), .val (.int 0), .val (.int 0), .val (.int 3), .val (.int 1), .val (.int 1), .val (.int 0), .unset, .unset] [(.int 3)])
          refine own_at (fun t k => XS.bipush X13.here hx rfl (hb hby at_104) k) ?_
          show own_Go p e below KK T13 (mkF m 106 #[.val (.int p1), .val (.int 1), .val (.int 1), .val (.int 0), .val (.int 0), .val (.int 3), .val (.int 1), .val (.int 1), .val (.int 0), .unset, .unset] [(.int 8), (.int 3)])
          refine own_at (fun t k => XS.iand X13.here hx rfl (hb hby at_106) rfl k) ?_
          show own_Go p e below KK T13 (mkF m 107 #[.val (.int p1), .val (.int 1), .val (.int 1), .val (.int 0), .val (.int 0), .val (.int 3), .val (.int 1), .val (.int 1), .val (.int 0), .unset, .unset] [(.int ((3 : Int32) &&& (8 : Int32)))])
          rw [show ((3 : Int32) &&& (8 : Int32)) = (0 : Int32) from by decide]
          show own_Go p e below KK T13 (mkF m 107 #[.val (.int p1), .val (.int 1), .val (.int 1), .val (.int 0), .val (.int 0), .val (.int 3), .val (.int 1), .val (.int 1), .val (.int 0), .unset, .unset] [(.int 0)])
          have hc107 : (0 : Int32) = (0 : Int32) := by decide
          refine own_at (fun t k => XS.ifYes X13.here hx rfl (pc0 := 107) (pc' := 114) rfl (hb hby at_107) rfl (Jvm.Free.XT.i0_eq_t hc107) (by decide) (by decide) k) ?_
          show own_Go p e below KK T13 (mkF m 114 #[.val (.int p1), .val (.int 1), .val (.int 1), .val (.int 0), .val (.int 0), .val (.int 3), .val (.int 1), .val (.int 1), .val (.int 0), .unset, .unset] [])
          refine own_at (fun t k => XS.iconst X13.here hx rfl (hb hby at_114) k) ?_
          show own_Go p e below KK T13 (mkF m 115 #[.val (.int p1), .val (.int 1), .val (.int 1), .val (.int 0), .val (.int 0), .val (.int 3), .val (.int 1), .val (.int 1), .val (.int 0), .unset, .unset] [(.int 0)])
          refine own_at (fun t k => XS.istore X13.here hx rfl (hb hby at_115) rfl (l' := #[.val (.int p1), .val (.int 1), .val (.int 1), .val (.int 0), .val (.int 0), .val (.int 3), .val (.int 1), .val (.int 1), .val (.int 0), .val (.int 0), .unset]) rfl k) ?_
          show own_Go p e below KK T13 (mkF m 117 #[.val (.int p1), .val (.int 1), .val (.int 1), .val (.int 0), .val (.int 0), .val (.int 3), .val (.int 1), .val (.int 1), .val (.int 0), .val (.int 0), .unset] [])
          refine own_at (fun t k => XS.bipush X13.here hx rfl (hb hby at_117) k) ?_
          show own_Go p e below KK T13 (mkF m 119 #[.val (.int p1), .val (.int 1), .val (.int 1), .val (.int 0), .val (.int 0), .val (.int 3), .val (.int 1), .val (.int 1), .val (.int 0), .val (.int 0), .unset] [(.int 15)])
          refine own_at (fun t k => XS.istore X13.here hx rfl (hb hby at_119) rfl (l' := #[.val (.int p1), .val (.int 1), .val (.int 1), .val (.int 0), .val (.int 0), .val (.int 3), .val (.int 1), .val (.int 1), .val (.int 0), .val (.int 0), .val (.int 15)]) rfl k) ?_
          show own_Go p e below KK T13 (mkF m 121 #[.val (.int p1), .val (.int 1), .val (.int 1), .val (.int 0), .val (.int 0), .val (.int 3), .val (.int 1), .val (.int 1), .val (.int 0), .val (.int 0), .val (.int 15)] [])
          refine own_at (fun t k => XS.iload X13.here hx rfl (hb hby at_121) rfl k) ?_
          show own_Go p e below KK T13 (mkF m 123 #[.val (.int p1), .val (.int 1), .val (.int 1), .val (.int 0), .val (.int 0), .val (.int 3), .val (.int 1), .val (.int 1), .val (.int 0), .val (.int 0), .val (.int 15)] [(.int 1)])
          refine own_at (fun t k => XS.iloadN X13.here hx rfl (hb hby at_123) rfl k) ?_
          show own_Go p e below KK T13 (mkF m 124 #[.val (.int p1), .val (.int 1), .val (.int 1), .val (.int 0), .val (.int 0), .val (.int 3), .val (.int 1), .val (.int 1), .val (.int 0), .val (.int 0), .val (.int 15)] [(.int 1), (.int 1)])
          have hc124 : (1 : Int32) = (1 : Int32) := by decide
          refine own_at (fun t k => XS.icmpNo X13.here hx rfl (hb hby at_124) rfl (Jvm.Free.XT.ii_ne_f hc124) k) ?_
          show own_Go p e below KK T13 (mkF m 127 #[.val (.int p1), .val (.int 1), .val (.int 1), .val (.int 0), .val (.int 0), .val (.int 3), .val (.int 1), .val (.int 1), .val (.int 0), .val (.int 0), .val (.int 15)] [])
          refine own_at (fun t k => XS.iload X13.here hx rfl (hb hby at_127) rfl k) ?_
          show own_Go p e below KK T13 (mkF m 129 #[.val (.int p1), .val (.int 1), .val (.int 1), .val (.int 0), .val (.int 0), .val (.int 3), .val (.int 1), .val (.int 1), .val (.int 0), .val (.int 0), .val (.int 15)] [(.int 1)])
          refine own_at (fun t k => XS.iloadN X13.here hx rfl (hb hby at_129) rfl k) ?_
          show own_Go p e below KK T13 (mkF m 130 #[.val (.int p1), .val (.int 1), .val (.int 1), .val (.int 0), .val (.int 0), .val (.int 3), .val (.int 1), .val (.int 1), .val (.int 0), .val (.int 0), .val (.int 15)] [(.int 1), (.int 1)])
          have hc130 : ¬ ((1 : Int32) = (0 : Int32)) := by decide
          refine own_at (fun t k => XS.ifNo X13.here hx rfl (hb hby at_130) rfl (Jvm.Free.XT.i0_eq_f hc130) k) ?_
          show own_Go p e below KK T13 (mkF m 133 #[.val (.int p1), .val (.int 1), .val (.int 1), .val (.int 0), .val (.int 0), .val (.int 3), .val (.int 1), .val (.int 1), .val (.int 0), .val (.int 0), .val (.int 15)] [(.int 1)])
          refine own_at (fun t k => XS.iloadN X13.here hx rfl (hb hby at_133) rfl k) ?_
          show own_Go p e below KK T13 (mkF m 134 #[.val (.int p1), .val (.int 1), .val (.int 1), .val (.int 0), .val (.int 0), .val (.int 3), .val (.int 1), .val (.int 1), .val (.int 0), .val (.int 0), .val (.int 15)] [(.int 1), (.int 1)])
          have hc134 : ¬ ((1 : Int32) = (0 : Int32)) := by decide
          refine own_at (fun t k => XS.ifNo X13.here hx rfl (hb hby at_134) rfl (Jvm.Free.XT.i0_eq_f hc134) k) ?_
          show own_Go p e below KK T13 (mkF m 137 #[.val (.int p1), .val (.int 1), .val (.int 1), .val (.int 0), .val (.int 0), .val (.int 3), .val (.int 1), .val (.int 1), .val (.int 0), .val (.int 0), .val (.int 15)] [(.int 1)])
          refine own_at (fun t k => XS.iconst X13.here hx rfl (hb hby at_137) k) ?_
          show own_Go p e below KK T13 (mkF m 138 #[.val (.int p1), .val (.int 1), .val (.int 1), .val (.int 0), .val (.int 0), .val (.int 3), .val (.int 1), .val (.int 1), .val (.int 0), .val (.int 0), .val (.int 15)] [(.int 1), (.int 1)])
          refine own_at (fun t k => XS.goto X13.here hx rfl (pc0 := 138) (pc' := 142) rfl (hb hby at_138) (by decide) (by decide) k) ?_
          show own_Go p e below KK T13 (mkF m 142 #[.val (.int p1), .val (.int 1), .val (.int 1), .val (.int 0), .val (.int 0), .val (.int 3), .val (.int 1), .val (.int 1), .val (.int 0), .val (.int 0), .val (.int 15)] [(.int 1), (.int 1)])
          have hc142 : (1 : Int32) = (1 : Int32) := by decide
          refine own_at (fun t k => XS.icmpNo X13.here hx rfl (hb hby at_142) rfl (Jvm.Free.XT.ii_ne_f hc142) k) ?_
          show own_Go p e below KK T13 (mkF m 145 #[.val (.int p1), .val (.int 1), .val (.int 1), .val (.int 0), .val (.int 0), .val (.int 3), .val (.int 1), .val (.int 1), .val (.int 0), .val (.int 0), .val (.int 15)] [])
          refine own_at (fun t k => XS.iload X13.here hx rfl (hb hby at_145) rfl k) ?_
          show own_Go p e below KK T13 (mkF m 147 #[.val (.int p1), .val (.int 1), .val (.int 1), .val (.int 0), .val (.int 0), .val (.int 3), .val (.int 1), .val (.int 1), .val (.int 0), .val (.int 0), .val (.int 15)] [(.int 0)])
          refine own_at (fun t k => XS.iloadN X13.here hx rfl (hb hby at_147) rfl k) ?_
          show own_Go p e below KK T13 (mkF m 148 #[.val (.int p1), .val (.int 1), .val (.int 1), .val (.int 0), .val (.int 0), .val (.int 3), .val (.int 1), .val (.int 1), .val (.int 0), .val (.int 0), .val (.int 15)] [(.int 0), (.int 0)])
          have hc148 : (0 : Int32) = (0 : Int32) := by decide
          refine own_at (fun t k => XS.icmpNo X13.here hx rfl (hb hby at_148) rfl (Jvm.Free.XT.ii_ne_f hc148) k) ?_
          show own_Go p e below KK T13 (mkF m 151 #[.val (.int p1), .val (.int 1), .val (.int 1), .val (.int 0), .val (.int 0), .val (.int 3), .val (.int 1), .val (.int 1), .val (.int 0), .val (.int 0), .val (.int 15)] [])
          refine own_at (fun t k => XS.iload X13.here hx rfl (hb hby at_151) rfl k) ?_
          show own_Go p e below KK T13 (mkF m 153 #[.val (.int p1), .val (.int 1), .val (.int 1), .val (.int 0), .val (.int 0), .val (.int 3), .val (.int 1), .val (.int 1), .val (.int 0), .val (.int 0), .val (.int 15)] [(.int 0)])
          refine own_at (fun t k => XS.iloadN X13.here hx rfl (hb hby at_153) rfl k) ?_
          show own_Go p e below KK T13 (mkF m 154 #[.val (.int p1), .val (.int 1), .val (.int 1), .val (.int 0), .val (.int 0), .val (.int 3), .val (.int 1), .val (.int 1), .val (.int 0), .val (.int 0), .val (.int 15)] [(.int 0), (.int 0)])
          have hc154 : (0 : Int32) = (0 : Int32) := by decide
          refine own_at (fun t k => XS.ifYes X13.here hx rfl (pc0 := 154) (pc' := 166) rfl (hb hby at_154) rfl (Jvm.Free.XT.i0_eq_t hc154) (by decide) (by decide) k) ?_
          show own_Go p e below KK T13 (mkF m 166 #[.val (.int p1), .val (.int 1), .val (.int 1), .val (.int 0), .val (.int 0), .val (.int 3), .val (.int 1), .val (.int 1), .val (.int 0), .val (.int 0), .val (.int 15)] [(.int 0)])
          refine own_at (fun t k => XS.iconst X13.here hx rfl (hb hby at_166) k) ?_
          show own_Go p e below KK T13 (mkF m 167 #[.val (.int p1), .val (.int 1), .val (.int 1), .val (.int 0), .val (.int 0), .val (.int 3), .val (.int 1), .val (.int 1), .val (.int 0), .val (.int 0), .val (.int 15)] [(.int 0), (.int 0)])
          have hc167 : (0 : Int32) = (0 : Int32) := by decide
          refine own_at (fun t k => XS.icmpNo X13.here hx rfl (hb hby at_167) rfl (Jvm.Free.XT.ii_ne_f hc167) k) ?_
          show own_Go p e below KK T13 (mkF m 170 #[.val (.int p1), .val (.int 1), .val (.int 1), .val (.int 0), .val (.int 0), .val (.int 3), .val (.int 1), .val (.int 1), .val (.int 0), .val (.int 0), .val (.int 15)] [])
          refine own_at (fun t k => XS.iload X13.here hx rfl (hb hby at_170) rfl k) ?_
          show own_Go p e below KK T13 (mkF m 172 #[.val (.int p1), .val (.int 1), .val (.int 1), .val (.int 0), .val (.int 0), .val (.int 3), .val (.int 1), .val (.int 1), .val (.int 0), .val (.int 0), .val (.int 15)] [(.int 3)])
          refine own_at (fun t k => XS.iload X13.here hx rfl (hb hby at_172) rfl k) ?_
          show own_Go p e below KK T13 (mkF m 174 #[.val (.int p1), .val (.int 1), .val (.int 1), .val (.int 0), .val (.int 0), .val (.int 3), .val (.int 1), .val (.int 1), .val (.int 0), .val (.int 0), .val (.int 15)] [(.int 15), (.int 3)])
          refine own_at (fun t k => XS.iconst X13.here hx rfl (hb hby at_174) k) ?_
          show own_Go p e below KK T13 (mkF m 175 #[.val (.int p1), .val (.int 1), .val (.int 1), .val (.int 0), .val (.int 0), .val (.int 3), .val (.int 1), .val (.int 1), .val (.int 0), .val (.int 0), .val (.int 15)] [(.int (-1 : Int32)), (.int 15), (.int 3)])
          refine own_at (fun t k => XS.ixor X13.here hx rfl (hb hby at_175) rfl k) ?_
          show own_Go p e below KK T13 (mkF m 176 #[.val (.int p1), .val (.int 1), .val (.int 1), .val (.int 0), .val (.int 0), .val (.int 3), .val (.int 1), .val (.int 1), .val (.int 0), .val (.int 0), .val (.int 15)] [(.int ((15 : Int32) ^^^ (-1 : Int32))), (.int 3)])
          rw [show ((15 : Int32) ^^^ (-1 : Int32)) = (-16 : Int32) from by decide]
          show own_Go p e below KK T13 (mkF m 176 #[.val (.int p1), .val (.int 1), .val (.int 1), .val (.int 0), .val (.int 0), .val (.int 3), .val (.int 1), .val (.int 1), .val (.int 0), .val (.int 0), .val (.int 15)] [(.int (-16 : Int32)), (.int 3)])
          refine own_at (fun t k => XS.iand X13.here hx rfl (hb hby at_176) rfl k) ?_
          show own_Go p e below KK T13 (mkF m 177 #[.val (.int p1), .val (.int 1), .val (.int 1), .val (.int 0), .val (.int 0), .val (.int 3), .val (.int 1), .val (.int 1), .val (.int 0), .val (.int 0), .val (.int 15)] [(.int ((3 : Int32) &&& (-16 : Int32)))])
          rw [show ((3 : Int32) &&& (-16 : Int32)) = (0 : Int32) from by decide]
          show own_Go p e below KK T13 (mkF m 177 #[.val (.int p1), .val (.int 1), .val (.int 1), .val (.int 0), .val (.int 0), .val (.int 3), .val (.int 1), .val (.int 1), .val (.int 0), .val (.int 0), .val (.int 15)] [(.int 0)])
          have hc177 : (0 : Int32) = (0 : Int32) := by decide
          refine own_at (fun t k => XS.ifNo X13.here hx rfl (hb hby at_177) rfl (Jvm.Free.XT.i0_ne_f hc177) k) ?_
          show own_Go p e below KK T13 (mkF m 180 #[.val (.int p1), .val (.int 1), .val (.int 1), .val (.int 0), .val (.int 0), .val (.int 3), .val (.int 1), .val (.int 1), .val (.int 0), .val (.int 0), .val (.int 15)] [])
          refine own_at (fun t k => XS.iload X13.here hx rfl (hb hby at_180) rfl k) ?_
          show own_Go p e below KK T13 (mkF m 182 #[.val (.int p1), .val (.int 1), .val (.int 1), .val (.int 0), .val (.int 0), .val (.int 3), .val (.int 1), .val (.int 1), .val (.int 0), .val (.int 0), .val (.int 15)] [(.int 3)])
          have hc182 : ¬ ((3 : Int32) = (0 : Int32)) := by decide
          refine own_at (fun t k => XS.ifYes X13.here hx rfl (pc0 := 182) (pc' := 189) rfl (hb hby at_182) rfl (Jvm.Free.XT.i0_ne_t hc182) (by decide) (by decide) k) ?_
          show own_Go p e below KK T13 (mkF m 189 #[.val (.int p1), .val (.int 1), .val (.int 1), .val (.int 0), .val (.int 0), .val (.int 3), .val (.int 1), .val (.int 1), .val (.int 0), .val (.int 0), .val (.int 15)] [])
          refine own_at (fun t k => XS.iconst X13.here hx rfl (hb hby at_189) k) ?_
          show own_Go p e below KK T13 (mkF m 190 #[.val (.int p1), .val (.int 1), .val (.int 1), .val (.int 0), .val (.int 0), .val (.int 3), .val (.int 1), .val (.int 1), .val (.int 0), .val (.int 0), .val (.int 15)] [(.int 0)])
          refine own_at (fun t k => XS.iloadN X13.here hx rfl (hb hby at_190) rfl k) ?_
          show own_Go p e below KK T13 (mkF m 191 #[.val (.int p1), .val (.int 1), .val (.int 1), .val (.int 0), .val (.int 0), .val (.int 3), .val (.int 1), .val (.int 1), .val (.int 0), .val (.int 0), .val (.int 15)] [(.int 1), (.int 0)])
          have hc191 : ¬ ((1 : Int32) = (0 : Int32)) := by decide
          refine own_at (fun t k => XS.ifYes X13.here hx rfl (pc0 := 191) (pc' := 202) rfl (hb hby at_191) rfl (Jvm.Free.XT.i0_ne_t hc191) (by decide) (by decide) k) ?_
          show own_Go p e below KK T13 (mkF m 202 #[.val (.int p1), .val (.int 1), .val (.int 1), .val (.int 0), .val (.int 0), .val (.int 3), .val (.int 1), .val (.int 1), .val (.int 0), .val (.int 0), .val (.int 15)] [(.int 0)])
          refine own_at (fun t k => XS.iconst X13.here hx rfl (hb hby at_202) k) ?_
          show own_Go p e below KK T13 (mkF m 203 #[.val (.int p1), .val (.int 1), .val (.int 1), .val (.int 0), .val (.int 0), .val (.int 3), .val (.int 1), .val (.int 1), .val (.int 0), .val (.int 0), .val (.int 15)] [(.int 0), (.int 0)])
          have hc203 : (0 : Int32) = (0 : Int32) := by decide
          refine own_at (fun t k => XS.icmpNo X13.here hx rfl (hb hby at_203) rfl (Jvm.Free.XT.ii_ne_f hc203) k) ?_
          show own_Go p e below KK T13 (mkF m 206 #[.val (.int p1), .val (.int 1), .val (.int 1), .val (.int 0), .val (.int 0), .val (.int 3), .val (.int 1), .val (.int 1), .val (.int 0), .val (.int 0), .val (.int 15)] [])
          refine own_at (fun t k => XS.iconst X13.here hx rfl (hb hby at_206) k) ?_
          show own_Go p e below KK T13 (mkF m 207 #[.val (.int p1), .val (.int 1), .val (.int 1), .val (.int 0), .val (.int 0), .val (.int 3), .val (.int 1), .val (.int 1), .val (.int 0), .val (.int 0), .val (.int 15)] [(.int 1)])
          refine own_at (fun t k => XS.goto X13.here hx rfl (pc0 := 207) (pc' := 211) rfl (hb hby at_207) (by decide) (by decide) k) ?_
          show own_Go p e below KK T13 (mkF m 211 #[.val (.int p1), .val (.int 1), .val (.int 1), .val (.int 0), .val (.int 0), .val (.int 3), .val (.int 1), .val (.int 1), .val (.int 0), .val (.int 0), .val (.int 15)] [(.int 1)])
          subst hKK
          exact own_retN X13 hx hlk (t := .boolean) Bd.returns (by simp) (hb hby at_211) (w := (1 : Int32)) (show nar .boolean (1 : Int32) = 1 from by decide) ⟨rfl, N13⟩ (Nat.le_of_ble_eq_true rfl) (Nat.le_of_ble_eq_true rfl)
        · refine own_at (fun t k => XS.ifNo X0.here hx rfl (hb hby at_40) rfl (Jvm.Free.XT.i0_eq_f hc40) k) ?_
          show own_Go p e below KK s₁ (mkF m 43 #[.val (.int p1), .val (.int 1), .val (.int 1), .val (.int 0), .unset, .unset, .unset, .unset, .unset, .unset, .unset] [])
          refine own_at (fun t k => XS.iconst X0.here hx rfl (hb hby at_43) k) ?_
          show own_Go p e below KK s₁ (mkF m 44 #[.val (.int p1), .val (.int 1), .val (.int 1), .val (.int 0), .unset, .unset, .unset, .unset, .unset, .unset, .unset] [(.int 1)])
          refine own_at (fun t k => XS.goto X0.here hx rfl (pc0 := 44) (pc' := 48) rfl (hb hby at_44) (by decide) (by decide) k) ?_
          show own_Go p e below KK s₁ (mkF m 48 #[.val (.int p1), .val (.int 1), .val (.int 1), .val (.int 0), .unset, .unset, .unset, .unset, .unset, .unset, .unset] [(.int 1)])
          refine own_at (fun t k => XS.istore X0.here hx rfl (hb hby at_48) rfl (l' := #[.val (.int p1), .val (.int 1), .val (.int 1), .val (.int 0), .val (.int 1), .unset, .unset, .unset, .unset, .unset, .unset]) rfl k) ?_
          show own_Go p e below KK s₁ (mkF m 50 #[.val (.int p1), .val (.int 1), .val (.int 1), .val (.int 0), .val (.int 1), .unset, .unset, .unset, .unset, .unset, .unset] [])
          refine own_at (fun t k => XS.iloadN X0.here hx rfl (hb hby at_50) rfl k) ?_
          show own_Go p e below KK s₁ (mkF m 51 #[.val (.int p1), .val (.int 1), .val (.int 1), .val (.int 0), .val (.int 1), .unset, .unset, .unset, .unset, .unset, .unset] [(.int 1)])
          refine own_at (fun t k => XS.iloadN X0.here hx rfl (hb hby at_51) rfl k) ?_
          show own_Go p e below KK s₁ (mkF m 52 #[.val (.int p1), .val (.int 1), .val (.int 1), .val (.int 0), .val (.int 1), .unset, .unset, .unset, .unset, .unset, .unset] [(.int 1), (.int 1)])
          refine own_at (fun t k => XS.iloadN X0.here hx rfl (hb hby at_52) rfl k) ?_
          show own_Go p e below KK s₁ (mkF m 53 #[.val (.int p1), .val (.int 1), .val (.int 1), .val (.int 0), .val (.int 1), .unset, .unset, .unset, .unset, .unset, .unset] [(.int 0), (.int 1), (.int 1)])
          refine own_at (fun t k => XS.iload X0.here hx rfl (hb hby at_53) rfl k) ?_
          show own_Go p e below KK s₁ (mkF m 55 #[.val (.int p1), .val (.int 1), .val (.int 1), .val (.int 0), .val (.int 1), .unset, .unset, .unset, .unset, .unset, .unset] [(.int 1), (.int 0), (.int 1), (.int 1)])
          obtain ⟨_, _, ⟨T14, L14, k14, n14⟩, -, X14, ⟨Lc14, hQ14, l14, y14, z14⟩, st14⟩ := Jvm.LawKit.callS X0 hx (y := (⟨"com/example/oyster/oyster/core/form/NamedTest", "ends", "(ZZZZ)I"⟩ : MethodName)) hown (mvT hZ (hw _ (List.mem_of_getElem? (i := 0) rfl))) (mvT hZ (hw _ (List.mem_of_getElem? (i := 1) rfl))) (mvT hZ (hw _ (List.mem_of_getElem? (i := 2) rfl))) (mvT hZ (hw _ (List.mem_of_getElem? (i := 3) rfl))) (by decide) (backOf (W := 0) (rm_prog_119_2 l Z a0 hw [] (1 : Int32) (1 : Int32) (0 : Int32) (1 : Int32)  h0 n0 Z0 ) hZ (hw _ (List.mem_of_getElem? (i := 3) rfl)) (hw _ (List.mem_of_getElem? (i := 2) rfl)) (by decide) (by decide)) (g := (mkF m 55 #[.val (.int p1), .val (.int 1), .val (.int 1), .val (.int 0), .val (.int 1), .unset, .unset, .unset, .unset, .unset, .unset] [(.int 1), (.int 0), (.int 1), (.int 1)])) rfl (by rw [hml]; rfl) (argsL := [(.int 1), (.int 1), (.int 0), (.int 1)]) (rest := []) (lenOf pd__ZZZZ_I rfl) rfl (by show 2 * 0 + _ ≤ _; exact Nat.le_of_eq rfl) (hb hby at_55) (fun _ _ => ⟨rfl, e0, (by decide : 0 + 0 ≤ _), (by decide : 0 + 0 ≤ _)⟩)
          dsimp only [Pt.U, Pt.locs, Pt.cells, Pt.slots] at X14 l14 y14 z14 st14 hQ14
          subst l14 y14 z14
          obtain ⟨rfl, N14q, e14⟩ := hQ14
          rw [show (own_F_prog_119_2 (1 : Int32) (1 : Int32) (0 : Int32) (1 : Int32)) = (3 : Int32) from by decide] at st14
          have N14 := Fr.app N0 N14q
          refine own_of (fun t k => st14 t k) ?_
          show own_Go p e below KK T14 (mkF m 58 #[.val (.int p1), .val (.int 1), .val (.int 1), .val (.int 0), .val (.int 1), .unset, .unset, .unset, .unset, .unset, .unset] [(.int 3)])
          refine own_at (fun t k => XS.istore X14.here hx rfl (hb hby at_58) rfl (l' := #[.val (.int p1), .val (.int 1), .val (.int 1), .val (.int 0), .val (.int 1), .val (.int 3), .unset, .unset, .unset, .unset, .unset]) rfl k) ?_
          show own_Go p e below KK T14 (mkF m 60 #[.val (.int p1), .val (.int 1), .val (.int 1), .val (.int 0), .val (.int 1), .val (.int 3), .unset, .unset, .unset, .unset, .unset] [])
          refine own_at (fun t k => XS.iload X14.here hx rfl (hb hby at_60) rfl k) ?_
          show own_Go p e below KK T14 (mkF m 62 #[.val (.int p1), .val (.int 1), .val (.int 1), .val (.int 0), .val (.int 1), .val (.int 3), .unset, .unset, .unset, .unset, .unset] [(.int 3)])
          refine own_at (fun t k => XS.iconst X14.here hx rfl (hb hby at_62) k) ?_
          show own_Go p e below KK T14 (mkF m 63 #[.val (.int p1), .val (.int 1), .val (.int 1), .val (.int 0), .val (.int 1), .val (.int 3), .unset, .unset, .unset, .unset, .unset] [(.int 1), (.int 3)])
          refine own_at (fun t k => XS.iand X14.here hx rfl (hb hby at_63) rfl k) ?_
          show own_Go p e below KK T14 (mkF m 64 #[.val (.int p1), .val (.int 1), .val (.int 1), .val (.int 0), .val (.int 1), .val (.int 3), .unset, .unset, .unset, .unset, .unset] [(.int ((3 : Int32) &&& (1 : Int32)))])
          rw [show ((3 : Int32) &&& (1 : Int32)) = (1 : Int32) from by decide]
          show own_Go p e below KK T14 (mkF m 64 #[.val (.int p1), .val (.int 1), .val (.int 1), .val (.int 0), .val (.int 1), .val (.int 3), .unset, .unset, .unset, .unset, .unset] [(.int 1)])
          have hc64 : ¬ ((1 : Int32) = (0 : Int32)) := by decide
          refine own_at (fun t k => XS.ifNo X14.here hx rfl (hb hby at_64) rfl (Jvm.Free.XT.i0_eq_f hc64) k) ?_
          show own_Go p e below KK T14 (mkF m 67 #[.val (.int p1), .val (.int 1), .val (.int 1), .val (.int 0), .val (.int 1), .val (.int 3), .unset, .unset, .unset, .unset, .unset] [])
          refine own_at (fun t k => XS.iconst X14.here hx rfl (hb hby at_67) k) ?_
          show own_Go p e below KK T14 (mkF m 68 #[.val (.int p1), .val (.int 1), .val (.int 1), .val (.int 0), .val (.int 1), .val (.int 3), .unset, .unset, .unset, .unset, .unset] [(.int 1)])
          refine own_at (fun t k => XS.goto X14.here hx rfl (pc0 := 68) (pc' := 72) rfl (hb hby at_68) (by decide) (by decide) k) ?_
          show own_Go p e below KK T14 (mkF m 72 #[.val (.int p1), .val (.int 1), .val (.int 1), .val (.int 0), .val (.int 1), .val (.int 3), .unset, .unset, .unset, .unset, .unset] [(.int 1)])
          refine own_at (fun t k => XS.istore X14.here hx rfl (hb hby at_72) rfl (l' := #[.val (.int p1), .val (.int 1), .val (.int 1), .val (.int 0), .val (.int 1), .val (.int 3), .val (.int 1), .unset, .unset, .unset, .unset]) rfl k) ?_
          show own_Go p e below KK T14 (mkF m 74 #[.val (.int p1), .val (.int 1), .val (.int 1), .val (.int 0), .val (.int 1), .val (.int 3), .val (.int 1), .unset, .unset, .unset, .unset] [])
          refine own_at (fun t k => XS.iload X14.here hx rfl (hb hby at_74) rfl k) ?_
          show own_Go p e below KK T14 (mkF m 76 #[.val (.int p1), .val (.int 1), .val (.int 1), .val (.int 0), .val (.int 1), .val (.int 3), .val (.int 1), .unset, .unset, .unset, .unset] [(.int 3)])
          refine own_at (fun t k => XS.iconst X14.here hx rfl (hb hby at_76) k) ?_
          show own_Go p e below KK T14 (mkF m 77 #[.val (.int p1), .val (.int 1), .val (.int 1), .val (.int 0), .val (.int 1), .val (.int 3), .val (.int 1), .unset, .unset, .unset, .unset] [(.int 2), (.int 3)])
          refine own_at (fun t k => XS.iand X14.here hx rfl (hb hby at_77) rfl k) ?_
          show own_Go p e below KK T14 (mkF m 78 #[.val (.int p1), .val (.int 1), .val (.int 1), .val (.int 0), .val (.int 1), .val (.int 3), .val (.int 1), .unset, .unset, .unset, .unset] [(.int ((3 : Int32) &&& (2 : Int32)))])
          rw [show ((3 : Int32) &&& (2 : Int32)) = (2 : Int32) from by decide]
          show own_Go p e below KK T14 (mkF m 78 #[.val (.int p1), .val (.int 1), .val (.int 1), .val (.int 0), .val (.int 1), .val (.int 3), .val (.int 1), .unset, .unset, .unset, .unset] [(.int 2)])
          have hc78 : ¬ ((2 : Int32) = (0 : Int32)) := by decide
          refine own_at (fun t k => XS.ifNo X14.here hx rfl (hb hby at_78) rfl (Jvm.Free.XT.i0_eq_f hc78) k) ?_
          show own_Go p e below KK T14 (mkF m 81 #[.val (.int p1), .val (.int 1), .val (.int 1), .val (.int 0), .val (.int 1), .val (.int 3), .val (.int 1), .unset, .unset, .unset, .unset] [])
          refine own_at (fun t k => XS.iconst X14.here hx rfl (hb hby at_81) k) ?_
          show own_Go p e below KK T14 (mkF m 82 #[.val (.int p1), .val (.int 1), .val (.int 1), .val (.int 0), .val (.int 1), .val (.int 3), .val (.int 1), .unset, .unset, .unset, .unset] [(.int 1)])
          refine own_at (fun t k => XS.goto X14.here hx rfl (pc0 := 82) (pc' := 86) rfl (hb hby at_82) (by decide) (by decide) k) ?_
          show own_Go p e below KK T14 (mkF m 86 #[.val (.int p1), .val (.int 1), .val (.int 1), .val (.int 0), .val (.int 1), .val (.int 3), .val (.int 1), .unset, .unset, .unset, .unset] [(.int 1)])
          refine own_at (fun t k => XS.istore X14.here hx rfl (hb hby at_86) rfl (l' := #[.val (.int p1), .val (.int 1), .val (.int 1), .val (.int 0), .val (.int 1), .val (.int 3), .val (.int 1), .val (.int 1), .unset, .unset, .unset]) rfl k) ?_
          show own_Go p e below KK T14 (mkF m 88 #[.val (.int p1), .val (.int 1), .val (.int 1), .val (.int 0), .val (.int 1), .val (.int 3), .val (.int 1), .val (.int 1), .unset, .unset, .unset] [])
          refine own_at (fun t k => XS.iload X14.here hx rfl (hb hby at_88) rfl k) ?_
          show own_Go p e below KK T14 (mkF m 90 #[.val (.int p1), .val (.int 1), .val (.int 1), .val (.int 0), .val (.int 1), .val (.int 3), .val (.int 1), .val (.int 1), .unset, .unset, .unset] [(.int 3)])
          refine own_at (fun t k => XS.iconst X14.here hx rfl (hb hby at_90) k) ?_
          show own_Go p e below KK T14 (mkF m 91 #[.val (.int p1), .val (.int 1), .val (.int 1), .val (.int 0), .val (.int 1), .val (.int 3), .val (.int 1), .val (.int 1), .unset, .unset, .unset] [(.int 4), (.int 3)])
          refine own_at (fun t k => XS.iand X14.here hx rfl (hb hby at_91) rfl k) ?_
          show own_Go p e below KK T14 (mkF m 92 #[.val (.int p1), .val (.int 1), .val (.int 1), .val (.int 0), .val (.int 1), .val (.int 3), .val (.int 1), .val (.int 1), .unset, .unset, .unset] [(.int ((3 : Int32) &&& (4 : Int32)))])
          rw [show ((3 : Int32) &&& (4 : Int32)) = (0 : Int32) from by decide]
          show own_Go p e below KK T14 (mkF m 92 #[.val (.int p1), .val (.int 1), .val (.int 1), .val (.int 0), .val (.int 1), .val (.int 3), .val (.int 1), .val (.int 1), .unset, .unset, .unset] [(.int 0)])
          have hc92 : (0 : Int32) = (0 : Int32) := by decide
          refine own_at (fun t k => XS.ifYes X14.here hx rfl (pc0 := 92) (pc' := 99) rfl (hb hby at_92) rfl (Jvm.Free.XT.i0_eq_t hc92) (by decide) (by decide) k) ?_
          show own_Go p e below KK T14 (mkF m 99 #[.val (.int p1), .val (.int 1), .val (.int 1), .val (.int 0), .val (.int 1), .val (.int 3), .val (.int 1), .val (.int 1), .unset, .unset, .unset] [])
          refine own_at (fun t k => XS.iconst X14.here hx rfl (hb hby at_99) k) ?_
          show own_Go p e below KK T14 (mkF m 100 #[.val (.int p1), .val (.int 1), .val (.int 1), .val (.int 0), .val (.int 1), .val (.int 3), .val (.int 1), .val (.int 1), .unset, .unset, .unset] [(.int 0)])
          refine own_at (fun t k => XS.istore X14.here hx rfl (hb hby at_100) rfl (l' := #[.val (.int p1), .val (.int 1), .val (.int 1), .val (.int 0), .val (.int 1), .val (.int 3), .val (.int 1), .val (.int 1), .val (.int 0), .unset, .unset]) rfl k) ?_
          show own_Go p e below KK T14 (mkF m 102 #[.val (.int p1), .val (.int 1), .val (.int 1), .val (.int 0), .val (.int 1), .val (.int 3), .val (.int 1), .val (.int 1), .val (.int 0), .unset, .unset] [])
          refine own_at (fun t k => XS.iload X14.here hx rfl (hb hby at_102) rfl k) ?_
          show own_Go p e below KK T14 (mkF m 104 #[.val (.int p1), .val (.int 1), .val (.int 1), .val (.int 0), .val (.int 1), .val (.int 3), .val (.int 1), .val (.int 1), .val (.int 0), .unset, .unset] [(.int 3)])
          refine own_at (fun t k => XS.bipush X14.here hx rfl (hb hby at_104) k) ?_
          show own_Go p e below KK T14 (mkF m 106 #[.val (.int p1), .val (.int 1), .val (.int 1), .val (.int 0), .val (.int 1), .val (.int 3), .val (.int 1), .val (.int 1), .val (.int 0), .unset, .unset] [(.int 8), (.int 3)])
          refine own_at (fun t k => XS.iand X14.here hx rfl (hb hby at_106) rfl k) ?_
          show own_Go p e below KK T14 (mkF m 107 #[.val (.int p1), .val (.int 1), .val (.int 1), .val (.int 0), .val (.int 1), .val (.int 3), .val (.int 1), .val (.int 1), .val (.int 0), .unset, .unset] [(.int ((3 : Int32) &&& (8 : Int32)))])
          rw [show ((3 : Int32) &&& (8 : Int32)) = (0 : Int32) from by decide]
          show own_Go p e below KK T14 (mkF m 107 #[.val (.int p1), .val (.int 1), .val (.int 1), .val (.int 0), .val (.int 1), .val (.int 3), .val (.int 1), .val (.int 1), .val (.int 0), .unset, .unset] [(.int 0)])
          have hc107 : (0 : Int32) = (0 : Int32) := by decide
          refine own_at (fun t k => XS.ifYes X14.here hx rfl (pc0 := 107) (pc' := 114) rfl (hb hby at_107) rfl (Jvm.Free.XT.i0_eq_t hc107) (by decide) (by decide) k) ?_
          show own_Go p e below KK T14 (mkF m 114 #[.val (.int p1), .val (.int 1), .val (.int 1), .val (.int 0), .val (.int 1), .val (.int 3), .val (.int 1), .val (.int 1), .val (.int 0), .unset, .unset] [])
          refine own_at (fun t k => XS.iconst X14.here hx rfl (hb hby at_114) k) ?_
          show own_Go p e below KK T14 (mkF m 115 #[.val (.int p1), .val (.int 1), .val (.int 1), .val (.int 0), .val (.int 1), .val (.int 3), .val (.int 1), .val (.int 1), .val (.int 0), .unset, .unset] [(.int 0)])
          refine own_at (fun t k => XS.istore X14.here hx rfl (hb hby at_115) rfl (l' := #[.val (.int p1), .val (.int 1), .val (.int 1), .val (.int 0), .val (.int 1), .val (.int 3), .val (.int 1), .val (.int 1), .val (.int 0), .val (.int 0), .unset]) rfl k) ?_
          show own_Go p e below KK T14 (mkF m 117 #[.val (.int p1), .val (.int 1), .val (.int 1), .val (.int 0), .val (.int 1), .val (.int 3), .val (.int 1), .val (.int 1), .val (.int 0), .val (.int 0), .unset] [])
          refine own_at (fun t k => XS.bipush X14.here hx rfl (hb hby at_117) k) ?_
          show own_Go p e below KK T14 (mkF m 119 #[.val (.int p1), .val (.int 1), .val (.int 1), .val (.int 0), .val (.int 1), .val (.int 3), .val (.int 1), .val (.int 1), .val (.int 0), .val (.int 0), .unset] [(.int 15)])
          refine own_at (fun t k => XS.istore X14.here hx rfl (hb hby at_119) rfl (l' := #[.val (.int p1), .val (.int 1), .val (.int 1), .val (.int 0), .val (.int 1), .val (.int 3), .val (.int 1), .val (.int 1), .val (.int 0), .val (.int 0), .val (.int 15)]) rfl k) ?_
          show own_Go p e below KK T14 (mkF m 121 #[.val (.int p1), .val (.int 1), .val (.int 1), .val (.int 0), .val (.int 1), .val (.int 3), .val (.int 1), .val (.int 1), .val (.int 0), .val (.int 0), .val (.int 15)] [])
          refine own_at (fun t k => XS.iload X14.here hx rfl (hb hby at_121) rfl k) ?_
          show own_Go p e below KK T14 (mkF m 123 #[.val (.int p1), .val (.int 1), .val (.int 1), .val (.int 0), .val (.int 1), .val (.int 3), .val (.int 1), .val (.int 1), .val (.int 0), .val (.int 0), .val (.int 15)] [(.int 1)])
          refine own_at (fun t k => XS.iloadN X14.here hx rfl (hb hby at_123) rfl k) ?_
          show own_Go p e below KK T14 (mkF m 124 #[.val (.int p1), .val (.int 1), .val (.int 1), .val (.int 0), .val (.int 1), .val (.int 3), .val (.int 1), .val (.int 1), .val (.int 0), .val (.int 0), .val (.int 15)] [(.int 1), (.int 1)])
          have hc124 : (1 : Int32) = (1 : Int32) := by decide
          refine own_at (fun t k => XS.icmpNo X14.here hx rfl (hb hby at_124) rfl (Jvm.Free.XT.ii_ne_f hc124) k) ?_
          show own_Go p e below KK T14 (mkF m 127 #[.val (.int p1), .val (.int 1), .val (.int 1), .val (.int 0), .val (.int 1), .val (.int 3), .val (.int 1), .val (.int 1), .val (.int 0), .val (.int 0), .val (.int 15)] [])
          refine own_at (fun t k => XS.iload X14.here hx rfl (hb hby at_127) rfl k) ?_
          show own_Go p e below KK T14 (mkF m 129 #[.val (.int p1), .val (.int 1), .val (.int 1), .val (.int 0), .val (.int 1), .val (.int 3), .val (.int 1), .val (.int 1), .val (.int 0), .val (.int 0), .val (.int 15)] [(.int 1)])
          refine own_at (fun t k => XS.iloadN X14.here hx rfl (hb hby at_129) rfl k) ?_
          show own_Go p e below KK T14 (mkF m 130 #[.val (.int p1), .val (.int 1), .val (.int 1), .val (.int 0), .val (.int 1), .val (.int 3), .val (.int 1), .val (.int 1), .val (.int 0), .val (.int 0), .val (.int 15)] [(.int 1), (.int 1)])
          have hc130 : ¬ ((1 : Int32) = (0 : Int32)) := by decide
          refine own_at (fun t k => XS.ifNo X14.here hx rfl (hb hby at_130) rfl (Jvm.Free.XT.i0_eq_f hc130) k) ?_
          show own_Go p e below KK T14 (mkF m 133 #[.val (.int p1), .val (.int 1), .val (.int 1), .val (.int 0), .val (.int 1), .val (.int 3), .val (.int 1), .val (.int 1), .val (.int 0), .val (.int 0), .val (.int 15)] [(.int 1)])
          refine own_at (fun t k => XS.iloadN X14.here hx rfl (hb hby at_133) rfl k) ?_
          show own_Go p e below KK T14 (mkF m 134 #[.val (.int p1), .val (.int 1), .val (.int 1), .val (.int 0), .val (.int 1), .val (.int 3), .val (.int 1), .val (.int 1), .val (.int 0), .val (.int 0), .val (.int 15)] [(.int 1), (.int 1)])
          have hc134 : ¬ ((1 : Int32) = (0 : Int32)) := by decide
          refine own_at (fun t k => XS.ifNo X14.here hx rfl (hb hby at_134) rfl (Jvm.Free.XT.i0_eq_f hc134) k) ?_
          show own_Go p e below KK T14 (mkF m 137 #[.val (.int p1), .val (.int 1), .val (.int 1), .val (.int 0), .val (.int 1), .val (.int 3), .val (.int 1), .val (.int 1), .val (.int 0), .val (.int 0), .val (.int 15)] [(.int 1)])
          refine own_at (fun t k => XS.iconst X14.here hx rfl (hb hby at_137) k) ?_
          show own_Go p e below KK T14 (mkF m 138 #[.val (.int p1), .val (.int 1), .val (.int 1), .val (.int 0), .val (.int 1), .val (.int 3), .val (.int 1), .val (.int 1), .val (.int 0), .val (.int 0), .val (.int 15)] [(.int 1), (.int 1)])
          refine own_at (fun t k => XS.goto X14.here hx rfl (pc0 := 138) (pc' := 142) rfl (hb hby at_138) (by decide) (by decide) k) ?_
          show own_Go p e below KK T14 (mkF m 142 #[.val (.int p1), .val (.int 1), .val (.int 1), .val (.int 0), .val (.int 1), .val (.int 3), .val (.int 1), .val (.int 1), .val (.int 0), .val (.int 0), .val (.int 15)] [(.int 1), (.int 1)])
          have hc142 : (1 : Int32) = (1 : Int32) := by decide
          refine own_at (fun t k => XS.icmpNo X14.here hx rfl (hb hby at_142) rfl (Jvm.Free.XT.ii_ne_f hc142) k) ?_
          show own_Go p e below KK T14 (mkF m 145 #[.val (.int p1), .val (.int 1), .val (.int 1), .val (.int 0), .val (.int 1), .val (.int 3), .val (.int 1), .val (.int 1), .val (.int 0), .val (.int 0), .val (.int 15)] [])
          refine own_at (fun t k => XS.iload X14.here hx rfl (hb hby at_145) rfl k) ?_
          show own_Go p e below KK T14 (mkF m 147 #[.val (.int p1), .val (.int 1), .val (.int 1), .val (.int 0), .val (.int 1), .val (.int 3), .val (.int 1), .val (.int 1), .val (.int 0), .val (.int 0), .val (.int 15)] [(.int 0)])
          refine own_at (fun t k => XS.iloadN X14.here hx rfl (hb hby at_147) rfl k) ?_
          show own_Go p e below KK T14 (mkF m 148 #[.val (.int p1), .val (.int 1), .val (.int 1), .val (.int 0), .val (.int 1), .val (.int 3), .val (.int 1), .val (.int 1), .val (.int 0), .val (.int 0), .val (.int 15)] [(.int 0), (.int 0)])
          have hc148 : (0 : Int32) = (0 : Int32) := by decide
          refine own_at (fun t k => XS.icmpNo X14.here hx rfl (hb hby at_148) rfl (Jvm.Free.XT.ii_ne_f hc148) k) ?_
          show own_Go p e below KK T14 (mkF m 151 #[.val (.int p1), .val (.int 1), .val (.int 1), .val (.int 0), .val (.int 1), .val (.int 3), .val (.int 1), .val (.int 1), .val (.int 0), .val (.int 0), .val (.int 15)] [])
          refine own_at (fun t k => XS.iload X14.here hx rfl (hb hby at_151) rfl k) ?_
          show own_Go p e below KK T14 (mkF m 153 #[.val (.int p1), .val (.int 1), .val (.int 1), .val (.int 0), .val (.int 1), .val (.int 3), .val (.int 1), .val (.int 1), .val (.int 0), .val (.int 0), .val (.int 15)] [(.int 0)])
          refine own_at (fun t k => XS.iloadN X14.here hx rfl (hb hby at_153) rfl k) ?_
          show own_Go p e below KK T14 (mkF m 154 #[.val (.int p1), .val (.int 1), .val (.int 1), .val (.int 0), .val (.int 1), .val (.int 3), .val (.int 1), .val (.int 1), .val (.int 0), .val (.int 0), .val (.int 15)] [(.int 0), (.int 0)])
          have hc154 : (0 : Int32) = (0 : Int32) := by decide
          refine own_at (fun t k => XS.ifYes X14.here hx rfl (pc0 := 154) (pc' := 166) rfl (hb hby at_154) rfl (Jvm.Free.XT.i0_eq_t hc154) (by decide) (by decide) k) ?_
          show own_Go p e below KK T14 (mkF m 166 #[.val (.int p1), .val (.int 1), .val (.int 1), .val (.int 0), .val (.int 1), .val (.int 3), .val (.int 1), .val (.int 1), .val (.int 0), .val (.int 0), .val (.int 15)] [(.int 0)])
          refine own_at (fun t k => XS.iconst X14.here hx rfl (hb hby at_166) k) ?_
          show own_Go p e below KK T14 (mkF m 167 #[.val (.int p1), .val (.int 1), .val (.int 1), .val (.int 0), .val (.int 1), .val (.int 3), .val (.int 1), .val (.int 1), .val (.int 0), .val (.int 0), .val (.int 15)] [(.int 0), (.int 0)])
          have hc167 : (0 : Int32) = (0 : Int32) := by decide
          refine own_at (fun t k => XS.icmpNo X14.here hx rfl (hb hby at_167) rfl (Jvm.Free.XT.ii_ne_f hc167) k) ?_
          show own_Go p e below KK T14 (mkF m 170 #[.val (.int p1), .val (.int 1), .val (.int 1), .val (.int 0), .val (.int 1), .val (.int 3), .val (.int 1), .val (.int 1), .val (.int 0), .val (.int 0), .val (.int 15)] [])
          refine own_at (fun t k => XS.iload X14.here hx rfl (hb hby at_170) rfl k) ?_
          show own_Go p e below KK T14 (mkF m 172 #[.val (.int p1), .val (.int 1), .val (.int 1), .val (.int 0), .val (.int 1), .val (.int 3), .val (.int 1), .val (.int 1), .val (.int 0), .val (.int 0), .val (.int 15)] [(.int 3)])
          refine own_at (fun t k => XS.iload X14.here hx rfl (hb hby at_172) rfl k) ?_
          show own_Go p e below KK T14 (mkF m 174 #[.val (.int p1), .val (.int 1), .val (.int 1), .val (.int 0), .val (.int 1), .val (.int 3), .val (.int 1), .val (.int 1), .val (.int 0), .val (.int 0), .val (.int 15)] [(.int 15), (.int 3)])
          refine own_at (fun t k => XS.iconst X14.here hx rfl (hb hby at_174) k) ?_
          show own_Go p e below KK T14 (mkF m 175 #[.val (.int p1), .val (.int 1), .val (.int 1), .val (.int 0), .val (.int 1), .val (.int 3), .val (.int 1), .val (.int 1), .val (.int 0), .val (.int 0), .val (.int 15)] [(.int (-1 : Int32)), (.int 15), (.int 3)])
          refine own_at (fun t k => XS.ixor X14.here hx rfl (hb hby at_175) rfl k) ?_
          show own_Go p e below KK T14 (mkF m 176 #[.val (.int p1), .val (.int 1), .val (.int 1), .val (.int 0), .val (.int 1), .val (.int 3), .val (.int 1), .val (.int 1), .val (.int 0), .val (.int 0), .val (.int 15)] [(.int ((15 : Int32) ^^^ (-1 : Int32))), (.int 3)])
          rw [show ((15 : Int32) ^^^ (-1 : Int32)) = (-16 : Int32) from by decide]
          show own_Go p e below KK T14 (mkF m 176 #[.val (.int p1), .val (.int 1), .val (.int 1), .val (.int 0), .val (.int 1), .val (.int 3), .val (.int 1), .val (.int 1), .val (.int 0), .val (.int 0), .val (.int 15)] [(.int (-16 : Int32)), (.int 3)])
          refine own_at (fun t k => XS.iand X14.here hx rfl (hb hby at_176) rfl k) ?_
          show own_Go p e below KK T14 (mkF m 177 #[.val (.int p1), .val (.int 1), .val (.int 1), .val (.int 0), .val (.int 1), .val (.int 3), .val (.int 1), .val (.int 1), .val (.int 0), .val (.int 0), .val (.int 15)] [(.int ((3 : Int32) &&& (-16 : Int32)))])
          rw [show ((3 : Int32) &&& (-16 : Int32)) = (0 : Int32) from by decide]
          show own_Go p e below KK T14 (mkF m 177 #[.val (.int p1), .val (.int 1), .val (.int 1), .val (.int 0), .val (.int 1), .val (.int 3), .val (.int 1), .val (.int 1), .val (.int 0), .val (.int 0), .val (.int 15)] [(.int 0)])
          have hc177 : (0 : Int32) = (0 : Int32) := by decide
          refine own_at (fun t k => XS.ifNo X14.here hx rfl (hb hby at_177) rfl (Jvm.Free.XT.i0_ne_f hc177) k) ?_
          show own_Go p e below KK T14 (mkF m 180 #[.val (.int p1), .val (.int 1), .val (.int 1), .val (.int 0), .val (.int 1), .val (.int 3), .val (.int 1), .val (.int 1), .val (.int 0), .val (.int 0), .val (.int 15)] [])
          refine own_at (fun t k => XS.iload X14.here hx rfl (hb hby at_180) rfl k) ?_
          show own_Go p e below KK T14 (mkF m 182 #[.val (.int p1), .val (.int 1), .val (.int 1), .val (.int 0), .val (.int 1), .val (.int 3), .val (.int 1), .val (.int 1), .val (.int 0), .val (.int 0), .val (.int 15)] [(.int 3)])
          have hc182 : ¬ ((3 : Int32) = (0 : Int32)) := by decide
          refine own_at (fun t k => XS.ifYes X14.here hx rfl (pc0 := 182) (pc' := 189) rfl (hb hby at_182) rfl (Jvm.Free.XT.i0_ne_t hc182) (by decide) (by decide) k) ?_
          show own_Go p e below KK T14 (mkF m 189 #[.val (.int p1), .val (.int 1), .val (.int 1), .val (.int 0), .val (.int 1), .val (.int 3), .val (.int 1), .val (.int 1), .val (.int 0), .val (.int 0), .val (.int 15)] [])
          refine own_at (fun t k => XS.iconst X14.here hx rfl (hb hby at_189) k) ?_
          show own_Go p e below KK T14 (mkF m 190 #[.val (.int p1), .val (.int 1), .val (.int 1), .val (.int 0), .val (.int 1), .val (.int 3), .val (.int 1), .val (.int 1), .val (.int 0), .val (.int 0), .val (.int 15)] [(.int 0)])
          refine own_at (fun t k => XS.iloadN X14.here hx rfl (hb hby at_190) rfl k) ?_
          show own_Go p e below KK T14 (mkF m 191 #[.val (.int p1), .val (.int 1), .val (.int 1), .val (.int 0), .val (.int 1), .val (.int 3), .val (.int 1), .val (.int 1), .val (.int 0), .val (.int 0), .val (.int 15)] [(.int 1), (.int 0)])
          have hc191 : ¬ ((1 : Int32) = (0 : Int32)) := by decide
          refine own_at (fun t k => XS.ifYes X14.here hx rfl (pc0 := 191) (pc' := 202) rfl (hb hby at_191) rfl (Jvm.Free.XT.i0_ne_t hc191) (by decide) (by decide) k) ?_
          show own_Go p e below KK T14 (mkF m 202 #[.val (.int p1), .val (.int 1), .val (.int 1), .val (.int 0), .val (.int 1), .val (.int 3), .val (.int 1), .val (.int 1), .val (.int 0), .val (.int 0), .val (.int 15)] [(.int 0)])
          refine own_at (fun t k => XS.iconst X14.here hx rfl (hb hby at_202) k) ?_
          show own_Go p e below KK T14 (mkF m 203 #[.val (.int p1), .val (.int 1), .val (.int 1), .val (.int 0), .val (.int 1), .val (.int 3), .val (.int 1), .val (.int 1), .val (.int 0), .val (.int 0), .val (.int 15)] [(.int 0), (.int 0)])
          have hc203 : (0 : Int32) = (0 : Int32) := by decide
          refine own_at (fun t k => XS.icmpNo X14.here hx rfl (hb hby at_203) rfl (Jvm.Free.XT.ii_ne_f hc203) k) ?_
          show own_Go p e below KK T14 (mkF m 206 #[.val (.int p1), .val (.int 1), .val (.int 1), .val (.int 0), .val (.int 1), .val (.int 3), .val (.int 1), .val (.int 1), .val (.int 0), .val (.int 0), .val (.int 15)] [])
          refine own_at (fun t k => XS.iconst X14.here hx rfl (hb hby at_206) k) ?_
          show own_Go p e below KK T14 (mkF m 207 #[.val (.int p1), .val (.int 1), .val (.int 1), .val (.int 0), .val (.int 1), .val (.int 3), .val (.int 1), .val (.int 1), .val (.int 0), .val (.int 0), .val (.int 15)] [(.int 1)])
          refine own_at (fun t k => XS.goto X14.here hx rfl (pc0 := 207) (pc' := 211) rfl (hb hby at_207) (by decide) (by decide) k) ?_
          show own_Go p e below KK T14 (mkF m 211 #[.val (.int p1), .val (.int 1), .val (.int 1), .val (.int 0), .val (.int 1), .val (.int 3), .val (.int 1), .val (.int 1), .val (.int 0), .val (.int 0), .val (.int 15)] [(.int 1)])
          subst hKK
          exact own_retN X14 hx hlk (t := .boolean) Bd.returns (by simp) (hb hby at_211) (w := (1 : Int32)) (show nar .boolean (1 : Int32) = 1 from by decide) ⟨rfl, N14⟩ (Nat.le_of_ble_eq_true rfl) (Nat.le_of_ble_eq_true rfl)
      · refine own_at (fun t k => XS.ifNo X0.here hx rfl (hb hby at_27) rfl (Jvm.Free.XT.i0_eq_f hc27) k) ?_
        show own_Go p e below KK s₁ (mkF m 30 #[.val (.int p1), .val (.int 1), .val (.int 1), .unset, .unset, .unset, .unset, .unset, .unset, .unset, .unset] [])
        refine own_at (fun t k => XS.iconst X0.here hx rfl (hb hby at_30) k) ?_
        show own_Go p e below KK s₁ (mkF m 31 #[.val (.int p1), .val (.int 1), .val (.int 1), .unset, .unset, .unset, .unset, .unset, .unset, .unset, .unset] [(.int 1)])
        refine own_at (fun t k => XS.goto X0.here hx rfl (pc0 := 31) (pc' := 35) rfl (hb hby at_31) (by decide) (by decide) k) ?_
        show own_Go p e below KK s₁ (mkF m 35 #[.val (.int p1), .val (.int 1), .val (.int 1), .unset, .unset, .unset, .unset, .unset, .unset, .unset, .unset] [(.int 1)])
        refine own_at (fun t k => XS.istoreN X0.here hx rfl (hb hby at_35) rfl (l' := #[.val (.int p1), .val (.int 1), .val (.int 1), .val (.int 1), .unset, .unset, .unset, .unset, .unset, .unset, .unset]) rfl k) ?_
        show own_Go p e below KK s₁ (mkF m 36 #[.val (.int p1), .val (.int 1), .val (.int 1), .val (.int 1), .unset, .unset, .unset, .unset, .unset, .unset, .unset] [])
        refine own_at (fun t k => XS.iloadN X0.here hx rfl (hb hby at_36) rfl k) ?_
        show own_Go p e below KK s₁ (mkF m 37 #[.val (.int p1), .val (.int 1), .val (.int 1), .val (.int 1), .unset, .unset, .unset, .unset, .unset, .unset, .unset] [(.int p1)])
        refine own_at (fun t k => XS.bipush X0.here hx rfl (hb hby at_37) k) ?_
        show own_Go p e below KK s₁ (mkF m 39 #[.val (.int p1), .val (.int 1), .val (.int 1), .val (.int 1), .unset, .unset, .unset, .unset, .unset, .unset, .unset] [(.int 8), (.int p1)])
        refine own_at (fun t k => XS.iand X0.here hx rfl (hb hby at_39) rfl k) ?_
        show own_Go p e below KK s₁ (mkF m 40 #[.val (.int p1), .val (.int 1), .val (.int 1), .val (.int 1), .unset, .unset, .unset, .unset, .unset, .unset, .unset] [(.int (p1 &&& (8 : Int32)))])
        by_cases hc40 : (p1 &&& (8 : Int32)) = (0 : Int32)
        · refine own_at (fun t k => XS.ifYes X0.here hx rfl (pc0 := 40) (pc' := 47) rfl (hb hby at_40) rfl (Jvm.Free.XT.i0_eq_t hc40) (by decide) (by decide) k) ?_
          show own_Go p e below KK s₁ (mkF m 47 #[.val (.int p1), .val (.int 1), .val (.int 1), .val (.int 1), .unset, .unset, .unset, .unset, .unset, .unset, .unset] [])
          refine own_at (fun t k => XS.iconst X0.here hx rfl (hb hby at_47) k) ?_
          show own_Go p e below KK s₁ (mkF m 48 #[.val (.int p1), .val (.int 1), .val (.int 1), .val (.int 1), .unset, .unset, .unset, .unset, .unset, .unset, .unset] [(.int 0)])
          refine own_at (fun t k => XS.istore X0.here hx rfl (hb hby at_48) rfl (l' := #[.val (.int p1), .val (.int 1), .val (.int 1), .val (.int 1), .val (.int 0), .unset, .unset, .unset, .unset, .unset, .unset]) rfl k) ?_
          show own_Go p e below KK s₁ (mkF m 50 #[.val (.int p1), .val (.int 1), .val (.int 1), .val (.int 1), .val (.int 0), .unset, .unset, .unset, .unset, .unset, .unset] [])
          refine own_at (fun t k => XS.iloadN X0.here hx rfl (hb hby at_50) rfl k) ?_
          show own_Go p e below KK s₁ (mkF m 51 #[.val (.int p1), .val (.int 1), .val (.int 1), .val (.int 1), .val (.int 0), .unset, .unset, .unset, .unset, .unset, .unset] [(.int 1)])
          refine own_at (fun t k => XS.iloadN X0.here hx rfl (hb hby at_51) rfl k) ?_
          show own_Go p e below KK s₁ (mkF m 52 #[.val (.int p1), .val (.int 1), .val (.int 1), .val (.int 1), .val (.int 0), .unset, .unset, .unset, .unset, .unset, .unset] [(.int 1), (.int 1)])
          refine own_at (fun t k => XS.iloadN X0.here hx rfl (hb hby at_52) rfl k) ?_
          show own_Go p e below KK s₁ (mkF m 53 #[.val (.int p1), .val (.int 1), .val (.int 1), .val (.int 1), .val (.int 0), .unset, .unset, .unset, .unset, .unset, .unset] [(.int 1), (.int 1), (.int 1)])
          refine own_at (fun t k => XS.iload X0.here hx rfl (hb hby at_53) rfl k) ?_
          show own_Go p e below KK s₁ (mkF m 55 #[.val (.int p1), .val (.int 1), .val (.int 1), .val (.int 1), .val (.int 0), .unset, .unset, .unset, .unset, .unset, .unset] [(.int 0), (.int 1), (.int 1), (.int 1)])
          obtain ⟨_, _, ⟨T15, L15, k15, n15⟩, -, X15, ⟨Lc15, hQ15, l15, y15, z15⟩, st15⟩ := Jvm.LawKit.callS X0 hx (y := (⟨"com/example/oyster/oyster/core/form/NamedTest", "ends", "(ZZZZ)I"⟩ : MethodName)) hown (mvT hZ (hw _ (List.mem_of_getElem? (i := 0) rfl))) (mvT hZ (hw _ (List.mem_of_getElem? (i := 1) rfl))) (mvT hZ (hw _ (List.mem_of_getElem? (i := 2) rfl))) (mvT hZ (hw _ (List.mem_of_getElem? (i := 3) rfl))) (by decide) (backOf (W := 0) (rm_prog_119_2 l Z a0 hw [] (1 : Int32) (1 : Int32) (1 : Int32) (0 : Int32)  h0 n0 Z0 ) hZ (hw _ (List.mem_of_getElem? (i := 3) rfl)) (hw _ (List.mem_of_getElem? (i := 2) rfl)) (by decide) (by decide)) (g := (mkF m 55 #[.val (.int p1), .val (.int 1), .val (.int 1), .val (.int 1), .val (.int 0), .unset, .unset, .unset, .unset, .unset, .unset] [(.int 0), (.int 1), (.int 1), (.int 1)])) rfl (by rw [hml]; rfl) (argsL := [(.int 1), (.int 1), (.int 1), (.int 0)]) (rest := []) (lenOf pd__ZZZZ_I rfl) rfl (by show 2 * 0 + _ ≤ _; exact Nat.le_of_eq rfl) (hb hby at_55) (fun _ _ => ⟨rfl, e0, (by decide : 0 + 0 ≤ _), (by decide : 0 + 0 ≤ _)⟩)
          dsimp only [Pt.U, Pt.locs, Pt.cells, Pt.slots] at X15 l15 y15 z15 st15 hQ15
          subst l15 y15 z15
          obtain ⟨rfl, N15q, e15⟩ := hQ15
          rw [show (own_F_prog_119_2 (1 : Int32) (1 : Int32) (1 : Int32) (0 : Int32)) = (7 : Int32) from by decide] at st15
          have N15 := Fr.app N0 N15q
          refine own_of (fun t k => st15 t k) ?_
          show own_Go p e below KK T15 (mkF m 58 #[.val (.int p1), .val (.int 1), .val (.int 1), .val (.int 1), .val (.int 0), .unset, .unset, .unset, .unset, .unset, .unset] [(.int 7)])
          refine own_at (fun t k => XS.istore X15.here hx rfl (hb hby at_58) rfl (l' := #[.val (.int p1), .val (.int 1), .val (.int 1), .val (.int 1), .val (.int 0), .val (.int 7), .unset, .unset, .unset, .unset, .unset]) rfl k) ?_
          show own_Go p e below KK T15 (mkF m 60 #[.val (.int p1), .val (.int 1), .val (.int 1), .val (.int 1), .val (.int 0), .val (.int 7), .unset, .unset, .unset, .unset, .unset] [])
          refine own_at (fun t k => XS.iload X15.here hx rfl (hb hby at_60) rfl k) ?_
          show own_Go p e below KK T15 (mkF m 62 #[.val (.int p1), .val (.int 1), .val (.int 1), .val (.int 1), .val (.int 0), .val (.int 7), .unset, .unset, .unset, .unset, .unset] [(.int 7)])
          refine own_at (fun t k => XS.iconst X15.here hx rfl (hb hby at_62) k) ?_
          show own_Go p e below KK T15 (mkF m 63 #[.val (.int p1), .val (.int 1), .val (.int 1), .val (.int 1), .val (.int 0), .val (.int 7), .unset, .unset, .unset, .unset, .unset] [(.int 1), (.int 7)])
          refine own_at (fun t k => XS.iand X15.here hx rfl (hb hby at_63) rfl k) ?_
          show own_Go p e below KK T15 (mkF m 64 #[.val (.int p1), .val (.int 1), .val (.int 1), .val (.int 1), .val (.int 0), .val (.int 7), .unset, .unset, .unset, .unset, .unset] [(.int ((7 : Int32) &&& (1 : Int32)))])
          rw [show ((7 : Int32) &&& (1 : Int32)) = (1 : Int32) from by decide]
          show own_Go p e below KK T15 (mkF m 64 #[.val (.int p1), .val (.int 1), .val (.int 1), .val (.int 1), .val (.int 0), .val (.int 7), .unset, .unset, .unset, .unset, .unset] [(.int 1)])
          have hc64 : ¬ ((1 : Int32) = (0 : Int32)) := by decide
          refine own_at (fun t k => XS.ifNo X15.here hx rfl (hb hby at_64) rfl (Jvm.Free.XT.i0_eq_f hc64) k) ?_
          show own_Go p e below KK T15 (mkF m 67 #[.val (.int p1), .val (.int 1), .val (.int 1), .val (.int 1), .val (.int 0), .val (.int 7), .unset, .unset, .unset, .unset, .unset] [])
          refine own_at (fun t k => XS.iconst X15.here hx rfl (hb hby at_67) k) ?_
          show own_Go p e below KK T15 (mkF m 68 #[.val (.int p1), .val (.int 1), .val (.int 1), .val (.int 1), .val (.int 0), .val (.int 7), .unset, .unset, .unset, .unset, .unset] [(.int 1)])
          refine own_at (fun t k => XS.goto X15.here hx rfl (pc0 := 68) (pc' := 72) rfl (hb hby at_68) (by decide) (by decide) k) ?_
          show own_Go p e below KK T15 (mkF m 72 #[.val (.int p1), .val (.int 1), .val (.int 1), .val (.int 1), .val (.int 0), .val (.int 7), .unset, .unset, .unset, .unset, .unset] [(.int 1)])
          refine own_at (fun t k => XS.istore X15.here hx rfl (hb hby at_72) rfl (l' := #[.val (.int p1), .val (.int 1), .val (.int 1), .val (.int 1), .val (.int 0), .val (.int 7), .val (.int 1), .unset, .unset, .unset, .unset]) rfl k) ?_
          show own_Go p e below KK T15 (mkF m 74 #[.val (.int p1), .val (.int 1), .val (.int 1), .val (.int 1), .val (.int 0), .val (.int 7), .val (.int 1), .unset, .unset, .unset, .unset] [])
          refine own_at (fun t k => XS.iload X15.here hx rfl (hb hby at_74) rfl k) ?_
          show own_Go p e below KK T15 (mkF m 76 #[.val (.int p1), .val (.int 1), .val (.int 1), .val (.int 1), .val (.int 0), .val (.int 7), .val (.int 1), .unset, .unset, .unset, .unset] [(.int 7)])
          refine own_at (fun t k => XS.iconst X15.here hx rfl (hb hby at_76) k) ?_
          show own_Go p e below KK T15 (mkF m 77 #[.val (.int p1), .val (.int 1), .val (.int 1), .val (.int 1), .val (.int 0), .val (.int 7), .val (.int 1), .unset, .unset, .unset, .unset] [(.int 2), (.int 7)])
          refine own_at (fun t k => XS.iand X15.here hx rfl (hb hby at_77) rfl k) ?_
          show own_Go p e below KK T15 (mkF m 78 #[.val (.int p1), .val (.int 1), .val (.int 1), .val (.int 1), .val (.int 0), .val (.int 7), .val (.int 1), .unset, .unset, .unset, .unset] [(.int ((7 : Int32) &&& (2 : Int32)))])
          rw [show ((7 : Int32) &&& (2 : Int32)) = (2 : Int32) from by decide]
          show own_Go p e below KK T15 (mkF m 78 #[.val (.int p1), .val (.int 1), .val (.int 1), .val (.int 1), .val (.int 0), .val (.int 7), .val (.int 1), .unset, .unset, .unset, .unset] [(.int 2)])
          have hc78 : ¬ ((2 : Int32) = (0 : Int32)) := by decide
          refine own_at (fun t k => XS.ifNo X15.here hx rfl (hb hby at_78) rfl (Jvm.Free.XT.i0_eq_f hc78) k) ?_
          show own_Go p e below KK T15 (mkF m 81 #[.val (.int p1), .val (.int 1), .val (.int 1), .val (.int 1), .val (.int 0), .val (.int 7), .val (.int 1), .unset, .unset, .unset, .unset] [])
          refine own_at (fun t k => XS.iconst X15.here hx rfl (hb hby at_81) k) ?_
          show own_Go p e below KK T15 (mkF m 82 #[.val (.int p1), .val (.int 1), .val (.int 1), .val (.int 1), .val (.int 0), .val (.int 7), .val (.int 1), .unset, .unset, .unset, .unset] [(.int 1)])
          refine own_at (fun t k => XS.goto X15.here hx rfl (pc0 := 82) (pc' := 86) rfl (hb hby at_82) (by decide) (by decide) k) ?_
          show own_Go p e below KK T15 (mkF m 86 #[.val (.int p1), .val (.int 1), .val (.int 1), .val (.int 1), .val (.int 0), .val (.int 7), .val (.int 1), .unset, .unset, .unset, .unset] [(.int 1)])
          refine own_at (fun t k => XS.istore X15.here hx rfl (hb hby at_86) rfl (l' := #[.val (.int p1), .val (.int 1), .val (.int 1), .val (.int 1), .val (.int 0), .val (.int 7), .val (.int 1), .val (.int 1), .unset, .unset, .unset]) rfl k) ?_
          show own_Go p e below KK T15 (mkF m 88 #[.val (.int p1), .val (.int 1), .val (.int 1), .val (.int 1), .val (.int 0), .val (.int 7), .val (.int 1), .val (.int 1), .unset, .unset, .unset] [])
          refine own_at (fun t k => XS.iload X15.here hx rfl (hb hby at_88) rfl k) ?_
          show own_Go p e below KK T15 (mkF m 90 #[.val (.int p1), .val (.int 1), .val (.int 1), .val (.int 1), .val (.int 0), .val (.int 7), .val (.int 1), .val (.int 1), .unset, .unset, .unset] [(.int 7)])
          refine own_at (fun t k => XS.iconst X15.here hx rfl (hb hby at_90) k) ?_
          show own_Go p e below KK T15 (mkF m 91 #[.val (.int p1), .val (.int 1), .val (.int 1), .val (.int 1), .val (.int 0), .val (.int 7), .val (.int 1), .val (.int 1), .unset, .unset, .unset] [(.int 4), (.int 7)])
          refine own_at (fun t k => XS.iand X15.here hx rfl (hb hby at_91) rfl k) ?_
          show own_Go p e below KK T15 (mkF m 92 #[.val (.int p1), .val (.int 1), .val (.int 1), .val (.int 1), .val (.int 0), .val (.int 7), .val (.int 1), .val (.int 1), .unset, .unset, .unset] [(.int ((7 : Int32) &&& (4 : Int32)))])
          rw [show ((7 : Int32) &&& (4 : Int32)) = (4 : Int32) from by decide]
          show own_Go p e below KK T15 (mkF m 92 #[.val (.int p1), .val (.int 1), .val (.int 1), .val (.int 1), .val (.int 0), .val (.int 7), .val (.int 1), .val (.int 1), .unset, .unset, .unset] [(.int 4)])
          have hc92 : ¬ ((4 : Int32) = (0 : Int32)) := by decide
          refine own_at (fun t k => XS.ifNo X15.here hx rfl (hb hby at_92) rfl (Jvm.Free.XT.i0_eq_f hc92) k) ?_
          show own_Go p e below KK T15 (mkF m 95 #[.val (.int p1), .val (.int 1), .val (.int 1), .val (.int 1), .val (.int 0), .val (.int 7), .val (.int 1), .val (.int 1), .unset, .unset, .unset] [])
          refine own_at (fun t k => XS.iconst X15.here hx rfl (hb hby at_95) k) ?_
          show own_Go p e below KK T15 (mkF m 96 #[.val (.int p1), .val (.int 1), .val (.int 1), .val (.int 1), .val (.int 0), .val (.int 7), .val (.int 1), .val (.int 1), .unset, .unset, .unset] [(.int 1)])
          refine own_at (fun t k => XS.goto X15.here hx rfl (pc0 := 96) (pc' := 100) rfl (hb hby at_96) (by decide) (by decide) k) ?_
          show own_Go p e below KK T15 (mkF m 100 #[.val (.int p1), .val (.int 1), .val (.int 1), .val (.int 1), .val (.int 0), .val (.int 7), .val (.int 1), .val (.int 1), .unset, .unset, .unset] [(.int 1)])
          refine own_at (fun t k => XS.istore X15.here hx rfl (hb hby at_100) rfl (l' := #[.val (.int p1), .val (.int 1), .val (.int 1), .val (.int 1), .val (.int 0), .val (.int 7), .val (.int 1), .val (.int 1), .val (.int 1), .unset, .unset]) rfl k) ?_
          show own_Go p e below KK T15 (mkF m 102 #[.val (.int p1), .val (.int 1), .val (.int 1), .val (.int 1), .val (.int 0), .val (.int 7), .val (.int 1), .val (.int 1), .val (.int 1), .unset, .unset] [])
          refine own_at (fun t k => XS.iload X15.here hx rfl (hb hby at_102) rfl k) ?_
          show own_Go p e below KK T15 (mkF m 104 #[.val (.int p1), .val (.int 1), .val (.int 1), .val (.int 1), .val (.int 0), .val (.int 7), .val (.int 1), .val (.int 1), .val (.int 1), .unset, .unset] [(.int 7)])
          refine own_at (fun t k => XS.bipush X15.here hx rfl (hb hby at_104) k) ?_
          show own_Go p e below KK T15 (mkF m 106 #[.val (.int p1), .val (.int 1), .val (.int 1), .val (.int 1), .val (.int 0), .val (.int 7), .val (.int 1), .val (.int 1), .val (.int 1), .unset, .unset] [(.int 8), (.int 7)])
          refine own_at (fun t k => XS.iand X15.here hx rfl (hb hby at_106) rfl k) ?_
          show own_Go p e below KK T15 (mkF m 107 #[.val (.int p1), .val (.int 1), .val (.int 1), .val (.int 1), .val (.int 0), .val (.int 7), .val (.int 1), .val (.int 1), .val (.int 1), .unset, .unset] [(.int ((7 : Int32) &&& (8 : Int32)))])
          rw [show ((7 : Int32) &&& (8 : Int32)) = (0 : Int32) from by decide]
          show own_Go p e below KK T15 (mkF m 107 #[.val (.int p1), .val (.int 1), .val (.int 1), .val (.int 1), .val (.int 0), .val (.int 7), .val (.int 1), .val (.int 1), .val (.int 1), .unset, .unset] [(.int 0)])
          have hc107 : (0 : Int32) = (0 : Int32) := by decide
          refine own_at (fun t k => XS.ifYes X15.here hx rfl (pc0 := 107) (pc' := 114) rfl (hb hby at_107) rfl (Jvm.Free.XT.i0_eq_t hc107) (by decide) (by decide) k) ?_
          show own_Go p e below KK T15 (mkF m 114 #[.val (.int p1), .val (.int 1), .val (.int 1), .val (.int 1), .val (.int 0), .val (.int 7), .val (.int 1), .val (.int 1), .val (.int 1), .unset, .unset] [])
          refine own_at (fun t k => XS.iconst X15.here hx rfl (hb hby at_114) k) ?_
          show own_Go p e below KK T15 (mkF m 115 #[.val (.int p1), .val (.int 1), .val (.int 1), .val (.int 1), .val (.int 0), .val (.int 7), .val (.int 1), .val (.int 1), .val (.int 1), .unset, .unset] [(.int 0)])
          refine own_at (fun t k => XS.istore X15.here hx rfl (hb hby at_115) rfl (l' := #[.val (.int p1), .val (.int 1), .val (.int 1), .val (.int 1), .val (.int 0), .val (.int 7), .val (.int 1), .val (.int 1), .val (.int 1), .val (.int 0), .unset]) rfl k) ?_
          show own_Go p e below KK T15 (mkF m 117 #[.val (.int p1), .val (.int 1), .val (.int 1), .val (.int 1), .val (.int 0), .val (.int 7), .val (.int 1), .val (.int 1), .val (.int 1), .val (.int 0), .unset] [])
          refine own_at (fun t k => XS.bipush X15.here hx rfl (hb hby at_117) k) ?_
          show own_Go p e below KK T15 (mkF m 119 #[.val (.int p1), .val (.int 1), .val (.int 1), .val (.int 1), .val (.int 0), .val (.int 7), .val (.int 1), .val (.int 1), .val (.int 1), .val (.int 0), .unset] [(.int 15)])
          refine own_at (fun t k => XS.istore X15.here hx rfl (hb hby at_119) rfl (l' := #[.val (.int p1), .val (.int 1), .val (.int 1), .val (.int 1), .val (.int 0), .val (.int 7), .val (.int 1), .val (.int 1), .val (.int 1), .val (.int 0), .val (.int 15)]) rfl k) ?_
          show own_Go p e below KK T15 (mkF m 121 #[.val (.int p1), .val (.int 1), .val (.int 1), .val (.int 1), .val (.int 0), .val (.int 7), .val (.int 1), .val (.int 1), .val (.int 1), .val (.int 0), .val (.int 15)] [])
          refine own_at (fun t k => XS.iload X15.here hx rfl (hb hby at_121) rfl k) ?_
          show own_Go p e below KK T15 (mkF m 123 #[.val (.int p1), .val (.int 1), .val (.int 1), .val (.int 1), .val (.int 0), .val (.int 7), .val (.int 1), .val (.int 1), .val (.int 1), .val (.int 0), .val (.int 15)] [(.int 1)])
          refine own_at (fun t k => XS.iloadN X15.here hx rfl (hb hby at_123) rfl k) ?_
          show own_Go p e below KK T15 (mkF m 124 #[.val (.int p1), .val (.int 1), .val (.int 1), .val (.int 1), .val (.int 0), .val (.int 7), .val (.int 1), .val (.int 1), .val (.int 1), .val (.int 0), .val (.int 15)] [(.int 1), (.int 1)])
          have hc124 : (1 : Int32) = (1 : Int32) := by decide
          refine own_at (fun t k => XS.icmpNo X15.here hx rfl (hb hby at_124) rfl (Jvm.Free.XT.ii_ne_f hc124) k) ?_
          show own_Go p e below KK T15 (mkF m 127 #[.val (.int p1), .val (.int 1), .val (.int 1), .val (.int 1), .val (.int 0), .val (.int 7), .val (.int 1), .val (.int 1), .val (.int 1), .val (.int 0), .val (.int 15)] [])
          refine own_at (fun t k => XS.iload X15.here hx rfl (hb hby at_127) rfl k) ?_
          show own_Go p e below KK T15 (mkF m 129 #[.val (.int p1), .val (.int 1), .val (.int 1), .val (.int 1), .val (.int 0), .val (.int 7), .val (.int 1), .val (.int 1), .val (.int 1), .val (.int 0), .val (.int 15)] [(.int 1)])
          refine own_at (fun t k => XS.iloadN X15.here hx rfl (hb hby at_129) rfl k) ?_
          show own_Go p e below KK T15 (mkF m 130 #[.val (.int p1), .val (.int 1), .val (.int 1), .val (.int 1), .val (.int 0), .val (.int 7), .val (.int 1), .val (.int 1), .val (.int 1), .val (.int 0), .val (.int 15)] [(.int 1), (.int 1)])
          have hc130 : ¬ ((1 : Int32) = (0 : Int32)) := by decide
          refine own_at (fun t k => XS.ifNo X15.here hx rfl (hb hby at_130) rfl (Jvm.Free.XT.i0_eq_f hc130) k) ?_
          show own_Go p e below KK T15 (mkF m 133 #[.val (.int p1), .val (.int 1), .val (.int 1), .val (.int 1), .val (.int 0), .val (.int 7), .val (.int 1), .val (.int 1), .val (.int 1), .val (.int 0), .val (.int 15)] [(.int 1)])
          refine own_at (fun t k => XS.iloadN X15.here hx rfl (hb hby at_133) rfl k) ?_
          show own_Go p e below KK T15 (mkF m 134 #[.val (.int p1), .val (.int 1), .val (.int 1), .val (.int 1), .val (.int 0), .val (.int 7), .val (.int 1), .val (.int 1), .val (.int 1), .val (.int 0), .val (.int 15)] [(.int 1), (.int 1)])
          have hc134 : ¬ ((1 : Int32) = (0 : Int32)) := by decide
          refine own_at (fun t k => XS.ifNo X15.here hx rfl (hb hby at_134) rfl (Jvm.Free.XT.i0_eq_f hc134) k) ?_
          show own_Go p e below KK T15 (mkF m 137 #[.val (.int p1), .val (.int 1), .val (.int 1), .val (.int 1), .val (.int 0), .val (.int 7), .val (.int 1), .val (.int 1), .val (.int 1), .val (.int 0), .val (.int 15)] [(.int 1)])
          refine own_at (fun t k => XS.iconst X15.here hx rfl (hb hby at_137) k) ?_
          show own_Go p e below KK T15 (mkF m 138 #[.val (.int p1), .val (.int 1), .val (.int 1), .val (.int 1), .val (.int 0), .val (.int 7), .val (.int 1), .val (.int 1), .val (.int 1), .val (.int 0), .val (.int 15)] [(.int 1), (.int 1)])
          refine own_at (fun t k => XS.goto X15.here hx rfl (pc0 := 138) (pc' := 142) rfl (hb hby at_138) (by decide) (by decide) k) ?_
          show own_Go p e below KK T15 (mkF m 142 #[.val (.int p1), .val (.int 1), .val (.int 1), .val (.int 1), .val (.int 0), .val (.int 7), .val (.int 1), .val (.int 1), .val (.int 1), .val (.int 0), .val (.int 15)] [(.int 1), (.int 1)])
          have hc142 : (1 : Int32) = (1 : Int32) := by decide
          refine own_at (fun t k => XS.icmpNo X15.here hx rfl (hb hby at_142) rfl (Jvm.Free.XT.ii_ne_f hc142) k) ?_
          show own_Go p e below KK T15 (mkF m 145 #[.val (.int p1), .val (.int 1), .val (.int 1), .val (.int 1), .val (.int 0), .val (.int 7), .val (.int 1), .val (.int 1), .val (.int 1), .val (.int 0), .val (.int 15)] [])
          refine own_at (fun t k => XS.iload X15.here hx rfl (hb hby at_145) rfl k) ?_
          show own_Go p e below KK T15 (mkF m 147 #[.val (.int p1), .val (.int 1), .val (.int 1), .val (.int 1), .val (.int 0), .val (.int 7), .val (.int 1), .val (.int 1), .val (.int 1), .val (.int 0), .val (.int 15)] [(.int 1)])
          refine own_at (fun t k => XS.iloadN X15.here hx rfl (hb hby at_147) rfl k) ?_
          show own_Go p e below KK T15 (mkF m 148 #[.val (.int p1), .val (.int 1), .val (.int 1), .val (.int 1), .val (.int 0), .val (.int 7), .val (.int 1), .val (.int 1), .val (.int 1), .val (.int 0), .val (.int 15)] [(.int 1), (.int 1)])
          have hc148 : (1 : Int32) = (1 : Int32) := by decide
          refine own_at (fun t k => XS.icmpNo X15.here hx rfl (hb hby at_148) rfl (Jvm.Free.XT.ii_ne_f hc148) k) ?_
          show own_Go p e below KK T15 (mkF m 151 #[.val (.int p1), .val (.int 1), .val (.int 1), .val (.int 1), .val (.int 0), .val (.int 7), .val (.int 1), .val (.int 1), .val (.int 1), .val (.int 0), .val (.int 15)] [])
          refine own_at (fun t k => XS.iload X15.here hx rfl (hb hby at_151) rfl k) ?_
          show own_Go p e below KK T15 (mkF m 153 #[.val (.int p1), .val (.int 1), .val (.int 1), .val (.int 1), .val (.int 0), .val (.int 7), .val (.int 1), .val (.int 1), .val (.int 1), .val (.int 0), .val (.int 15)] [(.int 0)])
          refine own_at (fun t k => XS.iloadN X15.here hx rfl (hb hby at_153) rfl k) ?_
          show own_Go p e below KK T15 (mkF m 154 #[.val (.int p1), .val (.int 1), .val (.int 1), .val (.int 1), .val (.int 0), .val (.int 7), .val (.int 1), .val (.int 1), .val (.int 1), .val (.int 0), .val (.int 15)] [(.int 1), (.int 0)])
          have hc154 : ¬ ((1 : Int32) = (0 : Int32)) := by decide
          refine own_at (fun t k => XS.ifNo X15.here hx rfl (hb hby at_154) rfl (Jvm.Free.XT.i0_eq_f hc154) k) ?_
          show own_Go p e below KK T15 (mkF m 157 #[.val (.int p1), .val (.int 1), .val (.int 1), .val (.int 1), .val (.int 0), .val (.int 7), .val (.int 1), .val (.int 1), .val (.int 1), .val (.int 0), .val (.int 15)] [(.int 0)])
          refine own_at (fun t k => XS.iload X15.here hx rfl (hb hby at_157) rfl k) ?_
          show own_Go p e below KK T15 (mkF m 159 #[.val (.int p1), .val (.int 1), .val (.int 1), .val (.int 1), .val (.int 0), .val (.int 7), .val (.int 1), .val (.int 1), .val (.int 1), .val (.int 0), .val (.int 15)] [(.int 0), (.int 0)])
          have hc159 : (0 : Int32) = (0 : Int32) := by decide
          refine own_at (fun t k => XS.ifYes X15.here hx rfl (pc0 := 159) (pc' := 166) rfl (hb hby at_159) rfl (Jvm.Free.XT.i0_eq_t hc159) (by decide) (by decide) k) ?_
          show own_Go p e below KK T15 (mkF m 166 #[.val (.int p1), .val (.int 1), .val (.int 1), .val (.int 1), .val (.int 0), .val (.int 7), .val (.int 1), .val (.int 1), .val (.int 1), .val (.int 0), .val (.int 15)] [(.int 0)])
          refine own_at (fun t k => XS.iconst X15.here hx rfl (hb hby at_166) k) ?_
          show own_Go p e below KK T15 (mkF m 167 #[.val (.int p1), .val (.int 1), .val (.int 1), .val (.int 1), .val (.int 0), .val (.int 7), .val (.int 1), .val (.int 1), .val (.int 1), .val (.int 0), .val (.int 15)] [(.int 0), (.int 0)])
          have hc167 : (0 : Int32) = (0 : Int32) := by decide
          refine own_at (fun t k => XS.icmpNo X15.here hx rfl (hb hby at_167) rfl (Jvm.Free.XT.ii_ne_f hc167) k) ?_
          show own_Go p e below KK T15 (mkF m 170 #[.val (.int p1), .val (.int 1), .val (.int 1), .val (.int 1), .val (.int 0), .val (.int 7), .val (.int 1), .val (.int 1), .val (.int 1), .val (.int 0), .val (.int 15)] [])
          refine own_at (fun t k => XS.iload X15.here hx rfl (hb hby at_170) rfl k) ?_
          show own_Go p e below KK T15 (mkF m 172 #[.val (.int p1), .val (.int 1), .val (.int 1), .val (.int 1), .val (.int 0), .val (.int 7), .val (.int 1), .val (.int 1), .val (.int 1), .val (.int 0), .val (.int 15)] [(.int 7)])
          refine own_at (fun t k => XS.iload X15.here hx rfl (hb hby at_172) rfl k) ?_
          show own_Go p e below KK T15 (mkF m 174 #[.val (.int p1), .val (.int 1), .val (.int 1), .val (.int 1), .val (.int 0), .val (.int 7), .val (.int 1), .val (.int 1), .val (.int 1), .val (.int 0), .val (.int 15)] [(.int 15), (.int 7)])
          refine own_at (fun t k => XS.iconst X15.here hx rfl (hb hby at_174) k) ?_
          show own_Go p e below KK T15 (mkF m 175 #[.val (.int p1), .val (.int 1), .val (.int 1), .val (.int 1), .val (.int 0), .val (.int 7), .val (.int 1), .val (.int 1), .val (.int 1), .val (.int 0), .val (.int 15)] [(.int (-1 : Int32)), (.int 15), (.int 7)])
          refine own_at (fun t k => XS.ixor X15.here hx rfl (hb hby at_175) rfl k) ?_
          show own_Go p e below KK T15 (mkF m 176 #[.val (.int p1), .val (.int 1), .val (.int 1), .val (.int 1), .val (.int 0), .val (.int 7), .val (.int 1), .val (.int 1), .val (.int 1), .val (.int 0), .val (.int 15)] [(.int ((15 : Int32) ^^^ (-1 : Int32))), (.int 7)])
          rw [show ((15 : Int32) ^^^ (-1 : Int32)) = (-16 : Int32) from by decide]
          show own_Go p e below KK T15 (mkF m 176 #[.val (.int p1), .val (.int 1), .val (.int 1), .val (.int 1), .val (.int 0), .val (.int 7), .val (.int 1), .val (.int 1), .val (.int 1), .val (.int 0), .val (.int 15)] [(.int (-16 : Int32)), (.int 7)])
          refine own_at (fun t k => XS.iand X15.here hx rfl (hb hby at_176) rfl k) ?_
          show own_Go p e below KK T15 (mkF m 177 #[.val (.int p1), .val (.int 1), .val (.int 1), .val (.int 1), .val (.int 0), .val (.int 7), .val (.int 1), .val (.int 1), .val (.int 1), .val (.int 0), .val (.int 15)] [(.int ((7 : Int32) &&& (-16 : Int32)))])
          rw [show ((7 : Int32) &&& (-16 : Int32)) = (0 : Int32) from by decide]
          show own_Go p e below KK T15 (mkF m 177 #[.val (.int p1), .val (.int 1), .val (.int 1), .val (.int 1), .val (.int 0), .val (.int 7), .val (.int 1), .val (.int 1), .val (.int 1), .val (.int 0), .val (.int 15)] [(.int 0)])
          have hc177 : (0 : Int32) = (0 : Int32) := by decide
          refine own_at (fun t k => XS.ifNo X15.here hx rfl (hb hby at_177) rfl (Jvm.Free.XT.i0_ne_f hc177) k) ?_
          show own_Go p e below KK T15 (mkF m 180 #[.val (.int p1), .val (.int 1), .val (.int 1), .val (.int 1), .val (.int 0), .val (.int 7), .val (.int 1), .val (.int 1), .val (.int 1), .val (.int 0), .val (.int 15)] [])
          refine own_at (fun t k => XS.iload X15.here hx rfl (hb hby at_180) rfl k) ?_
          show own_Go p e below KK T15 (mkF m 182 #[.val (.int p1), .val (.int 1), .val (.int 1), .val (.int 1), .val (.int 0), .val (.int 7), .val (.int 1), .val (.int 1), .val (.int 1), .val (.int 0), .val (.int 15)] [(.int 7)])
          have hc182 : ¬ ((7 : Int32) = (0 : Int32)) := by decide
          refine own_at (fun t k => XS.ifYes X15.here hx rfl (pc0 := 182) (pc' := 189) rfl (hb hby at_182) rfl (Jvm.Free.XT.i0_ne_t hc182) (by decide) (by decide) k) ?_
          show own_Go p e below KK T15 (mkF m 189 #[.val (.int p1), .val (.int 1), .val (.int 1), .val (.int 1), .val (.int 0), .val (.int 7), .val (.int 1), .val (.int 1), .val (.int 1), .val (.int 0), .val (.int 15)] [])
          refine own_at (fun t k => XS.iconst X15.here hx rfl (hb hby at_189) k) ?_
          show own_Go p e below KK T15 (mkF m 190 #[.val (.int p1), .val (.int 1), .val (.int 1), .val (.int 1), .val (.int 0), .val (.int 7), .val (.int 1), .val (.int 1), .val (.int 1), .val (.int 0), .val (.int 15)] [(.int 0)])
          refine own_at (fun t k => XS.iloadN X15.here hx rfl (hb hby at_190) rfl k) ?_
          show own_Go p e below KK T15 (mkF m 191 #[.val (.int p1), .val (.int 1), .val (.int 1), .val (.int 1), .val (.int 0), .val (.int 7), .val (.int 1), .val (.int 1), .val (.int 1), .val (.int 0), .val (.int 15)] [(.int 1), (.int 0)])
          have hc191 : ¬ ((1 : Int32) = (0 : Int32)) := by decide
          refine own_at (fun t k => XS.ifYes X15.here hx rfl (pc0 := 191) (pc' := 202) rfl (hb hby at_191) rfl (Jvm.Free.XT.i0_ne_t hc191) (by decide) (by decide) k) ?_
          show own_Go p e below KK T15 (mkF m 202 #[.val (.int p1), .val (.int 1), .val (.int 1), .val (.int 1), .val (.int 0), .val (.int 7), .val (.int 1), .val (.int 1), .val (.int 1), .val (.int 0), .val (.int 15)] [(.int 0)])
          refine own_at (fun t k => XS.iconst X15.here hx rfl (hb hby at_202) k) ?_
          show own_Go p e below KK T15 (mkF m 203 #[.val (.int p1), .val (.int 1), .val (.int 1), .val (.int 1), .val (.int 0), .val (.int 7), .val (.int 1), .val (.int 1), .val (.int 1), .val (.int 0), .val (.int 15)] [(.int 0), (.int 0)])
          have hc203 : (0 : Int32) = (0 : Int32) := by decide
          refine own_at (fun t k => XS.icmpNo X15.here hx rfl (hb hby at_203) rfl (Jvm.Free.XT.ii_ne_f hc203) k) ?_
          show own_Go p e below KK T15 (mkF m 206 #[.val (.int p1), .val (.int 1), .val (.int 1), .val (.int 1), .val (.int 0), .val (.int 7), .val (.int 1), .val (.int 1), .val (.int 1), .val (.int 0), .val (.int 15)] [])
          refine own_at (fun t k => XS.iconst X15.here hx rfl (hb hby at_206) k) ?_
          show own_Go p e below KK T15 (mkF m 207 #[.val (.int p1), .val (.int 1), .val (.int 1), .val (.int 1), .val (.int 0), .val (.int 7), .val (.int 1), .val (.int 1), .val (.int 1), .val (.int 0), .val (.int 15)] [(.int 1)])
          refine own_at (fun t k => XS.goto X15.here hx rfl (pc0 := 207) (pc' := 211) rfl (hb hby at_207) (by decide) (by decide) k) ?_
          show own_Go p e below KK T15 (mkF m 211 #[.val (.int p1), .val (.int 1), .val (.int 1), .val (.int 1), .val (.int 0), .val (.int 7), .val (.int 1), .val (.int 1), .val (.int 1), .val (.int 0), .val (.int 15)] [(.int 1)])
          subst hKK
          exact own_retN X15 hx hlk (t := .boolean) Bd.returns (by simp) (hb hby at_211) (w := (1 : Int32)) (show nar .boolean (1 : Int32) = 1 from by decide) ⟨rfl, N15⟩ (Nat.le_of_ble_eq_true rfl) (Nat.le_of_ble_eq_true rfl)
        · refine own_at (fun t k => XS.ifNo X0.here hx rfl (hb hby at_40) rfl (Jvm.Free.XT.i0_eq_f hc40) k) ?_
          show own_Go p e below KK s₁ (mkF m 43 #[.val (.int p1), .val (.int 1), .val (.int 1), .val (.int 1), .unset, .unset, .unset, .unset, .unset, .unset, .unset] [])
          refine own_at (fun t k => XS.iconst X0.here hx rfl (hb hby at_43) k) ?_
          show own_Go p e below KK s₁ (mkF m 44 #[.val (.int p1), .val (.int 1), .val (.int 1), .val (.int 1), .unset, .unset, .unset, .unset, .unset, .unset, .unset] [(.int 1)])
          refine own_at (fun t k => XS.goto X0.here hx rfl (pc0 := 44) (pc' := 48) rfl (hb hby at_44) (by decide) (by decide) k) ?_
          show own_Go p e below KK s₁ (mkF m 48 #[.val (.int p1), .val (.int 1), .val (.int 1), .val (.int 1), .unset, .unset, .unset, .unset, .unset, .unset, .unset] [(.int 1)])
          refine own_at (fun t k => XS.istore X0.here hx rfl (hb hby at_48) rfl (l' := #[.val (.int p1), .val (.int 1), .val (.int 1), .val (.int 1), .val (.int 1), .unset, .unset, .unset, .unset, .unset, .unset]) rfl k) ?_
          show own_Go p e below KK s₁ (mkF m 50 #[.val (.int p1), .val (.int 1), .val (.int 1), .val (.int 1), .val (.int 1), .unset, .unset, .unset, .unset, .unset, .unset] [])
          refine own_at (fun t k => XS.iloadN X0.here hx rfl (hb hby at_50) rfl k) ?_
          show own_Go p e below KK s₁ (mkF m 51 #[.val (.int p1), .val (.int 1), .val (.int 1), .val (.int 1), .val (.int 1), .unset, .unset, .unset, .unset, .unset, .unset] [(.int 1)])
          refine own_at (fun t k => XS.iloadN X0.here hx rfl (hb hby at_51) rfl k) ?_
          show own_Go p e below KK s₁ (mkF m 52 #[.val (.int p1), .val (.int 1), .val (.int 1), .val (.int 1), .val (.int 1), .unset, .unset, .unset, .unset, .unset, .unset] [(.int 1), (.int 1)])
          refine own_at (fun t k => XS.iloadN X0.here hx rfl (hb hby at_52) rfl k) ?_
          show own_Go p e below KK s₁ (mkF m 53 #[.val (.int p1), .val (.int 1), .val (.int 1), .val (.int 1), .val (.int 1), .unset, .unset, .unset, .unset, .unset, .unset] [(.int 1), (.int 1), (.int 1)])
          refine own_at (fun t k => XS.iload X0.here hx rfl (hb hby at_53) rfl k) ?_
          show own_Go p e below KK s₁ (mkF m 55 #[.val (.int p1), .val (.int 1), .val (.int 1), .val (.int 1), .val (.int 1), .unset, .unset, .unset, .unset, .unset, .unset] [(.int 1), (.int 1), (.int 1), (.int 1)])
          obtain ⟨_, _, ⟨T16, L16, k16, n16⟩, -, X16, ⟨Lc16, hQ16, l16, y16, z16⟩, st16⟩ := Jvm.LawKit.callS X0 hx (y := (⟨"com/example/oyster/oyster/core/form/NamedTest", "ends", "(ZZZZ)I"⟩ : MethodName)) hown (mvT hZ (hw _ (List.mem_of_getElem? (i := 0) rfl))) (mvT hZ (hw _ (List.mem_of_getElem? (i := 1) rfl))) (mvT hZ (hw _ (List.mem_of_getElem? (i := 2) rfl))) (mvT hZ (hw _ (List.mem_of_getElem? (i := 3) rfl))) (by decide) (backOf (W := 0) (rm_prog_119_2 l Z a0 hw [] (1 : Int32) (1 : Int32) (1 : Int32) (1 : Int32)  h0 n0 Z0 ) hZ (hw _ (List.mem_of_getElem? (i := 3) rfl)) (hw _ (List.mem_of_getElem? (i := 2) rfl)) (by decide) (by decide)) (g := (mkF m 55 #[.val (.int p1), .val (.int 1), .val (.int 1), .val (.int 1), .val (.int 1), .unset, .unset, .unset, .unset, .unset, .unset] [(.int 1), (.int 1), (.int 1), (.int 1)])) rfl (by rw [hml]; rfl) (argsL := [(.int 1), (.int 1), (.int 1), (.int 1)]) (rest := []) (lenOf pd__ZZZZ_I rfl) rfl (by show 2 * 0 + _ ≤ _; exact Nat.le_of_eq rfl) (hb hby at_55) (fun _ _ => ⟨rfl, e0, (by decide : 0 + 0 ≤ _), (by decide : 0 + 0 ≤ _)⟩)
          dsimp only [Pt.U, Pt.locs, Pt.cells, Pt.slots] at X16 l16 y16 z16 st16 hQ16
          subst l16 y16 z16
          obtain ⟨rfl, N16q, e16⟩ := hQ16
          rw [show (own_F_prog_119_2 (1 : Int32) (1 : Int32) (1 : Int32) (1 : Int32)) = (15 : Int32) from by decide] at st16
          have N16 := Fr.app N0 N16q
          refine own_of (fun t k => st16 t k) ?_
          show own_Go p e below KK T16 (mkF m 58 #[.val (.int p1), .val (.int 1), .val (.int 1), .val (.int 1), .val (.int 1), .unset, .unset, .unset, .unset, .unset, .unset] [(.int 15)])
          refine own_at (fun t k => XS.istore X16.here hx rfl (hb hby at_58) rfl (l' := #[.val (.int p1), .val (.int 1), .val (.int 1), .val (.int 1), .val (.int 1), .val (.int 15), .unset, .unset, .unset, .unset, .unset]) rfl k) ?_
          show own_Go p e below KK T16 (mkF m 60 #[.val (.int p1), .val (.int 1), .val (.int 1), .val (.int 1), .val (.int 1), .val (.int 15), .unset, .unset, .unset, .unset, .unset] [])
          refine own_at (fun t k => XS.iload X16.here hx rfl (hb hby at_60) rfl k) ?_
          show own_Go p e below KK T16 (mkF m 62 #[.val (.int p1), .val (.int 1), .val (.int 1), .val (.int 1), .val (.int 1), .val (.int 15), .unset, .unset, .unset, .unset, .unset] [(.int 15)])
          refine own_at (fun t k => XS.iconst X16.here hx rfl (hb hby at_62) k) ?_
          show own_Go p e below KK T16 (mkF m 63 #[.val (.int p1), .val (.int 1), .val (.int 1), .val (.int 1), .val (.int 1), .val (.int 15), .unset, .unset, .unset, .unset, .unset] [(.int 1), (.int 15)])
          refine own_at (fun t k => XS.iand X16.here hx rfl (hb hby at_63) rfl k) ?_
          show own_Go p e below KK T16 (mkF m 64 #[.val (.int p1), .val (.int 1), .val (.int 1), .val (.int 1), .val (.int 1), .val (.int 15), .unset, .unset, .unset, .unset, .unset] [(.int ((15 : Int32) &&& (1 : Int32)))])
          rw [show ((15 : Int32) &&& (1 : Int32)) = (1 : Int32) from by decide]
          show own_Go p e below KK T16 (mkF m 64 #[.val (.int p1), .val (.int 1), .val (.int 1), .val (.int 1), .val (.int 1), .val (.int 15), .unset, .unset, .unset, .unset, .unset] [(.int 1)])
          have hc64 : ¬ ((1 : Int32) = (0 : Int32)) := by decide
          refine own_at (fun t k => XS.ifNo X16.here hx rfl (hb hby at_64) rfl (Jvm.Free.XT.i0_eq_f hc64) k) ?_
          show own_Go p e below KK T16 (mkF m 67 #[.val (.int p1), .val (.int 1), .val (.int 1), .val (.int 1), .val (.int 1), .val (.int 15), .unset, .unset, .unset, .unset, .unset] [])
          refine own_at (fun t k => XS.iconst X16.here hx rfl (hb hby at_67) k) ?_
          show own_Go p e below KK T16 (mkF m 68 #[.val (.int p1), .val (.int 1), .val (.int 1), .val (.int 1), .val (.int 1), .val (.int 15), .unset, .unset, .unset, .unset, .unset] [(.int 1)])
          refine own_at (fun t k => XS.goto X16.here hx rfl (pc0 := 68) (pc' := 72) rfl (hb hby at_68) (by decide) (by decide) k) ?_
          show own_Go p e below KK T16 (mkF m 72 #[.val (.int p1), .val (.int 1), .val (.int 1), .val (.int 1), .val (.int 1), .val (.int 15), .unset, .unset, .unset, .unset, .unset] [(.int 1)])
          refine own_at (fun t k => XS.istore X16.here hx rfl (hb hby at_72) rfl (l' := #[.val (.int p1), .val (.int 1), .val (.int 1), .val (.int 1), .val (.int 1), .val (.int 15), .val (.int 1), .unset, .unset, .unset, .unset]) rfl k) ?_
          show own_Go p e below KK T16 (mkF m 74 #[.val (.int p1), .val (.int 1), .val (.int 1), .val (.int 1), .val (.int 1), .val (.int 15), .val (.int 1), .unset, .unset, .unset, .unset] [])
          refine own_at (fun t k => XS.iload X16.here hx rfl (hb hby at_74) rfl k) ?_
          show own_Go p e below KK T16 (mkF m 76 #[.val (.int p1), .val (.int 1), .val (.int 1), .val (.int 1), .val (.int 1), .val (.int 15), .val (.int 1), .unset, .unset, .unset, .unset] [(.int 15)])
          refine own_at (fun t k => XS.iconst X16.here hx rfl (hb hby at_76) k) ?_
          show own_Go p e below KK T16 (mkF m 77 #[.val (.int p1), .val (.int 1), .val (.int 1), .val (.int 1), .val (.int 1), .val (.int 15), .val (.int 1), .unset, .unset, .unset, .unset] [(.int 2), (.int 15)])
          refine own_at (fun t k => XS.iand X16.here hx rfl (hb hby at_77) rfl k) ?_
          show own_Go p e below KK T16 (mkF m 78 #[.val (.int p1), .val (.int 1), .val (.int 1), .val (.int 1), .val (.int 1), .val (.int 15), .val (.int 1), .unset, .unset, .unset, .unset] [(.int ((15 : Int32) &&& (2 : Int32)))])
          rw [show ((15 : Int32) &&& (2 : Int32)) = (2 : Int32) from by decide]
          show own_Go p e below KK T16 (mkF m 78 #[.val (.int p1), .val (.int 1), .val (.int 1), .val (.int 1), .val (.int 1), .val (.int 15), .val (.int 1), .unset, .unset, .unset, .unset] [(.int 2)])
          have hc78 : ¬ ((2 : Int32) = (0 : Int32)) := by decide
          refine own_at (fun t k => XS.ifNo X16.here hx rfl (hb hby at_78) rfl (Jvm.Free.XT.i0_eq_f hc78) k) ?_
          show own_Go p e below KK T16 (mkF m 81 #[.val (.int p1), .val (.int 1), .val (.int 1), .val (.int 1), .val (.int 1), .val (.int 15), .val (.int 1), .unset, .unset, .unset, .unset] [])
          refine own_at (fun t k => XS.iconst X16.here hx rfl (hb hby at_81) k) ?_
          show own_Go p e below KK T16 (mkF m 82 #[.val (.int p1), .val (.int 1), .val (.int 1), .val (.int 1), .val (.int 1), .val (.int 15), .val (.int 1), .unset, .unset, .unset, .unset] [(.int 1)])
          refine own_at (fun t k => XS.goto X16.here hx rfl (pc0 := 82) (pc' := 86) rfl (hb hby at_82) (by decide) (by decide) k) ?_
          show own_Go p e below KK T16 (mkF m 86 #[.val (.int p1), .val (.int 1), .val (.int 1), .val (.int 1), .val (.int 1), .val (.int 15), .val (.int 1), .unset, .unset, .unset, .unset] [(.int 1)])
          refine own_at (fun t k => XS.istore X16.here hx rfl (hb hby at_86) rfl (l' := #[.val (.int p1), .val (.int 1), .val (.int 1), .val (.int 1), .val (.int 1), .val (.int 15), .val (.int 1), .val (.int 1), .unset, .unset, .unset]) rfl k) ?_
          show own_Go p e below KK T16 (mkF m 88 #[.val (.int p1), .val (.int 1), .val (.int 1), .val (.int 1), .val (.int 1), .val (.int 15), .val (.int 1), .val (.int 1), .unset, .unset, .unset] [])
          refine own_at (fun t k => XS.iload X16.here hx rfl (hb hby at_88) rfl k) ?_
          show own_Go p e below KK T16 (mkF m 90 #[.val (.int p1), .val (.int 1), .val (.int 1), .val (.int 1), .val (.int 1), .val (.int 15), .val (.int 1), .val (.int 1), .unset, .unset, .unset] [(.int 15)])
          refine own_at (fun t k => XS.iconst X16.here hx rfl (hb hby at_90) k) ?_
          show own_Go p e below KK T16 (mkF m 91 #[.val (.int p1), .val (.int 1), .val (.int 1), .val (.int 1), .val (.int 1), .val (.int 15), .val (.int 1), .val (.int 1), .unset, .unset, .unset] [(.int 4), (.int 15)])
          refine own_at (fun t k => XS.iand X16.here hx rfl (hb hby at_91) rfl k) ?_
          show own_Go p e below KK T16 (mkF m 92 #[.val (.int p1), .val (.int 1), .val (.int 1), .val (.int 1), .val (.int 1), .val (.int 15), .val (.int 1), .val (.int 1), .unset, .unset, .unset] [(.int ((15 : Int32) &&& (4 : Int32)))])
          rw [show ((15 : Int32) &&& (4 : Int32)) = (4 : Int32) from by decide]
          show own_Go p e below KK T16 (mkF m 92 #[.val (.int p1), .val (.int 1), .val (.int 1), .val (.int 1), .val (.int 1), .val (.int 15), .val (.int 1), .val (.int 1), .unset, .unset, .unset] [(.int 4)])
          have hc92 : ¬ ((4 : Int32) = (0 : Int32)) := by decide
          refine own_at (fun t k => XS.ifNo X16.here hx rfl (hb hby at_92) rfl (Jvm.Free.XT.i0_eq_f hc92) k) ?_
          show own_Go p e below KK T16 (mkF m 95 #[.val (.int p1), .val (.int 1), .val (.int 1), .val (.int 1), .val (.int 1), .val (.int 15), .val (.int 1), .val (.int 1), .unset, .unset, .unset] [])
          refine own_at (fun t k => XS.iconst X16.here hx rfl (hb hby at_95) k) ?_
          show own_Go p e below KK T16 (mkF m 96 #[.val (.int p1), .val (.int 1), .val (.int 1), .val (.int 1), .val (.int 1), .val (.int 15), .val (.int 1), .val (.int 1), .unset, .unset, .unset] [(.int 1)])
          refine own_at (fun t k => XS.goto X16.here hx rfl (pc0 := 96) (pc' := 100) rfl (hb hby at_96) (by decide) (by decide) k) ?_
          show own_Go p e below KK T16 (mkF m 100 #[.val (.int p1), .val (.int 1), .val (.int 1), .val (.int 1), .val (.int 1), .val (.int 15), .val (.int 1), .val (.int 1), .unset, .unset, .unset] [(.int 1)])
          refine own_at (fun t k => XS.istore X16.here hx rfl (hb hby at_100) rfl (l' := #[.val (.int p1), .val (.int 1), .val (.int 1), .val (.int 1), .val (.int 1), .val (.int 15), .val (.int 1), .val (.int 1), .val (.int 1), .unset, .unset]) rfl k) ?_
          show own_Go p e below KK T16 (mkF m 102 #[.val (.int p1), .val (.int 1), .val (.int 1), .val (.int 1), .val (.int 1), .val (.int 15), .val (.int 1), .val (.int 1), .val (.int 1), .unset, .unset] [])
          refine own_at (fun t k => XS.iload X16.here hx rfl (hb hby at_102) rfl k) ?_
          show own_Go p e below KK T16 (mkF m 104 #[.val (.int p1), .val (.int 1), .val (.int 1), .val (.int 1), .val (.int 1), .val (.int 15), .val (.int 1), .val (.int 1), .val (.int 1), .unset, .unset] [(.int 15)])
          refine own_at (fun t k => XS.bipush X16.here hx rfl (hb hby at_104) k) ?_
          show own_Go p e below KK T16 (mkF m 106 #[.val (.int p1), .val (.int 1), .val (.int 1), .val (.int 1), .val (.int 1), .val (.int 15), .val (.int 1), .val (.int 1), .val (.int 1), .unset, .unset] [(.int 8), (.int 15)])
          refine own_at (fun t k => XS.iand X16.here hx rfl (hb hby at_106) rfl k) ?_
          show own_Go p e below KK T16 (mkF m 107 #[.val (.int p1), .val (.int 1), .val (.int 1), .val (.int 1), .val (.int 1), .val (.int 15), .val (.int 1), .val (.int 1), .val (.int 1), .unset, .unset] [(.int ((15 : Int32) &&& (8 : Int32)))])
          rw [show ((15 : Int32) &&& (8 : Int32)) = (8 : Int32) from by decide]
          show own_Go p e below KK T16 (mkF m 107 #[.val (.int p1), .val (.int 1), .val (.int 1), .val (.int 1), .val (.int 1), .val (.int 15), .val (.int 1), .val (.int 1), .val (.int 1), .unset, .unset] [(.int 8)])
          have hc107 : ¬ ((8 : Int32) = (0 : Int32)) := by decide
          refine own_at (fun t k => XS.ifNo X16.here hx rfl (hb hby at_107) rfl (Jvm.Free.XT.i0_eq_f hc107) k) ?_
          show own_Go p e below KK T16 (mkF m 110 #[.val (.int p1), .val (.int 1), .val (.int 1), .val (.int 1), .val (.int 1), .val (.int 15), .val (.int 1), .val (.int 1), .val (.int 1), .unset, .unset] [])
          refine own_at (fun t k => XS.iconst X16.here hx rfl (hb hby at_110) k) ?_
          show own_Go p e below KK T16 (mkF m 111 #[.val (.int p1), .val (.int 1), .val (.int 1), .val (.int 1), .val (.int 1), .val (.int 15), .val (.int 1), .val (.int 1), .val (.int 1), .unset, .unset] [(.int 1)])
          refine own_at (fun t k => XS.goto X16.here hx rfl (pc0 := 111) (pc' := 115) rfl (hb hby at_111) (by decide) (by decide) k) ?_
          show own_Go p e below KK T16 (mkF m 115 #[.val (.int p1), .val (.int 1), .val (.int 1), .val (.int 1), .val (.int 1), .val (.int 15), .val (.int 1), .val (.int 1), .val (.int 1), .unset, .unset] [(.int 1)])
          refine own_at (fun t k => XS.istore X16.here hx rfl (hb hby at_115) rfl (l' := #[.val (.int p1), .val (.int 1), .val (.int 1), .val (.int 1), .val (.int 1), .val (.int 15), .val (.int 1), .val (.int 1), .val (.int 1), .val (.int 1), .unset]) rfl k) ?_
          show own_Go p e below KK T16 (mkF m 117 #[.val (.int p1), .val (.int 1), .val (.int 1), .val (.int 1), .val (.int 1), .val (.int 15), .val (.int 1), .val (.int 1), .val (.int 1), .val (.int 1), .unset] [])
          refine own_at (fun t k => XS.bipush X16.here hx rfl (hb hby at_117) k) ?_
          show own_Go p e below KK T16 (mkF m 119 #[.val (.int p1), .val (.int 1), .val (.int 1), .val (.int 1), .val (.int 1), .val (.int 15), .val (.int 1), .val (.int 1), .val (.int 1), .val (.int 1), .unset] [(.int 15)])
          refine own_at (fun t k => XS.istore X16.here hx rfl (hb hby at_119) rfl (l' := #[.val (.int p1), .val (.int 1), .val (.int 1), .val (.int 1), .val (.int 1), .val (.int 15), .val (.int 1), .val (.int 1), .val (.int 1), .val (.int 1), .val (.int 15)]) rfl k) ?_
          show own_Go p e below KK T16 (mkF m 121 #[.val (.int p1), .val (.int 1), .val (.int 1), .val (.int 1), .val (.int 1), .val (.int 15), .val (.int 1), .val (.int 1), .val (.int 1), .val (.int 1), .val (.int 15)] [])
          refine own_at (fun t k => XS.iload X16.here hx rfl (hb hby at_121) rfl k) ?_
          show own_Go p e below KK T16 (mkF m 123 #[.val (.int p1), .val (.int 1), .val (.int 1), .val (.int 1), .val (.int 1), .val (.int 15), .val (.int 1), .val (.int 1), .val (.int 1), .val (.int 1), .val (.int 15)] [(.int 1)])
          refine own_at (fun t k => XS.iloadN X16.here hx rfl (hb hby at_123) rfl k) ?_
          show own_Go p e below KK T16 (mkF m 124 #[.val (.int p1), .val (.int 1), .val (.int 1), .val (.int 1), .val (.int 1), .val (.int 15), .val (.int 1), .val (.int 1), .val (.int 1), .val (.int 1), .val (.int 15)] [(.int 1), (.int 1)])
          have hc124 : (1 : Int32) = (1 : Int32) := by decide
          refine own_at (fun t k => XS.icmpNo X16.here hx rfl (hb hby at_124) rfl (Jvm.Free.XT.ii_ne_f hc124) k) ?_
          show own_Go p e below KK T16 (mkF m 127 #[.val (.int p1), .val (.int 1), .val (.int 1), .val (.int 1), .val (.int 1), .val (.int 15), .val (.int 1), .val (.int 1), .val (.int 1), .val (.int 1), .val (.int 15)] [])
          refine own_at (fun t k => XS.iload X16.here hx rfl (hb hby at_127) rfl k) ?_
          show own_Go p e below KK T16 (mkF m 129 #[.val (.int p1), .val (.int 1), .val (.int 1), .val (.int 1), .val (.int 1), .val (.int 15), .val (.int 1), .val (.int 1), .val (.int 1), .val (.int 1), .val (.int 15)] [(.int 1)])
          refine own_at (fun t k => XS.iloadN X16.here hx rfl (hb hby at_129) rfl k) ?_
          show own_Go p e below KK T16 (mkF m 130 #[.val (.int p1), .val (.int 1), .val (.int 1), .val (.int 1), .val (.int 1), .val (.int 15), .val (.int 1), .val (.int 1), .val (.int 1), .val (.int 1), .val (.int 15)] [(.int 1), (.int 1)])
          have hc130 : ¬ ((1 : Int32) = (0 : Int32)) := by decide
          refine own_at (fun t k => XS.ifNo X16.here hx rfl (hb hby at_130) rfl (Jvm.Free.XT.i0_eq_f hc130) k) ?_
          show own_Go p e below KK T16 (mkF m 133 #[.val (.int p1), .val (.int 1), .val (.int 1), .val (.int 1), .val (.int 1), .val (.int 15), .val (.int 1), .val (.int 1), .val (.int 1), .val (.int 1), .val (.int 15)] [(.int 1)])
          refine own_at (fun t k => XS.iloadN X16.here hx rfl (hb hby at_133) rfl k) ?_
          show own_Go p e below KK T16 (mkF m 134 #[.val (.int p1), .val (.int 1), .val (.int 1), .val (.int 1), .val (.int 1), .val (.int 15), .val (.int 1), .val (.int 1), .val (.int 1), .val (.int 1), .val (.int 15)] [(.int 1), (.int 1)])
          have hc134 : ¬ ((1 : Int32) = (0 : Int32)) := by decide
          refine own_at (fun t k => XS.ifNo X16.here hx rfl (hb hby at_134) rfl (Jvm.Free.XT.i0_eq_f hc134) k) ?_
          show own_Go p e below KK T16 (mkF m 137 #[.val (.int p1), .val (.int 1), .val (.int 1), .val (.int 1), .val (.int 1), .val (.int 15), .val (.int 1), .val (.int 1), .val (.int 1), .val (.int 1), .val (.int 15)] [(.int 1)])
          refine own_at (fun t k => XS.iconst X16.here hx rfl (hb hby at_137) k) ?_
          show own_Go p e below KK T16 (mkF m 138 #[.val (.int p1), .val (.int 1), .val (.int 1), .val (.int 1), .val (.int 1), .val (.int 15), .val (.int 1), .val (.int 1), .val (.int 1), .val (.int 1), .val (.int 15)] [(.int 1), (.int 1)])
          refine own_at (fun t k => XS.goto X16.here hx rfl (pc0 := 138) (pc' := 142) rfl (hb hby at_138) (by decide) (by decide) k) ?_
          show own_Go p e below KK T16 (mkF m 142 #[.val (.int p1), .val (.int 1), .val (.int 1), .val (.int 1), .val (.int 1), .val (.int 15), .val (.int 1), .val (.int 1), .val (.int 1), .val (.int 1), .val (.int 15)] [(.int 1), (.int 1)])
          have hc142 : (1 : Int32) = (1 : Int32) := by decide
          refine own_at (fun t k => XS.icmpNo X16.here hx rfl (hb hby at_142) rfl (Jvm.Free.XT.ii_ne_f hc142) k) ?_
          show own_Go p e below KK T16 (mkF m 145 #[.val (.int p1), .val (.int 1), .val (.int 1), .val (.int 1), .val (.int 1), .val (.int 15), .val (.int 1), .val (.int 1), .val (.int 1), .val (.int 1), .val (.int 15)] [])
          refine own_at (fun t k => XS.iload X16.here hx rfl (hb hby at_145) rfl k) ?_
          show own_Go p e below KK T16 (mkF m 147 #[.val (.int p1), .val (.int 1), .val (.int 1), .val (.int 1), .val (.int 1), .val (.int 15), .val (.int 1), .val (.int 1), .val (.int 1), .val (.int 1), .val (.int 15)] [(.int 1)])
          refine own_at (fun t k => XS.iloadN X16.here hx rfl (hb hby at_147) rfl k) ?_
          show own_Go p e below KK T16 (mkF m 148 #[.val (.int p1), .val (.int 1), .val (.int 1), .val (.int 1), .val (.int 1), .val (.int 15), .val (.int 1), .val (.int 1), .val (.int 1), .val (.int 1), .val (.int 15)] [(.int 1), (.int 1)])
          have hc148 : (1 : Int32) = (1 : Int32) := by decide
          refine own_at (fun t k => XS.icmpNo X16.here hx rfl (hb hby at_148) rfl (Jvm.Free.XT.ii_ne_f hc148) k) ?_
          show own_Go p e below KK T16 (mkF m 151 #[.val (.int p1), .val (.int 1), .val (.int 1), .val (.int 1), .val (.int 1), .val (.int 15), .val (.int 1), .val (.int 1), .val (.int 1), .val (.int 1), .val (.int 15)] [])
          refine own_at (fun t k => XS.iload X16.here hx rfl (hb hby at_151) rfl k) ?_
          show own_Go p e below KK T16 (mkF m 153 #[.val (.int p1), .val (.int 1), .val (.int 1), .val (.int 1), .val (.int 1), .val (.int 15), .val (.int 1), .val (.int 1), .val (.int 1), .val (.int 1), .val (.int 15)] [(.int 1)])
          refine own_at (fun t k => XS.iloadN X16.here hx rfl (hb hby at_153) rfl k) ?_
          show own_Go p e below KK T16 (mkF m 154 #[.val (.int p1), .val (.int 1), .val (.int 1), .val (.int 1), .val (.int 1), .val (.int 15), .val (.int 1), .val (.int 1), .val (.int 1), .val (.int 1), .val (.int 15)] [(.int 1), (.int 1)])
          have hc154 : ¬ ((1 : Int32) = (0 : Int32)) := by decide
          refine own_at (fun t k => XS.ifNo X16.here hx rfl (hb hby at_154) rfl (Jvm.Free.XT.i0_eq_f hc154) k) ?_
          show own_Go p e below KK T16 (mkF m 157 #[.val (.int p1), .val (.int 1), .val (.int 1), .val (.int 1), .val (.int 1), .val (.int 15), .val (.int 1), .val (.int 1), .val (.int 1), .val (.int 1), .val (.int 15)] [(.int 1)])
          refine own_at (fun t k => XS.iload X16.here hx rfl (hb hby at_157) rfl k) ?_
          show own_Go p e below KK T16 (mkF m 159 #[.val (.int p1), .val (.int 1), .val (.int 1), .val (.int 1), .val (.int 1), .val (.int 15), .val (.int 1), .val (.int 1), .val (.int 1), .val (.int 1), .val (.int 15)] [(.int 1), (.int 1)])
          have hc159 : ¬ ((1 : Int32) = (0 : Int32)) := by decide
          refine own_at (fun t k => XS.ifNo X16.here hx rfl (hb hby at_159) rfl (Jvm.Free.XT.i0_eq_f hc159) k) ?_
          show own_Go p e below KK T16 (mkF m 162 #[.val (.int p1), .val (.int 1), .val (.int 1), .val (.int 1), .val (.int 1), .val (.int 15), .val (.int 1), .val (.int 1), .val (.int 1), .val (.int 1), .val (.int 15)] [(.int 1)])
          refine own_at (fun t k => XS.iconst X16.here hx rfl (hb hby at_162) k) ?_
          show own_Go p e below KK T16 (mkF m 163 #[.val (.int p1), .val (.int 1), .val (.int 1), .val (.int 1), .val (.int 1), .val (.int 15), .val (.int 1), .val (.int 1), .val (.int 1), .val (.int 1), .val (.int 15)] [(.int 1), (.int 1)])
          refine own_at (fun t k => XS.goto X16.here hx rfl (pc0 := 163) (pc' := 167) rfl (hb hby at_163) (by decide) (by decide) k) ?_
          show own_Go p e below KK T16 (mkF m 167 #[.val (.int p1), .val (.int 1), .val (.int 1), .val (.int 1), .val (.int 1), .val (.int 15), .val (.int 1), .val (.int 1), .val (.int 1), .val (.int 1), .val (.int 15)] [(.int 1), (.int 1)])
          have hc167 : (1 : Int32) = (1 : Int32) := by decide
          refine own_at (fun t k => XS.icmpNo X16.here hx rfl (hb hby at_167) rfl (Jvm.Free.XT.ii_ne_f hc167) k) ?_
          show own_Go p e below KK T16 (mkF m 170 #[.val (.int p1), .val (.int 1), .val (.int 1), .val (.int 1), .val (.int 1), .val (.int 15), .val (.int 1), .val (.int 1), .val (.int 1), .val (.int 1), .val (.int 15)] [])
          refine own_at (fun t k => XS.iload X16.here hx rfl (hb hby at_170) rfl k) ?_
          show own_Go p e below KK T16 (mkF m 172 #[.val (.int p1), .val (.int 1), .val (.int 1), .val (.int 1), .val (.int 1), .val (.int 15), .val (.int 1), .val (.int 1), .val (.int 1), .val (.int 1), .val (.int 15)] [(.int 15)])
          refine own_at (fun t k => XS.iload X16.here hx rfl (hb hby at_172) rfl k) ?_
          show own_Go p e below KK T16 (mkF m 174 #[.val (.int p1), .val (.int 1), .val (.int 1), .val (.int 1), .val (.int 1), .val (.int 15), .val (.int 1), .val (.int 1), .val (.int 1), .val (.int 1), .val (.int 15)] [(.int 15), (.int 15)])
          refine own_at (fun t k => XS.iconst X16.here hx rfl (hb hby at_174) k) ?_
          show own_Go p e below KK T16 (mkF m 175 #[.val (.int p1), .val (.int 1), .val (.int 1), .val (.int 1), .val (.int 1), .val (.int 15), .val (.int 1), .val (.int 1), .val (.int 1), .val (.int 1), .val (.int 15)] [(.int (-1 : Int32)), (.int 15), (.int 15)])
          refine own_at (fun t k => XS.ixor X16.here hx rfl (hb hby at_175) rfl k) ?_
          show own_Go p e below KK T16 (mkF m 176 #[.val (.int p1), .val (.int 1), .val (.int 1), .val (.int 1), .val (.int 1), .val (.int 15), .val (.int 1), .val (.int 1), .val (.int 1), .val (.int 1), .val (.int 15)] [(.int ((15 : Int32) ^^^ (-1 : Int32))), (.int 15)])
          rw [show ((15 : Int32) ^^^ (-1 : Int32)) = (-16 : Int32) from by decide]
          show own_Go p e below KK T16 (mkF m 176 #[.val (.int p1), .val (.int 1), .val (.int 1), .val (.int 1), .val (.int 1), .val (.int 15), .val (.int 1), .val (.int 1), .val (.int 1), .val (.int 1), .val (.int 15)] [(.int (-16 : Int32)), (.int 15)])
          refine own_at (fun t k => XS.iand X16.here hx rfl (hb hby at_176) rfl k) ?_
          show own_Go p e below KK T16 (mkF m 177 #[.val (.int p1), .val (.int 1), .val (.int 1), .val (.int 1), .val (.int 1), .val (.int 15), .val (.int 1), .val (.int 1), .val (.int 1), .val (.int 1), .val (.int 15)] [(.int ((15 : Int32) &&& (-16 : Int32)))])
          rw [show ((15 : Int32) &&& (-16 : Int32)) = (0 : Int32) from by decide]
          show own_Go p e below KK T16 (mkF m 177 #[.val (.int p1), .val (.int 1), .val (.int 1), .val (.int 1), .val (.int 1), .val (.int 15), .val (.int 1), .val (.int 1), .val (.int 1), .val (.int 1), .val (.int 15)] [(.int 0)])
          have hc177 : (0 : Int32) = (0 : Int32) := by decide
          refine own_at (fun t k => XS.ifNo X16.here hx rfl (hb hby at_177) rfl (Jvm.Free.XT.i0_ne_f hc177) k) ?_
          show own_Go p e below KK T16 (mkF m 180 #[.val (.int p1), .val (.int 1), .val (.int 1), .val (.int 1), .val (.int 1), .val (.int 15), .val (.int 1), .val (.int 1), .val (.int 1), .val (.int 1), .val (.int 15)] [])
          refine own_at (fun t k => XS.iload X16.here hx rfl (hb hby at_180) rfl k) ?_
          show own_Go p e below KK T16 (mkF m 182 #[.val (.int p1), .val (.int 1), .val (.int 1), .val (.int 1), .val (.int 1), .val (.int 15), .val (.int 1), .val (.int 1), .val (.int 1), .val (.int 1), .val (.int 15)] [(.int 15)])
          have hc182 : ¬ ((15 : Int32) = (0 : Int32)) := by decide
          refine own_at (fun t k => XS.ifYes X16.here hx rfl (pc0 := 182) (pc' := 189) rfl (hb hby at_182) rfl (Jvm.Free.XT.i0_ne_t hc182) (by decide) (by decide) k) ?_
          show own_Go p e below KK T16 (mkF m 189 #[.val (.int p1), .val (.int 1), .val (.int 1), .val (.int 1), .val (.int 1), .val (.int 15), .val (.int 1), .val (.int 1), .val (.int 1), .val (.int 1), .val (.int 15)] [])
          refine own_at (fun t k => XS.iconst X16.here hx rfl (hb hby at_189) k) ?_
          show own_Go p e below KK T16 (mkF m 190 #[.val (.int p1), .val (.int 1), .val (.int 1), .val (.int 1), .val (.int 1), .val (.int 15), .val (.int 1), .val (.int 1), .val (.int 1), .val (.int 1), .val (.int 15)] [(.int 0)])
          refine own_at (fun t k => XS.iloadN X16.here hx rfl (hb hby at_190) rfl k) ?_
          show own_Go p e below KK T16 (mkF m 191 #[.val (.int p1), .val (.int 1), .val (.int 1), .val (.int 1), .val (.int 1), .val (.int 15), .val (.int 1), .val (.int 1), .val (.int 1), .val (.int 1), .val (.int 15)] [(.int 1), (.int 0)])
          have hc191 : ¬ ((1 : Int32) = (0 : Int32)) := by decide
          refine own_at (fun t k => XS.ifYes X16.here hx rfl (pc0 := 191) (pc' := 202) rfl (hb hby at_191) rfl (Jvm.Free.XT.i0_ne_t hc191) (by decide) (by decide) k) ?_
          show own_Go p e below KK T16 (mkF m 202 #[.val (.int p1), .val (.int 1), .val (.int 1), .val (.int 1), .val (.int 1), .val (.int 15), .val (.int 1), .val (.int 1), .val (.int 1), .val (.int 1), .val (.int 15)] [(.int 0)])
          refine own_at (fun t k => XS.iconst X16.here hx rfl (hb hby at_202) k) ?_
          show own_Go p e below KK T16 (mkF m 203 #[.val (.int p1), .val (.int 1), .val (.int 1), .val (.int 1), .val (.int 1), .val (.int 15), .val (.int 1), .val (.int 1), .val (.int 1), .val (.int 1), .val (.int 15)] [(.int 0), (.int 0)])
          have hc203 : (0 : Int32) = (0 : Int32) := by decide
          refine own_at (fun t k => XS.icmpNo X16.here hx rfl (hb hby at_203) rfl (Jvm.Free.XT.ii_ne_f hc203) k) ?_
          show own_Go p e below KK T16 (mkF m 206 #[.val (.int p1), .val (.int 1), .val (.int 1), .val (.int 1), .val (.int 1), .val (.int 15), .val (.int 1), .val (.int 1), .val (.int 1), .val (.int 1), .val (.int 15)] [])
          refine own_at (fun t k => XS.iconst X16.here hx rfl (hb hby at_206) k) ?_
          show own_Go p e below KK T16 (mkF m 207 #[.val (.int p1), .val (.int 1), .val (.int 1), .val (.int 1), .val (.int 1), .val (.int 15), .val (.int 1), .val (.int 1), .val (.int 1), .val (.int 1), .val (.int 15)] [(.int 1)])
          refine own_at (fun t k => XS.goto X16.here hx rfl (pc0 := 207) (pc' := 211) rfl (hb hby at_207) (by decide) (by decide) k) ?_
          show own_Go p e below KK T16 (mkF m 211 #[.val (.int p1), .val (.int 1), .val (.int 1), .val (.int 1), .val (.int 1), .val (.int 15), .val (.int 1), .val (.int 1), .val (.int 1), .val (.int 1), .val (.int 15)] [(.int 1)])
          subst hKK
          exact own_retN X16 hx hlk (t := .boolean) Bd.returns (by simp) (hb hby at_211) (w := (1 : Int32)) (show nar .boolean (1 : Int32) = 1 from by decide) ⟨rfl, N16⟩ (Nat.le_of_ble_eq_true rfl) (Nat.le_of_ble_eq_true rfl)
set_option maxRecDepth 65536 in
set_option maxHeartbeats 40000000 in
theorem comes_1 {Post : Tables → Env → Array Value → State → Outcome → State → Prop} (hpost : ∀ tb e args s v u, (limb_1_1.after args s (.returned v) u = true ∧ limb_1_2.after args s (.returned v) u = true ∧ True) → FrameEnd s (.returned v) u (Jvm.fieldLocs frame_1_writes args s ++ Jvm.arrayLocs frame_1_arrays args s ++ Jvm.staticLocs frame_1_statics s) 0 0 → Post tb e args s (.returned v) u) :
    ArmFor flags0 classFile x code maxLocals ret World_1 tables_1 room_1 Calls_1 rest_1 Pre_1 Post := by
  intro l hfl _ _ p e ha hc hk s m args below hf hA hF happ hP
  obtain ⟨hcalls, hrest, hpre⟩ := hP
  obtain ⟨-, -, -, hnamed, -, -, -, hat⟩ := (Spec.applies_iff hf).mp happ
  obtain ⟨hg, hn⟩ := and_e (Cond.before_iff.mp (show (Jvm.Cond.and given_1 narrow_1).before args s = true from hpre))
  obtain ⟨gc, g0⟩ := and_e hg
  obtain ⟨w0, rfl⟩ : ∃ w0 : Value, args = #[w0] := by
    have hs : args.size = 1 := by simpa [Cond.value, given_1] using gc
    obtain ⟨L⟩ := args
    match L, hs with
    | [w0], _ => exact ⟨w0, rfl⟩
  have hw := fun d (hd : d ∈ tables_1) => atoms_spec (ws := Jvm.Cond.code x code maxLocals ret :: tables_1) hat d (List.mem_cons_of_mem _ hd)
  obtain ⟨i0, ei0⟩ := is_v g0
  obtain rfl : w0 = (.int i0) := Option.some.inj ei0
  obtain ⟨n, o, h1, h2, h3, _, L, rfl, ⟨rfl, N⟩, hq⟩ := rm_law l s _ hw tables_1 i0 s.heap s.heap.size (Nat.le_refl _) p e ha hc hk s m _ below hf ((Spec.applies_iff_loose hf).mp happ).1 ⟨rfl, State.Warmed39.refl s, rfl⟩ trivial
  refine ⟨n, _, h1, h2, h3, hpost _ _ _ _ _ _ ⟨Cond.after_iff.mpr rfl, Cond.after_iff.mpr (eq_i res_at (Term.int_eval (1)) rfl), trivial⟩ ⟨hq.1, hq.2.1, (hq.2.2.sift fun y hy => Or.inr (N y hy)).mono (by decide) (by decide)⟩⟩
theorem main_1_1 : Claimed_1_1 := comes_1 fun _ _ _ _ _ _ h hF => ⟨h.1, hF⟩
theorem main_1_2 : Claimed_1_2 := comes_1 fun _ _ _ _ _ _ h hF => ⟨h.2.1, hF⟩
end Jvm.Pilot.@@N@@
namespace Jvm.Pilot.@@N@@
open Jvm Jvm.ClassFile Sem Op Lib Jvm.Free Jvm.Stand Jvm.Pilot.@@N@@.Jvm.D
/-! MADE BY PROGRAM (witnessworld.py) out of the Statement's table words and the real class files: 9 classes; the members and pool entries that the words name. The judged class is class 1, her method 1. -/
namespace start1
open Jvm.ClassFile
def u (s : String) : CpInfo := .utf8 (stringToUtf16 s)
/-- a pool by its gaps: so many unusable entries, then the entry; so many at the end -/
def gap : Nat → List CpInfo → List CpInfo
  | 0, r => r
  | n + 1, r => .unusable :: gap n r
def poolList (es : List (Nat × CpInfo)) (last : Nat) : List CpInfo := es.foldr (fun e r => gap e.1 (e.2 :: r)) (gap last [])
def pool (es : List (Nat × CpInfo)) (last : Nat) : Array CpInfo := ⟨poolList es last⟩
def fileOf (pool : Array CpInfo) (this : Nat) (attrs : Array Attribute := #[]) (ms : Array MethodInfo := #[]) (fl : Nat := 33) (sup : Nat := 0) (ifs : Array Nat := #[]) (fds : Array FieldInfo := #[]) : ClassFile where
  minorVersion := 0
  majorVersion := 65
  constantPool := pool
  accessFlags := fl
  thisClass := this
  superClass := sup
  interfaces := ifs
  fields := fds
  methods := ms
  attributes := attrs
def plain (name : String) (sup : Option ClassId) : Class where
  name := name
  kind := .ordinary
  loader := none
  accessFlags := 33
  super := sup
  interfaces := #[]
  cf := none
  fields := #[]
  methods := #[]
  instanceTypes := #[]
  staticTypes := #[]
  resolved := #[]
  callSites := []
  init := .initialized
  statics := none
  mirror := none

def pool0 : Array CpInfo := pool [(5, u "<init>"), (0, u "()V"), (1, .class_ 10), (1, u "java/lang/Object")] 113

def k0m0 : Method := { name := "<init>", desc := "()V", sig := { parameters := [], returnType := none }, accessFlags := 1, code := none }
/-- java/lang/Object -/
def k0 : Class := { plain "java/lang/Object" none with
  accessFlags := 33
  interfaces := #[]
  cf := some (fileOf pool0 8 #[] #[{ accessFlags := 1, nameIndex := 5, descriptorIndex := 6, attributes := #[] }] 33 0 #[] #[])
  fields := #[]
  methods := #[k0m0]
  instanceTypes := #[]
  staticTypes := #[]
  resolved := Array.replicate 124 none
  statics := none }

def pool1 : Array CpInfo := pool [(2, .class_ 4), (1, u "java/lang/Object"), (0, u "<init>"), (0, u "()V"), (0, .methodref 8 9), (0, .class_ 10), (0, .nameAndType 11 12), (0, u "com/example/oyster/oyster/core/form/NamedTest"), (0, u "ends"), (0, u "(ZZZZ)I"), (0, .class_ 14), (0, u "com/example/oyster/oyster/core/form/NamedTestEndsPinLaw"), (2, u "law"), (0, u "(I)Z")] 3

def k1m0 : Method := { name := "<init>", desc := "()V", sig := { parameters := [], returnType := none }, accessFlags := 2, code := none }
def k1c1 : Code := { maxStack := 4, maxLocals := 11, code := code, exceptionTable := #[], attributes := #[] }
def k1m1 : Method := { name := "law", desc := "(I)Z", sig := { parameters := [.int], returnType := some .boolean }, accessFlags := 9, code := some k1c1 }
/-- com/example/oyster/oyster/core/form/NamedTestEndsPinLaw -/
def k1 : Class := { plain "com/example/oyster/oyster/core/form/NamedTestEndsPinLaw" (some 0) with
  accessFlags := 49
  interfaces := #[]
  cf := some (fileOf pool1 13 #[] #[{ accessFlags := 2, nameIndex := 5, descriptorIndex := 6, attributes := #[] }, { accessFlags := 9, nameIndex := 17, descriptorIndex := 18, attributes := #[] }] 49 2 #[] #[])
  fields := #[]
  methods := #[k1m0, k1m1]
  instanceTypes := #[]
  staticTypes := #[]
  resolved := Array.replicate 22 none
  statics := none }

def pool2 : Array CpInfo := pool [(4, .class_ 6), (1, u "java/lang/Object"), (0, u "<init>"), (0, u "()V"), (0, .class_ 10), (0, u "com/example/oyster/oyster/core/form/NamedTest"), (50, u "ends"), (0, u "(ZZZZ)I"), (24, u "NEGATED"), (0, u "I"), (2, u "NULL"), (1, u "LOW"), (0, u "LOW_INCLUDED"), (1, u "HIGH"), (1, u "HIGH_INCLUDED"), (1, u "NO_ORDER"), (0, u "PASSES"), (0, u "UNKNOWN"), (0, u "FAILS")] 20

def k2m0 : Method := { name := "<init>", desc := "()V", sig := { parameters := [], returnType := none }, accessFlags := 2, code := none }
def k2c1 : Code := { maxStack := 2, maxLocals := 4, code := prog_119_method_2_code, exceptionTable := #[], attributes := #[] }
def k2m1 : Method := { name := "ends", desc := "(ZZZZ)I", sig := { parameters := [.boolean, .boolean, .boolean, .boolean], returnType := some .int }, accessFlags := 9, code := some k2c1 }
/-- com/example/oyster/oyster/core/form/NamedTest -/
def k2 : Class := { plain "com/example/oyster/oyster/core/form/NamedTest" (some 0) with
  accessFlags := 49
  interfaces := #[]
  cf := some (fileOf pool2 9 #[] #[{ accessFlags := 2, nameIndex := 7, descriptorIndex := 8, attributes := #[] }, { accessFlags := 9, nameIndex := 61, descriptorIndex := 62, attributes := #[] }] 49 4 #[] #[{ accessFlags := 25, nameIndex := 87, descriptorIndex := 88, attributes := #[] }, { accessFlags := 25, nameIndex := 91, descriptorIndex := 88, attributes := #[] }, { accessFlags := 24, nameIndex := 93, descriptorIndex := 88, attributes := #[] }, { accessFlags := 24, nameIndex := 94, descriptorIndex := 88, attributes := #[] }, { accessFlags := 25, nameIndex := 96, descriptorIndex := 88, attributes := #[] }, { accessFlags := 25, nameIndex := 98, descriptorIndex := 88, attributes := #[] }, { accessFlags := 26, nameIndex := 100, descriptorIndex := 88, attributes := #[] }, { accessFlags := 26, nameIndex := 101, descriptorIndex := 88, attributes := #[] }, { accessFlags := 26, nameIndex := 102, descriptorIndex := 88, attributes := #[] }, { accessFlags := 26, nameIndex := 103, descriptorIndex := 88, attributes := #[] }])
  fields := #[{ name := "NEGATED", type := .int, accessFlags := 25, slot := 0, constantValue := 0 }, { name := "NULL", type := .int, accessFlags := 25, slot := 1, constantValue := 0 }, { name := "LOW", type := .int, accessFlags := 24, slot := 2, constantValue := 0 }, { name := "LOW_INCLUDED", type := .int, accessFlags := 24, slot := 3, constantValue := 0 }, { name := "HIGH", type := .int, accessFlags := 25, slot := 4, constantValue := 0 }, { name := "HIGH_INCLUDED", type := .int, accessFlags := 25, slot := 5, constantValue := 0 }, { name := "NO_ORDER", type := .int, accessFlags := 26, slot := 6, constantValue := 0 }, { name := "PASSES", type := .int, accessFlags := 26, slot := 7, constantValue := 0 }, { name := "UNKNOWN", type := .int, accessFlags := 26, slot := 8, constantValue := 0 }, { name := "FAILS", type := .int, accessFlags := 26, slot := 9, constantValue := 0 }]
  methods := #[k2m0, k2m1]
  instanceTypes := #[]
  staticTypes := #[.int, .int, .int, .int, .int, .int, .int, .int, .int, .int]
  resolved := Array.replicate 124 none
  statics := none }

def pool3 : Array CpInfo := pool [(1, u "java/lang/Cloneable"), (0, .class_ 1), (0, u "java/lang/Object"), (0, .class_ 3)] 3

/-- java/lang/Cloneable -/
def k3 : Class := { plain "java/lang/Cloneable" (some 0) with
  accessFlags := 1537
  interfaces := #[]
  cf := some (fileOf pool3 2 #[] #[] 1537 4 #[] #[])
  fields := #[]
  methods := #[]
  instanceTypes := #[]
  staticTypes := #[]
  resolved := Array.replicate 8 none
  statics := none }

def pool4 : Array CpInfo := pool [(1, u "java/io/Serializable"), (0, .class_ 1), (0, u "java/lang/Object"), (0, .class_ 3)] 3

/-- java/io/Serializable -/
def k4 : Class := { plain "java/io/Serializable" (some 0) with
  accessFlags := 1537
  interfaces := #[]
  cf := some (fileOf pool4 2 #[] #[] 1537 4 #[] #[])
  fields := #[]
  methods := #[]
  instanceTypes := #[]
  staticTypes := #[]
  resolved := Array.replicate 8 none
  statics := none }

/-- the primitive byte -/
def k5 : Class := { plain "byte" none with kind := .primitive 'B', accessFlags := 0x411 }
/-- [B -/
def k6 : Class := { plain "[B" (some 0) with kind := .array 5 .byte, interfaces := #[3, 4], accessFlags := 1041 }

/-- the primitive int -/
def k7 : Class := { plain "int" none with kind := .primitive 'I', accessFlags := 0x411 }
/-- [I -/
def k8 : Class := { plain "[I" (some 0) with kind := .array 7 .int, interfaces := #[3, 4], accessFlags := 1041 }

def heap : Heap := #[]
def classes : Array Class := #[k0, k1, k2, k3, k4, k5, k6, k7, k8]
def interned : List (Array UInt16 × Addr) := []
def slotsUsed : Nat := 0
def theMethod : MethodId := ⟨1, 1⟩
def args0 : Array Value := #[.int 5]
def aboutOver (below : List Frame) : State where
  vm := { classes := classes, interned := interned.toArray }
  heap := heap
  slotsUsed := slotsUsed
  threads := #[{ frames := .invoking theMethod args0 :: below }]
def below0 : List Frame := [.native { method := ⟨0, 0⟩, args := #[] }]
def about1 : State := aboutOver below0
def p0 : Program := .bare "" "" ""
def e0 : Env := launch0.env 0 0 0
theorem w_frames : about1.frames = Frame.invoking theMethod args0 :: below0 := rfl
set_option maxRecDepth 65536 in
theorem w_args : argsFit about1.vm theMethod args0 = true := by decide +kernel
set_option maxRecDepth 65536 in
theorem w_heap : heapFits about1 = true := by decide +kernel
set_option maxRecDepth 65536 in
theorem w_runnable : about1.curStatus? = some .runnable := by decide +kernel
set_option maxRecDepth 65536 in
theorem w_alone : about1.alone = true := by decide +kernel
set_option maxRecDepth 65536 in
theorem w_named : about1.methodNamed? x = some theMethod := by decide +kernel
set_option maxRecDepth 65536 in
theorem w_hears : about1.hears theMethod below0 = true := by decide +kernel
set_option maxRecDepth 65536 in
theorem w_ripe : about1.ripe theMethod args0 below0 = true := by decide +kernel
theorem w_running : about1.status = .running := rfl
set_option maxRecDepth 65536 in
theorem w_room : about1.hasRoom e0.platform room_1 = true :=
  launch0.hasRoom_least _ room_1 (by decide +kernel) (by decide +kernel) (by decide +kernel) (by decide +kernel) (by decide +kernel) (by decide +kernel)
theorem allAtoms_all (ts : List Jvm.Cond) (a : Array Jvm.Value) (st : Jvm.State) : (allAtoms ts).before a st = ts.all (fun c => c.before a st) := by
  induction ts with
  | nil => rfl
  | cons c t ih =>
    show (Jvm.Cond.and c (allAtoms t)).before a st = _
    rw [Jvm.Cond.before_and, ih, List.all_cons]
def words1 : List Jvm.Cond := Jvm.Cond.code x code maxLocals ret :: tables_1
/-- a 'code' word, met by the world's own term for the bytes: nothing is compared byte by byte -/
theorem code_word {y : MethodName} {bytes : ByteArray} {mx : Nat} {rt : Option FieldType} {a : Array Value} {s : State} {m : MethodId} {meth : Method} {c : Code} (h1 : s.methodNamed? y = some m) (h2 : s.vm.method? m = some meth) (h3 : meth.code = some c) (h4 : c.code = bytes)
    (h5 : (c.maxLocals == mx && c.exceptionTable.isEmpty && decide (c.maxStack ≤ mostOperands) && decide (meth.sig.returnType = rt) && !meth.locks && decide (parseMethodDescriptor y.desc = some meth.sig)) = true) : (Jvm.Cond.code y bytes mx rt).before a s = true := by
  simp only [Bool.and_eq_true, beq_iff_eq, Bool.not_eq_true', decide_eq_true_eq] at h5
  obtain ⟨⟨⟨⟨⟨g1, g2⟩, g3⟩, g4⟩, g5⟩, g6⟩ := h5
  simp [Cond.before, Cond.holds, Cond.value, h1, h2, h3, h4, g1, g2, g3, g4, g5, g6]
def isCode : Jvm.Cond → Bool
  | .code _ _ _ _ => true
  | _ => false
theorem all_split {L : List Jvm.Cond} {P : Jvm.Cond → Bool} (h1 : L.all (fun c => isCode c || P c) = true) (h2 : ∀ c ∈ L.filter isCode, P c = true) : L.all P = true := by
  refine List.all_eq_true.mpr fun c hc => ?_
  have h := List.all_eq_true.mp h1 c hc
  rcases Bool.eq_false_or_eq_true (isCode c) with hi | hi
  · exact h2 c (List.mem_filter.mpr ⟨hc, hi⟩)
  · simpa [hi] using h
set_option maxRecDepth 65536 in
theorem w_c0 : (Jvm.Cond.code x code maxLocals ret).before args0 about1 = true := code_word (m := ⟨1, 1⟩) (meth := k1m1) (c := k1c1) (by decide +kernel) rfl rfl rfl (by decide +kernel)
set_option maxRecDepth 65536 in
theorem w_c1 : (Jvm.Cond.code ({ cls := "com/example/oyster/oyster/core/form/NamedTest", name := "ends", desc := "(ZZZZ)I" } : Jvm.MethodName) prog_119_method_2_code (4 : Nat) (Option.some Jvm.ClassFile.FieldType.int)).before args0 about1 = true := code_word (m := ⟨2, 1⟩) (meth := k2m1) (c := k2c1) (by decide +kernel) rfl rfl rfl (by decide +kernel)
def codes1 : List Jvm.Cond := [Jvm.Cond.code x code maxLocals ret, Jvm.Cond.code ({ cls := "com/example/oyster/oyster/core/form/NamedTest", name := "ends", desc := "(ZZZZ)I" } : Jvm.MethodName) prog_119_method_2_code (4 : Nat) (Option.some Jvm.ClassFile.FieldType.int)]
set_option maxRecDepth 65536 in
theorem codes_eq : words1.filter isCode = codes1 := rfl
theorem w_codes : ∀ c ∈ words1.filter isCode, c.before args0 about1 = true := by
  rw [codes_eq]
  intro c hc
  simp only [codes1, List.mem_cons, List.not_mem_nil, or_false] at hc
  rcases hc with rfl | rfl
  · exact w_c0
  · exact w_c1
set_option maxRecDepth 65536 in
theorem w_t1 : words1.all (fun c => isCode c || c.before args0 about1) = true := by decide +kernel
theorem w_tables : (allAtoms (Jvm.Cond.code x code maxLocals ret :: tables_1)).before args0 about1 = true := by
  rw [allAtoms_all]
  show words1.all (fun c => c.before args0 about1) = true
  refine all_split ?_ w_codes
  rw [w_t1]
set_option maxRecDepth 65536 in
theorem w_case : (Jvm.Cond.and given_1 narrow_1).before args0 about1 = true := by decide +kernel
theorem w_applies : (headSpec (Jvm.Cond.code x code maxLocals ret :: tables_1) room_1).applies x e0.platform about1 = true :=
  (Spec.applies_iff w_frames).mpr ⟨w_running, w_runnable, w_alone, w_named, w_hears, w_ripe, w_room, w_tables⟩
theorem atStart : AtStart classFile x code maxLocals ret World_1 tables_1 room_1 Calls_1 rest_1 Pre_1 launch0 p0 e0 about1 theMethod args0 below0 :=
  ⟨lists_1, trivial, launch0.admits_env _ _ _, launch0.least_env, fairChoices_fair.cas, fairChoices_fair.clock, w_frames, w_args, w_heap, w_applies, trivial, trivial, w_case⟩
end start1
theorem witness_1 : WitnessClaimed_1 := ⟨start1.p0, start1.e0, start1.about1, start1.theMethod, start1.args0, start1.below0, start1.atStart⟩
end Jvm.Pilot.@@N@@
