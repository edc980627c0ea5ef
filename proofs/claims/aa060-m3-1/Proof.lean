import JvmDerived
import JvmDerived.Pilot.@@N@@Statement
import JvmDerived.Pilot.@@N@@Code
set_option linter.unusedVariables false
set_option linter.unusedSimpArgs false
namespace Jvm.Pilot.@@N@@
open Jvm Jvm.ClassFile Sem Op Lib Jvm.Free Jvm.Stand Jvm.LawKit Jvm.RoadKit Bundle Jvm.Pilot.@@N@@.Jvm.D
section OwnKit
/-- from the frame f at T the run comes to an end that K takes -/
def own_Go (p : Program) (e : Env) (below : List Frame) (K : Outcome → State → Prop) (T : State) (f : JFrame) : Prop :=
  ∃ s₂ o, Steps p.tables e below (T.setTop f) s₂ ∧ s₂.status = .running ∧ Ended s₂ below o ∧ K o s₂
def own_K (s : State) (Q : Option Value → Heap → List Loc → Prop) (cc ss : Nat) (o : Outcome) (U : State) : Prop :=
  ∃ v L, o = .returned v ∧ Q v U.heap L ∧ FrameEnd s o U L cc ss
variable {p : Program} {l : Launch} {e : Env} {R : Room} {s : State} {m : MethodId} {args : Array Value} {below : List Frame} {meth : Method} {c : Code} {T T' : State} {locs : List Loc} {cells slots : Nat} {K : Outcome → State → Prop} {Q : Option Value → Heap → List Loc → Prop} {cc ss : Nat} {f f' : JFrame}
theorem own_of (h : ∀ t, Steps p.tables e below (T'.setTop f') t → Steps p.tables e below (T.setTop f) t) (k : own_Go p e below K T' f') : own_Go p e below K T f := by
  obtain ⟨s2, o, h1, r⟩ := k
  exact ⟨s2, o, h _ h1, r⟩
theorem own_at (h : ∀ t, Steps p.tables e below (T.setTop f') t → Steps p.tables e below (T.setTop f) t) (k : own_Go p e below K T f') : own_Go p e below K T f := own_of h k
theorem own_cast (q : f = f') (k : own_Go p e below K T f') : own_Go p e below K T f := q ▸ k
theorem own_end (X : Stand p l e R s m args below meth c T locs cells slots) (hlk : meth.locks = false) {v : Option Value} (hv : meth.sig.returnType = none → v = none) (hq : Q v T.heap locs) (h1 : cells ≤ cc) (h2 : slots ≤ ss)
    (hs : ∀ fs, (∀ (f : JFrame) (acts : List Action), f.method = m → f.locked = none → f.entered = [] → (doReturn e (T.setTop f) acts v).1 = T.setFrames fs) → Steps p.tables e below (T.setTop f) (T.setFrames fs)) : own_Go p e below (own_K s Q cc ss) T f := by
  obtain ⟨fs, hr, hrun, hended, hW, hsame⟩ := X.leave (v := v) hv hlk
  exact ⟨_, _, hs fs hr, hrun, hended, _, _, rfl, hq, ⟨_, rfl⟩, hW, hsame.mono h1 h2⟩
theorem own_retN (X : Stand p l e R s m args below meth c T locs cells slots) (hx : p.tables.exec = Jvm.exec) (hlk : meth.locks = false) {pc : Nat} {Ls : Array Slot} {z w : Int32} {t : FieldType} {rest : List Value} (hret : meth.sig.returnType = some t) (ht : t = .boolean ∨ t = .byte ∨ t = .char ∨ t = .short)
    (hd : decode c.code pc = .ok (.ireturn, 1)) (hw : nar t z = w) (hq : Q (some (.int w)) T.heap locs) (h1 : cells ≤ cc) (h2 : slots ≤ ss) : own_Go p e below (own_K s Q cc ss) T (mkF m pc Ls (.int z :: rest)) := by
  subst hw
  exact own_end X hlk (fun h => by rw [hret] at h; cases h) hq h1 h2 fun fs hr => retN X hx hret ht hd hr
theorem own_retI (X : Stand p l e R s m args below meth c T locs cells slots) (hx : p.tables.exec = Jvm.exec) (hlk : meth.locks = false) {pc : Nat} {Ls : Array Slot} {z w : Int32} {rest : List Value} (hret : meth.sig.returnType = some .int)
    (hd : decode c.code pc = .ok (.ireturn, 1)) (hw : z = w) (hq : Q (some (.int w)) T.heap locs) (h1 : cells ≤ cc) (h2 : slots ≤ ss) : own_Go p e below (own_K s Q cc ss) T (mkF m pc Ls (.int z :: rest)) := by
  subst hw
  refine own_end X hlk (fun h => by rw [hret] at h; cases h) hq h1 h2 fun fs hr => ?_
  have hm' : T.vm.method? m = some meth := X.method'
  have hn : narrow .int (.int z) = .int z := rfl
  show Steps p.tables e below (T.setTop { method := m, pc := pc, locals := Ls, stack := _ :: rest, locked := none }) _
  jvm_step X.here [X.here.top, hx, hd, hm', hret, hn]
  first | (intro acts; rw [hr _ acts rfl rfl rfl]) | rw [hr _ _ rfl rfl rfl]
  exact Steps.refl _
theorem own_retJ (X : Stand p l e R s m args below meth c T locs cells slots) (hx : p.tables.exec = Jvm.exec) (hlk : meth.locks = false) {pc : Nat} {Ls : Array Slot} {z w : Int64} (hret : meth.sig.returnType = some .long)
    (hd : decode c.code pc = .ok (.lreturn, 1)) (hw : z = w) (hq : Q (some (.long w)) T.heap locs) (h1 : cells ≤ cc) (h2 : slots ≤ ss) : own_Go p e below (own_K s Q cc ss) T (mkF m pc Ls [.long z]) := by
  subst hw
  exact own_end X hlk (fun h => by rw [hret] at h; cases h) hq h1 h2 fun fs hr => X.lreturnOut hx hret hd hr
theorem own_retA (X : Stand p l e R s m args below meth c T locs cells slots) (hx : p.tables.exec = Jvm.exec) (hlk : meth.locks = false) {pc : Nat} {Ls : Array Slot} {z : Value} {ty : FieldType} {rest : List Value} (hz : z.isRef = true) (hret : meth.sig.returnType = some ty) (hty : ty.isReference = true)
    (hd : decode c.code pc = .ok (.areturn, 1)) (hq : Q (some z) T.heap locs) (h1 : cells ≤ cc) (h2 : slots ≤ ss) : own_Go p e below (own_K s Q cc ss) T (mkF m pc Ls (z :: rest)) := by
  refine own_end X hlk (fun h => by rw [hret] at h; cases h) hq h1 h2 fun fs hr => ?_
  have hm' : T.vm.method? m = some meth := X.method'
  show Steps p.tables e below (T.setTop { method := m, pc := pc, locals := Ls, stack := _ :: rest, locked := none }) _
  jvm_step X.here [X.here.top, hx, hd, hm', hret, hz, hty]
  first | (intro acts; rw [hr _ acts rfl rfl rfl]) | rw [hr _ _ rfl rfl rfl]
  exact Steps.refl _
theorem own_retV (X : Stand p l e R s m args below meth c T locs cells slots) (hx : p.tables.exec = Jvm.exec) (hlk : meth.locks = false) {pc : Nat} {Ls : Array Slot} (hret : meth.sig.returnType = none)
    (hd : decode c.code pc = .ok (.return_, 1)) (hq : Q none T.heap locs) (h1 : cells ≤ cc) (h2 : slots ≤ ss) : own_Go p e below (own_K s Q cc ss) T (mkF m pc Ls []) :=
  own_end X hlk (fun _ => rfl) hq h1 h2 fun fs hr => X.returnOut hx hret hd hr
theorem own_ne {i k : Int32} {z : Int} (hz : k.toInt = z) (h : ¬ i = k) : ¬ (z = i.toInt) := fun q => h (Int32.toInt_inj.mp (q.symm.trans hz.symm))
theorem own_lsw {tb : Tables} [Ours tb] {target : State} {g : JFrame} (h : At T m c below) (hx : tb.exec = Jvm.exec) (hg : g.method = m) {dflt o : Int} {prs : Array (Int × Int)} {len pc0 pc' : Nat} (hpc : g.pc = pc0) (hd : decode c.code g.pc = .ok (.lookupswitch dflt prs, len)) {i : Int32} {rest : List Value} (hs : g.stack = .int i :: rest)
    (hso : (prs.toList.zip (prs.toList.drop 1)).all (fun (a, next) => a.1 < next.1) = true) (hof : lookupswitch.offset prs.toList dflt i.toInt = o) (ho : 0 ≤ (pc0 : Int) + o) (hp : ((pc0 : Int) + o).toNat = pc')
    (hr : Steps tb e below (T.setTop { g with pc := pc', stack := rest }) target) : Steps tb e below (T.setTop g) target := by
  subst hg hpc hp hof
  jvm_step h [h.top, hx, hd, hs, ho, lookupswitch.wp_chain]
  exact ⟨by simpa using hso, hr⟩
theorem own_nar01 {z : Int32} (h : z = 0 ∨ z = 1) : nar .boolean z = z := by rcases h with rfl | rfl <;> decide
theorem own_narB (x : Int32) : nar .byte x.toInt8.toInt32 = x.toInt8.toInt32 := Value.int.inj (Jvm.Free.XT.narrow_b x)
theorem own_narC (x : Int32) : nar .char x.toUInt32.toUInt16.toUInt32.toInt32 = x.toUInt32.toUInt16.toUInt32.toInt32 := Value.int.inj (Jvm.Free.XT.narrow_c x)
end OwnKit
/-- a body that writes nothing and returns w -/
def own_P (w : Value) (h0 : Heap) (n0 : Nat) (v : Option Value) (h : Heap) (L : List Loc) : Prop := v = some w ∧ Fr n0 L ∧ h = h0
theorem own_lJ0 : (0 : Int64).toInt = 0 := rfl
theorem own_lJ1 : (1 : Int64).toInt = 1 := rfl
theorem own_lJ2 : (2 : Int64).toInt = 2 := rfl
theorem own_lJ15 : (15 : Int64).toInt = 15 := rfl
theorem own_lJ16 : (16 : Int64).toInt = 16 := rfl
def own_up (x : Int64) : Int64 := ((x + (16 : Int64)) - (1 : Int64)) / (16 : Int64)
def own_S : Nat → Int64 → Int64
  | 0, _ => 0
  | k + 1, x => if (1 : Int64) < x then own_up x + own_S k (own_up x) else 0
theorem own_upv {x : Int64} (h1 : (1 : Int64) < x) (h2 : x.toInt < 9223372036854775000) : (own_up x).toInt = (x.toInt + 15) / 16 := by
  rw [Int64.lt_iff_toInt_lt, own_lJ1] at h1
  unfold own_up
  have a1 := c_ladd x 16
  have a2 := c_lsub (x + (16 : Int64)) 1
  have r1 := rng64 (x + (16 : Int64)); have r2 := rng64 (x + (16 : Int64) - (1 : Int64))
  rw [own_lJ16] at a1
  rw [own_lJ1] at a2
  have a3 : (x + (16 : Int64) - (1 : Int64)).toInt = x.toInt + 15 := by omega
  rw [(c_ldiv (x + (16 : Int64) - (1 : Int64)) 16 16 (by decide) (by decide)).1 (by omega), a3]
theorem own_S1 (k : Nat) {x : Int64} (h : ¬ (1 : Int64) < x) : own_S k x = 0 := by
  cases k with
  | zero => rfl
  | succ k => rw [own_S, if_neg h]
theorem own_more : ∀ (k : Nat) {x : Int64}, x.toInt ≤ ((16 ^ k : Nat) : Int) → x.toInt < 9223372036854775000 → own_S (k + 1) x = own_S k x := by
  intro k
  induction k with
  | zero =>
    intro x h1 h2
    rw [own_S1 _ (by rw [Int64.lt_iff_toInt_lt, own_lJ1]; simp at h1; omega)]; rfl
  | succ k ih =>
    intro x h1 h2
    by_cases h : (1 : Int64) < x
    · have e := own_upv h h2
      rw [Int64.lt_iff_toInt_lt, own_lJ1] at h
      rw [own_S, if_pos (by rw [Int64.lt_iff_toInt_lt, own_lJ1]; exact h), ih (by rw [e]; rw [Nat.pow_succ] at h1; omega) (by rw [e]; omega), own_S, if_pos (by rw [Int64.lt_iff_toInt_lt, own_lJ1]; exact h)]
    · rw [own_S1 _ h, own_S1 _ h]
theorem own_pow (x : Int64) : x.toInt ≤ ((16 ^ 16 : Nat) : Int) := by have := rng64 x; omega
theorem d_prog_116_4_5 : decode prog_116_method_4_code 5 = .ok (.lload 5, 2) := by decide +kernel
theorem d_prog_116_4_7 : decode prog_116_method_4_code 7 = .ok (.lconst 1, 1) := by decide +kernel
theorem d_prog_116_4_8 : decode prog_116_method_4_code 8 = .ok (.lcmp, 1) := by decide +kernel
theorem d_prog_116_4_9 : decode prog_116_method_4_code 9 = .ok (.ifCond .le 25, 3) := by decide +kernel
theorem d_prog_116_4_12 : decode prog_116_method_4_code 12 = .ok (.lload 5, 2) := by decide +kernel
theorem d_prog_116_4_14 : decode prog_116_method_4_code 14 = .ok (.ldc2_w 47, 3) := by decide +kernel
theorem d_prog_116_4_17 : decode prog_116_method_4_code 17 = .ok (.ladd, 1) := by decide +kernel
theorem d_prog_116_4_18 : decode prog_116_method_4_code 18 = .ok (.lconst 1, 1) := by decide +kernel
theorem d_prog_116_4_19 : decode prog_116_method_4_code 19 = .ok (.lsub, 1) := by decide +kernel
theorem d_prog_116_4_20 : decode prog_116_method_4_code 20 = .ok (.ldc2_w 47, 3) := by decide +kernel
theorem d_prog_116_4_23 : decode prog_116_method_4_code 23 = .ok (.ldiv, 1) := by decide +kernel
theorem d_prog_116_4_24 : decode prog_116_method_4_code 24 = .ok (.lstore 5, 2) := by decide +kernel
theorem d_prog_116_4_26 : decode prog_116_method_4_code 26 = .ok (.lload_n 3, 1) := by decide +kernel
theorem d_prog_116_4_27 : decode prog_116_method_4_code 27 = .ok (.lload 5, 2) := by decide +kernel
theorem d_prog_116_4_29 : decode prog_116_method_4_code 29 = .ok (.ladd, 1) := by decide +kernel
theorem d_prog_116_4_30 : decode prog_116_method_4_code 30 = .ok (.lstore_n 3, 1) := by decide +kernel
theorem d_prog_116_4_31 : decode prog_116_method_4_code 31 = .ok (.goto (-26), 3) := by decide +kernel
set_option maxRecDepth 65536 in
set_option maxHeartbeats 40000000 in
theorem own_loop {p : Program} {l : Launch} {e : Env} {R : Room} {s : State} {m : MethodId} {args : Array Value} {below : List Frame} {meth : Method} {c : Code} {T : State} {locs : List Loc} {cells slots : Nat} {Z : State} {a0 : Array Value} {KK : Outcome → State → Prop} (q1 : Int64) (q2 : Int32) (X : Stand p l e R s m args below meth c T locs cells slots) (hx : p.tables.exec = Jvm.exec) (hZ : Z.Warmed39 s.vm) (hw : ∀ d ∈ tables_1, d.before a0 Z = true) (hby : c.code = prog_116_method_4_code) (hown : s.vm.findClass "com/example/oyster/oyster/core/form/MaximaTree" = some m.cls) :
    ∀ (k : Nat) (x sm : Int64), x.toInt ≤ ((16 ^ k : Nat) : Int) → x.toInt < 9223372036854775000 → (∀ z, own_Go p e below KK T (mkF m 34 #[.val (.long q1), .second, .val (.int q2), .val (.long (sm + own_S k x)), .second, .val (.long z), .second] [])) → own_Go p e below KK T (mkF m 5 #[.val (.long q1), .second, .val (.int q2), .val (.long sm), .second, .val (.long x), .second] []) := by
  intro k
  induction k with
  | zero =>
    intro x sm h1 h2 kt
    refine own_at (fun t k => XS.lload X.here hx rfl (hb hby d_prog_116_4_5) rfl k) ?_
    show own_Go p e below KK T (mkF m 7 #[.val (.long q1), .second, .val (.int q2), .val (.long sm), .second, .val (.long x), .second] [(.long x)])
    refine own_at (fun t k => XS.lconst X.here hx rfl (hb hby d_prog_116_4_7) k) ?_
    show own_Go p e below KK T (mkF m 8 #[.val (.long q1), .second, .val (.int q2), .val (.long sm), .second, .val (.long x), .second] [(.long 1), (.long x)])
    refine own_at (fun t k => Jvm.Free.XT.lcmp X.here hx rfl (hb hby d_prog_116_4_8) rfl k) ?_
    show own_Go p e below KK T (mkF m 9 #[.val (.long q1), .second, .val (.int q2), .val (.long sm), .second, .val (.long x), .second] [(.int (Jvm.Free.XT.cmpL x (1 : Int64)))])
    have hc9 : ¬ ((1 : Int64) < x) := by rw [Int64.lt_iff_toInt_lt, own_lJ1]; simp at h1; omega
    refine own_at (fun t k => XS.ifYes X.here hx rfl (pc0 := 9) (pc' := 34) rfl (hb hby d_prog_116_4_9) rfl (Jvm.Free.XT.ll_le_t hc9) (by decide) (by decide) k) ?_
    show own_Go p e below KK T (mkF m 34 #[.val (.long q1), .second, .val (.int q2), .val (.long sm), .second, .val (.long x), .second] [])
    have q := kt x
    rw [own_S1 _ hc9, Int64.add_zero] at q
    exact q
  | succ k ih =>
    intro x sm h1 h2 kt
    refine own_at (fun t k => XS.lload X.here hx rfl (hb hby d_prog_116_4_5) rfl k) ?_
    show own_Go p e below KK T (mkF m 7 #[.val (.long q1), .second, .val (.int q2), .val (.long sm), .second, .val (.long x), .second] [(.long x)])
    refine own_at (fun t k => XS.lconst X.here hx rfl (hb hby d_prog_116_4_7) k) ?_
    show own_Go p e below KK T (mkF m 8 #[.val (.long q1), .second, .val (.int q2), .val (.long sm), .second, .val (.long x), .second] [(.long 1), (.long x)])
    refine own_at (fun t k => Jvm.Free.XT.lcmp X.here hx rfl (hb hby d_prog_116_4_8) rfl k) ?_
    show own_Go p e below KK T (mkF m 9 #[.val (.long q1), .second, .val (.int q2), .val (.long sm), .second, .val (.long x), .second] [(.int (Jvm.Free.XT.cmpL x (1 : Int64)))])
    by_cases hc9 : (1 : Int64) < x
    · refine own_at (fun t k => XS.ifNo X.here hx rfl (hb hby d_prog_116_4_9) rfl (Jvm.Free.XT.ll_le_f hc9) k) ?_
      show own_Go p e below KK T (mkF m 12 #[.val (.long q1), .second, .val (.int q2), .val (.long sm), .second, .val (.long x), .second] [])
      refine own_at (fun t k => XS.lload X.here hx rfl (hb hby d_prog_116_4_12) rfl k) ?_
      show own_Go p e below KK T (mkF m 14 #[.val (.long q1), .second, .val (.int q2), .val (.long sm), .second, .val (.long x), .second] [(.long x)])
      refine own_at (fun t k => X.ldc2Long hx hown (mvT hZ (hw _ (List.mem_of_getElem? (i := 4) rfl))) (g := (mkF m 14 #[.val (.long q1), .second, .val (.int q2), .val (.long sm), .second, .val (.long x), .second] [(.long x)])) rfl (hb hby d_prog_116_4_14) t k) ?_
      show own_Go p e below KK T (mkF m 17 #[.val (.long q1), .second, .val (.int q2), .val (.long sm), .second, .val (.long x), .second] [(.long 16), (.long x)])
      refine own_at (fun t k => XS.ladd X.here hx rfl (hb hby d_prog_116_4_17) rfl k) ?_
      show own_Go p e below KK T (mkF m 18 #[.val (.long q1), .second, .val (.int q2), .val (.long sm), .second, .val (.long x), .second] [(.long (x + (16 : Int64)))])
      refine own_at (fun t k => XS.lconst X.here hx rfl (hb hby d_prog_116_4_18) k) ?_
      show own_Go p e below KK T (mkF m 19 #[.val (.long q1), .second, .val (.int q2), .val (.long sm), .second, .val (.long x), .second] [(.long 1), (.long (x + (16 : Int64)))])
      refine own_at (fun t k => XS.lsub X.here hx rfl (hb hby d_prog_116_4_19) rfl k) ?_
      show own_Go p e below KK T (mkF m 20 #[.val (.long q1), .second, .val (.int q2), .val (.long sm), .second, .val (.long x), .second] [(.long ((x + (16 : Int64)) - (1 : Int64)))])
      refine own_at (fun t k => X.ldc2Long hx hown (mvT hZ (hw _ (List.mem_of_getElem? (i := 4) rfl))) (g := (mkF m 20 #[.val (.long q1), .second, .val (.int q2), .val (.long sm), .second, .val (.long x), .second] [(.long ((x + (16 : Int64)) - (1 : Int64)))])) rfl (hb hby d_prog_116_4_20) t k) ?_
      show own_Go p e below KK T (mkF m 23 #[.val (.long q1), .second, .val (.int q2), .val (.long sm), .second, .val (.long x), .second] [(.long 16), (.long ((x + (16 : Int64)) - (1 : Int64)))])
      refine own_at (fun t k => XS.ldiv X.here hx rfl (hb hby d_prog_116_4_23) rfl (by decide) k) ?_
      show own_Go p e below KK T (mkF m 24 #[.val (.long q1), .second, .val (.int q2), .val (.long sm), .second, .val (.long x), .second] [(.long (((x + (16 : Int64)) - (1 : Int64)) / (16 : Int64)))])
      refine own_at (fun t k => XS.lstore X.here hx rfl (hb hby d_prog_116_4_24) rfl (l' := #[.val (.long q1), .second, .val (.int q2), .val (.long sm), .second, .val (.long (((x + (16 : Int64)) - (1 : Int64)) / (16 : Int64))), .second]) rfl k) ?_
      show own_Go p e below KK T (mkF m 26 #[.val (.long q1), .second, .val (.int q2), .val (.long sm), .second, .val (.long (((x + (16 : Int64)) - (1 : Int64)) / (16 : Int64))), .second] [])
      refine own_at (fun t k => XS.lloadN X.here hx rfl (hb hby d_prog_116_4_26) rfl k) ?_
      show own_Go p e below KK T (mkF m 27 #[.val (.long q1), .second, .val (.int q2), .val (.long sm), .second, .val (.long (((x + (16 : Int64)) - (1 : Int64)) / (16 : Int64))), .second] [(.long sm)])
      refine own_at (fun t k => XS.lload X.here hx rfl (hb hby d_prog_116_4_27) rfl k) ?_
      show own_Go p e below KK T (mkF m 29 #[.val (.long q1), .second, .val (.int q2), .val (.long sm), .second, .val (.long (((x + (16 : Int64)) - (1 : Int64)) / (16 : Int64))), .second] [(.long (((x + (16 : Int64)) - (1 : Int64)) / (16 : Int64))), (.long sm)])
      refine own_at (fun t k => XS.ladd X.here hx rfl (hb hby d_prog_116_4_29) rfl k) ?_
      show own_Go p e below KK T (mkF m 30 #[.val (.long q1), .second, .val (.int q2), .val (.long sm), .second, .val (.long (((x + (16 : Int64)) - (1 : Int64)) / (16 : Int64))), .second] [(.long (sm + (((x + (16 : Int64)) - (1 : Int64)) / (16 : Int64))))])
      refine own_at (fun t k => XS.lstoreN X.here hx rfl (hb hby d_prog_116_4_30) rfl (l' := #[.val (.long q1), .second, .val (.int q2), .val (.long (sm + (((x + (16 : Int64)) - (1 : Int64)) / (16 : Int64)))), .second, .val (.long (((x + (16 : Int64)) - (1 : Int64)) / (16 : Int64))), .second]) rfl k) ?_
      show own_Go p e below KK T (mkF m 31 #[.val (.long q1), .second, .val (.int q2), .val (.long (sm + (((x + (16 : Int64)) - (1 : Int64)) / (16 : Int64)))), .second, .val (.long (((x + (16 : Int64)) - (1 : Int64)) / (16 : Int64))), .second] [])
      refine own_at (fun t k => XS.goto X.here hx rfl (pc0 := 31) (pc' := 5) rfl (hb hby d_prog_116_4_31) (by decide) (by decide) k) ?_
      show own_Go p e below KK T (mkF m 5 #[.val (.long q1), .second, .val (.int q2), .val (.long (sm + (((x + (16 : Int64)) - (1 : Int64)) / (16 : Int64)))), .second, .val (.long (((x + (16 : Int64)) - (1 : Int64)) / (16 : Int64))), .second] [])
      have hv := own_upv hc9 h2
      have hc9' := hc9
      rw [Int64.lt_iff_toInt_lt, own_lJ1] at hc9'
      refine ih (own_up x) (sm + own_up x) (by rw [hv]; rw [Nat.pow_succ] at h1; omega) (by rw [hv]; omega) fun z => ?_
      have q := kt z
      rw [own_S, if_pos hc9, ← Int64.add_assoc] at q
      exact q
    · refine own_at (fun t k => XS.ifYes X.here hx rfl (pc0 := 9) (pc' := 34) rfl (hb hby d_prog_116_4_9) rfl (Jvm.Free.XT.ll_le_t hc9) (by decide) (by decide) k) ?_
      show own_Go p e below KK T (mkF m 34 #[.val (.long q1), .second, .val (.int q2), .val (.long sm), .second, .val (.long x), .second] [])
      have q := kt x
      rw [own_S1 _ hc9, Int64.add_zero] at q
      exact q
def own_ml (q1 : Int64) (q2 : Int32) : Int64 := (q2.toInt64) * ((0 : Int64) + own_S 16 q1)
theorem pn_com_example_oyster_oyster_core_form_MaximaTree : plainName "com/example/oyster/oyster/core/form/MaximaTree" = true := by first | (simp [plainName, overriddenIn]; done) | decide +kernel
theorem ef_prog_116_4 (m : MethodId) (x0 : Int64) (x1 : Int32) : entryFrame m #[(.long x0), (.int x1)] 7 = mkF m 0 #[.val (.long x0), .second, .val (.int x1), .unset, .unset, .unset, .unset] [] := by first | (simp [entryFrame, mkF, argsToLocals, Value.category]; done) | rfl
theorem d_prog_116_4_0 : decode prog_116_method_4_code 0 = .ok (.lconst 0, 1) := by decide +kernel
theorem d_prog_116_4_1 : decode prog_116_method_4_code 1 = .ok (.lstore_n 3, 1) := by decide +kernel
theorem d_prog_116_4_2 : decode prog_116_method_4_code 2 = .ok (.lload_n 0, 1) := by decide +kernel
theorem d_prog_116_4_3 : decode prog_116_method_4_code 3 = .ok (.lstore 5, 2) := by decide +kernel
theorem d_prog_116_4_34 : decode prog_116_method_4_code 34 = .ok (.iload_n 2, 1) := by decide +kernel
theorem d_prog_116_4_35 : decode prog_116_method_4_code 35 = .ok (.i2l, 1) := by decide +kernel
theorem d_prog_116_4_36 : decode prog_116_method_4_code 36 = .ok (.lload_n 3, 1) := by decide +kernel
theorem d_prog_116_4_37 : decode prog_116_method_4_code 37 = .ok (.lmul, 1) := by decide +kernel
theorem d_prog_116_4_38 : decode prog_116_method_4_code 38 = .ok (.lreturn, 1) := by decide +kernel
set_option maxRecDepth 65536 in
set_option maxHeartbeats 40000000 in
theorem rm_ml (l : Launch) (Z : State) (a0 : Array Value) (hw : ∀ d ∈ tables_1, d.before a0 Z = true) (ws : List Jvm.Cond) (q1 : Int64) (q2 : Int32)  (h0 : Heap) (n0 : Nat) (Z0 : n0 ≤ h0.size) (hq : q1.toInt < 9223372036854775000) :
    MetFree l (⟨"com/example/oyster/oyster/core/form/MaximaTree", "maximaLength", "(JI)J"⟩ : MethodName) (head1 (Jvm.Cond.code (⟨"com/example/oyster/oyster/core/form/MaximaTree", "maximaLength", "(JI)J"⟩ : MethodName) prog_116_method_4_code 7 (some .long) :: ws) ({ frames := 0, cells := 0, slots := 0, locals := 0 } : Room)) (fun a U => a = #[(.long q1), (.int q2)] ∧ Z.Warmed39 U.vm ∧ U.heap = h0) (fun _ _ _ _ _ => True) (fun _ U o U' => ∃ v L, o = .returned v ∧ own_P (.long (own_ml q1 q2)) h0 n0 v U'.heap L ∧ FrameEnd U o U' L ({ frames := 0, cells := 0, slots := 0, locals := 0 } : Room).cells ({ frames := 0, cells := 0, slots := 0, locals := 0 } : Room).slots) := by
  refine MetFree.of_bodySF (plainFor_of_name pn_com_example_oyster_oyster_core_form_MaximaTree) hisR ?_
  intro p e s m args below meth c s₁ Bd hml0 hP hK
  obtain ⟨rfl, hZ, hh⟩ := hP
  have hx := Bd.exec
  have hby := Bd.bytes
  have hlk : meth.locks = false := BodyLoose.notSynchronized Bd
  have hml : c.maxLocals = 7 := hml0
  have hown : s.vm.findClass "com/example/oyster/oyster/core/form/MaximaTree" = some m.cls := findClass_of_methodNamed Bd.named
  have hnm := (name_of_methodNamed Bd.named Bd.method).1
  have X0 : Stand p l e ({ frames := 0, cells := 0, slots := 0, locals := 0 } : Room) s m #[(.long q1), (.int q2)] below meth c s₁ [] 0 0 := Stand.of_body Bd
  have e0 : s₁.heap = h0 := by rw [← hh, Bd.state]; rfl
  have N0 := Fr.nil n0
  refine own_cast (K := own_K s (own_P (.long (own_ml q1 q2)) h0 n0) 0 0) (ef_prog_116_4 m q1 q2) ?_
  generalize hKK : own_K s (own_P (.long (own_ml q1 q2)) h0 n0) 0 0 = KK
  show own_Go p e below KK s₁ (mkF m 0 #[.val (.long q1), .second, .val (.int q2), .unset, .unset, .unset, .unset] [])
  refine own_at (fun t k => XS.lconst X0.here hx rfl (hb hby d_prog_116_4_0) k) ?_
  show own_Go p e below KK s₁ (mkF m 1 #[.val (.long q1), .second, .val (.int q2), .unset, .unset, .unset, .unset] [(.long 0)])
  refine own_at (fun t k => XS.lstoreN X0.here hx rfl (hb hby d_prog_116_4_1) rfl (l' := #[.val (.long q1), .second, .val (.int q2), .val (.long 0), .second, .unset, .unset]) rfl k) ?_
  show own_Go p e below KK s₁ (mkF m 2 #[.val (.long q1), .second, .val (.int q2), .val (.long 0), .second, .unset, .unset] [])
  refine own_at (fun t k => XS.lloadN X0.here hx rfl (hb hby d_prog_116_4_2) rfl k) ?_
  show own_Go p e below KK s₁ (mkF m 3 #[.val (.long q1), .second, .val (.int q2), .val (.long 0), .second, .unset, .unset] [(.long q1)])
  refine own_at (fun t k => XS.lstore X0.here hx rfl (hb hby d_prog_116_4_3) rfl (l' := #[.val (.long q1), .second, .val (.int q2), .val (.long 0), .second, .val (.long q1), .second]) rfl k) ?_
  show own_Go p e below KK s₁ (mkF m 5 #[.val (.long q1), .second, .val (.int q2), .val (.long 0), .second, .val (.long q1), .second] [])
  refine own_loop q1 q2 X0 hx hZ hw hby hown 16 q1 0 (own_pow q1) hq fun z => ?_
  show own_Go p e below KK s₁ (mkF m 34 #[.val (.long q1), .second, .val (.int q2), .val (.long ((0 : Int64) + own_S 16 q1)), .second, .val (.long z), .second] [])
  refine own_at (fun t k => XS.iloadN X0.here hx rfl (hb hby d_prog_116_4_34) rfl k) ?_
  show own_Go p e below KK s₁ (mkF m 35 #[.val (.long q1), .second, .val (.int q2), .val (.long ((0 : Int64) + own_S 16 q1)), .second, .val (.long z), .second] [(.int q2)])
  refine own_at (fun t k => XS.i2l X0.here hx rfl (hb hby d_prog_116_4_35) rfl k) ?_
  show own_Go p e below KK s₁ (mkF m 36 #[.val (.long q1), .second, .val (.int q2), .val (.long ((0 : Int64) + own_S 16 q1)), .second, .val (.long z), .second] [(.long (q2.toInt64))])
  refine own_at (fun t k => XS.lloadN X0.here hx rfl (hb hby d_prog_116_4_36) rfl k) ?_
  show own_Go p e below KK s₁ (mkF m 37 #[.val (.long q1), .second, .val (.int q2), .val (.long ((0 : Int64) + own_S 16 q1)), .second, .val (.long z), .second] [(.long ((0 : Int64) + own_S 16 q1)), (.long (q2.toInt64))])
  refine own_at (fun t k => XS.lmul X0.here hx rfl (hb hby d_prog_116_4_37) rfl k) ?_
  show own_Go p e below KK s₁ (mkF m 38 #[.val (.long q1), .second, .val (.int q2), .val (.long ((0 : Int64) + own_S 16 q1)), .second, .val (.long z), .second] [(.long ((q2.toInt64) * ((0 : Int64) + own_S 16 q1)))])
  subst hKK
  exact own_retJ X0 hx hlk Bd.returns (hb hby d_prog_116_4_38) (w := (own_ml q1 q2)) (show ((q2.toInt64) * ((0 : Int64) + own_S 16 q1)) = own_ml q1 q2 from rfl) ⟨rfl, N0, e0⟩ (Nat.le_of_ble_eq_true rfl) (Nat.le_of_ble_eq_true rfl)
theorem own_nv {p1 nn : Int64} (h : nn = (p1 >>> ((2 : Int32) &&& 0x3f).toInt64)) : -2305843009213693952 ≤ nn.toInt ∧ nn.toInt < 2305843009213693952 := by
  have h1 := c_lshr p1 2 2 (by decide)
  rw [← h] at h1
  have := rng64 p1
  omega
theorem own_nn {p1 nn : Int64} (h : nn = (p1 >>> ((2 : Int32) &&& 0x3f).toInt64)) : nn.toInt < 9223372036854775000 := by have := own_nv h; omega
theorem own_cv {p1 nn cc : Int64} (h : nn = (p1 >>> ((2 : Int32) &&& 0x3f).toInt64)) (hc : cc = ((nn / (16 : Int64)) + (if (nn &&& (15 : Int64)) = (0 : Int64) then (0 : Int64) else (1 : Int64)))) (h1 : (1 : Int64) < nn) : cc = own_up nn := by
  have a0 := own_nv h
  have a1 := own_upv h1 (by omega)
  rw [Int64.lt_iff_toInt_lt, own_lJ1] at h1
  have a2 := (c_ldiv nn 16 16 (by decide) (by decide)).1 (by omega)
  have a3 := c_maskL nn 15 4 (by decide) (by decide)
  apply Int64.toInt_inj.mp
  rw [a1, hc]
  have a4 := c_ladd (nn / (16 : Int64)) (if (nn &&& (15 : Int64)) = (0 : Int64) then (0 : Int64) else (1 : Int64))
  have a5 := rng64 (nn / (16 : Int64) + (if (nn &&& (15 : Int64)) = (0 : Int64) then (0 : Int64) else (1 : Int64)))
  by_cases h0 : (nn &&& (15 : Int64)) = (0 : Int64)
  · rw [if_pos h0] at a4 a5 ⊢
    rw [h0] at a3
    rw [own_lJ0] at a3 a4
    omega
  · rw [if_neg h0] at a4 a5 ⊢
    rw [← Int64.toInt_inj, own_lJ0, a3] at h0
    rw [own_lJ1] at a4
    omega
theorem own_cs {p1 nn cc : Int64} (h : nn = (p1 >>> ((2 : Int32) &&& 0x3f).toInt64)) (hc : cc = ((nn / (16 : Int64)) + (if (nn &&& (15 : Int64)) = (0 : Int64) then (0 : Int64) else (1 : Int64)))) (h1 : (1 : Int64) < nn) : cc.toInt < 9223372036854775000 := by
  have a0 := own_nv h
  rw [own_cv h hc h1, own_upv h1 (by omega)]; omega
theorem own_low {nn : Int64} {w : Int32} (h : ¬ (1 : Int64) < nn) : own_ml nn w = (0 : Int64) := by
  unfold own_ml; rw [own_S1 _ h, Int64.add_zero, Int64.mul_zero]
theorem own_high {p1 nn cc : Int64} {w : Int32} (h : nn = (p1 >>> ((2 : Int32) &&& 0x3f).toInt64)) (hc : cc = ((nn / (16 : Int64)) + (if (nn &&& (15 : Int64)) = (0 : Int64) then (0 : Int64) else (1 : Int64)))) (h1 : (1 : Int64) < nn) : own_ml nn w = (((w.toInt64) * cc) + (own_ml cc w)) := by
  have a0 := own_nv h
  have e := own_cv h hc h1
  have e2 := own_upv h1 (by omega)
  unfold own_ml
  rw [Int64.zero_add, Int64.zero_add, ← Int64.mul_add, ← own_more 16 (own_pow nn) (by omega), own_S, if_pos h1, e]

theorem pn_com_example_oyster_oyster_core_form_MaximaTreeMaximaLengthPinLaw : plainName "com/example/oyster/oyster/core/form/MaximaTreeMaximaLengthPinLaw" = true := by first | (simp [plainName, overriddenIn]; done) | decide +kernel
theorem ef_law (m : MethodId) (x0 : Int64) (x1 : Int32) : entryFrame m #[(.long x0), (.int x1)] maxLocals = mkF m 0 #[.val (.long x0), .second, .val (.int x1), .unset, .unset, .unset, .unset, .unset, .unset, .unset, .unset] [] := by first | (simp [entryFrame, mkF, argsToLocals, Value.category, maxLocals]; done) | rfl
theorem pd__JI_J : parseMethodDescriptor "(JI)J" = some ⟨[.long, .int], some .long⟩ := by decide +kernel
def own_Q (n0 : Nat) (v : Option Value) (h : Heap) (L : List Loc) : Prop := v = some (.int 1) ∧ Fr n0 L
set_option maxRecDepth 65536 in
set_option maxHeartbeats 40000000 in
theorem rm_law (l : Launch) (Z : State) (a0 : Array Value) (hw : ∀ d ∈ tables_1, d.before a0 Z = true) (ws : List Jvm.Cond) (p1 : Int64) (p2 : Int32)  (h0 : Heap) (n0 : Nat) (Z0 : n0 ≤ h0.size)  :
    MetFree l x (head1 (Jvm.Cond.code x code maxLocals ret :: ws) room_1) (fun a U => a = #[(.long p1), (.int p2)] ∧ Z.Warmed39 U.vm ∧ U.heap = h0) (fun _ _ _ _ _ => True) (fun _ U o U' => ∃ v L, o = .returned v ∧ own_Q n0 v U'.heap L ∧ FrameEnd U o U' L room_1.cells room_1.slots) := by
  refine MetFree.of_bodySF (plainFor_of_name pn_com_example_oyster_oyster_core_form_MaximaTreeMaximaLengthPinLaw) hisR ?_
  intro p e s m args below meth c s₁ Bd hml0 hP hK
  obtain ⟨rfl, hZ, hh⟩ := hP
  have hx := Bd.exec
  have hby := Bd.bytes
  have hlk : meth.locks = false := BodyLoose.notSynchronized Bd
  have hml : c.maxLocals = 11 := hml0
  have hown : s.vm.findClass "com/example/oyster/oyster/core/form/MaximaTreeMaximaLengthPinLaw" = some m.cls := findClass_of_methodNamed Bd.named
  have hnm := (name_of_methodNamed Bd.named Bd.method).1
  have X0 : Stand p l e room_1 s m #[(.long p1), (.int p2)] below meth c s₁ [] 0 0 := Stand.of_body Bd
  have e0 : s₁.heap = h0 := by rw [← hh, Bd.state]; rfl
  have N0 := Fr.nil n0
  refine own_cast (K := own_K s (own_Q n0) room_1.cells room_1.slots) (ef_law m p1 p2) ?_
  generalize hKK : own_K s (own_Q n0) room_1.cells room_1.slots = KK
  show own_Go p e below KK s₁ (mkF m 0 #[.val (.long p1), .second, .val (.int p2), .unset, .unset, .unset, .unset, .unset, .unset, .unset, .unset] [])
  refine own_at (fun t k => XS.lloadN X0.here hx rfl (hb hby at_0) rfl k) ?_
  show own_Go p e below KK s₁ (mkF m 1 #[.val (.long p1), .second, .val (.int p2), .unset, .unset, .unset, .unset, .unset, .unset, .unset, .unset] [(.long p1)])
  refine own_at (fun t k => XS.iconst X0.here hx rfl (hb hby at_1) k) ?_
  show own_Go p e below KK s₁ (mkF m 2 #[.val (.long p1), .second, .val (.int p2), .unset, .unset, .unset, .unset, .unset, .unset, .unset, .unset] [(.int 2), (.long p1)])
  refine own_at (fun t k => XS.lshr X0.here hx rfl (hb hby at_2) rfl k) ?_
  show own_Go p e below KK s₁ (mkF m 3 #[.val (.long p1), .second, .val (.int p2), .unset, .unset, .unset, .unset, .unset, .unset, .unset, .unset] [(.long (p1 >>> ((2 : Int32) &&& 0x3f).toInt64))])
  obtain ⟨nn, hnn⟩ : ∃ z, z = (p1 >>> ((2 : Int32) &&& 0x3f).toInt64) := ⟨_, rfl⟩
  rw [← hnn]
  show own_Go p e below KK s₁ (mkF m 3 #[.val (.long p1), .second, .val (.int p2), .unset, .unset, .unset, .unset, .unset, .unset, .unset, .unset] [(.long nn)])
  refine own_at (fun t k => XS.lstoreN X0.here hx rfl (hb hby at_3) rfl (l' := #[.val (.long p1), .second, .val (.int p2), .val (.long nn), .second, .unset, .unset, .unset, .unset, .unset, .unset]) rfl k) ?_
  show own_Go p e below KK s₁ (mkF m 4 #[.val (.long p1), .second, .val (.int p2), .val (.long nn), .second, .unset, .unset, .unset, .unset, .unset, .unset] [])
  refine own_at (fun t k => XS.lloadN X0.here hx rfl (hb hby at_4) rfl k) ?_
  show own_Go p e below KK s₁ (mkF m 5 #[.val (.long p1), .second, .val (.int p2), .val (.long nn), .second, .unset, .unset, .unset, .unset, .unset, .unset] [(.long nn)])
  refine own_at (fun t k => XS.iloadN X0.here hx rfl (hb hby at_5) rfl k) ?_
  show own_Go p e below KK s₁ (mkF m 6 #[.val (.long p1), .second, .val (.int p2), .val (.long nn), .second, .unset, .unset, .unset, .unset, .unset, .unset] [(.int p2), (.long nn)])
  obtain ⟨_, _, ⟨T1, L1, k1, n1⟩, -, X1, ⟨Lc1, hQ1, l1, y1, z1⟩, st1⟩ := Jvm.LawKit.callS X0 hx (y := (⟨"com/example/oyster/oyster/core/form/MaximaTree", "maximaLength", "(JI)J"⟩ : MethodName)) hown (mvT hZ (hw _ (List.mem_of_getElem? (i := 0) rfl))) (mvT hZ (hw _ (List.mem_of_getElem? (i := 1) rfl))) (mvT hZ (hw _ (List.mem_of_getElem? (i := 2) rfl))) (mvT hZ (hw _ (List.mem_of_getElem? (i := 3) rfl))) (by decide) (backOf (W := 0) (rm_ml l Z a0 hw [] nn p2  h0 n0 Z0 (own_nn hnn)) hZ (hw _ (List.mem_of_getElem? (i := 3) rfl)) (hw _ (List.mem_of_getElem? (i := 2) rfl)) (by decide) (by decide)) (g := (mkF m 6 #[.val (.long p1), .second, .val (.int p2), .val (.long nn), .second, .unset, .unset, .unset, .unset, .unset, .unset] [(.int p2), (.long nn)])) rfl (by rw [hml]; rfl) (argsL := [(.long nn), (.int p2)]) (rest := []) (lenOf pd__JI_J rfl) rfl (by show 2 * 0 + _ ≤ _; exact Nat.le_of_eq rfl) (hb hby at_6) (fun _ _ => ⟨rfl, e0, (by decide : 0 + 0 ≤ _), (by decide : 0 + 0 ≤ _)⟩)
  dsimp only [Pt.U, Pt.locs, Pt.cells, Pt.slots] at X1 l1 y1 z1 st1 hQ1
  subst l1 y1 z1
  obtain ⟨rfl, N1q, e1⟩ := hQ1
  have N1 := Fr.app N0 N1q
  refine own_of (fun t k => st1 t k) ?_
  show own_Go p e below KK T1 (mkF m 9 #[.val (.long p1), .second, .val (.int p2), .val (.long nn), .second, .unset, .unset, .unset, .unset, .unset, .unset] [(.long (own_ml nn p2))])
  refine own_at (fun t k => XS.lstore X1.here hx rfl (hb hby at_9) rfl (l' := #[.val (.long p1), .second, .val (.int p2), .val (.long nn), .second, .val (.long (own_ml nn p2)), .second, .unset, .unset, .unset, .unset]) rfl k) ?_
  show own_Go p e below KK T1 (mkF m 11 #[.val (.long p1), .second, .val (.int p2), .val (.long nn), .second, .val (.long (own_ml nn p2)), .second, .unset, .unset, .unset, .unset] [])
  refine own_at (fun t k => XS.lloadN X1.here hx rfl (hb hby at_11) rfl k) ?_
  show own_Go p e below KK T1 (mkF m 12 #[.val (.long p1), .second, .val (.int p2), .val (.long nn), .second, .val (.long (own_ml nn p2)), .second, .unset, .unset, .unset, .unset] [(.long nn)])
  refine own_at (fun t k => XS.lconst X1.here hx rfl (hb hby at_12) k) ?_
  show own_Go p e below KK T1 (mkF m 13 #[.val (.long p1), .second, .val (.int p2), .val (.long nn), .second, .val (.long (own_ml nn p2)), .second, .unset, .unset, .unset, .unset] [(.long 1), (.long nn)])
  refine own_at (fun t k => Jvm.Free.XT.lcmp X1.here hx rfl (hb hby at_13) rfl k) ?_
  show own_Go p e below KK T1 (mkF m 14 #[.val (.long p1), .second, .val (.int p2), .val (.long nn), .second, .val (.long (own_ml nn p2)), .second, .unset, .unset, .unset, .unset] [(.int (Jvm.Free.XT.cmpL nn (1 : Int64)))])
  by_cases hc14 : (1 : Int64) < nn
  · refine own_at (fun t k => XS.ifYes X1.here hx rfl (pc0 := 14) (pc' := 30) rfl (hb hby at_14) rfl (Jvm.Free.XT.ll_gt_t hc14) (by decide) (by decide) k) ?_
    show own_Go p e below KK T1 (mkF m 30 #[.val (.long p1), .second, .val (.int p2), .val (.long nn), .second, .val (.long (own_ml nn p2)), .second, .unset, .unset, .unset, .unset] [])
    refine own_at (fun t k => XS.lloadN X1.here hx rfl (hb hby at_30) rfl k) ?_
    show own_Go p e below KK T1 (mkF m 31 #[.val (.long p1), .second, .val (.int p2), .val (.long nn), .second, .val (.long (own_ml nn p2)), .second, .unset, .unset, .unset, .unset] [(.long nn)])
    refine own_at (fun t k => X1.ldc2Long hx hown (mvT hZ (hw _ (List.mem_of_getElem? (i := 5) rfl))) (g := (mkF m 31 #[.val (.long p1), .second, .val (.int p2), .val (.long nn), .second, .val (.long (own_ml nn p2)), .second, .unset, .unset, .unset, .unset] [(.long nn)])) rfl (hb hby at_31) t k) ?_
    show own_Go p e below KK T1 (mkF m 34 #[.val (.long p1), .second, .val (.int p2), .val (.long nn), .second, .val (.long (own_ml nn p2)), .second, .unset, .unset, .unset, .unset] [(.long 16), (.long nn)])
    refine own_at (fun t k => XS.ldiv X1.here hx rfl (hb hby at_34) rfl (by decide) k) ?_
    show own_Go p e below KK T1 (mkF m 35 #[.val (.long p1), .second, .val (.int p2), .val (.long nn), .second, .val (.long (own_ml nn p2)), .second, .unset, .unset, .unset, .unset] [(.long (nn / (16 : Int64)))])
    refine own_at (fun t k => XS.lloadN X1.here hx rfl (hb hby at_35) rfl k) ?_
    show own_Go p e below KK T1 (mkF m 36 #[.val (.long p1), .second, .val (.int p2), .val (.long nn), .second, .val (.long (own_ml nn p2)), .second, .unset, .unset, .unset, .unset] [(.long nn), (.long (nn / (16 : Int64)))])
    refine own_at (fun t k => X1.ldc2Long hx hown (mvT hZ (hw _ (List.mem_of_getElem? (i := 6) rfl))) (g := (mkF m 36 #[.val (.long p1), .second, .val (.int p2), .val (.long nn), .second, .val (.long (own_ml nn p2)), .second, .unset, .unset, .unset, .unset] [(.long nn), (.long (nn / (16 : Int64)))])) rfl (hb hby at_36) t k) ?_
    show own_Go p e below KK T1 (mkF m 39 #[.val (.long p1), .second, .val (.int p2), .val (.long nn), .second, .val (.long (own_ml nn p2)), .second, .unset, .unset, .unset, .unset] [(.long 15), (.long nn), (.long (nn / (16 : Int64)))])
    refine own_at (fun t k => XS.land X1.here hx rfl (hb hby at_39) rfl k) ?_
    show own_Go p e below KK T1 (mkF m 40 #[.val (.long p1), .second, .val (.int p2), .val (.long nn), .second, .val (.long (own_ml nn p2)), .second, .unset, .unset, .unset, .unset] [(.long (nn &&& (15 : Int64))), (.long (nn / (16 : Int64)))])
    refine own_at (fun t k => XS.lconst X1.here hx rfl (hb hby at_40) k) ?_
    show own_Go p e below KK T1 (mkF m 41 #[.val (.long p1), .second, .val (.int p2), .val (.long nn), .second, .val (.long (own_ml nn p2)), .second, .unset, .unset, .unset, .unset] [(.long 0), (.long (nn &&& (15 : Int64))), (.long (nn / (16 : Int64)))])
    refine own_at (fun t k => Jvm.Free.XT.lcmp X1.here hx rfl (hb hby at_41) rfl k) ?_
    show own_Go p e below KK T1 (mkF m 42 #[.val (.long p1), .second, .val (.int p2), .val (.long nn), .second, .val (.long (own_ml nn p2)), .second, .unset, .unset, .unset, .unset] [(.int (Jvm.Free.XT.cmpL (nn &&& (15 : Int64)) (0 : Int64))), (.long (nn / (16 : Int64)))])
    have j42 : own_Go p e below KK T1 (mkF m 50 #[.val (.long p1), .second, .val (.int p2), .val (.long nn), .second, .val (.long (own_ml nn p2)), .second, .unset, .unset, .unset, .unset] [(.long (if (nn &&& (15 : Int64)) = (0 : Int64) then (0 : Int64) else (1 : Int64))), (.long (nn / (16 : Int64)))]) → own_Go p e below KK T1 (mkF m 42 #[.val (.long p1), .second, .val (.int p2), .val (.long nn), .second, .val (.long (own_ml nn p2)), .second, .unset, .unset, .unset, .unset] [(.int (Jvm.Free.XT.cmpL (nn &&& (15 : Int64)) (0 : Int64))), (.long (nn / (16 : Int64)))]) := by
      intro kj
      by_cases hc42 : (nn &&& (15 : Int64)) = (0 : Int64)
      · rw [if_pos hc42] at kj
        refine own_at (fun t k => XS.ifYes X1.here hx rfl (pc0 := 42) (pc' := 49) rfl (hb hby at_42) rfl (Jvm.Free.XT.ll_eq_t hc42) (by decide) (by decide) k) ?_
        show own_Go p e below KK T1 (mkF m 49 #[.val (.long p1), .second, .val (.int p2), .val (.long nn), .second, .val (.long (own_ml nn p2)), .second, .unset, .unset, .unset, .unset] [(.long (nn / (16 : Int64)))])
        refine own_at (fun t k => XS.lconst X1.here hx rfl (hb hby at_49) k) ?_
        show own_Go p e below KK T1 (mkF m 50 #[.val (.long p1), .second, .val (.int p2), .val (.long nn), .second, .val (.long (own_ml nn p2)), .second, .unset, .unset, .unset, .unset] [(.long 0), (.long (nn / (16 : Int64)))])
        exact kj
      · rw [if_neg hc42] at kj
        refine own_at (fun t k => XS.ifNo X1.here hx rfl (hb hby at_42) rfl (Jvm.Free.XT.ll_eq_f hc42) k) ?_
        show own_Go p e below KK T1 (mkF m 45 #[.val (.long p1), .second, .val (.int p2), .val (.long nn), .second, .val (.long (own_ml nn p2)), .second, .unset, .unset, .unset, .unset] [(.long (nn / (16 : Int64)))])
        refine own_at (fun t k => XS.lconst X1.here hx rfl (hb hby at_45) k) ?_
        show own_Go p e below KK T1 (mkF m 46 #[.val (.long p1), .second, .val (.int p2), .val (.long nn), .second, .val (.long (own_ml nn p2)), .second, .unset, .unset, .unset, .unset] [(.long 1), (.long (nn / (16 : Int64)))])
        refine own_at (fun t k => XS.goto X1.here hx rfl (pc0 := 46) (pc' := 50) rfl (hb hby at_46) (by decide) (by decide) k) ?_
        show own_Go p e below KK T1 (mkF m 50 #[.val (.long p1), .second, .val (.int p2), .val (.long nn), .second, .val (.long (own_ml nn p2)), .second, .unset, .unset, .unset, .unset] [(.long 1), (.long (nn / (16 : Int64)))])
        exact kj
    refine j42 ?_
    show own_Go p e below KK T1 (mkF m 50 #[.val (.long p1), .second, .val (.int p2), .val (.long nn), .second, .val (.long (own_ml nn p2)), .second, .unset, .unset, .unset, .unset] [(.long (if (nn &&& (15 : Int64)) = (0 : Int64) then (0 : Int64) else (1 : Int64))), (.long (nn / (16 : Int64)))])
    refine own_at (fun t k => XS.ladd X1.here hx rfl (hb hby at_50) rfl k) ?_
    show own_Go p e below KK T1 (mkF m 51 #[.val (.long p1), .second, .val (.int p2), .val (.long nn), .second, .val (.long (own_ml nn p2)), .second, .unset, .unset, .unset, .unset] [(.long ((nn / (16 : Int64)) + (if (nn &&& (15 : Int64)) = (0 : Int64) then (0 : Int64) else (1 : Int64))))])
    obtain ⟨cc, hcc⟩ : ∃ z, z = ((nn / (16 : Int64)) + (if (nn &&& (15 : Int64)) = (0 : Int64) then (0 : Int64) else (1 : Int64))) := ⟨_, rfl⟩
    rw [← hcc]
    show own_Go p e below KK T1 (mkF m 51 #[.val (.long p1), .second, .val (.int p2), .val (.long nn), .second, .val (.long (own_ml nn p2)), .second, .unset, .unset, .unset, .unset] [(.long cc)])
    refine own_at (fun t k => XS.lstore X1.here hx rfl (hb hby at_51) rfl (l' := #[.val (.long p1), .second, .val (.int p2), .val (.long nn), .second, .val (.long (own_ml nn p2)), .second, .val (.long cc), .second, .unset, .unset]) rfl k) ?_
    show own_Go p e below KK T1 (mkF m 53 #[.val (.long p1), .second, .val (.int p2), .val (.long nn), .second, .val (.long (own_ml nn p2)), .second, .val (.long cc), .second, .unset, .unset] [])
    refine own_at (fun t k => XS.lload X1.here hx rfl (hb hby at_53) rfl k) ?_
    show own_Go p e below KK T1 (mkF m 55 #[.val (.long p1), .second, .val (.int p2), .val (.long nn), .second, .val (.long (own_ml nn p2)), .second, .val (.long cc), .second, .unset, .unset] [(.long cc)])
    refine own_at (fun t k => XS.iloadN X1.here hx rfl (hb hby at_55) rfl k) ?_
    show own_Go p e below KK T1 (mkF m 56 #[.val (.long p1), .second, .val (.int p2), .val (.long nn), .second, .val (.long (own_ml nn p2)), .second, .val (.long cc), .second, .unset, .unset] [(.int p2), (.long cc)])
    obtain ⟨_, _, ⟨T2, L2, k2, n2⟩, -, X2, ⟨Lc2, hQ2, l2, y2, z2⟩, st2⟩ := Jvm.LawKit.callS X1 hx (y := (⟨"com/example/oyster/oyster/core/form/MaximaTree", "maximaLength", "(JI)J"⟩ : MethodName)) hown (mvT hZ (hw _ (List.mem_of_getElem? (i := 0) rfl))) (mvT hZ (hw _ (List.mem_of_getElem? (i := 1) rfl))) (mvT hZ (hw _ (List.mem_of_getElem? (i := 2) rfl))) (mvT hZ (hw _ (List.mem_of_getElem? (i := 3) rfl))) (by decide) (backOf (W := 0) (rm_ml l Z a0 hw [] cc p2  h0 n0 Z0 (own_cs hnn hcc hc14)) hZ (hw _ (List.mem_of_getElem? (i := 3) rfl)) (hw _ (List.mem_of_getElem? (i := 2) rfl)) (by decide) (by decide)) (g := (mkF m 56 #[.val (.long p1), .second, .val (.int p2), .val (.long nn), .second, .val (.long (own_ml nn p2)), .second, .val (.long cc), .second, .unset, .unset] [(.int p2), (.long cc)])) rfl (by rw [hml]; rfl) (argsL := [(.long cc), (.int p2)]) (rest := []) (lenOf pd__JI_J rfl) rfl (by show 2 * 0 + _ ≤ _; exact Nat.le_of_eq rfl) (hb hby at_56) (fun _ _ => ⟨rfl, e1, (by decide : 0 + 0 ≤ _), (by decide : 0 + 0 ≤ _)⟩)
    dsimp only [Pt.U, Pt.locs, Pt.cells, Pt.slots] at X2 l2 y2 z2 st2 hQ2
    subst l2 y2 z2
    obtain ⟨rfl, N2q, e2⟩ := hQ2
    have N2 := Fr.app N1 N2q
    refine own_of (fun t k => st2 t k) ?_
    show own_Go p e below KK T2 (mkF m 59 #[.val (.long p1), .second, .val (.int p2), .val (.long nn), .second, .val (.long (own_ml nn p2)), .second, .val (.long cc), .second, .unset, .unset] [(.long (own_ml cc p2))])
    refine own_at (fun t k => XS.lstore X2.here hx rfl (hb hby at_59) rfl (l' := #[.val (.long p1), .second, .val (.int p2), .val (.long nn), .second, .val (.long (own_ml nn p2)), .second, .val (.long cc), .second, .val (.long (own_ml cc p2)), .second]) rfl k) ?_
    show own_Go p e below KK T2 (mkF m 61 #[.val (.long p1), .second, .val (.int p2), .val (.long nn), .second, .val (.long (own_ml nn p2)), .second, .val (.long cc), .second, .val (.long (own_ml cc p2)), .second] [])
    refine own_at (fun t k => XS.lload X2.here hx rfl (hb hby at_61) rfl k) ?_
    show own_Go p e below KK T2 (mkF m 63 #[.val (.long p1), .second, .val (.int p2), .val (.long nn), .second, .val (.long (own_ml nn p2)), .second, .val (.long cc), .second, .val (.long (own_ml cc p2)), .second] [(.long (own_ml nn p2))])
    refine own_at (fun t k => XS.iloadN X2.here hx rfl (hb hby at_63) rfl k) ?_
    show own_Go p e below KK T2 (mkF m 64 #[.val (.long p1), .second, .val (.int p2), .val (.long nn), .second, .val (.long (own_ml nn p2)), .second, .val (.long cc), .second, .val (.long (own_ml cc p2)), .second] [(.int p2), (.long (own_ml nn p2))])
    refine own_at (fun t k => XS.i2l X2.here hx rfl (hb hby at_64) rfl k) ?_
    show own_Go p e below KK T2 (mkF m 65 #[.val (.long p1), .second, .val (.int p2), .val (.long nn), .second, .val (.long (own_ml nn p2)), .second, .val (.long cc), .second, .val (.long (own_ml cc p2)), .second] [(.long (p2.toInt64)), (.long (own_ml nn p2))])
    refine own_at (fun t k => XS.lload X2.here hx rfl (hb hby at_65) rfl k) ?_
    show own_Go p e below KK T2 (mkF m 67 #[.val (.long p1), .second, .val (.int p2), .val (.long nn), .second, .val (.long (own_ml nn p2)), .second, .val (.long cc), .second, .val (.long (own_ml cc p2)), .second] [(.long cc), (.long (p2.toInt64)), (.long (own_ml nn p2))])
    refine own_at (fun t k => XS.lmul X2.here hx rfl (hb hby at_67) rfl k) ?_
    show own_Go p e below KK T2 (mkF m 68 #[.val (.long p1), .second, .val (.int p2), .val (.long nn), .second, .val (.long (own_ml nn p2)), .second, .val (.long cc), .second, .val (.long (own_ml cc p2)), .second] [(.long ((p2.toInt64) * cc)), (.long (own_ml nn p2))])
    refine own_at (fun t k => XS.lload X2.here hx rfl (hb hby at_68) rfl k) ?_
    show own_Go p e below KK T2 (mkF m 70 #[.val (.long p1), .second, .val (.int p2), .val (.long nn), .second, .val (.long (own_ml nn p2)), .second, .val (.long cc), .second, .val (.long (own_ml cc p2)), .second] [(.long (own_ml cc p2)), (.long ((p2.toInt64) * cc)), (.long (own_ml nn p2))])
    refine own_at (fun t k => XS.ladd X2.here hx rfl (hb hby at_70) rfl k) ?_
    show own_Go p e below KK T2 (mkF m 71 #[.val (.long p1), .second, .val (.int p2), .val (.long nn), .second, .val (.long (own_ml nn p2)), .second, .val (.long cc), .second, .val (.long (own_ml cc p2)), .second] [(.long (((p2.toInt64) * cc) + (own_ml cc p2))), (.long (own_ml nn p2))])
    refine own_at (fun t k => Jvm.Free.XT.lcmp X2.here hx rfl (hb hby at_71) rfl k) ?_
    show own_Go p e below KK T2 (mkF m 72 #[.val (.long p1), .second, .val (.int p2), .val (.long nn), .second, .val (.long (own_ml nn p2)), .second, .val (.long cc), .second, .val (.long (own_ml cc p2)), .second] [(.int (Jvm.Free.XT.cmpL (own_ml nn p2) (((p2.toInt64) * cc) + (own_ml cc p2))))])
    have hc72 : (own_ml nn p2) = (((p2.toInt64) * cc) + (own_ml cc p2)) := own_high hnn hcc hc14
    refine own_at (fun t k => XS.ifNo X2.here hx rfl (hb hby at_72) rfl (Jvm.Free.XT.ll_ne_f hc72) k) ?_
    show own_Go p e below KK T2 (mkF m 75 #[.val (.long p1), .second, .val (.int p2), .val (.long nn), .second, .val (.long (own_ml nn p2)), .second, .val (.long cc), .second, .val (.long (own_ml cc p2)), .second] [])
    refine own_at (fun t k => XS.iconst X2.here hx rfl (hb hby at_75) k) ?_
    show own_Go p e below KK T2 (mkF m 76 #[.val (.long p1), .second, .val (.int p2), .val (.long nn), .second, .val (.long (own_ml nn p2)), .second, .val (.long cc), .second, .val (.long (own_ml cc p2)), .second] [(.int 1)])
    refine own_at (fun t k => XS.goto X2.here hx rfl (pc0 := 76) (pc' := 80) rfl (hb hby at_76) (by decide) (by decide) k) ?_
    show own_Go p e below KK T2 (mkF m 80 #[.val (.long p1), .second, .val (.int p2), .val (.long nn), .second, .val (.long (own_ml nn p2)), .second, .val (.long cc), .second, .val (.long (own_ml cc p2)), .second] [(.int 1)])
    subst hKK
    exact own_retN X2 hx hlk (t := .boolean) Bd.returns (by simp) (hb hby at_80) (w := (1 : Int32)) (show nar .boolean (1 : Int32) = 1 from by decide) ⟨rfl, N2⟩ (Nat.le_of_ble_eq_true rfl) (Nat.le_of_ble_eq_true rfl)
  · refine own_at (fun t k => XS.ifNo X1.here hx rfl (hb hby at_14) rfl (Jvm.Free.XT.ll_gt_f hc14) k) ?_
    show own_Go p e below KK T1 (mkF m 17 #[.val (.long p1), .second, .val (.int p2), .val (.long nn), .second, .val (.long (own_ml nn p2)), .second, .unset, .unset, .unset, .unset] [])
    refine own_at (fun t k => XS.lload X1.here hx rfl (hb hby at_17) rfl k) ?_
    show own_Go p e below KK T1 (mkF m 19 #[.val (.long p1), .second, .val (.int p2), .val (.long nn), .second, .val (.long (own_ml nn p2)), .second, .unset, .unset, .unset, .unset] [(.long (own_ml nn p2))])
    refine own_at (fun t k => XS.lconst X1.here hx rfl (hb hby at_19) k) ?_
    show own_Go p e below KK T1 (mkF m 20 #[.val (.long p1), .second, .val (.int p2), .val (.long nn), .second, .val (.long (own_ml nn p2)), .second, .unset, .unset, .unset, .unset] [(.long 0), (.long (own_ml nn p2))])
    refine own_at (fun t k => Jvm.Free.XT.lcmp X1.here hx rfl (hb hby at_20) rfl k) ?_
    show own_Go p e below KK T1 (mkF m 21 #[.val (.long p1), .second, .val (.int p2), .val (.long nn), .second, .val (.long (own_ml nn p2)), .second, .unset, .unset, .unset, .unset] [(.int (Jvm.Free.XT.cmpL (own_ml nn p2) (0 : Int64)))])
    have hc21 : (own_ml nn p2) = (0 : Int64) := own_low hc14
    refine own_at (fun t k => XS.ifNo X1.here hx rfl (hb hby at_21) rfl (Jvm.Free.XT.ll_ne_f hc21) k) ?_
    show own_Go p e below KK T1 (mkF m 24 #[.val (.long p1), .second, .val (.int p2), .val (.long nn), .second, .val (.long (own_ml nn p2)), .second, .unset, .unset, .unset, .unset] [])
    refine own_at (fun t k => XS.iconst X1.here hx rfl (hb hby at_24) k) ?_
    show own_Go p e below KK T1 (mkF m 25 #[.val (.long p1), .second, .val (.int p2), .val (.long nn), .second, .val (.long (own_ml nn p2)), .second, .unset, .unset, .unset, .unset] [(.int 1)])
    refine own_at (fun t k => XS.goto X1.here hx rfl (pc0 := 25) (pc' := 29) rfl (hb hby at_25) (by decide) (by decide) k) ?_
    show own_Go p e below KK T1 (mkF m 29 #[.val (.long p1), .second, .val (.int p2), .val (.long nn), .second, .val (.long (own_ml nn p2)), .second, .unset, .unset, .unset, .unset] [(.int 1)])
    subst hKK
    exact own_retN X1 hx hlk (t := .boolean) Bd.returns (by simp) (hb hby at_29) (w := (1 : Int32)) (show nar .boolean (1 : Int32) = 1 from by decide) ⟨rfl, N1⟩ (Nat.le_of_ble_eq_true rfl) (Nat.le_of_ble_eq_true rfl)
set_option maxRecDepth 65536 in
set_option maxHeartbeats 40000000 in
theorem comes_1 {Post : Tables → Env → Array Value → State → Outcome → State → Prop} (hpost : ∀ tb e args s v u, (limb_1_1.after args s (.returned v) u = true ∧ limb_1_2.after args s (.returned v) u = true ∧ True) → FrameEnd s (.returned v) u (Jvm.fieldLocs frame_1_writes args s ++ Jvm.arrayLocs frame_1_arrays args s ++ Jvm.staticLocs frame_1_statics s) 0 0 → Post tb e args s (.returned v) u) :
    ArmFor flags0 classFile x code maxLocals ret World_1 tables_1 room_1 Calls_1 rest_1 Pre_1 Post := by
  intro l hfl _ _ p e ha hc hk s m args below hf hA hF happ hP
  obtain ⟨hcalls, hrest, hpre⟩ := hP
  obtain ⟨-, -, -, hnamed, -, -, -, hat⟩ := (Spec.applies_iff hf).mp happ
  obtain ⟨hg, hn⟩ := and_e (Cond.before_iff.mp (show (Jvm.Cond.and given_1 narrow_1).before args s = true from hpre))
  obtain ⟨gc, g0⟩ := and_e hg
  obtain ⟨u0, g1⟩ := and_e g0
  obtain ⟨w0, w1, rfl⟩ : ∃ w0 w1 : Value, args = #[w0, w1] := by
    have hs : args.size = 2 := by simpa [Cond.value, given_1] using gc
    obtain ⟨L⟩ := args
    match L, hs with
    | [w0, w1], _ => exact ⟨w0, w1, rfl⟩
  have hw := fun d (hd : d ∈ tables_1) => atoms_spec (ws := Jvm.Cond.code x code maxLocals ret :: tables_1) hat d (List.mem_cons_of_mem _ hd)
  obtain ⟨i0, ei0⟩ := isL_v u0
  obtain rfl : w0 = (.long i0) := Option.some.inj ei0
  obtain ⟨i1, ei1⟩ := is_v g1
  obtain rfl : w1 = (.int i1) := Option.some.inj ei1
  obtain ⟨n, o, h1, h2, h3, _, L, rfl, ⟨rfl, N⟩, hq⟩ := rm_law l s _ hw tables_1 i0 i1 s.heap s.heap.size (Nat.le_refl _) p e ha hc hk s m _ below hf ((Spec.applies_iff_loose hf).mp happ).1 ⟨rfl, State.Warmed39.refl s, rfl⟩ trivial
  refine ⟨n, _, h1, h2, h3, hpost _ _ _ _ _ _ ⟨Cond.after_iff.mpr rfl, Cond.after_iff.mpr (eq_i res_at (Term.int_eval (1)) rfl), trivial⟩ ⟨hq.1, hq.2.1, (hq.2.2.sift fun y hy => Or.inr (N y hy)).mono (by decide) (by decide)⟩⟩
theorem main_1_1 : Claimed_1_1 := comes_1 fun _ _ _ _ _ _ h hF => ⟨h.1, hF⟩
theorem main_1_2 : Claimed_1_2 := comes_1 fun _ _ _ _ _ _ h hF => ⟨h.2.1, hF⟩
end Jvm.Pilot.@@N@@
namespace Jvm.Pilot.@@N@@
open Jvm Jvm.ClassFile Sem Op Lib Jvm.Free Jvm.Stand Jvm.Pilot.@@N@@.Jvm.D
/-! MADE BY PROGRAM (witnessworld.py) out of the Statement's table words and the real class files: 9 classes; the members and pool entries that the words name. The judged class is class 1, her method 1. -/
namespace start1
open Jvm.ClassFile
def u (s : String) : CpInfo := .utf8 (stringToUtf16 s)
/-- a pool by its gaps: so many unusable entries, then the entry; so many at the end -/
def gap : Nat → List CpInfo → List CpInfo
  | 0, r => r
  | n + 1, r => .unusable :: gap n r
def poolList (es : List (Nat × CpInfo)) (last : Nat) : List CpInfo := es.foldr (fun e r => gap e.1 (e.2 :: r)) (gap last [])
def pool (es : List (Nat × CpInfo)) (last : Nat) : Array CpInfo := ⟨poolList es last⟩
def fileOf (pool : Array CpInfo) (this : Nat) (attrs : Array Attribute := #[]) (ms : Array MethodInfo := #[]) (fl : Nat := 33) (sup : Nat := 0) (ifs : Array Nat := #[]) (fds : Array FieldInfo := #[]) : ClassFile where
  minorVersion := 0
  majorVersion := 65
  constantPool := pool
  accessFlags := fl
  thisClass := this
  superClass := sup
  interfaces := ifs
  fields := fds
  methods := ms
  attributes := attrs
def plain (name : String) (sup : Option ClassId) : Class where
  name := name
  kind := .ordinary
  loader := none
  accessFlags := 33
  super := sup
  interfaces := #[]
  cf := none
  fields := #[]
  methods := #[]
  instanceTypes := #[]
  staticTypes := #[]
  resolved := #[]
  callSites := []
  init := .initialized
  statics := none
  mirror := none

def pool0 : Array CpInfo := pool [(5, u "<init>"), (0, u "()V"), (1, .class_ 10), (1, u "java/lang/Object")] 113

def k0m0 : Method := { name := "<init>", desc := "()V", sig := { parameters := [], returnType := none }, accessFlags := 1, code := none }
/-- java/lang/Object -/
def k0 : Class := { plain "java/lang/Object" none with
  accessFlags := 33
  interfaces := #[]
  cf := some (fileOf pool0 8 #[] #[{ accessFlags := 1, nameIndex := 5, descriptorIndex := 6, attributes := #[] }] 33 0 #[] #[])
  fields := #[]
  methods := #[k0m0]
  instanceTypes := #[]
  staticTypes := #[]
  resolved := Array.replicate 124 none
  statics := none }

def pool1 : Array CpInfo := pool [(2, .class_ 4), (1, u "java/lang/Object"), (0, u "<init>"), (0, u "()V"), (0, .methodref 8 9), (0, .class_ 10), (0, .nameAndType 11 12), (0, u "com/example/oyster/oyster/core/form/MaximaTree"), (0, u "maximaLength"), (0, u "(JI)J"), (0, .long 16), (1, .long 15), (1, .class_ 18), (0, u "com/example/oyster/oyster/core/form/MaximaTreeMaximaLengthPinLaw"), (2, u "law"), (0, u "(JI)Z")] 3

def k1m0 : Method := { name := "<init>", desc := "()V", sig := { parameters := [], returnType := none }, accessFlags := 1, code := none }
def k1c1 : Code := { maxStack := 6, maxLocals := 11, code := code, exceptionTable := #[], attributes := #[] }
def k1m1 : Method := { name := "law", desc := "(JI)Z", sig := { parameters := [.long, .int], returnType := some .boolean }, accessFlags := 9, code := some k1c1 }
/-- com/example/oyster/oyster/core/form/MaximaTreeMaximaLengthPinLaw -/
def k1 : Class := { plain "com/example/oyster/oyster/core/form/MaximaTreeMaximaLengthPinLaw" (some 0) with
  accessFlags := 49
  interfaces := #[]
  cf := some (fileOf pool1 17 #[] #[{ accessFlags := 1, nameIndex := 5, descriptorIndex := 6, attributes := #[] }, { accessFlags := 9, nameIndex := 21, descriptorIndex := 22, attributes := #[] }] 49 2 #[] #[])
  fields := #[]
  methods := #[k1m0, k1m1]
  instanceTypes := #[]
  staticTypes := #[]
  resolved := Array.replicate 26 none
  statics := none }

def pool2 : Array CpInfo := pool [(1, .class_ 2), (0, u "com/example/oyster/oyster/core/form/MaximaTree"), (5, .class_ 10), (1, u "java/lang/Object"), (3, u "bytes"), (0, u "Lcom/example/oyster/oyster/core/form/FormBytes;"), (2, u "width"), (0, u "I"), (2, u "stride"), (6, u "sizes"), (0, u "[I"), (2, u "levelsAt"), (0, u "[J"), (3, u "held"), (0, u "[[J"), (7, .long 16), (3, u "maximaLength"), (0, u "(JI)J"), (18, .class_ 72), (0, u "com/example/oyster/oyster/core/form/MaximaTree$Check"), (6, .class_ 80), (0, u "com/example/oyster/oyster/core/form/MaximaTree$Maxima"), (28, u "FAN_BITS"), (2, u "FAN_OUT")] 26

def k2c0 : Code := { maxStack := 4, maxLocals := 7, code := prog_116_method_4_code, exceptionTable := #[], attributes := #[] }
def k2m0 : Method := { name := "maximaLength", desc := "(JI)J", sig := { parameters := [.long, .int], returnType := some .long }, accessFlags := 9, code := some k2c0 }
/-- com/example/oyster/oyster/core/form/MaximaTree -/
def k2 : Class := { plain "com/example/oyster/oyster/core/form/MaximaTree" (some 0) with
  accessFlags := 49
  interfaces := #[]
  cf := some (fileOf pool2 1 #[.nestMembers #[79, 71]] #[{ accessFlags := 9, nameIndex := 51, descriptorIndex := 52, attributes := #[] }] 49 8 #[] #[{ accessFlags := 24, nameIndex := 109, descriptorIndex := 19, attributes := #[] }, { accessFlags := 24, nameIndex := 112, descriptorIndex := 19, attributes := #[] }, { accessFlags := 18, nameIndex := 14, descriptorIndex := 15, attributes := #[] }, { accessFlags := 18, nameIndex := 18, descriptorIndex := 19, attributes := #[] }, { accessFlags := 18, nameIndex := 22, descriptorIndex := 19, attributes := #[] }, { accessFlags := 18, nameIndex := 33, descriptorIndex := 34, attributes := #[] }, { accessFlags := 18, nameIndex := 29, descriptorIndex := 30, attributes := #[] }, { accessFlags := 18, nameIndex := 38, descriptorIndex := 39, attributes := #[] }])
  fields := #[{ name := "FAN_BITS", type := .int, accessFlags := 24, slot := 0, constantValue := 0 }, { name := "FAN_OUT", type := .int, accessFlags := 24, slot := 1, constantValue := 0 }, { name := "bytes", type := (.object "com/example/oyster/oyster/core/form/FormBytes"), accessFlags := 18, slot := 0, constantValue := 0 }, { name := "width", type := .int, accessFlags := 18, slot := 1, constantValue := 0 }, { name := "stride", type := .int, accessFlags := 18, slot := 2, constantValue := 0 }, { name := "levelsAt", type := (.array .long), accessFlags := 18, slot := 3, constantValue := 0 }, { name := "sizes", type := (.array .int), accessFlags := 18, slot := 4, constantValue := 0 }, { name := "held", type := (.array (.array .long)), accessFlags := 18, slot := 5, constantValue := 0 }]
  methods := #[k2m0]
  instanceTypes := #[(.object "com/example/oyster/oyster/core/form/FormBytes"), .int, .int, (.array .long), (.array .int), (.array (.array .long))]
  staticTypes := #[.int, .int]
  resolved := Array.replicate 139 none
  statics := none }

def pool3 : Array CpInfo := pool [(1, u "java/lang/Cloneable"), (0, .class_ 1), (0, u "java/lang/Object"), (0, .class_ 3)] 3

/-- java/lang/Cloneable -/
def k3 : Class := { plain "java/lang/Cloneable" (some 0) with
  accessFlags := 1537
  interfaces := #[]
  cf := some (fileOf pool3 2 #[] #[] 1537 4 #[] #[])
  fields := #[]
  methods := #[]
  instanceTypes := #[]
  staticTypes := #[]
  resolved := Array.replicate 8 none
  statics := none }

def pool4 : Array CpInfo := pool [(1, u "java/io/Serializable"), (0, .class_ 1), (0, u "java/lang/Object"), (0, .class_ 3)] 3

/-- java/io/Serializable -/
def k4 : Class := { plain "java/io/Serializable" (some 0) with
  accessFlags := 1537
  interfaces := #[]
  cf := some (fileOf pool4 2 #[] #[] 1537 4 #[] #[])
  fields := #[]
  methods := #[]
  instanceTypes := #[]
  staticTypes := #[]
  resolved := Array.replicate 8 none
  statics := none }

/-- the primitive byte -/
def k5 : Class := { plain "byte" none with kind := .primitive 'B', accessFlags := 0x411 }
/-- [B -/
def k6 : Class := { plain "[B" (some 0) with kind := .array 5 .byte, interfaces := #[3, 4], accessFlags := 1041 }

/-- the primitive int -/
def k7 : Class := { plain "int" none with kind := .primitive 'I', accessFlags := 0x411 }
/-- [I -/
def k8 : Class := { plain "[I" (some 0) with kind := .array 7 .int, interfaces := #[3, 4], accessFlags := 1041 }

def heap : Heap := #[]
def classes : Array Class := #[k0, k1, k2, k3, k4, k5, k6, k7, k8]
def interned : List (Array UInt16 × Addr) := []
def slotsUsed : Nat := 0
def theMethod : MethodId := ⟨1, 1⟩
def args0 : Array Value := #[.long 500, .int 3]
def aboutOver (below : List Frame) : State where
  vm := { classes := classes, interned := interned.toArray }
  heap := heap
  slotsUsed := slotsUsed
  threads := #[{ frames := .invoking theMethod args0 :: below }]
def below0 : List Frame := [.native { method := ⟨0, 0⟩, args := #[] }]
def about1 : State := aboutOver below0
def p0 : Program := .bare "" "" ""
def e0 : Env := launch0.env 0 0 0
theorem w_frames : about1.frames = Frame.invoking theMethod args0 :: below0 := rfl
set_option maxRecDepth 65536 in
theorem w_args : argsFit about1.vm theMethod args0 = true := by decide +kernel
set_option maxRecDepth 65536 in
theorem w_heap : heapFits about1 = true := by decide +kernel
set_option maxRecDepth 65536 in
theorem w_runnable : about1.curStatus? = some .runnable := by decide +kernel
set_option maxRecDepth 65536 in
theorem w_alone : about1.alone = true := by decide +kernel
set_option maxRecDepth 65536 in
theorem w_named : about1.methodNamed? x = some theMethod := by decide +kernel
set_option maxRecDepth 65536 in
theorem w_hears : about1.hears theMethod below0 = true := by decide +kernel
set_option maxRecDepth 65536 in
theorem w_ripe : about1.ripe theMethod args0 below0 = true := by decide +kernel
theorem w_running : about1.status = .running := rfl
set_option maxRecDepth 65536 in
theorem w_room : about1.hasRoom e0.platform room_1 = true :=
  launch0.hasRoom_least _ room_1 (by decide +kernel) (by decide +kernel) (by decide +kernel) (by decide +kernel) (by decide +kernel) (by decide +kernel)
theorem allAtoms_all (ts : List Jvm.Cond) (a : Array Jvm.Value) (st : Jvm.State) : (allAtoms ts).before a st = ts.all (fun c => c.before a st) := by
  induction ts with
  | nil => rfl
  | cons c t ih =>
    show (Jvm.Cond.and c (allAtoms t)).before a st = _
    rw [Jvm.Cond.before_and, ih, List.all_cons]
def words1 : List Jvm.Cond := Jvm.Cond.code x code maxLocals ret :: tables_1
/-- a 'code' word, met by the world's own term for the bytes: nothing is compared byte by byte -/
theorem code_word {y : MethodName} {bytes : ByteArray} {mx : Nat} {rt : Option FieldType} {a : Array Value} {s : State} {m : MethodId} {meth : Method} {c : Code} (h1 : s.methodNamed? y = some m) (h2 : s.vm.method? m = some meth) (h3 : meth.code = some c) (h4 : c.code = bytes)
    (h5 : (c.maxLocals == mx && c.exceptionTable.isEmpty && decide (c.maxStack ≤ mostOperands) && decide (meth.sig.returnType = rt) && !meth.locks && decide (parseMethodDescriptor y.desc = some meth.sig)) = true) : (Jvm.Cond.code y bytes mx rt).before a s = true := by
  simp only [Bool.and_eq_true, beq_iff_eq, Bool.not_eq_true', decide_eq_true_eq] at h5
  obtain ⟨⟨⟨⟨⟨g1, g2⟩, g3⟩, g4⟩, g5⟩, g6⟩ := h5
  simp [Cond.before, Cond.holds, Cond.value, h1, h2, h3, h4, g1, g2, g3, g4, g5, g6]
def isCode : Jvm.Cond → Bool
  | .code _ _ _ _ => true
  | _ => false
theorem all_split {L : List Jvm.Cond} {P : Jvm.Cond → Bool} (h1 : L.all (fun c => isCode c || P c) = true) (h2 : ∀ c ∈ L.filter isCode, P c = true) : L.all P = true := by
  refine List.all_eq_true.mpr fun c hc => ?_
  have h := List.all_eq_true.mp h1 c hc
  rcases Bool.eq_false_or_eq_true (isCode c) with hi | hi
  · exact h2 c (List.mem_filter.mpr ⟨hc, hi⟩)
  · simpa [hi] using h
set_option maxRecDepth 65536 in
theorem w_c0 : (Jvm.Cond.code x code maxLocals ret).before args0 about1 = true := code_word (m := ⟨1, 1⟩) (meth := k1m1) (c := k1c1) (by decide +kernel) rfl rfl rfl (by decide +kernel)
set_option maxRecDepth 65536 in
theorem w_c1 : (Jvm.Cond.code ({ cls := "com/example/oyster/oyster/core/form/MaximaTree", name := "maximaLength", desc := "(JI)J" } : Jvm.MethodName) prog_116_method_4_code (7 : Nat) (Option.some Jvm.ClassFile.FieldType.long)).before args0 about1 = true := code_word (m := ⟨2, 0⟩) (meth := k2m0) (c := k2c0) (by decide +kernel) rfl rfl rfl (by decide +kernel)
def codes1 : List Jvm.Cond := [Jvm.Cond.code x code maxLocals ret, Jvm.Cond.code ({ cls := "com/example/oyster/oyster/core/form/MaximaTree", name := "maximaLength", desc := "(JI)J" } : Jvm.MethodName) prog_116_method_4_code (7 : Nat) (Option.some Jvm.ClassFile.FieldType.long)]
set_option maxRecDepth 65536 in
theorem codes_eq : words1.filter isCode = codes1 := rfl
theorem w_codes : ∀ c ∈ words1.filter isCode, c.before args0 about1 = true := by
  rw [codes_eq]
  intro c hc
  simp only [codes1, List.mem_cons, List.not_mem_nil, or_false] at hc
  rcases hc with rfl | rfl
  · exact w_c0
  · exact w_c1
set_option maxRecDepth 65536 in
theorem w_t1 : words1.all (fun c => isCode c || c.before args0 about1) = true := by decide +kernel
theorem w_tables : (allAtoms (Jvm.Cond.code x code maxLocals ret :: tables_1)).before args0 about1 = true := by
  rw [allAtoms_all]
  show words1.all (fun c => c.before args0 about1) = true
  refine all_split ?_ w_codes
  rw [w_t1]
set_option maxRecDepth 65536 in
theorem w_case : (Jvm.Cond.and given_1 narrow_1).before args0 about1 = true := by decide +kernel
theorem w_applies : (headSpec (Jvm.Cond.code x code maxLocals ret :: tables_1) room_1).applies x e0.platform about1 = true :=
  (Spec.applies_iff w_frames).mpr ⟨w_running, w_runnable, w_alone, w_named, w_hears, w_ripe, w_room, w_tables⟩
theorem atStart : AtStart classFile x code maxLocals ret World_1 tables_1 room_1 Calls_1 rest_1 Pre_1 launch0 p0 e0 about1 theMethod args0 below0 :=
  ⟨lists_1, trivial, launch0.admits_env _ _ _, launch0.least_env, fairChoices_fair.cas, fairChoices_fair.clock, w_frames, w_args, w_heap, w_applies, trivial, trivial, w_case⟩
end start1
theorem witness_1 : WitnessClaimed_1 := ⟨start1.p0, start1.e0, start1.about1, start1.theMethod, start1.args0, start1.below0, start1.atStart⟩
end Jvm.Pilot.@@N@@
