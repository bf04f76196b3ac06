import JvmDerived
import JvmDerived.Pilot.@@N@@Statement
import JvmDerived.Pilot.@@N@@Code
set_option linter.unusedVariables false
set_option linter.unusedSimpArgs false
namespace Jvm.RoadKit
open Sem ClassFile Op Lib Jvm.Stand Jvm.Free Jvm.LawKit
section New
variable {p : Program} {l : Launch} {e : Env} {R : Room} {s : State} {m : MethodId} {args : Array Value} {below : List Frame} {meth : Method} {c : Code} {T : State} {locs : List Loc} {cells slots : Nat}
theorem retI (X : Stand p l e R s m args below meth c T locs cells slots) (hx : p.tables.exec = Jvm.exec) {pc : Nat} {Ls : Array Slot} {z : Int32} {rest : List Value} (hret : meth.sig.returnType = some .int) (hd : decode c.code pc = .ok (.ireturn, 1)) {fs : List Frame}
    (hl : ∀ (f : JFrame) (acts : List Action), f.method = m → f.locked = none → f.entered = [] → (doReturn e (T.setTop f) acts (some (.int z))).1 = T.setFrames fs) : Steps p.tables e below (T.setTop (mkF m pc Ls (.int z :: rest))) (T.setFrames fs) := by
  have hm' : T.vm.method? m = some meth := X.method'
  have hn : narrow .int (.int z) = .int z := rfl
  show Steps p.tables e below (T.setTop { method := m, pc := pc, locals := Ls, stack := _ :: rest, locked := none }) _
  jvm_step X.here [X.here.top, hx, hd, hm', hret, hn]
  first | (intro acts; rw [hl _ acts rfl rfl rfl]) | rw [hl _ _ rfl rfl rfl]
  exact Steps.refl _
end New
end Jvm.RoadKit
namespace Jvm.Pilot.@@N@@
open Jvm Jvm.ClassFile Sem Op Lib Jvm.Free Jvm.Stand Jvm.LawKit Jvm.RoadKit Bundle Jvm.Free.Fl Jvm.Pilot.@@N@@.Jvm.D
/-- the run comes from the frame g0 (over T0) to the frame g (over T) -/
abbrev Go (p : Program) (e : Env) (below : List Frame) (T0 : State) (g0 : JFrame) (T : State) (g : JFrame) : Prop :=
  ∀ t, Steps p.tables e below (T.setTop g) t → Steps p.tables e below (T0.setTop g0) t
theorem d1_0 : decode jdk_29_method_66_code 0 = .ok (.lload_n 0, 1) := by decide +kernel
theorem d1_1 : decode jdk_29_method_66_code 1 = .ok (.lload_n 2, 1) := by decide +kernel
theorem d1_2 : decode jdk_29_method_66_code 2 = .ok (.lcmp, 1) := by decide +kernel
theorem d1_3 : decode jdk_29_method_66_code 3 = .ok (.ifCond .lt 7, 3) := by decide +kernel
theorem d1_6 : decode jdk_29_method_66_code 6 = .ok (.lload_n 0, 1) := by decide +kernel
theorem d1_7 : decode jdk_29_method_66_code 7 = .ok (.goto 4, 3) := by decide +kernel
theorem d1_10 : decode jdk_29_method_66_code 10 = .ok (.lload_n 2, 1) := by decide +kernel
theorem d1_11 : decode jdk_29_method_66_code 11 = .ok (.lreturn, 1) := by decide +kernel
theorem d2_0 : decode prog_8_method_1_code 0 = .ok (.aload_n 0, 1) := by decide +kernel
theorem d2_1 : decode prog_8_method_1_code 1 = .ok (.invokespecial 1, 3) := by decide +kernel
theorem d2_4 : decode prog_8_method_1_code 4 = .ok (.lload_n 1, 1) := by decide +kernel
theorem d2_5 : decode prog_8_method_1_code 5 = .ok (.lconst 1, 1) := by decide +kernel
theorem d2_6 : decode prog_8_method_1_code 6 = .ok (.lcmp, 1) := by decide +kernel
theorem d2_7 : decode prog_8_method_1_code 7 = .ok (.ifCond .ge 17, 3) := by decide +kernel
theorem d2_24 : decode prog_8_method_1_code 24 = .ok (.aload_n 0, 1) := by decide +kernel
theorem d2_25 : decode prog_8_method_1_code 25 = .ok (.ldc2_w 18, 3) := by decide +kernel
theorem d2_28 : decode prog_8_method_1_code 28 = .ok (.lload_n 1, 1) := by decide +kernel
theorem d2_29 : decode prog_8_method_1_code 29 = .ok (.l2d, 1) := by decide +kernel
theorem d2_30 : decode prog_8_method_1_code 30 = .ok (.ddiv, 1) := by decide +kernel
theorem d2_31 : decode prog_8_method_1_code 31 = .ok (.putfield 20, 3) := by decide +kernel
theorem d2_34 : decode prog_8_method_1_code 34 = .ok (.aload_n 0, 1) := by decide +kernel
theorem d2_35 : decode prog_8_method_1_code 35 = .ok (.dload_n 3, 1) := by decide +kernel
theorem d2_36 : decode prog_8_method_1_code 36 = .ok (.lload_n 1, 1) := by decide +kernel
theorem d2_37 : decode prog_8_method_1_code 37 = .ok (.l2d, 1) := by decide +kernel
theorem d2_38 : decode prog_8_method_1_code 38 = .ok (.ddiv, 1) := by decide +kernel
theorem d2_39 : decode prog_8_method_1_code 39 = .ok (.putfield 24, 3) := by decide +kernel
theorem d2_42 : decode prog_8_method_1_code 42 = .ok (.return_, 1) := by decide +kernel
theorem d4_0 : decode prog_8_method_3_code 0 = .ok (.aload_n 0, 1) := by decide +kernel
theorem d4_1 : decode prog_8_method_3_code 1 = .ok (.getfield 20, 3) := by decide +kernel
theorem d4_4 : decode prog_8_method_3_code 4 = .ok (.ldc2_w 27, 3) := by decide +kernel
theorem d4_7 : decode prog_8_method_3_code 7 = .ok (.dload_n 1, 1) := by decide +kernel
theorem d4_8 : decode prog_8_method_3_code 8 = .ok (.aload_n 0, 1) := by decide +kernel
theorem d4_9 : decode prog_8_method_3_code 9 = .ok (.getfield 24, 3) := by decide +kernel
theorem d4_12 : decode prog_8_method_3_code 12 = .ok (.dadd, 1) := by decide +kernel
theorem d4_13 : decode prog_8_method_3_code 13 = .ok (.dmul, 1) := by decide +kernel
theorem d4_14 : decode prog_8_method_3_code 14 = .ok (.dadd, 1) := by decide +kernel
theorem d4_15 : decode prog_8_method_3_code 15 = .ok (.dreturn, 1) := by decide +kernel
theorem pd__JJ_J : parseMethodDescriptor "(JJ)J" = some ⟨[.long, .long], some .long⟩ := by decide +kernel
theorem pd__JD_V : parseMethodDescriptor "(JD)V" = some ⟨[.long, .double], none⟩ := by decide +kernel
theorem pd__D_D : parseMethodDescriptor "(D)D" = some ⟨[.double], some .double⟩ := by decide +kernel

theorem own_n (pg : Int64) : ¬ (lcmpW (if lcmpW 1 (pg &&& 9223372036854775807) < (0 : Int32) then (pg &&& 9223372036854775807) else 1) (1 : Int64) < (0 : Int32)) := by
  by_cases h : lcmpW 1 (pg &&& 9223372036854775807) < (0 : Int32)
  · rw [if_pos h]
    generalize pg &&& 9223372036854775807 = y at h ⊢
    intro q
    simp only [lcmpW] at h q
    by_cases h1 : (1 : Int64) > y
    · rw [if_pos h1] at h; exact absurd h (by decide)
    · rw [if_neg h1] at h
      by_cases h2 : (1 : Int64) = y
      · rw [if_pos h2] at h; exact absurd h (by decide)
      · by_cases h3 : y > 1
        · rw [if_pos h3] at q; exact absurd q (by decide)
        · have a1 := Int64.not_lt.mp h1
          have a2 := Int64.not_lt.mp h3
          exact h2 (Int64.le_antisymm a1 a2)
  · rw [if_neg h]; decide
theorem own_ne {n : Int64} (h : ¬ (lcmpW n (1 : Int64) < (0 : Int32))) : n ≠ 0 := fun e => by subst e; exact h (by decide)
theorem own_big {n : Int64} (h : ¬ (lcmpW n (1 : Int64) < (0 : Int32))) : Big64 1023 (FP.l2d n) := RoadKit.l2d_big (own_ne h)
theorem own_T : Mag64 1023 (4594572339843380019 : UInt64) := by unfold Mag64; decide
theorem own_D : Mag64 1023 (4605831338911806259 : UInt64) := by unfold Mag64; decide
theorem own_ts {n : Int64} (h : ¬ (lcmpW n (1 : Int64) < (0 : Int32))) : Mag64 1024 (FP.ddiv (4594572339843380019 : UInt64) (FP.l2d n)) := (RoadKit.ddiv_mag own_T (own_big h) (by decide) (by decide)).mono (by decide)
theorem own_ds {n : Int64} (h : ¬ (lcmpW n (1 : Int64) < (0 : Int32))) {d : UInt64} (hd : Mag64 1056 d) : Mag64 1057 (FP.ddiv d (FP.l2d n)) := (RoadKit.ddiv_mag hd (own_big h) (by decide) (by decide)).mono (by decide)
theorem own_rank {ts ds i : UInt64} (h1 : Mag64 1024 ts) (h2 : Mag64 1057 ds) (h3 : Mag64 1059 i) : NoNaN64 (FP.dadd i ds) ∧ NoNaN64 (FP.dmul (4605831338911806259 : UInt64) (FP.dadd i ds)) ∧ NoNaN64 (FP.dadd ts (FP.dmul (4605831338911806259 : UInt64) (FP.dadd i ds))) := by
  have a1 := Fl.dadd_mag h3 (h2.mono (by decide : 1057 ≤ 1059)) (by decide)
  have a2 := Fl.dmul_mag own_D a1 (by decide) (by decide)
  have a3 := Fl.dadd_mag (h1.mono (by decide : 1024 ≤ 1062)) (a2.mono (by decide)) (by decide)
  exact ⟨(a1.fin (by decide)).noNaN, (a2.fin (by decide)).noNaN, (a3.fin (by decide)).noNaN⟩
theorem own_mul {ts i : UInt64} (h1 : Mag64 1024 ts) (h3 : Mag64 1059 i) : True ∧ NoNaN64 (FP.dmul (4605831338911806259 : UInt64) i) ∧ NoNaN64 (FP.dadd ts (FP.dmul (4605831338911806259 : UInt64) i)) := by
  have a2 := Fl.dmul_mag own_D h3 (by decide) (by decide)
  have a3 := Fl.dadd_mag (h1.mono (by decide : 1024 ≤ 1062)) (a2.mono (by decide)) (by decide)
  exact ⟨trivial, (a2.fin (by decide)).noNaN, (a3.fin (by decide)).noNaN⟩
theorem own_z {n : Int64} (h : ¬ (lcmpW n (1 : Int64) < (0 : Int32))) : FP.ddiv (0 : UInt64) (FP.l2d n) = 0 := by
  have hb := own_big h
  have hf : FP.Core.DFin (FP.l2d n) := FP.Core.l2d_fin n
  obtain ⟨c, q, e⟩ := FP.Core.l2d_shape n
  have hz : ¬ FP.Core.DZero (FP.l2d n) := by
    rw [FP.Core.zero_bits2]; unfold Big64 at hb; omega
  have hc : c ≠ 0 := fun e0 => hz ⟨_, _, by rw [e, e0]⟩
  have hs : n.toInt < 0 → False := fun q => by
    have : lcmpW n 1 < (0 : Int32) := by
      have h1 : ¬ n > 1 := by rw [gt_iff_lt, Int64.lt_iff_toInt_lt]; have : (1 : Int64).toInt = 1 := rfl; omega
      have h2 : ¬ n = 1 := fun e => by rw [e] at q; exact absurd q (by decide)
      simp only [lcmpW, if_neg h1, if_neg h2]; decide
    exact h this
  have e1 : FP.Core.val64 (FP.ddiv (0 : UInt64) (FP.l2d n)) = FP.Core.val64 0 := by
    show FP.Core.val64 (FP.Core.ddiv _ _) = _
    rw [FP.Core.val64_ddiv, FP.Core.val64_zero]
    show FP.Core.quotient _ _ (FP.Core.val64 (FP.Core.l2d n)) = _
    rw [show FP.Core.val64 (FP.Core.l2d n) = _ from e]
    simp [FP.Core.quotient, hc, FP.Core.roundRatio, hs]
    exact Int.not_lt.mp hs
  exact (FP.Core.val64_inj (by rw [FP.Core.val64_zero]; simp) e1.symm).symm
theorem own_nz (x : UInt64) (h : NoNaN64 x) (hz : x ≠ 9223372036854775808) : FP.dadd x 0 = x :=
  FP.Core.dadd_zero ((FP.Core.notNaN_iff x).mp (noNaN64_no.mp h)) hz
theorem own_eq {t s : UInt64} (ht : FP.Core.DFin t) (hs : NoNaN64 s) (hr : NoNaN64 (FP.dadd t (FP.dmul (4605831338911806259 : UInt64) s))) : FP.dcmp (FP.dadd t (FP.dmul (4605831338911806259 : UInt64) s)) (FP.dadd t (FP.dmul (4605831338911806259 : UInt64) (FP.dadd s 0))) = some .eq := by
  by_cases h : s = 9223372036854775808
  · subst h
    have e1 : FP.dmul (4605831338911806259 : UInt64) 9223372036854775808 = 9223372036854775808 := by decide +kernel
    have e2 : FP.dadd 9223372036854775808 0 = 0 := by decide +kernel
    have e3 : FP.dmul (4605831338911806259 : UInt64) 0 = 0 := by decide +kernel
    rw [e2, e1, e3]
    have a1 := (FP.Core.dadd_zero_eq ht (z := 9223372036854775808) ⟨_, _, FP.Core.val64_dzeroNeg⟩).1
    have a2 := (FP.Core.dadd_zero_eq ht (z := 0) ⟨_, _, FP.Core.val64_zero⟩).1
    show FP.Core.dcmp (FP.Core.dadd _ _) (FP.Core.dadd _ _) = _
    rw [FP.Core.dcmp_eq] at a1 a2 ⊢
    exact ⟨a1.1, a2.1, a1.2.2.trans a2.2.2.symm⟩
  · rw [own_nz s hs h]; exact FP.Core.dcmp_refl (noNaN64_no.mp hr)
theorem own_sym {a b : UInt64} (h : FP.dcmp a b = some .eq) : FP.dcmp b a = some .eq := by
  have h' : FP.Core.dcmp a b = some .eq := h
  show FP.Core.dcmp b a = some .eq
  rw [FP.Core.dcmp_eq] at h' ⊢
  exact ⟨h'.2.1, h'.1, h'.2.2.symm⟩
theorem ef_max (m : MethodId) (x0 : Int64) (x1 : Int64) : entryFrame m #[(.long x0), (.long x1)] 4 = mkF m 0 #[.val (.long x0), .second, .val (.long x1), .second] [] := by first | (simp [entryFrame, mkF, argsToLocals, Value.category]; done) | rfl
def Q_max (Z : State) (q1 : Int64) (q2 : Int64) (h0 : Heap) (n0 : Nat) (v : Option Value) (h : Heap) (L : List Loc) : Prop := v = some (.long (if lcmpW q1 q2 < (0 : Int32) then q2 else q1)) ∧ Fr n0 L ∧ h = h0
set_option maxRecDepth 65536 in
set_option maxHeartbeats 40000000 in
theorem rm_max (l : Launch) (Z : State) (a0 : Array Value) (hw : ∀ d ∈ tables_1, d.before a0 Z = true) (ws : List Jvm.Cond) (q1 : Int64) (q2 : Int64) (h0 : Heap) (n0 : Nat) (Z0 : n0 ≤ h0.size)  :
    MetFree l (⟨"java/lang/Math", "max", "(JJ)J"⟩ : MethodName) (head1 (Jvm.Cond.code (⟨"java/lang/Math", "max", "(JJ)J"⟩ : MethodName) jdk_29_method_66_code 4 (some .long) :: ws) ({ frames := 0, cells := 0, slots := 0, locals := 0 } : Room)) (fun aa U => aa = #[(.long q1), (.long q2)] ∧ Z.Warmed39 U.vm ∧ U.heap = h0) (fun _ _ _ _ _ => True) (fun _ U o U' => ∃ v L, o = .returned v ∧ Q_max Z q1 q2 h0 n0 v U'.heap L ∧ FrameEnd U o U' L ({ frames := 0, cells := 0, slots := 0, locals := 0 } : Room).cells ({ frames := 0, cells := 0, slots := 0, locals := 0 } : Room).slots) := by
  refine MetFree.of_bodySF (Jvm.Free.JP.mathPlain rfl (by decide +kernel)) hisR ?_
  intro p e s m args below meth c s₁ Bd hml0 hP hK
  obtain ⟨rfl, hZ, hh⟩ := hP
  have hx := Bd.exec
  have hby := Bd.bytes
  have hml : c.maxLocals = 4 := hml0
  have hown : s.vm.findClass "java/lang/Math" = some m.cls := findClass_of_methodNamed Bd.named
  have hnm := (name_of_methodNamed Bd.named Bd.method).1
  have X0 : Stand p l e ({ frames := 0, cells := 0, slots := 0, locals := 0 } : Room) s m #[(.long q1), (.long q2)] below meth c s₁ [] 0 0 := Stand.of_body Bd
  have e0 : s₁.heap = h0 := by rw [← hh, Bd.state]; rfl
  have N0 := Fr.nil n0
  have S0 : Go p e below s₁ (entryFrame m #[(.long q1), (.long q2)] 4) s₁ (mkF m 0 #[.val (.long q1), .second, .val (.long q2), .second] []) := fun t k => castTop (ef_max m q1 q2) k
  have S1 : Go p e below s₁ (entryFrame m #[(.long q1), (.long q2)] 4) s₁ (mkF m 3 #[.val (.long q1), .second, .val (.long q2), .second] [(.int (lcmpW q1 q2))]) := fun t kt => S0 t (by
    refine XS.lloadN X0.here hx rfl (hb hby d1_0) rfl ?_
    show Steps p.tables e below (s₁.setTop (mkF m 1 #[.val (.long q1), .second, .val (.long q2), .second] [(.long q1)])) _
    refine XS.lloadN X0.here hx rfl (hb hby d1_1) rfl ?_
    show Steps p.tables e below (s₁.setTop (mkF m 2 #[.val (.long q1), .second, .val (.long q2), .second] [(.long q2), (.long q1)])) _
    refine XS.lcmp X0.here hx rfl (hb hby d1_2) rfl ?_
    show Steps p.tables e below (s₁.setTop (mkF m 3 #[.val (.long q1), .second, .val (.long q2), .second] [(.int (lcmpW q1 q2))])) _
    exact kt)
  by_cases hc : (lcmpW q1 q2) < (0 : Int32)
  · have S2 : Go p e below s₁ (entryFrame m #[(.long q1), (.long q2)] 4) s₁ (mkF m 11 #[.val (.long q1), .second, .val (.long q2), .second] [(.long q2)]) := fun t kt => S1 t (by
      refine XS.ifYes X0.here hx rfl (pc0 := 3) (pc' := 10) rfl (hb hby d1_3) rfl ((if0 _ _).trans (tlt (show (lcmpW q1 q2) < (0 : Int32) from hc)).1) (by decide) (by decide) ?_
      show Steps p.tables e below (s₁.setTop (mkF m 10 #[.val (.long q1), .second, .val (.long q2), .second] [])) _
      refine XS.lloadN X0.here hx rfl (hb hby d1_10) rfl ?_
      show Steps p.tables e below (s₁.setTop (mkF m 11 #[.val (.long q1), .second, .val (.long q2), .second] [(.long q2)])) _
      exact kt)
    obtain ⟨fs, hr, hrun, hended, hW, hsame⟩ := X0.leave (v := some (.long q2)) (fun h => by first | rfl | (rw [Bd.returns] at h; cases h))
    refine ⟨_, _, S2 _ ?_, hrun, hended, _, _, rfl, ?_, ⟨_, rfl⟩, hW, hsame.mono (by decide) (by decide)⟩
    · jvm_step X0.here [X0.here.top, hx, (hb hby d1_11), X0.method', Bd.returns, narrow]
      first | (intro acts; rw [hr _ acts rfl rfl rfl]) | rw [hr _ _ rfl rfl rfl]
      exact Steps.refl _
    · show Q_max Z q1 q2 h0 n0 _ s₁.heap _
      rw [e0]
      exact ⟨by rw [if_pos hc], N0, rfl⟩
  · have S3 : Go p e below s₁ (entryFrame m #[(.long q1), (.long q2)] 4) s₁ (mkF m 11 #[.val (.long q1), .second, .val (.long q2), .second] [(.long q1)]) := fun t kt => S1 t (by
      refine XS.ifNo X0.here hx rfl (hb hby d1_3) rfl ((if0 _ _).trans (flt (show ¬ ((lcmpW q1 q2) < (0 : Int32)) from hc)).1) ?_
      show Steps p.tables e below (s₁.setTop (mkF m 6 #[.val (.long q1), .second, .val (.long q2), .second] [])) _
      refine XS.lloadN X0.here hx rfl (hb hby d1_6) rfl ?_
      show Steps p.tables e below (s₁.setTop (mkF m 7 #[.val (.long q1), .second, .val (.long q2), .second] [(.long q1)])) _
      refine XS.goto X0.here hx rfl (pc0 := 7) (pc' := 11) rfl (hb hby d1_7) (by decide) (by decide) ?_
      show Steps p.tables e below (s₁.setTop (mkF m 11 #[.val (.long q1), .second, .val (.long q2), .second] [(.long q1)])) _
      exact kt)
    obtain ⟨fs, hr, hrun, hended, hW, hsame⟩ := X0.leave (v := some (.long q1)) (fun h => by first | rfl | (rw [Bd.returns] at h; cases h))
    refine ⟨_, _, S3 _ ?_, hrun, hended, _, _, rfl, ?_, ⟨_, rfl⟩, hW, hsame.mono (by decide) (by decide)⟩
    · jvm_step X0.here [X0.here.top, hx, (hb hby d1_11), X0.method', Bd.returns, narrow]
      first | (intro acts; rw [hr _ acts rfl rfl rfl]) | rw [hr _ _ rfl rfl rfl]
      exact Steps.refl _
    · show Q_max Z q1 q2 h0 n0 _ s₁.heap _
      rw [e0]
      exact ⟨by rw [if_neg hc], N0, rfl⟩
theorem ef_init (m : MethodId) (x0 : Addr) (x1 : Int64) (x2 : UInt64) : entryFrame m #[(.ref x0), (.long x1), (.double x2)] 5 = mkF m 0 #[.val (.ref x0), .val (.long x1), .second, .val (.double x2), .second] [] := by first | (simp [entryFrame, mkF, argsToLocals, Value.category]; done) | rfl
theorem pn_init : plainName "com/example/umbel/umbel/rank/RankEquation" = true := by first | (simp [plainName, overriddenIn]; done) | decide +kernel
def Q_init (Z : State) (a : Addr) (n : Int64) (d : UInt64) (h0 : Heap) (n0 : Nat) (v : Option Value) (h : Heap) (L : List Loc) : Prop := v = none ∧ Fr n0 L ∧ Keep h0 h [a] ∧ Exa Z h a "com/example/umbel/umbel/rank/RankEquation" ∧ Fld Z h a "com/example/umbel/umbel/rank/RankEquation" "teleportShare" "D" (.double (FP.ddiv (4594572339843380019 : UInt64) (FP.l2d n))) ∧ Fld Z h a "com/example/umbel/umbel/rank/RankEquation" "danglingShare" "D" (.double (FP.ddiv d (FP.l2d n)))
set_option maxRecDepth 65536 in
set_option maxHeartbeats 40000000 in
theorem rm_init (l : Launch) (Z : State) (a0 : Array Value) (hw : ∀ d ∈ tables_1, d.before a0 Z = true) (ws : List Jvm.Cond) (a : Addr) (n : Int64) (d : UInt64) (h0 : Heap) (n0 : Nat) (Z0 : n0 ≤ h0.size) (E0 : Exa Z h0 a "com/example/umbel/umbel/rank/RankEquation") (F1 : Fld Z h0 a "com/example/umbel/umbel/rank/RankEquation" "teleportShare" "D" (.double (0 : UInt64))) (F2 : Fld Z h0 a "com/example/umbel/umbel/rank/RankEquation" "danglingShare" "D" (.double (0 : UInt64))) (g_a : n0 ≤ a) (hn : ¬ (lcmpW n (1 : Int64) < (0 : Int32))) (hd1 : NoNaN64 (FP.ddiv (4594572339843380019 : UInt64) (FP.l2d n))) (hd2 : NoNaN64 (FP.ddiv d (FP.l2d n))) :
    MetFree l (⟨"com/example/umbel/umbel/rank/RankEquation", "<init>", "(JD)V"⟩ : MethodName) (head1 (Jvm.Cond.code (⟨"com/example/umbel/umbel/rank/RankEquation", "<init>", "(JD)V"⟩ : MethodName) prog_8_method_1_code 5 none :: ws) ({ frames := 1, cells := 0, slots := 0, locals := 12 } : Room)) (fun aa U => aa = #[(.ref a), (.long n), (.double d)] ∧ Z.Warmed39 U.vm ∧ U.heap = h0) (fun _ _ _ _ _ => True) (fun _ U o U' => ∃ v L, o = .returned v ∧ Q_init Z a n d h0 n0 v U'.heap L ∧ FrameEnd U o U' L ({ frames := 1, cells := 0, slots := 0, locals := 12 } : Room).cells ({ frames := 1, cells := 0, slots := 0, locals := 12 } : Room).slots) := by
  refine MetFree.of_bodySF (plainFor_of_name pn_init) hisR ?_
  intro p e s m args below meth c s₁ Bd hml0 hP hK
  obtain ⟨rfl, hZ, hh⟩ := hP
  have hx := Bd.exec
  have hby := Bd.bytes
  have hml : c.maxLocals = 5 := hml0
  have hown : s.vm.findClass "com/example/umbel/umbel/rank/RankEquation" = some m.cls := findClass_of_methodNamed Bd.named
  have hnm := (name_of_methodNamed Bd.named Bd.method).1
  have X0 : Stand p l e ({ frames := 1, cells := 0, slots := 0, locals := 12 } : Room) s m #[(.ref a), (.long n), (.double d)] below meth c s₁ [] 0 0 := Stand.of_body Bd
  have e0 : s₁.heap = h0 := by rw [← hh, Bd.state]; rfl
  have N0 := Fr.nil n0
  have S0 : Go p e below s₁ (entryFrame m #[(.ref a), (.long n), (.double d)] 5) s₁ (mkF m 0 #[.val (.ref a), .val (.long n), .second, .val (.double d), .second] []) := fun t k => castTop (ef_init m a n d) k
  have S4 : Go p e below s₁ (entryFrame m #[(.ref a), (.long n), (.double d)] 5) s₁ (mkF m 1 #[.val (.ref a), .val (.long n), .second, .val (.double d), .second] [(.ref a)]) := fun t kt => S0 t (by
    refine XS.aloadN X0.here hx rfl (hb hby d2_0) rfl rfl ?_
    show Steps p.tables e below (s₁.setTop (mkF m 1 #[.val (.ref a), .val (.long n), .second, .val (.double d), .second] [(.ref a)])) _
    exact kt)
  obtain ⟨T5, X5, e5, st5⟩ := initO X0 hx hZ hown (hw _ (List.mem_of_getElem? (i := 11) rfl)) (hw _ (List.mem_of_getElem? (i := 12) rfl)) (hw _ (List.mem_of_getElem? (i := 13) rfl)) e0 (g := (mkF m 1 #[.val (.ref a), .val (.long n), .second, .val (.double d), .second] [(.ref a)])) rfl (by rw [hml]; rfl) rfl (hb hby d2_1) (by decide) (W := 0) (by show 2 * 0 + _ ≤ _; exact Nat.le_of_eq rfl) (by decide)
  have S6 : Go p e below s₁ (entryFrame m #[(.ref a), (.long n), (.double d)] 5) T5 (mkF m 4 #[.val (.ref a), .val (.long n), .second, .val (.double d), .second] []) := fun t kt => S4 t (st5 t kt)
  have S7 : Go p e below s₁ (entryFrame m #[(.ref a), (.long n), (.double d)] 5) T5 (mkF m 7 #[.val (.ref a), .val (.long n), .second, .val (.double d), .second] [(.int (lcmpW n (1 : Int64)))]) := fun t kt => S6 t (by
    refine XS.lloadN X5.here hx rfl (hb hby d2_4) rfl ?_
    show Steps p.tables e below (T5.setTop (mkF m 5 #[.val (.ref a), .val (.long n), .second, .val (.double d), .second] [(.long n)])) _
    refine XS.lconst X5.here hx rfl (hb hby d2_5) ?_
    show Steps p.tables e below (T5.setTop (mkF m 6 #[.val (.ref a), .val (.long n), .second, .val (.double d), .second] [(.long (1 : Int64)), (.long n)])) _
    refine XS.lcmp X5.here hx rfl (hb hby d2_6) rfl ?_
    show Steps p.tables e below (T5.setTop (mkF m 7 #[.val (.ref a), .val (.long n), .second, .val (.double d), .second] [(.int (lcmpW n (1 : Int64)))])) _
    exact kt)
  have S8 : Go p e below s₁ (entryFrame m #[(.ref a), (.long n), (.double d)] 5) T5 (mkF m 31 #[.val (.ref a), .val (.long n), .second, .val (.double d), .second] [(.double (FP.ddiv (4594572339843380019 : UInt64) (FP.l2d n))), (.ref a)]) := fun t kt => S7 t (by
    refine XS.ifYes X5.here hx rfl (pc0 := 7) (pc' := 24) rfl (hb hby d2_7) rfl ((if0 _ _).trans (flt (show ¬ ((lcmpW n (1 : Int64)) < (0 : Int32)) from hn)).2.1) (by decide) (by decide) ?_
    show Steps p.tables e below (T5.setTop (mkF m 24 #[.val (.ref a), .val (.long n), .second, .val (.double d), .second] [])) _
    refine XS.aloadN X5.here hx rfl (hb hby d2_24) rfl rfl ?_
    show Steps p.tables e below (T5.setTop (mkF m 25 #[.val (.ref a), .val (.long n), .second, .val (.double d), .second] [(.ref a)])) _
    refine X5.ldc2DoubleC hx hown (mvT hZ (hw _ (List.mem_of_getElem? (i := 14) rfl))) (g := (mkF m 25 #[.val (.ref a), .val (.long n), .second, .val (.double d), .second] [(.ref a)])) rfl (hb hby d2_25) _ ?_
    show Steps p.tables e below (T5.setTop (mkF m 28 #[.val (.ref a), .val (.long n), .second, .val (.double d), .second] [(.double (4594572339843380019 : UInt64)), (.ref a)])) _
    refine XS.lloadN X5.here hx rfl (hb hby d2_28) rfl ?_
    show Steps p.tables e below (T5.setTop (mkF m 29 #[.val (.ref a), .val (.long n), .second, .val (.double d), .second] [(.long n), (.double (4594572339843380019 : UInt64)), (.ref a)])) _
    refine XS.l2dS X5.here hx rfl (hb hby d2_29) rfl rfl ?_
    show Steps p.tables e below (T5.setTop (mkF m 30 #[.val (.ref a), .val (.long n), .second, .val (.double d), .second] [(.double (FP.l2d n)), (.double (4594572339843380019 : UInt64)), (.ref a)])) _
    refine XS.ddivS X5.here hx rfl (hb hby d2_30) rfl hd1 rfl ?_
    show Steps p.tables e below (T5.setTop (mkF m 31 #[.val (.ref a), .val (.long n), .second, .val (.double d), .second] [(.double (FP.ddiv (4594572339843380019 : UInt64) (FP.l2d n))), (.ref a)])) _
    exact kt)
  obtain ⟨T9, h9, X9, e9, W9, st9⟩ := putF X5 hx hZ hown (host := "") (Or.inl (hw _ (List.mem_of_getElem? (i := 15) rfl))) Via.refl e5 F1 E0 (Or.inr ⟨(hw _ (List.mem_of_getElem? (i := 16) rfl)), rfl, hnm⟩) (hw _ (List.mem_of_getElem? (i := 6) rfl)) (ty := .double) (by decide) rfl rfl (g := (mkF m 31 #[.val (.ref a), .val (.long n), .second, .val (.double d), .second] [(.double (FP.ddiv (4594572339843380019 : UInt64) (FP.l2d n))), (.ref a)])) rfl rfl (hb hby d2_31)
  have N9 := Fr.snoc X9 N0 g_a
  have K9 : Keep h0 h9 [a] := (Keep.refl h0 [a]).wr W9 (Or.inl (by simp))
  have Fw9 := F1.same W9
  have S10 : Go p e below s₁ (entryFrame m #[(.ref a), (.long n), (.double d)] 5) T9 (mkF m 34 #[.val (.ref a), .val (.long n), .second, .val (.double d), .second] []) := fun t kt => S8 t (st9 t kt)
  have S11 : Go p e below s₁ (entryFrame m #[(.ref a), (.long n), (.double d)] 5) T9 (mkF m 39 #[.val (.ref a), .val (.long n), .second, .val (.double d), .second] [(.double (FP.ddiv d (FP.l2d n))), (.ref a)]) := fun t kt => S10 t (by
    refine XS.aloadN X9.here hx rfl (hb hby d2_34) rfl rfl ?_
    show Steps p.tables e below (T9.setTop (mkF m 35 #[.val (.ref a), .val (.long n), .second, .val (.double d), .second] [(.ref a)])) _
    refine XS.dloadN X9.here hx rfl (hb hby d2_35) rfl ?_
    show Steps p.tables e below (T9.setTop (mkF m 36 #[.val (.ref a), .val (.long n), .second, .val (.double d), .second] [(.double d), (.ref a)])) _
    refine XS.lloadN X9.here hx rfl (hb hby d2_36) rfl ?_
    show Steps p.tables e below (T9.setTop (mkF m 37 #[.val (.ref a), .val (.long n), .second, .val (.double d), .second] [(.long n), (.double d), (.ref a)])) _
    refine XS.l2dS X9.here hx rfl (hb hby d2_37) rfl rfl ?_
    show Steps p.tables e below (T9.setTop (mkF m 38 #[.val (.ref a), .val (.long n), .second, .val (.double d), .second] [(.double (FP.l2d n)), (.double d), (.ref a)])) _
    refine XS.ddivS X9.here hx rfl (hb hby d2_38) rfl hd2 rfl ?_
    show Steps p.tables e below (T9.setTop (mkF m 39 #[.val (.ref a), .val (.long n), .second, .val (.double d), .second] [(.double (FP.ddiv d (FP.l2d n))), (.ref a)])) _
    exact kt)
  have f12 := (F2.other W9 (Or.inr (slot_ne (C := "com/example/umbel/umbel/rank/RankEquation") (Or.inr (hw _ (List.mem_of_getElem? (i := 18) rfl))) (Or.inr (hw _ (List.mem_of_getElem? (i := 16) rfl))) (by decide) (t := .double) (t' := .double) (by decide) (by decide))))
  have f13 := (E0.wr W9)
  obtain ⟨T14, h14, X14, e14, W14, st14⟩ := putF X9 hx hZ hown (host := "") (Or.inl (hw _ (List.mem_of_getElem? (i := 17) rfl))) Via.refl e9 f12 f13 (Or.inr ⟨(hw _ (List.mem_of_getElem? (i := 18) rfl)), rfl, hnm⟩) (hw _ (List.mem_of_getElem? (i := 6) rfl)) (ty := .double) (by decide) rfl rfl (g := (mkF m 39 #[.val (.ref a), .val (.long n), .second, .val (.double d), .second] [(.double (FP.ddiv d (FP.l2d n))), (.ref a)])) rfl rfl (hb hby d2_39)
  have N14 := Fr.snoc X14 N9 g_a
  have K14 : Keep h0 h14 [a] := K9.wr W14 (Or.inl (by simp))
  have Fw14 := f12.same W14
  have S15 : Go p e below s₁ (entryFrame m #[(.ref a), (.long n), (.double d)] 5) T14 (mkF m 42 #[.val (.ref a), .val (.long n), .second, .val (.double d), .second] []) := fun t kt => S11 t (st14 t kt)
  have f16 := (f13.wr W14)
  have f17 := (Fw9.other W14 (Or.inr (slot_ne (C := "com/example/umbel/umbel/rank/RankEquation") (Or.inr (hw _ (List.mem_of_getElem? (i := 16) rfl))) (Or.inr (hw _ (List.mem_of_getElem? (i := 18) rfl))) (by decide) (t := .double) (t' := .double) (by decide) (by decide))))
  obtain ⟨fs, hr, hrun, hended, hW, hsame⟩ := X14.leave (v := none) (fun h => by first | rfl | (rw [Bd.returns] at h; cases h))
  refine ⟨_, _, S15 _ ?_, hrun, hended, _, _, rfl, ?_, ⟨_, rfl⟩, hW, hsame.mono (by decide) (by decide)⟩
  · exact X14.returnOut hx Bd.returns (hb hby d2_42) hr
  · show Q_init Z a n d h0 n0 _ T14.heap _
    rw [e14]
    exact ⟨rfl, N14, K14, f16, f17, Fw14⟩
theorem ef_rank (m : MethodId) (x0 : Addr) (x1 : UInt64) : entryFrame m #[(.ref x0), (.double x1)] 3 = mkF m 0 #[.val (.ref x0), .val (.double x1), .second] [] := by first | (simp [entryFrame, mkF, argsToLocals, Value.category]; done) | rfl
theorem pn_rank : plainName "com/example/umbel/umbel/rank/RankEquation" = true := by first | (simp [plainName, overriddenIn]; done) | decide +kernel
def Q_rank (Z : State) (a : Addr) (i : UInt64) (ts : UInt64) (ds : UInt64) (h0 : Heap) (n0 : Nat) (v : Option Value) (h : Heap) (L : List Loc) : Prop := v = some (.double (FP.dadd ts (FP.dmul (4605831338911806259 : UInt64) (FP.dadd i ds)))) ∧ Fr n0 L ∧ h = h0
set_option maxRecDepth 65536 in
set_option maxHeartbeats 40000000 in
theorem rm_rank (l : Launch) (Z : State) (a0 : Array Value) (hw : ∀ d ∈ tables_1, d.before a0 Z = true) (ws : List Jvm.Cond) (a : Addr) (i : UInt64) (ts : UInt64) (ds : UInt64) (h0 : Heap) (n0 : Nat) (Z0 : n0 ≤ h0.size) (F1 : Fld Z h0 a "com/example/umbel/umbel/rank/RankEquation" "teleportShare" "D" (.double ts)) (F2 : Fld Z h0 a "com/example/umbel/umbel/rank/RankEquation" "danglingShare" "D" (.double ds)) (hd1 : NoNaN64 (FP.dadd i ds)) (hd2 : NoNaN64 (FP.dmul (4605831338911806259 : UInt64) (FP.dadd i ds))) (hd3 : NoNaN64 (FP.dadd ts (FP.dmul (4605831338911806259 : UInt64) (FP.dadd i ds)))) :
    MetFree l (⟨"com/example/umbel/umbel/rank/RankEquation", "rank", "(D)D"⟩ : MethodName) (head1 (Jvm.Cond.code (⟨"com/example/umbel/umbel/rank/RankEquation", "rank", "(D)D"⟩ : MethodName) prog_8_method_3_code 3 (some .double) :: ws) ({ frames := 0, cells := 0, slots := 0, locals := 0 } : Room)) (fun aa U => aa = #[(.ref a), (.double i)] ∧ Z.Warmed39 U.vm ∧ U.heap = h0) (fun _ _ _ _ _ => True) (fun _ U o U' => ∃ v L, o = .returned v ∧ Q_rank Z a i ts ds h0 n0 v U'.heap L ∧ FrameEnd U o U' L ({ frames := 0, cells := 0, slots := 0, locals := 0 } : Room).cells ({ frames := 0, cells := 0, slots := 0, locals := 0 } : Room).slots) := by
  refine MetFree.of_bodySF (plainFor_of_name pn_rank) hisR ?_
  intro p e s m args below meth c s₁ Bd hml0 hP hK
  obtain ⟨rfl, hZ, hh⟩ := hP
  have hx := Bd.exec
  have hby := Bd.bytes
  have hml : c.maxLocals = 3 := hml0
  have hown : s.vm.findClass "com/example/umbel/umbel/rank/RankEquation" = some m.cls := findClass_of_methodNamed Bd.named
  have hnm := (name_of_methodNamed Bd.named Bd.method).1
  have X0 : Stand p l e ({ frames := 0, cells := 0, slots := 0, locals := 0 } : Room) s m #[(.ref a), (.double i)] below meth c s₁ [] 0 0 := Stand.of_body Bd
  have e0 : s₁.heap = h0 := by rw [← hh, Bd.state]; rfl
  have N0 := Fr.nil n0
  have S0 : Go p e below s₁ (entryFrame m #[(.ref a), (.double i)] 3) s₁ (mkF m 0 #[.val (.ref a), .val (.double i), .second] []) := fun t k => castTop (ef_rank m a i) k
  have S18 : Go p e below s₁ (entryFrame m #[(.ref a), (.double i)] 3) s₁ (mkF m 1 #[.val (.ref a), .val (.double i), .second] [(.ref a)]) := fun t kt => S0 t (by
    refine XS.aloadN X0.here hx rfl (hb hby d4_0) rfl rfl ?_
    show Steps p.tables e below (s₁.setTop (mkF m 1 #[.val (.ref a), .val (.double i), .second] [(.ref a)])) _
    exact kt)
  obtain ⟨T19, X19, e19, st19⟩ := getF X0 hx hZ hown (host := "") (Or.inl (hw _ (List.mem_of_getElem? (i := 15) rfl))) Via.refl e0 F1 (g := (mkF m 1 #[.val (.ref a), .val (.double i), .second] [(.ref a)])) rfl rfl (hb hby d4_1)
  have S20 : Go p e below s₁ (entryFrame m #[(.ref a), (.double i)] 3) T19 (mkF m 4 #[.val (.ref a), .val (.double i), .second] [(.double ts)]) := fun t kt => S18 t (st19 t kt)
  have S21 : Go p e below s₁ (entryFrame m #[(.ref a), (.double i)] 3) T19 (mkF m 9 #[.val (.ref a), .val (.double i), .second] [(.ref a), (.double i), (.double (4605831338911806259 : UInt64)), (.double ts)]) := fun t kt => S20 t (by
    refine X19.ldc2DoubleC hx hown (mvT hZ (hw _ (List.mem_of_getElem? (i := 24) rfl))) (g := (mkF m 4 #[.val (.ref a), .val (.double i), .second] [(.double ts)])) rfl (hb hby d4_4) _ ?_
    show Steps p.tables e below (T19.setTop (mkF m 7 #[.val (.ref a), .val (.double i), .second] [(.double (4605831338911806259 : UInt64)), (.double ts)])) _
    refine XS.dloadN X19.here hx rfl (hb hby d4_7) rfl ?_
    show Steps p.tables e below (T19.setTop (mkF m 8 #[.val (.ref a), .val (.double i), .second] [(.double i), (.double (4605831338911806259 : UInt64)), (.double ts)])) _
    refine XS.aloadN X19.here hx rfl (hb hby d4_8) rfl rfl ?_
    show Steps p.tables e below (T19.setTop (mkF m 9 #[.val (.ref a), .val (.double i), .second] [(.ref a), (.double i), (.double (4605831338911806259 : UInt64)), (.double ts)])) _
    exact kt)
  obtain ⟨T22, X22, e22, st22⟩ := getF X19 hx hZ hown (host := "") (Or.inl (hw _ (List.mem_of_getElem? (i := 17) rfl))) Via.refl e19 F2 (g := (mkF m 9 #[.val (.ref a), .val (.double i), .second] [(.ref a), (.double i), (.double (4605831338911806259 : UInt64)), (.double ts)])) rfl rfl (hb hby d4_9)
  have S23 : Go p e below s₁ (entryFrame m #[(.ref a), (.double i)] 3) T22 (mkF m 12 #[.val (.ref a), .val (.double i), .second] [(.double ds), (.double i), (.double (4605831338911806259 : UInt64)), (.double ts)]) := fun t kt => S21 t (st22 t kt)
  have S24 : Go p e below s₁ (entryFrame m #[(.ref a), (.double i)] 3) T22 (mkF m 15 #[.val (.ref a), .val (.double i), .second] [(.double (FP.dadd ts (FP.dmul (4605831338911806259 : UInt64) (FP.dadd i ds))))]) := fun t kt => S23 t (by
    refine XS.daddS X22.here hx rfl (hb hby d4_12) rfl hd1 rfl ?_
    show Steps p.tables e below (T22.setTop (mkF m 13 #[.val (.ref a), .val (.double i), .second] [(.double (FP.dadd i ds)), (.double (4605831338911806259 : UInt64)), (.double ts)])) _
    refine XS.dmulS X22.here hx rfl (hb hby d4_13) rfl hd2 rfl ?_
    show Steps p.tables e below (T22.setTop (mkF m 14 #[.val (.ref a), .val (.double i), .second] [(.double (FP.dmul (4605831338911806259 : UInt64) (FP.dadd i ds))), (.double ts)])) _
    refine XS.daddS X22.here hx rfl (hb hby d4_14) rfl hd3 rfl ?_
    show Steps p.tables e below (T22.setTop (mkF m 15 #[.val (.ref a), .val (.double i), .second] [(.double (FP.dadd ts (FP.dmul (4605831338911806259 : UInt64) (FP.dadd i ds))))])) _
    exact kt)
  obtain ⟨fs, hr, hrun, hended, hW, hsame⟩ := X22.leave (v := some (.double (FP.dadd ts (FP.dmul (4605831338911806259 : UInt64) (FP.dadd i ds))))) (fun h => by first | rfl | (rw [Bd.returns] at h; cases h))
  refine ⟨_, _, S24 _ ?_, hrun, hended, _, _, rfl, ?_, ⟨_, rfl⟩, hW, hsame.mono (by decide) (by decide)⟩
  · jvm_step X22.here [X22.here.top, hx, (hb hby d4_15), X22.method', Bd.returns, narrow]
    first | (intro acts; rw [hr _ acts rfl rfl rfl]) | rw [hr _ _ rfl rfl rfl]
    exact Steps.refl _
  · show Q_rank Z a i ts ds h0 n0 _ T22.heap _
    rw [e22]
    exact ⟨rfl, N0, rfl⟩
theorem ef_law (m : MethodId) (x0 : Int64) (x1 : Int32) (x2 : Int32) : entryFrame m #[(.long x0), (.int x1), (.int x2)] maxLocals = mkF m 0 #[.val (.long x0), .second, .val (.int x1), .val (.int x2), .unset, .unset, .unset, .unset, .unset, .unset, .unset, .unset, .unset, .unset, .unset, .unset] [] := by first | (simp [entryFrame, mkF, argsToLocals, Value.category, maxLocals]; done) | rfl
theorem pn_law : plainName "com/example/umbel/umbel/rank/RankEquationRankPinLaw" = true := by first | (simp [plainName, overriddenIn]; done) | decide +kernel
def Q_law (Z : State) (pg : Int64) (dr : Int32) (ir : Int32) (h0 : Heap) (n0 : Nat) (v : Option Value) (h : Heap) (L : List Loc) : Prop := v = some (.int 1) ∧ Fr n0 L
set_option maxRecDepth 65536 in
set_option maxHeartbeats 40000000 in
theorem rm_law (l : Launch) (Z : State) (a0 : Array Value) (hw : ∀ d ∈ tables_1, d.before a0 Z = true) (ws : List Jvm.Cond) (pg : Int64) (dr : Int32) (ir : Int32) (h0 : Heap) (n0 : Nat) (Z0 : n0 ≤ h0.size)  :
    MetFree l x (head1 (Jvm.Cond.code x code maxLocals ret :: ws) room_1) (fun aa U => aa = #[(.long pg), (.int dr), (.int ir)] ∧ Z.Warmed39 U.vm ∧ U.heap = h0) (fun _ _ _ _ _ => True) (fun _ U o U' => ∃ v L, o = .returned v ∧ Q_law Z pg dr ir h0 n0 v U'.heap L ∧ FrameEnd U o U' L 2 4) := by
  refine MetFree.of_bodySF (plainFor_of_name pn_law) hisR ?_
  intro p e s m args below meth c s₁ Bd hml0 hP hK
  obtain ⟨rfl, hZ, hh⟩ := hP
  have hx := Bd.exec
  have hby := Bd.bytes
  have hml : c.maxLocals = 16 := hml0
  have hown : s.vm.findClass "com/example/umbel/umbel/rank/RankEquationRankPinLaw" = some m.cls := findClass_of_methodNamed Bd.named
  have hnm := (name_of_methodNamed Bd.named Bd.method).1
  have X0 : Stand p l e room_1 s m #[(.long pg), (.int dr), (.int ir)] below meth c s₁ [] 0 0 := Stand.of_body Bd
  have e0 : s₁.heap = h0 := by rw [← hh, Bd.state]; rfl
  have N0 := Fr.nil n0
  have S0 : Go p e below s₁ (entryFrame m #[(.long pg), (.int dr), (.int ir)] maxLocals) s₁ (mkF m 0 #[.val (.long pg), .second, .val (.int dr), .val (.int ir), .unset, .unset, .unset, .unset, .unset, .unset, .unset, .unset, .unset, .unset, .unset, .unset] []) := fun t k => castTop (ef_law m pg dr ir) k
  have S25 : Go p e below s₁ (entryFrame m #[(.long pg), (.int dr), (.int ir)] maxLocals) s₁ (mkF m 6 #[.val (.long pg), .second, .val (.int dr), .val (.int ir), .unset, .unset, .unset, .unset, .unset, .unset, .unset, .unset, .unset, .unset, .unset, .unset] [(.long (pg &&& (9223372036854775807 : Int64))), (.long (1 : Int64))]) := fun t kt => S0 t (by
    refine XS.lconst X0.here hx rfl (hb hby at_0) ?_
    show Steps p.tables e below (s₁.setTop (mkF m 1 #[.val (.long pg), .second, .val (.int dr), .val (.int ir), .unset, .unset, .unset, .unset, .unset, .unset, .unset, .unset, .unset, .unset, .unset, .unset] [(.long (1 : Int64))])) _
    refine XS.lloadN X0.here hx rfl (hb hby at_1) rfl ?_
    show Steps p.tables e below (s₁.setTop (mkF m 2 #[.val (.long pg), .second, .val (.int dr), .val (.int ir), .unset, .unset, .unset, .unset, .unset, .unset, .unset, .unset, .unset, .unset, .unset, .unset] [(.long pg), (.long (1 : Int64))])) _
    refine X0.ldc2Long hx hown (mvT hZ (hw _ (List.mem_of_getElem? (i := 0) rfl))) (g := (mkF m 2 #[.val (.long pg), .second, .val (.int dr), .val (.int ir), .unset, .unset, .unset, .unset, .unset, .unset, .unset, .unset, .unset, .unset, .unset, .unset] [(.long pg), (.long (1 : Int64))])) rfl (hb hby at_2) _ ?_
    show Steps p.tables e below (s₁.setTop (mkF m 5 #[.val (.long pg), .second, .val (.int dr), .val (.int ir), .unset, .unset, .unset, .unset, .unset, .unset, .unset, .unset, .unset, .unset, .unset, .unset] [(.long (9223372036854775807 : Int64)), (.long pg), (.long (1 : Int64))])) _
    refine XS.land X0.here hx rfl (hb hby at_5) rfl ?_
    show Steps p.tables e below (s₁.setTop (mkF m 6 #[.val (.long pg), .second, .val (.int dr), .val (.int ir), .unset, .unset, .unset, .unset, .unset, .unset, .unset, .unset, .unset, .unset, .unset, .unset] [(.long (pg &&& (9223372036854775807 : Int64))), (.long (1 : Int64))])) _
    exact kt)
  obtain ⟨_, _, ⟨T26, L26, k26, n26⟩, -, X26, ⟨Lc26, hQ26, l26, y26, z26⟩, st26⟩ := Jvm.LawKit.callS X0 hx (y := (⟨"java/lang/Math", "max", "(JJ)J"⟩ : MethodName)) hown (mvT hZ (hw _ (List.mem_of_getElem? (i := 1) rfl))) (mvT hZ (hw _ (List.mem_of_getElem? (i := 2) rfl))) (mvT hZ (hw _ (List.mem_of_getElem? (i := 3) rfl))) (mvT hZ (hw _ (List.mem_of_getElem? (i := 4) rfl))) (by decide) (backOf (W := 0) (rm_max l Z a0 hw [] (1 : Int64) (pg &&& (9223372036854775807 : Int64)) h0 n0 Z0) hZ (hw _ (List.mem_of_getElem? (i := 4) rfl)) (hw _ (List.mem_of_getElem? (i := 3) rfl)) (by decide) (by decide)) (g := (mkF m 6 #[.val (.long pg), .second, .val (.int dr), .val (.int ir), .unset, .unset, .unset, .unset, .unset, .unset, .unset, .unset, .unset, .unset, .unset, .unset] [(.long (pg &&& (9223372036854775807 : Int64))), (.long (1 : Int64))])) rfl (by rw [hml]; rfl) (argsL := [(.long (1 : Int64)), (.long (pg &&& (9223372036854775807 : Int64)))]) (rest := []) (lenOf pd__JJ_J rfl) rfl (by show 2 * 0 + _ ≤ _; exact Nat.le_of_eq rfl) (hb hby at_6) (fun _ _ => ⟨rfl, e0, (by decide : 0 + 0 ≤ _), (by decide : 0 + 0 ≤ _)⟩)
  dsimp only [Pt.U, Pt.locs, Pt.cells, Pt.slots] at X26 l26 y26 z26 st26 hQ26
  subst l26 y26 z26
  obtain ⟨rfl, N26q, e26⟩ := hQ26
  have N26 := Fr.app N0 N26q
  have S27 : Go p e below s₁ (entryFrame m #[(.long pg), (.int dr), (.int ir)] maxLocals) T26 (mkF m 9 #[.val (.long pg), .second, .val (.int dr), .val (.int ir), .unset, .unset, .unset, .unset, .unset, .unset, .unset, .unset, .unset, .unset, .unset, .unset] [(.long (if lcmpW (1 : Int64) (pg &&& (9223372036854775807 : Int64)) < (0 : Int32) then (pg &&& (9223372036854775807 : Int64)) else (1 : Int64)))]) := fun t kt => S25 t (st26 t kt)
  obtain ⟨n, q_n⟩ : ∃ z : Int64, z = (if lcmpW (1 : Int64) (pg &&& (9223372036854775807 : Int64)) < (0 : Int32) then (pg &&& (9223372036854775807 : Int64)) else (1 : Int64)) := ⟨_, rfl⟩
  have S28 : Go p e below s₁ (entryFrame m #[(.long pg), (.int dr), (.int ir)] maxLocals) T26 (mkF m 9 #[.val (.long pg), .second, .val (.int dr), .val (.int ir), .unset, .unset, .unset, .unset, .unset, .unset, .unset, .unset, .unset, .unset, .unset, .unset] [(.long n)]) := by subst q_n; exact S27
  have hn : ¬ (lcmpW n (1 : Int64) < (0 : Int32)) := by rw [q_n]; exact own_n pg
  have S29 : Go p e below s₁ (entryFrame m #[(.long pg), (.int dr), (.int ir)] maxLocals) T26 (mkF m 19 #[.val (.long pg), .second, .val (.int dr), .val (.int ir), .val (.long n), .second, .val (.double (FP.i2d dr)), .second, .val (.double (FP.i2d ir)), .second, .unset, .unset, .unset, .unset, .unset, .unset] []) := fun t kt => S28 t (by
    refine XS.lstore X26.here hx rfl (hb hby at_9) rfl (l' := #[.val (.long pg), .second, .val (.int dr), .val (.int ir), .val (.long n), .second, .unset, .unset, .unset, .unset, .unset, .unset, .unset, .unset, .unset, .unset]) rfl ?_
    show Steps p.tables e below (T26.setTop (mkF m 11 #[.val (.long pg), .second, .val (.int dr), .val (.int ir), .val (.long n), .second, .unset, .unset, .unset, .unset, .unset, .unset, .unset, .unset, .unset, .unset] [])) _
    refine XS.iloadN X26.here hx rfl (hb hby at_11) rfl ?_
    show Steps p.tables e below (T26.setTop (mkF m 12 #[.val (.long pg), .second, .val (.int dr), .val (.int ir), .val (.long n), .second, .unset, .unset, .unset, .unset, .unset, .unset, .unset, .unset, .unset, .unset] [(.int dr)])) _
    refine XS.i2dS X26.here hx rfl (hb hby at_12) rfl rfl ?_
    show Steps p.tables e below (T26.setTop (mkF m 13 #[.val (.long pg), .second, .val (.int dr), .val (.int ir), .val (.long n), .second, .unset, .unset, .unset, .unset, .unset, .unset, .unset, .unset, .unset, .unset] [(.double (FP.i2d dr))])) _
    refine XS.dstore X26.here hx rfl (hb hby at_13) rfl (l' := #[.val (.long pg), .second, .val (.int dr), .val (.int ir), .val (.long n), .second, .val (.double (FP.i2d dr)), .second, .unset, .unset, .unset, .unset, .unset, .unset, .unset, .unset]) rfl ?_
    show Steps p.tables e below (T26.setTop (mkF m 15 #[.val (.long pg), .second, .val (.int dr), .val (.int ir), .val (.long n), .second, .val (.double (FP.i2d dr)), .second, .unset, .unset, .unset, .unset, .unset, .unset, .unset, .unset] [])) _
    refine XS.iloadN X26.here hx rfl (hb hby at_15) rfl ?_
    show Steps p.tables e below (T26.setTop (mkF m 16 #[.val (.long pg), .second, .val (.int dr), .val (.int ir), .val (.long n), .second, .val (.double (FP.i2d dr)), .second, .unset, .unset, .unset, .unset, .unset, .unset, .unset, .unset] [(.int ir)])) _
    refine XS.i2dS X26.here hx rfl (hb hby at_16) rfl rfl ?_
    show Steps p.tables e below (T26.setTop (mkF m 17 #[.val (.long pg), .second, .val (.int dr), .val (.int ir), .val (.long n), .second, .val (.double (FP.i2d dr)), .second, .unset, .unset, .unset, .unset, .unset, .unset, .unset, .unset] [(.double (FP.i2d ir))])) _
    refine XS.dstore X26.here hx rfl (hb hby at_17) rfl (l' := #[.val (.long pg), .second, .val (.int dr), .val (.int ir), .val (.long n), .second, .val (.double (FP.i2d dr)), .second, .val (.double (FP.i2d ir)), .second, .unset, .unset, .unset, .unset, .unset, .unset]) rfl ?_
    show Steps p.tables e below (T26.setTop (mkF m 19 #[.val (.long pg), .second, .val (.int dr), .val (.int ir), .val (.long n), .second, .val (.double (FP.i2d dr)), .second, .val (.double (FP.i2d ir)), .second, .unset, .unset, .unset, .unset, .unset, .unset] [])) _
    exact kt)
  obtain ⟨T30, h30, X30, e30, E30, A30, D30, -, st30⟩ := newO X26 hx hZ hown (hw _ (List.mem_of_getElem? (i := 5) rfl)) (hw _ (List.mem_of_getElem? (i := 6) rfl)) (hw _ (List.mem_of_getElem? (i := 7) rfl)) e26 (g := (mkF m 19 #[.val (.long pg), .second, .val (.int dr), .val (.int ir), .val (.long n), .second, .val (.double (FP.i2d dr)), .second, .val (.double (FP.i2d ir)), .second, .unset, .unset, .unset, .unset, .unset, .unset] [])) rfl (hb hby at_19) (by decide) (by decide)
  obtain ⟨o1, g30⟩ : ∃ z, z = h0.size := ⟨_, rfl⟩
  rw [← g30] at A30 D30 st30
  have g_o1 : n0 ≤ o1 := Nat.le_trans Z0 (Nat.le_of_eq g30.symm)
  have F_teleportShare_o1 : Fld Z h30 o1 "com/example/umbel/umbel/rank/RankEquation" "teleportShare" "D" (.double (0 : UInt64)) := D30 (Or.inr (hw _ (List.mem_of_getElem? (i := 16) rfl))) (ty := .double) (by decide)
  have F_danglingShare_o1 : Fld Z h30 o1 "com/example/umbel/umbel/rank/RankEquation" "danglingShare" "D" (.double (0 : UInt64)) := D30 (Or.inr (hw _ (List.mem_of_getElem? (i := 18) rfl))) (ty := .double) (by decide)
  have S31 : Go p e below s₁ (entryFrame m #[(.long pg), (.int dr), (.int ir)] maxLocals) T30 (mkF m 22 #[.val (.long pg), .second, .val (.int dr), .val (.int ir), .val (.long n), .second, .val (.double (FP.i2d dr)), .second, .val (.double (FP.i2d ir)), .second, .unset, .unset, .unset, .unset, .unset, .unset] [(.ref o1)]) := fun t kt => S29 t (st30 t kt)
  have S32 : Go p e below s₁ (entryFrame m #[(.long pg), (.int dr), (.int ir)] maxLocals) T30 (mkF m 27 #[.val (.long pg), .second, .val (.int dr), .val (.int ir), .val (.long n), .second, .val (.double (FP.i2d dr)), .second, .val (.double (FP.i2d ir)), .second, .unset, .unset, .unset, .unset, .unset, .unset] [(.double (FP.i2d dr)), (.long n), (.ref o1), (.ref o1)]) := fun t kt => S31 t (by
    refine XS.dup X30.here hx rfl (hb hby at_22) rfl rfl ?_
    show Steps p.tables e below (T30.setTop (mkF m 23 #[.val (.long pg), .second, .val (.int dr), .val (.int ir), .val (.long n), .second, .val (.double (FP.i2d dr)), .second, .val (.double (FP.i2d ir)), .second, .unset, .unset, .unset, .unset, .unset, .unset] [(.ref o1), (.ref o1)])) _
    refine XS.lload X30.here hx rfl (hb hby at_23) rfl ?_
    show Steps p.tables e below (T30.setTop (mkF m 25 #[.val (.long pg), .second, .val (.int dr), .val (.int ir), .val (.long n), .second, .val (.double (FP.i2d dr)), .second, .val (.double (FP.i2d ir)), .second, .unset, .unset, .unset, .unset, .unset, .unset] [(.long n), (.ref o1), (.ref o1)])) _
    refine XS.dload X30.here hx rfl (hb hby at_25) rfl ?_
    show Steps p.tables e below (T30.setTop (mkF m 27 #[.val (.long pg), .second, .val (.int dr), .val (.int ir), .val (.long n), .second, .val (.double (FP.i2d dr)), .second, .val (.double (FP.i2d ir)), .second, .unset, .unset, .unset, .unset, .unset, .unset] [(.double (FP.i2d dr)), (.long n), (.ref o1), (.ref o1)])) _
    exact kt)
  obtain ⟨_, _, ⟨T33, L33, k33, n33⟩, -, X33, ⟨Lc33, hQ33, l33, y33, z33⟩, st33⟩ := X30.specialBack hx (y := (⟨"com/example/umbel/umbel/rank/RankEquation", "<init>", "(JD)V"⟩ : MethodName)) rfl hown (mvT hZ (hw _ (List.mem_of_getElem? (i := 8) rfl))) (mvT hZ (hw _ (List.mem_of_getElem? (i := 9) rfl))) (mvT hZ (hw _ (List.mem_of_getElem? (i := 10) rfl))) (by decide) (backOf (W := 1) (rm_init l Z a0 hw [] o1 n (FP.i2d dr) h30 n0 (Nat.le_trans Z0 E30.1) A30 F_teleportShare_o1 F_danglingShare_o1 g_o1 hn ((own_ts hn).fin (by decide)).noNaN ((own_ds hn (Fl.i2d_mag dr)).fin (by decide)).noNaN) hZ (hw _ (List.mem_of_getElem? (i := 10) rfl)) (hw _ (List.mem_of_getElem? (i := 7) rfl)) (by decide) (by decide)) (g := (mkF m 27 #[.val (.long pg), .second, .val (.int dr), .val (.int ir), .val (.long n), .second, .val (.double (FP.i2d dr)), .second, .val (.double (FP.i2d ir)), .second, .unset, .unset, .unset, .unset, .unset, .unset] [(.double (FP.i2d dr)), (.long n), (.ref o1), (.ref o1)])) rfl (by rw [hml]; rfl) (Steps.refl _) (a := o1) (argsL := [(.long n), (.double (FP.i2d dr))]) (rest := [(.ref o1)]) (lenOf pd__JD_V rfl) rfl (by show 2 * 0 + _ ≤ _; exact Nat.le_of_eq rfl) (hb hby at_27) (fun _ _ => ⟨rfl, e30, (by decide : 1 + 0 ≤ _), (by decide : 2 + 0 ≤ _)⟩)
  dsimp only [Pt.U, Pt.locs, Pt.cells, Pt.slots] at X33 l33 y33 z33 st33 hQ33
  subst l33 y33 z33
  obtain ⟨rfl, N33q, K33, Ex33, Ft33, Fd33⟩ := hQ33
  have N33 := Fr.app N26 N33q
  have S34 : Go p e below s₁ (entryFrame m #[(.long pg), (.int dr), (.int ir)] maxLocals) T33 (mkF m 30 #[.val (.long pg), .second, .val (.int dr), .val (.int ir), .val (.long n), .second, .val (.double (FP.i2d dr)), .second, .val (.double (FP.i2d ir)), .second, .unset, .unset, .unset, .unset, .unset, .unset] [(.ref o1)]) := fun t kt => S32 t (st33.trans kt)
  have S35 : Go p e below s₁ (entryFrame m #[(.long pg), (.int dr), (.int ir)] maxLocals) T33 (mkF m 32 #[.val (.long pg), .second, .val (.int dr), .val (.int ir), .val (.long n), .second, .val (.double (FP.i2d dr)), .second, .val (.double (FP.i2d ir)), .second, .val (.ref o1), .unset, .unset, .unset, .unset, .unset] []) := fun t kt => S34 t (by
    refine XS.astore X33.here hx rfl (hb hby at_30) rfl rfl (l' := #[.val (.long pg), .second, .val (.int dr), .val (.int ir), .val (.long n), .second, .val (.double (FP.i2d dr)), .second, .val (.double (FP.i2d ir)), .second, .val (.ref o1), .unset, .unset, .unset, .unset, .unset]) rfl ?_
    show Steps p.tables e below (T33.setTop (mkF m 32 #[.val (.long pg), .second, .val (.int dr), .val (.int ir), .val (.long n), .second, .val (.double (FP.i2d dr)), .second, .val (.double (FP.i2d ir)), .second, .val (.ref o1), .unset, .unset, .unset, .unset, .unset] [])) _
    exact kt)
  obtain ⟨T36, h36, X36, e36, E36, A36, D36, -, st36⟩ := newO X33 hx hZ hown (hw _ (List.mem_of_getElem? (i := 5) rfl)) (hw _ (List.mem_of_getElem? (i := 6) rfl)) (hw _ (List.mem_of_getElem? (i := 7) rfl)) rfl (g := (mkF m 32 #[.val (.long pg), .second, .val (.int dr), .val (.int ir), .val (.long n), .second, .val (.double (FP.i2d dr)), .second, .val (.double (FP.i2d ir)), .second, .val (.ref o1), .unset, .unset, .unset, .unset, .unset] [])) rfl (hb hby at_32) (by decide) (by decide)
  obtain ⟨o2, g36⟩ : ∃ z, z = T33.heap.size := ⟨_, rfl⟩
  rw [← g36] at A36 D36 st36
  have g_o2 : n0 ≤ o2 := Nat.le_trans (Nat.le_trans (Nat.le_trans Z0 E30.1) K33.1) (Nat.le_of_eq g36.symm)
  have F_teleportShare_o2 : Fld Z h36 o2 "com/example/umbel/umbel/rank/RankEquation" "teleportShare" "D" (.double (0 : UInt64)) := D36 (Or.inr (hw _ (List.mem_of_getElem? (i := 16) rfl))) (ty := .double) (by decide)
  have F_danglingShare_o2 : Fld Z h36 o2 "com/example/umbel/umbel/rank/RankEquation" "danglingShare" "D" (.double (0 : UInt64)) := D36 (Or.inr (hw _ (List.mem_of_getElem? (i := 18) rfl))) (ty := .double) (by decide)
  have S37 : Go p e below s₁ (entryFrame m #[(.long pg), (.int dr), (.int ir)] maxLocals) T36 (mkF m 35 #[.val (.long pg), .second, .val (.int dr), .val (.int ir), .val (.long n), .second, .val (.double (FP.i2d dr)), .second, .val (.double (FP.i2d ir)), .second, .val (.ref o1), .unset, .unset, .unset, .unset, .unset] [(.ref o2)]) := fun t kt => S35 t (st36 t kt)
  have S38 : Go p e below s₁ (entryFrame m #[(.long pg), (.int dr), (.int ir)] maxLocals) T36 (mkF m 39 #[.val (.long pg), .second, .val (.int dr), .val (.int ir), .val (.long n), .second, .val (.double (FP.i2d dr)), .second, .val (.double (FP.i2d ir)), .second, .val (.ref o1), .unset, .unset, .unset, .unset, .unset] [(.double (0 : UInt64)), (.long n), (.ref o2), (.ref o2)]) := fun t kt => S37 t (by
    refine XS.dup X36.here hx rfl (hb hby at_35) rfl rfl ?_
    show Steps p.tables e below (T36.setTop (mkF m 36 #[.val (.long pg), .second, .val (.int dr), .val (.int ir), .val (.long n), .second, .val (.double (FP.i2d dr)), .second, .val (.double (FP.i2d ir)), .second, .val (.ref o1), .unset, .unset, .unset, .unset, .unset] [(.ref o2), (.ref o2)])) _
    refine XS.lload X36.here hx rfl (hb hby at_36) rfl ?_
    show Steps p.tables e below (T36.setTop (mkF m 38 #[.val (.long pg), .second, .val (.int dr), .val (.int ir), .val (.long n), .second, .val (.double (FP.i2d dr)), .second, .val (.double (FP.i2d ir)), .second, .val (.ref o1), .unset, .unset, .unset, .unset, .unset] [(.long n), (.ref o2), (.ref o2)])) _
    refine XS.dconst0 X36.here hx rfl (hb hby at_38) rfl ?_
    show Steps p.tables e below (T36.setTop (mkF m 39 #[.val (.long pg), .second, .val (.int dr), .val (.int ir), .val (.long n), .second, .val (.double (FP.i2d dr)), .second, .val (.double (FP.i2d ir)), .second, .val (.ref o1), .unset, .unset, .unset, .unset, .unset] [(.double (0 : UInt64)), (.long n), (.ref o2), (.ref o2)])) _
    exact kt)
  have hz0 : Mag64 1056 (0 : UInt64) := by unfold Mag64; decide
  obtain ⟨_, _, ⟨T39, L39, k39, n39⟩, -, X39, ⟨Lc39, hQ39, l39, y39, z39⟩, st39⟩ := X36.specialBack hx (y := (⟨"com/example/umbel/umbel/rank/RankEquation", "<init>", "(JD)V"⟩ : MethodName)) rfl hown (mvT hZ (hw _ (List.mem_of_getElem? (i := 8) rfl))) (mvT hZ (hw _ (List.mem_of_getElem? (i := 9) rfl))) (mvT hZ (hw _ (List.mem_of_getElem? (i := 10) rfl))) (by decide) (backOf (W := 1) (rm_init l Z a0 hw [] o2 n (0 : UInt64) h36 n0 (Nat.le_trans (Nat.le_trans (Nat.le_trans Z0 E30.1) K33.1) E36.1) A36 F_teleportShare_o2 F_danglingShare_o2 g_o2 hn ((own_ts hn).fin (by decide)).noNaN ((own_ds hn hz0).fin (by decide)).noNaN) hZ (hw _ (List.mem_of_getElem? (i := 10) rfl)) (hw _ (List.mem_of_getElem? (i := 7) rfl)) (by decide) (by decide)) (g := (mkF m 39 #[.val (.long pg), .second, .val (.int dr), .val (.int ir), .val (.long n), .second, .val (.double (FP.i2d dr)), .second, .val (.double (FP.i2d ir)), .second, .val (.ref o1), .unset, .unset, .unset, .unset, .unset] [(.double (0 : UInt64)), (.long n), (.ref o2), (.ref o2)])) rfl (by rw [hml]; rfl) (Steps.refl _) (a := o2) (argsL := [(.long n), (.double (0 : UInt64))]) (rest := [(.ref o2)]) (lenOf pd__JD_V rfl) rfl (by show 2 * 0 + _ ≤ _; exact Nat.le_of_eq rfl) (hb hby at_39) (fun _ _ => ⟨rfl, e36, (by decide : 2 + 0 ≤ _), (by decide : 4 + 0 ≤ _)⟩)
  dsimp only [Pt.U, Pt.locs, Pt.cells, Pt.slots] at X39 l39 y39 z39 st39 hQ39
  subst l39 y39 z39
  obtain ⟨rfl, N39q, K39, Ex39, Ft39, Fd39⟩ := hQ39
  have N39 := Fr.app N33 N39q
  have S40 : Go p e below s₁ (entryFrame m #[(.long pg), (.int dr), (.int ir)] maxLocals) T39 (mkF m 42 #[.val (.long pg), .second, .val (.int dr), .val (.int ir), .val (.long n), .second, .val (.double (FP.i2d dr)), .second, .val (.double (FP.i2d ir)), .second, .val (.ref o1), .unset, .unset, .unset, .unset, .unset] [(.ref o2)]) := fun t kt => S38 t (st39.trans kt)
  have hi := (Fl.i2d_mag ir).mono (by decide : 1056 ≤ 1059)
  have hsh := own_ds hn (Fl.i2d_mag dr)
  have hsum := own_rank (own_ts hn) hsh hi
  have hz := own_z hn
  have hsm : Mag64 1059 (FP.dadd (FP.i2d ir) (FP.ddiv (FP.i2d dr) (FP.l2d n))) := Fl.dadd_mag ((Fl.i2d_mag ir).mono (by decide : 1056 ≤ 1057)) hsh (by decide)
  have S41 : Go p e below s₁ (entryFrame m #[(.long pg), (.int dr), (.int ir)] maxLocals) T39 (mkF m 56 #[.val (.long pg), .second, .val (.int dr), .val (.int ir), .val (.long n), .second, .val (.double (FP.i2d dr)), .second, .val (.double (FP.i2d ir)), .second, .val (.ref o1), .val (.ref o2), .val (.double (FP.ddiv (FP.i2d dr) (FP.l2d n))), .second, .unset, .unset] [(.double (FP.i2d ir)), (.ref o1)]) := fun t kt => S40 t (by
    refine XS.astore X39.here hx rfl (hb hby at_42) rfl rfl (l' := #[.val (.long pg), .second, .val (.int dr), .val (.int ir), .val (.long n), .second, .val (.double (FP.i2d dr)), .second, .val (.double (FP.i2d ir)), .second, .val (.ref o1), .val (.ref o2), .unset, .unset, .unset, .unset]) rfl ?_
    show Steps p.tables e below (T39.setTop (mkF m 44 #[.val (.long pg), .second, .val (.int dr), .val (.int ir), .val (.long n), .second, .val (.double (FP.i2d dr)), .second, .val (.double (FP.i2d ir)), .second, .val (.ref o1), .val (.ref o2), .unset, .unset, .unset, .unset] [])) _
    refine XS.dload X39.here hx rfl (hb hby at_44) rfl ?_
    show Steps p.tables e below (T39.setTop (mkF m 46 #[.val (.long pg), .second, .val (.int dr), .val (.int ir), .val (.long n), .second, .val (.double (FP.i2d dr)), .second, .val (.double (FP.i2d ir)), .second, .val (.ref o1), .val (.ref o2), .unset, .unset, .unset, .unset] [(.double (FP.i2d dr))])) _
    refine XS.lload X39.here hx rfl (hb hby at_46) rfl ?_
    show Steps p.tables e below (T39.setTop (mkF m 48 #[.val (.long pg), .second, .val (.int dr), .val (.int ir), .val (.long n), .second, .val (.double (FP.i2d dr)), .second, .val (.double (FP.i2d ir)), .second, .val (.ref o1), .val (.ref o2), .unset, .unset, .unset, .unset] [(.long n), (.double (FP.i2d dr))])) _
    refine XS.l2dS X39.here hx rfl (hb hby at_48) rfl rfl ?_
    show Steps p.tables e below (T39.setTop (mkF m 49 #[.val (.long pg), .second, .val (.int dr), .val (.int ir), .val (.long n), .second, .val (.double (FP.i2d dr)), .second, .val (.double (FP.i2d ir)), .second, .val (.ref o1), .val (.ref o2), .unset, .unset, .unset, .unset] [(.double (FP.l2d n)), (.double (FP.i2d dr))])) _
    refine XS.ddivS X39.here hx rfl (hb hby at_49) rfl ((own_ds hn (Fl.i2d_mag dr)).fin (by decide)).noNaN rfl ?_
    show Steps p.tables e below (T39.setTop (mkF m 50 #[.val (.long pg), .second, .val (.int dr), .val (.int ir), .val (.long n), .second, .val (.double (FP.i2d dr)), .second, .val (.double (FP.i2d ir)), .second, .val (.ref o1), .val (.ref o2), .unset, .unset, .unset, .unset] [(.double (FP.ddiv (FP.i2d dr) (FP.l2d n)))])) _
    refine XS.dstore X39.here hx rfl (hb hby at_50) rfl (l' := #[.val (.long pg), .second, .val (.int dr), .val (.int ir), .val (.long n), .second, .val (.double (FP.i2d dr)), .second, .val (.double (FP.i2d ir)), .second, .val (.ref o1), .val (.ref o2), .val (.double (FP.ddiv (FP.i2d dr) (FP.l2d n))), .second, .unset, .unset]) rfl ?_
    show Steps p.tables e below (T39.setTop (mkF m 52 #[.val (.long pg), .second, .val (.int dr), .val (.int ir), .val (.long n), .second, .val (.double (FP.i2d dr)), .second, .val (.double (FP.i2d ir)), .second, .val (.ref o1), .val (.ref o2), .val (.double (FP.ddiv (FP.i2d dr) (FP.l2d n))), .second, .unset, .unset] [])) _
    refine XS.aload X39.here hx rfl (hb hby at_52) rfl rfl ?_
    show Steps p.tables e below (T39.setTop (mkF m 54 #[.val (.long pg), .second, .val (.int dr), .val (.int ir), .val (.long n), .second, .val (.double (FP.i2d dr)), .second, .val (.double (FP.i2d ir)), .second, .val (.ref o1), .val (.ref o2), .val (.double (FP.ddiv (FP.i2d dr) (FP.l2d n))), .second, .unset, .unset] [(.ref o1)])) _
    refine XS.dload X39.here hx rfl (hb hby at_54) rfl ?_
    show Steps p.tables e below (T39.setTop (mkF m 56 #[.val (.long pg), .second, .val (.int dr), .val (.int ir), .val (.long n), .second, .val (.double (FP.i2d dr)), .second, .val (.double (FP.i2d ir)), .second, .val (.ref o1), .val (.ref o2), .val (.double (FP.ddiv (FP.i2d dr) (FP.l2d n))), .second, .unset, .unset] [(.double (FP.i2d ir)), (.ref o1)])) _
    exact kt)
  have ne42 : o1 ≠ o2 := by rw [g36]; exact Nat.ne_of_lt (Ex33.lt)
  have f43 := ((Ft33.ext E36).keep K39 (ninS ne42 nin0))
  have f44 := ((Fd33.ext E36).keep K39 (ninS ne42 nin0))
  have f46 := ((Ex33.ext E36).keep K39)
  obtain ⟨cq45, kq45, q45a, q45b, q45c⟩ := isOf hZ rfl f46
  obtain ⟨_, _, ⟨T45, L45, k45, n45⟩, -, X45, ⟨Lc45, hQ45, l45, y45, z45⟩, st45⟩ := X39.virtualBack hx (y := (⟨"com/example/umbel/umbel/rank/RankEquation", "rank", "(D)D"⟩ : MethodName)) (z := (⟨"com/example/umbel/umbel/rank/RankEquation", "rank", "(D)D"⟩ : MethodName)) hown (mvT hZ (hw _ (List.mem_of_getElem? (i := 19) rfl))) (mvT hZ (hw _ (List.mem_of_getElem? (i := 20) rfl))) (notFace_of_selects (args := #[]) (mvT hZ (hw _ (List.mem_of_getElem? (i := 22) rfl)))) (mvT hZ (hw _ (List.mem_of_getElem? (i := 22) rfl))) (mvT hZ (hw _ (List.mem_of_getElem? (i := 21) rfl))) (by decide) (backOf (W := 0) (rm_rank l Z a0 hw [] o1 (FP.i2d ir) (FP.ddiv (4594572339843380019 : UInt64) (FP.l2d n)) (FP.ddiv (FP.i2d dr) (FP.l2d n)) T39.heap n0 (Nat.le_trans (Nat.le_trans (Nat.le_trans (Nat.le_trans Z0 E30.1) K33.1) E36.1) K39.1) f43 f44 hsum.1 hsum.2.1 hsum.2.2) hZ (hw _ (List.mem_of_getElem? (i := 23) rfl)) (hw _ (List.mem_of_getElem? (i := 7) rfl)) (by decide) (by decide)) q45a q45c (g := (mkF m 56 #[.val (.long pg), .second, .val (.int dr), .val (.int ir), .val (.long n), .second, .val (.double (FP.i2d dr)), .second, .val (.double (FP.i2d ir)), .second, .val (.ref o1), .val (.ref o2), .val (.double (FP.ddiv (FP.i2d dr) (FP.l2d n))), .second, .unset, .unset] [(.double (FP.i2d ir)), (.ref o1)])) rfl (by rw [hml]; rfl) (Steps.refl _) (argsL := [(.double (FP.i2d ir))]) (rest := []) (lenOf pd__D_D rfl) rfl (by show 2 * 0 + _ ≤ _; exact Nat.le_of_eq rfl) (hb hby at_56) (fun _ _ => ⟨rfl, rfl, (by decide : 2 + 0 ≤ _), (by decide : 4 + 0 ≤ _)⟩)
  dsimp only [Pt.U, Pt.locs, Pt.cells, Pt.slots] at X45 l45 y45 z45 st45 hQ45
  subst l45 y45 z45
  obtain ⟨rfl, N45q, e45⟩ := hQ45
  have N45 := Fr.app N39 N45q
  have S47 : Go p e below s₁ (entryFrame m #[(.long pg), (.int dr), (.int ir)] maxLocals) T45 (mkF m 59 #[.val (.long pg), .second, .val (.int dr), .val (.int ir), .val (.long n), .second, .val (.double (FP.i2d dr)), .second, .val (.double (FP.i2d ir)), .second, .val (.ref o1), .val (.ref o2), .val (.double (FP.ddiv (FP.i2d dr) (FP.l2d n))), .second, .unset, .unset] [(.double (FP.dadd (FP.ddiv (4594572339843380019 : UInt64) (FP.l2d n)) (FP.dmul (4605831338911806259 : UInt64) (FP.dadd (FP.i2d ir) (FP.ddiv (FP.i2d dr) (FP.l2d n))))))]) := fun t kt => S41 t (st45.trans kt)
  have S48 : Go p e below s₁ (entryFrame m #[(.long pg), (.int dr), (.int ir)] maxLocals) T45 (mkF m 66 #[.val (.long pg), .second, .val (.int dr), .val (.int ir), .val (.long n), .second, .val (.double (FP.i2d dr)), .second, .val (.double (FP.i2d ir)), .second, .val (.ref o1), .val (.ref o2), .val (.double (FP.ddiv (FP.i2d dr) (FP.l2d n))), .second, .unset, .unset] [(.double (FP.dadd (FP.i2d ir) (FP.ddiv (FP.i2d dr) (FP.l2d n)))), (.ref o2), (.double (FP.dadd (FP.ddiv (4594572339843380019 : UInt64) (FP.l2d n)) (FP.dmul (4605831338911806259 : UInt64) (FP.dadd (FP.i2d ir) (FP.ddiv (FP.i2d dr) (FP.l2d n))))))]) := fun t kt => S47 t (by
    refine XS.aload X45.here hx rfl (hb hby at_59) rfl rfl ?_
    show Steps p.tables e below (T45.setTop (mkF m 61 #[.val (.long pg), .second, .val (.int dr), .val (.int ir), .val (.long n), .second, .val (.double (FP.i2d dr)), .second, .val (.double (FP.i2d ir)), .second, .val (.ref o1), .val (.ref o2), .val (.double (FP.ddiv (FP.i2d dr) (FP.l2d n))), .second, .unset, .unset] [(.ref o2), (.double (FP.dadd (FP.ddiv (4594572339843380019 : UInt64) (FP.l2d n)) (FP.dmul (4605831338911806259 : UInt64) (FP.dadd (FP.i2d ir) (FP.ddiv (FP.i2d dr) (FP.l2d n))))))])) _
    refine XS.dload X45.here hx rfl (hb hby at_61) rfl ?_
    show Steps p.tables e below (T45.setTop (mkF m 63 #[.val (.long pg), .second, .val (.int dr), .val (.int ir), .val (.long n), .second, .val (.double (FP.i2d dr)), .second, .val (.double (FP.i2d ir)), .second, .val (.ref o1), .val (.ref o2), .val (.double (FP.ddiv (FP.i2d dr) (FP.l2d n))), .second, .unset, .unset] [(.double (FP.i2d ir)), (.ref o2), (.double (FP.dadd (FP.ddiv (4594572339843380019 : UInt64) (FP.l2d n)) (FP.dmul (4605831338911806259 : UInt64) (FP.dadd (FP.i2d ir) (FP.ddiv (FP.i2d dr) (FP.l2d n))))))])) _
    refine XS.dload X45.here hx rfl (hb hby at_63) rfl ?_
    show Steps p.tables e below (T45.setTop (mkF m 65 #[.val (.long pg), .second, .val (.int dr), .val (.int ir), .val (.long n), .second, .val (.double (FP.i2d dr)), .second, .val (.double (FP.i2d ir)), .second, .val (.ref o1), .val (.ref o2), .val (.double (FP.ddiv (FP.i2d dr) (FP.l2d n))), .second, .unset, .unset] [(.double (FP.ddiv (FP.i2d dr) (FP.l2d n))), (.double (FP.i2d ir)), (.ref o2), (.double (FP.dadd (FP.ddiv (4594572339843380019 : UInt64) (FP.l2d n)) (FP.dmul (4605831338911806259 : UInt64) (FP.dadd (FP.i2d ir) (FP.ddiv (FP.i2d dr) (FP.l2d n))))))])) _
    refine XS.daddS X45.here hx rfl (hb hby at_65) rfl hsum.1 rfl ?_
    show Steps p.tables e below (T45.setTop (mkF m 66 #[.val (.long pg), .second, .val (.int dr), .val (.int ir), .val (.long n), .second, .val (.double (FP.i2d dr)), .second, .val (.double (FP.i2d ir)), .second, .val (.ref o1), .val (.ref o2), .val (.double (FP.ddiv (FP.i2d dr) (FP.l2d n))), .second, .unset, .unset] [(.double (FP.dadd (FP.i2d ir) (FP.ddiv (FP.i2d dr) (FP.l2d n)))), (.ref o2), (.double (FP.dadd (FP.ddiv (4594572339843380019 : UInt64) (FP.l2d n)) (FP.dmul (4605831338911806259 : UInt64) (FP.dadd (FP.i2d ir) (FP.ddiv (FP.i2d dr) (FP.l2d n))))))])) _
    exact kt)
  have hdz : Mag64 1057 (FP.ddiv (0 : UInt64) (FP.l2d n)) := own_ds hn hz0
  have hsum2 := own_rank (own_ts hn) hdz hsm
  obtain ⟨cq49, kq49, q49a, q49b, q49c⟩ := isOf hZ e45 Ex39
  obtain ⟨_, _, ⟨T49, L49, k49, n49⟩, -, X49, ⟨Lc49, hQ49, l49, y49, z49⟩, st49⟩ := X45.virtualBack hx (y := (⟨"com/example/umbel/umbel/rank/RankEquation", "rank", "(D)D"⟩ : MethodName)) (z := (⟨"com/example/umbel/umbel/rank/RankEquation", "rank", "(D)D"⟩ : MethodName)) hown (mvT hZ (hw _ (List.mem_of_getElem? (i := 19) rfl))) (mvT hZ (hw _ (List.mem_of_getElem? (i := 20) rfl))) (notFace_of_selects (args := #[]) (mvT hZ (hw _ (List.mem_of_getElem? (i := 22) rfl)))) (mvT hZ (hw _ (List.mem_of_getElem? (i := 22) rfl))) (mvT hZ (hw _ (List.mem_of_getElem? (i := 21) rfl))) (by decide) (backOf (W := 2) (rm_rank l Z a0 hw [] o2 (FP.dadd (FP.i2d ir) (FP.ddiv (FP.i2d dr) (FP.l2d n))) (FP.ddiv (4594572339843380019 : UInt64) (FP.l2d n)) (FP.ddiv (0 : UInt64) (FP.l2d n)) T39.heap n0 (Nat.le_trans (Nat.le_trans (Nat.le_trans (Nat.le_trans Z0 E30.1) K33.1) E36.1) K39.1) Ft39 Fd39 hsum2.1 hsum2.2.1 hsum2.2.2) hZ (hw _ (List.mem_of_getElem? (i := 23) rfl)) (hw _ (List.mem_of_getElem? (i := 7) rfl)) (by decide) (by decide)) q49a q49c (g := (mkF m 66 #[.val (.long pg), .second, .val (.int dr), .val (.int ir), .val (.long n), .second, .val (.double (FP.i2d dr)), .second, .val (.double (FP.i2d ir)), .second, .val (.ref o1), .val (.ref o2), .val (.double (FP.ddiv (FP.i2d dr) (FP.l2d n))), .second, .unset, .unset] [(.double (FP.dadd (FP.i2d ir) (FP.ddiv (FP.i2d dr) (FP.l2d n)))), (.ref o2), (.double (FP.dadd (FP.ddiv (4594572339843380019 : UInt64) (FP.l2d n)) (FP.dmul (4605831338911806259 : UInt64) (FP.dadd (FP.i2d ir) (FP.ddiv (FP.i2d dr) (FP.l2d n))))))])) rfl (by rw [hml]; rfl) (Steps.refl _) (argsL := [(.double (FP.dadd (FP.i2d ir) (FP.ddiv (FP.i2d dr) (FP.l2d n))))]) (rest := [(.double (FP.dadd (FP.ddiv (4594572339843380019 : UInt64) (FP.l2d n)) (FP.dmul (4605831338911806259 : UInt64) (FP.dadd (FP.i2d ir) (FP.ddiv (FP.i2d dr) (FP.l2d n))))))]) (lenOf pd__D_D rfl) rfl (by show 2 * 0 + _ ≤ _; exact Nat.le_of_eq rfl) (hb hby at_66) (fun _ _ => ⟨rfl, e45, (by decide : 2 + 0 ≤ _), (by decide : 4 + 0 ≤ _)⟩)
  dsimp only [Pt.U, Pt.locs, Pt.cells, Pt.slots] at X49 l49 y49 z49 st49 hQ49
  subst l49 y49 z49
  obtain ⟨rfl, N49q, e49⟩ := hQ49
  have N49 := Fr.app N45 N49q
  have S50 : Go p e below s₁ (entryFrame m #[(.long pg), (.int dr), (.int ir)] maxLocals) T49 (mkF m 69 #[.val (.long pg), .second, .val (.int dr), .val (.int ir), .val (.long n), .second, .val (.double (FP.i2d dr)), .second, .val (.double (FP.i2d ir)), .second, .val (.ref o1), .val (.ref o2), .val (.double (FP.ddiv (FP.i2d dr) (FP.l2d n))), .second, .unset, .unset] [(.double (FP.dadd (FP.ddiv (4594572339843380019 : UInt64) (FP.l2d n)) (FP.dmul (4605831338911806259 : UInt64) (FP.dadd (FP.dadd (FP.i2d ir) (FP.ddiv (FP.i2d dr) (FP.l2d n))) (FP.ddiv (0 : UInt64) (FP.l2d n)))))), (.double (FP.dadd (FP.ddiv (4594572339843380019 : UInt64) (FP.l2d n)) (FP.dmul (4605831338911806259 : UInt64) (FP.dadd (FP.i2d ir) (FP.ddiv (FP.i2d dr) (FP.l2d n))))))]) := fun t kt => S48 t (st49.trans kt)
  have S51 : Go p e below s₁ (entryFrame m #[(.long pg), (.int dr), (.int ir)] maxLocals) T49 (mkF m 70 #[.val (.long pg), .second, .val (.int dr), .val (.int ir), .val (.long n), .second, .val (.double (FP.i2d dr)), .second, .val (.double (FP.i2d ir)), .second, .val (.ref o1), .val (.ref o2), .val (.double (FP.ddiv (FP.i2d dr) (FP.l2d n))), .second, .unset, .unset] [(.int (FP.cmpInt (-1) (FP.dcmp (FP.dadd (FP.ddiv (4594572339843380019 : UInt64) (FP.l2d n)) (FP.dmul (4605831338911806259 : UInt64) (FP.dadd (FP.i2d ir) (FP.ddiv (FP.i2d dr) (FP.l2d n))))) (FP.dadd (FP.ddiv (4594572339843380019 : UInt64) (FP.l2d n)) (FP.dmul (4605831338911806259 : UInt64) (FP.dadd (FP.dadd (FP.i2d ir) (FP.ddiv (FP.i2d dr) (FP.l2d n))) (FP.ddiv (0 : UInt64) (FP.l2d n))))))))]) := fun t kt => S50 t (by
    refine XS.dcmpS X49.here hx rfl (hb hby at_69) rfl (cmpV_l _) ?_
    show Steps p.tables e below (T49.setTop (mkF m 70 #[.val (.long pg), .second, .val (.int dr), .val (.int ir), .val (.long n), .second, .val (.double (FP.i2d dr)), .second, .val (.double (FP.i2d ir)), .second, .val (.ref o1), .val (.ref o2), .val (.double (FP.ddiv (FP.i2d dr) (FP.l2d n))), .second, .unset, .unset] [(.int (FP.cmpInt (-1) (FP.dcmp (FP.dadd (FP.ddiv (4594572339843380019 : UInt64) (FP.l2d n)) (FP.dmul (4605831338911806259 : UInt64) (FP.dadd (FP.i2d ir) (FP.ddiv (FP.i2d dr) (FP.l2d n))))) (FP.dadd (FP.ddiv (4594572339843380019 : UInt64) (FP.l2d n)) (FP.dmul (4605831338911806259 : UInt64) (FP.dadd (FP.dadd (FP.i2d ir) (FP.ddiv (FP.i2d dr) (FP.l2d n))) (FP.ddiv (0 : UInt64) (FP.l2d n))))))))])) _
    exact kt)
  have S52 : Go p e below s₁ (entryFrame m #[(.long pg), (.int dr), (.int ir)] maxLocals) T49 (mkF m 84 #[.val (.long pg), .second, .val (.int dr), .val (.int ir), .val (.long n), .second, .val (.double (FP.i2d dr)), .second, .val (.double (FP.i2d ir)), .second, .val (.ref o1), .val (.ref o2), .val (.double (FP.ddiv (FP.i2d dr) (FP.l2d n))), .second, .val (.int (1 : Int32)), .unset] [(.double (FP.i2d ir)), (.ref o2)]) := fun t kt => S51 t (by
    refine XS.ifNo X49.here hx rfl (hb hby at_70) rfl ((if0 _ _).trans (teq (show (FP.cmpInt (-1) (FP.dcmp (FP.dadd (FP.ddiv (4594572339843380019 : UInt64) (FP.l2d n)) (FP.dmul (4605831338911806259 : UInt64) (FP.dadd (FP.i2d ir) (FP.ddiv (FP.i2d dr) (FP.l2d n))))) (FP.dadd (FP.ddiv (4594572339843380019 : UInt64) (FP.l2d n)) (FP.dmul (4605831338911806259 : UInt64) (FP.dadd (FP.dadd (FP.i2d ir) (FP.ddiv (FP.i2d dr) (FP.l2d n))) (FP.ddiv (0 : UInt64) (FP.l2d n))))))) = (0 : Int32) from (by rw [hz, own_eq (fin64_core.mp ((own_ts hn).fin (by decide))) hsum.1 hsum.2.2]; rfl))).2) ?_
    show Steps p.tables e below (T49.setTop (mkF m 73 #[.val (.long pg), .second, .val (.int dr), .val (.int ir), .val (.long n), .second, .val (.double (FP.i2d dr)), .second, .val (.double (FP.i2d ir)), .second, .val (.ref o1), .val (.ref o2), .val (.double (FP.ddiv (FP.i2d dr) (FP.l2d n))), .second, .unset, .unset] [])) _
    refine XS.iconst X49.here hx rfl (hb hby at_73) ?_
    show Steps p.tables e below (T49.setTop (mkF m 74 #[.val (.long pg), .second, .val (.int dr), .val (.int ir), .val (.long n), .second, .val (.double (FP.i2d dr)), .second, .val (.double (FP.i2d ir)), .second, .val (.ref o1), .val (.ref o2), .val (.double (FP.ddiv (FP.i2d dr) (FP.l2d n))), .second, .unset, .unset] [(.int (1 : Int32))])) _
    refine XS.goto X49.here hx rfl (pc0 := 74) (pc' := 78) rfl (hb hby at_74) (by decide) (by decide) ?_
    show Steps p.tables e below (T49.setTop (mkF m 78 #[.val (.long pg), .second, .val (.int dr), .val (.int ir), .val (.long n), .second, .val (.double (FP.i2d dr)), .second, .val (.double (FP.i2d ir)), .second, .val (.ref o1), .val (.ref o2), .val (.double (FP.ddiv (FP.i2d dr) (FP.l2d n))), .second, .unset, .unset] [(.int (1 : Int32))])) _
    refine XS.istore X49.here hx rfl (hb hby at_78) rfl (l' := #[.val (.long pg), .second, .val (.int dr), .val (.int ir), .val (.long n), .second, .val (.double (FP.i2d dr)), .second, .val (.double (FP.i2d ir)), .second, .val (.ref o1), .val (.ref o2), .val (.double (FP.ddiv (FP.i2d dr) (FP.l2d n))), .second, .val (.int (1 : Int32)), .unset]) rfl ?_
    show Steps p.tables e below (T49.setTop (mkF m 80 #[.val (.long pg), .second, .val (.int dr), .val (.int ir), .val (.long n), .second, .val (.double (FP.i2d dr)), .second, .val (.double (FP.i2d ir)), .second, .val (.ref o1), .val (.ref o2), .val (.double (FP.ddiv (FP.i2d dr) (FP.l2d n))), .second, .val (.int (1 : Int32)), .unset] [])) _
    refine XS.aload X49.here hx rfl (hb hby at_80) rfl rfl ?_
    show Steps p.tables e below (T49.setTop (mkF m 82 #[.val (.long pg), .second, .val (.int dr), .val (.int ir), .val (.long n), .second, .val (.double (FP.i2d dr)), .second, .val (.double (FP.i2d ir)), .second, .val (.ref o1), .val (.ref o2), .val (.double (FP.ddiv (FP.i2d dr) (FP.l2d n))), .second, .val (.int (1 : Int32)), .unset] [(.ref o2)])) _
    refine XS.dload X49.here hx rfl (hb hby at_82) rfl ?_
    show Steps p.tables e below (T49.setTop (mkF m 84 #[.val (.long pg), .second, .val (.int dr), .val (.int ir), .val (.long n), .second, .val (.double (FP.i2d dr)), .second, .val (.double (FP.i2d ir)), .second, .val (.ref o1), .val (.ref o2), .val (.double (FP.ddiv (FP.i2d dr) (FP.l2d n))), .second, .val (.int (1 : Int32)), .unset] [(.double (FP.i2d ir)), (.ref o2)])) _
    exact kt)
  have hsum3 := own_rank (own_ts hn) hdz hi
  have hm := own_mul (own_ts hn) hi
  obtain ⟨cq53, kq53, q53a, q53b, q53c⟩ := isOf hZ e49 Ex39
  obtain ⟨_, _, ⟨T53, L53, k53, n53⟩, -, X53, ⟨Lc53, hQ53, l53, y53, z53⟩, st53⟩ := X49.virtualBack hx (y := (⟨"com/example/umbel/umbel/rank/RankEquation", "rank", "(D)D"⟩ : MethodName)) (z := (⟨"com/example/umbel/umbel/rank/RankEquation", "rank", "(D)D"⟩ : MethodName)) hown (mvT hZ (hw _ (List.mem_of_getElem? (i := 19) rfl))) (mvT hZ (hw _ (List.mem_of_getElem? (i := 20) rfl))) (notFace_of_selects (args := #[]) (mvT hZ (hw _ (List.mem_of_getElem? (i := 22) rfl)))) (mvT hZ (hw _ (List.mem_of_getElem? (i := 22) rfl))) (mvT hZ (hw _ (List.mem_of_getElem? (i := 21) rfl))) (by decide) (backOf (W := 0) (rm_rank l Z a0 hw [] o2 (FP.i2d ir) (FP.ddiv (4594572339843380019 : UInt64) (FP.l2d n)) (FP.ddiv (0 : UInt64) (FP.l2d n)) T39.heap n0 (Nat.le_trans (Nat.le_trans (Nat.le_trans (Nat.le_trans Z0 E30.1) K33.1) E36.1) K39.1) Ft39 Fd39 hsum3.1 hsum3.2.1 hsum3.2.2) hZ (hw _ (List.mem_of_getElem? (i := 23) rfl)) (hw _ (List.mem_of_getElem? (i := 7) rfl)) (by decide) (by decide)) q53a q53c (g := (mkF m 84 #[.val (.long pg), .second, .val (.int dr), .val (.int ir), .val (.long n), .second, .val (.double (FP.i2d dr)), .second, .val (.double (FP.i2d ir)), .second, .val (.ref o1), .val (.ref o2), .val (.double (FP.ddiv (FP.i2d dr) (FP.l2d n))), .second, .val (.int (1 : Int32)), .unset] [(.double (FP.i2d ir)), (.ref o2)])) rfl (by rw [hml]; rfl) (Steps.refl _) (argsL := [(.double (FP.i2d ir))]) (rest := []) (lenOf pd__D_D rfl) rfl (by show 2 * 0 + _ ≤ _; exact Nat.le_of_eq rfl) (hb hby at_84) (fun _ _ => ⟨rfl, e49, (by decide : 2 + 0 ≤ _), (by decide : 4 + 0 ≤ _)⟩)
  dsimp only [Pt.U, Pt.locs, Pt.cells, Pt.slots] at X53 l53 y53 z53 st53 hQ53
  subst l53 y53 z53
  obtain ⟨rfl, N53q, e53⟩ := hQ53
  have N53 := Fr.app N49 N53q
  have S54 : Go p e below s₁ (entryFrame m #[(.long pg), (.int dr), (.int ir)] maxLocals) T53 (mkF m 87 #[.val (.long pg), .second, .val (.int dr), .val (.int ir), .val (.long n), .second, .val (.double (FP.i2d dr)), .second, .val (.double (FP.i2d ir)), .second, .val (.ref o1), .val (.ref o2), .val (.double (FP.ddiv (FP.i2d dr) (FP.l2d n))), .second, .val (.int (1 : Int32)), .unset] [(.double (FP.dadd (FP.ddiv (4594572339843380019 : UInt64) (FP.l2d n)) (FP.dmul (4605831338911806259 : UInt64) (FP.dadd (FP.i2d ir) (FP.ddiv (0 : UInt64) (FP.l2d n))))))]) := fun t kt => S52 t (st53.trans kt)
  have S55 : Go p e below s₁ (entryFrame m #[(.long pg), (.int dr), (.int ir)] maxLocals) T53 (mkF m 102 #[.val (.long pg), .second, .val (.int dr), .val (.int ir), .val (.long n), .second, .val (.double (FP.i2d dr)), .second, .val (.double (FP.i2d ir)), .second, .val (.ref o1), .val (.ref o2), .val (.double (FP.ddiv (FP.i2d dr) (FP.l2d n))), .second, .val (.int (1 : Int32)), .unset] [(.int (FP.cmpInt (-1) (FP.dcmp (FP.dadd (FP.ddiv (4594572339843380019 : UInt64) (FP.l2d n)) (FP.dmul (4605831338911806259 : UInt64) (FP.dadd (FP.i2d ir) (FP.ddiv (0 : UInt64) (FP.l2d n))))) (FP.dadd (FP.ddiv (4594572339843380019 : UInt64) (FP.l2d n)) (FP.dmul (4605831338911806259 : UInt64) (FP.i2d ir))))))]) := fun t kt => S54 t (by
    refine X53.ldc2DoubleC hx hown (mvT hZ (hw _ (List.mem_of_getElem? (i := 25) rfl))) (g := (mkF m 87 #[.val (.long pg), .second, .val (.int dr), .val (.int ir), .val (.long n), .second, .val (.double (FP.i2d dr)), .second, .val (.double (FP.i2d ir)), .second, .val (.ref o1), .val (.ref o2), .val (.double (FP.ddiv (FP.i2d dr) (FP.l2d n))), .second, .val (.int (1 : Int32)), .unset] [(.double (FP.dadd (FP.ddiv (4594572339843380019 : UInt64) (FP.l2d n)) (FP.dmul (4605831338911806259 : UInt64) (FP.dadd (FP.i2d ir) (FP.ddiv (0 : UInt64) (FP.l2d n))))))])) rfl (hb hby at_87) _ ?_
    show Steps p.tables e below (T53.setTop (mkF m 90 #[.val (.long pg), .second, .val (.int dr), .val (.int ir), .val (.long n), .second, .val (.double (FP.i2d dr)), .second, .val (.double (FP.i2d ir)), .second, .val (.ref o1), .val (.ref o2), .val (.double (FP.ddiv (FP.i2d dr) (FP.l2d n))), .second, .val (.int (1 : Int32)), .unset] [(.double (4594572339843380019 : UInt64)), (.double (FP.dadd (FP.ddiv (4594572339843380019 : UInt64) (FP.l2d n)) (FP.dmul (4605831338911806259 : UInt64) (FP.dadd (FP.i2d ir) (FP.ddiv (0 : UInt64) (FP.l2d n))))))])) _
    refine XS.lload X53.here hx rfl (hb hby at_90) rfl ?_
    show Steps p.tables e below (T53.setTop (mkF m 92 #[.val (.long pg), .second, .val (.int dr), .val (.int ir), .val (.long n), .second, .val (.double (FP.i2d dr)), .second, .val (.double (FP.i2d ir)), .second, .val (.ref o1), .val (.ref o2), .val (.double (FP.ddiv (FP.i2d dr) (FP.l2d n))), .second, .val (.int (1 : Int32)), .unset] [(.long n), (.double (4594572339843380019 : UInt64)), (.double (FP.dadd (FP.ddiv (4594572339843380019 : UInt64) (FP.l2d n)) (FP.dmul (4605831338911806259 : UInt64) (FP.dadd (FP.i2d ir) (FP.ddiv (0 : UInt64) (FP.l2d n))))))])) _
    refine XS.l2dS X53.here hx rfl (hb hby at_92) rfl rfl ?_
    show Steps p.tables e below (T53.setTop (mkF m 93 #[.val (.long pg), .second, .val (.int dr), .val (.int ir), .val (.long n), .second, .val (.double (FP.i2d dr)), .second, .val (.double (FP.i2d ir)), .second, .val (.ref o1), .val (.ref o2), .val (.double (FP.ddiv (FP.i2d dr) (FP.l2d n))), .second, .val (.int (1 : Int32)), .unset] [(.double (FP.l2d n)), (.double (4594572339843380019 : UInt64)), (.double (FP.dadd (FP.ddiv (4594572339843380019 : UInt64) (FP.l2d n)) (FP.dmul (4605831338911806259 : UInt64) (FP.dadd (FP.i2d ir) (FP.ddiv (0 : UInt64) (FP.l2d n))))))])) _
    refine XS.ddivS X53.here hx rfl (hb hby at_93) rfl ((own_ts hn).fin (by decide)).noNaN rfl ?_
    show Steps p.tables e below (T53.setTop (mkF m 94 #[.val (.long pg), .second, .val (.int dr), .val (.int ir), .val (.long n), .second, .val (.double (FP.i2d dr)), .second, .val (.double (FP.i2d ir)), .second, .val (.ref o1), .val (.ref o2), .val (.double (FP.ddiv (FP.i2d dr) (FP.l2d n))), .second, .val (.int (1 : Int32)), .unset] [(.double (FP.ddiv (4594572339843380019 : UInt64) (FP.l2d n))), (.double (FP.dadd (FP.ddiv (4594572339843380019 : UInt64) (FP.l2d n)) (FP.dmul (4605831338911806259 : UInt64) (FP.dadd (FP.i2d ir) (FP.ddiv (0 : UInt64) (FP.l2d n))))))])) _
    refine X53.ldc2DoubleC hx hown (mvT hZ (hw _ (List.mem_of_getElem? (i := 26) rfl))) (g := (mkF m 94 #[.val (.long pg), .second, .val (.int dr), .val (.int ir), .val (.long n), .second, .val (.double (FP.i2d dr)), .second, .val (.double (FP.i2d ir)), .second, .val (.ref o1), .val (.ref o2), .val (.double (FP.ddiv (FP.i2d dr) (FP.l2d n))), .second, .val (.int (1 : Int32)), .unset] [(.double (FP.ddiv (4594572339843380019 : UInt64) (FP.l2d n))), (.double (FP.dadd (FP.ddiv (4594572339843380019 : UInt64) (FP.l2d n)) (FP.dmul (4605831338911806259 : UInt64) (FP.dadd (FP.i2d ir) (FP.ddiv (0 : UInt64) (FP.l2d n))))))])) rfl (hb hby at_94) _ ?_
    show Steps p.tables e below (T53.setTop (mkF m 97 #[.val (.long pg), .second, .val (.int dr), .val (.int ir), .val (.long n), .second, .val (.double (FP.i2d dr)), .second, .val (.double (FP.i2d ir)), .second, .val (.ref o1), .val (.ref o2), .val (.double (FP.ddiv (FP.i2d dr) (FP.l2d n))), .second, .val (.int (1 : Int32)), .unset] [(.double (4605831338911806259 : UInt64)), (.double (FP.ddiv (4594572339843380019 : UInt64) (FP.l2d n))), (.double (FP.dadd (FP.ddiv (4594572339843380019 : UInt64) (FP.l2d n)) (FP.dmul (4605831338911806259 : UInt64) (FP.dadd (FP.i2d ir) (FP.ddiv (0 : UInt64) (FP.l2d n))))))])) _
    refine XS.dload X53.here hx rfl (hb hby at_97) rfl ?_
    show Steps p.tables e below (T53.setTop (mkF m 99 #[.val (.long pg), .second, .val (.int dr), .val (.int ir), .val (.long n), .second, .val (.double (FP.i2d dr)), .second, .val (.double (FP.i2d ir)), .second, .val (.ref o1), .val (.ref o2), .val (.double (FP.ddiv (FP.i2d dr) (FP.l2d n))), .second, .val (.int (1 : Int32)), .unset] [(.double (FP.i2d ir)), (.double (4605831338911806259 : UInt64)), (.double (FP.ddiv (4594572339843380019 : UInt64) (FP.l2d n))), (.double (FP.dadd (FP.ddiv (4594572339843380019 : UInt64) (FP.l2d n)) (FP.dmul (4605831338911806259 : UInt64) (FP.dadd (FP.i2d ir) (FP.ddiv (0 : UInt64) (FP.l2d n))))))])) _
    refine XS.dmulS X53.here hx rfl (hb hby at_99) rfl hm.2.1 rfl ?_
    show Steps p.tables e below (T53.setTop (mkF m 100 #[.val (.long pg), .second, .val (.int dr), .val (.int ir), .val (.long n), .second, .val (.double (FP.i2d dr)), .second, .val (.double (FP.i2d ir)), .second, .val (.ref o1), .val (.ref o2), .val (.double (FP.ddiv (FP.i2d dr) (FP.l2d n))), .second, .val (.int (1 : Int32)), .unset] [(.double (FP.dmul (4605831338911806259 : UInt64) (FP.i2d ir))), (.double (FP.ddiv (4594572339843380019 : UInt64) (FP.l2d n))), (.double (FP.dadd (FP.ddiv (4594572339843380019 : UInt64) (FP.l2d n)) (FP.dmul (4605831338911806259 : UInt64) (FP.dadd (FP.i2d ir) (FP.ddiv (0 : UInt64) (FP.l2d n))))))])) _
    refine XS.daddS X53.here hx rfl (hb hby at_100) rfl hm.2.2 rfl ?_
    show Steps p.tables e below (T53.setTop (mkF m 101 #[.val (.long pg), .second, .val (.int dr), .val (.int ir), .val (.long n), .second, .val (.double (FP.i2d dr)), .second, .val (.double (FP.i2d ir)), .second, .val (.ref o1), .val (.ref o2), .val (.double (FP.ddiv (FP.i2d dr) (FP.l2d n))), .second, .val (.int (1 : Int32)), .unset] [(.double (FP.dadd (FP.ddiv (4594572339843380019 : UInt64) (FP.l2d n)) (FP.dmul (4605831338911806259 : UInt64) (FP.i2d ir)))), (.double (FP.dadd (FP.ddiv (4594572339843380019 : UInt64) (FP.l2d n)) (FP.dmul (4605831338911806259 : UInt64) (FP.dadd (FP.i2d ir) (FP.ddiv (0 : UInt64) (FP.l2d n))))))])) _
    refine XS.dcmpS X53.here hx rfl (hb hby at_101) rfl (cmpV_l _) ?_
    show Steps p.tables e below (T53.setTop (mkF m 102 #[.val (.long pg), .second, .val (.int dr), .val (.int ir), .val (.long n), .second, .val (.double (FP.i2d dr)), .second, .val (.double (FP.i2d ir)), .second, .val (.ref o1), .val (.ref o2), .val (.double (FP.ddiv (FP.i2d dr) (FP.l2d n))), .second, .val (.int (1 : Int32)), .unset] [(.int (FP.cmpInt (-1) (FP.dcmp (FP.dadd (FP.ddiv (4594572339843380019 : UInt64) (FP.l2d n)) (FP.dmul (4605831338911806259 : UInt64) (FP.dadd (FP.i2d ir) (FP.ddiv (0 : UInt64) (FP.l2d n))))) (FP.dadd (FP.ddiv (4594572339843380019 : UInt64) (FP.l2d n)) (FP.dmul (4605831338911806259 : UInt64) (FP.i2d ir))))))])) _
    exact kt)
  have S56 : Go p e below s₁ (entryFrame m #[(.long pg), (.int dr), (.int ir)] maxLocals) T53 (mkF m 127 #[.val (.long pg), .second, .val (.int dr), .val (.int ir), .val (.long n), .second, .val (.double (FP.i2d dr)), .second, .val (.double (FP.i2d ir)), .second, .val (.ref o1), .val (.ref o2), .val (.double (FP.ddiv (FP.i2d dr) (FP.l2d n))), .second, .val (.int (1 : Int32)), .val (.int (1 : Int32))] [(.int (1 : Int32))]) := fun t kt => S55 t (by
    refine XS.ifNo X53.here hx rfl (hb hby at_102) rfl ((if0 _ _).trans (teq (show (FP.cmpInt (-1) (FP.dcmp (FP.dadd (FP.ddiv (4594572339843380019 : UInt64) (FP.l2d n)) (FP.dmul (4605831338911806259 : UInt64) (FP.dadd (FP.i2d ir) (FP.ddiv (0 : UInt64) (FP.l2d n))))) (FP.dadd (FP.ddiv (4594572339843380019 : UInt64) (FP.l2d n)) (FP.dmul (4605831338911806259 : UInt64) (FP.i2d ir))))) = (0 : Int32) from (by rw [hz, own_sym (own_eq (fin64_core.mp ((own_ts hn).fin (by decide))) (hi.fin (by decide)).noNaN hm.2.2)]; rfl))).2) ?_
    show Steps p.tables e below (T53.setTop (mkF m 105 #[.val (.long pg), .second, .val (.int dr), .val (.int ir), .val (.long n), .second, .val (.double (FP.i2d dr)), .second, .val (.double (FP.i2d ir)), .second, .val (.ref o1), .val (.ref o2), .val (.double (FP.ddiv (FP.i2d dr) (FP.l2d n))), .second, .val (.int (1 : Int32)), .unset] [])) _
    refine XS.iconst X53.here hx rfl (hb hby at_105) ?_
    show Steps p.tables e below (T53.setTop (mkF m 106 #[.val (.long pg), .second, .val (.int dr), .val (.int ir), .val (.long n), .second, .val (.double (FP.i2d dr)), .second, .val (.double (FP.i2d ir)), .second, .val (.ref o1), .val (.ref o2), .val (.double (FP.ddiv (FP.i2d dr) (FP.l2d n))), .second, .val (.int (1 : Int32)), .unset] [(.int (1 : Int32))])) _
    refine XS.goto X53.here hx rfl (pc0 := 106) (pc' := 110) rfl (hb hby at_106) (by decide) (by decide) ?_
    show Steps p.tables e below (T53.setTop (mkF m 110 #[.val (.long pg), .second, .val (.int dr), .val (.int ir), .val (.long n), .second, .val (.double (FP.i2d dr)), .second, .val (.double (FP.i2d ir)), .second, .val (.ref o1), .val (.ref o2), .val (.double (FP.ddiv (FP.i2d dr) (FP.l2d n))), .second, .val (.int (1 : Int32)), .unset] [(.int (1 : Int32))])) _
    refine XS.istore X53.here hx rfl (hb hby at_110) rfl (l' := #[.val (.long pg), .second, .val (.int dr), .val (.int ir), .val (.long n), .second, .val (.double (FP.i2d dr)), .second, .val (.double (FP.i2d ir)), .second, .val (.ref o1), .val (.ref o2), .val (.double (FP.ddiv (FP.i2d dr) (FP.l2d n))), .second, .val (.int (1 : Int32)), .val (.int (1 : Int32))]) rfl ?_
    show Steps p.tables e below (T53.setTop (mkF m 112 #[.val (.long pg), .second, .val (.int dr), .val (.int ir), .val (.long n), .second, .val (.double (FP.i2d dr)), .second, .val (.double (FP.i2d ir)), .second, .val (.ref o1), .val (.ref o2), .val (.double (FP.ddiv (FP.i2d dr) (FP.l2d n))), .second, .val (.int (1 : Int32)), .val (.int (1 : Int32))] [])) _
    refine XS.iload X53.here hx rfl (hb hby at_112) rfl ?_
    show Steps p.tables e below (T53.setTop (mkF m 114 #[.val (.long pg), .second, .val (.int dr), .val (.int ir), .val (.long n), .second, .val (.double (FP.i2d dr)), .second, .val (.double (FP.i2d ir)), .second, .val (.ref o1), .val (.ref o2), .val (.double (FP.ddiv (FP.i2d dr) (FP.l2d n))), .second, .val (.int (1 : Int32)), .val (.int (1 : Int32))] [(.int (1 : Int32))])) _
    refine XS.ifNo X53.here hx rfl (hb hby at_114) rfl ((if0 _ _).trans (feq (show ¬ ((1 : Int32) = (0 : Int32)) from (by decide))).1) ?_
    show Steps p.tables e below (T53.setTop (mkF m 117 #[.val (.long pg), .second, .val (.int dr), .val (.int ir), .val (.long n), .second, .val (.double (FP.i2d dr)), .second, .val (.double (FP.i2d ir)), .second, .val (.ref o1), .val (.ref o2), .val (.double (FP.ddiv (FP.i2d dr) (FP.l2d n))), .second, .val (.int (1 : Int32)), .val (.int (1 : Int32))] [])) _
    refine XS.iload X53.here hx rfl (hb hby at_117) rfl ?_
    show Steps p.tables e below (T53.setTop (mkF m 119 #[.val (.long pg), .second, .val (.int dr), .val (.int ir), .val (.long n), .second, .val (.double (FP.i2d dr)), .second, .val (.double (FP.i2d ir)), .second, .val (.ref o1), .val (.ref o2), .val (.double (FP.ddiv (FP.i2d dr) (FP.l2d n))), .second, .val (.int (1 : Int32)), .val (.int (1 : Int32))] [(.int (1 : Int32))])) _
    refine XS.ifNo X53.here hx rfl (hb hby at_119) rfl ((if0 _ _).trans (feq (show ¬ ((1 : Int32) = (0 : Int32)) from (by decide))).1) ?_
    show Steps p.tables e below (T53.setTop (mkF m 122 #[.val (.long pg), .second, .val (.int dr), .val (.int ir), .val (.long n), .second, .val (.double (FP.i2d dr)), .second, .val (.double (FP.i2d ir)), .second, .val (.ref o1), .val (.ref o2), .val (.double (FP.ddiv (FP.i2d dr) (FP.l2d n))), .second, .val (.int (1 : Int32)), .val (.int (1 : Int32))] [])) _
    refine XS.iconst X53.here hx rfl (hb hby at_122) ?_
    show Steps p.tables e below (T53.setTop (mkF m 123 #[.val (.long pg), .second, .val (.int dr), .val (.int ir), .val (.long n), .second, .val (.double (FP.i2d dr)), .second, .val (.double (FP.i2d ir)), .second, .val (.ref o1), .val (.ref o2), .val (.double (FP.ddiv (FP.i2d dr) (FP.l2d n))), .second, .val (.int (1 : Int32)), .val (.int (1 : Int32))] [(.int (1 : Int32))])) _
    refine XS.goto X53.here hx rfl (pc0 := 123) (pc' := 127) rfl (hb hby at_123) (by decide) (by decide) ?_
    show Steps p.tables e below (T53.setTop (mkF m 127 #[.val (.long pg), .second, .val (.int dr), .val (.int ir), .val (.long n), .second, .val (.double (FP.i2d dr)), .second, .val (.double (FP.i2d ir)), .second, .val (.ref o1), .val (.ref o2), .val (.double (FP.ddiv (FP.i2d dr) (FP.l2d n))), .second, .val (.int (1 : Int32)), .val (.int (1 : Int32))] [(.int (1 : Int32))])) _
    exact kt)
  obtain ⟨fs, hr, hrun, hended, hW, hsame⟩ := X53.leave (v := some (.int (1 : Int32))) (fun h => by first | rfl | (rw [Bd.returns] at h; cases h))
  refine ⟨_, _, S56 _ ?_, hrun, hended, _, _, rfl, ?_, ⟨_, rfl⟩, hW, hsame.mono (by decide) (by decide)⟩
  · exact retN X53 hx (t := .boolean) Bd.returns (by simp) (hb hby at_127) hr
  · show Q_law Z pg dr ir h0 n0 _ T53.heap _
    rw [e53]
    exact ⟨rfl, N53⟩
set_option maxRecDepth 65536 in
set_option maxHeartbeats 40000000 in
theorem comes_1 {Post : Tables → Env → Array Value → State → Outcome → State → Prop} (hpost : ∀ tb e args s v u, (limb_1_1.after args s (.returned v) u = true ∧ limb_1_2.after args s (.returned v) u = true ∧ True) → FrameEnd s (.returned v) u (Jvm.fieldLocs frame_1_writes args s ++ Jvm.arrayLocs frame_1_arrays args s ++ Jvm.staticLocs frame_1_statics s) 16 128 → Post tb e args s (.returned v) u) :
    ArmFor flags0 classFile x code maxLocals ret World_1 tables_1 room_1 Calls_1 rest_1 Pre_1 Post := by
  intro l hfl _ _ p e ha hc hk s m args below hf hA hF happ hP
  obtain ⟨hcalls, hrest, hpre⟩ := hP
  obtain ⟨-, -, -, hnamed, -, -, -, hat⟩ := (Spec.applies_iff hf).mp happ
  obtain ⟨hg, hn⟩ := and_e (Cond.before_iff.mp (show (Jvm.Cond.and given_1 narrow_1).before args s = true from hpre))
  obtain ⟨hcount, r0⟩ := and_e hg
  obtain ⟨v0, r1⟩ := and_e r0
  obtain ⟨v1, r2⟩ := and_e r1
  obtain ⟨w0, w1, w2, rfl⟩ : ∃ w0 w1 w2 : Value, args = #[w0, w1, w2] := by
    have hs : args.size = 3 := by simpa [Cond.value, given_1] using hcount
    obtain ⟨L⟩ := args
    match L, hs with
    | [w0, w1, w2], _ => exact ⟨w0, w1, w2, rfl⟩
  have hw := fun d (hd : d ∈ tables_1) => atoms_spec (ws := Jvm.Cond.code x code maxLocals ret :: tables_1) hat d (List.mem_cons_of_mem _ hd)
  have hfit : Fit s := fun {y c} hc i hi => by
    obtain ⟨ha, rfl⟩ := Array.getElem?_eq_some_iff.mp hc
    have q := List.all_eq_true.mp ((Array.all_eq_true_iff_forall_mem.mp hF) _ (Array.getElem_mem ha)) i (List.mem_range.mpr hi)
    simpa [Array.getElem?_eq_getElem hi] using q
  obtain ⟨i0, ei0⟩ := isL_v v0
  obtain rfl : w0 = (.long i0) := Option.some.inj ei0
  obtain ⟨i1, ei1⟩ := is_v v1
  obtain rfl : w1 = (.int i1) := Option.some.inj ei1
  obtain ⟨i2, ei2⟩ := is_v r2
  obtain rfl : w2 = (.int i2) := Option.some.inj ei2
  obtain ⟨n, o, h1, h2, h3, _, L, rfl, ⟨rfl, N⟩, hq⟩ := rm_law l s _ hw tables_1 i0 i1 i2 s.heap s.heap.size (Nat.le_refl _)  p e ha hc hk s m _ below hf ((Spec.applies_iff_loose hf).mp happ).1 ⟨rfl, State.Warmed39.refl s, rfl⟩ trivial
  refine ⟨n, _, h1, h2, h3, hpost _ _ _ _ _ _ ⟨Cond.after_iff.mpr rfl, Cond.after_iff.mpr (eq_i res_at (Term.int_eval (1)) rfl), trivial⟩ ⟨hq.1, hq.2.1, (hq.2.2.sift fun y hy => Or.inr (N y hy)).mono (by decide) (by decide)⟩⟩
theorem main_1_1 : Claimed_1_1 := comes_1 fun _ _ _ _ _ _ h hF => ⟨h.1, hF⟩
theorem main_1_2 : Claimed_1_2 := comes_1 fun _ _ _ _ _ _ h hF => ⟨h.2.1, hF⟩
end Jvm.Pilot.@@N@@
namespace Jvm.Pilot.@@N@@
open Jvm Jvm.ClassFile Sem Op Lib Jvm.Free Jvm.Stand Jvm.Pilot.@@N@@.Jvm.D
/-! MADE BY PROGRAM (witnessworld.py) out of the Statement's table words and the real class files: 10 classes; the members and pool entries that the words name. The judged class is class 1, her method 1. -/
namespace start1
open Jvm.ClassFile
def u (s : String) : CpInfo := .utf8 (stringToUtf16 s)
/-- a pool by its gaps: so many unusable entries, then the entry; so many at the end -/
def gap : Nat → List CpInfo → List CpInfo
  | 0, r => r
  | n + 1, r => .unusable :: gap n r
def poolList (es : List (Nat × CpInfo)) (last : Nat) : List CpInfo := es.foldr (fun e r => gap e.1 (e.2 :: r)) (gap last [])
def pool (es : List (Nat × CpInfo)) (last : Nat) : Array CpInfo := ⟨poolList es last⟩
def fileOf (pool : Array CpInfo) (this : Nat) (attrs : Array Attribute := #[]) (ms : Array MethodInfo := #[]) (fl : Nat := 33) (sup : Nat := 0) (ifs : Array Nat := #[]) (fds : Array FieldInfo := #[]) : ClassFile where
  minorVersion := 0
  majorVersion := 65
  constantPool := pool
  accessFlags := fl
  thisClass := this
  superClass := sup
  interfaces := ifs
  fields := fds
  methods := ms
  attributes := attrs
def plain (name : String) (sup : Option ClassId) : Class where
  name := name
  kind := .ordinary
  loader := none
  accessFlags := 33
  super := sup
  interfaces := #[]
  cf := none
  fields := #[]
  methods := #[]
  instanceTypes := #[]
  staticTypes := #[]
  resolved := #[]
  callSites := []
  init := .initialized
  statics := none
  mirror := none

def pool0 : Array CpInfo := pool [(5, u "<init>"), (0, u "()V"), (1, .class_ 10), (1, u "java/lang/Object")] 113

def k0c0 : Code := { maxStack := 0, maxLocals := 1, code := object_method_1_code, exceptionTable := #[], attributes := #[] }
def k0m0 : Method := { name := "<init>", desc := "()V", sig := { parameters := [], returnType := none }, accessFlags := 1, code := some k0c0 }
/-- java/lang/Object -/
def k0 : Class := { plain "java/lang/Object" none with
  accessFlags := 33
  interfaces := #[]
  cf := some (fileOf pool0 8 #[] #[{ accessFlags := 1, nameIndex := 5, descriptorIndex := 6, attributes := #[] }] 33 0 #[] #[])
  fields := #[]
  methods := #[k0m0]
  instanceTypes := #[]
  staticTypes := #[]
  resolved := Array.replicate 124 none
  statics := none }

def pool1 : Array CpInfo := pool [(2, .class_ 4), (1, u "java/lang/Object"), (0, u "<init>"), (0, u "()V"), (2, .long 9223372036854775807), (1, .methodref 12 13), (0, .class_ 14), (0, .nameAndType 15 16), (0, u "java/lang/Math"), (0, u "max"), (0, u "(JJ)J"), (0, .class_ 18), (0, u "com/example/umbel/umbel/rank/RankEquation"), (0, .methodref 17 20), (0, .nameAndType 5 21), (0, u "(JD)V"), (0, .methodref 17 23), (0, .nameAndType 24 25), (0, u "rank"), (0, u "(D)D"), (0, .double 4594572339843380019), (1, .double 4605831338911806259), (1, .class_ 31), (0, u "com/example/umbel/umbel/rank/RankEquationRankPinLaw"), (2, u "law"), (0, u "(JII)Z")] 3

def k1m0 : Method := { name := "<init>", desc := "()V", sig := { parameters := [], returnType := none }, accessFlags := 1, code := none }
def k1c1 : Code := { maxStack := 8, maxLocals := 16, code := code, exceptionTable := #[], attributes := #[] }
def k1m1 : Method := { name := "law", desc := "(JII)Z", sig := { parameters := [.long, .int, .int], returnType := some .boolean }, accessFlags := 9, code := some k1c1 }
/-- com/example/umbel/umbel/rank/RankEquationRankPinLaw -/
def k1 : Class := { plain "com/example/umbel/umbel/rank/RankEquationRankPinLaw" (some 0) with
  accessFlags := 49
  interfaces := #[]
  cf := some (fileOf pool1 30 #[] #[{ accessFlags := 1, nameIndex := 5, descriptorIndex := 6, attributes := #[] }, { accessFlags := 9, nameIndex := 34, descriptorIndex := 35, attributes := #[] }] 49 2 #[] #[])
  fields := #[]
  methods := #[k1m0, k1m1]
  instanceTypes := #[]
  staticTypes := #[]
  resolved := Array.replicate 39 none
  statics := none }

def pool2 : Array CpInfo := pool [(1, .class_ 2), (0, u "java/lang/Math"), (1, .class_ 6), (1, u "java/lang/Object"), (0, u "<init>"), (0, u "()V"), (89, .class_ 100), (1, u "java/lang/Math$RandomNumberGeneratorHolder"), (20, u "(JJ)J"), (50, u "negativeZeroFloatBits"), (0, u "J"), (2, u "negativeZeroDoubleBits"), (21, u "max"), (46, u "$assertionsDisabled"), (0, u "Z"), (91, u "twoToTheDoubleScaleDown"), (0, u "D"), (4, u "twoToTheDoubleScaleUp"), (9, u "E"), (3, u "PI"), (2, u "TAU"), (2, u "DEGREES_TO_RADIANS"), (0, u "RADIANS_TO_DEGREES")] 94

def k2m0 : Method := { name := "<init>", desc := "()V", sig := { parameters := [], returnType := none }, accessFlags := 2, code := none }
def k2c1 : Code := { maxStack := 4, maxLocals := 4, code := jdk_29_method_66_code, exceptionTable := #[], attributes := #[] }
def k2m1 : Method := { name := "max", desc := "(JJ)J", sig := { parameters := [.long, .long], returnType := some .long }, accessFlags := 9, code := some k2c1 }
/-- java/lang/Math -/
def k2 : Class := { plain "java/lang/Math" (some 0) with
  accessFlags := 49
  interfaces := #[]
  cf := some (fileOf pool2 1 #[.nestMembers #[98]] #[{ accessFlags := 2, nameIndex := 7, descriptorIndex := 8, attributes := #[] }, { accessFlags := 9, nameIndex := 198, descriptorIndex := 121, attributes := #[] }] 49 4 #[] #[{ accessFlags := 25, nameIndex := 354, descriptorIndex := 339, attributes := #[] }, { accessFlags := 25, nameIndex := 358, descriptorIndex := 339, attributes := #[] }, { accessFlags := 25, nameIndex := 361, descriptorIndex := 339, attributes := #[] }, { accessFlags := 26, nameIndex := 364, descriptorIndex := 339, attributes := #[] }, { accessFlags := 26, nameIndex := 365, descriptorIndex := 339, attributes := #[] }, { accessFlags := 26, nameIndex := 172, descriptorIndex := 173, attributes := #[] }, { accessFlags := 26, nameIndex := 176, descriptorIndex := 173, attributes := #[] }, { accessFlags := 8, nameIndex := 344, descriptorIndex := 339, attributes := #[] }, { accessFlags := 8, nameIndex := 338, descriptorIndex := 339, attributes := #[] }, { accessFlags := 4120, nameIndex := 245, descriptorIndex := 246, attributes := #[] }])
  fields := #[{ name := "E", type := .double, accessFlags := 25, slot := 0, constantValue := 0 }, { name := "PI", type := .double, accessFlags := 25, slot := 1, constantValue := 0 }, { name := "TAU", type := .double, accessFlags := 25, slot := 2, constantValue := 0 }, { name := "DEGREES_TO_RADIANS", type := .double, accessFlags := 26, slot := 3, constantValue := 0 }, { name := "RADIANS_TO_DEGREES", type := .double, accessFlags := 26, slot := 4, constantValue := 0 }, { name := "negativeZeroFloatBits", type := .long, accessFlags := 26, slot := 5, constantValue := 0 }, { name := "negativeZeroDoubleBits", type := .long, accessFlags := 26, slot := 6, constantValue := 0 }, { name := "twoToTheDoubleScaleUp", type := .double, accessFlags := 8, slot := 7, constantValue := 0 }, { name := "twoToTheDoubleScaleDown", type := .double, accessFlags := 8, slot := 8, constantValue := 0 }, { name := "$assertionsDisabled", type := .boolean, accessFlags := 4120, slot := 9, constantValue := 0 }]
  methods := #[k2m0, k2m1]
  instanceTypes := #[]
  staticTypes := #[.double, .double, .double, .double, .double, .long, .long, .double, .double, .boolean]
  resolved := Array.replicate 460 none
  statics := none }

def pool3 : Array CpInfo := pool [(1, .methodref 2 3), (0, .class_ 4), (0, .nameAndType 5 6), (0, u "java/lang/Object"), (0, u "<init>"), (0, u "()V"), (9, .class_ 17), (0, u "com/example/umbel/umbel/rank/RankEquation"), (0, .double 4594572339843380019), (1, .fieldref 16 21), (0, .nameAndType 22 23), (0, u "teleportShare"), (0, u "D"), (0, .fieldref 16 25), (0, .nameAndType 26 23), (0, u "danglingShare"), (0, .double 4605831338911806259), (3, u "rank"), (0, u "(D)D"), (0, u "DAMPING"), (1, u "TELEPORT"), (0, u "(JD)V")] 24

def k3c0 : Code := { maxStack := 5, maxLocals := 5, code := prog_8_method_1_code, exceptionTable := #[], attributes := #[] }
def k3m0 : Method := { name := "<init>", desc := "(JD)V", sig := { parameters := [.long, .double], returnType := none }, accessFlags := 1, code := some k3c0 }
def k3c1 : Code := { maxStack := 8, maxLocals := 3, code := prog_8_method_3_code, exceptionTable := #[], attributes := #[] }
def k3m1 : Method := { name := "rank", desc := "(D)D", sig := { parameters := [.double], returnType := some .double }, accessFlags := 1, code := some k3c1 }
/-- com/example/umbel/umbel/rank/RankEquation -/
def k3 : Class := { plain "com/example/umbel/umbel/rank/RankEquation" (some 0) with
  accessFlags := 49
  interfaces := #[]
  cf := some (fileOf pool3 16 #[] #[{ accessFlags := 1, nameIndex := 5, descriptorIndex := 36, attributes := #[] }, { accessFlags := 1, nameIndex := 31, descriptorIndex := 32, attributes := #[] }] 49 2 #[] #[{ accessFlags := 25, nameIndex := 33, descriptorIndex := 23, attributes := #[] }, { accessFlags := 26, nameIndex := 35, descriptorIndex := 23, attributes := #[] }, { accessFlags := 18, nameIndex := 22, descriptorIndex := 23, attributes := #[] }, { accessFlags := 18, nameIndex := 26, descriptorIndex := 23, attributes := #[] }])
  fields := #[{ name := "DAMPING", type := .double, accessFlags := 25, slot := 0, constantValue := 0 }, { name := "TELEPORT", type := .double, accessFlags := 26, slot := 1, constantValue := 0 }, { name := "teleportShare", type := .double, accessFlags := 18, slot := 0, constantValue := 0 }, { name := "danglingShare", type := .double, accessFlags := 18, slot := 1, constantValue := 0 }]
  methods := #[k3m0, k3m1]
  instanceTypes := #[.double, .double]
  staticTypes := #[.double, .double]
  resolved := Array.replicate 61 none
  statics := none }

def pool4 : Array CpInfo := pool [(1, u "java/lang/Cloneable"), (0, .class_ 1), (0, u "java/lang/Object"), (0, .class_ 3)] 3

/-- java/lang/Cloneable -/
def k4 : Class := { plain "java/lang/Cloneable" (some 0) with
  accessFlags := 1537
  interfaces := #[]
  cf := some (fileOf pool4 2 #[] #[] 1537 4 #[] #[])
  fields := #[]
  methods := #[]
  instanceTypes := #[]
  staticTypes := #[]
  resolved := Array.replicate 8 none
  statics := none }

def pool5 : Array CpInfo := pool [(1, u "java/io/Serializable"), (0, .class_ 1), (0, u "java/lang/Object"), (0, .class_ 3)] 3

/-- java/io/Serializable -/
def k5 : Class := { plain "java/io/Serializable" (some 0) with
  accessFlags := 1537
  interfaces := #[]
  cf := some (fileOf pool5 2 #[] #[] 1537 4 #[] #[])
  fields := #[]
  methods := #[]
  instanceTypes := #[]
  staticTypes := #[]
  resolved := Array.replicate 8 none
  statics := none }

/-- the primitive byte -/
def k6 : Class := { plain "byte" none with kind := .primitive 'B', accessFlags := 0x411 }
/-- [B -/
def k7 : Class := { plain "[B" (some 0) with kind := .array 6 .byte, interfaces := #[4, 5], accessFlags := 1041 }

/-- the primitive int -/
def k8 : Class := { plain "int" none with kind := .primitive 'I', accessFlags := 0x411 }
/-- [I -/
def k9 : Class := { plain "[I" (some 0) with kind := .array 8 .int, interfaces := #[4, 5], accessFlags := 1041 }

def heap : Heap := #[]
def classes : Array Class := #[k0, k1, k2, k3, k4, k5, k6, k7, k8, k9]
def interned : List (Array UInt16 × Addr) := []
def slotsUsed : Nat := 0
def theMethod : MethodId := ⟨1, 1⟩
def args0 : Array Value := #[.long 5, .int 3, .int 4]
def aboutOver (below : List Frame) : State where
  vm := { classes := classes, interned := interned.toArray }
  heap := heap
  slotsUsed := slotsUsed
  threads := #[{ frames := .invoking theMethod args0 :: below }]
def below0 : List Frame := [.native { method := ⟨0, 0⟩, args := #[] }]
def about1 : State := aboutOver below0
def p0 : Program := .bare "" "" ""
def e0 : Env := launch0.env 0 0 0
theorem w_frames : about1.frames = Frame.invoking theMethod args0 :: below0 := rfl
set_option maxRecDepth 65536 in
theorem w_args : argsFit about1.vm theMethod args0 = true := by decide +kernel
set_option maxRecDepth 65536 in
theorem w_heap : heapFits about1 = true := by decide +kernel
set_option maxRecDepth 65536 in
theorem w_runnable : about1.curStatus? = some .runnable := by decide +kernel
set_option maxRecDepth 65536 in
theorem w_alone : about1.alone = true := by decide +kernel
set_option maxRecDepth 65536 in
theorem w_named : about1.methodNamed? x = some theMethod := by decide +kernel
set_option maxRecDepth 65536 in
theorem w_hears : about1.hears theMethod below0 = true := by decide +kernel
set_option maxRecDepth 65536 in
theorem w_ripe : about1.ripe theMethod args0 below0 = true := by decide +kernel
theorem w_running : about1.status = .running := rfl
set_option maxRecDepth 65536 in
theorem w_room : about1.hasRoom e0.platform room_1 = true :=
  launch0.hasRoom_least _ room_1 (by decide +kernel) (by decide +kernel) (by decide +kernel) (by decide +kernel) (by decide +kernel) (by decide +kernel)
theorem allAtoms_all (ts : List Jvm.Cond) (a : Array Jvm.Value) (st : Jvm.State) : (allAtoms ts).before a st = ts.all (fun c => c.before a st) := by
  induction ts with
  | nil => rfl
  | cons c t ih =>
    show (Jvm.Cond.and c (allAtoms t)).before a st = _
    rw [Jvm.Cond.before_and, ih, List.all_cons]
def words1 : List Jvm.Cond := Jvm.Cond.code x code maxLocals ret :: tables_1
/-- a 'code' word, met by the world's own term for the bytes: nothing is compared byte by byte -/
theorem code_word {y : MethodName} {bytes : ByteArray} {mx : Nat} {rt : Option FieldType} {a : Array Value} {s : State} {m : MethodId} {meth : Method} {c : Code} (h1 : s.methodNamed? y = some m) (h2 : s.vm.method? m = some meth) (h3 : meth.code = some c) (h4 : c.code = bytes)
    (h5 : (c.maxLocals == mx && c.exceptionTable.isEmpty && decide (c.maxStack ≤ mostOperands) && decide (meth.sig.returnType = rt) && !meth.locks && decide (parseMethodDescriptor y.desc = some meth.sig)) = true) : (Jvm.Cond.code y bytes mx rt).before a s = true := by
  simp only [Bool.and_eq_true, beq_iff_eq, Bool.not_eq_true', decide_eq_true_eq] at h5
  obtain ⟨⟨⟨⟨⟨g1, g2⟩, g3⟩, g4⟩, g5⟩, g6⟩ := h5
  simp [Cond.before, Cond.holds, Cond.value, h1, h2, h3, h4, g1, g2, g3, g4, g5, g6]
def isCode : Jvm.Cond → Bool
  | .code _ _ _ _ => true
  | _ => false
theorem all_split {L : List Jvm.Cond} {P : Jvm.Cond → Bool} (h1 : L.all (fun c => isCode c || P c) = true) (h2 : ∀ c ∈ L.filter isCode, P c = true) : L.all P = true := by
  refine List.all_eq_true.mpr fun c hc => ?_
  have h := List.all_eq_true.mp h1 c hc
  rcases Bool.eq_false_or_eq_true (isCode c) with hi | hi
  · exact h2 c (List.mem_filter.mpr ⟨hc, hi⟩)
  · simpa [hi] using h
set_option maxRecDepth 65536 in
theorem w_c0 : (Jvm.Cond.code x code maxLocals ret).before args0 about1 = true := code_word (m := ⟨1, 1⟩) (meth := k1m1) (c := k1c1) (by decide +kernel) rfl rfl rfl (by decide +kernel)
set_option maxRecDepth 65536 in
theorem w_c1 : (Jvm.Cond.code ({ cls := "java/lang/Math", name := "max", desc := "(JJ)J" } : Jvm.MethodName) jdk_29_method_66_code (4 : Nat) (Option.some Jvm.ClassFile.FieldType.long)).before args0 about1 = true := code_word (m := ⟨2, 1⟩) (meth := k2m1) (c := k2c1) (by decide +kernel) rfl rfl rfl (by decide +kernel)
set_option maxRecDepth 65536 in
theorem w_c2 : (Jvm.Cond.code ({ cls := "com/example/umbel/umbel/rank/RankEquation", name := "<init>", desc := "(JD)V" } : Jvm.MethodName) prog_8_method_1_code (5 : Nat) (Option.none : Option Jvm.ClassFile.FieldType)).before args0 about1 = true := code_word (m := ⟨3, 0⟩) (meth := k3m0) (c := k3c0) (by decide +kernel) rfl rfl rfl (by decide +kernel)
set_option maxRecDepth 65536 in
theorem w_c3 : (Jvm.Cond.code ({ cls := "java/lang/Object", name := "<init>", desc := "()V" } : Jvm.MethodName) object_method_1_code (1 : Nat) (Option.none : Option Jvm.ClassFile.FieldType)).before args0 about1 = true := code_word (m := ⟨0, 0⟩) (meth := k0m0) (c := k0c0) (by decide +kernel) rfl rfl rfl (by decide +kernel)
set_option maxRecDepth 65536 in
theorem w_c4 : (Jvm.Cond.code ({ cls := "com/example/umbel/umbel/rank/RankEquation", name := "rank", desc := "(D)D" } : Jvm.MethodName) prog_8_method_3_code (3 : Nat) (Option.some Jvm.ClassFile.FieldType.double)).before args0 about1 = true := code_word (m := ⟨3, 1⟩) (meth := k3m1) (c := k3c1) (by decide +kernel) rfl rfl rfl (by decide +kernel)
def codes1 : List Jvm.Cond := [Jvm.Cond.code x code maxLocals ret, Jvm.Cond.code ({ cls := "java/lang/Math", name := "max", desc := "(JJ)J" } : Jvm.MethodName) jdk_29_method_66_code (4 : Nat) (Option.some Jvm.ClassFile.FieldType.long), Jvm.Cond.code ({ cls := "com/example/umbel/umbel/rank/RankEquation", name := "<init>", desc := "(JD)V" } : Jvm.MethodName) prog_8_method_1_code (5 : Nat) (Option.none : Option Jvm.ClassFile.FieldType), Jvm.Cond.code ({ cls := "java/lang/Object", name := "<init>", desc := "()V" } : Jvm.MethodName) object_method_1_code (1 : Nat) (Option.none : Option Jvm.ClassFile.FieldType), Jvm.Cond.code ({ cls := "com/example/umbel/umbel/rank/RankEquation", name := "rank", desc := "(D)D" } : Jvm.MethodName) prog_8_method_3_code (3 : Nat) (Option.some Jvm.ClassFile.FieldType.double)]
set_option maxRecDepth 65536 in
theorem codes_eq : words1.filter isCode = codes1 := rfl
theorem w_codes : ∀ c ∈ words1.filter isCode, c.before args0 about1 = true := by
  rw [codes_eq]
  intro c hc
  simp only [codes1, List.mem_cons, List.not_mem_nil, or_false] at hc
  rcases hc with rfl | rfl | rfl | rfl | rfl
  · exact w_c0
  · exact w_c1
  · exact w_c2
  · exact w_c3
  · exact w_c4
set_option maxRecDepth 65536 in
theorem w_t1 : (words1.take 24).all (fun c => isCode c || c.before args0 about1) = true := by decide +kernel
set_option maxRecDepth 65536 in
theorem w_t2 : (words1.drop 24).all (fun c => isCode c || c.before args0 about1) = true := by decide +kernel
theorem w_tables : (allAtoms (Jvm.Cond.code x code maxLocals ret :: tables_1)).before args0 about1 = true := by
  rw [allAtoms_all]
  show words1.all (fun c => c.before args0 about1) = true
  refine all_split ?_ w_codes
  rw [← List.take_append_drop 24 words1, List.all_append, w_t1, w_t2]
  rfl
set_option maxRecDepth 65536 in
theorem w_case : (Jvm.Cond.and given_1 narrow_1).before args0 about1 = true := by decide +kernel
theorem w_applies : (headSpec (Jvm.Cond.code x code maxLocals ret :: tables_1) room_1).applies x e0.platform about1 = true :=
  (Spec.applies_iff w_frames).mpr ⟨w_running, w_runnable, w_alone, w_named, w_hears, w_ripe, w_room, w_tables⟩
theorem atStart : AtStart classFile x code maxLocals ret World_1 tables_1 room_1 Calls_1 rest_1 Pre_1 launch0 p0 e0 about1 theMethod args0 below0 :=
  ⟨lists_1, trivial, launch0.admits_env _ _ _, launch0.least_env, fairChoices_fair.cas, fairChoices_fair.clock, w_frames, w_args, w_heap, w_applies, trivial, trivial, w_case⟩
end start1
theorem witness_1 : WitnessClaimed_1 := ⟨start1.p0, start1.e0, start1.about1, start1.theMethod, start1.args0, start1.below0, start1.atStart⟩
end Jvm.Pilot.@@N@@
