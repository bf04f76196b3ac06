import JvmDerived
import JvmDerived.Pilot.@@N@@Statement
import JvmDerived.Pilot.@@N@@Code
set_option linter.unusedVariables false
set_option linter.unusedSimpArgs false
namespace Jvm.RoadKit
open Sem ClassFile Op Lib Jvm.Stand Jvm.Free Jvm.LawKit
section New
variable {p : Program} {l : Launch} {e : Env} {R : Room} {s : State} {m : MethodId} {args : Array Value} {below : List Frame} {meth : Method} {c : Code} {T : State} {locs : List Loc} {cells slots : Nat}
theorem retI (X : Stand p l e R s m args below meth c T locs cells slots) (hx : p.tables.exec = Jvm.exec) {pc : Nat} {Ls : Array Slot} {z : Int32} {rest : List Value} (hret : meth.sig.returnType = some .int) (hd : decode c.code pc = .ok (.ireturn, 1)) {fs : List Frame}
    (hl : ∀ (f : JFrame) (acts : List Action), f.method = m → f.locked = none → f.entered = [] → (doReturn e (T.setTop f) acts (some (.int z))).1 = T.setFrames fs) : Steps p.tables e below (T.setTop (mkF m pc Ls (.int z :: rest))) (T.setFrames fs) := by
  have hm' : T.vm.method? m = some meth := X.method'
  have hn : narrow .int (.int z) = .int z := rfl
  show Steps p.tables e below (T.setTop { method := m, pc := pc, locals := Ls, stack := _ :: rest, locked := none }) _
  jvm_step X.here [X.here.top, hx, hd, hm', hret, hn]
  first | (intro acts; rw [hl _ acts rfl rfl rfl]) | rw [hl _ _ rfl rfl rfl]
  exact Steps.refl _
end New
end Jvm.RoadKit
namespace Jvm.Pilot.@@N@@
open Jvm Jvm.ClassFile Sem Op Lib Jvm.Free Jvm.Stand Jvm.LawKit Jvm.RoadKit Bundle Jvm.Free.Fl Jvm.Pilot.@@N@@.Jvm.D
/-- the run comes from the frame g0 (over T0) to the frame g (over T) -/
abbrev Go (p : Program) (e : Env) (below : List Frame) (T0 : State) (g0 : JFrame) (T : State) (g : JFrame) : Prop :=
  ∀ t, Steps p.tables e below (T.setTop g) t → Steps p.tables e below (T0.setTop g0) t
theorem d1_0 : decode prog_34_method_1_code 0 = .ok (.aload_n 0, 1) := by decide +kernel
theorem d1_1 : decode prog_34_method_1_code 1 = .ok (.invokespecial 1, 3) := by decide +kernel
theorem d1_4 : decode prog_34_method_1_code 4 = .ok (.aload_n 0, 1) := by decide +kernel
theorem d1_5 : decode prog_34_method_1_code 5 = .ok (.dload_n 1, 1) := by decide +kernel
theorem d1_6 : decode prog_34_method_1_code 6 = .ok (.putfield 7, 3) := by decide +kernel
theorem d1_9 : decode prog_34_method_1_code 9 = .ok (.aload_n 0, 1) := by decide +kernel
theorem d1_10 : decode prog_34_method_1_code 10 = .ok (.dload_n 3, 1) := by decide +kernel
theorem d1_11 : decode prog_34_method_1_code 11 = .ok (.putfield 13, 3) := by decide +kernel
theorem d1_14 : decode prog_34_method_1_code 14 = .ok (.return_, 1) := by decide +kernel
theorem d2_0 : decode jdk_30_method_1_code 0 = .ok (.aload_n 0, 1) := by decide +kernel
theorem d2_1 : decode jdk_30_method_1_code 1 = .ok (.invokespecial 1, 3) := by decide +kernel
theorem d2_4 : decode jdk_30_method_1_code 4 = .ok (.return_, 1) := by decide +kernel
theorem d4_0 : decode prog_34_method_2_code 0 = .ok (.aload_n 0, 1) := by decide +kernel
theorem d4_1 : decode prog_34_method_2_code 1 = .ok (.getfield 13, 3) := by decide +kernel
theorem d4_4 : decode prog_34_method_2_code 4 = .ok (.dconst 0, 1) := by decide +kernel
theorem d4_5 : decode prog_34_method_2_code 5 = .ok (.dcmp .l, 1) := by decide +kernel
theorem d4_6 : decode prog_34_method_2_code 6 = .ok (.ifCond .le 15, 3) := by decide +kernel
theorem d4_9 : decode prog_34_method_2_code 9 = .ok (.aload_n 0, 1) := by decide +kernel
theorem d4_10 : decode prog_34_method_2_code 10 = .ok (.getfield 7, 3) := by decide +kernel
theorem d4_13 : decode prog_34_method_2_code 13 = .ok (.aload_n 0, 1) := by decide +kernel
theorem d4_14 : decode prog_34_method_2_code 14 = .ok (.getfield 13, 3) := by decide +kernel
theorem d4_17 : decode prog_34_method_2_code 17 = .ok (.ddiv, 1) := by decide +kernel
theorem d4_18 : decode prog_34_method_2_code 18 = .ok (.goto 4, 3) := by decide +kernel
theorem d4_21 : decode prog_34_method_2_code 21 = .ok (.dconst 1, 1) := by decide +kernel
theorem d4_22 : decode prog_34_method_2_code 22 = .ok (.dreturn, 1) := by decide +kernel
theorem pd___V : parseMethodDescriptor "()V" = some ⟨[], none⟩ := by decide +kernel
theorem pd__DD_V : parseMethodDescriptor "(DD)V" = some ⟨[.double, .double], none⟩ := by decide +kernel
theorem pd___D : parseMethodDescriptor "()D" = some ⟨[], some .double⟩ := by decide +kernel
/-! ## own toolkit: doubles by their whole number of units of 2^-1074 -/
section OwnFP
open Jvm.FP.Core
/-- a finite double, and its value in units of 2^-1074 -/
def Zv (a : UInt64) (z : Int) : Prop := DFin a ∧ zval b64 (val64 a) = z
theorem own_qmax : b64.qmax = 971 := by decide +kernel
theorem own_rep (s : Bool) {k j : Nat} (hk : k < 2 ^ 53) (hj : j ≤ 2045) : ∃ V : Datum, FP.Core.fits b64 V ∧ V ≠ .nan ∧ zval b64 V = signed s (k * 2 ^ j) := by
  have q1 := qmin_b64
  have q2 := own_qmax
  obtain ⟨c', q', e1, e2⟩ := round_exact good_b64 s (c := k) (q := b64.qmin + (j : Int)) hk (by omega) (by omega)
  refine ⟨_, round_fits good_b64 (.fin s k (b64.qmin + (j : Int))), by rw [e1]; simp, ?_⟩
  rw [e1]
  show signed s (inUnits c' q' b64.qmin) = _
  rw [e2]
  unfold inUnits
  rw [show (b64.qmin + (j : Int) - b64.qmin).toNat = j by omega]
theorem own_repZ {z k : Int} {j : Nat} (hk : k.natAbs < 2 ^ 53) (hj : j ≤ 2045) (hz : z = k * ((2 ^ j : Nat) : Int)) : ∃ V : Datum, FP.Core.fits b64 V ∧ V ≠ .nan ∧ zval b64 V = z := by
  obtain ⟨V, h1, h2, h3⟩ := own_rep (decide (k < 0)) hk hj
  refine ⟨V, h1, h2, ?_⟩
  rw [h3, hz, signed_mul]
  have : signed (decide (k < 0)) k.natAbs = k := by
    unfold signed
    by_cases h : k < 0
    · simp only [h, decide_true, if_true]; omega
    · simp only [h, decide_false]; simp; omega
  rw [this]
theorem own_round {s : Bool} {c : Nat} {q : Int} (hq : b64.qmin ≤ q) {z k : Int} {j : Nat} (hz : signed s (inUnits c q b64.qmin) = z) (hk : k.natAbs < 2 ^ 53) (hj : j ≤ 2045) (hzk : z = k * ((2 ^ j : Nat) : Int)) : zval b64 (round b64 (.fin s c q)) = z := by
  obtain ⟨V, h1, h2, h3⟩ := own_repZ hk hj hzk
  have e : ((2 ^ (b64.qmin - b64.qmin).toNat : Nat) : Int) = 1 := by rw [show (b64.qmin - b64.qmin).toNat = 0 by omega]; rfl
  apply Int.le_antisymm
  · rw [← h3]
    exact zval_round_le good_b64 h1 h2 (e0 := b64.qmin) (Int.le_refl _) hq (by rw [hz, h3, e]; omega)
  · rw [← h3]
    exact zval_round_ge good_b64 h1 h2 (e0 := b64.qmin) (Int.le_refl _) hq (by rw [hz, h3, e]; omega)
theorem own_small {k : Int} {j : Nat} (hk : k.natAbs < 2 ^ 53) (hj : j ≤ 2045) : (k * ((2 ^ j : Nat) : Int)).natAbs < 2 ^ 2098 := by
  rw [Int.natAbs_mul, Int.natAbs_natCast]
  have h2 : 2 ^ j ≤ 2 ^ 2045 := Nat.pow_le_pow_right (by decide) hj
  calc k.natAbs * 2 ^ j ≤ k.natAbs * 2 ^ 2045 := Nat.mul_le_mul_left _ h2
    _ < 2 ^ 53 * 2 ^ 2045 := Nat.mul_lt_mul_of_pos_right hk (Nat.two_pow_pos _)
    _ = 2 ^ 2098 := by rw [← Nat.pow_add]
theorem own_fin {d : Datum} (hn : d ≠ .nan) (h : (zval b64 d).natAbs < 2 ^ 2098) : ∃ s c q, d = .fin s c q := by
  cases d with
  | nan => exact absurd rfl hn
  | inf s =>
    exfalso
    have e : (zval b64 (.inf s)).natAbs = b64.tails * 2 ^ (b64.exps - 2) := natAbs_signed _ _
    rw [e] at h
    exact absurd h (by decide +kernel)
  | fin s c q => exact ⟨s, c, q, rfl⟩
theorem own_round_fin {s : Bool} {c : Nat} {q : Int} (hq : b64.qmin ≤ q) {z k : Int} {j : Nat} (hz : signed s (inUnits c q b64.qmin) = z) (hk : k.natAbs < 2 ^ 53) (hj : j ≤ 2045) (hzk : z = k * ((2 ^ j : Nat) : Int)) {a : UInt64} (ha : val64 a = round b64 (.fin s c q)) : Zv a z := by
  have h := own_round hq hz hk hj hzk
  refine ⟨?_, by rw [ha]; exact h⟩
  unfold DFin
  rw [ha]
  exact own_fin (roundRatio_ne_nan _ _ _ _ _) (by rw [h, hzk]; exact own_small hk hj)
theorem Zv.fin {a : UInt64} {z : Int} (h : Zv a z) : Fin64 a := fin64_core.mpr h.1
theorem Zv.noNaN {a : UInt64} {z : Int} (h : Zv a z) : NoNaN64 a := h.fin.noNaN
theorem Zv.dadd {a b : UInt64} {x y k : Int} {j : Nat} (ha : Zv a x) (hb : Zv b y) (hk : k.natAbs < 2 ^ 53) (hj : j ≤ 2045) (hz : x + y = k * ((2 ^ j : Nat) : Int)) : Zv (FP.dadd a b) (x + y) := by
  obtain ⟨⟨s, c, q, e1⟩, z1⟩ := ha
  obtain ⟨⟨t, d, r, e2⟩, z2⟩ := hb
  have f1 := val64_fits a
  have f2 := val64_fits b
  rw [e1] at f1 z1
  rw [e2] at f2 z2
  obtain ⟨sg, n, e, e3, e4, e5⟩ := sum_units f1 f2
  rw [z1, z2] at e5
  exact own_round_fin e4 e5 hk hj hz (by show val64 (FP.Core.dadd a b) = _; rw [val64_dadd, e1, e2, e3])
theorem Zv.dneg {a : UInt64} {x : Int} (ha : Zv a x) : Zv (FP.dneg a) (-x) := by
  obtain ⟨⟨s, c, q, e1⟩, z1⟩ := ha
  have e := FP.val64_dneg a
  refine ⟨⟨!s, c, q, by rw [e, e1]; rfl⟩, by rw [e, zval_negate, z1]⟩
theorem Zv.dsub {a b : UInt64} {x y k : Int} {j : Nat} (ha : Zv a x) (hb : Zv b y) (hk : k.natAbs < 2 ^ 53) (hj : j ≤ 2045) (hz : x - y = k * ((2 ^ j : Nat) : Int)) : Zv (FP.dsub a b) (x - y) := by
  obtain ⟨⟨s, c, q, e1⟩, z1⟩ := ha
  obtain ⟨⟨t, d, r, e2⟩, z2⟩ := hb
  have f1 := val64_fits a
  have f2 := negate_fits (val64_fits b)
  have z3 : zval b64 (negate (val64 b)) = -y := by rw [zval_negate, z2]
  rw [e1] at f1 z1
  rw [e2] at f2 z3
  obtain ⟨sg, n, e, e3, e4, e5⟩ := sum_units f1 (show FP.Core.fits b64 (.fin (!t) d r) from f2)
  rw [z1, show zval b64 (.fin (!t) d r) = -y from z3] at e5
  exact own_round_fin e4 (z := x - y) (by rw [e5]; omega) hk hj hz (by show val64 (FP.Core.dsub a b) = _; rw [val64_dsub, e1, e2]; show round b64 (exactSum _ (.fin (!t) d r)) = _; rw [e3])
theorem own_ofInt (i : Int) : signed (decide (i < 0)) (inUnits i.natAbs 0 b64.qmin) = i * ((2 ^ 1074 : Nat) : Int) := by
  unfold inUnits
  rw [signed_mul, qmin_b64]
  have : signed (decide (i < 0)) i.natAbs = i := by
    unfold signed
    by_cases h : i < 0
    · simp only [h, decide_true, if_true]; omega
    · simp only [h, decide_false]; simp; omega
  rw [this]
  rfl
theorem Zv.l2d {n : Int64} {k : Int} {j : Nat} (hk : k.natAbs < 2 ^ 53) (hj : j ≤ 971) (hn : n.toInt = k * ((2 ^ j : Nat) : Int)) : Zv (FP.l2d n) (n.toInt * ((2 ^ 1074 : Nat) : Int)) :=
  own_round_fin (q := 0) (by rw [qmin_b64]; decide) (own_ofInt n.toInt) hk (show j + 1074 ≤ 2045 by omega) (by rw [hn, Int.mul_assoc, Nat.pow_add, Int.natCast_mul]) (val64_l2d n)
theorem Zv.i2d (n : Int32) : Zv (FP.i2d n) (n.toInt * ((2 ^ 1074 : Nat) : Int)) :=
  own_round_fin (q := 0) (k := n.toInt) (j := 1074) (by rw [qmin_b64]; decide) (own_ofInt n.toInt) (by have := int32_abs n; omega) (by decide) rfl (val64_i2d n)
theorem Zv.dcmp_eq {a b : UInt64} {x : Int} (ha : Zv a x) (hb : Zv b x) : FP.dcmp a b = some .eq := by
  show FP.Core.dcmp a b = _
  rw [FP.Core.dcmp_eq]
  exact ⟨ha.1.ne_nan, hb.1.ne_nan, ha.2.trans hb.2.symm⟩
theorem Zv.dcmp_lt {a b : UInt64} {x y : Int} (ha : Zv a x) (hb : Zv b y) (h : x < y) : FP.dcmp a b = some .lt := by
  show FP.Core.dcmp a b = _
  rw [FP.Core.dcmp_lt]
  exact ⟨ha.1.ne_nan, hb.1.ne_nan, by rw [ha.2, hb.2]; exact h⟩
theorem Zv.dcmp_gt {a b : UInt64} {x y : Int} (ha : Zv a x) (hb : Zv b y) (h : y < x) : FP.dcmp a b = some .gt := by
  show FP.Core.dcmp a b = _
  rw [FP.Core.dcmp_gt]
  exact ⟨ha.1.ne_nan, hb.1.ne_nan, by rw [ha.2, hb.2]; exact h⟩
theorem own_zmag {a : UInt64} {x : Int} (ha : Zv a x) : zmag b64 (val64 a) = x.natAbs := by
  have h := congrArg Int.natAbs ha.2
  rw [← h]
  exact (natAbs_signed _ _).symm
/-- a quotient by a positive number, between two written numbers -/
theorem Zv.ddiv {a b : UInt64} {x y : Int} (ha : Zv a x) (hb : Zv b y) (hy : 0 < y) {k1 k2 j1 j2 : Nat} (hk1 : k1 < 2 ^ 53) (hj1 : j1 ≤ 2045) (hk2 : k2 < 2 ^ 53) (hj2 : j2 ≤ 2045)
    (h1 : k1 * 2 ^ j1 * y.natAbs ≤ x.natAbs * 2 ^ 1074) (h2 : x.natAbs * 2 ^ 1074 ≤ k2 * 2 ^ j2 * y.natAbs) : ∃ m : Nat, k1 * 2 ^ j1 ≤ m ∧ m ≤ k2 * 2 ^ j2 ∧ Zv (FP.ddiv a b) (if x < 0 then -(m : Int) else (m : Int)) := by
  have m1 := own_zmag ha
  have m2 := own_zmag hb
  obtain ⟨⟨s, A, q, e1⟩, z1⟩ := ha
  obtain ⟨⟨t, B, r, e2⟩, z2⟩ := hb
  have f1 := val64_fits a
  have f2 := val64_fits b
  rw [e1] at f1 m1 z1
  rw [e2] at f2 m2 z2
  have qa : b64.qmin ≤ q := f1.2.1
  have qb : b64.qmin ≤ r := f2.2.1
  have qm := qmin_b64
  have m1' : A * 2 ^ (q - b64.qmin).toNat = x.natAbs := m1
  have m2' : B * 2 ^ (r - b64.qmin).toNat = y.natAbs := m2
  have hB : 0 < B := Nat.pos_of_ne_zero fun e => by rw [e, Nat.zero_mul] at m2'; omega
  have ht : t = false := by
    cases t with
    | false => rfl
    | true =>
      exfalso
      have : -((B * 2 ^ (r - b64.qmin).toNat : Nat) : Int) = y := z2
      omega
  subst ht
  have ed : val64 (FP.ddiv a b) = roundRatio b64 s A B (q - r) := by
    show val64 (FP.Core.ddiv a b) = _
    rw [val64_ddiv, e1, e2]
    show (if B = 0 then _ else roundRatio b64 (s != false) A B (q - r)) = _
    rw [if_neg (by omega)]
    simp
  have eA : inUnits A (q - r) (2 * b64.qmin - r) = x.natAbs * 2 ^ 1074 := by
    rw [← m1']
    unfold inUnits
    rw [show (q - r - (2 * b64.qmin - r)).toNat = (q - b64.qmin).toNat + 1074 by omega, Nat.pow_add, Nat.mul_assoc]
  have eV : ∀ z : Nat, z * 2 ^ (b64.qmin - (2 * b64.qmin - r)).toNat * B = z * y.natAbs := fun z => by
    rw [show (b64.qmin - (2 * b64.qmin - r)).toNat = (r - b64.qmin).toNat by omega, Nat.mul_assoc, ← m2', Nat.mul_comm B]
  obtain ⟨V1, v1, n1, w1⟩ := own_rep false hk1 hj1
  obtain ⟨V2, v2, n2, w2⟩ := own_rep false hk2 hj2
  have zV : ∀ (V : Datum) (k : Nat), zval b64 V = signed false k → zmag b64 V = k := fun V k h => by
    have h := congrArg Int.natAbs h
    rw [show (signed false k).natAbs = k from natAbs_signed _ _] at h
    exact (natAbs_signed _ _).symm.trans h
  have u1 := zV _ _ w1
  have u2 := zV _ _ w2
  have lo := zmag_roundRatio_ge good_b64 (s := s) (A := A) (B := B) (e := q - r) (e0 := 2 * b64.qmin - r) hB v1 (by omega) (by omega) (by rw [eA, eV, u1]; exact h1)
  have hi := zmag_roundRatio_le good_b64 (s := s) (A := A) (B := B) (e := q - r) (e0 := 2 * b64.qmin - r) hB v2 n2 (by omega) (by omega) (by rw [eA, eV, u2]; exact h2)
  rw [u1] at lo
  rw [u2] at hi
  refine ⟨zmag b64 (roundRatio b64 s A B (q - r)), lo, hi, ?_, ?_⟩
  · unfold DFin
    rw [ed]
    refine own_fin (roundRatio_ne_nan _ _ _ _ _) ?_
    rw [show (zval b64 (roundRatio b64 s A B (q - r))).natAbs = _ from natAbs_signed _ _]
    refine Nat.lt_of_le_of_lt hi ?_
    have := own_small (k := (k2 : Int)) (j := j2) (by omega) hj2
    rw [← Int.natCast_mul, Int.natAbs_natCast] at this
    exact this
  · rw [ed]
    unfold zval
    rw [sgn_roundRatio]
    have z1' : signed s (A * 2 ^ (q - b64.qmin).toNat) = x := z1
    by_cases hx : x < 0
    · rw [if_pos hx]
      cases s with
      | true => rfl
      | false => exfalso; have : ((A * 2 ^ (q - b64.qmin).toNat : Nat) : Int) = x := z1'; omega
    · rw [if_neg hx]
      cases s with
      | false => rfl
      | true =>
        have h3 : -((A * 2 ^ (q - b64.qmin).toNat : Nat) : Int) = x := z1'
        have hA : A = 0 := by
          rcases Nat.eq_zero_or_pos A with h | h
          · exact h
          · exfalso; have := Nat.mul_pos h (Nat.two_pow_pos (q - b64.qmin).toNat); omega
        subst hA
        have : zmag b64 (roundRatio b64 true 0 B (q - r)) = 0 := by
          unfold roundRatio
          rw [if_pos rfl]
          show inUnits 0 _ _ = 0
          unfold inUnits
          exact Nat.zero_mul _
        rw [this]; rfl
theorem own_one : Zv (4607182418800017408 : UInt64) (((2 ^ 1074 : Nat) : Int)) := by
  have h : (4607182418800017408 : UInt64) = FP.i2d 1 := by decide +kernel
  rw [h]
  have := Zv.i2d 1
  rw [show (1 : Int32).toInt = 1 from rfl, Int.one_mul] at this
  exact this
theorem own_zero : Zv (0 : UInt64) 0 := ⟨⟨_, _, _, val64_zero⟩, zval64_zero⟩
end OwnFP

theorem own_log (M : Nat) (h0 : 0 < M) (h1 : M < 2 ^ 31) : ∃ t, t ≤ 31 ∧ M < 2 ^ t ∧ 2 ^ t ≤ 2 * M := by
  refine ⟨M.log2 + 1, ?_, Nat.lt_log2_self, ?_⟩
  · have := (Nat.log2_lt (by omega)).mpr h1
    omega
  · have := Nat.log2_self_le (show M ≠ 0 by omega)
    rw [Nat.pow_succ]; omega
/-- what the quotient is, by C = q * M + r -/
theorem own_q {a b : UInt64} {x : Int} {C M q r : Nat} (U : Nat) (hU : U = 2 ^ 1074) (ha : Zv a (x * (U : Int))) (hx : x.natAbs = C) (hb : Zv b ((M : Int) * (U : Int))) (h0 : 0 < M) (hM : M < 2 ^ 31) (hC : C ≤ 2 ^ 31) (hq : C = q * M + r) (hr : r < M) :
    ∃ m : Nat, Zv (FP.ddiv a b) (if x < 0 then -(m : Int) else (m : Int)) ∧ (r = 0 → m = q * U) ∧ (r ≠ 0 → q * U < m ∧ m < (q + 1) * U) := by
  have hUp : 0 < U := by rw [hU]; exact Nat.two_pow_pos _
  have y0 : (0 : Int) < (M : Int) * (U : Int) := Int.mul_pos (by omega) (by omega)
  have yn : ((M : Int) * (U : Int)).natAbs = M * U := by rw [← Int.natCast_mul, Int.natAbs_natCast]
  have xn : (x * (U : Int)).natAbs = C * U := by rw [Int.natAbs_mul, hx, Int.natAbs_natCast]
  have xs : (x * (U : Int) < 0) ↔ x < 0 := by
    constructor
    · intro h
      rcases Int.lt_or_le x 0 with q | q
      · exact q
      · exact absurd (Int.mul_nonneg q (show (0 : Int) ≤ U by omega)) (by omega)
    · intro h; exact Int.mul_neg_of_neg_of_pos h (by omega)
  have hqM : q * M ≤ 2 ^ 31 := by omega
  have hqb : q ≤ 2 ^ 31 := Nat.le_trans (Nat.le_mul_of_pos_right q h0) hqM
  rcases Nat.eq_zero_or_pos r with r0 | r0
  · subst r0
    obtain ⟨m, l, h, z⟩ := Zv.ddiv ha hb y0 (k1 := q) (k2 := q) (j1 := 1074) (j2 := 1074) (by omega) (by decide) (by omega) (by decide) (by rw [yn, xn, ← hU, hq, Nat.add_zero]; exact Nat.le_of_eq (by ac_rfl)) (by rw [yn, xn, ← hU, hq, Nat.add_zero]; exact Nat.le_of_eq (by ac_rfl))
    simp only [xs] at z
    refine ⟨m, z, fun _ => by rw [hU]; omega, fun h => absurd rfl h⟩
  · obtain ⟨t, t1, t2, t3⟩ := own_log M h0 hM
    have eU : U = 2 ^ t * 2 ^ (1074 - t) := by rw [hU, ← Nat.pow_add]; congr 1; omega
    have hW : 0 < 2 ^ (1074 - t) := Nat.two_pow_pos _
    have tb : 2 ^ t ≤ 2 ^ 31 := Nat.pow_le_pow_right (by decide) t1
    generalize hT : 2 ^ t = T at t2 t3 eU tb
    generalize hWW : 2 ^ (1074 - t) = W at eU hW
    have qT : (q + 1) * T ≤ 2 ^ 33 := by
      calc (q + 1) * T ≤ (q + 1) * (2 * M) := Nat.mul_le_mul_left _ t3
        _ = 2 * (q * M) + 2 * M := by rw [Nat.add_mul, Nat.one_mul, Nat.mul_left_comm]
        _ ≤ 2 ^ 33 := by omega
    have q1T : (q + 1) * T = q * T + T := by rw [Nat.add_mul, Nat.one_mul]
    have CT : C * T = q * T * M + r * T := by rw [hq, Nat.add_mul, Nat.mul_right_comm]
    have rT : M ≤ r * T := Nat.le_trans (Nat.le_of_lt t2) (Nat.le_mul_of_pos_left T r0)
    have sT : M + r * T ≤ M * T := by
      have : (r + 1) * T ≤ M * T := Nat.mul_le_mul_right T hr
      rw [Nat.add_mul, Nat.one_mul] at this
      omega
    obtain ⟨m, l, h, z⟩ := Zv.ddiv ha hb y0 (k1 := q * T + 1) (k2 := q * T + T - 1) (j1 := 1074 - t) (j2 := 1074 - t) (by omega) (by omega) (by omega) (by omega)
      (by
        rw [yn, xn, ← hU, hWW]
        have : (q * T + 1) * M ≤ C * T := by rw [CT, Nat.add_mul, Nat.one_mul]; omega
        calc (q * T + 1) * W * (M * U) = (q * T + 1) * M * (W * U) := by rw [Nat.mul_mul_mul_comm]
          _ ≤ C * T * (W * U) := Nat.mul_le_mul_right _ this
          _ = C * U * U := by rw [Nat.mul_assoc C T, ← Nat.mul_assoc T W U, ← eU, Nat.mul_assoc])
      (by
        rw [yn, xn, ← hU, hWW]
        have : C * T ≤ (q * T + T - 1) * M := by
          have e : (q * T + T - 1) * M + M = (q * T + T) * M := by
            rw [← Nat.succ_mul]; congr 1; omega
          have e2 : (q * T + T) * M = q * T * M + M * T := by rw [Nat.add_mul, Nat.mul_comm T M]
          omega
        calc C * U * U = C * T * (W * U) := by rw [Nat.mul_assoc C T, ← Nat.mul_assoc T W U, ← eU, Nat.mul_assoc]
          _ ≤ (q * T + T - 1) * M * (W * U) := Nat.mul_le_mul_right _ this
          _ = (q * T + T - 1) * W * (M * U) := by rw [Nat.mul_mul_mul_comm])
    simp only [xs] at z
    refine ⟨m, z, fun h => absurd h (by omega), fun _ => ⟨?_, ?_⟩⟩
    · rw [hWW] at l
      rw [eU, ← Nat.mul_assoc]
      have : q * T * W < (q * T + 1) * W := Nat.mul_lt_mul_of_pos_right (Nat.lt_succ_self _) hW
      omega
    · rw [hWW] at h
      rw [eU, ← Nat.mul_assoc, q1T]
      have : (q * T + T - 1) * W < (q * T + T) * W := Nat.mul_lt_mul_of_pos_right (by omega) hW
      omega
theorem own_div (c m : Int32) (hm : (0 : Int32) < m) : NoNaN64 (FP.ddiv (FP.i2d c) (FP.i2d m)) ∧
    (c % m = 0 → FP.dcmp (FP.ddiv (FP.i2d c) (FP.i2d m)) (FP.i2d (c / m)) = some .eq) ∧
    (¬ c % m = 0 → (0 : Int32) < c → FP.dcmp (FP.i2d (c / m)) (FP.ddiv (FP.i2d c) (FP.i2d m)) = some .lt ∧ FP.dcmp (FP.ddiv (FP.i2d c) (FP.i2d m)) (FP.dadd (FP.i2d (c / m)) 4607182418800017408) = some .lt) ∧
    (¬ c % m = 0 → ¬ (0 : Int32) < c → FP.dcmp (FP.dsub (FP.i2d (c / m)) 4607182418800017408) (FP.ddiv (FP.i2d c) (FP.i2d m)) = some .lt ∧ FP.dcmp (FP.ddiv (FP.i2d c) (FP.i2d m)) (FP.i2d (c / m)) = some .lt) ∧
    NoNaN64 (FP.dadd (FP.i2d (c / m)) 4607182418800017408) ∧ NoNaN64 (FP.dsub (FP.i2d (c / m)) 4607182418800017408) := by
  have hm' : 0 < m.toInt := by rw [Int32.lt_iff_toInt_lt] at hm; exact hm
  have mb := Int32.toInt_lt m
  have cb := Int32.toInt_lt c
  have cb' := Int32.le_toInt c
  have hne : m ≠ -1 := fun e => by rw [e] at hm'; exact absurd hm' (by decide)
  have dv := c_idiv c m m.toInt rfl hne
  have rv := c_irem c m m.toInt rfl
  have e0 : c % m = 0 ↔ (c % m).toInt = 0 := ⟨fun h => by rw [h]; rfl, fun h => Int32.toInt_inj.mp h⟩
  have ep : (0 : Int32) < c ↔ 0 < c.toInt := by rw [Int32.lt_iff_toInt_lt]; exact Iff.rfl
  have z1 := Zv.i2d c
  have z2 := Zv.i2d m
  have z3 := Zv.i2d (c / m)
  have z4 := own_one
  obtain ⟨U, hU⟩ : ∃ U : Nat, U = 2 ^ 1074 := ⟨_, rfl⟩
  rw [← hU] at z1 z2 z3 z4
  obtain ⟨M, hM⟩ : ∃ M : Nat, m.toInt = (M : Int) := ⟨m.toInt.toNat, by omega⟩
  obtain ⟨Cn, hCn⟩ : ∃ Cn : Nat, c.toInt.natAbs = Cn := ⟨_, rfl⟩
  rw [hM] at z2 dv rv
  have hUp : 0 < U := by rw [hU]; exact Nat.two_pow_pos _
  obtain ⟨mm, zz, c0, c1⟩ := own_q U hU z1 hCn z2 (by omega) (by omega) (by omega) (q := Cn / M) (r := Cn % M) (by rw [Nat.mul_comm]; exact (Nat.div_add_mod _ _).symm) (Nat.mod_lt _ (by omega))
  have hq31 : Cn / M ≤ 2 ^ 31 := Nat.le_trans (Nat.div_le_self _ _) (by omega)
  have qi : (c / m).toInt = if c.toInt < 0 then -((Cn / M : Nat) : Int) else ((Cn / M : Nat) : Int) := by
    by_cases h : c.toInt < 0
    · rw [if_pos h, dv.2 h, show -c.toInt = (Cn : Int) by omega]; rfl
    · rw [if_neg h, dv.1 (by omega), show c.toInt = (Cn : Int) by omega]; rfl
  have ri : (c % m).toInt = 0 ↔ Cn % M = 0 := by
    by_cases h : c.toInt < 0
    · rw [rv.2 h, show -c.toInt = (Cn : Int) by omega]; omega
    · rw [rv.1 (by omega), show c.toInt = (Cn : Int) by omega]; omega
  generalize hQ : Cn / M = q at c0 c1 hq31 qi
  generalize hR : Cn % M = r at c0 c1 ri
  have za : Zv (FP.dadd (FP.i2d (c / m)) 4607182418800017408) (((c / m).toInt + 1) * (U : Int)) := by
    have := Zv.dadd z3 z4 (k := (c / m).toInt + 1) (j := 1074) (by rw [qi]; split <;> omega) (by decide) (by rw [← hU, Int.add_mul, Int.one_mul])
    rw [Int.add_mul, Int.one_mul]; exact this
  have zs : Zv (FP.dsub (FP.i2d (c / m)) 4607182418800017408) (((c / m).toInt - 1) * (U : Int)) := by
    have := Zv.dsub z3 z4 (k := (c / m).toInt - 1) (j := 1074) (by rw [qi]; split <;> omega) (by decide) (by rw [← hU, Int.sub_mul, Int.one_mul])
    rw [Int.sub_mul, Int.one_mul]; exact this
  refine ⟨zz.noNaN, fun h => ?_, fun h h' => ?_, fun h h' => ?_, za.noNaN, zs.noNaN⟩
  · have r0 := ri.mp (e0.mp h)
    have hmm := c0 r0
    refine Zv.dcmp_eq zz ?_
    rw [qi] at z3
    by_cases hc : c.toInt < 0
    · rw [if_pos hc] at z3 ⊢; rw [hmm, Int.natCast_mul, ← Int.neg_mul]; exact z3
    · rw [if_neg hc] at z3 ⊢; rw [hmm, Int.natCast_mul]; exact z3
  · have r0 : r ≠ 0 := fun e => h (e0.mpr (ri.mpr e))
    have hmm := c1 r0
    have hc : ¬ c.toInt < 0 := by rw [ep] at h'; omega
    rw [if_neg hc] at zz qi
    rw [qi] at z3 za
    refine ⟨Zv.dcmp_lt z3 zz ?_, Zv.dcmp_lt zz za ?_⟩
    · rw [← Int.natCast_mul]; omega
    · have : (((q : Int) + 1) * (U : Int)) = (((q + 1) * U : Nat) : Int) := by rw [Int.natCast_mul]; rfl
      rw [this]; omega
  · have r0 : r ≠ 0 := fun e => h (e0.mpr (ri.mpr e))
    have hmm := c1 r0
    have hcz : c.toInt ≠ 0 := fun e => by
      have : Cn = 0 := by omega
      rw [this, Nat.zero_mod] at hR; omega
    have hc : c.toInt < 0 := by rw [ep] at h'; omega
    rw [if_pos hc] at zz qi
    rw [qi] at z3 zs
    refine ⟨Zv.dcmp_lt zs zz ?_, Zv.dcmp_lt zz z3 ?_⟩
    · have : ((-(q : Int) - 1) * (U : Int)) = -(((q + 1) * U : Nat) : Int) := by rw [Int.natCast_mul, show -(q : Int) - 1 = -((q + 1 : Nat) : Int) by omega, Int.neg_mul]
      rw [this]; omega
    · rw [Int.neg_mul, ← Int.natCast_mul]; omega
theorem own_pos (m : Int32) : ((0 : Int32) < FP.cmpInt (-1) (FP.dcmp (FP.i2d m) 0)) ↔ (0 : Int32) < m := by
  have z := Zv.i2d m
  have hU : (0 : Int) < ((2 ^ 1074 : Nat) : Int) := by have := Nat.two_pow_pos 1074; omega
  generalize ((2 ^ 1074 : Nat) : Int) = U at z hU
  rw [Int32.lt_iff_toInt_lt (x := 0) (y := m), show (0 : Int32).toInt = 0 from rfl]
  rcases Int.lt_trichotomy m.toInt 0 with h | h | h
  · rw [Zv.dcmp_lt z own_zero (Int.mul_neg_of_neg_of_pos h hU)]
    exact ⟨fun q => absurd q (by decide), fun q => by omega⟩
  · rw [h, Int.zero_mul] at z
    rw [Zv.dcmp_eq z own_zero]
    exact ⟨fun q => absurd q (by decide), fun q => by omega⟩
  · rw [Zv.dcmp_gt z own_zero (Int.mul_pos h hU)]
    exact ⟨fun _ => h, fun _ => by decide⟩
theorem ef_rec (m : MethodId) (x0 : Addr) : entryFrame m #[(.ref x0)] 1 = mkF m 0 #[.val (.ref x0)] [] := by first | (simp [entryFrame, mkF, argsToLocals, Value.category]; done) | rfl
theorem pn_rec : plainName "java/lang/Record" = true := by first | (simp [plainName, overriddenIn]; done) | decide +kernel
def Q_rec (Z : State) (a : Addr) (h0 : Heap) (n0 : Nat) (v : Option Value) (h : Heap) (L : List Loc) : Prop := v = none ∧ Fr n0 L ∧ h = h0
set_option maxRecDepth 65536 in
set_option maxHeartbeats 40000000 in
theorem rm_rec (l : Launch) (Z : State) (a0 : Array Value) (hw : ∀ d ∈ tables_1, d.before a0 Z = true) (ws : List Jvm.Cond) (a : Addr) (h0 : Heap) (n0 : Nat) (Z0 : n0 ≤ h0.size)  :
    MetFree l (⟨"java/lang/Record", "<init>", "()V"⟩ : MethodName) (head1 (Jvm.Cond.code (⟨"java/lang/Record", "<init>", "()V"⟩ : MethodName) jdk_30_method_1_code 1 none :: ws) ({ frames := 1, cells := 0, slots := 0, locals := 12 } : Room)) (fun aa U => aa = #[(.ref a)] ∧ Z.Warmed39 U.vm ∧ U.heap = h0) (fun _ _ _ _ _ => True) (fun _ U o U' => ∃ v L, o = .returned v ∧ Q_rec Z a h0 n0 v U'.heap L ∧ FrameEnd U o U' L ({ frames := 1, cells := 0, slots := 0, locals := 12 } : Room).cells ({ frames := 1, cells := 0, slots := 0, locals := 12 } : Room).slots) := by
  refine MetFree.of_bodySF (plainFor_of_name pn_rec) hisR ?_
  intro p e s m args below meth c s₁ Bd hml0 hP hK
  obtain ⟨rfl, hZ, hh⟩ := hP
  have hx := Bd.exec
  have hby := Bd.bytes
  have hml : c.maxLocals = 1 := hml0
  have hown : s.vm.findClass "java/lang/Record" = some m.cls := findClass_of_methodNamed Bd.named
  have hnm := (name_of_methodNamed Bd.named Bd.method).1
  have X0 : Stand p l e ({ frames := 1, cells := 0, slots := 0, locals := 12 } : Room) s m #[(.ref a)] below meth c s₁ [] 0 0 := Stand.of_body Bd
  have e0 : s₁.heap = h0 := by rw [← hh, Bd.state]; rfl
  have N0 := Fr.nil n0
  have S0 : Go p e below s₁ (entryFrame m #[(.ref a)] 1) s₁ (mkF m 0 #[.val (.ref a)] []) := fun t k => castTop (ef_rec m a) k
  have S1 : Go p e below s₁ (entryFrame m #[(.ref a)] 1) s₁ (mkF m 1 #[.val (.ref a)] [(.ref a)]) := fun t kt => S0 t (by
    refine XS.aloadN X0.here hx rfl (hb hby d2_0) rfl rfl ?_
    show Steps p.tables e below (s₁.setTop (mkF m 1 #[.val (.ref a)] [(.ref a)])) _
    exact kt)
  obtain ⟨T2, X2, e2, st2⟩ := initO X0 hx hZ hown (hw _ (List.mem_of_getElem? (i := 11) rfl)) (hw _ (List.mem_of_getElem? (i := 12) rfl)) (hw _ (List.mem_of_getElem? (i := 13) rfl)) e0 (g := (mkF m 1 #[.val (.ref a)] [(.ref a)])) rfl (by rw [hml]; rfl) rfl (hb hby d2_1) (by decide) (W := 0) (by show 2 * 0 + _ ≤ _; exact Nat.le_of_eq rfl) (by decide)
  have S3 : Go p e below s₁ (entryFrame m #[(.ref a)] 1) T2 (mkF m 4 #[.val (.ref a)] []) := fun t kt => S1 t (st2 t kt)
  obtain ⟨fs, hr, hrun, hended, hW, hsame⟩ := X2.leave (v := none) (fun h => by first | rfl | (rw [Bd.returns] at h; cases h))
  refine ⟨_, _, S3 _ ?_, hrun, hended, _, _, rfl, ?_, ⟨_, rfl⟩, hW, hsame.mono (by decide) (by decide)⟩
  · exact X2.returnOut hx Bd.returns (hb hby d2_4) hr
  · show Q_rec Z a h0 n0 _ T2.heap _
    rw [e2]
    exact ⟨rfl, N0, rfl⟩
theorem ef_init (m : MethodId) (x0 : Addr) (x1 : UInt64) (x2 : UInt64) : entryFrame m #[(.ref x0), (.double x1), (.double x2)] 5 = mkF m 0 #[.val (.ref x0), .val (.double x1), .second, .val (.double x2), .second] [] := by first | (simp [entryFrame, mkF, argsToLocals, Value.category]; done) | rfl
theorem pn_init : plainName "com/example/blindroute/blindroute/template/Evaluation" = true := by first | (simp [plainName, overriddenIn]; done) | decide +kernel
def Q_init (Z : State) (a : Addr) (u : UInt64) (v0 : UInt64) (h0 : Heap) (n0 : Nat) (v : Option Value) (h : Heap) (L : List Loc) : Prop := v = none ∧ Fr n0 L ∧ Keep h0 h [a] ∧ Exa Z h a "com/example/blindroute/blindroute/template/Evaluation" ∧ Fld Z h a "com/example/blindroute/blindroute/template/Evaluation" "congestion" "D" (.double u) ∧ Fld Z h a "com/example/blindroute/blindroute/template/Evaluation" "minCongestion" "D" (.double v0)
set_option maxRecDepth 65536 in
set_option maxHeartbeats 40000000 in
theorem rm_init (l : Launch) (Z : State) (a0 : Array Value) (hw : ∀ d ∈ tables_1, d.before a0 Z = true) (ws : List Jvm.Cond) (a : Addr) (u : UInt64) (v0 : UInt64) (h0 : Heap) (n0 : Nat) (Z0 : n0 ≤ h0.size) (E0 : Exa Z h0 a "com/example/blindroute/blindroute/template/Evaluation") (F1 : Fld Z h0 a "com/example/blindroute/blindroute/template/Evaluation" "congestion" "D" (.double (0 : UInt64))) (F2 : Fld Z h0 a "com/example/blindroute/blindroute/template/Evaluation" "minCongestion" "D" (.double (0 : UInt64))) (g_a : n0 ≤ a) :
    MetFree l (⟨"com/example/blindroute/blindroute/template/Evaluation", "<init>", "(DD)V"⟩ : MethodName) (head1 (Jvm.Cond.code (⟨"com/example/blindroute/blindroute/template/Evaluation", "<init>", "(DD)V"⟩ : MethodName) prog_34_method_1_code 5 none :: ws) ({ frames := 2, cells := 0, slots := 0, locals := 24 } : Room)) (fun aa U => aa = #[(.ref a), (.double u), (.double v0)] ∧ Z.Warmed39 U.vm ∧ U.heap = h0) (fun _ _ _ _ _ => True) (fun _ U o U' => ∃ v L, o = .returned v ∧ Q_init Z a u v0 h0 n0 v U'.heap L ∧ FrameEnd U o U' L ({ frames := 2, cells := 0, slots := 0, locals := 24 } : Room).cells ({ frames := 2, cells := 0, slots := 0, locals := 24 } : Room).slots) := by
  refine MetFree.of_bodySF (plainFor_of_name pn_init) hisR ?_
  intro p e s m args below meth c s₁ Bd hml0 hP hK
  obtain ⟨rfl, hZ, hh⟩ := hP
  have hx := Bd.exec
  have hby := Bd.bytes
  have hml : c.maxLocals = 5 := hml0
  have hown : s.vm.findClass "com/example/blindroute/blindroute/template/Evaluation" = some m.cls := findClass_of_methodNamed Bd.named
  have hnm := (name_of_methodNamed Bd.named Bd.method).1
  have X0 : Stand p l e ({ frames := 2, cells := 0, slots := 0, locals := 24 } : Room) s m #[(.ref a), (.double u), (.double v0)] below meth c s₁ [] 0 0 := Stand.of_body Bd
  have e0 : s₁.heap = h0 := by rw [← hh, Bd.state]; rfl
  have N0 := Fr.nil n0
  have S0 : Go p e below s₁ (entryFrame m #[(.ref a), (.double u), (.double v0)] 5) s₁ (mkF m 0 #[.val (.ref a), .val (.double u), .second, .val (.double v0), .second] []) := fun t k => castTop (ef_init m a u v0) k
  have S4 : Go p e below s₁ (entryFrame m #[(.ref a), (.double u), (.double v0)] 5) s₁ (mkF m 1 #[.val (.ref a), .val (.double u), .second, .val (.double v0), .second] [(.ref a)]) := fun t kt => S0 t (by
    refine XS.aloadN X0.here hx rfl (hb hby d1_0) rfl rfl ?_
    show Steps p.tables e below (s₁.setTop (mkF m 1 #[.val (.ref a), .val (.double u), .second, .val (.double v0), .second] [(.ref a)])) _
    exact kt)
  obtain ⟨_, _, ⟨T5, L5, k5, n5⟩, -, X5, ⟨Lc5, hQ5, l5, y5, z5⟩, st5⟩ := X0.specialBack hx (y := (⟨"java/lang/Record", "<init>", "()V"⟩ : MethodName)) rfl hown (mvT hZ (hw _ (List.mem_of_getElem? (i := 6) rfl))) (mvT hZ (hw _ (List.mem_of_getElem? (i := 7) rfl))) (mvT hZ (hw _ (List.mem_of_getElem? (i := 10) rfl))) (by decide) (backOf (W := 0) (rm_rec l Z a0 hw [] a h0 n0 Z0) hZ (hw _ (List.mem_of_getElem? (i := 10) rfl)) (hw _ (List.mem_of_getElem? (i := 9) rfl)) (by decide) (by decide)) (g := (mkF m 1 #[.val (.ref a), .val (.double u), .second, .val (.double v0), .second] [(.ref a)])) rfl (by rw [hml]; rfl) (Steps.refl _) (a := a) (argsL := []) (rest := []) (lenOf pd___V rfl) rfl (by show 2 * 0 + _ ≤ _; exact Nat.le_of_eq rfl) (hb hby d1_1) (fun _ _ => ⟨rfl, e0, (by decide : 0 + 0 ≤ _), (by decide : 0 + 0 ≤ _)⟩)
  dsimp only [Pt.U, Pt.locs, Pt.cells, Pt.slots] at X5 l5 y5 z5 st5 hQ5
  subst l5 y5 z5
  obtain ⟨rfl, N5q, e5⟩ := hQ5
  have N5 := Fr.app N0 N5q
  have S6 : Go p e below s₁ (entryFrame m #[(.ref a), (.double u), (.double v0)] 5) T5 (mkF m 4 #[.val (.ref a), .val (.double u), .second, .val (.double v0), .second] []) := fun t kt => S4 t (st5.trans kt)
  have S7 : Go p e below s₁ (entryFrame m #[(.ref a), (.double u), (.double v0)] 5) T5 (mkF m 6 #[.val (.ref a), .val (.double u), .second, .val (.double v0), .second] [(.double u), (.ref a)]) := fun t kt => S6 t (by
    refine XS.aloadN X5.here hx rfl (hb hby d1_4) rfl rfl ?_
    show Steps p.tables e below (T5.setTop (mkF m 5 #[.val (.ref a), .val (.double u), .second, .val (.double v0), .second] [(.ref a)])) _
    refine XS.dloadN X5.here hx rfl (hb hby d1_5) rfl ?_
    show Steps p.tables e below (T5.setTop (mkF m 6 #[.val (.ref a), .val (.double u), .second, .val (.double v0), .second] [(.double u), (.ref a)])) _
    exact kt)
  obtain ⟨T8, h8, X8, e8, W8, st8⟩ := putF X5 hx hZ hown (host := "") (Or.inl (hw _ (List.mem_of_getElem? (i := 14) rfl))) Via.refl e5 F1 E0 (Or.inr ⟨(hw _ (List.mem_of_getElem? (i := 15) rfl)), rfl, hnm⟩) (hw _ (List.mem_of_getElem? (i := 1) rfl)) (ty := .double) (by decide) rfl rfl (g := (mkF m 6 #[.val (.ref a), .val (.double u), .second, .val (.double v0), .second] [(.double u), (.ref a)])) rfl rfl (hb hby d1_6)
  have N8 := Fr.snoc X8 N5 g_a
  have K8 : Keep h0 h8 [a] := (Keep.refl h0 [a]).wr W8 (Or.inl (by simp))
  have Fw8 := F1.same W8
  have S9 : Go p e below s₁ (entryFrame m #[(.ref a), (.double u), (.double v0)] 5) T8 (mkF m 9 #[.val (.ref a), .val (.double u), .second, .val (.double v0), .second] []) := fun t kt => S7 t (st8 t kt)
  have S10 : Go p e below s₁ (entryFrame m #[(.ref a), (.double u), (.double v0)] 5) T8 (mkF m 11 #[.val (.ref a), .val (.double u), .second, .val (.double v0), .second] [(.double v0), (.ref a)]) := fun t kt => S9 t (by
    refine XS.aloadN X8.here hx rfl (hb hby d1_9) rfl rfl ?_
    show Steps p.tables e below (T8.setTop (mkF m 10 #[.val (.ref a), .val (.double u), .second, .val (.double v0), .second] [(.ref a)])) _
    refine XS.dloadN X8.here hx rfl (hb hby d1_10) rfl ?_
    show Steps p.tables e below (T8.setTop (mkF m 11 #[.val (.ref a), .val (.double u), .second, .val (.double v0), .second] [(.double v0), (.ref a)])) _
    exact kt)
  have f11 := (F2.other W8 (Or.inr (slot_ne (C := "com/example/blindroute/blindroute/template/Evaluation") (Or.inr (hw _ (List.mem_of_getElem? (i := 17) rfl))) (Or.inr (hw _ (List.mem_of_getElem? (i := 15) rfl))) (by decide) (t := .double) (t' := .double) (by decide) (by decide))))
  have f12 := (E0.wr W8)
  obtain ⟨T13, h13, X13, e13, W13, st13⟩ := putF X8 hx hZ hown (host := "") (Or.inl (hw _ (List.mem_of_getElem? (i := 16) rfl))) Via.refl e8 f11 f12 (Or.inr ⟨(hw _ (List.mem_of_getElem? (i := 17) rfl)), rfl, hnm⟩) (hw _ (List.mem_of_getElem? (i := 1) rfl)) (ty := .double) (by decide) rfl rfl (g := (mkF m 11 #[.val (.ref a), .val (.double u), .second, .val (.double v0), .second] [(.double v0), (.ref a)])) rfl rfl (hb hby d1_11)
  have N13 := Fr.snoc X13 N8 g_a
  have K13 : Keep h0 h13 [a] := K8.wr W13 (Or.inl (by simp))
  have Fw13 := f11.same W13
  have S14 : Go p e below s₁ (entryFrame m #[(.ref a), (.double u), (.double v0)] 5) T13 (mkF m 14 #[.val (.ref a), .val (.double u), .second, .val (.double v0), .second] []) := fun t kt => S10 t (st13 t kt)
  have f15 := (f12.wr W13)
  have f16 := (Fw8.other W13 (Or.inr (slot_ne (C := "com/example/blindroute/blindroute/template/Evaluation") (Or.inr (hw _ (List.mem_of_getElem? (i := 15) rfl))) (Or.inr (hw _ (List.mem_of_getElem? (i := 17) rfl))) (by decide) (t := .double) (t' := .double) (by decide) (by decide))))
  obtain ⟨fs, hr, hrun, hended, hW, hsame⟩ := X13.leave (v := none) (fun h => by first | rfl | (rw [Bd.returns] at h; cases h))
  refine ⟨_, _, S14 _ ?_, hrun, hended, _, _, rfl, ?_, ⟨_, rfl⟩, hW, hsame.mono (by decide) (by decide)⟩
  · exact X13.returnOut hx Bd.returns (hb hby d1_14) hr
  · show Q_init Z a u v0 h0 n0 _ T13.heap _
    rw [e13]
    exact ⟨rfl, N13, K13, f15, f16, Fw13⟩
theorem ef_ratio (m : MethodId) (x0 : Addr) : entryFrame m #[(.ref x0)] 1 = mkF m 0 #[.val (.ref x0)] [] := by first | (simp [entryFrame, mkF, argsToLocals, Value.category]; done) | rfl
theorem pn_ratio : plainName "com/example/blindroute/blindroute/template/Evaluation" = true := by first | (simp [plainName, overriddenIn]; done) | decide +kernel
def Q_ratio (Z : State) (a : Addr) (cg : UInt64) (mc : UInt64) (h0 : Heap) (n0 : Nat) (v : Option Value) (h : Heap) (L : List Loc) : Prop := v = some (.double (if ((0 : Int32) < (FP.cmpInt (-1) (FP.dcmp mc (0 : UInt64)))) then FP.ddiv cg mc else (4607182418800017408 : UInt64))) ∧ Fr n0 L ∧ h = h0
set_option maxRecDepth 65536 in
set_option maxHeartbeats 40000000 in
theorem rm_ratio (l : Launch) (Z : State) (a0 : Array Value) (hw : ∀ d ∈ tables_1, d.before a0 Z = true) (ws : List Jvm.Cond) (a : Addr) (cg : UInt64) (mc : UInt64) (h0 : Heap) (n0 : Nat) (Z0 : n0 ≤ h0.size) (F1 : Fld Z h0 a "com/example/blindroute/blindroute/template/Evaluation" "congestion" "D" (.double cg)) (F2 : Fld Z h0 a "com/example/blindroute/blindroute/template/Evaluation" "minCongestion" "D" (.double mc)) (hd : ((0 : Int32) < (FP.cmpInt (-1) (FP.dcmp mc (0 : UInt64)))) → NoNaN64 (FP.ddiv cg mc)) :
    MetFree l (⟨"com/example/blindroute/blindroute/template/Evaluation", "ratio", "()D"⟩ : MethodName) (head1 (Jvm.Cond.code (⟨"com/example/blindroute/blindroute/template/Evaluation", "ratio", "()D"⟩ : MethodName) prog_34_method_2_code 1 (some .double) :: ws) ({ frames := 0, cells := 0, slots := 0, locals := 0 } : Room)) (fun aa U => aa = #[(.ref a)] ∧ Z.Warmed39 U.vm ∧ U.heap = h0) (fun _ _ _ _ _ => True) (fun _ U o U' => ∃ v L, o = .returned v ∧ Q_ratio Z a cg mc h0 n0 v U'.heap L ∧ FrameEnd U o U' L ({ frames := 0, cells := 0, slots := 0, locals := 0 } : Room).cells ({ frames := 0, cells := 0, slots := 0, locals := 0 } : Room).slots) := by
  refine MetFree.of_bodySF (plainFor_of_name pn_ratio) hisR ?_
  intro p e s m args below meth c s₁ Bd hml0 hP hK
  obtain ⟨rfl, hZ, hh⟩ := hP
  have hx := Bd.exec
  have hby := Bd.bytes
  have hml : c.maxLocals = 1 := hml0
  have hown : s.vm.findClass "com/example/blindroute/blindroute/template/Evaluation" = some m.cls := findClass_of_methodNamed Bd.named
  have hnm := (name_of_methodNamed Bd.named Bd.method).1
  have X0 : Stand p l e ({ frames := 0, cells := 0, slots := 0, locals := 0 } : Room) s m #[(.ref a)] below meth c s₁ [] 0 0 := Stand.of_body Bd
  have e0 : s₁.heap = h0 := by rw [← hh, Bd.state]; rfl
  have N0 := Fr.nil n0
  have S0 : Go p e below s₁ (entryFrame m #[(.ref a)] 1) s₁ (mkF m 0 #[.val (.ref a)] []) := fun t k => castTop (ef_ratio m a) k
  have S17 : Go p e below s₁ (entryFrame m #[(.ref a)] 1) s₁ (mkF m 1 #[.val (.ref a)] [(.ref a)]) := fun t kt => S0 t (by
    refine XS.aloadN X0.here hx rfl (hb hby d4_0) rfl rfl ?_
    show Steps p.tables e below (s₁.setTop (mkF m 1 #[.val (.ref a)] [(.ref a)])) _
    exact kt)
  obtain ⟨T18, X18, e18, st18⟩ := getF X0 hx hZ hown (host := "") (Or.inl (hw _ (List.mem_of_getElem? (i := 16) rfl))) Via.refl e0 F2 (g := (mkF m 1 #[.val (.ref a)] [(.ref a)])) rfl rfl (hb hby d4_1)
  have S19 : Go p e below s₁ (entryFrame m #[(.ref a)] 1) T18 (mkF m 4 #[.val (.ref a)] [(.double mc)]) := fun t kt => S17 t (st18 t kt)
  have S20 : Go p e below s₁ (entryFrame m #[(.ref a)] 1) T18 (mkF m 6 #[.val (.ref a)] [(.int (FP.cmpInt (-1) (FP.dcmp mc (0 : UInt64))))]) := fun t kt => S19 t (by
    refine XS.dconst0 X18.here hx rfl (hb hby d4_4) rfl ?_
    show Steps p.tables e below (T18.setTop (mkF m 5 #[.val (.ref a)] [(.double (0 : UInt64)), (.double mc)])) _
    refine XS.dcmpS X18.here hx rfl (hb hby d4_5) rfl (cmpV_l _) ?_
    show Steps p.tables e below (T18.setTop (mkF m 6 #[.val (.ref a)] [(.int (FP.cmpInt (-1) (FP.dcmp mc (0 : UInt64))))])) _
    exact kt)
  by_cases hc : (0 : Int32) < (FP.cmpInt (-1) (FP.dcmp mc (0 : UInt64)))
  · have S21 : Go p e below s₁ (entryFrame m #[(.ref a)] 1) T18 (mkF m 10 #[.val (.ref a)] [(.ref a)]) := fun t kt => S20 t (by
      refine XS.ifNo X18.here hx rfl (hb hby d4_6) rfl ((if0 _ _).trans (tlt (show (0 : Int32) < (FP.cmpInt (-1) (FP.dcmp mc (0 : UInt64))) from hc)).2.2.2) ?_
      show Steps p.tables e below (T18.setTop (mkF m 9 #[.val (.ref a)] [])) _
      refine XS.aloadN X18.here hx rfl (hb hby d4_9) rfl rfl ?_
      show Steps p.tables e below (T18.setTop (mkF m 10 #[.val (.ref a)] [(.ref a)])) _
      exact kt)
    obtain ⟨T22, X22, e22, st22⟩ := getF X18 hx hZ hown (host := "") (Or.inl (hw _ (List.mem_of_getElem? (i := 14) rfl))) Via.refl e18 F1 (g := (mkF m 10 #[.val (.ref a)] [(.ref a)])) rfl rfl (hb hby d4_10)
    have S23 : Go p e below s₁ (entryFrame m #[(.ref a)] 1) T22 (mkF m 13 #[.val (.ref a)] [(.double cg)]) := fun t kt => S21 t (st22 t kt)
    have S24 : Go p e below s₁ (entryFrame m #[(.ref a)] 1) T22 (mkF m 14 #[.val (.ref a)] [(.ref a), (.double cg)]) := fun t kt => S23 t (by
      refine XS.aloadN X22.here hx rfl (hb hby d4_13) rfl rfl ?_
      show Steps p.tables e below (T22.setTop (mkF m 14 #[.val (.ref a)] [(.ref a), (.double cg)])) _
      exact kt)
    obtain ⟨T25, X25, e25, st25⟩ := getF X22 hx hZ hown (host := "") (Or.inl (hw _ (List.mem_of_getElem? (i := 16) rfl))) Via.refl e22 F2 (g := (mkF m 14 #[.val (.ref a)] [(.ref a), (.double cg)])) rfl rfl (hb hby d4_14)
    have S26 : Go p e below s₁ (entryFrame m #[(.ref a)] 1) T25 (mkF m 17 #[.val (.ref a)] [(.double mc), (.double cg)]) := fun t kt => S24 t (st25 t kt)
    have S27 : Go p e below s₁ (entryFrame m #[(.ref a)] 1) T25 (mkF m 22 #[.val (.ref a)] [(.double (FP.ddiv cg mc))]) := fun t kt => S26 t (by
      refine XS.ddivS X25.here hx rfl (hb hby d4_17) rfl (hd hc) rfl ?_
      show Steps p.tables e below (T25.setTop (mkF m 18 #[.val (.ref a)] [(.double (FP.ddiv cg mc))])) _
      refine XS.goto X25.here hx rfl (pc0 := 18) (pc' := 22) rfl (hb hby d4_18) (by decide) (by decide) ?_
      show Steps p.tables e below (T25.setTop (mkF m 22 #[.val (.ref a)] [(.double (FP.ddiv cg mc))])) _
      exact kt)
    obtain ⟨fs, hr, hrun, hended, hW, hsame⟩ := X25.leave (v := some (.double (FP.ddiv cg mc))) (fun h => by first | rfl | (rw [Bd.returns] at h; cases h))
    refine ⟨_, _, S27 _ ?_, hrun, hended, _, _, rfl, ?_, ⟨_, rfl⟩, hW, hsame.mono (by decide) (by decide)⟩
    · jvm_step X25.here [X25.here.top, hx, (hb hby d4_22), X25.method', Bd.returns, narrow]
      first | (intro acts; rw [hr _ acts rfl rfl rfl]) | rw [hr _ _ rfl rfl rfl]
      exact Steps.refl _
    · show Q_ratio Z a cg mc h0 n0 _ T25.heap _
      rw [e25]
      exact ⟨by rw [if_pos hc], N0, rfl⟩
  · have S28 : Go p e below s₁ (entryFrame m #[(.ref a)] 1) T18 (mkF m 22 #[.val (.ref a)] [(.double (4607182418800017408 : UInt64))]) := fun t kt => S20 t (by
      refine XS.ifYes X18.here hx rfl (pc0 := 6) (pc' := 21) rfl (hb hby d4_6) rfl ((if0 _ _).trans (flt (show ¬ ((0 : Int32) < (FP.cmpInt (-1) (FP.dcmp mc (0 : UInt64)))) from hc)).2.2.2) (by decide) (by decide) ?_
      show Steps p.tables e below (T18.setTop (mkF m 21 #[.val (.ref a)] [])) _
      refine XS.dconst1 X18.here hx rfl (hb hby d4_21) rfl ?_
      show Steps p.tables e below (T18.setTop (mkF m 22 #[.val (.ref a)] [(.double (4607182418800017408 : UInt64))])) _
      exact kt)
    obtain ⟨fs, hr, hrun, hended, hW, hsame⟩ := X18.leave (v := some (.double (4607182418800017408 : UInt64))) (fun h => by first | rfl | (rw [Bd.returns] at h; cases h))
    refine ⟨_, _, S28 _ ?_, hrun, hended, _, _, rfl, ?_, ⟨_, rfl⟩, hW, hsame.mono (by decide) (by decide)⟩
    · jvm_step X18.here [X18.here.top, hx, (hb hby d4_22), X18.method', Bd.returns, narrow]
      first | (intro acts; rw [hr _ acts rfl rfl rfl]) | rw [hr _ _ rfl rfl rfl]
      exact Steps.refl _
    · show Q_ratio Z a cg mc h0 n0 _ T18.heap _
      rw [e18]
      exact ⟨by rw [if_neg hc], N0, rfl⟩
theorem ef_law (m : MethodId) (x0 : Int32) (x1 : Int32) : entryFrame m #[(.int x0), (.int x1)] maxLocals = mkF m 0 #[.val (.int x0), .val (.int x1), .unset, .unset, .unset, .unset, .unset, .unset] [] := by first | (simp [entryFrame, mkF, argsToLocals, Value.category, maxLocals]; done) | rfl
theorem pn_law : plainName "com/example/blindroute/blindroute/template/EvaluationRatioPinLaw" = true := by first | (simp [plainName, overriddenIn]; done) | decide +kernel
def Q_law (Z : State) (c0 : Int32) (m0 : Int32) (h0 : Heap) (n0 : Nat) (v : Option Value) (h : Heap) (L : List Loc) : Prop := v = some (.int 1) ∧ Fr n0 L
set_option maxRecDepth 65536 in
set_option maxHeartbeats 40000000 in
theorem rm_law (l : Launch) (Z : State) (a0 : Array Value) (hw : ∀ d ∈ tables_1, d.before a0 Z = true) (ws : List Jvm.Cond) (c0 : Int32) (m0 : Int32) (h0 : Heap) (n0 : Nat) (Z0 : n0 ≤ h0.size)  :
    MetFree l x (head1 (Jvm.Cond.code x code maxLocals ret :: ws) room_1) (fun aa U => aa = #[(.int c0), (.int m0)] ∧ Z.Warmed39 U.vm ∧ U.heap = h0) (fun _ _ _ _ _ => True) (fun _ U o U' => ∃ v L, o = .returned v ∧ Q_law Z c0 m0 h0 n0 v U'.heap L ∧ FrameEnd U o U' L 1 2) := by
  refine MetFree.of_bodySF (plainFor_of_name pn_law) hisR ?_
  intro p e s m args below meth c s₁ Bd hml0 hP hK
  obtain ⟨rfl, hZ, hh⟩ := hP
  have hx := Bd.exec
  have hby := Bd.bytes
  have hml : c.maxLocals = 8 := hml0
  have hown : s.vm.findClass "com/example/blindroute/blindroute/template/EvaluationRatioPinLaw" = some m.cls := findClass_of_methodNamed Bd.named
  have hnm := (name_of_methodNamed Bd.named Bd.method).1
  have X0 : Stand p l e room_1 s m #[(.int c0), (.int m0)] below meth c s₁ [] 0 0 := Stand.of_body Bd
  have e0 : s₁.heap = h0 := by rw [← hh, Bd.state]; rfl
  have N0 := Fr.nil n0
  have S0 : Go p e below s₁ (entryFrame m #[(.int c0), (.int m0)] maxLocals) s₁ (mkF m 0 #[.val (.int c0), .val (.int m0), .unset, .unset, .unset, .unset, .unset, .unset] []) := fun t k => castTop (ef_law m c0 m0) k
  obtain ⟨T29, h29, X29, e29, E29, A29, D29, -, st29⟩ := newO X0 hx hZ hown (hw _ (List.mem_of_getElem? (i := 0) rfl)) (hw _ (List.mem_of_getElem? (i := 1) rfl)) (hw _ (List.mem_of_getElem? (i := 2) rfl)) e0 (g := (mkF m 0 #[.val (.int c0), .val (.int m0), .unset, .unset, .unset, .unset, .unset, .unset] [])) rfl (hb hby at_0) (by decide) (by decide)
  obtain ⟨o1, g29⟩ : ∃ z, z = h0.size := ⟨_, rfl⟩
  rw [← g29] at A29 D29 st29
  have g_o1 : n0 ≤ o1 := Nat.le_trans Z0 (Nat.le_of_eq g29.symm)
  have F_congestion_o1 : Fld Z h29 o1 "com/example/blindroute/blindroute/template/Evaluation" "congestion" "D" (.double (0 : UInt64)) := D29 (Or.inr (hw _ (List.mem_of_getElem? (i := 15) rfl))) (ty := .double) (by decide)
  have F_minCongestion_o1 : Fld Z h29 o1 "com/example/blindroute/blindroute/template/Evaluation" "minCongestion" "D" (.double (0 : UInt64)) := D29 (Or.inr (hw _ (List.mem_of_getElem? (i := 17) rfl))) (ty := .double) (by decide)
  have S30 : Go p e below s₁ (entryFrame m #[(.int c0), (.int m0)] maxLocals) T29 (mkF m 3 #[.val (.int c0), .val (.int m0), .unset, .unset, .unset, .unset, .unset, .unset] [(.ref o1)]) := fun t kt => S0 t (st29 t kt)
  have S31 : Go p e below s₁ (entryFrame m #[(.int c0), (.int m0)] maxLocals) T29 (mkF m 8 #[.val (.int c0), .val (.int m0), .unset, .unset, .unset, .unset, .unset, .unset] [(.double (FP.i2d m0)), (.double (FP.i2d c0)), (.ref o1), (.ref o1)]) := fun t kt => S30 t (by
    refine XS.dup X29.here hx rfl (hb hby at_3) rfl rfl ?_
    show Steps p.tables e below (T29.setTop (mkF m 4 #[.val (.int c0), .val (.int m0), .unset, .unset, .unset, .unset, .unset, .unset] [(.ref o1), (.ref o1)])) _
    refine XS.iloadN X29.here hx rfl (hb hby at_4) rfl ?_
    show Steps p.tables e below (T29.setTop (mkF m 5 #[.val (.int c0), .val (.int m0), .unset, .unset, .unset, .unset, .unset, .unset] [(.int c0), (.ref o1), (.ref o1)])) _
    refine XS.i2dS X29.here hx rfl (hb hby at_5) rfl rfl ?_
    show Steps p.tables e below (T29.setTop (mkF m 6 #[.val (.int c0), .val (.int m0), .unset, .unset, .unset, .unset, .unset, .unset] [(.double (FP.i2d c0)), (.ref o1), (.ref o1)])) _
    refine XS.iloadN X29.here hx rfl (hb hby at_6) rfl ?_
    show Steps p.tables e below (T29.setTop (mkF m 7 #[.val (.int c0), .val (.int m0), .unset, .unset, .unset, .unset, .unset, .unset] [(.int m0), (.double (FP.i2d c0)), (.ref o1), (.ref o1)])) _
    refine XS.i2dS X29.here hx rfl (hb hby at_7) rfl rfl ?_
    show Steps p.tables e below (T29.setTop (mkF m 8 #[.val (.int c0), .val (.int m0), .unset, .unset, .unset, .unset, .unset, .unset] [(.double (FP.i2d m0)), (.double (FP.i2d c0)), (.ref o1), (.ref o1)])) _
    exact kt)
  obtain ⟨_, _, ⟨T32, L32, k32, n32⟩, -, X32, ⟨Lc32, hQ32, l32, y32, z32⟩, st32⟩ := X29.specialBack hx (y := (⟨"com/example/blindroute/blindroute/template/Evaluation", "<init>", "(DD)V"⟩ : MethodName)) rfl hown (mvT hZ (hw _ (List.mem_of_getElem? (i := 3) rfl))) (mvT hZ (hw _ (List.mem_of_getElem? (i := 4) rfl))) (mvT hZ (hw _ (List.mem_of_getElem? (i := 5) rfl))) (by decide) (backOf (W := 1) (rm_init l Z a0 hw [] o1 (FP.i2d c0) (FP.i2d m0) h29 n0 (Nat.le_trans Z0 E29.1) A29 F_congestion_o1 F_minCongestion_o1 g_o1) hZ (hw _ (List.mem_of_getElem? (i := 5) rfl)) (hw _ (List.mem_of_getElem? (i := 2) rfl)) (by decide) (by decide)) (g := (mkF m 8 #[.val (.int c0), .val (.int m0), .unset, .unset, .unset, .unset, .unset, .unset] [(.double (FP.i2d m0)), (.double (FP.i2d c0)), (.ref o1), (.ref o1)])) rfl (by rw [hml]; rfl) (Steps.refl _) (a := o1) (argsL := [(.double (FP.i2d c0)), (.double (FP.i2d m0))]) (rest := [(.ref o1)]) (lenOf pd__DD_V rfl) rfl (by show 2 * 0 + _ ≤ _; exact Nat.le_of_eq rfl) (hb hby at_8) (fun _ _ => ⟨rfl, e29, (by decide : 1 + 0 ≤ _), (by decide : 2 + 0 ≤ _)⟩)
  dsimp only [Pt.U, Pt.locs, Pt.cells, Pt.slots] at X32 l32 y32 z32 st32 hQ32
  subst l32 y32 z32
  obtain ⟨rfl, N32q, K32, Ex32, Ft32, Fd32⟩ := hQ32
  have N32 := Fr.app N0 N32q
  have S33 : Go p e below s₁ (entryFrame m #[(.int c0), (.int m0)] maxLocals) T32 (mkF m 11 #[.val (.int c0), .val (.int m0), .unset, .unset, .unset, .unset, .unset, .unset] [(.ref o1)]) := fun t kt => S31 t (st32.trans kt)
  obtain ⟨cq34, kq34, q34a, q34b, q34c⟩ := isOf hZ rfl Ex32
  obtain ⟨_, _, ⟨T34, L34, k34, n34⟩, -, X34, ⟨Lc34, hQ34, l34, y34, z34⟩, st34⟩ := X32.virtualBack hx (y := (⟨"com/example/blindroute/blindroute/template/Evaluation", "ratio", "()D"⟩ : MethodName)) (z := (⟨"com/example/blindroute/blindroute/template/Evaluation", "ratio", "()D"⟩ : MethodName)) hown (mvT hZ (hw _ (List.mem_of_getElem? (i := 18) rfl))) (mvT hZ (hw _ (List.mem_of_getElem? (i := 19) rfl))) (notFace_of_selects (args := #[]) (mvT hZ (hw _ (List.mem_of_getElem? (i := 21) rfl)))) (mvT hZ (hw _ (List.mem_of_getElem? (i := 21) rfl))) (mvT hZ (hw _ (List.mem_of_getElem? (i := 20) rfl))) (by decide) (backOf (W := 0) (rm_ratio l Z a0 hw [] o1 (FP.i2d c0) (FP.i2d m0) T32.heap n0 (Nat.le_trans (Nat.le_trans Z0 E29.1) K32.1) Ft32 Fd32 (fun h => (own_div c0 m0 ((own_pos m0).mp h)).1)) hZ (hw _ (List.mem_of_getElem? (i := 22) rfl)) (hw _ (List.mem_of_getElem? (i := 2) rfl)) (by decide) (by decide)) q34a q34c (g := (mkF m 11 #[.val (.int c0), .val (.int m0), .unset, .unset, .unset, .unset, .unset, .unset] [(.ref o1)])) rfl (by rw [hml]; rfl) (Steps.refl _) (argsL := []) (rest := []) (lenOf pd___D rfl) rfl (by show 2 * 0 + _ ≤ _; exact Nat.le_of_eq rfl) (hb hby at_11) (fun _ _ => ⟨rfl, rfl, (by decide : 1 + 0 ≤ _), (by decide : 2 + 0 ≤ _)⟩)
  dsimp only [Pt.U, Pt.locs, Pt.cells, Pt.slots] at X34 l34 y34 z34 st34 hQ34
  subst l34 y34 z34
  obtain ⟨rfl, N34q, e34⟩ := hQ34
  have N34 := Fr.app N32 N34q
  have S35 : Go p e below s₁ (entryFrame m #[(.int c0), (.int m0)] maxLocals) T34 (mkF m 14 #[.val (.int c0), .val (.int m0), .unset, .unset, .unset, .unset, .unset, .unset] [(.double (if ((0 : Int32) < (FP.cmpInt (-1) (FP.dcmp (FP.i2d m0) (0 : UInt64)))) then FP.ddiv (FP.i2d c0) (FP.i2d m0) else (4607182418800017408 : UInt64)))]) := fun t kt => S33 t (st34.trans kt)
  obtain ⟨r, q_r⟩ : ∃ z : UInt64, z = (if ((0 : Int32) < (FP.cmpInt (-1) (FP.dcmp (FP.i2d m0) (0 : UInt64)))) then FP.ddiv (FP.i2d c0) (FP.i2d m0) else (4607182418800017408 : UInt64)) := ⟨_, rfl⟩
  have S36 : Go p e below s₁ (entryFrame m #[(.int c0), (.int m0)] maxLocals) T34 (mkF m 14 #[.val (.int c0), .val (.int m0), .unset, .unset, .unset, .unset, .unset, .unset] [(.double r)]) := by subst q_r; exact S35
  have S37 : Go p e below s₁ (entryFrame m #[(.int c0), (.int m0)] maxLocals) T34 (mkF m 16 #[.val (.int c0), .val (.int m0), .val (.double r), .second, .unset, .unset, .unset, .unset] [(.int m0)]) := fun t kt => S36 t (by
    refine XS.dstoreN X34.here hx rfl (hb hby at_14) rfl (l' := #[.val (.int c0), .val (.int m0), .val (.double r), .second, .unset, .unset, .unset, .unset]) rfl ?_
    show Steps p.tables e below (T34.setTop (mkF m 15 #[.val (.int c0), .val (.int m0), .val (.double r), .second, .unset, .unset, .unset, .unset] [])) _
    refine XS.iloadN X34.here hx rfl (hb hby at_15) rfl ?_
    show Steps p.tables e below (T34.setTop (mkF m 16 #[.val (.int c0), .val (.int m0), .val (.double r), .second, .unset, .unset, .unset, .unset] [(.int m0)])) _
    exact kt)
  by_cases hm : (0 : Int32) < m0
  · have S41 : Go p e below s₁ (entryFrame m #[(.int c0), (.int m0)] maxLocals) T34 (mkF m 31 #[.val (.int c0), .val (.int m0), .val (.double r), .second, .unset, .unset, .unset, .unset] []) := fun t kt => S37 t (by
      refine XS.ifYes X34.here hx rfl (pc0 := 16) (pc' := 31) rfl (hb hby at_16) rfl ((if0 _ _).trans (tlt (show (0 : Int32) < m0 from hm)).2.2.1) (by decide) (by decide) ?_
      show Steps p.tables e below (T34.setTop (mkF m 31 #[.val (.int c0), .val (.int m0), .val (.double r), .second, .unset, .unset, .unset, .unset] [])) _
      exact kt)
    have er : r = FP.ddiv (FP.i2d c0) (FP.i2d m0) := by rw [q_r, if_pos ((own_pos m0).mpr hm)]
    obtain ⟨d0, d1, d2, d3, d4, d5⟩ := own_div c0 m0 hm
    rw [← er] at d0 d1 d2 d3
    have hnz : m0 ≠ 0 := fun e => by rw [e] at hm; exact absurd hm (by decide)
    have S42 : Go p e below s₁ (entryFrame m #[(.int c0), (.int m0)] maxLocals) T34 (mkF m 48 #[.val (.int c0), .val (.int m0), .val (.double r), .second, .val (.int (c0 / m0)), .val (.int (c0 % m0)), .val (.double (FP.i2d (c0 / m0))), .second] [(.int (c0 % m0))]) := fun t kt => S41 t (by
      refine XS.iloadN X34.here hx rfl (hb hby at_31) rfl ?_
      show Steps p.tables e below (T34.setTop (mkF m 32 #[.val (.int c0), .val (.int m0), .val (.double r), .second, .unset, .unset, .unset, .unset] [(.int c0)])) _
      refine XS.iloadN X34.here hx rfl (hb hby at_32) rfl ?_
      show Steps p.tables e below (T34.setTop (mkF m 33 #[.val (.int c0), .val (.int m0), .val (.double r), .second, .unset, .unset, .unset, .unset] [(.int m0), (.int c0)])) _
      refine XS.idiv X34.here hx rfl (hb hby at_33) rfl hnz ?_
      show Steps p.tables e below (T34.setTop (mkF m 34 #[.val (.int c0), .val (.int m0), .val (.double r), .second, .unset, .unset, .unset, .unset] [(.int (c0 / m0))])) _
      refine XS.istore X34.here hx rfl (hb hby at_34) rfl (l' := #[.val (.int c0), .val (.int m0), .val (.double r), .second, .val (.int (c0 / m0)), .unset, .unset, .unset]) rfl ?_
      show Steps p.tables e below (T34.setTop (mkF m 36 #[.val (.int c0), .val (.int m0), .val (.double r), .second, .val (.int (c0 / m0)), .unset, .unset, .unset] [])) _
      refine XS.iloadN X34.here hx rfl (hb hby at_36) rfl ?_
      show Steps p.tables e below (T34.setTop (mkF m 37 #[.val (.int c0), .val (.int m0), .val (.double r), .second, .val (.int (c0 / m0)), .unset, .unset, .unset] [(.int c0)])) _
      refine XS.iloadN X34.here hx rfl (hb hby at_37) rfl ?_
      show Steps p.tables e below (T34.setTop (mkF m 38 #[.val (.int c0), .val (.int m0), .val (.double r), .second, .val (.int (c0 / m0)), .unset, .unset, .unset] [(.int m0), (.int c0)])) _
      refine iremM X34 hx rfl (hb hby at_38) rfl hnz ?_
      show Steps p.tables e below (T34.setTop (mkF m 39 #[.val (.int c0), .val (.int m0), .val (.double r), .second, .val (.int (c0 / m0)), .unset, .unset, .unset] [(.int (c0 % m0))])) _
      refine XS.istore X34.here hx rfl (hb hby at_39) rfl (l' := #[.val (.int c0), .val (.int m0), .val (.double r), .second, .val (.int (c0 / m0)), .val (.int (c0 % m0)), .unset, .unset]) rfl ?_
      show Steps p.tables e below (T34.setTop (mkF m 41 #[.val (.int c0), .val (.int m0), .val (.double r), .second, .val (.int (c0 / m0)), .val (.int (c0 % m0)), .unset, .unset] [])) _
      refine XS.iload X34.here hx rfl (hb hby at_41) rfl ?_
      show Steps p.tables e below (T34.setTop (mkF m 43 #[.val (.int c0), .val (.int m0), .val (.double r), .second, .val (.int (c0 / m0)), .val (.int (c0 % m0)), .unset, .unset] [(.int (c0 / m0))])) _
      refine XS.i2dS X34.here hx rfl (hb hby at_43) rfl rfl ?_
      show Steps p.tables e below (T34.setTop (mkF m 44 #[.val (.int c0), .val (.int m0), .val (.double r), .second, .val (.int (c0 / m0)), .val (.int (c0 % m0)), .unset, .unset] [(.double (FP.i2d (c0 / m0)))])) _
      refine XS.dstore X34.here hx rfl (hb hby at_44) rfl (l' := #[.val (.int c0), .val (.int m0), .val (.double r), .second, .val (.int (c0 / m0)), .val (.int (c0 % m0)), .val (.double (FP.i2d (c0 / m0))), .second]) rfl ?_
      show Steps p.tables e below (T34.setTop (mkF m 46 #[.val (.int c0), .val (.int m0), .val (.double r), .second, .val (.int (c0 / m0)), .val (.int (c0 % m0)), .val (.double (FP.i2d (c0 / m0))), .second] [])) _
      refine XS.iload X34.here hx rfl (hb hby at_46) rfl ?_
      show Steps p.tables e below (T34.setTop (mkF m 48 #[.val (.int c0), .val (.int m0), .val (.double r), .second, .val (.int (c0 / m0)), .val (.int (c0 % m0)), .val (.double (FP.i2d (c0 / m0))), .second] [(.int (c0 % m0))])) _
      exact kt)
    by_cases hr : (c0 % m0) = (0 : Int32)
    · have S43 : Go p e below s₁ (entryFrame m #[(.int c0), (.int m0)] maxLocals) T34 (mkF m 51 #[.val (.int c0), .val (.int m0), .val (.double r), .second, .val (.int (c0 / m0)), .val (.int (c0 % m0)), .val (.double (FP.i2d (c0 / m0))), .second] []) := fun t kt => S42 t (by
        refine XS.ifNo X34.here hx rfl (hb hby at_48) rfl ((if0 _ _).trans (teq (show (c0 % m0) = (0 : Int32) from hr)).2) ?_
        show Steps p.tables e below (T34.setTop (mkF m 51 #[.val (.int c0), .val (.int m0), .val (.double r), .second, .val (.int (c0 / m0)), .val (.int (c0 % m0)), .val (.double (FP.i2d (c0 / m0))), .second] [])) _
        exact kt)
      have e1 := d1 hr
      have S44 : Go p e below s₁ (entryFrame m #[(.int c0), (.int m0)] maxLocals) T34 (mkF m 55 #[.val (.int c0), .val (.int m0), .val (.double r), .second, .val (.int (c0 / m0)), .val (.int (c0 % m0)), .val (.double (FP.i2d (c0 / m0))), .second] [(.int (FP.cmpInt (-1) (FP.dcmp r (FP.i2d (c0 / m0)))))]) := fun t kt => S43 t (by
        refine XS.dloadN X34.here hx rfl (hb hby at_51) rfl ?_
        show Steps p.tables e below (T34.setTop (mkF m 52 #[.val (.int c0), .val (.int m0), .val (.double r), .second, .val (.int (c0 / m0)), .val (.int (c0 % m0)), .val (.double (FP.i2d (c0 / m0))), .second] [(.double r)])) _
        refine XS.dload X34.here hx rfl (hb hby at_52) rfl ?_
        show Steps p.tables e below (T34.setTop (mkF m 54 #[.val (.int c0), .val (.int m0), .val (.double r), .second, .val (.int (c0 / m0)), .val (.int (c0 % m0)), .val (.double (FP.i2d (c0 / m0))), .second] [(.double (FP.i2d (c0 / m0))), (.double r)])) _
        refine XS.dcmpS X34.here hx rfl (hb hby at_54) rfl (cmpV_l _) ?_
        show Steps p.tables e below (T34.setTop (mkF m 55 #[.val (.int c0), .val (.int m0), .val (.double r), .second, .val (.int (c0 / m0)), .val (.int (c0 % m0)), .val (.double (FP.i2d (c0 / m0))), .second] [(.int (FP.cmpInt (-1) (FP.dcmp r (FP.i2d (c0 / m0)))))])) _
        exact kt)
      have S45 : Go p e below s₁ (entryFrame m #[(.int c0), (.int m0)] maxLocals) T34 (mkF m 63 #[.val (.int c0), .val (.int m0), .val (.double r), .second, .val (.int (c0 / m0)), .val (.int (c0 % m0)), .val (.double (FP.i2d (c0 / m0))), .second] [(.int (1 : Int32))]) := fun t kt => S44 t (by
        refine XS.ifNo X34.here hx rfl (hb hby at_55) rfl ((if0 _ _).trans (teq (show (FP.cmpInt (-1) (FP.dcmp r (FP.i2d (c0 / m0)))) = (0 : Int32) from (by rw [e1]; rfl))).2) ?_
        show Steps p.tables e below (T34.setTop (mkF m 58 #[.val (.int c0), .val (.int m0), .val (.double r), .second, .val (.int (c0 / m0)), .val (.int (c0 % m0)), .val (.double (FP.i2d (c0 / m0))), .second] [])) _
        refine XS.iconst X34.here hx rfl (hb hby at_58) ?_
        show Steps p.tables e below (T34.setTop (mkF m 59 #[.val (.int c0), .val (.int m0), .val (.double r), .second, .val (.int (c0 / m0)), .val (.int (c0 % m0)), .val (.double (FP.i2d (c0 / m0))), .second] [(.int (1 : Int32))])) _
        refine XS.goto X34.here hx rfl (pc0 := 59) (pc' := 63) rfl (hb hby at_59) (by decide) (by decide) ?_
        show Steps p.tables e below (T34.setTop (mkF m 63 #[.val (.int c0), .val (.int m0), .val (.double r), .second, .val (.int (c0 / m0)), .val (.int (c0 % m0)), .val (.double (FP.i2d (c0 / m0))), .second] [(.int (1 : Int32))])) _
        exact kt)
      obtain ⟨fs, hr, hrun, hended, hW, hsame⟩ := X34.leave (v := some (.int (1 : Int32))) (fun h => by first | rfl | (rw [Bd.returns] at h; cases h))
      refine ⟨_, _, S45 _ ?_, hrun, hended, _, _, rfl, ?_, ⟨_, rfl⟩, hW, hsame.mono (by decide) (by decide)⟩
      · exact retN X34 hx (t := .boolean) Bd.returns (by simp) (hb hby at_63) hr
      · show Q_law Z c0 m0 h0 n0 _ T34.heap _
        rw [e34]
        exact ⟨rfl, N34⟩
    · have S46 : Go p e below s₁ (entryFrame m #[(.int c0), (.int m0)] maxLocals) T34 (mkF m 65 #[.val (.int c0), .val (.int m0), .val (.double r), .second, .val (.int (c0 / m0)), .val (.int (c0 % m0)), .val (.double (FP.i2d (c0 / m0))), .second] [(.int c0)]) := fun t kt => S42 t (by
        refine XS.ifYes X34.here hx rfl (pc0 := 48) (pc' := 64) rfl (hb hby at_48) rfl ((if0 _ _).trans (feq (show ¬ ((c0 % m0) = (0 : Int32)) from hr)).2) (by decide) (by decide) ?_
        show Steps p.tables e below (T34.setTop (mkF m 64 #[.val (.int c0), .val (.int m0), .val (.double r), .second, .val (.int (c0 / m0)), .val (.int (c0 % m0)), .val (.double (FP.i2d (c0 / m0))), .second] [])) _
        refine XS.iloadN X34.here hx rfl (hb hby at_64) rfl ?_
        show Steps p.tables e below (T34.setTop (mkF m 65 #[.val (.int c0), .val (.int m0), .val (.double r), .second, .val (.int (c0 / m0)), .val (.int (c0 % m0)), .val (.double (FP.i2d (c0 / m0))), .second] [(.int c0)])) _
        exact kt)
      by_cases hp : (0 : Int32) < c0
      · have S47 : Go p e below s₁ (entryFrame m #[(.int c0), (.int m0)] maxLocals) T34 (mkF m 68 #[.val (.int c0), .val (.int m0), .val (.double r), .second, .val (.int (c0 / m0)), .val (.int (c0 % m0)), .val (.double (FP.i2d (c0 / m0))), .second] []) := fun t kt => S46 t (by
          refine XS.ifNo X34.here hx rfl (hb hby at_65) rfl ((if0 _ _).trans (tlt (show (0 : Int32) < c0 from hp)).2.2.2) ?_
          show Steps p.tables e below (T34.setTop (mkF m 68 #[.val (.int c0), .val (.int m0), .val (.double r), .second, .val (.int (c0 / m0)), .val (.int (c0 % m0)), .val (.double (FP.i2d (c0 / m0))), .second] [])) _
          exact kt)
        have e2 := d2 hr hp
        have S48 : Go p e below s₁ (entryFrame m #[(.int c0), (.int m0)] maxLocals) T34 (mkF m 72 #[.val (.int c0), .val (.int m0), .val (.double r), .second, .val (.int (c0 / m0)), .val (.int (c0 % m0)), .val (.double (FP.i2d (c0 / m0))), .second] [(.int (FP.cmpInt 1 (FP.dcmp (FP.i2d (c0 / m0)) r)))]) := fun t kt => S47 t (by
          refine XS.dload X34.here hx rfl (hb hby at_68) rfl ?_
          show Steps p.tables e below (T34.setTop (mkF m 70 #[.val (.int c0), .val (.int m0), .val (.double r), .second, .val (.int (c0 / m0)), .val (.int (c0 % m0)), .val (.double (FP.i2d (c0 / m0))), .second] [(.double (FP.i2d (c0 / m0)))])) _
          refine XS.dloadN X34.here hx rfl (hb hby at_70) rfl ?_
          show Steps p.tables e below (T34.setTop (mkF m 71 #[.val (.int c0), .val (.int m0), .val (.double r), .second, .val (.int (c0 / m0)), .val (.int (c0 % m0)), .val (.double (FP.i2d (c0 / m0))), .second] [(.double r), (.double (FP.i2d (c0 / m0)))])) _
          refine XS.dcmpS X34.here hx rfl (hb hby at_71) rfl (cmpV_g _) ?_
          show Steps p.tables e below (T34.setTop (mkF m 72 #[.val (.int c0), .val (.int m0), .val (.double r), .second, .val (.int (c0 / m0)), .val (.int (c0 % m0)), .val (.double (FP.i2d (c0 / m0))), .second] [(.int (FP.cmpInt 1 (FP.dcmp (FP.i2d (c0 / m0)) r)))])) _
          exact kt)
        have S49 : Go p e below s₁ (entryFrame m #[(.int c0), (.int m0)] maxLocals) T34 (mkF m 81 #[.val (.int c0), .val (.int m0), .val (.double r), .second, .val (.int (c0 / m0)), .val (.int (c0 % m0)), .val (.double (FP.i2d (c0 / m0))), .second] [(.int (FP.cmpInt 1 (FP.dcmp r (FP.dadd (FP.i2d (c0 / m0)) (4607182418800017408 : UInt64)))))]) := fun t kt => S48 t (by
          refine XS.ifNo X34.here hx rfl (hb hby at_72) rfl ((if0 _ _).trans (tlt (show (FP.cmpInt 1 (FP.dcmp (FP.i2d (c0 / m0)) r)) < (0 : Int32) from (by rw [e2.1]; decide))).2.1) ?_
          show Steps p.tables e below (T34.setTop (mkF m 75 #[.val (.int c0), .val (.int m0), .val (.double r), .second, .val (.int (c0 / m0)), .val (.int (c0 % m0)), .val (.double (FP.i2d (c0 / m0))), .second] [])) _
          refine XS.dloadN X34.here hx rfl (hb hby at_75) rfl ?_
          show Steps p.tables e below (T34.setTop (mkF m 76 #[.val (.int c0), .val (.int m0), .val (.double r), .second, .val (.int (c0 / m0)), .val (.int (c0 % m0)), .val (.double (FP.i2d (c0 / m0))), .second] [(.double r)])) _
          refine XS.dload X34.here hx rfl (hb hby at_76) rfl ?_
          show Steps p.tables e below (T34.setTop (mkF m 78 #[.val (.int c0), .val (.int m0), .val (.double r), .second, .val (.int (c0 / m0)), .val (.int (c0 % m0)), .val (.double (FP.i2d (c0 / m0))), .second] [(.double (FP.i2d (c0 / m0))), (.double r)])) _
          refine XS.dconst1 X34.here hx rfl (hb hby at_78) rfl ?_
          show Steps p.tables e below (T34.setTop (mkF m 79 #[.val (.int c0), .val (.int m0), .val (.double r), .second, .val (.int (c0 / m0)), .val (.int (c0 % m0)), .val (.double (FP.i2d (c0 / m0))), .second] [(.double (4607182418800017408 : UInt64)), (.double (FP.i2d (c0 / m0))), (.double r)])) _
          refine XS.daddS X34.here hx rfl (hb hby at_79) rfl d4 rfl ?_
          show Steps p.tables e below (T34.setTop (mkF m 80 #[.val (.int c0), .val (.int m0), .val (.double r), .second, .val (.int (c0 / m0)), .val (.int (c0 % m0)), .val (.double (FP.i2d (c0 / m0))), .second] [(.double (FP.dadd (FP.i2d (c0 / m0)) (4607182418800017408 : UInt64))), (.double r)])) _
          refine XS.dcmpS X34.here hx rfl (hb hby at_80) rfl (cmpV_g _) ?_
          show Steps p.tables e below (T34.setTop (mkF m 81 #[.val (.int c0), .val (.int m0), .val (.double r), .second, .val (.int (c0 / m0)), .val (.int (c0 % m0)), .val (.double (FP.i2d (c0 / m0))), .second] [(.int (FP.cmpInt 1 (FP.dcmp r (FP.dadd (FP.i2d (c0 / m0)) (4607182418800017408 : UInt64)))))])) _
          exact kt)
        have S50 : Go p e below s₁ (entryFrame m #[(.int c0), (.int m0)] maxLocals) T34 (mkF m 89 #[.val (.int c0), .val (.int m0), .val (.double r), .second, .val (.int (c0 / m0)), .val (.int (c0 % m0)), .val (.double (FP.i2d (c0 / m0))), .second] [(.int (1 : Int32))]) := fun t kt => S49 t (by
          refine XS.ifNo X34.here hx rfl (hb hby at_81) rfl ((if0 _ _).trans (tlt (show (FP.cmpInt 1 (FP.dcmp r (FP.dadd (FP.i2d (c0 / m0)) (4607182418800017408 : UInt64)))) < (0 : Int32) from (by rw [e2.2]; decide))).2.1) ?_
          show Steps p.tables e below (T34.setTop (mkF m 84 #[.val (.int c0), .val (.int m0), .val (.double r), .second, .val (.int (c0 / m0)), .val (.int (c0 % m0)), .val (.double (FP.i2d (c0 / m0))), .second] [])) _
          refine XS.iconst X34.here hx rfl (hb hby at_84) ?_
          show Steps p.tables e below (T34.setTop (mkF m 85 #[.val (.int c0), .val (.int m0), .val (.double r), .second, .val (.int (c0 / m0)), .val (.int (c0 % m0)), .val (.double (FP.i2d (c0 / m0))), .second] [(.int (1 : Int32))])) _
          refine XS.goto X34.here hx rfl (pc0 := 85) (pc' := 89) rfl (hb hby at_85) (by decide) (by decide) ?_
          show Steps p.tables e below (T34.setTop (mkF m 89 #[.val (.int c0), .val (.int m0), .val (.double r), .second, .val (.int (c0 / m0)), .val (.int (c0 % m0)), .val (.double (FP.i2d (c0 / m0))), .second] [(.int (1 : Int32))])) _
          exact kt)
        obtain ⟨fs, hr, hrun, hended, hW, hsame⟩ := X34.leave (v := some (.int (1 : Int32))) (fun h => by first | rfl | (rw [Bd.returns] at h; cases h))
        refine ⟨_, _, S50 _ ?_, hrun, hended, _, _, rfl, ?_, ⟨_, rfl⟩, hW, hsame.mono (by decide) (by decide)⟩
        · exact retN X34 hx (t := .boolean) Bd.returns (by simp) (hb hby at_89) hr
        · show Q_law Z c0 m0 h0 n0 _ T34.heap _
          rw [e34]
          exact ⟨rfl, N34⟩
      · have S51 : Go p e below s₁ (entryFrame m #[(.int c0), (.int m0)] maxLocals) T34 (mkF m 90 #[.val (.int c0), .val (.int m0), .val (.double r), .second, .val (.int (c0 / m0)), .val (.int (c0 % m0)), .val (.double (FP.i2d (c0 / m0))), .second] []) := fun t kt => S46 t (by
          refine XS.ifYes X34.here hx rfl (pc0 := 65) (pc' := 90) rfl (hb hby at_65) rfl ((if0 _ _).trans (flt (show ¬ ((0 : Int32) < c0) from hp)).2.2.2) (by decide) (by decide) ?_
          show Steps p.tables e below (T34.setTop (mkF m 90 #[.val (.int c0), .val (.int m0), .val (.double r), .second, .val (.int (c0 / m0)), .val (.int (c0 % m0)), .val (.double (FP.i2d (c0 / m0))), .second] [])) _
          exact kt)
        have e3 := d3 hr hp
        have S52 : Go p e below s₁ (entryFrame m #[(.int c0), (.int m0)] maxLocals) T34 (mkF m 96 #[.val (.int c0), .val (.int m0), .val (.double r), .second, .val (.int (c0 / m0)), .val (.int (c0 % m0)), .val (.double (FP.i2d (c0 / m0))), .second] [(.int (FP.cmpInt 1 (FP.dcmp (FP.dsub (FP.i2d (c0 / m0)) (4607182418800017408 : UInt64)) r)))]) := fun t kt => S51 t (by
          refine XS.dload X34.here hx rfl (hb hby at_90) rfl ?_
          show Steps p.tables e below (T34.setTop (mkF m 92 #[.val (.int c0), .val (.int m0), .val (.double r), .second, .val (.int (c0 / m0)), .val (.int (c0 % m0)), .val (.double (FP.i2d (c0 / m0))), .second] [(.double (FP.i2d (c0 / m0)))])) _
          refine XS.dconst1 X34.here hx rfl (hb hby at_92) rfl ?_
          show Steps p.tables e below (T34.setTop (mkF m 93 #[.val (.int c0), .val (.int m0), .val (.double r), .second, .val (.int (c0 / m0)), .val (.int (c0 % m0)), .val (.double (FP.i2d (c0 / m0))), .second] [(.double (4607182418800017408 : UInt64)), (.double (FP.i2d (c0 / m0)))])) _
          refine XS.dsubS X34.here hx rfl (hb hby at_93) rfl d5 rfl ?_
          show Steps p.tables e below (T34.setTop (mkF m 94 #[.val (.int c0), .val (.int m0), .val (.double r), .second, .val (.int (c0 / m0)), .val (.int (c0 % m0)), .val (.double (FP.i2d (c0 / m0))), .second] [(.double (FP.dsub (FP.i2d (c0 / m0)) (4607182418800017408 : UInt64)))])) _
          refine XS.dloadN X34.here hx rfl (hb hby at_94) rfl ?_
          show Steps p.tables e below (T34.setTop (mkF m 95 #[.val (.int c0), .val (.int m0), .val (.double r), .second, .val (.int (c0 / m0)), .val (.int (c0 % m0)), .val (.double (FP.i2d (c0 / m0))), .second] [(.double r), (.double (FP.dsub (FP.i2d (c0 / m0)) (4607182418800017408 : UInt64)))])) _
          refine XS.dcmpS X34.here hx rfl (hb hby at_95) rfl (cmpV_g _) ?_
          show Steps p.tables e below (T34.setTop (mkF m 96 #[.val (.int c0), .val (.int m0), .val (.double r), .second, .val (.int (c0 / m0)), .val (.int (c0 % m0)), .val (.double (FP.i2d (c0 / m0))), .second] [(.int (FP.cmpInt 1 (FP.dcmp (FP.dsub (FP.i2d (c0 / m0)) (4607182418800017408 : UInt64)) r)))])) _
          exact kt)
        have S53 : Go p e below s₁ (entryFrame m #[(.int c0), (.int m0)] maxLocals) T34 (mkF m 103 #[.val (.int c0), .val (.int m0), .val (.double r), .second, .val (.int (c0 / m0)), .val (.int (c0 % m0)), .val (.double (FP.i2d (c0 / m0))), .second] [(.int (FP.cmpInt 1 (FP.dcmp r (FP.i2d (c0 / m0)))))]) := fun t kt => S52 t (by
          refine XS.ifNo X34.here hx rfl (hb hby at_96) rfl ((if0 _ _).trans (tlt (show (FP.cmpInt 1 (FP.dcmp (FP.dsub (FP.i2d (c0 / m0)) (4607182418800017408 : UInt64)) r)) < (0 : Int32) from (by rw [e3.1]; decide))).2.1) ?_
          show Steps p.tables e below (T34.setTop (mkF m 99 #[.val (.int c0), .val (.int m0), .val (.double r), .second, .val (.int (c0 / m0)), .val (.int (c0 % m0)), .val (.double (FP.i2d (c0 / m0))), .second] [])) _
          refine XS.dloadN X34.here hx rfl (hb hby at_99) rfl ?_
          show Steps p.tables e below (T34.setTop (mkF m 100 #[.val (.int c0), .val (.int m0), .val (.double r), .second, .val (.int (c0 / m0)), .val (.int (c0 % m0)), .val (.double (FP.i2d (c0 / m0))), .second] [(.double r)])) _
          refine XS.dload X34.here hx rfl (hb hby at_100) rfl ?_
          show Steps p.tables e below (T34.setTop (mkF m 102 #[.val (.int c0), .val (.int m0), .val (.double r), .second, .val (.int (c0 / m0)), .val (.int (c0 % m0)), .val (.double (FP.i2d (c0 / m0))), .second] [(.double (FP.i2d (c0 / m0))), (.double r)])) _
          refine XS.dcmpS X34.here hx rfl (hb hby at_102) rfl (cmpV_g _) ?_
          show Steps p.tables e below (T34.setTop (mkF m 103 #[.val (.int c0), .val (.int m0), .val (.double r), .second, .val (.int (c0 / m0)), .val (.int (c0 % m0)), .val (.double (FP.i2d (c0 / m0))), .second] [(.int (FP.cmpInt 1 (FP.dcmp r (FP.i2d (c0 / m0)))))])) _
          exact kt)
        have S54 : Go p e below s₁ (entryFrame m #[(.int c0), (.int m0)] maxLocals) T34 (mkF m 111 #[.val (.int c0), .val (.int m0), .val (.double r), .second, .val (.int (c0 / m0)), .val (.int (c0 % m0)), .val (.double (FP.i2d (c0 / m0))), .second] [(.int (1 : Int32))]) := fun t kt => S53 t (by
          refine XS.ifNo X34.here hx rfl (hb hby at_103) rfl ((if0 _ _).trans (tlt (show (FP.cmpInt 1 (FP.dcmp r (FP.i2d (c0 / m0)))) < (0 : Int32) from (by rw [e3.2]; decide))).2.1) ?_
          show Steps p.tables e below (T34.setTop (mkF m 106 #[.val (.int c0), .val (.int m0), .val (.double r), .second, .val (.int (c0 / m0)), .val (.int (c0 % m0)), .val (.double (FP.i2d (c0 / m0))), .second] [])) _
          refine XS.iconst X34.here hx rfl (hb hby at_106) ?_
          show Steps p.tables e below (T34.setTop (mkF m 107 #[.val (.int c0), .val (.int m0), .val (.double r), .second, .val (.int (c0 / m0)), .val (.int (c0 % m0)), .val (.double (FP.i2d (c0 / m0))), .second] [(.int (1 : Int32))])) _
          refine XS.goto X34.here hx rfl (pc0 := 107) (pc' := 111) rfl (hb hby at_107) (by decide) (by decide) ?_
          show Steps p.tables e below (T34.setTop (mkF m 111 #[.val (.int c0), .val (.int m0), .val (.double r), .second, .val (.int (c0 / m0)), .val (.int (c0 % m0)), .val (.double (FP.i2d (c0 / m0))), .second] [(.int (1 : Int32))])) _
          exact kt)
        obtain ⟨fs, hr, hrun, hended, hW, hsame⟩ := X34.leave (v := some (.int (1 : Int32))) (fun h => by first | rfl | (rw [Bd.returns] at h; cases h))
        refine ⟨_, _, S54 _ ?_, hrun, hended, _, _, rfl, ?_, ⟨_, rfl⟩, hW, hsame.mono (by decide) (by decide)⟩
        · exact retN X34 hx (t := .boolean) Bd.returns (by simp) (hb hby at_111) hr
        · show Q_law Z c0 m0 h0 n0 _ T34.heap _
          rw [e34]
          exact ⟨rfl, N34⟩
  · have S38 : Go p e below s₁ (entryFrame m #[(.int c0), (.int m0)] maxLocals) T34 (mkF m 19 #[.val (.int c0), .val (.int m0), .val (.double r), .second, .unset, .unset, .unset, .unset] []) := fun t kt => S37 t (by
      refine XS.ifNo X34.here hx rfl (hb hby at_16) rfl ((if0 _ _).trans (flt (show ¬ ((0 : Int32) < m0) from hm)).2.2.1) ?_
      show Steps p.tables e below (T34.setTop (mkF m 19 #[.val (.int c0), .val (.int m0), .val (.double r), .second, .unset, .unset, .unset, .unset] [])) _
      exact kt)
    have er : r = 4607182418800017408 := by rw [q_r, if_neg (fun h => hm ((own_pos m0).mp h))]
    have S39 : Go p e below s₁ (entryFrame m #[(.int c0), (.int m0)] maxLocals) T34 (mkF m 22 #[.val (.int c0), .val (.int m0), .val (.double r), .second, .unset, .unset, .unset, .unset] [(.int (FP.cmpInt (-1) (FP.dcmp r (4607182418800017408 : UInt64))))]) := fun t kt => S38 t (by
      refine XS.dloadN X34.here hx rfl (hb hby at_19) rfl ?_
      show Steps p.tables e below (T34.setTop (mkF m 20 #[.val (.int c0), .val (.int m0), .val (.double r), .second, .unset, .unset, .unset, .unset] [(.double r)])) _
      refine XS.dconst1 X34.here hx rfl (hb hby at_20) rfl ?_
      show Steps p.tables e below (T34.setTop (mkF m 21 #[.val (.int c0), .val (.int m0), .val (.double r), .second, .unset, .unset, .unset, .unset] [(.double (4607182418800017408 : UInt64)), (.double r)])) _
      refine XS.dcmpS X34.here hx rfl (hb hby at_21) rfl (cmpV_l _) ?_
      show Steps p.tables e below (T34.setTop (mkF m 22 #[.val (.int c0), .val (.int m0), .val (.double r), .second, .unset, .unset, .unset, .unset] [(.int (FP.cmpInt (-1) (FP.dcmp r (4607182418800017408 : UInt64))))])) _
      exact kt)
    have S40 : Go p e below s₁ (entryFrame m #[(.int c0), (.int m0)] maxLocals) T34 (mkF m 30 #[.val (.int c0), .val (.int m0), .val (.double r), .second, .unset, .unset, .unset, .unset] [(.int (1 : Int32))]) := fun t kt => S39 t (by
      refine XS.ifNo X34.here hx rfl (hb hby at_22) rfl ((if0 _ _).trans (teq (show (FP.cmpInt (-1) (FP.dcmp r (4607182418800017408 : UInt64))) = (0 : Int32) from (by rw [er]; decide +kernel))).2) ?_
      show Steps p.tables e below (T34.setTop (mkF m 25 #[.val (.int c0), .val (.int m0), .val (.double r), .second, .unset, .unset, .unset, .unset] [])) _
      refine XS.iconst X34.here hx rfl (hb hby at_25) ?_
      show Steps p.tables e below (T34.setTop (mkF m 26 #[.val (.int c0), .val (.int m0), .val (.double r), .second, .unset, .unset, .unset, .unset] [(.int (1 : Int32))])) _
      refine XS.goto X34.here hx rfl (pc0 := 26) (pc' := 30) rfl (hb hby at_26) (by decide) (by decide) ?_
      show Steps p.tables e below (T34.setTop (mkF m 30 #[.val (.int c0), .val (.int m0), .val (.double r), .second, .unset, .unset, .unset, .unset] [(.int (1 : Int32))])) _
      exact kt)
    obtain ⟨fs, hr, hrun, hended, hW, hsame⟩ := X34.leave (v := some (.int (1 : Int32))) (fun h => by first | rfl | (rw [Bd.returns] at h; cases h))
    refine ⟨_, _, S40 _ ?_, hrun, hended, _, _, rfl, ?_, ⟨_, rfl⟩, hW, hsame.mono (by decide) (by decide)⟩
    · exact retN X34 hx (t := .boolean) Bd.returns (by simp) (hb hby at_30) hr
    · show Q_law Z c0 m0 h0 n0 _ T34.heap _
      rw [e34]
      exact ⟨rfl, N34⟩
set_option maxRecDepth 65536 in
set_option maxHeartbeats 40000000 in
theorem comes_1 {Post : Tables → Env → Array Value → State → Outcome → State → Prop} (hpost : ∀ tb e args s v u, (limb_1_1.after args s (.returned v) u = true ∧ limb_1_2.after args s (.returned v) u = true ∧ True) → FrameEnd s (.returned v) u (Jvm.fieldLocs frame_1_writes args s ++ Jvm.arrayLocs frame_1_arrays args s ++ Jvm.staticLocs frame_1_statics s) 16 128 → Post tb e args s (.returned v) u) :
    ArmFor flags0 classFile x code maxLocals ret World_1 tables_1 room_1 Calls_1 rest_1 Pre_1 Post := by
  intro l hfl _ _ p e ha hc hk s m args below hf hA hF happ hP
  obtain ⟨hcalls, hrest, hpre⟩ := hP
  obtain ⟨-, -, -, hnamed, -, -, -, hat⟩ := (Spec.applies_iff hf).mp happ
  obtain ⟨hg, hn⟩ := and_e (Cond.before_iff.mp (show (Jvm.Cond.and given_1 narrow_1).before args s = true from hpre))
  obtain ⟨hcount, r0⟩ := and_e hg
  obtain ⟨v0, r1⟩ := and_e r0
  obtain ⟨w0, w1, rfl⟩ : ∃ w0 w1 : Value, args = #[w0, w1] := by
    have hs : args.size = 2 := by simpa [Cond.value, given_1] using hcount
    obtain ⟨L⟩ := args
    match L, hs with
    | [w0, w1], _ => exact ⟨w0, w1, rfl⟩
  have hw := fun d (hd : d ∈ tables_1) => atoms_spec (ws := Jvm.Cond.code x code maxLocals ret :: tables_1) hat d (List.mem_cons_of_mem _ hd)
  have hfit : Fit s := fun {y c} hc i hi => by
    obtain ⟨ha, rfl⟩ := Array.getElem?_eq_some_iff.mp hc
    have q := List.all_eq_true.mp ((Array.all_eq_true_iff_forall_mem.mp hF) _ (Array.getElem_mem ha)) i (List.mem_range.mpr hi)
    simpa [Array.getElem?_eq_getElem hi] using q
  obtain ⟨i0, ei0⟩ := is_v v0
  obtain rfl : w0 = (.int i0) := Option.some.inj ei0
  obtain ⟨i1, ei1⟩ := is_v r1
  obtain rfl : w1 = (.int i1) := Option.some.inj ei1
  obtain ⟨n, o, h1, h2, h3, _, L, rfl, ⟨rfl, N⟩, hq⟩ := rm_law l s _ hw tables_1 i0 i1 s.heap s.heap.size (Nat.le_refl _)  p e ha hc hk s m _ below hf ((Spec.applies_iff_loose hf).mp happ).1 ⟨rfl, State.Warmed39.refl s, rfl⟩ trivial
  refine ⟨n, _, h1, h2, h3, hpost _ _ _ _ _ _ ⟨Cond.after_iff.mpr rfl, Cond.after_iff.mpr (eq_i res_at (Term.int_eval (1)) rfl), trivial⟩ ⟨hq.1, hq.2.1, (hq.2.2.sift fun y hy => Or.inr (N y hy)).mono (by decide) (by decide)⟩⟩
theorem main_1_1 : Claimed_1_1 := comes_1 fun _ _ _ _ _ _ h hF => ⟨h.1, hF⟩
theorem main_1_2 : Claimed_1_2 := comes_1 fun _ _ _ _ _ _ h hF => ⟨h.2.1, hF⟩
end Jvm.Pilot.@@N@@
namespace Jvm.Pilot.@@N@@
open Jvm Jvm.ClassFile Sem Op Lib Jvm.Free Jvm.Stand Jvm.Pilot.@@N@@.Jvm.D
/-! MADE BY PROGRAM (witnessworld.py) out of the Statement's table words and the real class files: 10 classes; the members and pool entries that the words name. The judged class is class 1, her method 1. -/
namespace start1
open Jvm.ClassFile
def u (s : String) : CpInfo := .utf8 (stringToUtf16 s)
/-- a pool by its gaps: so many unusable entries, then the entry; so many at the end -/
def gap : Nat → List CpInfo → List CpInfo
  | 0, r => r
  | n + 1, r => .unusable :: gap n r
def poolList (es : List (Nat × CpInfo)) (last : Nat) : List CpInfo := es.foldr (fun e r => gap e.1 (e.2 :: r)) (gap last [])
def pool (es : List (Nat × CpInfo)) (last : Nat) : Array CpInfo := ⟨poolList es last⟩
def fileOf (pool : Array CpInfo) (this : Nat) (attrs : Array Attribute := #[]) (ms : Array MethodInfo := #[]) (fl : Nat := 33) (sup : Nat := 0) (ifs : Array Nat := #[]) (fds : Array FieldInfo := #[]) : ClassFile where
  minorVersion := 0
  majorVersion := 65
  constantPool := pool
  accessFlags := fl
  thisClass := this
  superClass := sup
  interfaces := ifs
  fields := fds
  methods := ms
  attributes := attrs
def plain (name : String) (sup : Option ClassId) : Class where
  name := name
  kind := .ordinary
  loader := none
  accessFlags := 33
  super := sup
  interfaces := #[]
  cf := none
  fields := #[]
  methods := #[]
  instanceTypes := #[]
  staticTypes := #[]
  resolved := #[]
  callSites := []
  init := .initialized
  statics := none
  mirror := none

def pool0 : Array CpInfo := pool [(5, u "<init>"), (0, u "()V"), (1, .class_ 10), (1, u "java/lang/Object")] 113

def k0c0 : Code := { maxStack := 0, maxLocals := 1, code := object_method_1_code, exceptionTable := #[], attributes := #[] }
def k0m0 : Method := { name := "<init>", desc := "()V", sig := { parameters := [], returnType := none }, accessFlags := 1, code := some k0c0 }
/-- java/lang/Object -/
def k0 : Class := { plain "java/lang/Object" none with
  accessFlags := 33
  interfaces := #[]
  cf := some (fileOf pool0 8 #[] #[{ accessFlags := 1, nameIndex := 5, descriptorIndex := 6, attributes := #[] }] 33 0 #[] #[])
  fields := #[]
  methods := #[k0m0]
  instanceTypes := #[]
  staticTypes := #[]
  resolved := Array.replicate 124 none
  statics := none }

def pool1 : Array CpInfo := pool [(2, .class_ 4), (1, u "java/lang/Object"), (0, u "<init>"), (0, u "()V"), (0, .class_ 8), (0, u "com/example/blindroute/blindroute/template/Evaluation"), (0, .methodref 7 10), (0, .nameAndType 5 11), (0, u "(DD)V"), (0, .methodref 7 13), (0, .nameAndType 14 15), (0, u "ratio"), (0, u "()D"), (0, .class_ 17), (0, u "com/example/blindroute/blindroute/template/EvaluationRatioPinLaw"), (2, u "law"), (0, u "(II)Z")] 3

def k1m0 : Method := { name := "<init>", desc := "()V", sig := { parameters := [], returnType := none }, accessFlags := 1, code := none }
def k1c1 : Code := { maxStack := 6, maxLocals := 8, code := code, exceptionTable := #[], attributes := #[] }
def k1m1 : Method := { name := "law", desc := "(II)Z", sig := { parameters := [.int, .int], returnType := some .boolean }, accessFlags := 9, code := some k1c1 }
/-- com/example/blindroute/blindroute/template/EvaluationRatioPinLaw -/
def k1 : Class := { plain "com/example/blindroute/blindroute/template/EvaluationRatioPinLaw" (some 0) with
  accessFlags := 49
  interfaces := #[]
  cf := some (fileOf pool1 16 #[] #[{ accessFlags := 1, nameIndex := 5, descriptorIndex := 6, attributes := #[] }, { accessFlags := 9, nameIndex := 20, descriptorIndex := 21, attributes := #[] }] 49 2 #[] #[])
  fields := #[]
  methods := #[k1m0, k1m1]
  instanceTypes := #[]
  staticTypes := #[]
  resolved := Array.replicate 25 none
  statics := none }

def pool2 : Array CpInfo := pool [(1, .methodref 2 3), (0, .class_ 4), (0, .nameAndType 5 6), (0, u "java/lang/Object"), (0, u "<init>"), (0, u "()V"), (0, .class_ 8), (0, u "java/lang/Record")] 13

def k2c0 : Code := { maxStack := 1, maxLocals := 1, code := jdk_30_method_1_code, exceptionTable := #[], attributes := #[] }
def k2m0 : Method := { name := "<init>", desc := "()V", sig := { parameters := [], returnType := none }, accessFlags := 4, code := some k2c0 }
/-- java/lang/Record -/
def k2 : Class := { plain "java/lang/Record" (some 0) with
  accessFlags := 1057
  interfaces := #[]
  cf := some (fileOf pool2 7 #[] #[{ accessFlags := 4, nameIndex := 5, descriptorIndex := 6, attributes := #[] }] 1057 2 #[] #[])
  fields := #[]
  methods := #[k2m0]
  instanceTypes := #[]
  staticTypes := #[]
  resolved := Array.replicate 22 none
  statics := none }

def pool3 : Array CpInfo := pool [(1, .methodref 2 3), (0, .class_ 4), (0, .nameAndType 5 6), (0, u "java/lang/Record"), (0, u "<init>"), (0, u "()V"), (0, .fieldref 8 9), (0, .class_ 10), (0, .nameAndType 11 12), (0, u "com/example/blindroute/blindroute/template/Evaluation"), (0, u "congestion"), (0, u "D"), (0, .fieldref 8 14), (0, .nameAndType 15 12), (0, u "minCongestion"), (12, u "(DD)V"), (3, u "ratio"), (0, u "()D")] 25

def k3c0 : Code := { maxStack := 3, maxLocals := 5, code := prog_34_method_1_code, exceptionTable := #[], attributes := #[] }
def k3m0 : Method := { name := "<init>", desc := "(DD)V", sig := { parameters := [.double, .double], returnType := none }, accessFlags := 1, code := some k3c0 }
def k3c1 : Code := { maxStack := 4, maxLocals := 1, code := prog_34_method_2_code, exceptionTable := #[], attributes := #[] }
def k3m1 : Method := { name := "ratio", desc := "()D", sig := { parameters := [], returnType := some .double }, accessFlags := 1, code := some k3c1 }
/-- com/example/blindroute/blindroute/template/Evaluation -/
def k3 : Class := { plain "com/example/blindroute/blindroute/template/Evaluation" (some 2) with
  accessFlags := 49
  interfaces := #[]
  cf := some (fileOf pool3 8 #[] #[{ accessFlags := 1, nameIndex := 5, descriptorIndex := 28, attributes := #[] }, { accessFlags := 1, nameIndex := 32, descriptorIndex := 33, attributes := #[] }] 49 2 #[] #[{ accessFlags := 18, nameIndex := 11, descriptorIndex := 12, attributes := #[] }, { accessFlags := 18, nameIndex := 15, descriptorIndex := 12, attributes := #[] }])
  fields := #[{ name := "congestion", type := .double, accessFlags := 18, slot := 0, constantValue := 0 }, { name := "minCongestion", type := .double, accessFlags := 18, slot := 1, constantValue := 0 }]
  methods := #[k3m0, k3m1]
  instanceTypes := #[.double, .double]
  staticTypes := #[]
  resolved := Array.replicate 59 none
  statics := none }

def pool4 : Array CpInfo := pool [(1, u "java/lang/Cloneable"), (0, .class_ 1), (0, u "java/lang/Object"), (0, .class_ 3)] 3

/-- java/lang/Cloneable -/
def k4 : Class := { plain "java/lang/Cloneable" (some 0) with
  accessFlags := 1537
  interfaces := #[]
  cf := some (fileOf pool4 2 #[] #[] 1537 4 #[] #[])
  fields := #[]
  methods := #[]
  instanceTypes := #[]
  staticTypes := #[]
  resolved := Array.replicate 8 none
  statics := none }

def pool5 : Array CpInfo := pool [(1, u "java/io/Serializable"), (0, .class_ 1), (0, u "java/lang/Object"), (0, .class_ 3)] 3

/-- java/io/Serializable -/
def k5 : Class := { plain "java/io/Serializable" (some 0) with
  accessFlags := 1537
  interfaces := #[]
  cf := some (fileOf pool5 2 #[] #[] 1537 4 #[] #[])
  fields := #[]
  methods := #[]
  instanceTypes := #[]
  staticTypes := #[]
  resolved := Array.replicate 8 none
  statics := none }

/-- the primitive byte -/
def k6 : Class := { plain "byte" none with kind := .primitive 'B', accessFlags := 0x411 }
/-- [B -/
def k7 : Class := { plain "[B" (some 0) with kind := .array 6 .byte, interfaces := #[4, 5], accessFlags := 1041 }

/-- the primitive int -/
def k8 : Class := { plain "int" none with kind := .primitive 'I', accessFlags := 0x411 }
/-- [I -/
def k9 : Class := { plain "[I" (some 0) with kind := .array 8 .int, interfaces := #[4, 5], accessFlags := 1041 }

def heap : Heap := #[]
def classes : Array Class := #[k0, k1, k2, k3, k4, k5, k6, k7, k8, k9]
def interned : List (Array UInt16 × Addr) := []
def slotsUsed : Nat := 0
def theMethod : MethodId := ⟨1, 1⟩
def args0 : Array Value := #[.int 7, .int 3]
def aboutOver (below : List Frame) : State where
  vm := { classes := classes, interned := interned.toArray }
  heap := heap
  slotsUsed := slotsUsed
  threads := #[{ frames := .invoking theMethod args0 :: below }]
def below0 : List Frame := [.native { method := ⟨0, 0⟩, args := #[] }]
def about1 : State := aboutOver below0
def p0 : Program := .bare "" "" ""
def e0 : Env := launch0.env 0 0 0
theorem w_frames : about1.frames = Frame.invoking theMethod args0 :: below0 := rfl
set_option maxRecDepth 65536 in
theorem w_args : argsFit about1.vm theMethod args0 = true := by decide +kernel
set_option maxRecDepth 65536 in
theorem w_heap : heapFits about1 = true := by decide +kernel
set_option maxRecDepth 65536 in
theorem w_runnable : about1.curStatus? = some .runnable := by decide +kernel
set_option maxRecDepth 65536 in
theorem w_alone : about1.alone = true := by decide +kernel
set_option maxRecDepth 65536 in
theorem w_named : about1.methodNamed? x = some theMethod := by decide +kernel
set_option maxRecDepth 65536 in
theorem w_hears : about1.hears theMethod below0 = true := by decide +kernel
set_option maxRecDepth 65536 in
theorem w_ripe : about1.ripe theMethod args0 below0 = true := by decide +kernel
theorem w_running : about1.status = .running := rfl
set_option maxRecDepth 65536 in
theorem w_room : about1.hasRoom e0.platform room_1 = true :=
  launch0.hasRoom_least _ room_1 (by decide +kernel) (by decide +kernel) (by decide +kernel) (by decide +kernel) (by decide +kernel) (by decide +kernel)
theorem allAtoms_all (ts : List Jvm.Cond) (a : Array Jvm.Value) (st : Jvm.State) : (allAtoms ts).before a st = ts.all (fun c => c.before a st) := by
  induction ts with
  | nil => rfl
  | cons c t ih =>
    show (Jvm.Cond.and c (allAtoms t)).before a st = _
    rw [Jvm.Cond.before_and, ih, List.all_cons]
def words1 : List Jvm.Cond := Jvm.Cond.code x code maxLocals ret :: tables_1
/-- a 'code' word, met by the world's own term for the bytes: nothing is compared byte by byte -/
theorem code_word {y : MethodName} {bytes : ByteArray} {mx : Nat} {rt : Option FieldType} {a : Array Value} {s : State} {m : MethodId} {meth : Method} {c : Code} (h1 : s.methodNamed? y = some m) (h2 : s.vm.method? m = some meth) (h3 : meth.code = some c) (h4 : c.code = bytes)
    (h5 : (c.maxLocals == mx && c.exceptionTable.isEmpty && decide (c.maxStack ≤ mostOperands) && decide (meth.sig.returnType = rt) && !meth.locks && decide (parseMethodDescriptor y.desc = some meth.sig)) = true) : (Jvm.Cond.code y bytes mx rt).before a s = true := by
  simp only [Bool.and_eq_true, beq_iff_eq, Bool.not_eq_true', decide_eq_true_eq] at h5
  obtain ⟨⟨⟨⟨⟨g1, g2⟩, g3⟩, g4⟩, g5⟩, g6⟩ := h5
  simp [Cond.before, Cond.holds, Cond.value, h1, h2, h3, h4, g1, g2, g3, g4, g5, g6]
def isCode : Jvm.Cond → Bool
  | .code _ _ _ _ => true
  | _ => false
theorem all_split {L : List Jvm.Cond} {P : Jvm.Cond → Bool} (h1 : L.all (fun c => isCode c || P c) = true) (h2 : ∀ c ∈ L.filter isCode, P c = true) : L.all P = true := by
  refine List.all_eq_true.mpr fun c hc => ?_
  have h := List.all_eq_true.mp h1 c hc
  rcases Bool.eq_false_or_eq_true (isCode c) with hi | hi
  · exact h2 c (List.mem_filter.mpr ⟨hc, hi⟩)
  · simpa [hi] using h
set_option maxRecDepth 65536 in
theorem w_c0 : (Jvm.Cond.code x code maxLocals ret).before args0 about1 = true := code_word (m := ⟨1, 1⟩) (meth := k1m1) (c := k1c1) (by decide +kernel) rfl rfl rfl (by decide +kernel)
set_option maxRecDepth 65536 in
theorem w_c1 : (Jvm.Cond.code ({ cls := "com/example/blindroute/blindroute/template/Evaluation", name := "<init>", desc := "(DD)V" } : Jvm.MethodName) prog_34_method_1_code (5 : Nat) (Option.none : Option Jvm.ClassFile.FieldType)).before args0 about1 = true := code_word (m := ⟨3, 0⟩) (meth := k3m0) (c := k3c0) (by decide +kernel) rfl rfl rfl (by decide +kernel)
set_option maxRecDepth 65536 in
theorem w_c2 : (Jvm.Cond.code ({ cls := "java/lang/Record", name := "<init>", desc := "()V" } : Jvm.MethodName) jdk_30_method_1_code (1 : Nat) (Option.none : Option Jvm.ClassFile.FieldType)).before args0 about1 = true := code_word (m := ⟨2, 0⟩) (meth := k2m0) (c := k2c0) (by decide +kernel) rfl rfl rfl (by decide +kernel)
set_option maxRecDepth 65536 in
theorem w_c3 : (Jvm.Cond.code ({ cls := "java/lang/Object", name := "<init>", desc := "()V" } : Jvm.MethodName) object_method_1_code (1 : Nat) (Option.none : Option Jvm.ClassFile.FieldType)).before args0 about1 = true := code_word (m := ⟨0, 0⟩) (meth := k0m0) (c := k0c0) (by decide +kernel) rfl rfl rfl (by decide +kernel)
set_option maxRecDepth 65536 in
theorem w_c4 : (Jvm.Cond.code ({ cls := "com/example/blindroute/blindroute/template/Evaluation", name := "ratio", desc := "()D" } : Jvm.MethodName) prog_34_method_2_code (1 : Nat) (Option.some Jvm.ClassFile.FieldType.double)).before args0 about1 = true := code_word (m := ⟨3, 1⟩) (meth := k3m1) (c := k3c1) (by decide +kernel) rfl rfl rfl (by decide +kernel)
def codes1 : List Jvm.Cond := [Jvm.Cond.code x code maxLocals ret, Jvm.Cond.code ({ cls := "com/example/blindroute/blindroute/template/Evaluation", name := "<init>", desc := "(DD)V" } : Jvm.MethodName) prog_34_method_1_code (5 : Nat) (Option.none : Option Jvm.ClassFile.FieldType), Jvm.Cond.code ({ cls := "java/lang/Record", name := "<init>", desc := "()V" } : Jvm.MethodName) jdk_30_method_1_code (1 : Nat) (Option.none : Option Jvm.ClassFile.FieldType), Jvm.Cond.code ({ cls := "java/lang/Object", name := "<init>", desc := "()V" } : Jvm.MethodName) object_method_1_code (1 : Nat) (Option.none : Option Jvm.ClassFile.FieldType), Jvm.Cond.code ({ cls := "com/example/blindroute/blindroute/template/Evaluation", name := "ratio", desc := "()D" } : Jvm.MethodName) prog_34_method_2_code (1 : Nat) (Option.some Jvm.ClassFile.FieldType.double)]
set_option maxRecDepth 65536 in
theorem codes_eq : words1.filter isCode = codes1 := rfl
theorem w_codes : ∀ c ∈ words1.filter isCode, c.before args0 about1 = true := by
  rw [codes_eq]
  intro c hc
  simp only [codes1, List.mem_cons, List.not_mem_nil, or_false] at hc
  rcases hc with rfl | rfl | rfl | rfl | rfl
  · exact w_c0
  · exact w_c1
  · exact w_c2
  · exact w_c3
  · exact w_c4
set_option maxRecDepth 65536 in
theorem w_t1 : words1.all (fun c => isCode c || c.before args0 about1) = true := by decide +kernel
theorem w_tables : (allAtoms (Jvm.Cond.code x code maxLocals ret :: tables_1)).before args0 about1 = true := by
  rw [allAtoms_all]
  show words1.all (fun c => c.before args0 about1) = true
  refine all_split ?_ w_codes
  rw [w_t1]
set_option maxRecDepth 65536 in
theorem w_case : (Jvm.Cond.and given_1 narrow_1).before args0 about1 = true := by decide +kernel
theorem w_applies : (headSpec (Jvm.Cond.code x code maxLocals ret :: tables_1) room_1).applies x e0.platform about1 = true :=
  (Spec.applies_iff w_frames).mpr ⟨w_running, w_runnable, w_alone, w_named, w_hears, w_ripe, w_room, w_tables⟩
theorem atStart : AtStart classFile x code maxLocals ret World_1 tables_1 room_1 Calls_1 rest_1 Pre_1 launch0 p0 e0 about1 theMethod args0 below0 :=
  ⟨lists_1, trivial, launch0.admits_env _ _ _, launch0.least_env, fairChoices_fair.cas, fairChoices_fair.clock, w_frames, w_args, w_heap, w_applies, trivial, trivial, w_case⟩
end start1
theorem witness_1 : WitnessClaimed_1 := ⟨start1.p0, start1.e0, start1.about1, start1.theMethod, start1.args0, start1.below0, start1.atStart⟩
end Jvm.Pilot.@@N@@
