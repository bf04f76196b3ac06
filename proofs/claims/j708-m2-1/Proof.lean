import JvmDerived
import JvmDerived.Pilot.@@N@@Statement
import JvmDerived.Pilot.@@N@@Code
set_option linter.unusedVariables false
set_option linter.unusedSimpArgs false
namespace Jvm.RoadKit
open Sem ClassFile Op Lib Jvm.Stand Jvm.Free Jvm.LawKit
section New
variable {p : Program} {l : Launch} {e : Env} {R : Room} {s : State} {m : MethodId} {args : Array Value} {below : List Frame} {meth : Method} {c : Code} {T : State} {locs : List Loc} {cells slots : Nat}
theorem retI (X : Stand p l e R s m args below meth c T locs cells slots) (hx : p.tables.exec = Jvm.exec) {pc : Nat} {Ls : Array Slot} {z : Int32} {rest : List Value} (hret : meth.sig.returnType = some .int) (hd : decode c.code pc = .ok (.ireturn, 1)) {fs : List Frame}
    (hl : ∀ (f : JFrame) (acts : List Action), f.method = m → f.locked = none → f.entered = [] → (doReturn e (T.setTop f) acts (some (.int z))).1 = T.setFrames fs) : Steps p.tables e below (T.setTop (mkF m pc Ls (.int z :: rest))) (T.setFrames fs) := by
  have hm' : T.vm.method? m = some meth := X.method'
  have hn : narrow .int (.int z) = .int z := rfl
  show Steps p.tables e below (T.setTop { method := m, pc := pc, locals := Ls, stack := _ :: rest, locked := none }) _
  jvm_step X.here [X.here.top, hx, hd, hm', hret, hn]
  first | (intro acts; rw [hl _ acts rfl rfl rfl]) | rw [hl _ _ rfl rfl rfl]
  exact Steps.refl _
end New
end Jvm.RoadKit
namespace Jvm.Pilot.@@N@@
open Jvm Jvm.ClassFile Sem Op Lib Jvm.Free Jvm.Stand Jvm.LawKit Jvm.RoadKit Bundle Jvm.Free.Fl Jvm.Pilot.@@N@@.Jvm.D
/-- the run comes from the frame g0 (over T0) to the frame g (over T) -/
abbrev Go (p : Program) (e : Env) (below : List Frame) (T0 : State) (g0 : JFrame) (T : State) (g : JFrame) : Prop :=
  ∀ t, Steps p.tables e below (T.setTop g) t → Steps p.tables e below (T0.setTop g0) t
theorem d1_0 : decode prog_8_method_1_code 0 = .ok (.aload_n 0, 1) := by decide +kernel
theorem d1_1 : decode prog_8_method_1_code 1 = .ok (.invokespecial 1, 3) := by decide +kernel
theorem d1_4 : decode prog_8_method_1_code 4 = .ok (.lload_n 1, 1) := by decide +kernel
theorem d1_5 : decode prog_8_method_1_code 5 = .ok (.lconst 1, 1) := by decide +kernel
theorem d1_6 : decode prog_8_method_1_code 6 = .ok (.lcmp, 1) := by decide +kernel
theorem d1_7 : decode prog_8_method_1_code 7 = .ok (.ifCond .ge 17, 3) := by decide +kernel
theorem d1_24 : decode prog_8_method_1_code 24 = .ok (.aload_n 0, 1) := by decide +kernel
theorem d1_25 : decode prog_8_method_1_code 25 = .ok (.ldc2_w 18, 3) := by decide +kernel
theorem d1_28 : decode prog_8_method_1_code 28 = .ok (.lload_n 1, 1) := by decide +kernel
theorem d1_29 : decode prog_8_method_1_code 29 = .ok (.l2d, 1) := by decide +kernel
theorem d1_30 : decode prog_8_method_1_code 30 = .ok (.ddiv, 1) := by decide +kernel
theorem d1_31 : decode prog_8_method_1_code 31 = .ok (.putfield 20, 3) := by decide +kernel
theorem d1_34 : decode prog_8_method_1_code 34 = .ok (.aload_n 0, 1) := by decide +kernel
theorem d1_35 : decode prog_8_method_1_code 35 = .ok (.dload_n 3, 1) := by decide +kernel
theorem d1_36 : decode prog_8_method_1_code 36 = .ok (.lload_n 1, 1) := by decide +kernel
theorem d1_37 : decode prog_8_method_1_code 37 = .ok (.l2d, 1) := by decide +kernel
theorem d1_38 : decode prog_8_method_1_code 38 = .ok (.ddiv, 1) := by decide +kernel
theorem d1_39 : decode prog_8_method_1_code 39 = .ok (.putfield 24, 3) := by decide +kernel
theorem d1_42 : decode prog_8_method_1_code 42 = .ok (.return_, 1) := by decide +kernel
theorem d3_0 : decode prog_8_method_4_code 0 = .ok (.aload_n 0, 1) := by decide +kernel
theorem d3_1 : decode prog_8_method_4_code 1 = .ok (.dload_n 1, 1) := by decide +kernel
theorem d3_2 : decode prog_8_method_4_code 2 = .ok (.invokevirtual 29, 3) := by decide +kernel
theorem d3_5 : decode prog_8_method_4_code 5 = .ok (.dconst 1, 1) := by decide +kernel
theorem d3_6 : decode prog_8_method_4_code 6 = .ok (.ldc2_w 27, 3) := by decide +kernel
theorem d3_9 : decode prog_8_method_4_code 9 = .ok (.dload_n 3, 1) := by decide +kernel
theorem d3_10 : decode prog_8_method_4_code 10 = .ok (.dmul, 1) := by decide +kernel
theorem d3_11 : decode prog_8_method_4_code 11 = .ok (.dsub, 1) := by decide +kernel
theorem d3_12 : decode prog_8_method_4_code 12 = .ok (.ddiv, 1) := by decide +kernel
theorem d3_13 : decode prog_8_method_4_code 13 = .ok (.dreturn, 1) := by decide +kernel
theorem d4_0 : decode prog_8_method_3_code 0 = .ok (.aload_n 0, 1) := by decide +kernel
theorem d4_1 : decode prog_8_method_3_code 1 = .ok (.getfield 20, 3) := by decide +kernel
theorem d4_4 : decode prog_8_method_3_code 4 = .ok (.ldc2_w 27, 3) := by decide +kernel
theorem d4_7 : decode prog_8_method_3_code 7 = .ok (.dload_n 1, 1) := by decide +kernel
theorem d4_8 : decode prog_8_method_3_code 8 = .ok (.aload_n 0, 1) := by decide +kernel
theorem d4_9 : decode prog_8_method_3_code 9 = .ok (.getfield 24, 3) := by decide +kernel
theorem d4_12 : decode prog_8_method_3_code 12 = .ok (.dadd, 1) := by decide +kernel
theorem d4_13 : decode prog_8_method_3_code 13 = .ok (.dmul, 1) := by decide +kernel
theorem d4_14 : decode prog_8_method_3_code 14 = .ok (.dadd, 1) := by decide +kernel
theorem d4_15 : decode prog_8_method_3_code 15 = .ok (.dreturn, 1) := by decide +kernel
theorem pd__D_D : parseMethodDescriptor "(D)D" = some ⟨[.double], some .double⟩ := by decide +kernel
theorem pd__JD_V : parseMethodDescriptor "(JD)V" = some ⟨[.long, .double], none⟩ := by decide +kernel
theorem pd__DD_D : parseMethodDescriptor "(DD)D" = some ⟨[.double, .double], some .double⟩ := by decide +kernel
/-! ## own toolkit: doubles by their whole number of units of 2^-1074 -/
section OwnFP
open Jvm.FP.Core
/-- a finite double, and its value in units of 2^-1074 -/
def Zv (a : UInt64) (z : Int) : Prop := DFin a ∧ zval b64 (val64 a) = z
theorem own_qmax : b64.qmax = 971 := by decide +kernel
theorem own_rep (s : Bool) {k j : Nat} (hk : k < 2 ^ 53) (hj : j ≤ 2045) : ∃ V : Datum, FP.Core.fits b64 V ∧ V ≠ .nan ∧ zval b64 V = signed s (k * 2 ^ j) := by
  have q1 := qmin_b64
  have q2 := own_qmax
  obtain ⟨c', q', e1, e2⟩ := round_exact good_b64 s (c := k) (q := b64.qmin + (j : Int)) hk (by omega) (by omega)
  refine ⟨_, round_fits good_b64 (.fin s k (b64.qmin + (j : Int))), by rw [e1]; simp, ?_⟩
  rw [e1]
  show signed s (inUnits c' q' b64.qmin) = _
  rw [e2]
  unfold inUnits
  rw [show (b64.qmin + (j : Int) - b64.qmin).toNat = j by omega]
theorem own_repZ {z k : Int} {j : Nat} (hk : k.natAbs < 2 ^ 53) (hj : j ≤ 2045) (hz : z = k * ((2 ^ j : Nat) : Int)) : ∃ V : Datum, FP.Core.fits b64 V ∧ V ≠ .nan ∧ zval b64 V = z := by
  obtain ⟨V, h1, h2, h3⟩ := own_rep (decide (k < 0)) hk hj
  refine ⟨V, h1, h2, ?_⟩
  rw [h3, hz, signed_mul]
  have : signed (decide (k < 0)) k.natAbs = k := by
    unfold signed
    by_cases h : k < 0
    · simp only [h, decide_true, if_true]; omega
    · simp only [h, decide_false]; simp; omega
  rw [this]
theorem own_round {s : Bool} {c : Nat} {q : Int} (hq : b64.qmin ≤ q) {z k : Int} {j : Nat} (hz : signed s (inUnits c q b64.qmin) = z) (hk : k.natAbs < 2 ^ 53) (hj : j ≤ 2045) (hzk : z = k * ((2 ^ j : Nat) : Int)) : zval b64 (round b64 (.fin s c q)) = z := by
  obtain ⟨V, h1, h2, h3⟩ := own_repZ hk hj hzk
  have e : ((2 ^ (b64.qmin - b64.qmin).toNat : Nat) : Int) = 1 := by rw [show (b64.qmin - b64.qmin).toNat = 0 by omega]; rfl
  apply Int.le_antisymm
  · rw [← h3]
    exact zval_round_le good_b64 h1 h2 (e0 := b64.qmin) (Int.le_refl _) hq (by rw [hz, h3, e]; omega)
  · rw [← h3]
    exact zval_round_ge good_b64 h1 h2 (e0 := b64.qmin) (Int.le_refl _) hq (by rw [hz, h3, e]; omega)
theorem own_small {k : Int} {j : Nat} (hk : k.natAbs < 2 ^ 53) (hj : j ≤ 2045) : (k * ((2 ^ j : Nat) : Int)).natAbs < 2 ^ 2098 := by
  rw [Int.natAbs_mul, Int.natAbs_natCast]
  have h2 : 2 ^ j ≤ 2 ^ 2045 := Nat.pow_le_pow_right (by decide) hj
  calc k.natAbs * 2 ^ j ≤ k.natAbs * 2 ^ 2045 := Nat.mul_le_mul_left _ h2
    _ < 2 ^ 53 * 2 ^ 2045 := Nat.mul_lt_mul_of_pos_right hk (Nat.two_pow_pos _)
    _ = 2 ^ 2098 := by rw [← Nat.pow_add]
theorem own_fin {d : Datum} (hn : d ≠ .nan) (h : (zval b64 d).natAbs < 2 ^ 2098) : ∃ s c q, d = .fin s c q := by
  cases d with
  | nan => exact absurd rfl hn
  | inf s =>
    exfalso
    have e : (zval b64 (.inf s)).natAbs = b64.tails * 2 ^ (b64.exps - 2) := natAbs_signed _ _
    rw [e] at h
    exact absurd h (by decide +kernel)
  | fin s c q => exact ⟨s, c, q, rfl⟩
theorem own_round_fin {s : Bool} {c : Nat} {q : Int} (hq : b64.qmin ≤ q) {z k : Int} {j : Nat} (hz : signed s (inUnits c q b64.qmin) = z) (hk : k.natAbs < 2 ^ 53) (hj : j ≤ 2045) (hzk : z = k * ((2 ^ j : Nat) : Int)) {a : UInt64} (ha : val64 a = round b64 (.fin s c q)) : Zv a z := by
  have h := own_round hq hz hk hj hzk
  refine ⟨?_, by rw [ha]; exact h⟩
  unfold DFin
  rw [ha]
  exact own_fin (roundRatio_ne_nan _ _ _ _ _) (by rw [h, hzk]; exact own_small hk hj)
theorem Zv.fin {a : UInt64} {z : Int} (h : Zv a z) : Fin64 a := fin64_core.mpr h.1
theorem Zv.noNaN {a : UInt64} {z : Int} (h : Zv a z) : NoNaN64 a := h.fin.noNaN
theorem Zv.dadd {a b : UInt64} {x y k : Int} {j : Nat} (ha : Zv a x) (hb : Zv b y) (hk : k.natAbs < 2 ^ 53) (hj : j ≤ 2045) (hz : x + y = k * ((2 ^ j : Nat) : Int)) : Zv (FP.dadd a b) (x + y) := by
  obtain ⟨⟨s, c, q, e1⟩, z1⟩ := ha
  obtain ⟨⟨t, d, r, e2⟩, z2⟩ := hb
  have f1 := val64_fits a
  have f2 := val64_fits b
  rw [e1] at f1 z1
  rw [e2] at f2 z2
  obtain ⟨sg, n, e, e3, e4, e5⟩ := sum_units f1 f2
  rw [z1, z2] at e5
  exact own_round_fin e4 e5 hk hj hz (by show val64 (FP.Core.dadd a b) = _; rw [val64_dadd, e1, e2, e3])
theorem Zv.dneg {a : UInt64} {x : Int} (ha : Zv a x) : Zv (FP.dneg a) (-x) := by
  obtain ⟨⟨s, c, q, e1⟩, z1⟩ := ha
  have e := FP.val64_dneg a
  refine ⟨⟨!s, c, q, by rw [e, e1]; rfl⟩, by rw [e, zval_negate, z1]⟩
theorem Zv.dsub {a b : UInt64} {x y k : Int} {j : Nat} (ha : Zv a x) (hb : Zv b y) (hk : k.natAbs < 2 ^ 53) (hj : j ≤ 2045) (hz : x - y = k * ((2 ^ j : Nat) : Int)) : Zv (FP.dsub a b) (x - y) := by
  obtain ⟨⟨s, c, q, e1⟩, z1⟩ := ha
  obtain ⟨⟨t, d, r, e2⟩, z2⟩ := hb
  have f1 := val64_fits a
  have f2 := negate_fits (val64_fits b)
  have z3 : zval b64 (negate (val64 b)) = -y := by rw [zval_negate, z2]
  rw [e1] at f1 z1
  rw [e2] at f2 z3
  obtain ⟨sg, n, e, e3, e4, e5⟩ := sum_units f1 (show FP.Core.fits b64 (.fin (!t) d r) from f2)
  rw [z1, show zval b64 (.fin (!t) d r) = -y from z3] at e5
  exact own_round_fin e4 (z := x - y) (by rw [e5]; omega) hk hj hz (by show val64 (FP.Core.dsub a b) = _; rw [val64_dsub, e1, e2]; show round b64 (exactSum _ (.fin (!t) d r)) = _; rw [e3])
theorem own_ofInt (i : Int) : signed (decide (i < 0)) (inUnits i.natAbs 0 b64.qmin) = i * ((2 ^ 1074 : Nat) : Int) := by
  unfold inUnits
  rw [signed_mul, qmin_b64]
  have : signed (decide (i < 0)) i.natAbs = i := by
    unfold signed
    by_cases h : i < 0
    · simp only [h, decide_true, if_true]; omega
    · simp only [h, decide_false]; simp; omega
  rw [this]
  rfl
theorem Zv.l2d {n : Int64} {k : Int} {j : Nat} (hk : k.natAbs < 2 ^ 53) (hj : j ≤ 971) (hn : n.toInt = k * ((2 ^ j : Nat) : Int)) : Zv (FP.l2d n) (n.toInt * ((2 ^ 1074 : Nat) : Int)) :=
  own_round_fin (q := 0) (by rw [qmin_b64]; decide) (own_ofInt n.toInt) hk (show j + 1074 ≤ 2045 by omega) (by rw [hn, Int.mul_assoc, Nat.pow_add, Int.natCast_mul]) (val64_l2d n)
theorem Zv.i2d (n : Int32) : Zv (FP.i2d n) (n.toInt * ((2 ^ 1074 : Nat) : Int)) :=
  own_round_fin (q := 0) (k := n.toInt) (j := 1074) (by rw [qmin_b64]; decide) (own_ofInt n.toInt) (by have := int32_abs n; omega) (by decide) rfl (val64_i2d n)
theorem Zv.dcmp_eq {a b : UInt64} {x : Int} (ha : Zv a x) (hb : Zv b x) : FP.dcmp a b = some .eq := by
  show FP.Core.dcmp a b = _
  rw [FP.Core.dcmp_eq]
  exact ⟨ha.1.ne_nan, hb.1.ne_nan, ha.2.trans hb.2.symm⟩
theorem Zv.dcmp_lt {a b : UInt64} {x y : Int} (ha : Zv a x) (hb : Zv b y) (h : x < y) : FP.dcmp a b = some .lt := by
  show FP.Core.dcmp a b = _
  rw [FP.Core.dcmp_lt]
  exact ⟨ha.1.ne_nan, hb.1.ne_nan, by rw [ha.2, hb.2]; exact h⟩
theorem Zv.dcmp_gt {a b : UInt64} {x y : Int} (ha : Zv a x) (hb : Zv b y) (h : y < x) : FP.dcmp a b = some .gt := by
  show FP.Core.dcmp a b = _
  rw [FP.Core.dcmp_gt]
  exact ⟨ha.1.ne_nan, hb.1.ne_nan, by rw [ha.2, hb.2]; exact h⟩
theorem own_zmag {a : UInt64} {x : Int} (ha : Zv a x) : zmag b64 (val64 a) = x.natAbs := by
  have h := congrArg Int.natAbs ha.2
  rw [← h]
  exact (natAbs_signed _ _).symm
/-- a quotient by a positive number, between two written numbers -/
theorem Zv.ddiv {a b : UInt64} {x y : Int} (ha : Zv a x) (hb : Zv b y) (hy : 0 < y) {k1 k2 j1 j2 : Nat} (hk1 : k1 < 2 ^ 53) (hj1 : j1 ≤ 2045) (hk2 : k2 < 2 ^ 53) (hj2 : j2 ≤ 2045)
    (h1 : k1 * 2 ^ j1 * y.natAbs ≤ x.natAbs * 2 ^ 1074) (h2 : x.natAbs * 2 ^ 1074 ≤ k2 * 2 ^ j2 * y.natAbs) : ∃ m : Nat, k1 * 2 ^ j1 ≤ m ∧ m ≤ k2 * 2 ^ j2 ∧ Zv (FP.ddiv a b) (if x < 0 then -(m : Int) else (m : Int)) := by
  have m1 := own_zmag ha
  have m2 := own_zmag hb
  obtain ⟨⟨s, A, q, e1⟩, z1⟩ := ha
  obtain ⟨⟨t, B, r, e2⟩, z2⟩ := hb
  have f1 := val64_fits a
  have f2 := val64_fits b
  rw [e1] at f1 m1 z1
  rw [e2] at f2 m2 z2
  have qa : b64.qmin ≤ q := f1.2.1
  have qb : b64.qmin ≤ r := f2.2.1
  have qm := qmin_b64
  have m1' : A * 2 ^ (q - b64.qmin).toNat = x.natAbs := m1
  have m2' : B * 2 ^ (r - b64.qmin).toNat = y.natAbs := m2
  have hB : 0 < B := Nat.pos_of_ne_zero fun e => by rw [e, Nat.zero_mul] at m2'; omega
  have ht : t = false := by
    cases t with
    | false => rfl
    | true =>
      exfalso
      have : -((B * 2 ^ (r - b64.qmin).toNat : Nat) : Int) = y := z2
      omega
  subst ht
  have ed : val64 (FP.ddiv a b) = roundRatio b64 s A B (q - r) := by
    show val64 (FP.Core.ddiv a b) = _
    rw [val64_ddiv, e1, e2]
    show (if B = 0 then _ else roundRatio b64 (s != false) A B (q - r)) = _
    rw [if_neg (by omega)]
    simp
  have eA : inUnits A (q - r) (2 * b64.qmin - r) = x.natAbs * 2 ^ 1074 := by
    rw [← m1']
    unfold inUnits
    rw [show (q - r - (2 * b64.qmin - r)).toNat = (q - b64.qmin).toNat + 1074 by omega, Nat.pow_add, Nat.mul_assoc]
  have eV : ∀ z : Nat, z * 2 ^ (b64.qmin - (2 * b64.qmin - r)).toNat * B = z * y.natAbs := fun z => by
    rw [show (b64.qmin - (2 * b64.qmin - r)).toNat = (r - b64.qmin).toNat by omega, Nat.mul_assoc, ← m2', Nat.mul_comm B]
  obtain ⟨V1, v1, n1, w1⟩ := own_rep false hk1 hj1
  obtain ⟨V2, v2, n2, w2⟩ := own_rep false hk2 hj2
  have zV : ∀ (V : Datum) (k : Nat), zval b64 V = signed false k → zmag b64 V = k := fun V k h => by
    have h := congrArg Int.natAbs h
    rw [show (signed false k).natAbs = k from natAbs_signed _ _] at h
    exact (natAbs_signed _ _).symm.trans h
  have u1 := zV _ _ w1
  have u2 := zV _ _ w2
  have lo := zmag_roundRatio_ge good_b64 (s := s) (A := A) (B := B) (e := q - r) (e0 := 2 * b64.qmin - r) hB v1 (by omega) (by omega) (by rw [eA, eV, u1]; exact h1)
  have hi := zmag_roundRatio_le good_b64 (s := s) (A := A) (B := B) (e := q - r) (e0 := 2 * b64.qmin - r) hB v2 n2 (by omega) (by omega) (by rw [eA, eV, u2]; exact h2)
  rw [u1] at lo
  rw [u2] at hi
  refine ⟨zmag b64 (roundRatio b64 s A B (q - r)), lo, hi, ?_, ?_⟩
  · unfold DFin
    rw [ed]
    refine own_fin (roundRatio_ne_nan _ _ _ _ _) ?_
    rw [show (zval b64 (roundRatio b64 s A B (q - r))).natAbs = _ from natAbs_signed _ _]
    refine Nat.lt_of_le_of_lt hi ?_
    have := own_small (k := (k2 : Int)) (j := j2) (by omega) hj2
    rw [← Int.natCast_mul, Int.natAbs_natCast] at this
    exact this
  · rw [ed]
    unfold zval
    rw [sgn_roundRatio]
    have z1' : signed s (A * 2 ^ (q - b64.qmin).toNat) = x := z1
    by_cases hx : x < 0
    · rw [if_pos hx]
      cases s with
      | true => rfl
      | false => exfalso; have : ((A * 2 ^ (q - b64.qmin).toNat : Nat) : Int) = x := z1'; omega
    · rw [if_neg hx]
      cases s with
      | false => rfl
      | true =>
        have h3 : -((A * 2 ^ (q - b64.qmin).toNat : Nat) : Int) = x := z1'
        have hA : A = 0 := by
          rcases Nat.eq_zero_or_pos A with h | h
          · exact h
          · exfalso; have := Nat.mul_pos h (Nat.two_pow_pos (q - b64.qmin).toNat); omega
        subst hA
        have : zmag b64 (roundRatio b64 true 0 B (q - r)) = 0 := by
          unfold roundRatio
          rw [if_pos rfl]
          show inUnits 0 _ _ = 0
          unfold inUnits
          exact Nat.zero_mul _
        rw [this]; rfl
theorem own_one : Zv (4607182418800017408 : UInt64) (((2 ^ 1074 : Nat) : Int)) := by
  have h : (4607182418800017408 : UInt64) = FP.i2d 1 := by decide +kernel
  rw [h]
  have := Zv.i2d 1
  rw [show (1 : Int32).toInt = 1 from rfl, Int.one_mul] at this
  exact this
theorem own_zero : Zv (0 : UInt64) 0 := ⟨⟨_, _, _, val64_zero⟩, zval64_zero⟩
end OwnFP
section OwnRel
open Jvm.FP.Core
/-- two written numbers around N / D, a 2^-52-th apart -/
theorem own_bracket (N D : Nat) (hD : 0 < D) (h : 2 ^ 53 * D ≤ N) (hi : N < D * 2 ^ 2000) : ∃ k1 j1 k2 j2 : Nat, k1 < 2 ^ 53 ∧ j1 ≤ 2045 ∧ k2 < 2 ^ 53 ∧ j2 ≤ 2045 ∧ k1 * 2 ^ j1 * D ≤ N ∧ N ≤ k2 * 2 ^ j2 * D ∧ 4503599627370496 * (k2 * 2 ^ j2 * D) ≤ 4503599627370497 * N ∧ 4503599627370495 * N ≤ 4503599627370496 * (k1 * 2 ^ j1 * D) := by
  have hE : 2 ^ 53 ≤ N / D := (Nat.le_div_iff_mul_le hD).mpr h
  have hE2 : N / D < 2 ^ 2000 := (Nat.div_lt_iff_lt_mul hD).mpr (by rw [Nat.mul_comm]; exact hi)
  have hN1 : N / D * D ≤ N := Nat.div_mul_le_self _ _
  have hN2 : N < (N / D + 1) * D := by
    have := Nat.div_add_mod N D
    have := Nat.mod_lt N hD
    rw [Nat.add_mul, Nat.one_mul, Nat.mul_comm]; omega
  generalize N / D = E at hE hE2 hN1 hN2
  have hE0 : E ≠ 0 := by
    have : 0 < 2 ^ 53 := Nat.two_pow_pos _
    omega
  have L1 : 53 ≤ E.log2 := (Nat.le_log2 hE0).mpr hE
  have L2 : E.log2 < 2000 := (Nat.log2_lt hE0).mpr hE2
  obtain ⟨j, hj⟩ : ∃ j, E.log2 = j + 52 := ⟨E.log2 - 52, by omega⟩
  have a1 : 2 ^ (j + 52) ≤ E := by rw [← hj]; exact Nat.log2_self_le hE0
  have a2 : E < 2 ^ (j + 53) := by rw [show j + 53 = E.log2 + 1 by omega]; exact Nat.lt_log2_self
  have hP : 0 < 2 ^ j := Nat.two_pow_pos _
  have b1 : 2 ^ 52 ≤ E / 2 ^ j := (Nat.le_div_iff_mul_le hP).mpr (by rw [← Nat.pow_add, Nat.add_comm]; exact a1)
  have b2 : E / 2 ^ j < 2 ^ 53 := (Nat.div_lt_iff_lt_mul hP).mpr (by rw [← Nat.pow_add, Nat.add_comm]; exact a2)
  have b3 : E / 2 ^ j * 2 ^ j ≤ E := Nat.div_mul_le_self _ _
  have b4 : E < (E / 2 ^ j + 1) * 2 ^ j := by
    have := Nat.div_add_mod E (2 ^ j)
    have := Nat.mod_lt E hP
    rw [Nat.add_mul, Nat.one_mul, Nat.mul_comm]; omega
  obtain ⟨k2, j2, c1, c2, c3⟩ : ∃ k2 j2, k2 < 2 ^ 53 ∧ j2 ≤ 2045 ∧ k2 * 2 ^ j2 = (E / 2 ^ j + 1) * 2 ^ j := by
    by_cases q : E / 2 ^ j + 1 < 2 ^ 53
    · exact ⟨_, j, q, by omega, rfl⟩
    · refine ⟨4503599627370496, j + 1, by decide, by omega, ?_⟩
      have e : 2 ^ (j + 1) = 2 ^ j * 2 := Nat.pow_succ ..
      rw [show E / 2 ^ j + 1 = 9007199254740992 by omega, e]
      omega
  refine ⟨E / 2 ^ j, j, k2, j2, b2, by omega, c1, c2, ?_⟩
  rw [c3]
  have b5 : 4503599627370496 * 2 ^ j ≤ E / 2 ^ j * 2 ^ j := Nat.mul_le_mul_right _ b1
  rw [Nat.add_mul, Nat.one_mul] at b4 ⊢
  generalize E / 2 ^ j * 2 ^ j = V at b3 b4 b5 ⊢
  generalize 2 ^ j = P at b4 b5 hP ⊢
  have d1 : V * D ≤ E * D := Nat.mul_le_mul_right _ b3
  have d2 : (E + 1) * D ≤ (V + P) * D := Nat.mul_le_mul_right _ b4
  have d3 : 4503599627370496 * (P * D) ≤ V * D := by rw [← Nat.mul_assoc]; exact Nat.mul_le_mul_right _ b5
  rw [Nat.add_mul V P D] at d2 ⊢
  generalize V * D = v at d1 d2 d3 ⊢
  generalize P * D = w at d2 d3 ⊢
  omega
theorem own_nat {x : Int} (h : 0 ≤ x) : (x.natAbs : Int) = x := Int.natAbs_of_nonneg h
/-- a sum of two numbers from nought on: within a 2^-52-th -/
theorem Zv.add_rel {a b : UInt64} {x y : Nat} (ha : Zv a (x : Int)) (hb : Zv b (y : Int)) (hi : x + y < 2 ^ 2000) : ∃ z : Nat, Zv (FP.dadd a b) (z : Int) ∧ 4503599627370496 * z ≤ 4503599627370497 * (x + y) ∧ 4503599627370495 * (x + y) ≤ 4503599627370496 * z := by
  by_cases hs : x + y < 2 ^ 53
  · have := Zv.dadd ha hb (k := ((x + y : Nat) : Int)) (j := 0) (by rw [Int.natAbs_natCast]; exact hs) (by decide) (by simp)
    refine ⟨x + y, this, ?_⟩
    omega
  · obtain ⟨k1, j1, k2, j2, r1, r2, r3, r4, l1, l2, l3, l4⟩ := own_bracket (x + y) 1 (by decide) (by omega) (by omega)
    obtain ⟨⟨s, c, q, e1⟩, z1⟩ := ha
    obtain ⟨⟨t, d, r, e2⟩, z2⟩ := hb
    have f1 := val64_fits a
    have f2 := val64_fits b
    rw [e1] at f1 z1
    rw [e2] at f2 z2
    obtain ⟨sg, n, e, e3, e4, e5⟩ := sum_units f1 f2
    rw [z1, z2] at e5
    have ev : val64 (FP.dadd a b) = round b64 (.fin sg n e) := by show val64 (FP.Core.dadd a b) = _; rw [val64_dadd, e1, e2, e3]
    obtain ⟨V1, v1, n1, w1⟩ := own_rep false r1 r2
    obtain ⟨V2, v2, n2, w2⟩ := own_rep false r3 r4
    have eu : ((2 ^ (b64.qmin - b64.qmin).toNat : Nat) : Int) = 1 := by rw [show (b64.qmin - b64.qmin).toNat = 0 by omega]; rfl
    have w1' : zval b64 V1 = ((k1 * 2 ^ j1 : Nat) : Int) := w1
    have w2' : zval b64 V2 = ((k2 * 2 ^ j2 : Nat) : Int) := w2
    rw [Nat.mul_one] at l1 l2 l3 l4
    have lo := zval_round_ge good_b64 v1 n1 (e0 := b64.qmin) (Int.le_refl _) e4 (s := sg) (c := n) (by rw [e5, w1', eu]; omega)
    have hi' := zval_round_le good_b64 v2 n2 (e0 := b64.qmin) (Int.le_refl _) e4 (s := sg) (c := n) (by rw [e5, w2', eu]; omega)
    rw [w1'] at lo
    rw [w2'] at hi'
    refine ⟨(zval b64 (round b64 (.fin sg n e))).toNat, ⟨?_, ?_⟩, ?_, ?_⟩
    · unfold DFin
      rw [ev]
      refine own_fin (roundRatio_ne_nan _ _ _ _ _) ?_
      have := own_small (k := (k2 : Int)) (j := j2) (by omega) r4
      rw [← Int.natCast_mul, Int.natAbs_natCast] at this
      omega
    · rw [ev]; omega
    · omega
    · omega
/-- a product of two numbers from nought on -/
theorem Zv.mul_rel {a b : UInt64} {x y : Nat} (U : Nat) (hU : U = 2 ^ 1074) (ha : Zv a (x : Int)) (hb : Zv b (y : Int)) (lo : x * y = 0 ∨ 2 ^ 53 * U ≤ x * y) (hi : x * y < U * 2 ^ 2000) : ∃ z : Nat, Zv (FP.dmul a b) (z : Int) ∧ 4503599627370496 * (z * U) ≤ 4503599627370497 * (x * y) ∧ 4503599627370495 * (x * y) ≤ 4503599627370496 * (z * U) := by
  have hUp : 0 < U := by rw [hU]; exact Nat.two_pow_pos _
  have m1 := own_zmag ha
  have m2 := own_zmag hb
  rw [Int.natAbs_natCast] at m1 m2
  obtain ⟨⟨s, c, q, e1⟩, z1⟩ := ha
  obtain ⟨⟨t, d, r, e2⟩, z2⟩ := hb
  have f1 := val64_fits a
  have f2 := val64_fits b
  rw [e1] at f1 m1 z1
  rw [e2] at f2 m2 z2
  obtain ⟨p1, p2, p3⟩ := product_units f1 f2
  rw [m1, m2] at p3
  have qm := qmin_b64
  have ev : val64 (FP.dmul a b) = roundRatio b64 (s != t) (c * d) 1 (q + r) := by
    show val64 (FP.Core.dmul a b) = _
    rw [val64_dmul, e1, e2, p1]; rfl
  have eU : 2 ^ (b64.qmin - 2 * b64.qmin).toNat = U := by rw [hU, show (b64.qmin - 2 * b64.qmin).toNat = 1074 by omega]
  have sg : x * y ≠ 0 → (s != t) = false := fun hn => by
    have x0 : x ≠ 0 := fun e => hn (by rw [e, Nat.zero_mul])
    have y0 : y ≠ 0 := fun e => hn (by rw [e, Nat.mul_zero])
    have : s = false := by
      cases s with
      | false => rfl
      | true => exfalso; have h : -((zmag b64 (.fin true c q) : Nat) : Int) = (x : Int) := z1; omega
    have : t = false := by
      cases t with
      | false => rfl
      | true => exfalso; have h : -((zmag b64 (.fin true d r) : Nat) : Int) = (y : Int) := z2; omega
    simp_all
  rcases lo with l0 | l0
  · have cd : c * d = 0 := by
      unfold inUnits at p3
      rw [l0] at p3
      rcases Nat.mul_eq_zero.mp p3 with h | h
      · exact h
      · exact absurd h (Nat.ne_of_gt (Nat.two_pow_pos _))
    have ez : roundRatio b64 (s != t) (c * d) 1 (q + r) = .fin (s != t) 0 b64.qmin := by unfold roundRatio; rw [if_pos cd]
    refine ⟨0, ⟨⟨_, _, _, ev.trans ez⟩, ?_⟩, by omega, by omega⟩
    rw [ev, ez]
    show signed _ (inUnits 0 _ _) = 0
    unfold inUnits
    rw [Nat.zero_mul, signed_zero]
  · have hpos : 0 < 2 ^ 53 * U := Nat.mul_pos (Nat.two_pow_pos _) hUp
    obtain ⟨k1, j1, k2, j2, r1, r2, r3, r4, l1, l2, l3, l4⟩ := own_bracket (x * y) U hUp l0 hi
    have hs := sg (by omega)
    rw [hs] at ev
    obtain ⟨V1, v1, n1, w1⟩ := own_rep false r1 r2
    obtain ⟨V2, v2, n2, w2⟩ := own_rep false r3 r4
    have zV : ∀ (V : Datum) (k : Nat), zval b64 V = signed false k → zmag b64 V = k := fun V k h => by
      have h := congrArg Int.natAbs h
      rw [show (signed false k).natAbs = k from natAbs_signed _ _] at h
      exact (natAbs_signed _ _).symm.trans h
    have u1 := zV _ _ w1
    have u2 := zV _ _ w2
    have lo := zmag_roundRatio_ge good_b64 (s := false) (A := c * d) (B := 1) (e := q + r) (e0 := 2 * b64.qmin) (by decide) v1 (by omega) p2 (by rw [p3, u1, eU, Nat.mul_one]; exact l1)
    have hi := zmag_roundRatio_le good_b64 (s := false) (A := c * d) (B := 1) (e := q + r) (e0 := 2 * b64.qmin) (by decide) v2 n2 (by omega) p2 (by rw [p3, u2, eU, Nat.mul_one]; exact l2)
    rw [u1] at lo
    rw [u2] at hi
    have fin : (k2 * 2 ^ j2) < 2 ^ 2098 := by
      have := own_small (k := (k2 : Int)) (j := j2) (by omega) r4
      rw [← Int.natCast_mul, Int.natAbs_natCast] at this
      exact this
    have lo' := Nat.mul_le_mul_right U lo
    have hi' := Nat.mul_le_mul_right U hi
    refine ⟨zmag b64 (roundRatio b64 false (c * d) 1 (q + r)), ⟨?_, ?_⟩, by omega, by omega⟩
    · unfold DFin
      rw [ev]
      refine own_fin (roundRatio_ne_nan _ _ _ _ _) ?_
      rw [show (zval b64 (roundRatio b64 false (c * d) 1 (q + r))).natAbs = _ from natAbs_signed _ _]
      omega
    · rw [ev]
      unfold zval
      rw [sgn_roundRatio]; rfl
/-- a quotient of two numbers, the dividend from nought on, the divisor above it -/
theorem Zv.div_rel {a b : UInt64} {x y : Nat} (U : Nat) (hU : U = 2 ^ 1074) (ha : Zv a (x : Int)) (hb : Zv b (y : Int)) (hy : 0 < y) (lo : x = 0 ∨ 2 ^ 53 * y ≤ x * U) (hi : x * U < y * 2 ^ 2000) : ∃ z : Nat, Zv (FP.ddiv a b) (z : Int) ∧ 4503599627370496 * (z * y) ≤ 4503599627370497 * (x * U) ∧ 4503599627370495 * (x * U) ≤ 4503599627370496 * (z * y) := by
  have hx : ¬ (x : Int) < 0 := by omega
  rcases lo with l0 | l0
  · subst l0
    obtain ⟨m, h1, h2, z⟩ := Zv.ddiv ha hb (by omega) (k1 := 0) (k2 := 0) (j1 := 0) (j2 := 0) (by decide) (by decide) (by decide) (by decide) (by simp) (by simp)
    rw [if_neg hx] at z
    have : m = 0 := by omega
    subst this
    exact ⟨0, z, by omega, by omega⟩
  · obtain ⟨k1, j1, k2, j2, r1, r2, r3, r4, l1, l2, l3, l4⟩ := own_bracket (x * U) y hy l0 hi
    obtain ⟨m, h1, h2, z⟩ := Zv.ddiv ha hb (by omega) r1 r2 r3 r4 (by rw [Int.natAbs_natCast, Int.natAbs_natCast, ← hU]; exact l1) (by rw [Int.natAbs_natCast, Int.natAbs_natCast, ← hU]; exact l2)
    rw [if_neg hx] at z
    have h1' := Nat.mul_le_mul_right y h1
    have h2' := Nat.mul_le_mul_right y h2
    exact ⟨m, z, by omega, by omega⟩
end OwnRel
section OwnM2
open Jvm.FP.Core
theorem own_T : Zv (4594572339843380019 : UInt64) ((5404319552844595 * 2 ^ 1019 : Nat) : Int) := ⟨⟨false, 5404319552844595, -55, by decide +kernel⟩, by decide +kernel⟩
theorem own_D : Zv (4605831338911806259 : UInt64) ((7656119366529843 * 2 ^ 1021 : Nat) : Int) := ⟨⟨false, 7656119366529843, -53, by decide +kernel⟩, by decide +kernel⟩
theorem own_1024 : Zv (4652218415073722368 : UInt64) ((2 ^ 1084 : Nat) : Int) := ⟨⟨false, 4503599627370496, -42, by decide +kernel⟩, by decide +kernel⟩
theorem own_8 : Zv (4620693217682128896 : UInt64) ((2 ^ 1077 : Nat) : Int) := ⟨⟨false, 4503599627370496, -49, by decide +kernel⟩, by decide +kernel⟩
theorem own_p40 : Zv (4787326403894837248 : UInt64) ((2 ^ 1114 : Nat) : Int) := ⟨⟨false, 4503599627370496, -12, by decide +kernel⟩, by decide +kernel⟩
theorem own_up (j : Nat) : 0 < 2 ^ j := Nat.two_pow_pos j
/-- a whole number over a power of two, exactly -/
theorem own_sh {a b : UInt64} {q c : Nat} (hq : q < 2 ^ 53) (hc : c ≤ 1074) (ha : Zv a ((q : Int) * ((2 ^ 1074 : Nat) : Int))) (hb : Zv b ((2 ^ (1074 + c) : Nat) : Int)) : Zv (FP.ddiv a b) ((q * 2 ^ (1074 - c) : Nat) : Int) := by
  have e : q * 2 ^ (1074 - c) * 2 ^ (1074 + c) = q * 2 ^ 1074 * 2 ^ 1074 := by
    rw [Nat.mul_assoc, ← Nat.pow_add, Nat.mul_assoc, ← Nat.pow_add, show 1074 - c + (1074 + c) = 1074 + 1074 by omega]
  have hx : ((q : Int) * ((2 ^ 1074 : Nat) : Int)).natAbs = q * 2 ^ 1074 := by rw [← Int.natCast_mul, Int.natAbs_natCast]
  obtain ⟨m, h1, h2, z⟩ := Zv.ddiv ha hb (by have := own_up (1074 + c); omega) (k1 := q) (k2 := q) (j1 := 1074 - c) (j2 := 1074 - c) hq (by omega) hq (by omega) (by rw [hx, Int.natAbs_natCast, e]; exact Nat.le_refl _) (by rw [hx, Int.natAbs_natCast, e]; exact Nat.le_refl _)
  rw [if_neg (by rw [← Int.natCast_mul]; omega)] at z
  rw [show q * 2 ^ (1074 - c) = m by omega]
  exact z
theorem own_mask20 (g : Int32) : ∃ q : Nat, q < 1048576 ∧ (g &&& (1048575 : Int32)).toInt = (q : Int) := by
  have h := c_and g (1048575 : Int32) (by decide)
  have e : (1048575 : Int32).toInt = 1048575 := rfl
  exact ⟨(g &&& (1048575 : Int32)).toInt.toNat, by omega, by omega⟩
theorem own_dv (g : Int32) : ∃ q : Nat, q < 1048576 ∧ Zv (FP.ddiv (FP.i2d (g &&& (1048575 : Int32))) (4652218415073722368 : UInt64)) ((q * 2 ^ 1064 : Nat) : Int) := by
  obtain ⟨q, h1, h2⟩ := own_mask20 g
  have z := Zv.i2d (g &&& (1048575 : Int32))
  rw [h2] at z
  exact ⟨q, h1, own_sh (c := 10) (by omega) (by decide) z own_1024⟩
theorem own_k (wt : Int32) : ∃ k : Nat, k < 9 ∧ ((wt &&& (2147483647 : Int32)) % (9 : Int32)) = Int32.ofNat k := by
  have h := c_and wt (2147483647 : Int32) (by decide)
  generalize wt &&& (2147483647 : Int32) = x at h
  have h2 := (c_irem x (9 : Int32) 9 rfl).1 h.1
  have h3 := Int.emod_nonneg x.toInt (show (9 : Int) ≠ 0 by decide)
  have h4 := Int.emod_lt_of_pos x.toInt (show (0 : Int) < 9 by decide)
  refine ⟨(x % 9).toInt.toNat, by omega, Int32.toInt_inj.mp ?_⟩
  rw [Int32.toInt_ofNat_of_lt (by omega)]
  omega
theorem own_n (pg : Int64) : ∃ N : Nat, 1 ≤ N ∧ N ≤ 65536 ∧ ((pg &&& (65535 : Int64)) + (1 : Int64)).toInt = (N : Int) := by
  have h1 : (pg &&& (65535 : Int64)).toBitVec.toNat ≤ 65535 := by
    rw [Int64.toBitVec_and, BitVec.toNat_and]
    exact Nat.and_le_right
  have h2 : (pg &&& (65535 : Int64)).toInt = ((pg &&& (65535 : Int64)).toBitVec.toNat : Int) := by
    rw [← Int64.toInt_toBitVec, BitVec.toInt_eq_toNat_of_lt (by omega)]
  refine ⟨(pg &&& (65535 : Int64)).toBitVec.toNat + 1, by omega, by omega, ?_⟩
  rw [FP.Core.int64_add (by rw [h2, show (1 : Int64).toInt = 1 from rfl]; omega) (by rw [h2, show (1 : Int64).toInt = 1 from rfl]; omega), h2]
  rfl
/-- over N pages -/
theorem own_over {a : UInt64} {x N : Nat} {n : Int64} (ha : Zv a (x : Int)) (h1 : 1 ≤ N) (h2 : N ≤ 65536) (hn : n.toInt = (N : Int)) (lo : x = 0 ∨ 2 ^ 1019 ≤ x) (hi : x ≤ 2 ^ 1090) : ∃ z : Nat, Zv (FP.ddiv a (FP.l2d n)) (z : Int) ∧ (z = 0 ∨ 2 ^ 1000 ≤ z) ∧ z ≤ 2 ^ 1091 ∧ (x ≠ 0 → z ≠ 0) := by
  have zn := Zv.l2d (n := n) (k := (N : Int)) (j := 0) (by omega) (by decide) (by rw [hn]; simp)
  rw [hn, ← Int.natCast_mul] at zn
  have hU := own_up 1074
  have h3 : x < 2 ^ 2000 := Nat.lt_of_le_of_lt hi (Nat.pow_lt_pow_right (by decide) (by decide : 1090 < 2000))
  have h4 : (2 : Nat) ^ 69 ≤ 2 ^ 1019 := Nat.pow_le_pow_right (by decide) (by decide)
  obtain ⟨U, hU2⟩ : ∃ U : Nat, U = 2 ^ 1074 := ⟨_, rfl⟩
  rw [← hU2] at zn hU
  have l1 : x = 0 ∨ 2 ^ 53 * (N * U) ≤ x * U := lo.imp id fun h => by
    rw [← Nat.mul_assoc]
    refine Nat.mul_le_mul_right _ ?_
    generalize (2 : Nat) ^ 1019 = A at h h4
    omega
  have l2 : x * U < N * U * 2 ^ 2000 := by
    generalize (2 : Nat) ^ 2000 = B at h3 ⊢
    rw [Nat.mul_right_comm N U B]
    refine Nat.mul_lt_mul_of_pos_right ?_ hU
    have := Nat.le_mul_of_pos_left B (show 0 < N by omega)
    omega
  obtain ⟨z, z1, z2, z3⟩ := Zv.div_rel U hU2 ha zn (Nat.mul_pos (by omega) hU) l1 l2
  rw [show z * (N * U) = z * N * U from (Nat.mul_assoc _ _ _).symm, ← Nat.mul_assoc _ (z * N) U, ← Nat.mul_assoc _ x U] at z2 z3
  have z2 := Nat.le_of_mul_le_mul_right z2 hU
  have z3 := Nat.le_of_mul_le_mul_right z3 hU
  have p1 : (2 : Nat) ^ 1019 = 524288 * 2 ^ 1000 := by rw [show (524288 : Nat) = 2 ^ 19 by decide, ← Nat.pow_add]
  have p2 : (2 : Nat) ^ 1091 = 2 * 2 ^ 1090 := by rw [show (1091 : Nat) = 1 + 1090 from rfl, Nat.pow_add]
  have zN : z ≤ z * N := Nat.le_mul_of_pos_right _ (by omega)
  have zN2 : z * N ≤ z * 65536 := Nat.mul_le_mul_left _ h2
  have hp := own_up 1000
  rw [p1] at lo
  rw [p2]
  generalize (2 : Nat) ^ 1000 = B at lo hp ⊢
  generalize (2 : Nat) ^ 1090 = M at hi ⊢
  generalize z * N = zn at z2 z3 zN zN2
  refine ⟨z, z1, ?_, by omega, fun h => ?_⟩
  · rcases lo with h | h
    · left; omega
    · right; omega
  · rcases lo with h' | h'
    · exact absurd h' h
    · omega
theorem own_mulD {a : UInt64} {x : Nat} (ha : Zv a (x : Int)) (h : x = 0 ∨ 1267650600228229401496703205376 ≤ x) (hx : x < 2 ^ 1500) : ∃ z : Nat, Zv (FP.dmul (4605831338911806259 : UInt64) a) (z : Int) ∧ 4503599627370496 * (9007199254740992 * z) ≤ 4503599627370497 * (7656119366529843 * x) ∧ 4503599627370495 * (7656119366529843 * x) ≤ 4503599627370496 * (9007199254740992 * z) := by
  have hP := own_up 1021
  have eU : 9007199254740992 * 2 ^ 1021 = 2 ^ 1074 := by rw [show (9007199254740992 : Nat) = 2 ^ 53 by decide, ← Nat.pow_add]
  have zD := own_D
  generalize (2 : Nat) ^ 1021 = P at hP eU zD
  have e1 : 7656119366529843 * P * x = 7656119366529843 * x * P := Nat.mul_right_comm _ _ _
  obtain ⟨z, z1, z2, z3⟩ := Zv.mul_rel (9007199254740992 * P) eU zD ha
    (h.imp (fun h => by rw [h, Nat.mul_zero]) fun h => by
      rw [e1, ← Nat.mul_assoc]
      exact Nat.mul_le_mul_right _ (by omega))
    (by
      have : (2 : Nat) ^ 1500 ≤ 2 ^ 2000 := Nat.pow_le_pow_right (by decide) (by decide)
      generalize (2 : Nat) ^ 1500 = A at hx this
      generalize (2 : Nat) ^ 2000 = B at this ⊢
      rw [e1, Nat.mul_right_comm 9007199254740992 P B]
      refine Nat.mul_lt_mul_of_pos_right ?_ hP
      omega)
  have e2 : z * (9007199254740992 * P) = 9007199254740992 * z * P := by ac_rfl
  rw [e1, e2, ← Nat.mul_assoc 4503599627370496 (9007199254740992 * z) P, ← Nat.mul_assoc 4503599627370497 (7656119366529843 * x) P] at z2
  rw [e1, e2, ← Nat.mul_assoc 4503599627370495 (7656119366529843 * x) P, ← Nat.mul_assoc 4503599627370496 (9007199254740992 * z) P] at z3
  exact ⟨z, z1, Nat.le_of_mul_le_mul_right z2 hP, Nat.le_of_mul_le_mul_right z3 hP⟩
theorem own_divc {a b : UInt64} {x dm : Nat} (ha : Zv a (x : Int)) (hb : Zv b ((dm * 2 ^ 1018 : Nat) : Int)) (d1 : 4503599627370496 ≤ dm) (d2 : dm ≤ 72057594037927936) (h : 1267650600228229401496703205376 ≤ x) (hx : x < 2 ^ 1500) : ∃ z : Nat, Zv (FP.ddiv a b) (z : Int) ∧ 4503599627370496 * (z * dm) ≤ 4503599627370497 * (72057594037927936 * x) ∧ 4503599627370495 * (72057594037927936 * x) ≤ 4503599627370496 * (z * dm) := by
  have hP := own_up 1018
  have eU : 72057594037927936 * 2 ^ 1018 = 2 ^ 1074 := by rw [show (72057594037927936 : Nat) = 2 ^ 56 by decide, ← Nat.pow_add]
  generalize (2 : Nat) ^ 1018 = P at hP eU hb
  have e1 : x * (72057594037927936 * P) = 72057594037927936 * x * P := by ac_rfl
  obtain ⟨z, z1, z2, z3⟩ := Zv.div_rel (72057594037927936 * P) eU ha hb (Nat.mul_pos (by omega) hP)
    (Or.inr (by
      rw [e1, ← Nat.mul_assoc]
      exact Nat.mul_le_mul_right _ (by omega)))
    (by
      have e4 : (2 : Nat) ^ 2000 = 2 ^ 200 * 2 ^ 1800 := by rw [← Nat.pow_add]
      have e5 : (2 : Nat) ^ 1500 ≤ 2 ^ 1800 := Nat.pow_le_pow_right (by decide) (by decide)
      generalize (2 : Nat) ^ 1500 = A at hx e5
      generalize (2 : Nat) ^ 2000 = B at e4 ⊢
      generalize (2 : Nat) ^ 1800 = E at e4 e5
      have : 4503599627370496 * B ≤ dm * B := Nat.mul_le_mul_right _ d1
      rw [e1, Nat.mul_right_comm dm P B]
      refine Nat.mul_lt_mul_of_pos_right ?_ hP
      generalize dm * B = C at this ⊢
      omega)
  have e2 : z * (dm * P) = z * dm * P := by ac_rfl
  rw [e1, e2, ← Nat.mul_assoc 4503599627370496 (z * dm) P, ← Nat.mul_assoc 4503599627370497 (72057594037927936 * x) P] at z2
  rw [e1, e2, ← Nat.mul_assoc 4503599627370495 (72057594037927936 * x) P, ← Nat.mul_assoc 4503599627370496 (z * dm) P] at z3
  exact ⟨z, z1, Nat.le_of_mul_le_mul_right z2 hP, Nat.le_of_mul_le_mul_right z3 hP⟩
theorem own_mulw {a b : UInt64} {x k : Nat} (ha : Zv a ((k * 2 ^ 1071 : Nat) : Int)) (hb : Zv b (x : Int)) (hk : k ≤ 8) (h : 1267650600228229401496703205376 ≤ x) (hx : x < 2 ^ 1500) : ∃ z : Nat, Zv (FP.dmul a b) (z : Int) ∧ 4503599627370496 * (8 * z) ≤ 4503599627370497 * (k * x) ∧ 4503599627370495 * (k * x) ≤ 4503599627370496 * (8 * z) := by
  have hP := own_up 1071
  have eU : 8 * 2 ^ 1071 = 2 ^ 1074 := by rw [show (8 : Nat) = 2 ^ 3 by decide, ← Nat.pow_add]
  generalize (2 : Nat) ^ 1071 = P at hP eU ha
  have e1 : k * P * x = k * x * P := Nat.mul_right_comm _ _ _
  obtain ⟨z, z1, z2, z3⟩ := Zv.mul_rel (8 * P) eU ha hb
    (by
      rcases Nat.eq_zero_or_pos k with h0 | h0
      · left; rw [h0, Nat.zero_mul, Nat.zero_mul]
      · right
        rw [e1, ← Nat.mul_assoc]
        refine Nat.mul_le_mul_right _ ?_
        have := Nat.le_mul_of_pos_left x h0
        generalize k * x = y at this
        omega)
    (by
      have h5 : (2 : Nat) ^ 1500 ≤ 2 ^ 2000 := Nat.pow_le_pow_right (by decide) (by decide)
      generalize (2 : Nat) ^ 1500 = A at hx h5
      generalize (2 : Nat) ^ 2000 = B at h5 ⊢
      have : k * x ≤ 8 * x := Nat.mul_le_mul_right _ hk
      rw [e1, Nat.mul_right_comm 8 P B]
      refine Nat.mul_lt_mul_of_pos_right ?_ hP
      generalize k * x = y at this ⊢
      omega)
  have e2 : z * (8 * P) = 8 * z * P := by ac_rfl
  rw [e1, e2, ← Nat.mul_assoc 4503599627370496 (8 * z) P, ← Nat.mul_assoc 4503599627370497 (k * x) P] at z2
  rw [e1, e2, ← Nat.mul_assoc 4503599627370495 (k * x) P, ← Nat.mul_assoc 4503599627370496 (8 * z) P] at z3
  exact ⟨z, z1, Nat.le_of_mul_le_mul_right z2 hP, Nat.le_of_mul_le_mul_right z3 hP⟩
theorem own_tol {a : UInt64} {x : Nat} (ha : Zv a (x : Int)) (h : 1267650600228229401496703205376 ≤ x) (hx : x < 2 ^ 1500) : ∃ z : Nat, Zv (FP.ddiv a (4787326403894837248 : UInt64)) (z : Int) ∧ 4503599627370495 * x ≤ 4503599627370496 * (z * 1099511627776) ∧ z ≤ x := by
  have hP := own_up 1074
  have e : (2 : Nat) ^ 1114 = 1099511627776 * 2 ^ 1074 := by rw [show (1099511627776 : Nat) = 2 ^ 40 by decide, ← Nat.pow_add]
  have z40 := own_p40
  rw [e] at z40
  obtain ⟨U, hU⟩ : ∃ U : Nat, U = 2 ^ 1074 := ⟨_, rfl⟩
  rw [← hU] at z40 hP
  obtain ⟨z, z1, z2, z3⟩ := Zv.div_rel U hU ha z40 (Nat.mul_pos (by omega) hP)
    (Or.inr (by
      rw [← Nat.mul_assoc]
      exact Nat.mul_le_mul_right _ (by omega)))
    (by
      have : (2 : Nat) ^ 1500 ≤ 2 ^ 2000 := Nat.pow_le_pow_right (by decide) (by decide)
      generalize (2 : Nat) ^ 1500 = A at hx this
      generalize (2 : Nat) ^ 2000 = B at this ⊢
      rw [Nat.mul_right_comm 1099511627776 U B]
      refine Nat.mul_lt_mul_of_pos_right ?_ hP
      omega)
  have e2 : z * (1099511627776 * U) = z * 1099511627776 * U := by ac_rfl
  rw [e2, ← Nat.mul_assoc _ (z * 1099511627776) U, ← Nat.mul_assoc _ x U] at z2 z3
  have z2 := Nat.le_of_mul_le_mul_right z2 hP
  exact ⟨z, z1, Nat.le_of_mul_le_mul_right z3 hP, by omega⟩
/-- a difference that lies between -w and w stays there when it is rounded -/
theorem Zv.dsub_between {a b c : UInt64} {x y w : Int} (ha : Zv a x) (hb : Zv b y) (hc : Zv c w) (h1 : x - y ≤ w) (h2 : -w ≤ x - y) (hw : w.natAbs < 2 ^ 2098) : ∃ z : Int, Zv (FP.dsub a b) z ∧ z ≤ w ∧ -w ≤ z := by
  obtain ⟨⟨s, c1, q, e1⟩, z1⟩ := ha
  obtain ⟨⟨t, d, r, e2⟩, z2⟩ := hb
  have f1 := val64_fits a
  have f2 := negate_fits (val64_fits b)
  have f3 := val64_fits c
  have n3 := hc.1.ne_nan
  have z3 : zval b64 (negate (val64 b)) = -y := by rw [zval_negate, z2]
  rw [e1] at f1 z1
  rw [e2] at f2 z3
  obtain ⟨sg, n, e, e3, e4, e5⟩ := sum_units f1 (show FP.Core.fits b64 (.fin (!t) d r) from f2)
  rw [z1, show zval b64 (.fin (!t) d r) = -y from z3] at e5
  have ev : val64 (FP.dsub a b) = round b64 (.fin sg n e) := by
    show val64 (FP.Core.dsub a b) = _
    rw [val64_dsub, e1, e2]; show round b64 (exactSum _ (.fin (!t) d r)) = _; rw [e3]
  have eu : ((2 ^ (b64.qmin - b64.qmin).toNat : Nat) : Int) = 1 := by rw [show (b64.qmin - b64.qmin).toNat = 0 by omega]; rfl
  have hi := zval_round_le good_b64 f3 n3 (e0 := b64.qmin) (Int.le_refl _) e4 (s := sg) (c := n) (by rw [e5, hc.2, eu]; omega)
  have lo := zval_round_ge good_b64 (negate_fits f3) (negate_ne_nan n3) (e0 := b64.qmin) (Int.le_refl _) e4 (s := sg) (c := n) (by rw [e5, zval_negate, hc.2, eu]; omega)
  rw [hc.2] at hi
  rw [zval_negate, hc.2] at lo
  refine ⟨_, ⟨?_, by rw [ev]⟩, hi, lo⟩
  unfold DFin
  rw [ev]
  exact own_fin (roundRatio_ne_nan _ _ _ _ _) (by omega)
theorem own_leg {a b : UInt64} {x y : Int} (ha : Zv a x) (hb : Zv b y) (h : x ≤ y) : ¬ ((0 : Int32) < FP.cmpInt 1 (FP.dcmp a b)) := by
  rcases Int.lt_or_eq_of_le h with h | h
  · rw [Zv.dcmp_lt ha hb h]; decide
  · subst h; rw [Zv.dcmp_eq ha hb]; decide
theorem own_gel {a b : UInt64} {x y : Int} (ha : Zv a x) (hb : Zv b y) (h : y ≤ x) : ¬ (FP.cmpInt (-1) (FP.dcmp a b) < (0 : Int32)) := by
  rcases Int.lt_or_eq_of_le h with h | h
  · rw [Zv.dcmp_gt ha hb h]; decide
  · subst h; rw [Zv.dcmp_eq ha hb]; decide

theorem own_s1 {i s a1 a2 : Nat} (h0 : 4503599627370496 * (a1) ≤ 4503599627370497 * (i + s)) (h1 : 4503599627370495 * (i + s) ≤ 4503599627370496 * (a1)) (h2 : 4503599627370496 * (9007199254740992 * a2) ≤ 4503599627370497 * (7656119366529843 * a1)) (h3 : 4503599627370495 * (7656119366529843 * a1) ≤ 4503599627370496 * (9007199254740992 * a2)) : 1125899906842624 * (9007199254740992 * a2) ≤ 1125899906842625 * (7656119366529843 * (i + s)) ∧ 1125899906842623 * (7656119366529843 * (i + s)) ≤ 1125899906842624 * (9007199254740992 * a2) := by omega
theorem own_s2 {i s t a2 r A : Nat} (h0 : 1125899906842624 * (9007199254740992 * a2) ≤ 1125899906842625 * (7656119366529843 * (i + s))) (h1 : 1125899906842623 * (7656119366529843 * (i + s)) ≤ 1125899906842624 * (9007199254740992 * a2)) (h2 : 4503599627370496 * (r) ≤ 4503599627370497 * (t + a2)) (h3 : 4503599627370495 * (t + a2) ≤ 4503599627370496 * (r)) (h4 : A = 9007199254740992 * t + 7656119366529843 * (i + s)) : 562949953421312 * (9007199254740992 * r) ≤ 562949953421313 * (A) ∧ 562949953421311 * (A) ≤ 562949953421312 * (9007199254740992 * r) := by omega
theorem own_s3 {r p A : Nat} (h0 : 562949953421312 * (9007199254740992 * r) ≤ 562949953421313 * (A)) (h1 : 562949953421311 * (A) ≤ 562949953421312 * (9007199254740992 * r)) (h2 : 4503599627370496 * p ≤ 4503599627370497 * (72057594037927936 * r)) (h3 : 4503599627370495 * (72057594037927936 * r) ≤ 4503599627370496 * p) : 281474976710656 * (p) ≤ 281474976710657 * (8 * A) ∧ 281474976710655 * (8 * A) ≤ 281474976710656 * (p) := by omega
theorem own_s4 {i s u b1 b2 : Nat} (h0 : 4503599627370496 * (b1) ≤ 4503599627370497 * (i + u)) (h1 : 4503599627370495 * (i + u) ≤ 4503599627370496 * (b1)) (h2 : 4503599627370496 * (b2) ≤ 4503599627370497 * (b1 + s)) (h3 : 4503599627370495 * (b1 + s) ≤ 4503599627370496 * (b2)) : 1125899906842624 * (b2) ≤ 1125899906842625 * (i + u + s) ∧ 1125899906842623 * (i + u + s) ≤ 1125899906842624 * (b2) := by omega
theorem own_s5 {i s u b2 b3 : Nat} (h0 : 1125899906842624 * (b2) ≤ 1125899906842625 * (i + u + s)) (h1 : 1125899906842623 * (i + u + s) ≤ 1125899906842624 * (b2)) (h2 : 4503599627370496 * (9007199254740992 * b3) ≤ 4503599627370497 * (7656119366529843 * b2)) (h3 : 4503599627370495 * (7656119366529843 * b2) ≤ 4503599627370496 * (9007199254740992 * b3)) : 562949953421312 * (9007199254740992 * b3) ≤ 562949953421313 * (7656119366529843 * (i + u + s)) ∧ 562949953421311 * (7656119366529843 * (i + u + s)) ≤ 562949953421312 * (9007199254740992 * b3) := by omega
theorem own_s6 {i s t u b3 y A : Nat} (h0 : 562949953421312 * (9007199254740992 * b3) ≤ 562949953421313 * (7656119366529843 * (i + u + s))) (h1 : 562949953421311 * (7656119366529843 * (i + u + s)) ≤ 562949953421312 * (9007199254740992 * b3)) (h2 : 4503599627370496 * (y) ≤ 4503599627370497 * (t + b3)) (h3 : 4503599627370495 * (t + b3) ≤ 4503599627370496 * (y)) (h4 : A = 9007199254740992 * t + 7656119366529843 * (i + s)) : 281474976710656 * (9007199254740992 * y) ≤ 281474976710657 * (A + 7656119366529843 * u) ∧ 281474976710655 * (A + 7656119366529843 * u) ≤ 281474976710656 * (9007199254740992 * y) := by omega
theorem own_s7 {u q y A : Nat} (h0 : 281474976710656 * (9007199254740992 * y) ≤ 281474976710657 * (A + 7656119366529843 * u)) (h1 : 281474976710655 * (A + 7656119366529843 * u) ≤ 281474976710656 * (9007199254740992 * y)) (h2 : 4503599627370496 * (8 * u) ≤ 4503599627370497 * (q)) (h3 : 4503599627370495 * (q) ≤ 4503599627370496 * (8 * u)) : 140737488355328 * (72057594037927936 * y) ≤ 140737488355329 * (8 * A + 7656119366529843 * q) ∧ 140737488355327 * (8 * A + 7656119366529843 * q) ≤ 140737488355328 * (72057594037927936 * y) := by omega
theorem own_s8 {x y w p q A : Nat} (h0 : 281474976710656 * (p) ≤ 281474976710657 * (8 * A)) (h1 : 281474976710655 * (8 * A) ≤ 281474976710656 * (p)) (h2 : 140737488355328 * (72057594037927936 * y) ≤ 140737488355329 * (8 * A + 7656119366529843 * q)) (h3 : 140737488355327 * (8 * A + 7656119366529843 * q) ≤ 140737488355328 * (72057594037927936 * y)) (h4 : p ≤ x * 72057594037927936) (h5 : p + 7656119366529843 * q ≤ x * 72057594037927940) (h6 : x * 72057594037927936 ≤ p + 7656119366529843 * q + 4 * x) (h7 : q ≤ 8 * x) (h8 : 4503599627370495 * x ≤ 4503599627370496 * (w * 1099511627776)) : x ≤ y + w := by omega
theorem own_s9 {x y w p q A : Nat} (h0 : 281474976710656 * (p) ≤ 281474976710657 * (8 * A)) (h1 : 281474976710655 * (8 * A) ≤ 281474976710656 * (p)) (h2 : 140737488355328 * (72057594037927936 * y) ≤ 140737488355329 * (8 * A + 7656119366529843 * q)) (h3 : 140737488355327 * (8 * A + 7656119366529843 * q) ≤ 140737488355328 * (72057594037927936 * y)) (h4 : p ≤ x * 72057594037927936) (h5 : p + 7656119366529843 * q ≤ x * 72057594037927940) (h6 : x * 72057594037927936 ≤ p + 7656119366529843 * q + 4 * x) (h7 : q ≤ 8 * x) (h8 : 4503599627370495 * x ≤ 4503599627370496 * (w * 1099511627776)) : y ≤ x + w := by omega
theorem own_s10 {x p q r : Nat} (h0 : p + 7656119366529843 * q ≤ x * 72057594037927940) (h1 : x ≤ q) (h2 : 4503599627370495 * (72057594037927936 * r) ≤ 4503599627370496 * p) : r ≤ x := by omega
theorem own_all {t s i : Nat} {vt vs vi : UInt64} (zt : Zv vt (t : Int)) (zs : Zv vs (s : Int)) (zi : Zv vi (i : Int)) (ht : 2 ^ 200 ≤ t) (ht' : t ≤ 2 ^ 1091) (hs : s = 0 ∨ 2 ^ 200 ≤ s) (hs' : s ≤ 2 ^ 1091) (hi : i = 0 ∨ 2 ^ 200 ≤ i) (hi' : i ≤ 2 ^ 1091) {k dm : Nat} {vw vd : UInt64} (zw : Zv vw ((k * 2 ^ 1071 : Nat) : Int)) (zd : Zv vd ((dm * 2 ^ 1018 : Nat) : Int)) (hk : k ≤ 8)
    (d1 : 4503599627370496 ≤ dm) (d2 : dm ≤ 72057594037927936) (q1 : dm + 7656119366529843 * k ≤ 72057594037927940) (q2 : 72057594037927936 ≤ dm + 7656119366529843 * k + 4) :
    ∃ a1 a2 r x u b1 b2 b3 y w : Nat, Zv (FP.dadd vi vs) (a1 : Int) ∧ Zv (FP.dmul (4605831338911806259 : UInt64) (FP.dadd vi vs)) (a2 : Int) ∧ Zv (FP.dadd vt (FP.dmul (4605831338911806259 : UInt64) (FP.dadd vi vs))) (r : Int) ∧
      Zv (FP.ddiv (FP.dadd vt (FP.dmul (4605831338911806259 : UInt64) (FP.dadd vi vs))) vd) (x : Int) ∧ ∀ vx, vx = FP.ddiv (FP.dadd vt (FP.dmul (4605831338911806259 : UInt64) (FP.dadd vi vs))) vd →
      (Zv (FP.dmul vw vx) (u : Int) ∧ Zv (FP.dadd vi (FP.dmul vw vx)) (b1 : Int) ∧ Zv (FP.dadd (FP.dadd vi (FP.dmul vw vx)) vs) (b2 : Int) ∧ Zv (FP.dmul (4605831338911806259 : UInt64) (FP.dadd (FP.dadd vi (FP.dmul vw vx)) vs)) (b3 : Int) ∧
      Zv (FP.dadd vt (FP.dmul (4605831338911806259 : UInt64) (FP.dadd (FP.dadd vi (FP.dmul vw vx)) vs))) (y : Int) ∧ Zv (FP.ddiv vx (4787326403894837248 : UInt64)) (w : Int) ∧ x ≤ y + w ∧ y ≤ x + w ∧ (k ≠ 0 → r ≤ x) ∧ 0 < x ∧ w < 2 ^ 2098) := by
  have e1 : (1267650600228229401496703205376 : Nat) * 2 ^ 1091 ≤ 2 ^ 1500 := by
    rw [show (1267650600228229401496703205376 : Nat) = 2 ^ 100 by decide, ← Nat.pow_add]
    exact Nat.pow_le_pow_right (by decide) (by decide)
  have e2 : (2 : Nat) ^ 1500 ≤ 2 ^ 2000 := Nat.pow_le_pow_right (by decide) (by decide)
  have e3 : (2 : Nat) ^ 1500 ≤ 2 ^ 2098 := Nat.pow_le_pow_right (by decide) (by decide)
  have e4 : (1 : Nat) ≤ 2 ^ 1091 := Nat.one_le_two_pow
  obtain ⟨M, hM⟩ : ∃ M : Nat, M = 2 ^ 1091 := ⟨_, rfl⟩
  obtain ⟨W, hW⟩ : ∃ W : Nat, W = 2 ^ 1500 := ⟨_, rfl⟩
  obtain ⟨W2, hW2⟩ : ∃ W : Nat, W = 2 ^ 2000 := ⟨_, rfl⟩
  obtain ⟨W3, hW3⟩ : ∃ W : Nat, W = 2 ^ 2098 := ⟨_, rfl⟩
  rw [← hM] at ht' hs' hi' e1 e4
  rw [← hW] at e1 e2 e3
  rw [← hW2] at e2
  rw [← hW3] at e3
  rw [← hW3]
  obtain ⟨a1, za1, f1, g1⟩ := Zv.add_rel zi zs (by rw [← hW2]; omega)
  obtain ⟨a2, za2, f2, g2⟩ := own_mulD za1 (by omega) (by rw [← hW]; omega)
  obtain ⟨r, zr, f3, g3⟩ := Zv.add_rel zt za2 (by rw [← hW2]; omega)
  obtain ⟨x, zx, f4, g4⟩ := own_divc zr zd d1 d2 (by omega) (by rw [← hW]; omega)
  have x1 : x * 4503599627370496 ≤ x * dm := Nat.mul_le_mul_left _ d1
  have x2 : x * dm ≤ x * 72057594037927936 := Nat.mul_le_mul_left _ d2
  have x3 : x * (dm + 7656119366529843 * k) ≤ x * 72057594037927940 := Nat.mul_le_mul_left _ q1
  have x4 : x * 72057594037927936 ≤ x * (dm + 7656119366529843 * k + 4) := Nat.mul_le_mul_left _ q2
  have x5 : x * (dm + 7656119366529843 * k) = x * dm + 7656119366529843 * (k * x) := by rw [Nat.mul_add]; congr 1; ac_rfl
  have x6 : x * (dm + 7656119366529843 * k + 4) = x * dm + 7656119366529843 * (k * x) + 4 * x := by rw [Nat.mul_add, x5, Nat.mul_comm x 4]
  rw [x5] at x3
  rw [x6] at x4
  have x7 : k ≠ 0 → x ≤ k * x := fun h => Nat.le_mul_of_pos_left _ (by omega)
  have x8 : k * x ≤ 8 * x := Nat.mul_le_mul_right _ hk
  have xlo : 1427247692705959881058285969449495136382746624 ≤ x := by
    generalize x * dm = p at *
    omega
  have xhi : x ≤ 4096 * M := by
    generalize x * dm = p at *
    omega
  obtain ⟨u, zu, f5, g5⟩ := own_mulw zw zx hk (by omega) (by rw [← hW]; omega)
  have uhi : u ≤ 2 * x := by omega
  obtain ⟨b1, zb1, f6, g6⟩ := Zv.add_rel zi zu (by rw [← hW2]; omega)
  have b1hi : b1 ≤ 2 * (i + u) := by omega
  have ulo : u = 0 ∨ 1393796574908163946345982392040522594123776 ≤ u := by
    rcases Nat.eq_zero_or_pos k with h | h
    · left
      subst h
      rw [Nat.zero_mul] at f5
      omega
    · right
      have := x7 (by omega)
      omega
  have b1lo : b1 = 0 ∨ 1267650600228229401496703205376 * 4 ≤ b1 := by omega
  obtain ⟨b2, zb2, f7, g7⟩ := Zv.add_rel zb1 zs (by rw [← hW2]; omega)
  have b2hi : b2 ≤ 2 * (b1 + s) := by omega
  have b2lo : b2 = 0 ∨ 1267650600228229401496703205376 ≤ b2 := by omega
  obtain ⟨b3, zb3, f8, g8⟩ := own_mulD zb2 b2lo (by rw [← hW]; omega)
  have b3hi : b3 ≤ 2 * b2 := by omega
  obtain ⟨y, zy, f9, g9⟩ := Zv.add_rel zt zb3 (by rw [← hW2]; omega)
  obtain ⟨w, zw', g10, whi⟩ := own_tol zx (by omega) (by rw [← hW]; omega)
  -- the errors gathered: A = 2^53 t + D (i + s)
  obtain ⟨A, hA⟩ : ∃ A : Nat, A = 9007199254740992 * t + 7656119366529843 * (i + s) := ⟨_, rfl⟩
  have s1 := own_s1 f1 g1 f2 g2
  have s2 := own_s2 s1.1 s1.2 f3 g3 hA
  have s3 := own_s3 s2.1 s2.2 f4 g4
  have s4 := own_s4 f6 g6 f7 g7
  have s5 := own_s5 s4.1 s4.2 f8 g8
  have s6 := own_s6 s5.1 s5.2 f9 g9 hA
  have s7 := own_s7 s6.1 s6.2 f5 g5
  have s8 := own_s8 s3.1 s3.2 s7.1 s7.2 x2 x3 x4 x8 g10
  have s9 := own_s9 s3.1 s3.2 s7.1 s7.2 x2 x3 x4 x8 g10
  have s10 : k ≠ 0 → r ≤ x := fun h => own_s10 x3 (x7 h) g4
  refine ⟨a1, a2, r, x, u, b1, b2, b3, y, w, za1, za2, zr, zx, fun vx e => ?_⟩
  subst e
  exact ⟨zu, zb1, zb2, zb3, zy, zw', s8, s9, s10, by omega, by omega⟩
end OwnM2

theorem own_den (k : Nat) (hk : k < 9) : ∃ (dm : Nat) (vd : UInt64), FP.dsub (4607182418800017408 : UInt64) (FP.dmul (4605831338911806259 : UInt64) (FP.ddiv (FP.i2d (Int32.ofNat k)) (4620693217682128896 : UInt64))) = vd ∧ Fin64 (FP.dmul (4605831338911806259 : UInt64) (FP.ddiv (FP.i2d (Int32.ofNat k)) (4620693217682128896 : UInt64))) ∧ Fin64 vd ∧ Zv vd ((dm * 2 ^ 1018 : Nat) : Int) ∧ 4503599627370496 ≤ dm ∧ dm ≤ 72057594037927936 ∧ dm + 7656119366529843 * k ≤ 72057594037927940 ∧ 72057594037927936 ≤ dm + 7656119366529843 * k + 4 ∧ (k = 0 → vd = 4607182418800017408) ∧ Zv (FP.ddiv (FP.i2d (Int32.ofNat k)) (4620693217682128896 : UInt64)) ((k * 2 ^ 1071 : Nat) : Int) := by
  have : k = 0 ∨ k = 1 ∨ k = 2 ∨ k = 3 ∨ k = 4 ∨ k = 5 ∨ k = 6 ∨ k = 7 ∨ k = 8 := by omega
  rcases this with rfl | rfl | rfl | rfl | rfl | rfl | rfl | rfl | rfl
  · exact ⟨72057594037927936, 4607182418800017408, by decide +kernel, by unfold Fin64; decide +kernel, by unfold Fin64; decide +kernel, ⟨⟨false, 4503599627370496, -52, by decide +kernel⟩, by decide +kernel⟩, by decide, by decide, by decide, by decide, by decide, by rw [show FP.ddiv (FP.i2d (Int32.ofNat 0)) (4620693217682128896 : UInt64) = 0 by decide +kernel]; exact ⟨⟨false, 0, -1074, by decide +kernel⟩, by decide +kernel⟩⟩
  · exact ⟨64401474671398096, 4606225403879201178, by decide +kernel, by unfold Fin64; decide +kernel, by unfold Fin64; decide +kernel, ⟨⟨false, 8050184333924762, -53, by decide +kernel⟩, by decide +kernel⟩, by decide, by decide, by decide, by decide, by decide, by rw [show FP.ddiv (FP.i2d (Int32.ofNat 1)) (4620693217682128896 : UInt64) = 4593671619917905920 by decide +kernel]; exact ⟨⟨false, 4503599627370496, -55, by decide +kernel⟩, by decide +kernel⟩⟩
  · exact ⟨56745355304868248, 4605268388958384947, by decide +kernel, by unfold Fin64; decide +kernel, by unfold Fin64; decide +kernel, ⟨⟨false, 7093169413108531, -53, by decide +kernel⟩, by decide +kernel⟩, by decide, by decide, by decide, by decide, by decide, by rw [show FP.ddiv (FP.i2d (Int32.ofNat 2)) (4620693217682128896 : UInt64) = 4598175219545276416 by decide +kernel]; exact ⟨⟨false, 4503599627370496, -54, by decide +kernel⟩, by decide +kernel⟩⟩
  · exact ⟨49089235938338408, 4604311374037568717, by decide +kernel, by unfold Fin64; decide +kernel, by unfold Fin64; decide +kernel, ⟨⟨false, 6136154492292301, -53, by decide +kernel⟩, by decide +kernel⟩, by decide, by decide, by decide, by decide, by decide, by rw [show FP.ddiv (FP.i2d (Int32.ofNat 3)) (4620693217682128896 : UInt64) = 4600427019358961664 by decide +kernel]; exact ⟨⟨false, 6755399441055744, -54, by decide +kernel⟩, by decide +kernel⟩⟩
  · exact ⟨41433116571808560, 4603354359116752486, by decide +kernel, by unfold Fin64; decide +kernel, by unfold Fin64; decide +kernel, ⟨⟨false, 5179139571476070, -53, by decide +kernel⟩, by decide +kernel⟩, by decide, by decide, by decide, by decide, by decide, by rw [show FP.ddiv (FP.i2d (Int32.ofNat 4)) (4620693217682128896 : UInt64) = 4602678819172646912 by decide +kernel]; exact ⟨⟨false, 4503599627370496, -53, by decide +kernel⟩, by decide +kernel⟩⟩
  · exact ⟨33776997205278720, 4602115869219225600, by decide +kernel, by unfold Fin64; decide +kernel, by unfold Fin64; decide +kernel, ⟨⟨false, 8444249301319680, -54, by decide +kernel⟩, by decide +kernel⟩, by decide, by decide, by decide, by decide, by decide, by rw [show FP.ddiv (FP.i2d (Int32.ofNat 5)) (4620693217682128896 : UInt64) = 4603804719079489536 by decide +kernel]; exact ⟨⟨false, 5629499534213120, -53, by decide +kernel⟩, by decide +kernel⟩⟩
  · exact ⟨26120877838748880, 4600201839377593140, by decide +kernel, by unfold Fin64; decide +kernel, by unfold Fin64; decide +kernel, ⟨⟨false, 6530219459687220, -54, by decide +kernel⟩, by decide +kernel⟩, by decide, by decide, by decide, by decide, by decide, by rw [show FP.ddiv (FP.i2d (Int32.ofNat 6)) (4620693217682128896 : UInt64) = 4604930618986332160 by decide +kernel]; exact ⟨⟨false, 6755399441055744, -53, by decide +kernel⟩, by decide +kernel⟩⟩
  · exact ⟨18464758472219032, 4598287809535960678, by decide +kernel, by unfold Fin64; decide +kernel, by unfold Fin64; decide +kernel, ⟨⟨false, 4616189618054758, -54, by decide +kernel⟩, by decide +kernel⟩, by decide, by decide, by decide, by decide, by decide, by rw [show FP.ddiv (FP.i2d (Int32.ofNat 7)) (4620693217682128896 : UInt64) = 4606056518893174784 by decide +kernel]; exact ⟨⟨false, 7881299347898368, -53, by decide +kernel⟩, by decide +kernel⟩⟩
  · exact ⟨10808639105689192, 4594572339843380020, by decide +kernel, by unfold Fin64; decide +kernel, by unfold Fin64; decide +kernel, ⟨⟨false, 5404319552844596, -55, by decide +kernel⟩, by decide +kernel⟩, by decide, by decide, by decide, by decide, by decide, by rw [show FP.ddiv (FP.i2d (Int32.ofNat 8)) (4620693217682128896 : UInt64) = 4607182418800017408 by decide +kernel]; exact ⟨⟨false, 4503599627370496, -52, by decide +kernel⟩, by decide +kernel⟩⟩
theorem own_ge1 {n : Int64} {N : Nat} (hN : n.toInt = (N : Int)) (h1 : 1 ≤ N) : ¬ (lcmpW n (1 : Int64) < (0 : Int32)) := by
  have h := c_lcmp n (1 : Int64)
  rw [show (1 : Int64).toInt = 1 from rfl] at h
  rw [Int32.lt_iff_toInt_lt, show (0 : Int32).toInt = 0 from rfl]
  rcases Int.lt_trichotomy n.toInt 1 with q | q | q
  · omega
  · have := h.2.1 q; omega
  · have := h.2.2 q; omega
theorem own_lo (q : Nat) : q * 2 ^ 1064 = 0 ∨ 2 ^ 1019 ≤ q * 2 ^ 1064 := by
  rcases Nat.eq_zero_or_pos q with h | h
  · left; rw [h, Nat.zero_mul]
  · right
    exact Nat.le_trans (Nat.pow_le_pow_right (by decide) (by decide)) (Nat.le_mul_of_pos_left _ h)
theorem own_lo2 (q : Nat) : q * 2 ^ 1064 = 0 ∨ 2 ^ 200 ≤ q * 2 ^ 1064 := by
  rcases Nat.eq_zero_or_pos q with h | h
  · left; rw [h, Nat.zero_mul]
  · right
    exact Nat.le_trans (Nat.pow_le_pow_right (by decide) (by decide)) (Nat.le_mul_of_pos_left _ h)
theorem own_hi {q : Nat} (h : q < 1048576) : q * 2 ^ 1064 ≤ 2 ^ 1090 := by
  have e : (2 : Nat) ^ 1090 = 67108864 * 2 ^ 1064 := by rw [show (67108864 : Nat) = 2 ^ 26 by decide, ← Nat.pow_add]
  rw [e]
  exact Nat.mul_le_mul_right _ (by omega)
theorem own_hi2 {q : Nat} (h : q < 1048576) : q * 2 ^ 1064 ≤ 2 ^ 1091 := Nat.le_trans (own_hi h) (Nat.pow_le_pow_right (by decide) (by decide))
theorem own_p200 {z : Nat} (h : 2 ^ 1000 ≤ z) : 2 ^ 200 ≤ z := Nat.le_trans (Nat.pow_le_pow_right (by decide) (by decide)) h
theorem own_tsz {n : Int64} {N : Nat} (h1 : 1 ≤ N) (h2 : N ≤ 65536) (hn : n.toInt = (N : Int)) : ∃ z : Nat, Zv (FP.ddiv (4594572339843380019 : UInt64) (FP.l2d n)) (z : Int) ∧ (z = 0 ∨ 2 ^ 1000 ≤ z) ∧ z ≤ 2 ^ 1091 ∧ z ≠ 0 := by
  have hp : 0 < (2 : Nat) ^ 1019 := Nat.two_pow_pos _
  obtain ⟨z, a, b, c, d⟩ := own_over own_T h1 h2 hn (Or.inr (Nat.le_mul_of_pos_left _ (by decide))) (by
    have e : (2 : Nat) ^ 1090 = 2361183241434822606848 * 2 ^ 1019 := by rw [show (2361183241434822606848 : Nat) = 2 ^ 71 by decide, ← Nat.pow_add]
    rw [e]
    exact Nat.mul_le_mul_right _ (by decide))
  exact ⟨z, a, b, c, d (Nat.ne_of_gt (Nat.mul_pos (by decide) hp))⟩
theorem own_k0 {k : Nat} (h : k < 9) (e : Int32.ofNat k = 0) : k = 0 := by
  have := congrArg Int32.toInt e
  rw [Int32.toInt_ofNat_of_lt (by omega), show (0 : Int32).toInt = 0 from rfl] at this
  omega
theorem ef_init (m : MethodId) (x0 : Addr) (x1 : Int64) (x2 : UInt64) : entryFrame m #[(.ref x0), (.long x1), (.double x2)] 5 = mkF m 0 #[.val (.ref x0), .val (.long x1), .second, .val (.double x2), .second] [] := by first | (simp [entryFrame, mkF, argsToLocals, Value.category]; done) | rfl
theorem pn_init : plainName "com/example/umbel/umbel/rank/RankEquation" = true := by first | (simp [plainName, overriddenIn]; done) | decide +kernel
def Q_init (Z : State) (a : Addr) (n : Int64) (d : UInt64) (h0 : Heap) (n0 : Nat) (v : Option Value) (h : Heap) (L : List Loc) : Prop := v = none ∧ Fr n0 L ∧ Keep h0 h [a] ∧ Exa Z h a "com/example/umbel/umbel/rank/RankEquation" ∧ Fld Z h a "com/example/umbel/umbel/rank/RankEquation" "teleportShare" "D" (.double (FP.ddiv (4594572339843380019 : UInt64) (FP.l2d n))) ∧ Fld Z h a "com/example/umbel/umbel/rank/RankEquation" "danglingShare" "D" (.double (FP.ddiv d (FP.l2d n)))
set_option maxRecDepth 65536 in
set_option maxHeartbeats 40000000 in
theorem rm_init (l : Launch) (Z : State) (a0 : Array Value) (hw : ∀ d ∈ tables_1, d.before a0 Z = true) (ws : List Jvm.Cond) (a : Addr) (n : Int64) (d : UInt64) (h0 : Heap) (n0 : Nat) (Z0 : n0 ≤ h0.size) (E0 : Exa Z h0 a "com/example/umbel/umbel/rank/RankEquation") (F1 : Fld Z h0 a "com/example/umbel/umbel/rank/RankEquation" "teleportShare" "D" (.double (0 : UInt64))) (F2 : Fld Z h0 a "com/example/umbel/umbel/rank/RankEquation" "danglingShare" "D" (.double (0 : UInt64))) (g_a : n0 ≤ a) (hn : ¬ (lcmpW n (1 : Int64) < (0 : Int32))) (hd1 : NoNaN64 (FP.ddiv (4594572339843380019 : UInt64) (FP.l2d n))) (hd2 : NoNaN64 (FP.ddiv d (FP.l2d n))) :
    MetFree l (⟨"com/example/umbel/umbel/rank/RankEquation", "<init>", "(JD)V"⟩ : MethodName) (head1 (Jvm.Cond.code (⟨"com/example/umbel/umbel/rank/RankEquation", "<init>", "(JD)V"⟩ : MethodName) prog_8_method_1_code 5 none :: ws) ({ frames := 1, cells := 0, slots := 0, locals := 12 } : Room)) (fun aa U => aa = #[(.ref a), (.long n), (.double d)] ∧ Z.Warmed39 U.vm ∧ U.heap = h0) (fun _ _ _ _ _ => True) (fun _ U o U' => ∃ v L, o = .returned v ∧ Q_init Z a n d h0 n0 v U'.heap L ∧ FrameEnd U o U' L ({ frames := 1, cells := 0, slots := 0, locals := 12 } : Room).cells ({ frames := 1, cells := 0, slots := 0, locals := 12 } : Room).slots) := by
  refine MetFree.of_bodySF (plainFor_of_name pn_init) hisR ?_
  intro p e s m args below meth c s₁ Bd hml0 hP hK
  obtain ⟨rfl, hZ, hh⟩ := hP
  have hx := Bd.exec
  have hby := Bd.bytes
  have hml : c.maxLocals = 5 := hml0
  have hown : s.vm.findClass "com/example/umbel/umbel/rank/RankEquation" = some m.cls := findClass_of_methodNamed Bd.named
  have hnm := (name_of_methodNamed Bd.named Bd.method).1
  have X0 : Stand p l e ({ frames := 1, cells := 0, slots := 0, locals := 12 } : Room) s m #[(.ref a), (.long n), (.double d)] below meth c s₁ [] 0 0 := Stand.of_body Bd
  have e0 : s₁.heap = h0 := by rw [← hh, Bd.state]; rfl
  have N0 := Fr.nil n0
  have S0 : Go p e below s₁ (entryFrame m #[(.ref a), (.long n), (.double d)] 5) s₁ (mkF m 0 #[.val (.ref a), .val (.long n), .second, .val (.double d), .second] []) := fun t k => castTop (ef_init m a n d) k
  have S1 : Go p e below s₁ (entryFrame m #[(.ref a), (.long n), (.double d)] 5) s₁ (mkF m 1 #[.val (.ref a), .val (.long n), .second, .val (.double d), .second] [(.ref a)]) := fun t kt => S0 t (by
    refine XS.aloadN X0.here hx rfl (hb hby d1_0) rfl rfl ?_
    show Steps p.tables e below (s₁.setTop (mkF m 1 #[.val (.ref a), .val (.long n), .second, .val (.double d), .second] [(.ref a)])) _
    exact kt)
  obtain ⟨T2, X2, e2, st2⟩ := initO X0 hx hZ hown (hw _ (List.mem_of_getElem? (i := 11) rfl)) (hw _ (List.mem_of_getElem? (i := 12) rfl)) (hw _ (List.mem_of_getElem? (i := 13) rfl)) e0 (g := (mkF m 1 #[.val (.ref a), .val (.long n), .second, .val (.double d), .second] [(.ref a)])) rfl (by rw [hml]; rfl) rfl (hb hby d1_1) (by decide) (W := 0) (by show 2 * 0 + _ ≤ _; exact Nat.le_of_eq rfl) (by decide)
  have S3 : Go p e below s₁ (entryFrame m #[(.ref a), (.long n), (.double d)] 5) T2 (mkF m 4 #[.val (.ref a), .val (.long n), .second, .val (.double d), .second] []) := fun t kt => S1 t (st2 t kt)
  have S4 : Go p e below s₁ (entryFrame m #[(.ref a), (.long n), (.double d)] 5) T2 (mkF m 7 #[.val (.ref a), .val (.long n), .second, .val (.double d), .second] [(.int (lcmpW n (1 : Int64)))]) := fun t kt => S3 t (by
    refine XS.lloadN X2.here hx rfl (hb hby d1_4) rfl ?_
    show Steps p.tables e below (T2.setTop (mkF m 5 #[.val (.ref a), .val (.long n), .second, .val (.double d), .second] [(.long n)])) _
    refine XS.lconst X2.here hx rfl (hb hby d1_5) ?_
    show Steps p.tables e below (T2.setTop (mkF m 6 #[.val (.ref a), .val (.long n), .second, .val (.double d), .second] [(.long (1 : Int64)), (.long n)])) _
    refine XS.lcmp X2.here hx rfl (hb hby d1_6) rfl ?_
    show Steps p.tables e below (T2.setTop (mkF m 7 #[.val (.ref a), .val (.long n), .second, .val (.double d), .second] [(.int (lcmpW n (1 : Int64)))])) _
    exact kt)
  have S5 : Go p e below s₁ (entryFrame m #[(.ref a), (.long n), (.double d)] 5) T2 (mkF m 31 #[.val (.ref a), .val (.long n), .second, .val (.double d), .second] [(.double (FP.ddiv (4594572339843380019 : UInt64) (FP.l2d n))), (.ref a)]) := fun t kt => S4 t (by
    refine XS.ifYes X2.here hx rfl (pc0 := 7) (pc' := 24) rfl (hb hby d1_7) rfl ((if0 _ _).trans (flt (show ¬ ((lcmpW n (1 : Int64)) < (0 : Int32)) from hn)).2.1) (by decide) (by decide) ?_
    show Steps p.tables e below (T2.setTop (mkF m 24 #[.val (.ref a), .val (.long n), .second, .val (.double d), .second] [])) _
    refine XS.aloadN X2.here hx rfl (hb hby d1_24) rfl rfl ?_
    show Steps p.tables e below (T2.setTop (mkF m 25 #[.val (.ref a), .val (.long n), .second, .val (.double d), .second] [(.ref a)])) _
    refine X2.ldc2DoubleC hx hown (mvT hZ (hw _ (List.mem_of_getElem? (i := 14) rfl))) (g := (mkF m 25 #[.val (.ref a), .val (.long n), .second, .val (.double d), .second] [(.ref a)])) rfl (hb hby d1_25) _ ?_
    show Steps p.tables e below (T2.setTop (mkF m 28 #[.val (.ref a), .val (.long n), .second, .val (.double d), .second] [(.double (4594572339843380019 : UInt64)), (.ref a)])) _
    refine XS.lloadN X2.here hx rfl (hb hby d1_28) rfl ?_
    show Steps p.tables e below (T2.setTop (mkF m 29 #[.val (.ref a), .val (.long n), .second, .val (.double d), .second] [(.long n), (.double (4594572339843380019 : UInt64)), (.ref a)])) _
    refine XS.l2dS X2.here hx rfl (hb hby d1_29) rfl rfl ?_
    show Steps p.tables e below (T2.setTop (mkF m 30 #[.val (.ref a), .val (.long n), .second, .val (.double d), .second] [(.double (FP.l2d n)), (.double (4594572339843380019 : UInt64)), (.ref a)])) _
    refine XS.ddivS X2.here hx rfl (hb hby d1_30) rfl hd1 rfl ?_
    show Steps p.tables e below (T2.setTop (mkF m 31 #[.val (.ref a), .val (.long n), .second, .val (.double d), .second] [(.double (FP.ddiv (4594572339843380019 : UInt64) (FP.l2d n))), (.ref a)])) _
    exact kt)
  obtain ⟨T6, h6, X6, e6, W6, st6⟩ := putF X2 hx hZ hown (host := "") (Or.inl (hw _ (List.mem_of_getElem? (i := 15) rfl))) Via.refl e2 F1 E0 (Or.inr ⟨(hw _ (List.mem_of_getElem? (i := 16) rfl)), rfl, hnm⟩) (hw _ (List.mem_of_getElem? (i := 6) rfl)) (ty := .double) (by decide) rfl rfl (g := (mkF m 31 #[.val (.ref a), .val (.long n), .second, .val (.double d), .second] [(.double (FP.ddiv (4594572339843380019 : UInt64) (FP.l2d n))), (.ref a)])) rfl rfl (hb hby d1_31)
  have N6 := Fr.snoc X6 N0 g_a
  have K6 : Keep h0 h6 [a] := (Keep.refl h0 [a]).wr W6 (Or.inl (by simp))
  have Fw6 := F1.same W6
  have S7 : Go p e below s₁ (entryFrame m #[(.ref a), (.long n), (.double d)] 5) T6 (mkF m 34 #[.val (.ref a), .val (.long n), .second, .val (.double d), .second] []) := fun t kt => S5 t (st6 t kt)
  have S8 : Go p e below s₁ (entryFrame m #[(.ref a), (.long n), (.double d)] 5) T6 (mkF m 39 #[.val (.ref a), .val (.long n), .second, .val (.double d), .second] [(.double (FP.ddiv d (FP.l2d n))), (.ref a)]) := fun t kt => S7 t (by
    refine XS.aloadN X6.here hx rfl (hb hby d1_34) rfl rfl ?_
    show Steps p.tables e below (T6.setTop (mkF m 35 #[.val (.ref a), .val (.long n), .second, .val (.double d), .second] [(.ref a)])) _
    refine XS.dloadN X6.here hx rfl (hb hby d1_35) rfl ?_
    show Steps p.tables e below (T6.setTop (mkF m 36 #[.val (.ref a), .val (.long n), .second, .val (.double d), .second] [(.double d), (.ref a)])) _
    refine XS.lloadN X6.here hx rfl (hb hby d1_36) rfl ?_
    show Steps p.tables e below (T6.setTop (mkF m 37 #[.val (.ref a), .val (.long n), .second, .val (.double d), .second] [(.long n), (.double d), (.ref a)])) _
    refine XS.l2dS X6.here hx rfl (hb hby d1_37) rfl rfl ?_
    show Steps p.tables e below (T6.setTop (mkF m 38 #[.val (.ref a), .val (.long n), .second, .val (.double d), .second] [(.double (FP.l2d n)), (.double d), (.ref a)])) _
    refine XS.ddivS X6.here hx rfl (hb hby d1_38) rfl hd2 rfl ?_
    show Steps p.tables e below (T6.setTop (mkF m 39 #[.val (.ref a), .val (.long n), .second, .val (.double d), .second] [(.double (FP.ddiv d (FP.l2d n))), (.ref a)])) _
    exact kt)
  have f9 := (F2.other W6 (Or.inr (slot_ne (C := "com/example/umbel/umbel/rank/RankEquation") (Or.inr (hw _ (List.mem_of_getElem? (i := 18) rfl))) (Or.inr (hw _ (List.mem_of_getElem? (i := 16) rfl))) (by decide) (t := .double) (t' := .double) (by decide) (by decide))))
  have f10 := (E0.wr W6)
  obtain ⟨T11, h11, X11, e11, W11, st11⟩ := putF X6 hx hZ hown (host := "") (Or.inl (hw _ (List.mem_of_getElem? (i := 17) rfl))) Via.refl e6 f9 f10 (Or.inr ⟨(hw _ (List.mem_of_getElem? (i := 18) rfl)), rfl, hnm⟩) (hw _ (List.mem_of_getElem? (i := 6) rfl)) (ty := .double) (by decide) rfl rfl (g := (mkF m 39 #[.val (.ref a), .val (.long n), .second, .val (.double d), .second] [(.double (FP.ddiv d (FP.l2d n))), (.ref a)])) rfl rfl (hb hby d1_39)
  have N11 := Fr.snoc X11 N6 g_a
  have K11 : Keep h0 h11 [a] := K6.wr W11 (Or.inl (by simp))
  have Fw11 := f9.same W11
  have S12 : Go p e below s₁ (entryFrame m #[(.ref a), (.long n), (.double d)] 5) T11 (mkF m 42 #[.val (.ref a), .val (.long n), .second, .val (.double d), .second] []) := fun t kt => S8 t (st11 t kt)
  have f13 := (f10.wr W11)
  have f14 := (Fw6.other W11 (Or.inr (slot_ne (C := "com/example/umbel/umbel/rank/RankEquation") (Or.inr (hw _ (List.mem_of_getElem? (i := 16) rfl))) (Or.inr (hw _ (List.mem_of_getElem? (i := 18) rfl))) (by decide) (t := .double) (t' := .double) (by decide) (by decide))))
  obtain ⟨fs, hr, hrun, hended, hW, hsame⟩ := X11.leave (v := none) (fun h => by first | rfl | (rw [Bd.returns] at h; cases h))
  refine ⟨_, _, S12 _ ?_, hrun, hended, _, _, rfl, ?_, ⟨_, rfl⟩, hW, hsame.mono (by decide) (by decide)⟩
  · exact X11.returnOut hx Bd.returns (hb hby d1_42) hr
  · show Q_init Z a n d h0 n0 _ T11.heap _
    rw [e11]
    exact ⟨rfl, N11, K11, f13, f14, Fw11⟩
theorem ef_rank (m : MethodId) (x0 : Addr) (x1 : UInt64) : entryFrame m #[(.ref x0), (.double x1)] 3 = mkF m 0 #[.val (.ref x0), .val (.double x1), .second] [] := by first | (simp [entryFrame, mkF, argsToLocals, Value.category]; done) | rfl
theorem pn_rank : plainName "com/example/umbel/umbel/rank/RankEquation" = true := by first | (simp [plainName, overriddenIn]; done) | decide +kernel
def Q_rank (Z : State) (a : Addr) (i : UInt64) (ts : UInt64) (ds : UInt64) (h0 : Heap) (n0 : Nat) (v : Option Value) (h : Heap) (L : List Loc) : Prop := v = some (.double (FP.dadd ts (FP.dmul (4605831338911806259 : UInt64) (FP.dadd i ds)))) ∧ Fr n0 L ∧ h = h0
set_option maxRecDepth 65536 in
set_option maxHeartbeats 40000000 in
theorem rm_rank (l : Launch) (Z : State) (a0 : Array Value) (hw : ∀ d ∈ tables_1, d.before a0 Z = true) (ws : List Jvm.Cond) (a : Addr) (i : UInt64) (ts : UInt64) (ds : UInt64) (h0 : Heap) (n0 : Nat) (Z0 : n0 ≤ h0.size) (F1 : Fld Z h0 a "com/example/umbel/umbel/rank/RankEquation" "teleportShare" "D" (.double ts)) (F2 : Fld Z h0 a "com/example/umbel/umbel/rank/RankEquation" "danglingShare" "D" (.double ds)) (hd1 : NoNaN64 (FP.dadd i ds)) (hd2 : NoNaN64 (FP.dmul (4605831338911806259 : UInt64) (FP.dadd i ds))) (hd3 : NoNaN64 (FP.dadd ts (FP.dmul (4605831338911806259 : UInt64) (FP.dadd i ds)))) :
    MetFree l (⟨"com/example/umbel/umbel/rank/RankEquation", "rank", "(D)D"⟩ : MethodName) (head1 (Jvm.Cond.code (⟨"com/example/umbel/umbel/rank/RankEquation", "rank", "(D)D"⟩ : MethodName) prog_8_method_3_code 3 (some .double) :: ws) ({ frames := 0, cells := 0, slots := 0, locals := 0 } : Room)) (fun aa U => aa = #[(.ref a), (.double i)] ∧ Z.Warmed39 U.vm ∧ U.heap = h0) (fun _ _ _ _ _ => True) (fun _ U o U' => ∃ v L, o = .returned v ∧ Q_rank Z a i ts ds h0 n0 v U'.heap L ∧ FrameEnd U o U' L ({ frames := 0, cells := 0, slots := 0, locals := 0 } : Room).cells ({ frames := 0, cells := 0, slots := 0, locals := 0 } : Room).slots) := by
  refine MetFree.of_bodySF (plainFor_of_name pn_rank) hisR ?_
  intro p e s m args below meth c s₁ Bd hml0 hP hK
  obtain ⟨rfl, hZ, hh⟩ := hP
  have hx := Bd.exec
  have hby := Bd.bytes
  have hml : c.maxLocals = 3 := hml0
  have hown : s.vm.findClass "com/example/umbel/umbel/rank/RankEquation" = some m.cls := findClass_of_methodNamed Bd.named
  have hnm := (name_of_methodNamed Bd.named Bd.method).1
  have X0 : Stand p l e ({ frames := 0, cells := 0, slots := 0, locals := 0 } : Room) s m #[(.ref a), (.double i)] below meth c s₁ [] 0 0 := Stand.of_body Bd
  have e0 : s₁.heap = h0 := by rw [← hh, Bd.state]; rfl
  have N0 := Fr.nil n0
  have S0 : Go p e below s₁ (entryFrame m #[(.ref a), (.double i)] 3) s₁ (mkF m 0 #[.val (.ref a), .val (.double i), .second] []) := fun t k => castTop (ef_rank m a i) k
  have S15 : Go p e below s₁ (entryFrame m #[(.ref a), (.double i)] 3) s₁ (mkF m 1 #[.val (.ref a), .val (.double i), .second] [(.ref a)]) := fun t kt => S0 t (by
    refine XS.aloadN X0.here hx rfl (hb hby d4_0) rfl rfl ?_
    show Steps p.tables e below (s₁.setTop (mkF m 1 #[.val (.ref a), .val (.double i), .second] [(.ref a)])) _
    exact kt)
  obtain ⟨T16, X16, e16, st16⟩ := getF X0 hx hZ hown (host := "") (Or.inl (hw _ (List.mem_of_getElem? (i := 15) rfl))) Via.refl e0 F1 (g := (mkF m 1 #[.val (.ref a), .val (.double i), .second] [(.ref a)])) rfl rfl (hb hby d4_1)
  have S17 : Go p e below s₁ (entryFrame m #[(.ref a), (.double i)] 3) T16 (mkF m 4 #[.val (.ref a), .val (.double i), .second] [(.double ts)]) := fun t kt => S15 t (st16 t kt)
  have S18 : Go p e below s₁ (entryFrame m #[(.ref a), (.double i)] 3) T16 (mkF m 9 #[.val (.ref a), .val (.double i), .second] [(.ref a), (.double i), (.double (4605831338911806259 : UInt64)), (.double ts)]) := fun t kt => S17 t (by
    refine X16.ldc2DoubleC hx hown (mvT hZ (hw _ (List.mem_of_getElem? (i := 29) rfl))) (g := (mkF m 4 #[.val (.ref a), .val (.double i), .second] [(.double ts)])) rfl (hb hby d4_4) _ ?_
    show Steps p.tables e below (T16.setTop (mkF m 7 #[.val (.ref a), .val (.double i), .second] [(.double (4605831338911806259 : UInt64)), (.double ts)])) _
    refine XS.dloadN X16.here hx rfl (hb hby d4_7) rfl ?_
    show Steps p.tables e below (T16.setTop (mkF m 8 #[.val (.ref a), .val (.double i), .second] [(.double i), (.double (4605831338911806259 : UInt64)), (.double ts)])) _
    refine XS.aloadN X16.here hx rfl (hb hby d4_8) rfl rfl ?_
    show Steps p.tables e below (T16.setTop (mkF m 9 #[.val (.ref a), .val (.double i), .second] [(.ref a), (.double i), (.double (4605831338911806259 : UInt64)), (.double ts)])) _
    exact kt)
  obtain ⟨T19, X19, e19, st19⟩ := getF X16 hx hZ hown (host := "") (Or.inl (hw _ (List.mem_of_getElem? (i := 17) rfl))) Via.refl e16 F2 (g := (mkF m 9 #[.val (.ref a), .val (.double i), .second] [(.ref a), (.double i), (.double (4605831338911806259 : UInt64)), (.double ts)])) rfl rfl (hb hby d4_9)
  have S20 : Go p e below s₁ (entryFrame m #[(.ref a), (.double i)] 3) T19 (mkF m 12 #[.val (.ref a), .val (.double i), .second] [(.double ds), (.double i), (.double (4605831338911806259 : UInt64)), (.double ts)]) := fun t kt => S18 t (st19 t kt)
  have S21 : Go p e below s₁ (entryFrame m #[(.ref a), (.double i)] 3) T19 (mkF m 15 #[.val (.ref a), .val (.double i), .second] [(.double (FP.dadd ts (FP.dmul (4605831338911806259 : UInt64) (FP.dadd i ds))))]) := fun t kt => S20 t (by
    refine XS.daddS X19.here hx rfl (hb hby d4_12) rfl hd1 rfl ?_
    show Steps p.tables e below (T19.setTop (mkF m 13 #[.val (.ref a), .val (.double i), .second] [(.double (FP.dadd i ds)), (.double (4605831338911806259 : UInt64)), (.double ts)])) _
    refine XS.dmulS X19.here hx rfl (hb hby d4_13) rfl hd2 rfl ?_
    show Steps p.tables e below (T19.setTop (mkF m 14 #[.val (.ref a), .val (.double i), .second] [(.double (FP.dmul (4605831338911806259 : UInt64) (FP.dadd i ds))), (.double ts)])) _
    refine XS.daddS X19.here hx rfl (hb hby d4_14) rfl hd3 rfl ?_
    show Steps p.tables e below (T19.setTop (mkF m 15 #[.val (.ref a), .val (.double i), .second] [(.double (FP.dadd ts (FP.dmul (4605831338911806259 : UInt64) (FP.dadd i ds))))])) _
    exact kt)
  obtain ⟨fs, hr, hrun, hended, hW, hsame⟩ := X19.leave (v := some (.double (FP.dadd ts (FP.dmul (4605831338911806259 : UInt64) (FP.dadd i ds))))) (fun h => by first | rfl | (rw [Bd.returns] at h; cases h))
  refine ⟨_, _, S21 _ ?_, hrun, hended, _, _, rfl, ?_, ⟨_, rfl⟩, hW, hsame.mono (by decide) (by decide)⟩
  · jvm_step X19.here [X19.here.top, hx, (hb hby d4_15), X19.method', Bd.returns, narrow]
    first | (intro acts; rw [hr _ acts rfl rfl rfl]) | rw [hr _ _ rfl rfl rfl]
    exact Steps.refl _
  · show Q_rank Z a i ts ds h0 n0 _ T19.heap _
    rw [e19]
    exact ⟨rfl, N0, rfl⟩
theorem ef_own (m : MethodId) (x0 : Addr) (x1 : UInt64) (x2 : UInt64) : entryFrame m #[(.ref x0), (.double x1), (.double x2)] 5 = mkF m 0 #[.val (.ref x0), .val (.double x1), .second, .val (.double x2), .second] [] := by first | (simp [entryFrame, mkF, argsToLocals, Value.category]; done) | rfl
theorem pn_own : plainName "com/example/umbel/umbel/rank/RankEquation" = true := by first | (simp [plainName, overriddenIn]; done) | decide +kernel
def Q_own (Z : State) (a : Addr) (i : UInt64) (w : UInt64) (ts : UInt64) (ds : UInt64) (h0 : Heap) (n0 : Nat) (v : Option Value) (h : Heap) (L : List Loc) : Prop := v = some (.double (FP.ddiv (FP.dadd ts (FP.dmul (4605831338911806259 : UInt64) (FP.dadd i ds))) (FP.dsub (4607182418800017408 : UInt64) (FP.dmul (4605831338911806259 : UInt64) w)))) ∧ Fr n0 L ∧ h = h0
set_option maxRecDepth 65536 in
set_option maxHeartbeats 40000000 in
theorem rm_own (l : Launch) (Z : State) (a0 : Array Value) (hw : ∀ d ∈ tables_1, d.before a0 Z = true) (ws : List Jvm.Cond) (a : Addr) (i : UInt64) (w : UInt64) (ts : UInt64) (ds : UInt64) (h0 : Heap) (n0 : Nat) (Z0 : n0 ≤ h0.size) (E0 : Exa Z h0 a "com/example/umbel/umbel/rank/RankEquation") (F1 : Fld Z h0 a "com/example/umbel/umbel/rank/RankEquation" "teleportShare" "D" (.double ts)) (F2 : Fld Z h0 a "com/example/umbel/umbel/rank/RankEquation" "danglingShare" "D" (.double ds)) (hd1 : NoNaN64 (FP.dadd i ds)) (hd2 : NoNaN64 (FP.dmul (4605831338911806259 : UInt64) (FP.dadd i ds))) (hd3 : NoNaN64 (FP.dadd ts (FP.dmul (4605831338911806259 : UInt64) (FP.dadd i ds)))) (hd4 : NoNaN64 (FP.dmul (4605831338911806259 : UInt64) w)) (hd5 : NoNaN64 (FP.dsub (4607182418800017408 : UInt64) (FP.dmul (4605831338911806259 : UInt64) w))) (hd6 : NoNaN64 (FP.ddiv (FP.dadd ts (FP.dmul (4605831338911806259 : UInt64) (FP.dadd i ds))) (FP.dsub (4607182418800017408 : UInt64) (FP.dmul (4605831338911806259 : UInt64) w)))) :
    MetFree l (⟨"com/example/umbel/umbel/rank/RankEquation", "rankTakingOwnShare", "(DD)D"⟩ : MethodName) (head1 (Jvm.Cond.code (⟨"com/example/umbel/umbel/rank/RankEquation", "rankTakingOwnShare", "(DD)D"⟩ : MethodName) prog_8_method_4_code 5 (some .double) :: ws) ({ frames := 1, cells := 0, slots := 0, locals := 14 } : Room)) (fun aa U => aa = #[(.ref a), (.double i), (.double w)] ∧ Z.Warmed39 U.vm ∧ U.heap = h0) (fun _ _ _ _ _ => True) (fun _ U o U' => ∃ v L, o = .returned v ∧ Q_own Z a i w ts ds h0 n0 v U'.heap L ∧ FrameEnd U o U' L ({ frames := 1, cells := 0, slots := 0, locals := 14 } : Room).cells ({ frames := 1, cells := 0, slots := 0, locals := 14 } : Room).slots) := by
  refine MetFree.of_bodySF (plainFor_of_name pn_own) hisR ?_
  intro p e s m args below meth c s₁ Bd hml0 hP hK
  obtain ⟨rfl, hZ, hh⟩ := hP
  have hx := Bd.exec
  have hby := Bd.bytes
  have hml : c.maxLocals = 5 := hml0
  have hown : s.vm.findClass "com/example/umbel/umbel/rank/RankEquation" = some m.cls := findClass_of_methodNamed Bd.named
  have hnm := (name_of_methodNamed Bd.named Bd.method).1
  have X0 : Stand p l e ({ frames := 1, cells := 0, slots := 0, locals := 14 } : Room) s m #[(.ref a), (.double i), (.double w)] below meth c s₁ [] 0 0 := Stand.of_body Bd
  have e0 : s₁.heap = h0 := by rw [← hh, Bd.state]; rfl
  have N0 := Fr.nil n0
  have S0 : Go p e below s₁ (entryFrame m #[(.ref a), (.double i), (.double w)] 5) s₁ (mkF m 0 #[.val (.ref a), .val (.double i), .second, .val (.double w), .second] []) := fun t k => castTop (ef_own m a i w) k
  have S22 : Go p e below s₁ (entryFrame m #[(.ref a), (.double i), (.double w)] 5) s₁ (mkF m 2 #[.val (.ref a), .val (.double i), .second, .val (.double w), .second] [(.double i), (.ref a)]) := fun t kt => S0 t (by
    refine XS.aloadN X0.here hx rfl (hb hby d3_0) rfl rfl ?_
    show Steps p.tables e below (s₁.setTop (mkF m 1 #[.val (.ref a), .val (.double i), .second, .val (.double w), .second] [(.ref a)])) _
    refine XS.dloadN X0.here hx rfl (hb hby d3_1) rfl ?_
    show Steps p.tables e below (s₁.setTop (mkF m 2 #[.val (.ref a), .val (.double i), .second, .val (.double w), .second] [(.double i), (.ref a)])) _
    exact kt)
  obtain ⟨cq23, kq23, q23a, q23b, q23c⟩ := isOf hZ e0 E0
  obtain ⟨_, _, ⟨T23, L23, k23, n23⟩, -, X23, ⟨Lc23, hQ23, l23, y23, z23⟩, st23⟩ := X0.virtualBack hx (y := (⟨"com/example/umbel/umbel/rank/RankEquation", "rank", "(D)D"⟩ : MethodName)) (z := (⟨"com/example/umbel/umbel/rank/RankEquation", "rank", "(D)D"⟩ : MethodName)) hown (mvT hZ (hw _ (List.mem_of_getElem? (i := 24) rfl))) (mvT hZ (hw _ (List.mem_of_getElem? (i := 25) rfl))) (notFace_of_selects (args := #[]) (mvT hZ (hw _ (List.mem_of_getElem? (i := 27) rfl)))) (mvT hZ (hw _ (List.mem_of_getElem? (i := 27) rfl))) (mvT hZ (hw _ (List.mem_of_getElem? (i := 26) rfl))) (by decide) (backOf (W := 0) (rm_rank l Z a0 hw [] a i ts ds h0 n0 Z0 F1 F2 hd1 hd2 hd3) hZ (hw _ (List.mem_of_getElem? (i := 28) rfl)) (hw _ (List.mem_of_getElem? (i := 7) rfl)) (by decide) (by decide)) q23a q23c (g := (mkF m 2 #[.val (.ref a), .val (.double i), .second, .val (.double w), .second] [(.double i), (.ref a)])) rfl (by rw [hml]; rfl) (Steps.refl _) (argsL := [(.double i)]) (rest := []) (lenOf pd__D_D rfl) rfl (by show 2 * 0 + _ ≤ _; exact Nat.le_of_eq rfl) (hb hby d3_2) (fun _ _ => ⟨rfl, e0, (by decide : 0 + 0 ≤ _), (by decide : 0 + 0 ≤ _)⟩)
  dsimp only [Pt.U, Pt.locs, Pt.cells, Pt.slots] at X23 l23 y23 z23 st23 hQ23
  subst l23 y23 z23
  obtain ⟨rfl, N23q, e23⟩ := hQ23
  have N23 := Fr.app N0 N23q
  have S24 : Go p e below s₁ (entryFrame m #[(.ref a), (.double i), (.double w)] 5) T23 (mkF m 5 #[.val (.ref a), .val (.double i), .second, .val (.double w), .second] [(.double (FP.dadd ts (FP.dmul (4605831338911806259 : UInt64) (FP.dadd i ds))))]) := fun t kt => S22 t (st23.trans kt)
  have S25 : Go p e below s₁ (entryFrame m #[(.ref a), (.double i), (.double w)] 5) T23 (mkF m 13 #[.val (.ref a), .val (.double i), .second, .val (.double w), .second] [(.double (FP.ddiv (FP.dadd ts (FP.dmul (4605831338911806259 : UInt64) (FP.dadd i ds))) (FP.dsub (4607182418800017408 : UInt64) (FP.dmul (4605831338911806259 : UInt64) w))))]) := fun t kt => S24 t (by
    refine XS.dconst1 X23.here hx rfl (hb hby d3_5) rfl ?_
    show Steps p.tables e below (T23.setTop (mkF m 6 #[.val (.ref a), .val (.double i), .second, .val (.double w), .second] [(.double (4607182418800017408 : UInt64)), (.double (FP.dadd ts (FP.dmul (4605831338911806259 : UInt64) (FP.dadd i ds))))])) _
    refine X23.ldc2DoubleC hx hown (mvT hZ (hw _ (List.mem_of_getElem? (i := 29) rfl))) (g := (mkF m 6 #[.val (.ref a), .val (.double i), .second, .val (.double w), .second] [(.double (4607182418800017408 : UInt64)), (.double (FP.dadd ts (FP.dmul (4605831338911806259 : UInt64) (FP.dadd i ds))))])) rfl (hb hby d3_6) _ ?_
    show Steps p.tables e below (T23.setTop (mkF m 9 #[.val (.ref a), .val (.double i), .second, .val (.double w), .second] [(.double (4605831338911806259 : UInt64)), (.double (4607182418800017408 : UInt64)), (.double (FP.dadd ts (FP.dmul (4605831338911806259 : UInt64) (FP.dadd i ds))))])) _
    refine XS.dloadN X23.here hx rfl (hb hby d3_9) rfl ?_
    show Steps p.tables e below (T23.setTop (mkF m 10 #[.val (.ref a), .val (.double i), .second, .val (.double w), .second] [(.double w), (.double (4605831338911806259 : UInt64)), (.double (4607182418800017408 : UInt64)), (.double (FP.dadd ts (FP.dmul (4605831338911806259 : UInt64) (FP.dadd i ds))))])) _
    refine XS.dmulS X23.here hx rfl (hb hby d3_10) rfl hd4 rfl ?_
    show Steps p.tables e below (T23.setTop (mkF m 11 #[.val (.ref a), .val (.double i), .second, .val (.double w), .second] [(.double (FP.dmul (4605831338911806259 : UInt64) w)), (.double (4607182418800017408 : UInt64)), (.double (FP.dadd ts (FP.dmul (4605831338911806259 : UInt64) (FP.dadd i ds))))])) _
    refine XS.dsubS X23.here hx rfl (hb hby d3_11) rfl hd5 rfl ?_
    show Steps p.tables e below (T23.setTop (mkF m 12 #[.val (.ref a), .val (.double i), .second, .val (.double w), .second] [(.double (FP.dsub (4607182418800017408 : UInt64) (FP.dmul (4605831338911806259 : UInt64) w))), (.double (FP.dadd ts (FP.dmul (4605831338911806259 : UInt64) (FP.dadd i ds))))])) _
    refine XS.ddivS X23.here hx rfl (hb hby d3_12) rfl hd6 rfl ?_
    show Steps p.tables e below (T23.setTop (mkF m 13 #[.val (.ref a), .val (.double i), .second, .val (.double w), .second] [(.double (FP.ddiv (FP.dadd ts (FP.dmul (4605831338911806259 : UInt64) (FP.dadd i ds))) (FP.dsub (4607182418800017408 : UInt64) (FP.dmul (4605831338911806259 : UInt64) w))))])) _
    exact kt)
  obtain ⟨fs, hr, hrun, hended, hW, hsame⟩ := X23.leave (v := some (.double (FP.ddiv (FP.dadd ts (FP.dmul (4605831338911806259 : UInt64) (FP.dadd i ds))) (FP.dsub (4607182418800017408 : UInt64) (FP.dmul (4605831338911806259 : UInt64) w))))) (fun h => by first | rfl | (rw [Bd.returns] at h; cases h))
  refine ⟨_, _, S25 _ ?_, hrun, hended, _, _, rfl, ?_, ⟨_, rfl⟩, hW, hsame.mono (by decide) (by decide)⟩
  · jvm_step X23.here [X23.here.top, hx, (hb hby d3_13), X23.method', Bd.returns, narrow]
    first | (intro acts; rw [hr _ acts rfl rfl rfl]) | rw [hr _ _ rfl rfl rfl]
    exact Steps.refl _
  · show Q_own Z a i w ts ds h0 n0 _ T23.heap _
    rw [e23]
    exact ⟨rfl, N23, rfl⟩
theorem ef_law (m : MethodId) (x0 : Int64) (x1 : Int32) (x2 : Int32) (x3 : Int32) : entryFrame m #[(.long x0), (.int x1), (.int x2), (.int x3)] maxLocals = mkF m 0 #[.val (.long x0), .second, .val (.int x1), .val (.int x2), .val (.int x3), .unset, .unset, .unset, .unset, .unset, .unset, .unset, .unset, .unset, .unset, .unset, .unset, .unset, .unset, .unset, .unset, .unset, .unset, .unset, .unset, .unset, .unset, .unset] [] := by first | (simp [entryFrame, mkF, argsToLocals, Value.category, maxLocals]; done) | rfl
theorem pn_law : plainName "com/example/umbel/umbel/rank/RankEquationRankTakingOwnSharePinLaw" = true := by first | (simp [plainName, overriddenIn]; done) | decide +kernel
def Q_law (Z : State) (pg : Int64) (dg : Int32) (ib : Int32) (wt : Int32) (h0 : Heap) (n0 : Nat) (v : Option Value) (h : Heap) (L : List Loc) : Prop := v = some (.int 1) ∧ Fr n0 L
set_option maxRecDepth 65536 in
set_option maxHeartbeats 40000000 in
theorem rm_law (l : Launch) (Z : State) (a0 : Array Value) (hw : ∀ d ∈ tables_1, d.before a0 Z = true) (ws : List Jvm.Cond) (pg : Int64) (dg : Int32) (ib : Int32) (wt : Int32) (h0 : Heap) (n0 : Nat) (Z0 : n0 ≤ h0.size)  :
    MetFree l x (head1 (Jvm.Cond.code x code maxLocals ret :: ws) room_1) (fun aa U => aa = #[(.long pg), (.int dg), (.int ib), (.int wt)] ∧ Z.Warmed39 U.vm ∧ U.heap = h0) (fun _ _ _ _ _ => True) (fun _ U o U' => ∃ v L, o = .returned v ∧ Q_law Z pg dg ib wt h0 n0 v U'.heap L ∧ FrameEnd U o U' L 1 2) := by
  refine MetFree.of_bodySF (plainFor_of_name pn_law) hisR ?_
  intro p e s m args below meth c s₁ Bd hml0 hP hK
  obtain ⟨rfl, hZ, hh⟩ := hP
  have hx := Bd.exec
  have hby := Bd.bytes
  have hml : c.maxLocals = 28 := hml0
  have hown : s.vm.findClass "com/example/umbel/umbel/rank/RankEquationRankTakingOwnSharePinLaw" = some m.cls := findClass_of_methodNamed Bd.named
  have hnm := (name_of_methodNamed Bd.named Bd.method).1
  have X0 : Stand p l e room_1 s m #[(.long pg), (.int dg), (.int ib), (.int wt)] below meth c s₁ [] 0 0 := Stand.of_body Bd
  have e0 : s₁.heap = h0 := by rw [← hh, Bd.state]; rfl
  have N0 := Fr.nil n0
  have S0 : Go p e below s₁ (entryFrame m #[(.long pg), (.int dg), (.int ib), (.int wt)] maxLocals) s₁ (mkF m 0 #[.val (.long pg), .second, .val (.int dg), .val (.int ib), .val (.int wt), .unset, .unset, .unset, .unset, .unset, .unset, .unset, .unset, .unset, .unset, .unset, .unset, .unset, .unset, .unset, .unset, .unset, .unset, .unset, .unset, .unset, .unset, .unset] []) := fun t k => castTop (ef_law m pg dg ib wt) k
  obtain ⟨NN, hN1, hN2, hN⟩ := own_n pg
  obtain ⟨qd, hqd, zqd⟩ := own_dv dg
  obtain ⟨qi, hqi, zqi⟩ := own_dv ib
  obtain ⟨kk, hkk, ekk⟩ := own_k wt
  obtain ⟨dm, vd, evd, den1, den2, den3, den4, den5, den6, den7, den8, den9⟩ := own_den kk hkk
  have S26 : Go p e below s₁ (entryFrame m #[(.long pg), (.int dg), (.int ib), (.int wt)] maxLocals) s₁ (mkF m 7 #[.val (.long pg), .second, .val (.int dg), .val (.int ib), .val (.int wt), .unset, .unset, .unset, .unset, .unset, .unset, .unset, .unset, .unset, .unset, .unset, .unset, .unset, .unset, .unset, .unset, .unset, .unset, .unset, .unset, .unset, .unset, .unset] [(.long ((pg &&& (65535 : Int64)) + (1 : Int64)))]) := fun t kt => S0 t (by
    refine XS.lloadN X0.here hx rfl (hb hby at_0) rfl ?_
    show Steps p.tables e below (s₁.setTop (mkF m 1 #[.val (.long pg), .second, .val (.int dg), .val (.int ib), .val (.int wt), .unset, .unset, .unset, .unset, .unset, .unset, .unset, .unset, .unset, .unset, .unset, .unset, .unset, .unset, .unset, .unset, .unset, .unset, .unset, .unset, .unset, .unset, .unset] [(.long pg)])) _
    refine X0.ldc2Long hx hown (mvT hZ (hw _ (List.mem_of_getElem? (i := 0) rfl))) (g := (mkF m 1 #[.val (.long pg), .second, .val (.int dg), .val (.int ib), .val (.int wt), .unset, .unset, .unset, .unset, .unset, .unset, .unset, .unset, .unset, .unset, .unset, .unset, .unset, .unset, .unset, .unset, .unset, .unset, .unset, .unset, .unset, .unset, .unset] [(.long pg)])) rfl (hb hby at_1) _ ?_
    show Steps p.tables e below (s₁.setTop (mkF m 4 #[.val (.long pg), .second, .val (.int dg), .val (.int ib), .val (.int wt), .unset, .unset, .unset, .unset, .unset, .unset, .unset, .unset, .unset, .unset, .unset, .unset, .unset, .unset, .unset, .unset, .unset, .unset, .unset, .unset, .unset, .unset, .unset] [(.long (65535 : Int64)), (.long pg)])) _
    refine XS.land X0.here hx rfl (hb hby at_4) rfl ?_
    show Steps p.tables e below (s₁.setTop (mkF m 5 #[.val (.long pg), .second, .val (.int dg), .val (.int ib), .val (.int wt), .unset, .unset, .unset, .unset, .unset, .unset, .unset, .unset, .unset, .unset, .unset, .unset, .unset, .unset, .unset, .unset, .unset, .unset, .unset, .unset, .unset, .unset, .unset] [(.long (pg &&& (65535 : Int64)))])) _
    refine XS.lconst X0.here hx rfl (hb hby at_5) ?_
    show Steps p.tables e below (s₁.setTop (mkF m 6 #[.val (.long pg), .second, .val (.int dg), .val (.int ib), .val (.int wt), .unset, .unset, .unset, .unset, .unset, .unset, .unset, .unset, .unset, .unset, .unset, .unset, .unset, .unset, .unset, .unset, .unset, .unset, .unset, .unset, .unset, .unset, .unset] [(.long (1 : Int64)), (.long (pg &&& (65535 : Int64)))])) _
    refine XS.ladd X0.here hx rfl (hb hby at_6) rfl ?_
    show Steps p.tables e below (s₁.setTop (mkF m 7 #[.val (.long pg), .second, .val (.int dg), .val (.int ib), .val (.int wt), .unset, .unset, .unset, .unset, .unset, .unset, .unset, .unset, .unset, .unset, .unset, .unset, .unset, .unset, .unset, .unset, .unset, .unset, .unset, .unset, .unset, .unset, .unset] [(.long ((pg &&& (65535 : Int64)) + (1 : Int64)))])) _
    exact kt)
  obtain ⟨n, q_n⟩ : ∃ z : Int64, z = ((pg &&& (65535 : Int64)) + (1 : Int64)) := ⟨_, rfl⟩
  have S27 : Go p e below s₁ (entryFrame m #[(.long pg), (.int dg), (.int ib), (.int wt)] maxLocals) s₁ (mkF m 7 #[.val (.long pg), .second, .val (.int dg), .val (.int ib), .val (.int wt), .unset, .unset, .unset, .unset, .unset, .unset, .unset, .unset, .unset, .unset, .unset, .unset, .unset, .unset, .unset, .unset, .unset, .unset, .unset, .unset, .unset, .unset, .unset] [(.long n)]) := by subst q_n; exact S26
  rw [← q_n] at hN
  have hn : ¬ (lcmpW n (1 : Int64) < (0 : Int32)) := own_ge1 hN hN1
  have S28 : Go p e below s₁ (entryFrame m #[(.long pg), (.int dg), (.int ib), (.int wt)] maxLocals) s₁ (mkF m 39 #[.val (.long pg), .second, .val (.int dg), .val (.int ib), .val (.int wt), .val (.long n), .second, .val (.double (FP.ddiv (FP.i2d (dg &&& (1048575 : Int32))) (4652218415073722368 : UInt64))), .second, .val (.double (FP.ddiv (FP.i2d (ib &&& (1048575 : Int32))) (4652218415073722368 : UInt64))), .second, .unset, .unset, .unset, .unset, .unset, .unset, .unset, .unset, .unset, .unset, .unset, .unset, .unset, .unset, .unset, .unset, .unset] [(.int ((wt &&& (2147483647 : Int32)) % (9 : Int32)))]) := fun t kt => S27 t (by
    refine XS.lstore X0.here hx rfl (hb hby at_7) rfl (l' := #[.val (.long pg), .second, .val (.int dg), .val (.int ib), .val (.int wt), .val (.long n), .second, .unset, .unset, .unset, .unset, .unset, .unset, .unset, .unset, .unset, .unset, .unset, .unset, .unset, .unset, .unset, .unset, .unset, .unset, .unset, .unset, .unset]) rfl ?_
    show Steps p.tables e below (s₁.setTop (mkF m 9 #[.val (.long pg), .second, .val (.int dg), .val (.int ib), .val (.int wt), .val (.long n), .second, .unset, .unset, .unset, .unset, .unset, .unset, .unset, .unset, .unset, .unset, .unset, .unset, .unset, .unset, .unset, .unset, .unset, .unset, .unset, .unset, .unset] [])) _
    refine XS.iloadN X0.here hx rfl (hb hby at_9) rfl ?_
    show Steps p.tables e below (s₁.setTop (mkF m 10 #[.val (.long pg), .second, .val (.int dg), .val (.int ib), .val (.int wt), .val (.long n), .second, .unset, .unset, .unset, .unset, .unset, .unset, .unset, .unset, .unset, .unset, .unset, .unset, .unset, .unset, .unset, .unset, .unset, .unset, .unset, .unset, .unset] [(.int dg)])) _
    refine X0.ldcInt hx hown (mvT hZ (hw _ (List.mem_of_getElem? (i := 1) rfl))) (g := (mkF m 10 #[.val (.long pg), .second, .val (.int dg), .val (.int ib), .val (.int wt), .val (.long n), .second, .unset, .unset, .unset, .unset, .unset, .unset, .unset, .unset, .unset, .unset, .unset, .unset, .unset, .unset, .unset, .unset, .unset, .unset, .unset, .unset, .unset] [(.int dg)])) rfl (hb hby at_10) _ ?_
    show Steps p.tables e below (s₁.setTop (mkF m 12 #[.val (.long pg), .second, .val (.int dg), .val (.int ib), .val (.int wt), .val (.long n), .second, .unset, .unset, .unset, .unset, .unset, .unset, .unset, .unset, .unset, .unset, .unset, .unset, .unset, .unset, .unset, .unset, .unset, .unset, .unset, .unset, .unset] [(.int (1048575 : Int32)), (.int dg)])) _
    refine XS.iand X0.here hx rfl (hb hby at_12) rfl ?_
    show Steps p.tables e below (s₁.setTop (mkF m 13 #[.val (.long pg), .second, .val (.int dg), .val (.int ib), .val (.int wt), .val (.long n), .second, .unset, .unset, .unset, .unset, .unset, .unset, .unset, .unset, .unset, .unset, .unset, .unset, .unset, .unset, .unset, .unset, .unset, .unset, .unset, .unset, .unset] [(.int (dg &&& (1048575 : Int32)))])) _
    refine XS.i2dS X0.here hx rfl (hb hby at_13) rfl rfl ?_
    show Steps p.tables e below (s₁.setTop (mkF m 14 #[.val (.long pg), .second, .val (.int dg), .val (.int ib), .val (.int wt), .val (.long n), .second, .unset, .unset, .unset, .unset, .unset, .unset, .unset, .unset, .unset, .unset, .unset, .unset, .unset, .unset, .unset, .unset, .unset, .unset, .unset, .unset, .unset] [(.double (FP.i2d (dg &&& (1048575 : Int32))))])) _
    refine X0.ldc2DoubleC hx hown (mvT hZ (hw _ (List.mem_of_getElem? (i := 2) rfl))) (g := (mkF m 14 #[.val (.long pg), .second, .val (.int dg), .val (.int ib), .val (.int wt), .val (.long n), .second, .unset, .unset, .unset, .unset, .unset, .unset, .unset, .unset, .unset, .unset, .unset, .unset, .unset, .unset, .unset, .unset, .unset, .unset, .unset, .unset, .unset] [(.double (FP.i2d (dg &&& (1048575 : Int32))))])) rfl (hb hby at_14) _ ?_
    show Steps p.tables e below (s₁.setTop (mkF m 17 #[.val (.long pg), .second, .val (.int dg), .val (.int ib), .val (.int wt), .val (.long n), .second, .unset, .unset, .unset, .unset, .unset, .unset, .unset, .unset, .unset, .unset, .unset, .unset, .unset, .unset, .unset, .unset, .unset, .unset, .unset, .unset, .unset] [(.double (4652218415073722368 : UInt64)), (.double (FP.i2d (dg &&& (1048575 : Int32))))])) _
    refine XS.ddivS X0.here hx rfl (hb hby at_17) rfl zqd.noNaN rfl ?_
    show Steps p.tables e below (s₁.setTop (mkF m 18 #[.val (.long pg), .second, .val (.int dg), .val (.int ib), .val (.int wt), .val (.long n), .second, .unset, .unset, .unset, .unset, .unset, .unset, .unset, .unset, .unset, .unset, .unset, .unset, .unset, .unset, .unset, .unset, .unset, .unset, .unset, .unset, .unset] [(.double (FP.ddiv (FP.i2d (dg &&& (1048575 : Int32))) (4652218415073722368 : UInt64)))])) _
    refine XS.dstore X0.here hx rfl (hb hby at_18) rfl (l' := #[.val (.long pg), .second, .val (.int dg), .val (.int ib), .val (.int wt), .val (.long n), .second, .val (.double (FP.ddiv (FP.i2d (dg &&& (1048575 : Int32))) (4652218415073722368 : UInt64))), .second, .unset, .unset, .unset, .unset, .unset, .unset, .unset, .unset, .unset, .unset, .unset, .unset, .unset, .unset, .unset, .unset, .unset, .unset, .unset]) rfl ?_
    show Steps p.tables e below (s₁.setTop (mkF m 20 #[.val (.long pg), .second, .val (.int dg), .val (.int ib), .val (.int wt), .val (.long n), .second, .val (.double (FP.ddiv (FP.i2d (dg &&& (1048575 : Int32))) (4652218415073722368 : UInt64))), .second, .unset, .unset, .unset, .unset, .unset, .unset, .unset, .unset, .unset, .unset, .unset, .unset, .unset, .unset, .unset, .unset, .unset, .unset, .unset] [])) _
    refine XS.iloadN X0.here hx rfl (hb hby at_20) rfl ?_
    show Steps p.tables e below (s₁.setTop (mkF m 21 #[.val (.long pg), .second, .val (.int dg), .val (.int ib), .val (.int wt), .val (.long n), .second, .val (.double (FP.ddiv (FP.i2d (dg &&& (1048575 : Int32))) (4652218415073722368 : UInt64))), .second, .unset, .unset, .unset, .unset, .unset, .unset, .unset, .unset, .unset, .unset, .unset, .unset, .unset, .unset, .unset, .unset, .unset, .unset, .unset] [(.int ib)])) _
    refine X0.ldcInt hx hown (mvT hZ (hw _ (List.mem_of_getElem? (i := 1) rfl))) (g := (mkF m 21 #[.val (.long pg), .second, .val (.int dg), .val (.int ib), .val (.int wt), .val (.long n), .second, .val (.double (FP.ddiv (FP.i2d (dg &&& (1048575 : Int32))) (4652218415073722368 : UInt64))), .second, .unset, .unset, .unset, .unset, .unset, .unset, .unset, .unset, .unset, .unset, .unset, .unset, .unset, .unset, .unset, .unset, .unset, .unset, .unset] [(.int ib)])) rfl (hb hby at_21) _ ?_
    show Steps p.tables e below (s₁.setTop (mkF m 23 #[.val (.long pg), .second, .val (.int dg), .val (.int ib), .val (.int wt), .val (.long n), .second, .val (.double (FP.ddiv (FP.i2d (dg &&& (1048575 : Int32))) (4652218415073722368 : UInt64))), .second, .unset, .unset, .unset, .unset, .unset, .unset, .unset, .unset, .unset, .unset, .unset, .unset, .unset, .unset, .unset, .unset, .unset, .unset, .unset] [(.int (1048575 : Int32)), (.int ib)])) _
    refine XS.iand X0.here hx rfl (hb hby at_23) rfl ?_
    show Steps p.tables e below (s₁.setTop (mkF m 24 #[.val (.long pg), .second, .val (.int dg), .val (.int ib), .val (.int wt), .val (.long n), .second, .val (.double (FP.ddiv (FP.i2d (dg &&& (1048575 : Int32))) (4652218415073722368 : UInt64))), .second, .unset, .unset, .unset, .unset, .unset, .unset, .unset, .unset, .unset, .unset, .unset, .unset, .unset, .unset, .unset, .unset, .unset, .unset, .unset] [(.int (ib &&& (1048575 : Int32)))])) _
    refine XS.i2dS X0.here hx rfl (hb hby at_24) rfl rfl ?_
    show Steps p.tables e below (s₁.setTop (mkF m 25 #[.val (.long pg), .second, .val (.int dg), .val (.int ib), .val (.int wt), .val (.long n), .second, .val (.double (FP.ddiv (FP.i2d (dg &&& (1048575 : Int32))) (4652218415073722368 : UInt64))), .second, .unset, .unset, .unset, .unset, .unset, .unset, .unset, .unset, .unset, .unset, .unset, .unset, .unset, .unset, .unset, .unset, .unset, .unset, .unset] [(.double (FP.i2d (ib &&& (1048575 : Int32))))])) _
    refine X0.ldc2DoubleC hx hown (mvT hZ (hw _ (List.mem_of_getElem? (i := 2) rfl))) (g := (mkF m 25 #[.val (.long pg), .second, .val (.int dg), .val (.int ib), .val (.int wt), .val (.long n), .second, .val (.double (FP.ddiv (FP.i2d (dg &&& (1048575 : Int32))) (4652218415073722368 : UInt64))), .second, .unset, .unset, .unset, .unset, .unset, .unset, .unset, .unset, .unset, .unset, .unset, .unset, .unset, .unset, .unset, .unset, .unset, .unset, .unset] [(.double (FP.i2d (ib &&& (1048575 : Int32))))])) rfl (hb hby at_25) _ ?_
    show Steps p.tables e below (s₁.setTop (mkF m 28 #[.val (.long pg), .second, .val (.int dg), .val (.int ib), .val (.int wt), .val (.long n), .second, .val (.double (FP.ddiv (FP.i2d (dg &&& (1048575 : Int32))) (4652218415073722368 : UInt64))), .second, .unset, .unset, .unset, .unset, .unset, .unset, .unset, .unset, .unset, .unset, .unset, .unset, .unset, .unset, .unset, .unset, .unset, .unset, .unset] [(.double (4652218415073722368 : UInt64)), (.double (FP.i2d (ib &&& (1048575 : Int32))))])) _
    refine XS.ddivS X0.here hx rfl (hb hby at_28) rfl zqi.noNaN rfl ?_
    show Steps p.tables e below (s₁.setTop (mkF m 29 #[.val (.long pg), .second, .val (.int dg), .val (.int ib), .val (.int wt), .val (.long n), .second, .val (.double (FP.ddiv (FP.i2d (dg &&& (1048575 : Int32))) (4652218415073722368 : UInt64))), .second, .unset, .unset, .unset, .unset, .unset, .unset, .unset, .unset, .unset, .unset, .unset, .unset, .unset, .unset, .unset, .unset, .unset, .unset, .unset] [(.double (FP.ddiv (FP.i2d (ib &&& (1048575 : Int32))) (4652218415073722368 : UInt64)))])) _
    refine XS.dstore X0.here hx rfl (hb hby at_29) rfl (l' := #[.val (.long pg), .second, .val (.int dg), .val (.int ib), .val (.int wt), .val (.long n), .second, .val (.double (FP.ddiv (FP.i2d (dg &&& (1048575 : Int32))) (4652218415073722368 : UInt64))), .second, .val (.double (FP.ddiv (FP.i2d (ib &&& (1048575 : Int32))) (4652218415073722368 : UInt64))), .second, .unset, .unset, .unset, .unset, .unset, .unset, .unset, .unset, .unset, .unset, .unset, .unset, .unset, .unset, .unset, .unset, .unset]) rfl ?_
    show Steps p.tables e below (s₁.setTop (mkF m 31 #[.val (.long pg), .second, .val (.int dg), .val (.int ib), .val (.int wt), .val (.long n), .second, .val (.double (FP.ddiv (FP.i2d (dg &&& (1048575 : Int32))) (4652218415073722368 : UInt64))), .second, .val (.double (FP.ddiv (FP.i2d (ib &&& (1048575 : Int32))) (4652218415073722368 : UInt64))), .second, .unset, .unset, .unset, .unset, .unset, .unset, .unset, .unset, .unset, .unset, .unset, .unset, .unset, .unset, .unset, .unset, .unset] [])) _
    refine XS.iload X0.here hx rfl (hb hby at_31) rfl ?_
    show Steps p.tables e below (s₁.setTop (mkF m 33 #[.val (.long pg), .second, .val (.int dg), .val (.int ib), .val (.int wt), .val (.long n), .second, .val (.double (FP.ddiv (FP.i2d (dg &&& (1048575 : Int32))) (4652218415073722368 : UInt64))), .second, .val (.double (FP.ddiv (FP.i2d (ib &&& (1048575 : Int32))) (4652218415073722368 : UInt64))), .second, .unset, .unset, .unset, .unset, .unset, .unset, .unset, .unset, .unset, .unset, .unset, .unset, .unset, .unset, .unset, .unset, .unset] [(.int wt)])) _
    refine X0.ldcInt hx hown (mvT hZ (hw _ (List.mem_of_getElem? (i := 3) rfl))) (g := (mkF m 33 #[.val (.long pg), .second, .val (.int dg), .val (.int ib), .val (.int wt), .val (.long n), .second, .val (.double (FP.ddiv (FP.i2d (dg &&& (1048575 : Int32))) (4652218415073722368 : UInt64))), .second, .val (.double (FP.ddiv (FP.i2d (ib &&& (1048575 : Int32))) (4652218415073722368 : UInt64))), .second, .unset, .unset, .unset, .unset, .unset, .unset, .unset, .unset, .unset, .unset, .unset, .unset, .unset, .unset, .unset, .unset, .unset] [(.int wt)])) rfl (hb hby at_33) _ ?_
    show Steps p.tables e below (s₁.setTop (mkF m 35 #[.val (.long pg), .second, .val (.int dg), .val (.int ib), .val (.int wt), .val (.long n), .second, .val (.double (FP.ddiv (FP.i2d (dg &&& (1048575 : Int32))) (4652218415073722368 : UInt64))), .second, .val (.double (FP.ddiv (FP.i2d (ib &&& (1048575 : Int32))) (4652218415073722368 : UInt64))), .second, .unset, .unset, .unset, .unset, .unset, .unset, .unset, .unset, .unset, .unset, .unset, .unset, .unset, .unset, .unset, .unset, .unset] [(.int (2147483647 : Int32)), (.int wt)])) _
    refine XS.iand X0.here hx rfl (hb hby at_35) rfl ?_
    show Steps p.tables e below (s₁.setTop (mkF m 36 #[.val (.long pg), .second, .val (.int dg), .val (.int ib), .val (.int wt), .val (.long n), .second, .val (.double (FP.ddiv (FP.i2d (dg &&& (1048575 : Int32))) (4652218415073722368 : UInt64))), .second, .val (.double (FP.ddiv (FP.i2d (ib &&& (1048575 : Int32))) (4652218415073722368 : UInt64))), .second, .unset, .unset, .unset, .unset, .unset, .unset, .unset, .unset, .unset, .unset, .unset, .unset, .unset, .unset, .unset, .unset, .unset] [(.int (wt &&& (2147483647 : Int32)))])) _
    refine XS.bipush X0.here hx rfl (hb hby at_36) ?_
    show Steps p.tables e below (s₁.setTop (mkF m 38 #[.val (.long pg), .second, .val (.int dg), .val (.int ib), .val (.int wt), .val (.long n), .second, .val (.double (FP.ddiv (FP.i2d (dg &&& (1048575 : Int32))) (4652218415073722368 : UInt64))), .second, .val (.double (FP.ddiv (FP.i2d (ib &&& (1048575 : Int32))) (4652218415073722368 : UInt64))), .second, .unset, .unset, .unset, .unset, .unset, .unset, .unset, .unset, .unset, .unset, .unset, .unset, .unset, .unset, .unset, .unset, .unset] [(.int (9 : Int32)), (.int (wt &&& (2147483647 : Int32)))])) _
    refine iremM X0 hx rfl (hb hby at_38) rfl (by decide) ?_
    show Steps p.tables e below (s₁.setTop (mkF m 39 #[.val (.long pg), .second, .val (.int dg), .val (.int ib), .val (.int wt), .val (.long n), .second, .val (.double (FP.ddiv (FP.i2d (dg &&& (1048575 : Int32))) (4652218415073722368 : UInt64))), .second, .val (.double (FP.ddiv (FP.i2d (ib &&& (1048575 : Int32))) (4652218415073722368 : UInt64))), .second, .unset, .unset, .unset, .unset, .unset, .unset, .unset, .unset, .unset, .unset, .unset, .unset, .unset, .unset, .unset, .unset, .unset] [(.int ((wt &&& (2147483647 : Int32)) % (9 : Int32)))])) _
    exact kt)
  obtain ⟨k, q_k⟩ : ∃ z : Int32, z = ((wt &&& (2147483647 : Int32)) % (9 : Int32)) := ⟨_, rfl⟩
  have S29 : Go p e below s₁ (entryFrame m #[(.long pg), (.int dg), (.int ib), (.int wt)] maxLocals) s₁ (mkF m 39 #[.val (.long pg), .second, .val (.int dg), .val (.int ib), .val (.int wt), .val (.long n), .second, .val (.double (FP.ddiv (FP.i2d (dg &&& (1048575 : Int32))) (4652218415073722368 : UInt64))), .second, .val (.double (FP.ddiv (FP.i2d (ib &&& (1048575 : Int32))) (4652218415073722368 : UInt64))), .second, .unset, .unset, .unset, .unset, .unset, .unset, .unset, .unset, .unset, .unset, .unset, .unset, .unset, .unset, .unset, .unset, .unset] [(.int k)]) := by subst q_k; exact S28
  rw [← q_k] at ekk
  have S30 : Go p e below s₁ (entryFrame m #[(.long pg), (.int dg), (.int ib), (.int wt)] maxLocals) s₁ (mkF m 50 #[.val (.long pg), .second, .val (.int dg), .val (.int ib), .val (.int wt), .val (.long n), .second, .val (.double (FP.ddiv (FP.i2d (dg &&& (1048575 : Int32))) (4652218415073722368 : UInt64))), .second, .val (.double (FP.ddiv (FP.i2d (ib &&& (1048575 : Int32))) (4652218415073722368 : UInt64))), .second, .val (.int k), .val (.double (FP.ddiv (FP.i2d k) (4620693217682128896 : UInt64))), .second, .unset, .unset, .unset, .unset, .unset, .unset, .unset, .unset, .unset, .unset, .unset, .unset, .unset, .unset] []) := fun t kt => S29 t (by
    refine XS.istore X0.here hx rfl (hb hby at_39) rfl (l' := #[.val (.long pg), .second, .val (.int dg), .val (.int ib), .val (.int wt), .val (.long n), .second, .val (.double (FP.ddiv (FP.i2d (dg &&& (1048575 : Int32))) (4652218415073722368 : UInt64))), .second, .val (.double (FP.ddiv (FP.i2d (ib &&& (1048575 : Int32))) (4652218415073722368 : UInt64))), .second, .val (.int k), .unset, .unset, .unset, .unset, .unset, .unset, .unset, .unset, .unset, .unset, .unset, .unset, .unset, .unset, .unset, .unset]) rfl ?_
    show Steps p.tables e below (s₁.setTop (mkF m 41 #[.val (.long pg), .second, .val (.int dg), .val (.int ib), .val (.int wt), .val (.long n), .second, .val (.double (FP.ddiv (FP.i2d (dg &&& (1048575 : Int32))) (4652218415073722368 : UInt64))), .second, .val (.double (FP.ddiv (FP.i2d (ib &&& (1048575 : Int32))) (4652218415073722368 : UInt64))), .second, .val (.int k), .unset, .unset, .unset, .unset, .unset, .unset, .unset, .unset, .unset, .unset, .unset, .unset, .unset, .unset, .unset, .unset] [])) _
    refine XS.iload X0.here hx rfl (hb hby at_41) rfl ?_
    show Steps p.tables e below (s₁.setTop (mkF m 43 #[.val (.long pg), .second, .val (.int dg), .val (.int ib), .val (.int wt), .val (.long n), .second, .val (.double (FP.ddiv (FP.i2d (dg &&& (1048575 : Int32))) (4652218415073722368 : UInt64))), .second, .val (.double (FP.ddiv (FP.i2d (ib &&& (1048575 : Int32))) (4652218415073722368 : UInt64))), .second, .val (.int k), .unset, .unset, .unset, .unset, .unset, .unset, .unset, .unset, .unset, .unset, .unset, .unset, .unset, .unset, .unset, .unset] [(.int k)])) _
    refine XS.i2dS X0.here hx rfl (hb hby at_43) rfl rfl ?_
    show Steps p.tables e below (s₁.setTop (mkF m 44 #[.val (.long pg), .second, .val (.int dg), .val (.int ib), .val (.int wt), .val (.long n), .second, .val (.double (FP.ddiv (FP.i2d (dg &&& (1048575 : Int32))) (4652218415073722368 : UInt64))), .second, .val (.double (FP.ddiv (FP.i2d (ib &&& (1048575 : Int32))) (4652218415073722368 : UInt64))), .second, .val (.int k), .unset, .unset, .unset, .unset, .unset, .unset, .unset, .unset, .unset, .unset, .unset, .unset, .unset, .unset, .unset, .unset] [(.double (FP.i2d k))])) _
    refine X0.ldc2DoubleC hx hown (mvT hZ (hw _ (List.mem_of_getElem? (i := 4) rfl))) (g := (mkF m 44 #[.val (.long pg), .second, .val (.int dg), .val (.int ib), .val (.int wt), .val (.long n), .second, .val (.double (FP.ddiv (FP.i2d (dg &&& (1048575 : Int32))) (4652218415073722368 : UInt64))), .second, .val (.double (FP.ddiv (FP.i2d (ib &&& (1048575 : Int32))) (4652218415073722368 : UInt64))), .second, .val (.int k), .unset, .unset, .unset, .unset, .unset, .unset, .unset, .unset, .unset, .unset, .unset, .unset, .unset, .unset, .unset, .unset] [(.double (FP.i2d k))])) rfl (hb hby at_44) _ ?_
    show Steps p.tables e below (s₁.setTop (mkF m 47 #[.val (.long pg), .second, .val (.int dg), .val (.int ib), .val (.int wt), .val (.long n), .second, .val (.double (FP.ddiv (FP.i2d (dg &&& (1048575 : Int32))) (4652218415073722368 : UInt64))), .second, .val (.double (FP.ddiv (FP.i2d (ib &&& (1048575 : Int32))) (4652218415073722368 : UInt64))), .second, .val (.int k), .unset, .unset, .unset, .unset, .unset, .unset, .unset, .unset, .unset, .unset, .unset, .unset, .unset, .unset, .unset, .unset] [(.double (4620693217682128896 : UInt64)), (.double (FP.i2d k))])) _
    refine XS.ddivS X0.here hx rfl (hb hby at_47) rfl (by rw [ekk]; exact den9.noNaN) rfl ?_
    show Steps p.tables e below (s₁.setTop (mkF m 48 #[.val (.long pg), .second, .val (.int dg), .val (.int ib), .val (.int wt), .val (.long n), .second, .val (.double (FP.ddiv (FP.i2d (dg &&& (1048575 : Int32))) (4652218415073722368 : UInt64))), .second, .val (.double (FP.ddiv (FP.i2d (ib &&& (1048575 : Int32))) (4652218415073722368 : UInt64))), .second, .val (.int k), .unset, .unset, .unset, .unset, .unset, .unset, .unset, .unset, .unset, .unset, .unset, .unset, .unset, .unset, .unset, .unset] [(.double (FP.ddiv (FP.i2d k) (4620693217682128896 : UInt64)))])) _
    refine XS.dstore X0.here hx rfl (hb hby at_48) rfl (l' := #[.val (.long pg), .second, .val (.int dg), .val (.int ib), .val (.int wt), .val (.long n), .second, .val (.double (FP.ddiv (FP.i2d (dg &&& (1048575 : Int32))) (4652218415073722368 : UInt64))), .second, .val (.double (FP.ddiv (FP.i2d (ib &&& (1048575 : Int32))) (4652218415073722368 : UInt64))), .second, .val (.int k), .val (.double (FP.ddiv (FP.i2d k) (4620693217682128896 : UInt64))), .second, .unset, .unset, .unset, .unset, .unset, .unset, .unset, .unset, .unset, .unset, .unset, .unset, .unset, .unset]) rfl ?_
    show Steps p.tables e below (s₁.setTop (mkF m 50 #[.val (.long pg), .second, .val (.int dg), .val (.int ib), .val (.int wt), .val (.long n), .second, .val (.double (FP.ddiv (FP.i2d (dg &&& (1048575 : Int32))) (4652218415073722368 : UInt64))), .second, .val (.double (FP.ddiv (FP.i2d (ib &&& (1048575 : Int32))) (4652218415073722368 : UInt64))), .second, .val (.int k), .val (.double (FP.ddiv (FP.i2d k) (4620693217682128896 : UInt64))), .second, .unset, .unset, .unset, .unset, .unset, .unset, .unset, .unset, .unset, .unset, .unset, .unset, .unset, .unset] [])) _
    exact kt)
  obtain ⟨d, q_d⟩ : ∃ z : UInt64, z = (FP.ddiv (FP.i2d (dg &&& (1048575 : Int32))) (4652218415073722368 : UInt64)) := ⟨_, rfl⟩
  have S31 : Go p e below s₁ (entryFrame m #[(.long pg), (.int dg), (.int ib), (.int wt)] maxLocals) s₁ (mkF m 50 #[.val (.long pg), .second, .val (.int dg), .val (.int ib), .val (.int wt), .val (.long n), .second, .val (.double d), .second, .val (.double (FP.ddiv (FP.i2d (ib &&& (1048575 : Int32))) (4652218415073722368 : UInt64))), .second, .val (.int k), .val (.double (FP.ddiv (FP.i2d k) (4620693217682128896 : UInt64))), .second, .unset, .unset, .unset, .unset, .unset, .unset, .unset, .unset, .unset, .unset, .unset, .unset, .unset, .unset] []) := by subst q_d; exact S30
  obtain ⟨iv, q_iv⟩ : ∃ z : UInt64, z = (FP.ddiv (FP.i2d (ib &&& (1048575 : Int32))) (4652218415073722368 : UInt64)) := ⟨_, rfl⟩
  have S32 : Go p e below s₁ (entryFrame m #[(.long pg), (.int dg), (.int ib), (.int wt)] maxLocals) s₁ (mkF m 50 #[.val (.long pg), .second, .val (.int dg), .val (.int ib), .val (.int wt), .val (.long n), .second, .val (.double d), .second, .val (.double iv), .second, .val (.int k), .val (.double (FP.ddiv (FP.i2d k) (4620693217682128896 : UInt64))), .second, .unset, .unset, .unset, .unset, .unset, .unset, .unset, .unset, .unset, .unset, .unset, .unset, .unset, .unset] []) := by subst q_iv; exact S31
  obtain ⟨wv, q_wv⟩ : ∃ z : UInt64, z = (FP.ddiv (FP.i2d k) (4620693217682128896 : UInt64)) := ⟨_, rfl⟩
  have S33 : Go p e below s₁ (entryFrame m #[(.long pg), (.int dg), (.int ib), (.int wt)] maxLocals) s₁ (mkF m 50 #[.val (.long pg), .second, .val (.int dg), .val (.int ib), .val (.int wt), .val (.long n), .second, .val (.double d), .second, .val (.double iv), .second, .val (.int k), .val (.double wv), .second, .unset, .unset, .unset, .unset, .unset, .unset, .unset, .unset, .unset, .unset, .unset, .unset, .unset, .unset] []) := by subst q_wv; exact S32
  rw [← q_d] at zqd
  rw [← q_iv] at zqi
  rw [← ekk, ← q_wv] at evd den1 den9
  obtain ⟨t, zt, t1, t2, t3⟩ := own_tsz hN1 hN2 hN
  obtain ⟨s0, zs, s1, s2, s3⟩ := own_over zqd hN1 hN2 hN (own_lo qd) (own_hi hqd)
  obtain ⟨a1, a2, r0, x0, u0, b1, b2, b3, y0, w0, za1, za2, zr, zx, rest⟩ := own_all zt zs zqi (own_p200 (t1.resolve_left t3)) t2 (s1.imp id own_p200) s2 (own_lo2 qi) (own_hi2 hqi) den9 den3 (by omega) den4 den5 den6 den7
  rw [← evd] at zx rest
  obtain ⟨T34, h34, X34, e34, E34, A34, D34, -, st34⟩ := newO X0 hx hZ hown (hw _ (List.mem_of_getElem? (i := 5) rfl)) (hw _ (List.mem_of_getElem? (i := 6) rfl)) (hw _ (List.mem_of_getElem? (i := 7) rfl)) e0 (g := (mkF m 50 #[.val (.long pg), .second, .val (.int dg), .val (.int ib), .val (.int wt), .val (.long n), .second, .val (.double d), .second, .val (.double iv), .second, .val (.int k), .val (.double wv), .second, .unset, .unset, .unset, .unset, .unset, .unset, .unset, .unset, .unset, .unset, .unset, .unset, .unset, .unset] [])) rfl (hb hby at_50) (by decide) (by decide)
  obtain ⟨o1, g34⟩ : ∃ z, z = h0.size := ⟨_, rfl⟩
  rw [← g34] at A34 D34 st34
  have g_o1 : n0 ≤ o1 := Nat.le_trans Z0 (Nat.le_of_eq g34.symm)
  have F_teleportShare_o1 : Fld Z h34 o1 "com/example/umbel/umbel/rank/RankEquation" "teleportShare" "D" (.double (0 : UInt64)) := D34 (Or.inr (hw _ (List.mem_of_getElem? (i := 16) rfl))) (ty := .double) (by decide)
  have F_danglingShare_o1 : Fld Z h34 o1 "com/example/umbel/umbel/rank/RankEquation" "danglingShare" "D" (.double (0 : UInt64)) := D34 (Or.inr (hw _ (List.mem_of_getElem? (i := 18) rfl))) (ty := .double) (by decide)
  have S35 : Go p e below s₁ (entryFrame m #[(.long pg), (.int dg), (.int ib), (.int wt)] maxLocals) T34 (mkF m 53 #[.val (.long pg), .second, .val (.int dg), .val (.int ib), .val (.int wt), .val (.long n), .second, .val (.double d), .second, .val (.double iv), .second, .val (.int k), .val (.double wv), .second, .unset, .unset, .unset, .unset, .unset, .unset, .unset, .unset, .unset, .unset, .unset, .unset, .unset, .unset] [(.ref o1)]) := fun t kt => S33 t (st34 t kt)
  have S36 : Go p e below s₁ (entryFrame m #[(.long pg), (.int dg), (.int ib), (.int wt)] maxLocals) T34 (mkF m 58 #[.val (.long pg), .second, .val (.int dg), .val (.int ib), .val (.int wt), .val (.long n), .second, .val (.double d), .second, .val (.double iv), .second, .val (.int k), .val (.double wv), .second, .unset, .unset, .unset, .unset, .unset, .unset, .unset, .unset, .unset, .unset, .unset, .unset, .unset, .unset] [(.double d), (.long n), (.ref o1), (.ref o1)]) := fun t kt => S35 t (by
    refine XS.dup X34.here hx rfl (hb hby at_53) rfl rfl ?_
    show Steps p.tables e below (T34.setTop (mkF m 54 #[.val (.long pg), .second, .val (.int dg), .val (.int ib), .val (.int wt), .val (.long n), .second, .val (.double d), .second, .val (.double iv), .second, .val (.int k), .val (.double wv), .second, .unset, .unset, .unset, .unset, .unset, .unset, .unset, .unset, .unset, .unset, .unset, .unset, .unset, .unset] [(.ref o1), (.ref o1)])) _
    refine XS.lload X34.here hx rfl (hb hby at_54) rfl ?_
    show Steps p.tables e below (T34.setTop (mkF m 56 #[.val (.long pg), .second, .val (.int dg), .val (.int ib), .val (.int wt), .val (.long n), .second, .val (.double d), .second, .val (.double iv), .second, .val (.int k), .val (.double wv), .second, .unset, .unset, .unset, .unset, .unset, .unset, .unset, .unset, .unset, .unset, .unset, .unset, .unset, .unset] [(.long n), (.ref o1), (.ref o1)])) _
    refine XS.dload X34.here hx rfl (hb hby at_56) rfl ?_
    show Steps p.tables e below (T34.setTop (mkF m 58 #[.val (.long pg), .second, .val (.int dg), .val (.int ib), .val (.int wt), .val (.long n), .second, .val (.double d), .second, .val (.double iv), .second, .val (.int k), .val (.double wv), .second, .unset, .unset, .unset, .unset, .unset, .unset, .unset, .unset, .unset, .unset, .unset, .unset, .unset, .unset] [(.double d), (.long n), (.ref o1), (.ref o1)])) _
    exact kt)
  obtain ⟨_, _, ⟨T37, L37, k37, n37⟩, -, X37, ⟨Lc37, hQ37, l37, y37, z37⟩, st37⟩ := X34.specialBack hx (y := (⟨"com/example/umbel/umbel/rank/RankEquation", "<init>", "(JD)V"⟩ : MethodName)) rfl hown (mvT hZ (hw _ (List.mem_of_getElem? (i := 8) rfl))) (mvT hZ (hw _ (List.mem_of_getElem? (i := 9) rfl))) (mvT hZ (hw _ (List.mem_of_getElem? (i := 10) rfl))) (by decide) (backOf (W := 1) (rm_init l Z a0 hw [] o1 n d h34 n0 (Nat.le_trans Z0 E34.1) A34 F_teleportShare_o1 F_danglingShare_o1 g_o1 hn zt.noNaN zs.noNaN) hZ (hw _ (List.mem_of_getElem? (i := 10) rfl)) (hw _ (List.mem_of_getElem? (i := 7) rfl)) (by decide) (by decide)) (g := (mkF m 58 #[.val (.long pg), .second, .val (.int dg), .val (.int ib), .val (.int wt), .val (.long n), .second, .val (.double d), .second, .val (.double iv), .second, .val (.int k), .val (.double wv), .second, .unset, .unset, .unset, .unset, .unset, .unset, .unset, .unset, .unset, .unset, .unset, .unset, .unset, .unset] [(.double d), (.long n), (.ref o1), (.ref o1)])) rfl (by rw [hml]; rfl) (Steps.refl _) (a := o1) (argsL := [(.long n), (.double d)]) (rest := [(.ref o1)]) (lenOf pd__JD_V rfl) rfl (by show 2 * 0 + _ ≤ _; exact Nat.le_of_eq rfl) (hb hby at_58) (fun _ _ => ⟨rfl, e34, (by decide : 1 + 0 ≤ _), (by decide : 2 + 0 ≤ _)⟩)
  dsimp only [Pt.U, Pt.locs, Pt.cells, Pt.slots] at X37 l37 y37 z37 st37 hQ37
  subst l37 y37 z37
  obtain ⟨rfl, N37q, K37, Ex37, Ft37, Fd37⟩ := hQ37
  have N37 := Fr.app N0 N37q
  have S38 : Go p e below s₁ (entryFrame m #[(.long pg), (.int dg), (.int ib), (.int wt)] maxLocals) T37 (mkF m 61 #[.val (.long pg), .second, .val (.int dg), .val (.int ib), .val (.int wt), .val (.long n), .second, .val (.double d), .second, .val (.double iv), .second, .val (.int k), .val (.double wv), .second, .unset, .unset, .unset, .unset, .unset, .unset, .unset, .unset, .unset, .unset, .unset, .unset, .unset, .unset] [(.ref o1)]) := fun t kt => S36 t (st37.trans kt)
  have S39 : Go p e below s₁ (entryFrame m #[(.long pg), (.int dg), (.int ib), (.int wt)] maxLocals) T37 (mkF m 69 #[.val (.long pg), .second, .val (.int dg), .val (.int ib), .val (.int wt), .val (.long n), .second, .val (.double d), .second, .val (.double iv), .second, .val (.int k), .val (.double wv), .second, .val (.ref o1), .unset, .unset, .unset, .unset, .unset, .unset, .unset, .unset, .unset, .unset, .unset, .unset, .unset] [(.double wv), (.double iv), (.ref o1)]) := fun t kt => S38 t (by
    refine XS.astore X37.here hx rfl (hb hby at_61) rfl rfl (l' := #[.val (.long pg), .second, .val (.int dg), .val (.int ib), .val (.int wt), .val (.long n), .second, .val (.double d), .second, .val (.double iv), .second, .val (.int k), .val (.double wv), .second, .val (.ref o1), .unset, .unset, .unset, .unset, .unset, .unset, .unset, .unset, .unset, .unset, .unset, .unset, .unset]) rfl ?_
    show Steps p.tables e below (T37.setTop (mkF m 63 #[.val (.long pg), .second, .val (.int dg), .val (.int ib), .val (.int wt), .val (.long n), .second, .val (.double d), .second, .val (.double iv), .second, .val (.int k), .val (.double wv), .second, .val (.ref o1), .unset, .unset, .unset, .unset, .unset, .unset, .unset, .unset, .unset, .unset, .unset, .unset, .unset] [])) _
    refine XS.aload X37.here hx rfl (hb hby at_63) rfl rfl ?_
    show Steps p.tables e below (T37.setTop (mkF m 65 #[.val (.long pg), .second, .val (.int dg), .val (.int ib), .val (.int wt), .val (.long n), .second, .val (.double d), .second, .val (.double iv), .second, .val (.int k), .val (.double wv), .second, .val (.ref o1), .unset, .unset, .unset, .unset, .unset, .unset, .unset, .unset, .unset, .unset, .unset, .unset, .unset] [(.ref o1)])) _
    refine XS.dload X37.here hx rfl (hb hby at_65) rfl ?_
    show Steps p.tables e below (T37.setTop (mkF m 67 #[.val (.long pg), .second, .val (.int dg), .val (.int ib), .val (.int wt), .val (.long n), .second, .val (.double d), .second, .val (.double iv), .second, .val (.int k), .val (.double wv), .second, .val (.ref o1), .unset, .unset, .unset, .unset, .unset, .unset, .unset, .unset, .unset, .unset, .unset, .unset, .unset] [(.double iv), (.ref o1)])) _
    refine XS.dload X37.here hx rfl (hb hby at_67) rfl ?_
    show Steps p.tables e below (T37.setTop (mkF m 69 #[.val (.long pg), .second, .val (.int dg), .val (.int ib), .val (.int wt), .val (.long n), .second, .val (.double d), .second, .val (.double iv), .second, .val (.int k), .val (.double wv), .second, .val (.ref o1), .unset, .unset, .unset, .unset, .unset, .unset, .unset, .unset, .unset, .unset, .unset, .unset, .unset] [(.double wv), (.double iv), (.ref o1)])) _
    exact kt)
  obtain ⟨cq40, kq40, q40a, q40b, q40c⟩ := isOf hZ rfl Ex37
  obtain ⟨_, _, ⟨T40, L40, k40, n40⟩, -, X40, ⟨Lc40, hQ40, l40, y40, z40⟩, st40⟩ := X37.virtualBack hx (y := (⟨"com/example/umbel/umbel/rank/RankEquation", "rankTakingOwnShare", "(DD)D"⟩ : MethodName)) (z := (⟨"com/example/umbel/umbel/rank/RankEquation", "rankTakingOwnShare", "(DD)D"⟩ : MethodName)) hown (mvT hZ (hw _ (List.mem_of_getElem? (i := 19) rfl))) (mvT hZ (hw _ (List.mem_of_getElem? (i := 20) rfl))) (notFace_of_selects (args := #[]) (mvT hZ (hw _ (List.mem_of_getElem? (i := 22) rfl)))) (mvT hZ (hw _ (List.mem_of_getElem? (i := 22) rfl))) (mvT hZ (hw _ (List.mem_of_getElem? (i := 21) rfl))) (by decide) (backOf (W := 0) (rm_own l Z a0 hw [] o1 iv wv (FP.ddiv (4594572339843380019 : UInt64) (FP.l2d n)) (FP.ddiv d (FP.l2d n)) T37.heap n0 (Nat.le_trans (Nat.le_trans Z0 E34.1) K37.1) Ex37 Ft37 Fd37 za1.noNaN za2.noNaN zr.noNaN den1.noNaN (by rw [evd]; exact den3.noNaN) zx.noNaN) hZ (hw _ (List.mem_of_getElem? (i := 23) rfl)) (hw _ (List.mem_of_getElem? (i := 7) rfl)) (by decide) (by decide)) q40a q40c (g := (mkF m 69 #[.val (.long pg), .second, .val (.int dg), .val (.int ib), .val (.int wt), .val (.long n), .second, .val (.double d), .second, .val (.double iv), .second, .val (.int k), .val (.double wv), .second, .val (.ref o1), .unset, .unset, .unset, .unset, .unset, .unset, .unset, .unset, .unset, .unset, .unset, .unset, .unset] [(.double wv), (.double iv), (.ref o1)])) rfl (by rw [hml]; rfl) (Steps.refl _) (argsL := [(.double iv), (.double wv)]) (rest := []) (lenOf pd__DD_D rfl) rfl (by show 2 * 0 + _ ≤ _; exact Nat.le_of_eq rfl) (hb hby at_69) (fun _ _ => ⟨rfl, rfl, (by decide : 1 + 0 ≤ _), (by decide : 2 + 0 ≤ _)⟩)
  dsimp only [Pt.U, Pt.locs, Pt.cells, Pt.slots] at X40 l40 y40 z40 st40 hQ40
  subst l40 y40 z40
  obtain ⟨rfl, N40q, e40⟩ := hQ40
  have N40 := Fr.app N37 N40q
  have S41 : Go p e below s₁ (entryFrame m #[(.long pg), (.int dg), (.int ib), (.int wt)] maxLocals) T40 (mkF m 72 #[.val (.long pg), .second, .val (.int dg), .val (.int ib), .val (.int wt), .val (.long n), .second, .val (.double d), .second, .val (.double iv), .second, .val (.int k), .val (.double wv), .second, .val (.ref o1), .unset, .unset, .unset, .unset, .unset, .unset, .unset, .unset, .unset, .unset, .unset, .unset, .unset] [(.double (FP.ddiv (FP.dadd (FP.ddiv (4594572339843380019 : UInt64) (FP.l2d n)) (FP.dmul (4605831338911806259 : UInt64) (FP.dadd iv (FP.ddiv d (FP.l2d n))))) (FP.dsub (4607182418800017408 : UInt64) (FP.dmul (4605831338911806259 : UInt64) wv))))]) := fun t kt => S39 t (st40.trans kt)
  obtain ⟨vx, q_vx⟩ : ∃ z : UInt64, z = (FP.ddiv (FP.dadd (FP.ddiv (4594572339843380019 : UInt64) (FP.l2d n)) (FP.dmul (4605831338911806259 : UInt64) (FP.dadd iv (FP.ddiv d (FP.l2d n))))) (FP.dsub (4607182418800017408 : UInt64) (FP.dmul (4605831338911806259 : UInt64) wv))) := ⟨_, rfl⟩
  have S42 : Go p e below s₁ (entryFrame m #[(.long pg), (.int dg), (.int ib), (.int wt)] maxLocals) T40 (mkF m 72 #[.val (.long pg), .second, .val (.int dg), .val (.int ib), .val (.int wt), .val (.long n), .second, .val (.double d), .second, .val (.double iv), .second, .val (.int k), .val (.double wv), .second, .val (.ref o1), .unset, .unset, .unset, .unset, .unset, .unset, .unset, .unset, .unset, .unset, .unset, .unset, .unset] [(.double vx)]) := by subst q_vx; exact S41
  obtain ⟨zu, zb1, zb2, zb3, zy, zw, m1, m2, m3, m4, m5⟩ := rest vx q_vx
  rw [← q_vx] at zx
  have S43 : Go p e below s₁ (entryFrame m #[(.long pg), (.int dg), (.int ib), (.int wt)] maxLocals) T40 (mkF m 78 #[.val (.long pg), .second, .val (.int dg), .val (.int ib), .val (.int wt), .val (.long n), .second, .val (.double d), .second, .val (.double iv), .second, .val (.int k), .val (.double wv), .second, .val (.ref o1), .val (.double vx), .second, .unset, .unset, .unset, .unset, .unset, .unset, .unset, .unset, .unset, .unset, .unset] [(.double iv), (.ref o1)]) := fun t kt => S42 t (by
    refine XS.dstore X40.here hx rfl (hb hby at_72) rfl (l' := #[.val (.long pg), .second, .val (.int dg), .val (.int ib), .val (.int wt), .val (.long n), .second, .val (.double d), .second, .val (.double iv), .second, .val (.int k), .val (.double wv), .second, .val (.ref o1), .val (.double vx), .second, .unset, .unset, .unset, .unset, .unset, .unset, .unset, .unset, .unset, .unset, .unset]) rfl ?_
    show Steps p.tables e below (T40.setTop (mkF m 74 #[.val (.long pg), .second, .val (.int dg), .val (.int ib), .val (.int wt), .val (.long n), .second, .val (.double d), .second, .val (.double iv), .second, .val (.int k), .val (.double wv), .second, .val (.ref o1), .val (.double vx), .second, .unset, .unset, .unset, .unset, .unset, .unset, .unset, .unset, .unset, .unset, .unset] [])) _
    refine XS.aload X40.here hx rfl (hb hby at_74) rfl rfl ?_
    show Steps p.tables e below (T40.setTop (mkF m 76 #[.val (.long pg), .second, .val (.int dg), .val (.int ib), .val (.int wt), .val (.long n), .second, .val (.double d), .second, .val (.double iv), .second, .val (.int k), .val (.double wv), .second, .val (.ref o1), .val (.double vx), .second, .unset, .unset, .unset, .unset, .unset, .unset, .unset, .unset, .unset, .unset, .unset] [(.ref o1)])) _
    refine XS.dload X40.here hx rfl (hb hby at_76) rfl ?_
    show Steps p.tables e below (T40.setTop (mkF m 78 #[.val (.long pg), .second, .val (.int dg), .val (.int ib), .val (.int wt), .val (.long n), .second, .val (.double d), .second, .val (.double iv), .second, .val (.int k), .val (.double wv), .second, .val (.ref o1), .val (.double vx), .second, .unset, .unset, .unset, .unset, .unset, .unset, .unset, .unset, .unset, .unset, .unset] [(.double iv), (.ref o1)])) _
    exact kt)
  obtain ⟨cq44, kq44, q44a, q44b, q44c⟩ := isOf hZ e40 Ex37
  obtain ⟨_, _, ⟨T44, L44, k44, n44⟩, -, X44, ⟨Lc44, hQ44, l44, y44, z44⟩, st44⟩ := X40.virtualBack hx (y := (⟨"com/example/umbel/umbel/rank/RankEquation", "rank", "(D)D"⟩ : MethodName)) (z := (⟨"com/example/umbel/umbel/rank/RankEquation", "rank", "(D)D"⟩ : MethodName)) hown (mvT hZ (hw _ (List.mem_of_getElem? (i := 30) rfl))) (mvT hZ (hw _ (List.mem_of_getElem? (i := 25) rfl))) (notFace_of_selects (args := #[]) (mvT hZ (hw _ (List.mem_of_getElem? (i := 27) rfl)))) (mvT hZ (hw _ (List.mem_of_getElem? (i := 27) rfl))) (mvT hZ (hw _ (List.mem_of_getElem? (i := 26) rfl))) (by decide) (backOf (W := 0) (rm_rank l Z a0 hw [] o1 iv (FP.ddiv (4594572339843380019 : UInt64) (FP.l2d n)) (FP.ddiv d (FP.l2d n)) T37.heap n0 (Nat.le_trans (Nat.le_trans Z0 E34.1) K37.1) Ft37 Fd37 za1.noNaN za2.noNaN zr.noNaN) hZ (hw _ (List.mem_of_getElem? (i := 28) rfl)) (hw _ (List.mem_of_getElem? (i := 7) rfl)) (by decide) (by decide)) q44a q44c (g := (mkF m 78 #[.val (.long pg), .second, .val (.int dg), .val (.int ib), .val (.int wt), .val (.long n), .second, .val (.double d), .second, .val (.double iv), .second, .val (.int k), .val (.double wv), .second, .val (.ref o1), .val (.double vx), .second, .unset, .unset, .unset, .unset, .unset, .unset, .unset, .unset, .unset, .unset, .unset] [(.double iv), (.ref o1)])) rfl (by rw [hml]; rfl) (Steps.refl _) (argsL := [(.double iv)]) (rest := []) (lenOf pd__D_D rfl) rfl (by show 2 * 0 + _ ≤ _; exact Nat.le_of_eq rfl) (hb hby at_78) (fun _ _ => ⟨rfl, e40, (by decide : 1 + 0 ≤ _), (by decide : 2 + 0 ≤ _)⟩)
  dsimp only [Pt.U, Pt.locs, Pt.cells, Pt.slots] at X44 l44 y44 z44 st44 hQ44
  subst l44 y44 z44
  obtain ⟨rfl, N44q, e44⟩ := hQ44
  have N44 := Fr.app N40 N44q
  have S45 : Go p e below s₁ (entryFrame m #[(.long pg), (.int dg), (.int ib), (.int wt)] maxLocals) T44 (mkF m 81 #[.val (.long pg), .second, .val (.int dg), .val (.int ib), .val (.int wt), .val (.long n), .second, .val (.double d), .second, .val (.double iv), .second, .val (.int k), .val (.double wv), .second, .val (.ref o1), .val (.double vx), .second, .unset, .unset, .unset, .unset, .unset, .unset, .unset, .unset, .unset, .unset, .unset] [(.double (FP.dadd (FP.ddiv (4594572339843380019 : UInt64) (FP.l2d n)) (FP.dmul (4605831338911806259 : UInt64) (FP.dadd iv (FP.ddiv d (FP.l2d n))))))]) := fun t kt => S43 t (st44.trans kt)
  obtain ⟨vr, q_vr⟩ : ∃ z : UInt64, z = (FP.dadd (FP.ddiv (4594572339843380019 : UInt64) (FP.l2d n)) (FP.dmul (4605831338911806259 : UInt64) (FP.dadd iv (FP.ddiv d (FP.l2d n))))) := ⟨_, rfl⟩
  have S46 : Go p e below s₁ (entryFrame m #[(.long pg), (.int dg), (.int ib), (.int wt)] maxLocals) T44 (mkF m 81 #[.val (.long pg), .second, .val (.int dg), .val (.int ib), .val (.int wt), .val (.long n), .second, .val (.double d), .second, .val (.double iv), .second, .val (.int k), .val (.double wv), .second, .val (.ref o1), .val (.double vx), .second, .unset, .unset, .unset, .unset, .unset, .unset, .unset, .unset, .unset, .unset, .unset] [(.double vr)]) := by subst q_vr; exact S45
  rw [← q_vr] at zr
  have S47 : Go p e below s₁ (entryFrame m #[(.long pg), (.int dg), (.int ib), (.int wt)] maxLocals) T44 (mkF m 93 #[.val (.long pg), .second, .val (.int dg), .val (.int ib), .val (.int wt), .val (.long n), .second, .val (.double d), .second, .val (.double iv), .second, .val (.int k), .val (.double wv), .second, .val (.ref o1), .val (.double vx), .second, .val (.double vr), .second, .unset, .unset, .unset, .unset, .unset, .unset, .unset, .unset, .unset] [(.double (FP.dadd iv (FP.dmul wv vx))), (.ref o1)]) := fun t kt => S46 t (by
    refine XS.dstore X44.here hx rfl (hb hby at_81) rfl (l' := #[.val (.long pg), .second, .val (.int dg), .val (.int ib), .val (.int wt), .val (.long n), .second, .val (.double d), .second, .val (.double iv), .second, .val (.int k), .val (.double wv), .second, .val (.ref o1), .val (.double vx), .second, .val (.double vr), .second, .unset, .unset, .unset, .unset, .unset, .unset, .unset, .unset, .unset]) rfl ?_
    show Steps p.tables e below (T44.setTop (mkF m 83 #[.val (.long pg), .second, .val (.int dg), .val (.int ib), .val (.int wt), .val (.long n), .second, .val (.double d), .second, .val (.double iv), .second, .val (.int k), .val (.double wv), .second, .val (.ref o1), .val (.double vx), .second, .val (.double vr), .second, .unset, .unset, .unset, .unset, .unset, .unset, .unset, .unset, .unset] [])) _
    refine XS.aload X44.here hx rfl (hb hby at_83) rfl rfl ?_
    show Steps p.tables e below (T44.setTop (mkF m 85 #[.val (.long pg), .second, .val (.int dg), .val (.int ib), .val (.int wt), .val (.long n), .second, .val (.double d), .second, .val (.double iv), .second, .val (.int k), .val (.double wv), .second, .val (.ref o1), .val (.double vx), .second, .val (.double vr), .second, .unset, .unset, .unset, .unset, .unset, .unset, .unset, .unset, .unset] [(.ref o1)])) _
    refine XS.dload X44.here hx rfl (hb hby at_85) rfl ?_
    show Steps p.tables e below (T44.setTop (mkF m 87 #[.val (.long pg), .second, .val (.int dg), .val (.int ib), .val (.int wt), .val (.long n), .second, .val (.double d), .second, .val (.double iv), .second, .val (.int k), .val (.double wv), .second, .val (.ref o1), .val (.double vx), .second, .val (.double vr), .second, .unset, .unset, .unset, .unset, .unset, .unset, .unset, .unset, .unset] [(.double iv), (.ref o1)])) _
    refine XS.dload X44.here hx rfl (hb hby at_87) rfl ?_
    show Steps p.tables e below (T44.setTop (mkF m 89 #[.val (.long pg), .second, .val (.int dg), .val (.int ib), .val (.int wt), .val (.long n), .second, .val (.double d), .second, .val (.double iv), .second, .val (.int k), .val (.double wv), .second, .val (.ref o1), .val (.double vx), .second, .val (.double vr), .second, .unset, .unset, .unset, .unset, .unset, .unset, .unset, .unset, .unset] [(.double wv), (.double iv), (.ref o1)])) _
    refine XS.dload X44.here hx rfl (hb hby at_89) rfl ?_
    show Steps p.tables e below (T44.setTop (mkF m 91 #[.val (.long pg), .second, .val (.int dg), .val (.int ib), .val (.int wt), .val (.long n), .second, .val (.double d), .second, .val (.double iv), .second, .val (.int k), .val (.double wv), .second, .val (.ref o1), .val (.double vx), .second, .val (.double vr), .second, .unset, .unset, .unset, .unset, .unset, .unset, .unset, .unset, .unset] [(.double vx), (.double wv), (.double iv), (.ref o1)])) _
    refine XS.dmulS X44.here hx rfl (hb hby at_91) rfl zu.noNaN rfl ?_
    show Steps p.tables e below (T44.setTop (mkF m 92 #[.val (.long pg), .second, .val (.int dg), .val (.int ib), .val (.int wt), .val (.long n), .second, .val (.double d), .second, .val (.double iv), .second, .val (.int k), .val (.double wv), .second, .val (.ref o1), .val (.double vx), .second, .val (.double vr), .second, .unset, .unset, .unset, .unset, .unset, .unset, .unset, .unset, .unset] [(.double (FP.dmul wv vx)), (.double iv), (.ref o1)])) _
    refine XS.daddS X44.here hx rfl (hb hby at_92) rfl zb1.noNaN rfl ?_
    show Steps p.tables e below (T44.setTop (mkF m 93 #[.val (.long pg), .second, .val (.int dg), .val (.int ib), .val (.int wt), .val (.long n), .second, .val (.double d), .second, .val (.double iv), .second, .val (.int k), .val (.double wv), .second, .val (.ref o1), .val (.double vx), .second, .val (.double vr), .second, .unset, .unset, .unset, .unset, .unset, .unset, .unset, .unset, .unset] [(.double (FP.dadd iv (FP.dmul wv vx))), (.ref o1)])) _
    exact kt)
  obtain ⟨cq48, kq48, q48a, q48b, q48c⟩ := isOf hZ e44 Ex37
  obtain ⟨_, _, ⟨T48, L48, k48, n48⟩, -, X48, ⟨Lc48, hQ48, l48, y48, z48⟩, st48⟩ := X44.virtualBack hx (y := (⟨"com/example/umbel/umbel/rank/RankEquation", "rank", "(D)D"⟩ : MethodName)) (z := (⟨"com/example/umbel/umbel/rank/RankEquation", "rank", "(D)D"⟩ : MethodName)) hown (mvT hZ (hw _ (List.mem_of_getElem? (i := 30) rfl))) (mvT hZ (hw _ (List.mem_of_getElem? (i := 25) rfl))) (notFace_of_selects (args := #[]) (mvT hZ (hw _ (List.mem_of_getElem? (i := 27) rfl)))) (mvT hZ (hw _ (List.mem_of_getElem? (i := 27) rfl))) (mvT hZ (hw _ (List.mem_of_getElem? (i := 26) rfl))) (by decide) (backOf (W := 0) (rm_rank l Z a0 hw [] o1 (FP.dadd iv (FP.dmul wv vx)) (FP.ddiv (4594572339843380019 : UInt64) (FP.l2d n)) (FP.ddiv d (FP.l2d n)) T37.heap n0 (Nat.le_trans (Nat.le_trans Z0 E34.1) K37.1) Ft37 Fd37 zb2.noNaN zb3.noNaN zy.noNaN) hZ (hw _ (List.mem_of_getElem? (i := 28) rfl)) (hw _ (List.mem_of_getElem? (i := 7) rfl)) (by decide) (by decide)) q48a q48c (g := (mkF m 93 #[.val (.long pg), .second, .val (.int dg), .val (.int ib), .val (.int wt), .val (.long n), .second, .val (.double d), .second, .val (.double iv), .second, .val (.int k), .val (.double wv), .second, .val (.ref o1), .val (.double vx), .second, .val (.double vr), .second, .unset, .unset, .unset, .unset, .unset, .unset, .unset, .unset, .unset] [(.double (FP.dadd iv (FP.dmul wv vx))), (.ref o1)])) rfl (by rw [hml]; rfl) (Steps.refl _) (argsL := [(.double (FP.dadd iv (FP.dmul wv vx)))]) (rest := []) (lenOf pd__D_D rfl) rfl (by show 2 * 0 + _ ≤ _; exact Nat.le_of_eq rfl) (hb hby at_93) (fun _ _ => ⟨rfl, e44, (by decide : 1 + 0 ≤ _), (by decide : 2 + 0 ≤ _)⟩)
  dsimp only [Pt.U, Pt.locs, Pt.cells, Pt.slots] at X48 l48 y48 z48 st48 hQ48
  subst l48 y48 z48
  obtain ⟨rfl, N48q, e48⟩ := hQ48
  have N48 := Fr.app N44 N48q
  have S49 : Go p e below s₁ (entryFrame m #[(.long pg), (.int dg), (.int ib), (.int wt)] maxLocals) T48 (mkF m 96 #[.val (.long pg), .second, .val (.int dg), .val (.int ib), .val (.int wt), .val (.long n), .second, .val (.double d), .second, .val (.double iv), .second, .val (.int k), .val (.double wv), .second, .val (.ref o1), .val (.double vx), .second, .val (.double vr), .second, .unset, .unset, .unset, .unset, .unset, .unset, .unset, .unset, .unset] [(.double (FP.dadd (FP.ddiv (4594572339843380019 : UInt64) (FP.l2d n)) (FP.dmul (4605831338911806259 : UInt64) (FP.dadd (FP.dadd iv (FP.dmul wv vx)) (FP.ddiv d (FP.l2d n))))))]) := fun t kt => S47 t (st48.trans kt)
  obtain ⟨vy, q_vy⟩ : ∃ z : UInt64, z = (FP.dadd (FP.ddiv (4594572339843380019 : UInt64) (FP.l2d n)) (FP.dmul (4605831338911806259 : UInt64) (FP.dadd (FP.dadd iv (FP.dmul wv vx)) (FP.ddiv d (FP.l2d n))))) := ⟨_, rfl⟩
  have S50 : Go p e below s₁ (entryFrame m #[(.long pg), (.int dg), (.int ib), (.int wt)] maxLocals) T48 (mkF m 96 #[.val (.long pg), .second, .val (.int dg), .val (.int ib), .val (.int wt), .val (.long n), .second, .val (.double d), .second, .val (.double iv), .second, .val (.int k), .val (.double wv), .second, .val (.ref o1), .val (.double vx), .second, .val (.double vr), .second, .unset, .unset, .unset, .unset, .unset, .unset, .unset, .unset, .unset] [(.double vy)]) := by subst q_vy; exact S49
  rw [← q_vy] at zy
  obtain ⟨zd0, zdf, c1, c2⟩ := Zv.dsub_between zx zy zw (by omega) (by omega) (by omega)
  have S51 : Go p e below s₁ (entryFrame m #[(.long pg), (.int dg), (.int ib), (.int wt)] maxLocals) T48 (mkF m 118 #[.val (.long pg), .second, .val (.int dg), .val (.int ib), .val (.int wt), .val (.long n), .second, .val (.double d), .second, .val (.double iv), .second, .val (.int k), .val (.double wv), .second, .val (.ref o1), .val (.double vx), .second, .val (.double vr), .second, .val (.double vy), .second, .val (.double (FP.dsub vx vy)), .second, .val (.double (FP.ddiv vx (4787326403894837248 : UInt64))), .second, .unset, .unset, .unset] [(.int (FP.cmpInt 1 (FP.dcmp (FP.dsub vx vy) (FP.ddiv vx (4787326403894837248 : UInt64)))))]) := fun t kt => S50 t (by
    refine XS.dstore X48.here hx rfl (hb hby at_96) rfl (l' := #[.val (.long pg), .second, .val (.int dg), .val (.int ib), .val (.int wt), .val (.long n), .second, .val (.double d), .second, .val (.double iv), .second, .val (.int k), .val (.double wv), .second, .val (.ref o1), .val (.double vx), .second, .val (.double vr), .second, .val (.double vy), .second, .unset, .unset, .unset, .unset, .unset, .unset, .unset]) rfl ?_
    show Steps p.tables e below (T48.setTop (mkF m 98 #[.val (.long pg), .second, .val (.int dg), .val (.int ib), .val (.int wt), .val (.long n), .second, .val (.double d), .second, .val (.double iv), .second, .val (.int k), .val (.double wv), .second, .val (.ref o1), .val (.double vx), .second, .val (.double vr), .second, .val (.double vy), .second, .unset, .unset, .unset, .unset, .unset, .unset, .unset] [])) _
    refine XS.dload X48.here hx rfl (hb hby at_98) rfl ?_
    show Steps p.tables e below (T48.setTop (mkF m 100 #[.val (.long pg), .second, .val (.int dg), .val (.int ib), .val (.int wt), .val (.long n), .second, .val (.double d), .second, .val (.double iv), .second, .val (.int k), .val (.double wv), .second, .val (.ref o1), .val (.double vx), .second, .val (.double vr), .second, .val (.double vy), .second, .unset, .unset, .unset, .unset, .unset, .unset, .unset] [(.double vx)])) _
    refine XS.dload X48.here hx rfl (hb hby at_100) rfl ?_
    show Steps p.tables e below (T48.setTop (mkF m 102 #[.val (.long pg), .second, .val (.int dg), .val (.int ib), .val (.int wt), .val (.long n), .second, .val (.double d), .second, .val (.double iv), .second, .val (.int k), .val (.double wv), .second, .val (.ref o1), .val (.double vx), .second, .val (.double vr), .second, .val (.double vy), .second, .unset, .unset, .unset, .unset, .unset, .unset, .unset] [(.double vy), (.double vx)])) _
    refine XS.dsubS X48.here hx rfl (hb hby at_102) rfl zdf.noNaN rfl ?_
    show Steps p.tables e below (T48.setTop (mkF m 103 #[.val (.long pg), .second, .val (.int dg), .val (.int ib), .val (.int wt), .val (.long n), .second, .val (.double d), .second, .val (.double iv), .second, .val (.int k), .val (.double wv), .second, .val (.ref o1), .val (.double vx), .second, .val (.double vr), .second, .val (.double vy), .second, .unset, .unset, .unset, .unset, .unset, .unset, .unset] [(.double (FP.dsub vx vy))])) _
    refine XS.dstore X48.here hx rfl (hb hby at_103) rfl (l' := #[.val (.long pg), .second, .val (.int dg), .val (.int ib), .val (.int wt), .val (.long n), .second, .val (.double d), .second, .val (.double iv), .second, .val (.int k), .val (.double wv), .second, .val (.ref o1), .val (.double vx), .second, .val (.double vr), .second, .val (.double vy), .second, .val (.double (FP.dsub vx vy)), .second, .unset, .unset, .unset, .unset, .unset]) rfl ?_
    show Steps p.tables e below (T48.setTop (mkF m 105 #[.val (.long pg), .second, .val (.int dg), .val (.int ib), .val (.int wt), .val (.long n), .second, .val (.double d), .second, .val (.double iv), .second, .val (.int k), .val (.double wv), .second, .val (.ref o1), .val (.double vx), .second, .val (.double vr), .second, .val (.double vy), .second, .val (.double (FP.dsub vx vy)), .second, .unset, .unset, .unset, .unset, .unset] [])) _
    refine XS.dload X48.here hx rfl (hb hby at_105) rfl ?_
    show Steps p.tables e below (T48.setTop (mkF m 107 #[.val (.long pg), .second, .val (.int dg), .val (.int ib), .val (.int wt), .val (.long n), .second, .val (.double d), .second, .val (.double iv), .second, .val (.int k), .val (.double wv), .second, .val (.ref o1), .val (.double vx), .second, .val (.double vr), .second, .val (.double vy), .second, .val (.double (FP.dsub vx vy)), .second, .unset, .unset, .unset, .unset, .unset] [(.double vx)])) _
    refine X48.ldc2DoubleC hx hown (mvT hZ (hw _ (List.mem_of_getElem? (i := 31) rfl))) (g := (mkF m 107 #[.val (.long pg), .second, .val (.int dg), .val (.int ib), .val (.int wt), .val (.long n), .second, .val (.double d), .second, .val (.double iv), .second, .val (.int k), .val (.double wv), .second, .val (.ref o1), .val (.double vx), .second, .val (.double vr), .second, .val (.double vy), .second, .val (.double (FP.dsub vx vy)), .second, .unset, .unset, .unset, .unset, .unset] [(.double vx)])) rfl (hb hby at_107) _ ?_
    show Steps p.tables e below (T48.setTop (mkF m 110 #[.val (.long pg), .second, .val (.int dg), .val (.int ib), .val (.int wt), .val (.long n), .second, .val (.double d), .second, .val (.double iv), .second, .val (.int k), .val (.double wv), .second, .val (.ref o1), .val (.double vx), .second, .val (.double vr), .second, .val (.double vy), .second, .val (.double (FP.dsub vx vy)), .second, .unset, .unset, .unset, .unset, .unset] [(.double (4787326403894837248 : UInt64)), (.double vx)])) _
    refine XS.ddivS X48.here hx rfl (hb hby at_110) rfl zw.noNaN rfl ?_
    show Steps p.tables e below (T48.setTop (mkF m 111 #[.val (.long pg), .second, .val (.int dg), .val (.int ib), .val (.int wt), .val (.long n), .second, .val (.double d), .second, .val (.double iv), .second, .val (.int k), .val (.double wv), .second, .val (.ref o1), .val (.double vx), .second, .val (.double vr), .second, .val (.double vy), .second, .val (.double (FP.dsub vx vy)), .second, .unset, .unset, .unset, .unset, .unset] [(.double (FP.ddiv vx (4787326403894837248 : UInt64)))])) _
    refine XS.dstore X48.here hx rfl (hb hby at_111) rfl (l' := #[.val (.long pg), .second, .val (.int dg), .val (.int ib), .val (.int wt), .val (.long n), .second, .val (.double d), .second, .val (.double iv), .second, .val (.int k), .val (.double wv), .second, .val (.ref o1), .val (.double vx), .second, .val (.double vr), .second, .val (.double vy), .second, .val (.double (FP.dsub vx vy)), .second, .val (.double (FP.ddiv vx (4787326403894837248 : UInt64))), .second, .unset, .unset, .unset]) rfl ?_
    show Steps p.tables e below (T48.setTop (mkF m 113 #[.val (.long pg), .second, .val (.int dg), .val (.int ib), .val (.int wt), .val (.long n), .second, .val (.double d), .second, .val (.double iv), .second, .val (.int k), .val (.double wv), .second, .val (.ref o1), .val (.double vx), .second, .val (.double vr), .second, .val (.double vy), .second, .val (.double (FP.dsub vx vy)), .second, .val (.double (FP.ddiv vx (4787326403894837248 : UInt64))), .second, .unset, .unset, .unset] [])) _
    refine XS.dload X48.here hx rfl (hb hby at_113) rfl ?_
    show Steps p.tables e below (T48.setTop (mkF m 115 #[.val (.long pg), .second, .val (.int dg), .val (.int ib), .val (.int wt), .val (.long n), .second, .val (.double d), .second, .val (.double iv), .second, .val (.int k), .val (.double wv), .second, .val (.ref o1), .val (.double vx), .second, .val (.double vr), .second, .val (.double vy), .second, .val (.double (FP.dsub vx vy)), .second, .val (.double (FP.ddiv vx (4787326403894837248 : UInt64))), .second, .unset, .unset, .unset] [(.double (FP.dsub vx vy))])) _
    refine XS.dload X48.here hx rfl (hb hby at_115) rfl ?_
    show Steps p.tables e below (T48.setTop (mkF m 117 #[.val (.long pg), .second, .val (.int dg), .val (.int ib), .val (.int wt), .val (.long n), .second, .val (.double d), .second, .val (.double iv), .second, .val (.int k), .val (.double wv), .second, .val (.ref o1), .val (.double vx), .second, .val (.double vr), .second, .val (.double vy), .second, .val (.double (FP.dsub vx vy)), .second, .val (.double (FP.ddiv vx (4787326403894837248 : UInt64))), .second, .unset, .unset, .unset] [(.double (FP.ddiv vx (4787326403894837248 : UInt64))), (.double (FP.dsub vx vy))])) _
    refine XS.dcmpS X48.here hx rfl (hb hby at_117) rfl (cmpV_g _) ?_
    show Steps p.tables e below (T48.setTop (mkF m 118 #[.val (.long pg), .second, .val (.int dg), .val (.int ib), .val (.int wt), .val (.long n), .second, .val (.double d), .second, .val (.double iv), .second, .val (.int k), .val (.double wv), .second, .val (.ref o1), .val (.double vx), .second, .val (.double vr), .second, .val (.double vy), .second, .val (.double (FP.dsub vx vy)), .second, .val (.double (FP.ddiv vx (4787326403894837248 : UInt64))), .second, .unset, .unset, .unset] [(.int (FP.cmpInt 1 (FP.dcmp (FP.dsub vx vy) (FP.ddiv vx (4787326403894837248 : UInt64)))))])) _
    exact kt)
  have S52 : Go p e below s₁ (entryFrame m #[(.long pg), (.int dg), (.int ib), (.int wt)] maxLocals) T48 (mkF m 127 #[.val (.long pg), .second, .val (.int dg), .val (.int ib), .val (.int wt), .val (.long n), .second, .val (.double d), .second, .val (.double iv), .second, .val (.int k), .val (.double wv), .second, .val (.ref o1), .val (.double vx), .second, .val (.double vr), .second, .val (.double vy), .second, .val (.double (FP.dsub vx vy)), .second, .val (.double (FP.ddiv vx (4787326403894837248 : UInt64))), .second, .unset, .unset, .unset] [(.int (FP.cmpInt 1 (FP.dcmp (FP.dneg (FP.dsub vx vy)) (FP.ddiv vx (4787326403894837248 : UInt64)))))]) := fun t kt => S51 t (by
    refine XS.ifNo X48.here hx rfl (hb hby at_118) rfl ((if0 _ _).trans (flt (show ¬ ((0 : Int32) < (FP.cmpInt 1 (FP.dcmp (FP.dsub vx vy) (FP.ddiv vx (4787326403894837248 : UInt64))))) from (own_leg zdf zw c1))).2.2.1) ?_
    show Steps p.tables e below (T48.setTop (mkF m 121 #[.val (.long pg), .second, .val (.int dg), .val (.int ib), .val (.int wt), .val (.long n), .second, .val (.double d), .second, .val (.double iv), .second, .val (.int k), .val (.double wv), .second, .val (.ref o1), .val (.double vx), .second, .val (.double vr), .second, .val (.double vy), .second, .val (.double (FP.dsub vx vy)), .second, .val (.double (FP.ddiv vx (4787326403894837248 : UInt64))), .second, .unset, .unset, .unset] [])) _
    refine XS.dload X48.here hx rfl (hb hby at_121) rfl ?_
    show Steps p.tables e below (T48.setTop (mkF m 123 #[.val (.long pg), .second, .val (.int dg), .val (.int ib), .val (.int wt), .val (.long n), .second, .val (.double d), .second, .val (.double iv), .second, .val (.int k), .val (.double wv), .second, .val (.ref o1), .val (.double vx), .second, .val (.double vr), .second, .val (.double vy), .second, .val (.double (FP.dsub vx vy)), .second, .val (.double (FP.ddiv vx (4787326403894837248 : UInt64))), .second, .unset, .unset, .unset] [(.double (FP.dsub vx vy))])) _
    refine XS.dnegS X48.here hx rfl (hb hby at_123) rfl rfl ?_
    show Steps p.tables e below (T48.setTop (mkF m 124 #[.val (.long pg), .second, .val (.int dg), .val (.int ib), .val (.int wt), .val (.long n), .second, .val (.double d), .second, .val (.double iv), .second, .val (.int k), .val (.double wv), .second, .val (.ref o1), .val (.double vx), .second, .val (.double vr), .second, .val (.double vy), .second, .val (.double (FP.dsub vx vy)), .second, .val (.double (FP.ddiv vx (4787326403894837248 : UInt64))), .second, .unset, .unset, .unset] [(.double (FP.dneg (FP.dsub vx vy)))])) _
    refine XS.dload X48.here hx rfl (hb hby at_124) rfl ?_
    show Steps p.tables e below (T48.setTop (mkF m 126 #[.val (.long pg), .second, .val (.int dg), .val (.int ib), .val (.int wt), .val (.long n), .second, .val (.double d), .second, .val (.double iv), .second, .val (.int k), .val (.double wv), .second, .val (.ref o1), .val (.double vx), .second, .val (.double vr), .second, .val (.double vy), .second, .val (.double (FP.dsub vx vy)), .second, .val (.double (FP.ddiv vx (4787326403894837248 : UInt64))), .second, .unset, .unset, .unset] [(.double (FP.ddiv vx (4787326403894837248 : UInt64))), (.double (FP.dneg (FP.dsub vx vy)))])) _
    refine XS.dcmpS X48.here hx rfl (hb hby at_126) rfl (cmpV_g _) ?_
    show Steps p.tables e below (T48.setTop (mkF m 127 #[.val (.long pg), .second, .val (.int dg), .val (.int ib), .val (.int wt), .val (.long n), .second, .val (.double d), .second, .val (.double iv), .second, .val (.int k), .val (.double wv), .second, .val (.ref o1), .val (.double vx), .second, .val (.double vr), .second, .val (.double vy), .second, .val (.double (FP.dsub vx vy)), .second, .val (.double (FP.ddiv vx (4787326403894837248 : UInt64))), .second, .unset, .unset, .unset] [(.int (FP.cmpInt 1 (FP.dcmp (FP.dneg (FP.dsub vx vy)) (FP.ddiv vx (4787326403894837248 : UInt64)))))])) _
    exact kt)
  have S53 : Go p e below s₁ (entryFrame m #[(.long pg), (.int dg), (.int ib), (.int wt)] maxLocals) T48 (mkF m 142 #[.val (.long pg), .second, .val (.int dg), .val (.int ib), .val (.int wt), .val (.long n), .second, .val (.double d), .second, .val (.double iv), .second, .val (.int k), .val (.double wv), .second, .val (.ref o1), .val (.double vx), .second, .val (.double vr), .second, .val (.double vy), .second, .val (.double (FP.dsub vx vy)), .second, .val (.double (FP.ddiv vx (4787326403894837248 : UInt64))), .second, .val (.int (1 : Int32)), .unset, .unset] [(.int (FP.cmpInt (-1) (FP.dcmp vx vr)))]) := fun t kt => S52 t (by
    refine XS.ifNo X48.here hx rfl (hb hby at_127) rfl ((if0 _ _).trans (flt (show ¬ ((0 : Int32) < (FP.cmpInt 1 (FP.dcmp (FP.dneg (FP.dsub vx vy)) (FP.ddiv vx (4787326403894837248 : UInt64))))) from (own_leg zdf.dneg zw (by omega)))).2.2.1) ?_
    show Steps p.tables e below (T48.setTop (mkF m 130 #[.val (.long pg), .second, .val (.int dg), .val (.int ib), .val (.int wt), .val (.long n), .second, .val (.double d), .second, .val (.double iv), .second, .val (.int k), .val (.double wv), .second, .val (.ref o1), .val (.double vx), .second, .val (.double vr), .second, .val (.double vy), .second, .val (.double (FP.dsub vx vy)), .second, .val (.double (FP.ddiv vx (4787326403894837248 : UInt64))), .second, .unset, .unset, .unset] [])) _
    refine XS.iconst X48.here hx rfl (hb hby at_130) ?_
    show Steps p.tables e below (T48.setTop (mkF m 131 #[.val (.long pg), .second, .val (.int dg), .val (.int ib), .val (.int wt), .val (.long n), .second, .val (.double d), .second, .val (.double iv), .second, .val (.int k), .val (.double wv), .second, .val (.ref o1), .val (.double vx), .second, .val (.double vr), .second, .val (.double vy), .second, .val (.double (FP.dsub vx vy)), .second, .val (.double (FP.ddiv vx (4787326403894837248 : UInt64))), .second, .unset, .unset, .unset] [(.int (1 : Int32))])) _
    refine XS.goto X48.here hx rfl (pc0 := 131) (pc' := 135) rfl (hb hby at_131) (by decide) (by decide) ?_
    show Steps p.tables e below (T48.setTop (mkF m 135 #[.val (.long pg), .second, .val (.int dg), .val (.int ib), .val (.int wt), .val (.long n), .second, .val (.double d), .second, .val (.double iv), .second, .val (.int k), .val (.double wv), .second, .val (.ref o1), .val (.double vx), .second, .val (.double vr), .second, .val (.double vy), .second, .val (.double (FP.dsub vx vy)), .second, .val (.double (FP.ddiv vx (4787326403894837248 : UInt64))), .second, .unset, .unset, .unset] [(.int (1 : Int32))])) _
    refine XS.istore X48.here hx rfl (hb hby at_135) rfl (l' := #[.val (.long pg), .second, .val (.int dg), .val (.int ib), .val (.int wt), .val (.long n), .second, .val (.double d), .second, .val (.double iv), .second, .val (.int k), .val (.double wv), .second, .val (.ref o1), .val (.double vx), .second, .val (.double vr), .second, .val (.double vy), .second, .val (.double (FP.dsub vx vy)), .second, .val (.double (FP.ddiv vx (4787326403894837248 : UInt64))), .second, .val (.int (1 : Int32)), .unset, .unset]) rfl ?_
    show Steps p.tables e below (T48.setTop (mkF m 137 #[.val (.long pg), .second, .val (.int dg), .val (.int ib), .val (.int wt), .val (.long n), .second, .val (.double d), .second, .val (.double iv), .second, .val (.int k), .val (.double wv), .second, .val (.ref o1), .val (.double vx), .second, .val (.double vr), .second, .val (.double vy), .second, .val (.double (FP.dsub vx vy)), .second, .val (.double (FP.ddiv vx (4787326403894837248 : UInt64))), .second, .val (.int (1 : Int32)), .unset, .unset] [])) _
    refine XS.dload X48.here hx rfl (hb hby at_137) rfl ?_
    show Steps p.tables e below (T48.setTop (mkF m 139 #[.val (.long pg), .second, .val (.int dg), .val (.int ib), .val (.int wt), .val (.long n), .second, .val (.double d), .second, .val (.double iv), .second, .val (.int k), .val (.double wv), .second, .val (.ref o1), .val (.double vx), .second, .val (.double vr), .second, .val (.double vy), .second, .val (.double (FP.dsub vx vy)), .second, .val (.double (FP.ddiv vx (4787326403894837248 : UInt64))), .second, .val (.int (1 : Int32)), .unset, .unset] [(.double vx)])) _
    refine XS.dload X48.here hx rfl (hb hby at_139) rfl ?_
    show Steps p.tables e below (T48.setTop (mkF m 141 #[.val (.long pg), .second, .val (.int dg), .val (.int ib), .val (.int wt), .val (.long n), .second, .val (.double d), .second, .val (.double iv), .second, .val (.int k), .val (.double wv), .second, .val (.ref o1), .val (.double vx), .second, .val (.double vr), .second, .val (.double vy), .second, .val (.double (FP.dsub vx vy)), .second, .val (.double (FP.ddiv vx (4787326403894837248 : UInt64))), .second, .val (.int (1 : Int32)), .unset, .unset] [(.double vr), (.double vx)])) _
    refine XS.dcmpS X48.here hx rfl (hb hby at_141) rfl (cmpV_l _) ?_
    show Steps p.tables e below (T48.setTop (mkF m 142 #[.val (.long pg), .second, .val (.int dg), .val (.int ib), .val (.int wt), .val (.long n), .second, .val (.double d), .second, .val (.double iv), .second, .val (.int k), .val (.double wv), .second, .val (.ref o1), .val (.double vx), .second, .val (.double vr), .second, .val (.double vy), .second, .val (.double (FP.dsub vx vy)), .second, .val (.double (FP.ddiv vx (4787326403894837248 : UInt64))), .second, .val (.int (1 : Int32)), .unset, .unset] [(.int (FP.cmpInt (-1) (FP.dcmp vx vr)))])) _
    exact kt)
  have hge : (r0 : Int) ≤ (x0 : Int) := by
    by_cases h0 : kk = 0
    · have e := den8 h0
      rw [evd, e] at q_vx
      have e2 : vx = vr := by rw [q_vx, q_vr]; exact FP.Core.ddiv_one ((FP.Core.notNaN_iff _).mp (noNaN64_no.mp (by rw [← q_vr]; exact zr.noNaN)))
      have := zx.2
      rw [e2, zr.2] at this
      omega
    · have := m3 h0; omega
  have S54 : Go p e below s₁ (entryFrame m #[(.long pg), (.int dg), (.int ib), (.int wt)] maxLocals) T48 (mkF m 154 #[.val (.long pg), .second, .val (.int dg), .val (.int ib), .val (.int wt), .val (.long n), .second, .val (.double d), .second, .val (.double iv), .second, .val (.int k), .val (.double wv), .second, .val (.ref o1), .val (.double vx), .second, .val (.double vr), .second, .val (.double vy), .second, .val (.double (FP.dsub vx vy)), .second, .val (.double (FP.ddiv vx (4787326403894837248 : UInt64))), .second, .val (.int (1 : Int32)), .val (.int (1 : Int32)), .unset] [(.int k)]) := fun t kt => S53 t (by
    refine XS.ifNo X48.here hx rfl (hb hby at_142) rfl ((if0 _ _).trans (flt (show ¬ ((FP.cmpInt (-1) (FP.dcmp vx vr)) < (0 : Int32)) from (own_gel zx zr hge))).1) ?_
    show Steps p.tables e below (T48.setTop (mkF m 145 #[.val (.long pg), .second, .val (.int dg), .val (.int ib), .val (.int wt), .val (.long n), .second, .val (.double d), .second, .val (.double iv), .second, .val (.int k), .val (.double wv), .second, .val (.ref o1), .val (.double vx), .second, .val (.double vr), .second, .val (.double vy), .second, .val (.double (FP.dsub vx vy)), .second, .val (.double (FP.ddiv vx (4787326403894837248 : UInt64))), .second, .val (.int (1 : Int32)), .unset, .unset] [])) _
    refine XS.iconst X48.here hx rfl (hb hby at_145) ?_
    show Steps p.tables e below (T48.setTop (mkF m 146 #[.val (.long pg), .second, .val (.int dg), .val (.int ib), .val (.int wt), .val (.long n), .second, .val (.double d), .second, .val (.double iv), .second, .val (.int k), .val (.double wv), .second, .val (.ref o1), .val (.double vx), .second, .val (.double vr), .second, .val (.double vy), .second, .val (.double (FP.dsub vx vy)), .second, .val (.double (FP.ddiv vx (4787326403894837248 : UInt64))), .second, .val (.int (1 : Int32)), .unset, .unset] [(.int (1 : Int32))])) _
    refine XS.goto X48.here hx rfl (pc0 := 146) (pc' := 150) rfl (hb hby at_146) (by decide) (by decide) ?_
    show Steps p.tables e below (T48.setTop (mkF m 150 #[.val (.long pg), .second, .val (.int dg), .val (.int ib), .val (.int wt), .val (.long n), .second, .val (.double d), .second, .val (.double iv), .second, .val (.int k), .val (.double wv), .second, .val (.ref o1), .val (.double vx), .second, .val (.double vr), .second, .val (.double vy), .second, .val (.double (FP.dsub vx vy)), .second, .val (.double (FP.ddiv vx (4787326403894837248 : UInt64))), .second, .val (.int (1 : Int32)), .unset, .unset] [(.int (1 : Int32))])) _
    refine XS.istore X48.here hx rfl (hb hby at_150) rfl (l' := #[.val (.long pg), .second, .val (.int dg), .val (.int ib), .val (.int wt), .val (.long n), .second, .val (.double d), .second, .val (.double iv), .second, .val (.int k), .val (.double wv), .second, .val (.ref o1), .val (.double vx), .second, .val (.double vr), .second, .val (.double vy), .second, .val (.double (FP.dsub vx vy)), .second, .val (.double (FP.ddiv vx (4787326403894837248 : UInt64))), .second, .val (.int (1 : Int32)), .val (.int (1 : Int32)), .unset]) rfl ?_
    show Steps p.tables e below (T48.setTop (mkF m 152 #[.val (.long pg), .second, .val (.int dg), .val (.int ib), .val (.int wt), .val (.long n), .second, .val (.double d), .second, .val (.double iv), .second, .val (.int k), .val (.double wv), .second, .val (.ref o1), .val (.double vx), .second, .val (.double vr), .second, .val (.double vy), .second, .val (.double (FP.dsub vx vy)), .second, .val (.double (FP.ddiv vx (4787326403894837248 : UInt64))), .second, .val (.int (1 : Int32)), .val (.int (1 : Int32)), .unset] [])) _
    refine XS.iload X48.here hx rfl (hb hby at_152) rfl ?_
    show Steps p.tables e below (T48.setTop (mkF m 154 #[.val (.long pg), .second, .val (.int dg), .val (.int ib), .val (.int wt), .val (.long n), .second, .val (.double d), .second, .val (.double iv), .second, .val (.int k), .val (.double wv), .second, .val (.ref o1), .val (.double vx), .second, .val (.double vr), .second, .val (.double vy), .second, .val (.double (FP.dsub vx vy)), .second, .val (.double (FP.ddiv vx (4787326403894837248 : UInt64))), .second, .val (.int (1 : Int32)), .val (.int (1 : Int32)), .unset] [(.int k)])) _
    exact kt)
  by_cases hk0 : k = (0 : Int32)
  · have S55 : Go p e below s₁ (entryFrame m #[(.long pg), (.int dg), (.int ib), (.int wt)] maxLocals) T48 (mkF m 157 #[.val (.long pg), .second, .val (.int dg), .val (.int ib), .val (.int wt), .val (.long n), .second, .val (.double d), .second, .val (.double iv), .second, .val (.int k), .val (.double wv), .second, .val (.ref o1), .val (.double vx), .second, .val (.double vr), .second, .val (.double vy), .second, .val (.double (FP.dsub vx vy)), .second, .val (.double (FP.ddiv vx (4787326403894837248 : UInt64))), .second, .val (.int (1 : Int32)), .val (.int (1 : Int32)), .unset] []) := fun t kt => S54 t (by
      refine XS.ifNo X48.here hx rfl (hb hby at_154) rfl ((if0 _ _).trans (teq (show k = (0 : Int32) from hk0)).2) ?_
      show Steps p.tables e below (T48.setTop (mkF m 157 #[.val (.long pg), .second, .val (.int dg), .val (.int ib), .val (.int wt), .val (.long n), .second, .val (.double d), .second, .val (.double iv), .second, .val (.int k), .val (.double wv), .second, .val (.ref o1), .val (.double vx), .second, .val (.double vr), .second, .val (.double vy), .second, .val (.double (FP.dsub vx vy)), .second, .val (.double (FP.ddiv vx (4787326403894837248 : UInt64))), .second, .val (.int (1 : Int32)), .val (.int (1 : Int32)), .unset] [])) _
      exact kt)
    have hq0 : kk = 0 := own_k0 hkk (ekk.symm.trans hk0)
    have ee := den8 hq0
    rw [evd, ee] at q_vx
    have e2 : vx = vr := by rw [q_vx, q_vr]; exact FP.Core.ddiv_one ((FP.Core.notNaN_iff _).mp (noNaN64_no.mp (by rw [← q_vr]; exact zr.noNaN)))
    have S56 : Go p e below s₁ (entryFrame m #[(.long pg), (.int dg), (.int ib), (.int wt)] maxLocals) T48 (mkF m 162 #[.val (.long pg), .second, .val (.int dg), .val (.int ib), .val (.int wt), .val (.long n), .second, .val (.double d), .second, .val (.double iv), .second, .val (.int k), .val (.double wv), .second, .val (.ref o1), .val (.double vx), .second, .val (.double vr), .second, .val (.double vy), .second, .val (.double (FP.dsub vx vy)), .second, .val (.double (FP.ddiv vx (4787326403894837248 : UInt64))), .second, .val (.int (1 : Int32)), .val (.int (1 : Int32)), .unset] [(.int (FP.cmpInt (-1) (FP.dcmp vx vr)))]) := fun t kt => S55 t (by
      refine XS.dload X48.here hx rfl (hb hby at_157) rfl ?_
      show Steps p.tables e below (T48.setTop (mkF m 159 #[.val (.long pg), .second, .val (.int dg), .val (.int ib), .val (.int wt), .val (.long n), .second, .val (.double d), .second, .val (.double iv), .second, .val (.int k), .val (.double wv), .second, .val (.ref o1), .val (.double vx), .second, .val (.double vr), .second, .val (.double vy), .second, .val (.double (FP.dsub vx vy)), .second, .val (.double (FP.ddiv vx (4787326403894837248 : UInt64))), .second, .val (.int (1 : Int32)), .val (.int (1 : Int32)), .unset] [(.double vx)])) _
      refine XS.dload X48.here hx rfl (hb hby at_159) rfl ?_
      show Steps p.tables e below (T48.setTop (mkF m 161 #[.val (.long pg), .second, .val (.int dg), .val (.int ib), .val (.int wt), .val (.long n), .second, .val (.double d), .second, .val (.double iv), .second, .val (.int k), .val (.double wv), .second, .val (.ref o1), .val (.double vx), .second, .val (.double vr), .second, .val (.double vy), .second, .val (.double (FP.dsub vx vy)), .second, .val (.double (FP.ddiv vx (4787326403894837248 : UInt64))), .second, .val (.int (1 : Int32)), .val (.int (1 : Int32)), .unset] [(.double vr), (.double vx)])) _
      refine XS.dcmpS X48.here hx rfl (hb hby at_161) rfl (cmpV_l _) ?_
      show Steps p.tables e below (T48.setTop (mkF m 162 #[.val (.long pg), .second, .val (.int dg), .val (.int ib), .val (.int wt), .val (.long n), .second, .val (.double d), .second, .val (.double iv), .second, .val (.int k), .val (.double wv), .second, .val (.ref o1), .val (.double vx), .second, .val (.double vr), .second, .val (.double vy), .second, .val (.double (FP.dsub vx vy)), .second, .val (.double (FP.ddiv vx (4787326403894837248 : UInt64))), .second, .val (.int (1 : Int32)), .val (.int (1 : Int32)), .unset] [(.int (FP.cmpInt (-1) (FP.dcmp vx vr)))])) _
      exact kt)
    have S57 : Go p e below s₁ (entryFrame m #[(.long pg), (.int dg), (.int ib), (.int wt)] maxLocals) T48 (mkF m 191 #[.val (.long pg), .second, .val (.int dg), .val (.int ib), .val (.int wt), .val (.long n), .second, .val (.double d), .second, .val (.double iv), .second, .val (.int k), .val (.double wv), .second, .val (.ref o1), .val (.double vx), .second, .val (.double vr), .second, .val (.double vy), .second, .val (.double (FP.dsub vx vy)), .second, .val (.double (FP.ddiv vx (4787326403894837248 : UInt64))), .second, .val (.int (1 : Int32)), .val (.int (1 : Int32)), .val (.int (1 : Int32))] [(.int (FP.cmpInt (-1) (FP.dcmp vx (0 : UInt64))))]) := fun t kt => S56 t (by
      refine XS.ifNo X48.here hx rfl (hb hby at_162) rfl ((if0 _ _).trans (teq (show (FP.cmpInt (-1) (FP.dcmp vx vr)) = (0 : Int32) from (by rw [e2, show FP.dcmp vr vr = some .eq from FP.Core.dcmp_refl (noNaN64_no.mp zr.noNaN)]; rfl))).2) ?_
      show Steps p.tables e below (T48.setTop (mkF m 165 #[.val (.long pg), .second, .val (.int dg), .val (.int ib), .val (.int wt), .val (.long n), .second, .val (.double d), .second, .val (.double iv), .second, .val (.int k), .val (.double wv), .second, .val (.ref o1), .val (.double vx), .second, .val (.double vr), .second, .val (.double vy), .second, .val (.double (FP.dsub vx vy)), .second, .val (.double (FP.ddiv vx (4787326403894837248 : UInt64))), .second, .val (.int (1 : Int32)), .val (.int (1 : Int32)), .unset] [])) _
      refine XS.iconst X48.here hx rfl (hb hby at_165) ?_
      show Steps p.tables e below (T48.setTop (mkF m 166 #[.val (.long pg), .second, .val (.int dg), .val (.int ib), .val (.int wt), .val (.long n), .second, .val (.double d), .second, .val (.double iv), .second, .val (.int k), .val (.double wv), .second, .val (.ref o1), .val (.double vx), .second, .val (.double vr), .second, .val (.double vy), .second, .val (.double (FP.dsub vx vy)), .second, .val (.double (FP.ddiv vx (4787326403894837248 : UInt64))), .second, .val (.int (1 : Int32)), .val (.int (1 : Int32)), .unset] [(.int (1 : Int32))])) _
      refine XS.goto X48.here hx rfl (pc0 := 166) (pc' := 170) rfl (hb hby at_166) (by decide) (by decide) ?_
      show Steps p.tables e below (T48.setTop (mkF m 170 #[.val (.long pg), .second, .val (.int dg), .val (.int ib), .val (.int wt), .val (.long n), .second, .val (.double d), .second, .val (.double iv), .second, .val (.int k), .val (.double wv), .second, .val (.ref o1), .val (.double vx), .second, .val (.double vr), .second, .val (.double vy), .second, .val (.double (FP.dsub vx vy)), .second, .val (.double (FP.ddiv vx (4787326403894837248 : UInt64))), .second, .val (.int (1 : Int32)), .val (.int (1 : Int32)), .unset] [(.int (1 : Int32))])) _
      refine XS.istore X48.here hx rfl (hb hby at_170) rfl (l' := #[.val (.long pg), .second, .val (.int dg), .val (.int ib), .val (.int wt), .val (.long n), .second, .val (.double d), .second, .val (.double iv), .second, .val (.int k), .val (.double wv), .second, .val (.ref o1), .val (.double vx), .second, .val (.double vr), .second, .val (.double vy), .second, .val (.double (FP.dsub vx vy)), .second, .val (.double (FP.ddiv vx (4787326403894837248 : UInt64))), .second, .val (.int (1 : Int32)), .val (.int (1 : Int32)), .val (.int (1 : Int32))]) rfl ?_
      show Steps p.tables e below (T48.setTop (mkF m 172 #[.val (.long pg), .second, .val (.int dg), .val (.int ib), .val (.int wt), .val (.long n), .second, .val (.double d), .second, .val (.double iv), .second, .val (.int k), .val (.double wv), .second, .val (.ref o1), .val (.double vx), .second, .val (.double vr), .second, .val (.double vy), .second, .val (.double (FP.dsub vx vy)), .second, .val (.double (FP.ddiv vx (4787326403894837248 : UInt64))), .second, .val (.int (1 : Int32)), .val (.int (1 : Int32)), .val (.int (1 : Int32))] [])) _
      refine XS.iload X48.here hx rfl (hb hby at_172) rfl ?_
      show Steps p.tables e below (T48.setTop (mkF m 174 #[.val (.long pg), .second, .val (.int dg), .val (.int ib), .val (.int wt), .val (.long n), .second, .val (.double d), .second, .val (.double iv), .second, .val (.int k), .val (.double wv), .second, .val (.ref o1), .val (.double vx), .second, .val (.double vr), .second, .val (.double vy), .second, .val (.double (FP.dsub vx vy)), .second, .val (.double (FP.ddiv vx (4787326403894837248 : UInt64))), .second, .val (.int (1 : Int32)), .val (.int (1 : Int32)), .val (.int (1 : Int32))] [(.int (1 : Int32))])) _
      refine XS.ifNo X48.here hx rfl (hb hby at_174) rfl ((if0 _ _).trans (feq (show ¬ ((1 : Int32) = (0 : Int32)) from (by decide))).1) ?_
      show Steps p.tables e below (T48.setTop (mkF m 177 #[.val (.long pg), .second, .val (.int dg), .val (.int ib), .val (.int wt), .val (.long n), .second, .val (.double d), .second, .val (.double iv), .second, .val (.int k), .val (.double wv), .second, .val (.ref o1), .val (.double vx), .second, .val (.double vr), .second, .val (.double vy), .second, .val (.double (FP.dsub vx vy)), .second, .val (.double (FP.ddiv vx (4787326403894837248 : UInt64))), .second, .val (.int (1 : Int32)), .val (.int (1 : Int32)), .val (.int (1 : Int32))] [])) _
      refine XS.iload X48.here hx rfl (hb hby at_177) rfl ?_
      show Steps p.tables e below (T48.setTop (mkF m 179 #[.val (.long pg), .second, .val (.int dg), .val (.int ib), .val (.int wt), .val (.long n), .second, .val (.double d), .second, .val (.double iv), .second, .val (.int k), .val (.double wv), .second, .val (.ref o1), .val (.double vx), .second, .val (.double vr), .second, .val (.double vy), .second, .val (.double (FP.dsub vx vy)), .second, .val (.double (FP.ddiv vx (4787326403894837248 : UInt64))), .second, .val (.int (1 : Int32)), .val (.int (1 : Int32)), .val (.int (1 : Int32))] [(.int (1 : Int32))])) _
      refine XS.ifNo X48.here hx rfl (hb hby at_179) rfl ((if0 _ _).trans (feq (show ¬ ((1 : Int32) = (0 : Int32)) from (by decide))).1) ?_
      show Steps p.tables e below (T48.setTop (mkF m 182 #[.val (.long pg), .second, .val (.int dg), .val (.int ib), .val (.int wt), .val (.long n), .second, .val (.double d), .second, .val (.double iv), .second, .val (.int k), .val (.double wv), .second, .val (.ref o1), .val (.double vx), .second, .val (.double vr), .second, .val (.double vy), .second, .val (.double (FP.dsub vx vy)), .second, .val (.double (FP.ddiv vx (4787326403894837248 : UInt64))), .second, .val (.int (1 : Int32)), .val (.int (1 : Int32)), .val (.int (1 : Int32))] [])) _
      refine XS.iload X48.here hx rfl (hb hby at_182) rfl ?_
      show Steps p.tables e below (T48.setTop (mkF m 184 #[.val (.long pg), .second, .val (.int dg), .val (.int ib), .val (.int wt), .val (.long n), .second, .val (.double d), .second, .val (.double iv), .second, .val (.int k), .val (.double wv), .second, .val (.ref o1), .val (.double vx), .second, .val (.double vr), .second, .val (.double vy), .second, .val (.double (FP.dsub vx vy)), .second, .val (.double (FP.ddiv vx (4787326403894837248 : UInt64))), .second, .val (.int (1 : Int32)), .val (.int (1 : Int32)), .val (.int (1 : Int32))] [(.int (1 : Int32))])) _
      refine XS.ifNo X48.here hx rfl (hb hby at_184) rfl ((if0 _ _).trans (feq (show ¬ ((1 : Int32) = (0 : Int32)) from (by decide))).1) ?_
      show Steps p.tables e below (T48.setTop (mkF m 187 #[.val (.long pg), .second, .val (.int dg), .val (.int ib), .val (.int wt), .val (.long n), .second, .val (.double d), .second, .val (.double iv), .second, .val (.int k), .val (.double wv), .second, .val (.ref o1), .val (.double vx), .second, .val (.double vr), .second, .val (.double vy), .second, .val (.double (FP.dsub vx vy)), .second, .val (.double (FP.ddiv vx (4787326403894837248 : UInt64))), .second, .val (.int (1 : Int32)), .val (.int (1 : Int32)), .val (.int (1 : Int32))] [])) _
      refine XS.dload X48.here hx rfl (hb hby at_187) rfl ?_
      show Steps p.tables e below (T48.setTop (mkF m 189 #[.val (.long pg), .second, .val (.int dg), .val (.int ib), .val (.int wt), .val (.long n), .second, .val (.double d), .second, .val (.double iv), .second, .val (.int k), .val (.double wv), .second, .val (.ref o1), .val (.double vx), .second, .val (.double vr), .second, .val (.double vy), .second, .val (.double (FP.dsub vx vy)), .second, .val (.double (FP.ddiv vx (4787326403894837248 : UInt64))), .second, .val (.int (1 : Int32)), .val (.int (1 : Int32)), .val (.int (1 : Int32))] [(.double vx)])) _
      refine XS.dconst0 X48.here hx rfl (hb hby at_189) rfl ?_
      show Steps p.tables e below (T48.setTop (mkF m 190 #[.val (.long pg), .second, .val (.int dg), .val (.int ib), .val (.int wt), .val (.long n), .second, .val (.double d), .second, .val (.double iv), .second, .val (.int k), .val (.double wv), .second, .val (.ref o1), .val (.double vx), .second, .val (.double vr), .second, .val (.double vy), .second, .val (.double (FP.dsub vx vy)), .second, .val (.double (FP.ddiv vx (4787326403894837248 : UInt64))), .second, .val (.int (1 : Int32)), .val (.int (1 : Int32)), .val (.int (1 : Int32))] [(.double (0 : UInt64)), (.double vx)])) _
      refine XS.dcmpS X48.here hx rfl (hb hby at_190) rfl (cmpV_l _) ?_
      show Steps p.tables e below (T48.setTop (mkF m 191 #[.val (.long pg), .second, .val (.int dg), .val (.int ib), .val (.int wt), .val (.long n), .second, .val (.double d), .second, .val (.double iv), .second, .val (.int k), .val (.double wv), .second, .val (.ref o1), .val (.double vx), .second, .val (.double vr), .second, .val (.double vy), .second, .val (.double (FP.dsub vx vy)), .second, .val (.double (FP.ddiv vx (4787326403894837248 : UInt64))), .second, .val (.int (1 : Int32)), .val (.int (1 : Int32)), .val (.int (1 : Int32))] [(.int (FP.cmpInt (-1) (FP.dcmp vx (0 : UInt64))))])) _
      exact kt)
    have S58 : Go p e below s₁ (entryFrame m #[(.long pg), (.int dg), (.int ib), (.int wt)] maxLocals) T48 (mkF m 199 #[.val (.long pg), .second, .val (.int dg), .val (.int ib), .val (.int wt), .val (.long n), .second, .val (.double d), .second, .val (.double iv), .second, .val (.int k), .val (.double wv), .second, .val (.ref o1), .val (.double vx), .second, .val (.double vr), .second, .val (.double vy), .second, .val (.double (FP.dsub vx vy)), .second, .val (.double (FP.ddiv vx (4787326403894837248 : UInt64))), .second, .val (.int (1 : Int32)), .val (.int (1 : Int32)), .val (.int (1 : Int32))] [(.int (1 : Int32))]) := fun t kt => S57 t (by
      refine XS.ifNo X48.here hx rfl (hb hby at_191) rfl ((if0 _ _).trans (tlt (show (0 : Int32) < (FP.cmpInt (-1) (FP.dcmp vx (0 : UInt64))) from (by rw [Zv.dcmp_gt zx own_zero (by omega)]; decide))).2.2.2) ?_
      show Steps p.tables e below (T48.setTop (mkF m 194 #[.val (.long pg), .second, .val (.int dg), .val (.int ib), .val (.int wt), .val (.long n), .second, .val (.double d), .second, .val (.double iv), .second, .val (.int k), .val (.double wv), .second, .val (.ref o1), .val (.double vx), .second, .val (.double vr), .second, .val (.double vy), .second, .val (.double (FP.dsub vx vy)), .second, .val (.double (FP.ddiv vx (4787326403894837248 : UInt64))), .second, .val (.int (1 : Int32)), .val (.int (1 : Int32)), .val (.int (1 : Int32))] [])) _
      refine XS.iconst X48.here hx rfl (hb hby at_194) ?_
      show Steps p.tables e below (T48.setTop (mkF m 195 #[.val (.long pg), .second, .val (.int dg), .val (.int ib), .val (.int wt), .val (.long n), .second, .val (.double d), .second, .val (.double iv), .second, .val (.int k), .val (.double wv), .second, .val (.ref o1), .val (.double vx), .second, .val (.double vr), .second, .val (.double vy), .second, .val (.double (FP.dsub vx vy)), .second, .val (.double (FP.ddiv vx (4787326403894837248 : UInt64))), .second, .val (.int (1 : Int32)), .val (.int (1 : Int32)), .val (.int (1 : Int32))] [(.int (1 : Int32))])) _
      refine XS.goto X48.here hx rfl (pc0 := 195) (pc' := 199) rfl (hb hby at_195) (by decide) (by decide) ?_
      show Steps p.tables e below (T48.setTop (mkF m 199 #[.val (.long pg), .second, .val (.int dg), .val (.int ib), .val (.int wt), .val (.long n), .second, .val (.double d), .second, .val (.double iv), .second, .val (.int k), .val (.double wv), .second, .val (.ref o1), .val (.double vx), .second, .val (.double vr), .second, .val (.double vy), .second, .val (.double (FP.dsub vx vy)), .second, .val (.double (FP.ddiv vx (4787326403894837248 : UInt64))), .second, .val (.int (1 : Int32)), .val (.int (1 : Int32)), .val (.int (1 : Int32))] [(.int (1 : Int32))])) _
      exact kt)
    obtain ⟨fs, hr, hrun, hended, hW, hsame⟩ := X48.leave (v := some (.int (1 : Int32))) (fun h => by first | rfl | (rw [Bd.returns] at h; cases h))
    refine ⟨_, _, S58 _ ?_, hrun, hended, _, _, rfl, ?_, ⟨_, rfl⟩, hW, hsame.mono (by decide) (by decide)⟩
    · exact retN X48 hx (t := .boolean) Bd.returns (by simp) (hb hby at_199) hr
    · show Q_law Z pg dg ib wt h0 n0 _ T48.heap _
      rw [e48]
      exact ⟨rfl, N48⟩
  · have S59 : Go p e below s₁ (entryFrame m #[(.long pg), (.int dg), (.int ib), (.int wt)] maxLocals) T48 (mkF m 191 #[.val (.long pg), .second, .val (.int dg), .val (.int ib), .val (.int wt), .val (.long n), .second, .val (.double d), .second, .val (.double iv), .second, .val (.int k), .val (.double wv), .second, .val (.ref o1), .val (.double vx), .second, .val (.double vr), .second, .val (.double vy), .second, .val (.double (FP.dsub vx vy)), .second, .val (.double (FP.ddiv vx (4787326403894837248 : UInt64))), .second, .val (.int (1 : Int32)), .val (.int (1 : Int32)), .val (.int (1 : Int32))] [(.int (FP.cmpInt (-1) (FP.dcmp vx (0 : UInt64))))]) := fun t kt => S54 t (by
      refine XS.ifYes X48.here hx rfl (pc0 := 154) (pc' := 165) rfl (hb hby at_154) rfl ((if0 _ _).trans (feq (show ¬ (k = (0 : Int32)) from hk0)).2) (by decide) (by decide) ?_
      show Steps p.tables e below (T48.setTop (mkF m 165 #[.val (.long pg), .second, .val (.int dg), .val (.int ib), .val (.int wt), .val (.long n), .second, .val (.double d), .second, .val (.double iv), .second, .val (.int k), .val (.double wv), .second, .val (.ref o1), .val (.double vx), .second, .val (.double vr), .second, .val (.double vy), .second, .val (.double (FP.dsub vx vy)), .second, .val (.double (FP.ddiv vx (4787326403894837248 : UInt64))), .second, .val (.int (1 : Int32)), .val (.int (1 : Int32)), .unset] [])) _
      refine XS.iconst X48.here hx rfl (hb hby at_165) ?_
      show Steps p.tables e below (T48.setTop (mkF m 166 #[.val (.long pg), .second, .val (.int dg), .val (.int ib), .val (.int wt), .val (.long n), .second, .val (.double d), .second, .val (.double iv), .second, .val (.int k), .val (.double wv), .second, .val (.ref o1), .val (.double vx), .second, .val (.double vr), .second, .val (.double vy), .second, .val (.double (FP.dsub vx vy)), .second, .val (.double (FP.ddiv vx (4787326403894837248 : UInt64))), .second, .val (.int (1 : Int32)), .val (.int (1 : Int32)), .unset] [(.int (1 : Int32))])) _
      refine XS.goto X48.here hx rfl (pc0 := 166) (pc' := 170) rfl (hb hby at_166) (by decide) (by decide) ?_
      show Steps p.tables e below (T48.setTop (mkF m 170 #[.val (.long pg), .second, .val (.int dg), .val (.int ib), .val (.int wt), .val (.long n), .second, .val (.double d), .second, .val (.double iv), .second, .val (.int k), .val (.double wv), .second, .val (.ref o1), .val (.double vx), .second, .val (.double vr), .second, .val (.double vy), .second, .val (.double (FP.dsub vx vy)), .second, .val (.double (FP.ddiv vx (4787326403894837248 : UInt64))), .second, .val (.int (1 : Int32)), .val (.int (1 : Int32)), .unset] [(.int (1 : Int32))])) _
      refine XS.istore X48.here hx rfl (hb hby at_170) rfl (l' := #[.val (.long pg), .second, .val (.int dg), .val (.int ib), .val (.int wt), .val (.long n), .second, .val (.double d), .second, .val (.double iv), .second, .val (.int k), .val (.double wv), .second, .val (.ref o1), .val (.double vx), .second, .val (.double vr), .second, .val (.double vy), .second, .val (.double (FP.dsub vx vy)), .second, .val (.double (FP.ddiv vx (4787326403894837248 : UInt64))), .second, .val (.int (1 : Int32)), .val (.int (1 : Int32)), .val (.int (1 : Int32))]) rfl ?_
      show Steps p.tables e below (T48.setTop (mkF m 172 #[.val (.long pg), .second, .val (.int dg), .val (.int ib), .val (.int wt), .val (.long n), .second, .val (.double d), .second, .val (.double iv), .second, .val (.int k), .val (.double wv), .second, .val (.ref o1), .val (.double vx), .second, .val (.double vr), .second, .val (.double vy), .second, .val (.double (FP.dsub vx vy)), .second, .val (.double (FP.ddiv vx (4787326403894837248 : UInt64))), .second, .val (.int (1 : Int32)), .val (.int (1 : Int32)), .val (.int (1 : Int32))] [])) _
      refine XS.iload X48.here hx rfl (hb hby at_172) rfl ?_
      show Steps p.tables e below (T48.setTop (mkF m 174 #[.val (.long pg), .second, .val (.int dg), .val (.int ib), .val (.int wt), .val (.long n), .second, .val (.double d), .second, .val (.double iv), .second, .val (.int k), .val (.double wv), .second, .val (.ref o1), .val (.double vx), .second, .val (.double vr), .second, .val (.double vy), .second, .val (.double (FP.dsub vx vy)), .second, .val (.double (FP.ddiv vx (4787326403894837248 : UInt64))), .second, .val (.int (1 : Int32)), .val (.int (1 : Int32)), .val (.int (1 : Int32))] [(.int (1 : Int32))])) _
      refine XS.ifNo X48.here hx rfl (hb hby at_174) rfl ((if0 _ _).trans (feq (show ¬ ((1 : Int32) = (0 : Int32)) from (by decide))).1) ?_
      show Steps p.tables e below (T48.setTop (mkF m 177 #[.val (.long pg), .second, .val (.int dg), .val (.int ib), .val (.int wt), .val (.long n), .second, .val (.double d), .second, .val (.double iv), .second, .val (.int k), .val (.double wv), .second, .val (.ref o1), .val (.double vx), .second, .val (.double vr), .second, .val (.double vy), .second, .val (.double (FP.dsub vx vy)), .second, .val (.double (FP.ddiv vx (4787326403894837248 : UInt64))), .second, .val (.int (1 : Int32)), .val (.int (1 : Int32)), .val (.int (1 : Int32))] [])) _
      refine XS.iload X48.here hx rfl (hb hby at_177) rfl ?_
      show Steps p.tables e below (T48.setTop (mkF m 179 #[.val (.long pg), .second, .val (.int dg), .val (.int ib), .val (.int wt), .val (.long n), .second, .val (.double d), .second, .val (.double iv), .second, .val (.int k), .val (.double wv), .second, .val (.ref o1), .val (.double vx), .second, .val (.double vr), .second, .val (.double vy), .second, .val (.double (FP.dsub vx vy)), .second, .val (.double (FP.ddiv vx (4787326403894837248 : UInt64))), .second, .val (.int (1 : Int32)), .val (.int (1 : Int32)), .val (.int (1 : Int32))] [(.int (1 : Int32))])) _
      refine XS.ifNo X48.here hx rfl (hb hby at_179) rfl ((if0 _ _).trans (feq (show ¬ ((1 : Int32) = (0 : Int32)) from (by decide))).1) ?_
      show Steps p.tables e below (T48.setTop (mkF m 182 #[.val (.long pg), .second, .val (.int dg), .val (.int ib), .val (.int wt), .val (.long n), .second, .val (.double d), .second, .val (.double iv), .second, .val (.int k), .val (.double wv), .second, .val (.ref o1), .val (.double vx), .second, .val (.double vr), .second, .val (.double vy), .second, .val (.double (FP.dsub vx vy)), .second, .val (.double (FP.ddiv vx (4787326403894837248 : UInt64))), .second, .val (.int (1 : Int32)), .val (.int (1 : Int32)), .val (.int (1 : Int32))] [])) _
      refine XS.iload X48.here hx rfl (hb hby at_182) rfl ?_
      show Steps p.tables e below (T48.setTop (mkF m 184 #[.val (.long pg), .second, .val (.int dg), .val (.int ib), .val (.int wt), .val (.long n), .second, .val (.double d), .second, .val (.double iv), .second, .val (.int k), .val (.double wv), .second, .val (.ref o1), .val (.double vx), .second, .val (.double vr), .second, .val (.double vy), .second, .val (.double (FP.dsub vx vy)), .second, .val (.double (FP.ddiv vx (4787326403894837248 : UInt64))), .second, .val (.int (1 : Int32)), .val (.int (1 : Int32)), .val (.int (1 : Int32))] [(.int (1 : Int32))])) _
      refine XS.ifNo X48.here hx rfl (hb hby at_184) rfl ((if0 _ _).trans (feq (show ¬ ((1 : Int32) = (0 : Int32)) from (by decide))).1) ?_
      show Steps p.tables e below (T48.setTop (mkF m 187 #[.val (.long pg), .second, .val (.int dg), .val (.int ib), .val (.int wt), .val (.long n), .second, .val (.double d), .second, .val (.double iv), .second, .val (.int k), .val (.double wv), .second, .val (.ref o1), .val (.double vx), .second, .val (.double vr), .second, .val (.double vy), .second, .val (.double (FP.dsub vx vy)), .second, .val (.double (FP.ddiv vx (4787326403894837248 : UInt64))), .second, .val (.int (1 : Int32)), .val (.int (1 : Int32)), .val (.int (1 : Int32))] [])) _
      refine XS.dload X48.here hx rfl (hb hby at_187) rfl ?_
      show Steps p.tables e below (T48.setTop (mkF m 189 #[.val (.long pg), .second, .val (.int dg), .val (.int ib), .val (.int wt), .val (.long n), .second, .val (.double d), .second, .val (.double iv), .second, .val (.int k), .val (.double wv), .second, .val (.ref o1), .val (.double vx), .second, .val (.double vr), .second, .val (.double vy), .second, .val (.double (FP.dsub vx vy)), .second, .val (.double (FP.ddiv vx (4787326403894837248 : UInt64))), .second, .val (.int (1 : Int32)), .val (.int (1 : Int32)), .val (.int (1 : Int32))] [(.double vx)])) _
      refine XS.dconst0 X48.here hx rfl (hb hby at_189) rfl ?_
      show Steps p.tables e below (T48.setTop (mkF m 190 #[.val (.long pg), .second, .val (.int dg), .val (.int ib), .val (.int wt), .val (.long n), .second, .val (.double d), .second, .val (.double iv), .second, .val (.int k), .val (.double wv), .second, .val (.ref o1), .val (.double vx), .second, .val (.double vr), .second, .val (.double vy), .second, .val (.double (FP.dsub vx vy)), .second, .val (.double (FP.ddiv vx (4787326403894837248 : UInt64))), .second, .val (.int (1 : Int32)), .val (.int (1 : Int32)), .val (.int (1 : Int32))] [(.double (0 : UInt64)), (.double vx)])) _
      refine XS.dcmpS X48.here hx rfl (hb hby at_190) rfl (cmpV_l _) ?_
      show Steps p.tables e below (T48.setTop (mkF m 191 #[.val (.long pg), .second, .val (.int dg), .val (.int ib), .val (.int wt), .val (.long n), .second, .val (.double d), .second, .val (.double iv), .second, .val (.int k), .val (.double wv), .second, .val (.ref o1), .val (.double vx), .second, .val (.double vr), .second, .val (.double vy), .second, .val (.double (FP.dsub vx vy)), .second, .val (.double (FP.ddiv vx (4787326403894837248 : UInt64))), .second, .val (.int (1 : Int32)), .val (.int (1 : Int32)), .val (.int (1 : Int32))] [(.int (FP.cmpInt (-1) (FP.dcmp vx (0 : UInt64))))])) _
      exact kt)
    have S60 : Go p e below s₁ (entryFrame m #[(.long pg), (.int dg), (.int ib), (.int wt)] maxLocals) T48 (mkF m 199 #[.val (.long pg), .second, .val (.int dg), .val (.int ib), .val (.int wt), .val (.long n), .second, .val (.double d), .second, .val (.double iv), .second, .val (.int k), .val (.double wv), .second, .val (.ref o1), .val (.double vx), .second, .val (.double vr), .second, .val (.double vy), .second, .val (.double (FP.dsub vx vy)), .second, .val (.double (FP.ddiv vx (4787326403894837248 : UInt64))), .second, .val (.int (1 : Int32)), .val (.int (1 : Int32)), .val (.int (1 : Int32))] [(.int (1 : Int32))]) := fun t kt => S59 t (by
      refine XS.ifNo X48.here hx rfl (hb hby at_191) rfl ((if0 _ _).trans (tlt (show (0 : Int32) < (FP.cmpInt (-1) (FP.dcmp vx (0 : UInt64))) from (by rw [Zv.dcmp_gt zx own_zero (by omega)]; decide))).2.2.2) ?_
      show Steps p.tables e below (T48.setTop (mkF m 194 #[.val (.long pg), .second, .val (.int dg), .val (.int ib), .val (.int wt), .val (.long n), .second, .val (.double d), .second, .val (.double iv), .second, .val (.int k), .val (.double wv), .second, .val (.ref o1), .val (.double vx), .second, .val (.double vr), .second, .val (.double vy), .second, .val (.double (FP.dsub vx vy)), .second, .val (.double (FP.ddiv vx (4787326403894837248 : UInt64))), .second, .val (.int (1 : Int32)), .val (.int (1 : Int32)), .val (.int (1 : Int32))] [])) _
      refine XS.iconst X48.here hx rfl (hb hby at_194) ?_
      show Steps p.tables e below (T48.setTop (mkF m 195 #[.val (.long pg), .second, .val (.int dg), .val (.int ib), .val (.int wt), .val (.long n), .second, .val (.double d), .second, .val (.double iv), .second, .val (.int k), .val (.double wv), .second, .val (.ref o1), .val (.double vx), .second, .val (.double vr), .second, .val (.double vy), .second, .val (.double (FP.dsub vx vy)), .second, .val (.double (FP.ddiv vx (4787326403894837248 : UInt64))), .second, .val (.int (1 : Int32)), .val (.int (1 : Int32)), .val (.int (1 : Int32))] [(.int (1 : Int32))])) _
      refine XS.goto X48.here hx rfl (pc0 := 195) (pc' := 199) rfl (hb hby at_195) (by decide) (by decide) ?_
      show Steps p.tables e below (T48.setTop (mkF m 199 #[.val (.long pg), .second, .val (.int dg), .val (.int ib), .val (.int wt), .val (.long n), .second, .val (.double d), .second, .val (.double iv), .second, .val (.int k), .val (.double wv), .second, .val (.ref o1), .val (.double vx), .second, .val (.double vr), .second, .val (.double vy), .second, .val (.double (FP.dsub vx vy)), .second, .val (.double (FP.ddiv vx (4787326403894837248 : UInt64))), .second, .val (.int (1 : Int32)), .val (.int (1 : Int32)), .val (.int (1 : Int32))] [(.int (1 : Int32))])) _
      exact kt)
    obtain ⟨fs, hr, hrun, hended, hW, hsame⟩ := X48.leave (v := some (.int (1 : Int32))) (fun h => by first | rfl | (rw [Bd.returns] at h; cases h))
    refine ⟨_, _, S60 _ ?_, hrun, hended, _, _, rfl, ?_, ⟨_, rfl⟩, hW, hsame.mono (by decide) (by decide)⟩
    · exact retN X48 hx (t := .boolean) Bd.returns (by simp) (hb hby at_199) hr
    · show Q_law Z pg dg ib wt h0 n0 _ T48.heap _
      rw [e48]
      exact ⟨rfl, N48⟩
set_option maxRecDepth 65536 in
set_option maxHeartbeats 40000000 in
theorem comes_1 {Post : Tables → Env → Array Value → State → Outcome → State → Prop} (hpost : ∀ tb e args s v u, (limb_1_1.after args s (.returned v) u = true ∧ limb_1_2.after args s (.returned v) u = true ∧ True) → FrameEnd s (.returned v) u (Jvm.fieldLocs frame_1_writes args s ++ Jvm.arrayLocs frame_1_arrays args s ++ Jvm.staticLocs frame_1_statics s) 16 128 → Post tb e args s (.returned v) u) :
    ArmFor flags0 classFile x code maxLocals ret World_1 tables_1 room_1 Calls_1 rest_1 Pre_1 Post := by
  intro l hfl _ _ p e ha hc hk s m args below hf hA hF happ hP
  obtain ⟨hcalls, hrest, hpre⟩ := hP
  obtain ⟨-, -, -, hnamed, -, -, -, hat⟩ := (Spec.applies_iff hf).mp happ
  obtain ⟨hg, hn⟩ := and_e (Cond.before_iff.mp (show (Jvm.Cond.and given_1 narrow_1).before args s = true from hpre))
  obtain ⟨hcount, r0⟩ := and_e hg
  obtain ⟨v0, r1⟩ := and_e r0
  obtain ⟨v1, r2⟩ := and_e r1
  obtain ⟨v2, r3⟩ := and_e r2
  obtain ⟨w0, w1, w2, w3, rfl⟩ : ∃ w0 w1 w2 w3 : Value, args = #[w0, w1, w2, w3] := by
    have hs : args.size = 4 := by simpa [Cond.value, given_1] using hcount
    obtain ⟨L⟩ := args
    match L, hs with
    | [w0, w1, w2, w3], _ => exact ⟨w0, w1, w2, w3, rfl⟩
  have hw := fun d (hd : d ∈ tables_1) => atoms_spec (ws := Jvm.Cond.code x code maxLocals ret :: tables_1) hat d (List.mem_cons_of_mem _ hd)
  have hfit : Fit s := fun {y c} hc i hi => by
    obtain ⟨ha, rfl⟩ := Array.getElem?_eq_some_iff.mp hc
    have q := List.all_eq_true.mp ((Array.all_eq_true_iff_forall_mem.mp hF) _ (Array.getElem_mem ha)) i (List.mem_range.mpr hi)
    simpa [Array.getElem?_eq_getElem hi] using q
  obtain ⟨i0, ei0⟩ := isL_v v0
  obtain rfl : w0 = (.long i0) := Option.some.inj ei0
  obtain ⟨i1, ei1⟩ := is_v v1
  obtain rfl : w1 = (.int i1) := Option.some.inj ei1
  obtain ⟨i2, ei2⟩ := is_v v2
  obtain rfl : w2 = (.int i2) := Option.some.inj ei2
  obtain ⟨i3, ei3⟩ := is_v r3
  obtain rfl : w3 = (.int i3) := Option.some.inj ei3
  obtain ⟨n, o, h1, h2, h3, _, L, rfl, ⟨rfl, N⟩, hq⟩ := rm_law l s _ hw tables_1 i0 i1 i2 i3 s.heap s.heap.size (Nat.le_refl _)  p e ha hc hk s m _ below hf ((Spec.applies_iff_loose hf).mp happ).1 ⟨rfl, State.Warmed39.refl s, rfl⟩ trivial
  refine ⟨n, _, h1, h2, h3, hpost _ _ _ _ _ _ ⟨Cond.after_iff.mpr rfl, Cond.after_iff.mpr (eq_i res_at (Term.int_eval (1)) rfl), trivial⟩ ⟨hq.1, hq.2.1, (hq.2.2.sift fun y hy => Or.inr (N y hy)).mono (by decide) (by decide)⟩⟩
theorem main_1_1 : Claimed_1_1 := comes_1 fun _ _ _ _ _ _ h hF => ⟨h.1, hF⟩
theorem main_1_2 : Claimed_1_2 := comes_1 fun _ _ _ _ _ _ h hF => ⟨h.2.1, hF⟩
end Jvm.Pilot.@@N@@
namespace Jvm.Pilot.@@N@@
open Jvm Jvm.ClassFile Sem Op Lib Jvm.Free Jvm.Stand Jvm.Pilot.@@N@@.Jvm.D
/-! MADE BY PROGRAM (witnessworld.py) out of the Statement's table words and the real class files: 9 classes; the members and pool entries that the words name. The judged class is class 1, her method 1. -/
namespace start1
open Jvm.ClassFile
def u (s : String) : CpInfo := .utf8 (stringToUtf16 s)
/-- a pool by its gaps: so many unusable entries, then the entry; so many at the end -/
def gap : Nat → List CpInfo → List CpInfo
  | 0, r => r
  | n + 1, r => .unusable :: gap n r
def poolList (es : List (Nat × CpInfo)) (last : Nat) : List CpInfo := es.foldr (fun e r => gap e.1 (e.2 :: r)) (gap last [])
def pool (es : List (Nat × CpInfo)) (last : Nat) : Array CpInfo := ⟨poolList es last⟩
def fileOf (pool : Array CpInfo) (this : Nat) (attrs : Array Attribute := #[]) (ms : Array MethodInfo := #[]) (fl : Nat := 33) (sup : Nat := 0) (ifs : Array Nat := #[]) (fds : Array FieldInfo := #[]) : ClassFile where
  minorVersion := 0
  majorVersion := 65
  constantPool := pool
  accessFlags := fl
  thisClass := this
  superClass := sup
  interfaces := ifs
  fields := fds
  methods := ms
  attributes := attrs
def plain (name : String) (sup : Option ClassId) : Class where
  name := name
  kind := .ordinary
  loader := none
  accessFlags := 33
  super := sup
  interfaces := #[]
  cf := none
  fields := #[]
  methods := #[]
  instanceTypes := #[]
  staticTypes := #[]
  resolved := #[]
  callSites := []
  init := .initialized
  statics := none
  mirror := none

def pool0 : Array CpInfo := pool [(5, u "<init>"), (0, u "()V"), (1, .class_ 10), (1, u "java/lang/Object")] 113

def k0c0 : Code := { maxStack := 0, maxLocals := 1, code := object_method_1_code, exceptionTable := #[], attributes := #[] }
def k0m0 : Method := { name := "<init>", desc := "()V", sig := { parameters := [], returnType := none }, accessFlags := 1, code := some k0c0 }
/-- java/lang/Object -/
def k0 : Class := { plain "java/lang/Object" none with
  accessFlags := 33
  interfaces := #[]
  cf := some (fileOf pool0 8 #[] #[{ accessFlags := 1, nameIndex := 5, descriptorIndex := 6, attributes := #[] }] 33 0 #[] #[])
  fields := #[]
  methods := #[k0m0]
  instanceTypes := #[]
  staticTypes := #[]
  resolved := Array.replicate 124 none
  statics := none }

def pool1 : Array CpInfo := pool [(2, .class_ 4), (1, u "java/lang/Object"), (0, u "<init>"), (0, u "()V"), (0, .long 65535), (1, .integer 1048575), (0, .double 4652218415073722368), (1, .integer 2147483647), (0, .double 4620693217682128896), (1, .class_ 16), (0, u "com/example/umbel/umbel/rank/RankEquation"), (0, .methodref 15 18), (0, .nameAndType 5 19), (0, u "(JD)V"), (0, .methodref 15 21), (0, .nameAndType 22 23), (0, u "rankTakingOwnShare"), (0, u "(DD)D"), (0, .methodref 15 25), (0, .nameAndType 26 27), (0, u "rank"), (0, u "(D)D"), (0, .double 4787326403894837248), (1, .class_ 31), (0, u "com/example/umbel/umbel/rank/RankEquationRankTakingOwnSharePinLaw"), (2, u "law"), (0, u "(JIII)Z")] 3

def k1m0 : Method := { name := "<init>", desc := "()V", sig := { parameters := [], returnType := none }, accessFlags := 1, code := none }
def k1c1 : Code := { maxStack := 7, maxLocals := 28, code := code, exceptionTable := #[], attributes := #[] }
def k1m1 : Method := { name := "law", desc := "(JIII)Z", sig := { parameters := [.long, .int, .int, .int], returnType := some .boolean }, accessFlags := 9, code := some k1c1 }
/-- com/example/umbel/umbel/rank/RankEquationRankTakingOwnSharePinLaw -/
def k1 : Class := { plain "com/example/umbel/umbel/rank/RankEquationRankTakingOwnSharePinLaw" (some 0) with
  accessFlags := 49
  interfaces := #[]
  cf := some (fileOf pool1 30 #[] #[{ accessFlags := 1, nameIndex := 5, descriptorIndex := 6, attributes := #[] }, { accessFlags := 9, nameIndex := 34, descriptorIndex := 35, attributes := #[] }] 49 2 #[] #[])
  fields := #[]
  methods := #[k1m0, k1m1]
  instanceTypes := #[]
  staticTypes := #[]
  resolved := Array.replicate 39 none
  statics := none }

def pool2 : Array CpInfo := pool [(1, .methodref 2 3), (0, .class_ 4), (0, .nameAndType 5 6), (0, u "java/lang/Object"), (0, u "<init>"), (0, u "()V"), (9, .class_ 17), (0, u "com/example/umbel/umbel/rank/RankEquation"), (0, .double 4594572339843380019), (1, .fieldref 16 21), (0, .nameAndType 22 23), (0, u "teleportShare"), (0, u "D"), (0, .fieldref 16 25), (0, .nameAndType 26 23), (0, u "danglingShare"), (0, .double 4605831338911806259), (1, .methodref 16 30), (0, .nameAndType 31 32), (0, u "rank"), (0, u "(D)D"), (0, u "DAMPING"), (1, u "TELEPORT"), (0, u "(JD)V"), (5, u "rankTakingOwnShare"), (0, u "(DD)D")] 17

def k2c0 : Code := { maxStack := 5, maxLocals := 5, code := prog_8_method_1_code, exceptionTable := #[], attributes := #[] }
def k2m0 : Method := { name := "<init>", desc := "(JD)V", sig := { parameters := [.long, .double], returnType := none }, accessFlags := 1, code := some k2c0 }
def k2c1 : Code := { maxStack := 8, maxLocals := 3, code := prog_8_method_3_code, exceptionTable := #[], attributes := #[] }
def k2m1 : Method := { name := "rank", desc := "(D)D", sig := { parameters := [.double], returnType := some .double }, accessFlags := 1, code := some k2c1 }
def k2c2 : Code := { maxStack := 8, maxLocals := 5, code := prog_8_method_4_code, exceptionTable := #[], attributes := #[] }
def k2m2 : Method := { name := "rankTakingOwnShare", desc := "(DD)D", sig := { parameters := [.double, .double], returnType := some .double }, accessFlags := 1, code := some k2c2 }
/-- com/example/umbel/umbel/rank/RankEquation -/
def k2 : Class := { plain "com/example/umbel/umbel/rank/RankEquation" (some 0) with
  accessFlags := 49
  interfaces := #[]
  cf := some (fileOf pool2 16 #[] #[{ accessFlags := 1, nameIndex := 5, descriptorIndex := 36, attributes := #[] }, { accessFlags := 1, nameIndex := 31, descriptorIndex := 32, attributes := #[] }, { accessFlags := 1, nameIndex := 42, descriptorIndex := 43, attributes := #[] }] 49 2 #[] #[{ accessFlags := 25, nameIndex := 33, descriptorIndex := 23, attributes := #[] }, { accessFlags := 26, nameIndex := 35, descriptorIndex := 23, attributes := #[] }, { accessFlags := 18, nameIndex := 22, descriptorIndex := 23, attributes := #[] }, { accessFlags := 18, nameIndex := 26, descriptorIndex := 23, attributes := #[] }])
  fields := #[{ name := "DAMPING", type := .double, accessFlags := 25, slot := 0, constantValue := 0 }, { name := "TELEPORT", type := .double, accessFlags := 26, slot := 1, constantValue := 0 }, { name := "teleportShare", type := .double, accessFlags := 18, slot := 0, constantValue := 0 }, { name := "danglingShare", type := .double, accessFlags := 18, slot := 1, constantValue := 0 }]
  methods := #[k2m0, k2m1, k2m2]
  instanceTypes := #[.double, .double]
  staticTypes := #[.double, .double]
  resolved := Array.replicate 61 none
  statics := none }

def pool3 : Array CpInfo := pool [(1, u "java/lang/Cloneable"), (0, .class_ 1), (0, u "java/lang/Object"), (0, .class_ 3)] 3

/-- java/lang/Cloneable -/
def k3 : Class := { plain "java/lang/Cloneable" (some 0) with
  accessFlags := 1537
  interfaces := #[]
  cf := some (fileOf pool3 2 #[] #[] 1537 4 #[] #[])
  fields := #[]
  methods := #[]
  instanceTypes := #[]
  staticTypes := #[]
  resolved := Array.replicate 8 none
  statics := none }

def pool4 : Array CpInfo := pool [(1, u "java/io/Serializable"), (0, .class_ 1), (0, u "java/lang/Object"), (0, .class_ 3)] 3

/-- java/io/Serializable -/
def k4 : Class := { plain "java/io/Serializable" (some 0) with
  accessFlags := 1537
  interfaces := #[]
  cf := some (fileOf pool4 2 #[] #[] 1537 4 #[] #[])
  fields := #[]
  methods := #[]
  instanceTypes := #[]
  staticTypes := #[]
  resolved := Array.replicate 8 none
  statics := none }

/-- the primitive byte -/
def k5 : Class := { plain "byte" none with kind := .primitive 'B', accessFlags := 0x411 }
/-- [B -/
def k6 : Class := { plain "[B" (some 0) with kind := .array 5 .byte, interfaces := #[3, 4], accessFlags := 1041 }

/-- the primitive int -/
def k7 : Class := { plain "int" none with kind := .primitive 'I', accessFlags := 0x411 }
/-- [I -/
def k8 : Class := { plain "[I" (some 0) with kind := .array 7 .int, interfaces := #[3, 4], accessFlags := 1041 }

def heap : Heap := #[]
def classes : Array Class := #[k0, k1, k2, k3, k4, k5, k6, k7, k8]
def interned : List (Array UInt16 × Addr) := []
def slotsUsed : Nat := 0
def theMethod : MethodId := ⟨1, 1⟩
def args0 : Array Value := #[.long 5, .int 3, .int 4, .int 2]
def aboutOver (below : List Frame) : State where
  vm := { classes := classes, interned := interned.toArray }
  heap := heap
  slotsUsed := slotsUsed
  threads := #[{ frames := .invoking theMethod args0 :: below }]
def below0 : List Frame := [.native { method := ⟨0, 0⟩, args := #[] }]
def about1 : State := aboutOver below0
def p0 : Program := .bare "" "" ""
def e0 : Env := launch0.env 0 0 0
theorem w_frames : about1.frames = Frame.invoking theMethod args0 :: below0 := rfl
set_option maxRecDepth 65536 in
theorem w_args : argsFit about1.vm theMethod args0 = true := by decide +kernel
set_option maxRecDepth 65536 in
theorem w_heap : heapFits about1 = true := by decide +kernel
set_option maxRecDepth 65536 in
theorem w_runnable : about1.curStatus? = some .runnable := by decide +kernel
set_option maxRecDepth 65536 in
theorem w_alone : about1.alone = true := by decide +kernel
set_option maxRecDepth 65536 in
theorem w_named : about1.methodNamed? x = some theMethod := by decide +kernel
set_option maxRecDepth 65536 in
theorem w_hears : about1.hears theMethod below0 = true := by decide +kernel
set_option maxRecDepth 65536 in
theorem w_ripe : about1.ripe theMethod args0 below0 = true := by decide +kernel
theorem w_running : about1.status = .running := rfl
set_option maxRecDepth 65536 in
theorem w_room : about1.hasRoom e0.platform room_1 = true :=
  launch0.hasRoom_least _ room_1 (by decide +kernel) (by decide +kernel) (by decide +kernel) (by decide +kernel) (by decide +kernel) (by decide +kernel)
theorem allAtoms_all (ts : List Jvm.Cond) (a : Array Jvm.Value) (st : Jvm.State) : (allAtoms ts).before a st = ts.all (fun c => c.before a st) := by
  induction ts with
  | nil => rfl
  | cons c t ih =>
    show (Jvm.Cond.and c (allAtoms t)).before a st = _
    rw [Jvm.Cond.before_and, ih, List.all_cons]
def words1 : List Jvm.Cond := Jvm.Cond.code x code maxLocals ret :: tables_1
/-- a 'code' word, met by the world's own term for the bytes: nothing is compared byte by byte -/
theorem code_word {y : MethodName} {bytes : ByteArray} {mx : Nat} {rt : Option FieldType} {a : Array Value} {s : State} {m : MethodId} {meth : Method} {c : Code} (h1 : s.methodNamed? y = some m) (h2 : s.vm.method? m = some meth) (h3 : meth.code = some c) (h4 : c.code = bytes)
    (h5 : (c.maxLocals == mx && c.exceptionTable.isEmpty && decide (c.maxStack ≤ mostOperands) && decide (meth.sig.returnType = rt) && !meth.locks && decide (parseMethodDescriptor y.desc = some meth.sig)) = true) : (Jvm.Cond.code y bytes mx rt).before a s = true := by
  simp only [Bool.and_eq_true, beq_iff_eq, Bool.not_eq_true', decide_eq_true_eq] at h5
  obtain ⟨⟨⟨⟨⟨g1, g2⟩, g3⟩, g4⟩, g5⟩, g6⟩ := h5
  simp [Cond.before, Cond.holds, Cond.value, h1, h2, h3, h4, g1, g2, g3, g4, g5, g6]
def isCode : Jvm.Cond → Bool
  | .code _ _ _ _ => true
  | _ => false
theorem all_split {L : List Jvm.Cond} {P : Jvm.Cond → Bool} (h1 : L.all (fun c => isCode c || P c) = true) (h2 : ∀ c ∈ L.filter isCode, P c = true) : L.all P = true := by
  refine List.all_eq_true.mpr fun c hc => ?_
  have h := List.all_eq_true.mp h1 c hc
  rcases Bool.eq_false_or_eq_true (isCode c) with hi | hi
  · exact h2 c (List.mem_filter.mpr ⟨hc, hi⟩)
  · simpa [hi] using h
set_option maxRecDepth 65536 in
theorem w_c0 : (Jvm.Cond.code x code maxLocals ret).before args0 about1 = true := code_word (m := ⟨1, 1⟩) (meth := k1m1) (c := k1c1) (by decide +kernel) rfl rfl rfl (by decide +kernel)
set_option maxRecDepth 65536 in
theorem w_c1 : (Jvm.Cond.code ({ cls := "com/example/umbel/umbel/rank/RankEquation", name := "<init>", desc := "(JD)V" } : Jvm.MethodName) prog_8_method_1_code (5 : Nat) (Option.none : Option Jvm.ClassFile.FieldType)).before args0 about1 = true := code_word (m := ⟨2, 0⟩) (meth := k2m0) (c := k2c0) (by decide +kernel) rfl rfl rfl (by decide +kernel)
set_option maxRecDepth 65536 in
theorem w_c2 : (Jvm.Cond.code ({ cls := "java/lang/Object", name := "<init>", desc := "()V" } : Jvm.MethodName) object_method_1_code (1 : Nat) (Option.none : Option Jvm.ClassFile.FieldType)).before args0 about1 = true := code_word (m := ⟨0, 0⟩) (meth := k0m0) (c := k0c0) (by decide +kernel) rfl rfl rfl (by decide +kernel)
set_option maxRecDepth 65536 in
theorem w_c3 : (Jvm.Cond.code ({ cls := "com/example/umbel/umbel/rank/RankEquation", name := "rankTakingOwnShare", desc := "(DD)D" } : Jvm.MethodName) prog_8_method_4_code (5 : Nat) (Option.some Jvm.ClassFile.FieldType.double)).before args0 about1 = true := code_word (m := ⟨2, 2⟩) (meth := k2m2) (c := k2c2) (by decide +kernel) rfl rfl rfl (by decide +kernel)
set_option maxRecDepth 65536 in
theorem w_c4 : (Jvm.Cond.code ({ cls := "com/example/umbel/umbel/rank/RankEquation", name := "rank", desc := "(D)D" } : Jvm.MethodName) prog_8_method_3_code (3 : Nat) (Option.some Jvm.ClassFile.FieldType.double)).before args0 about1 = true := code_word (m := ⟨2, 1⟩) (meth := k2m1) (c := k2c1) (by decide +kernel) rfl rfl rfl (by decide +kernel)
def codes1 : List Jvm.Cond := [Jvm.Cond.code x code maxLocals ret, Jvm.Cond.code ({ cls := "com/example/umbel/umbel/rank/RankEquation", name := "<init>", desc := "(JD)V" } : Jvm.MethodName) prog_8_method_1_code (5 : Nat) (Option.none : Option Jvm.ClassFile.FieldType), Jvm.Cond.code ({ cls := "java/lang/Object", name := "<init>", desc := "()V" } : Jvm.MethodName) object_method_1_code (1 : Nat) (Option.none : Option Jvm.ClassFile.FieldType), Jvm.Cond.code ({ cls := "com/example/umbel/umbel/rank/RankEquation", name := "rankTakingOwnShare", desc := "(DD)D" } : Jvm.MethodName) prog_8_method_4_code (5 : Nat) (Option.some Jvm.ClassFile.FieldType.double), Jvm.Cond.code ({ cls := "com/example/umbel/umbel/rank/RankEquation", name := "rank", desc := "(D)D" } : Jvm.MethodName) prog_8_method_3_code (3 : Nat) (Option.some Jvm.ClassFile.FieldType.double)]
set_option maxRecDepth 65536 in
theorem codes_eq : words1.filter isCode = codes1 := rfl
theorem w_codes : ∀ c ∈ words1.filter isCode, c.before args0 about1 = true := by
  rw [codes_eq]
  intro c hc
  simp only [codes1, List.mem_cons, List.not_mem_nil, or_false] at hc
  rcases hc with rfl | rfl | rfl | rfl | rfl
  · exact w_c0
  · exact w_c1
  · exact w_c2
  · exact w_c3
  · exact w_c4
set_option maxRecDepth 65536 in
theorem w_t1 : (words1.take 24).all (fun c => isCode c || c.before args0 about1) = true := by decide +kernel
set_option maxRecDepth 65536 in
theorem w_t2 : (words1.drop 24).all (fun c => isCode c || c.before args0 about1) = true := by decide +kernel
theorem w_tables : (allAtoms (Jvm.Cond.code x code maxLocals ret :: tables_1)).before args0 about1 = true := by
  rw [allAtoms_all]
  show words1.all (fun c => c.before args0 about1) = true
  refine all_split ?_ w_codes
  rw [← List.take_append_drop 24 words1, List.all_append, w_t1, w_t2]
  rfl
set_option maxRecDepth 65536 in
theorem w_case : (Jvm.Cond.and given_1 narrow_1).before args0 about1 = true := by decide +kernel
theorem w_applies : (headSpec (Jvm.Cond.code x code maxLocals ret :: tables_1) room_1).applies x e0.platform about1 = true :=
  (Spec.applies_iff w_frames).mpr ⟨w_running, w_runnable, w_alone, w_named, w_hears, w_ripe, w_room, w_tables⟩
theorem atStart : AtStart classFile x code maxLocals ret World_1 tables_1 room_1 Calls_1 rest_1 Pre_1 launch0 p0 e0 about1 theMethod args0 below0 :=
  ⟨lists_1, trivial, launch0.admits_env _ _ _, launch0.least_env, fairChoices_fair.cas, fairChoices_fair.clock, w_frames, w_args, w_heap, w_applies, trivial, trivial, w_case⟩
end start1
theorem witness_1 : WitnessClaimed_1 := ⟨start1.p0, start1.e0, start1.about1, start1.theMethod, start1.args0, start1.below0, start1.atStart⟩
end Jvm.Pilot.@@N@@
