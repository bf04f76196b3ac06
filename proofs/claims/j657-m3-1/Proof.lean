import JvmDerived
import JvmDerived.Pilot.@@N@@Statement
import JvmDerived.Pilot.@@N@@Code
set_option linter.unusedVariables false
set_option linter.unusedSimpArgs false
namespace Jvm.RoadKit
open Sem ClassFile Op Lib Jvm.Stand Jvm.Free Jvm.LawKit
section New
variable {p : Program} {l : Launch} {e : Env} {R : Room} {s : State} {m : MethodId} {args : Array Value} {below : List Frame} {meth : Method} {c : Code} {T : State} {locs : List Loc} {cells slots : Nat}
theorem retI (X : Stand p l e R s m args below meth c T locs cells slots) (hx : p.tables.exec = Jvm.exec) {pc : Nat} {Ls : Array Slot} {z : Int32} {rest : List Value} (hret : meth.sig.returnType = some .int) (hd : decode c.code pc = .ok (.ireturn, 1)) {fs : List Frame}
    (hl : ∀ (f : JFrame) (acts : List Action), f.method = m → f.locked = none → f.entered = [] → (doReturn e (T.setTop f) acts (some (.int z))).1 = T.setFrames fs) : Steps p.tables e below (T.setTop (mkF m pc Ls (.int z :: rest))) (T.setFrames fs) := by
  have hm' : T.vm.method? m = some meth := X.method'
  have hn : narrow .int (.int z) = .int z := rfl
  show Steps p.tables e below (T.setTop { method := m, pc := pc, locals := Ls, stack := _ :: rest, locked := none }) _
  jvm_step X.here [X.here.top, hx, hd, hm', hret, hn]
  first | (intro acts; rw [hl _ acts rfl rfl rfl]) | rw [hl _ _ rfl rfl rfl]
  exact Steps.refl _
end New
end Jvm.RoadKit
namespace Jvm.Pilot.@@N@@
open Jvm Jvm.ClassFile Sem Op Lib Jvm.Free Jvm.Stand Jvm.LawKit Jvm.RoadKit Bundle Jvm.Free.Fl Jvm.Pilot.@@N@@.Jvm.D
/-- the run comes from the frame g0 (over T0) to the frame g (over T) -/
abbrev Go (p : Program) (e : Env) (below : List Frame) (T0 : State) (g0 : JFrame) (T : State) (g : JFrame) : Prop :=
  ∀ t, Steps p.tables e below (T.setTop g) t → Steps p.tables e below (T0.setTop g0) t
theorem d1_0 : decode prog_19_method_1_code 0 = .ok (.aload_n 0, 1) := by decide +kernel
theorem d1_1 : decode prog_19_method_1_code 1 = .ok (.invokespecial 1, 3) := by decide +kernel
theorem d1_4 : decode prog_19_method_1_code 4 = .ok (.aload_n 0, 1) := by decide +kernel
theorem d1_5 : decode prog_19_method_1_code 5 = .ok (.dload_n 1, 1) := by decide +kernel
theorem d1_6 : decode prog_19_method_1_code 6 = .ok (.putfield 7, 3) := by decide +kernel
theorem d1_9 : decode prog_19_method_1_code 9 = .ok (.aload_n 0, 1) := by decide +kernel
theorem d1_10 : decode prog_19_method_1_code 10 = .ok (.dload_n 3, 1) := by decide +kernel
theorem d1_11 : decode prog_19_method_1_code 11 = .ok (.putfield 13, 3) := by decide +kernel
theorem d1_14 : decode prog_19_method_1_code 14 = .ok (.return_, 1) := by decide +kernel
theorem d3_0 : decode prog_19_method_4_code 0 = .ok (.aload_n 0, 1) := by decide +kernel
theorem d3_1 : decode prog_19_method_4_code 1 = .ok (.getfield 7, 3) := by decide +kernel
theorem d3_4 : decode prog_19_method_4_code 4 = .ok (.aload_n 1, 1) := by decide +kernel
theorem d3_5 : decode prog_19_method_4_code 5 = .ok (.getfield 7, 3) := by decide +kernel
theorem d3_8 : decode prog_19_method_4_code 8 = .ok (.dsub, 1) := by decide +kernel
theorem d3_9 : decode prog_19_method_4_code 9 = .ok (.aload_n 0, 1) := by decide +kernel
theorem d3_10 : decode prog_19_method_4_code 10 = .ok (.getfield 13, 3) := by decide +kernel
theorem d3_13 : decode prog_19_method_4_code 13 = .ok (.aload_n 1, 1) := by decide +kernel
theorem d3_14 : decode prog_19_method_4_code 14 = .ok (.getfield 13, 3) := by decide +kernel
theorem d3_17 : decode prog_19_method_4_code 17 = .ok (.dsub, 1) := by decide +kernel
theorem d3_18 : decode prog_19_method_4_code 18 = .ok (.dadd, 1) := by decide +kernel
theorem d3_19 : decode prog_19_method_4_code 19 = .ok (.dreturn, 1) := by decide +kernel
theorem pd__DD_V : parseMethodDescriptor "(DD)V" = some ⟨[.double, .double], none⟩ := by decide +kernel
theorem pd__Lcom_example_blindroute_blindroute_electrical_DoubleDouble_Lcom_example_blindroute_blindroute_electrical_DoubleDouble__D : parseMethodDescriptor "(Lcom/example/blindroute/blindroute/electrical/DoubleDouble;Lcom/example/blindroute/blindroute/electrical/DoubleDouble;)D" = some ⟨[(.object "com/example/blindroute/blindroute/electrical/DoubleDouble"), (.object "com/example/blindroute/blindroute/electrical/DoubleDouble")], some .double⟩ := by decide +kernel
/-! ## own toolkit: doubles by their whole number of units of 2^-1074 -/
section OwnFP
open Jvm.FP.Core
/-- a finite double, and its value in units of 2^-1074 -/
def Zv (a : UInt64) (z : Int) : Prop := DFin a ∧ zval b64 (val64 a) = z
theorem own_qmax : b64.qmax = 971 := by decide +kernel
theorem own_rep (s : Bool) {k j : Nat} (hk : k < 2 ^ 53) (hj : j ≤ 2045) : ∃ V : Datum, FP.Core.fits b64 V ∧ V ≠ .nan ∧ zval b64 V = signed s (k * 2 ^ j) := by
  have q1 := qmin_b64
  have q2 := own_qmax
  obtain ⟨c', q', e1, e2⟩ := round_exact good_b64 s (c := k) (q := b64.qmin + (j : Int)) hk (by omega) (by omega)
  refine ⟨_, round_fits good_b64 (.fin s k (b64.qmin + (j : Int))), by rw [e1]; simp, ?_⟩
  rw [e1]
  show signed s (inUnits c' q' b64.qmin) = _
  rw [e2]
  unfold inUnits
  rw [show (b64.qmin + (j : Int) - b64.qmin).toNat = j by omega]
theorem own_repZ {z k : Int} {j : Nat} (hk : k.natAbs < 2 ^ 53) (hj : j ≤ 2045) (hz : z = k * ((2 ^ j : Nat) : Int)) : ∃ V : Datum, FP.Core.fits b64 V ∧ V ≠ .nan ∧ zval b64 V = z := by
  obtain ⟨V, h1, h2, h3⟩ := own_rep (decide (k < 0)) hk hj
  refine ⟨V, h1, h2, ?_⟩
  rw [h3, hz, signed_mul]
  have : signed (decide (k < 0)) k.natAbs = k := by
    unfold signed
    by_cases h : k < 0
    · simp only [h, decide_true, if_true]; omega
    · simp only [h, decide_false]; simp; omega
  rw [this]
theorem own_round {s : Bool} {c : Nat} {q : Int} (hq : b64.qmin ≤ q) {z k : Int} {j : Nat} (hz : signed s (inUnits c q b64.qmin) = z) (hk : k.natAbs < 2 ^ 53) (hj : j ≤ 2045) (hzk : z = k * ((2 ^ j : Nat) : Int)) : zval b64 (round b64 (.fin s c q)) = z := by
  obtain ⟨V, h1, h2, h3⟩ := own_repZ hk hj hzk
  have e : ((2 ^ (b64.qmin - b64.qmin).toNat : Nat) : Int) = 1 := by rw [show (b64.qmin - b64.qmin).toNat = 0 by omega]; rfl
  apply Int.le_antisymm
  · rw [← h3]
    exact zval_round_le good_b64 h1 h2 (e0 := b64.qmin) (Int.le_refl _) hq (by rw [hz, h3, e]; omega)
  · rw [← h3]
    exact zval_round_ge good_b64 h1 h2 (e0 := b64.qmin) (Int.le_refl _) hq (by rw [hz, h3, e]; omega)
theorem own_small {k : Int} {j : Nat} (hk : k.natAbs < 2 ^ 53) (hj : j ≤ 2045) : (k * ((2 ^ j : Nat) : Int)).natAbs < 2 ^ 2098 := by
  rw [Int.natAbs_mul, Int.natAbs_natCast]
  have h2 : 2 ^ j ≤ 2 ^ 2045 := Nat.pow_le_pow_right (by decide) hj
  calc k.natAbs * 2 ^ j ≤ k.natAbs * 2 ^ 2045 := Nat.mul_le_mul_left _ h2
    _ < 2 ^ 53 * 2 ^ 2045 := Nat.mul_lt_mul_of_pos_right hk (Nat.two_pow_pos _)
    _ = 2 ^ 2098 := by rw [← Nat.pow_add]
theorem own_fin {d : Datum} (hn : d ≠ .nan) (h : (zval b64 d).natAbs < 2 ^ 2098) : ∃ s c q, d = .fin s c q := by
  cases d with
  | nan => exact absurd rfl hn
  | inf s =>
    exfalso
    have e : (zval b64 (.inf s)).natAbs = b64.tails * 2 ^ (b64.exps - 2) := natAbs_signed _ _
    rw [e] at h
    exact absurd h (by decide +kernel)
  | fin s c q => exact ⟨s, c, q, rfl⟩
theorem own_round_fin {s : Bool} {c : Nat} {q : Int} (hq : b64.qmin ≤ q) {z k : Int} {j : Nat} (hz : signed s (inUnits c q b64.qmin) = z) (hk : k.natAbs < 2 ^ 53) (hj : j ≤ 2045) (hzk : z = k * ((2 ^ j : Nat) : Int)) {a : UInt64} (ha : val64 a = round b64 (.fin s c q)) : Zv a z := by
  have h := own_round hq hz hk hj hzk
  refine ⟨?_, by rw [ha]; exact h⟩
  unfold DFin
  rw [ha]
  exact own_fin (roundRatio_ne_nan _ _ _ _ _) (by rw [h, hzk]; exact own_small hk hj)
theorem Zv.fin {a : UInt64} {z : Int} (h : Zv a z) : Fin64 a := fin64_core.mpr h.1
theorem Zv.noNaN {a : UInt64} {z : Int} (h : Zv a z) : NoNaN64 a := h.fin.noNaN
theorem Zv.dadd {a b : UInt64} {x y k : Int} {j : Nat} (ha : Zv a x) (hb : Zv b y) (hk : k.natAbs < 2 ^ 53) (hj : j ≤ 2045) (hz : x + y = k * ((2 ^ j : Nat) : Int)) : Zv (FP.dadd a b) (x + y) := by
  obtain ⟨⟨s, c, q, e1⟩, z1⟩ := ha
  obtain ⟨⟨t, d, r, e2⟩, z2⟩ := hb
  have f1 := val64_fits a
  have f2 := val64_fits b
  rw [e1] at f1 z1
  rw [e2] at f2 z2
  obtain ⟨sg, n, e, e3, e4, e5⟩ := sum_units f1 f2
  rw [z1, z2] at e5
  exact own_round_fin e4 e5 hk hj hz (by show val64 (FP.Core.dadd a b) = _; rw [val64_dadd, e1, e2, e3])
theorem Zv.dneg {a : UInt64} {x : Int} (ha : Zv a x) : Zv (FP.dneg a) (-x) := by
  obtain ⟨⟨s, c, q, e1⟩, z1⟩ := ha
  have e := FP.val64_dneg a
  refine ⟨⟨!s, c, q, by rw [e, e1]; rfl⟩, by rw [e, zval_negate, z1]⟩
theorem Zv.dsub {a b : UInt64} {x y k : Int} {j : Nat} (ha : Zv a x) (hb : Zv b y) (hk : k.natAbs < 2 ^ 53) (hj : j ≤ 2045) (hz : x - y = k * ((2 ^ j : Nat) : Int)) : Zv (FP.dsub a b) (x - y) := by
  obtain ⟨⟨s, c, q, e1⟩, z1⟩ := ha
  obtain ⟨⟨t, d, r, e2⟩, z2⟩ := hb
  have f1 := val64_fits a
  have f2 := negate_fits (val64_fits b)
  have z3 : zval b64 (negate (val64 b)) = -y := by rw [zval_negate, z2]
  rw [e1] at f1 z1
  rw [e2] at f2 z3
  obtain ⟨sg, n, e, e3, e4, e5⟩ := sum_units f1 (show FP.Core.fits b64 (.fin (!t) d r) from f2)
  rw [z1, show zval b64 (.fin (!t) d r) = -y from z3] at e5
  exact own_round_fin e4 (z := x - y) (by rw [e5]; omega) hk hj hz (by show val64 (FP.Core.dsub a b) = _; rw [val64_dsub, e1, e2]; show round b64 (exactSum _ (.fin (!t) d r)) = _; rw [e3])
theorem own_ofInt (i : Int) : signed (decide (i < 0)) (inUnits i.natAbs 0 b64.qmin) = i * ((2 ^ 1074 : Nat) : Int) := by
  unfold inUnits
  rw [signed_mul, qmin_b64]
  have : signed (decide (i < 0)) i.natAbs = i := by
    unfold signed
    by_cases h : i < 0
    · simp only [h, decide_true, if_true]; omega
    · simp only [h, decide_false]; simp; omega
  rw [this]
  rfl
theorem Zv.l2d {n : Int64} {k : Int} {j : Nat} (hk : k.natAbs < 2 ^ 53) (hj : j ≤ 971) (hn : n.toInt = k * ((2 ^ j : Nat) : Int)) : Zv (FP.l2d n) (n.toInt * ((2 ^ 1074 : Nat) : Int)) :=
  own_round_fin (q := 0) (by rw [qmin_b64]; decide) (own_ofInt n.toInt) hk (show j + 1074 ≤ 2045 by omega) (by rw [hn, Int.mul_assoc, Nat.pow_add, Int.natCast_mul]) (val64_l2d n)
theorem Zv.i2d (n : Int32) : Zv (FP.i2d n) (n.toInt * ((2 ^ 1074 : Nat) : Int)) :=
  own_round_fin (q := 0) (k := n.toInt) (j := 1074) (by rw [qmin_b64]; decide) (own_ofInt n.toInt) (by have := int32_abs n; omega) (by decide) rfl (val64_i2d n)
theorem Zv.dcmp_eq {a b : UInt64} {x : Int} (ha : Zv a x) (hb : Zv b x) : FP.dcmp a b = some .eq := by
  show FP.Core.dcmp a b = _
  rw [FP.Core.dcmp_eq]
  exact ⟨ha.1.ne_nan, hb.1.ne_nan, ha.2.trans hb.2.symm⟩
theorem Zv.dcmp_lt {a b : UInt64} {x y : Int} (ha : Zv a x) (hb : Zv b y) (h : x < y) : FP.dcmp a b = some .lt := by
  show FP.Core.dcmp a b = _
  rw [FP.Core.dcmp_lt]
  exact ⟨ha.1.ne_nan, hb.1.ne_nan, by rw [ha.2, hb.2]; exact h⟩
theorem Zv.dcmp_gt {a b : UInt64} {x y : Int} (ha : Zv a x) (hb : Zv b y) (h : y < x) : FP.dcmp a b = some .gt := by
  show FP.Core.dcmp a b = _
  rw [FP.Core.dcmp_gt]
  exact ⟨ha.1.ne_nan, hb.1.ne_nan, by rw [ha.2, hb.2]; exact h⟩
theorem own_zmag {a : UInt64} {x : Int} (ha : Zv a x) : zmag b64 (val64 a) = x.natAbs := by
  have h := congrArg Int.natAbs ha.2
  rw [← h]
  exact (natAbs_signed _ _).symm
/-- a quotient by a positive number, between two written numbers -/
theorem Zv.ddiv {a b : UInt64} {x y : Int} (ha : Zv a x) (hb : Zv b y) (hy : 0 < y) {k1 k2 j1 j2 : Nat} (hk1 : k1 < 2 ^ 53) (hj1 : j1 ≤ 2045) (hk2 : k2 < 2 ^ 53) (hj2 : j2 ≤ 2045)
    (h1 : k1 * 2 ^ j1 * y.natAbs ≤ x.natAbs * 2 ^ 1074) (h2 : x.natAbs * 2 ^ 1074 ≤ k2 * 2 ^ j2 * y.natAbs) : ∃ m : Nat, k1 * 2 ^ j1 ≤ m ∧ m ≤ k2 * 2 ^ j2 ∧ Zv (FP.ddiv a b) (if x < 0 then -(m : Int) else (m : Int)) := by
  have m1 := own_zmag ha
  have m2 := own_zmag hb
  obtain ⟨⟨s, A, q, e1⟩, z1⟩ := ha
  obtain ⟨⟨t, B, r, e2⟩, z2⟩ := hb
  have f1 := val64_fits a
  have f2 := val64_fits b
  rw [e1] at f1 m1 z1
  rw [e2] at f2 m2 z2
  have qa : b64.qmin ≤ q := f1.2.1
  have qb : b64.qmin ≤ r := f2.2.1
  have qm := qmin_b64
  have m1' : A * 2 ^ (q - b64.qmin).toNat = x.natAbs := m1
  have m2' : B * 2 ^ (r - b64.qmin).toNat = y.natAbs := m2
  have hB : 0 < B := Nat.pos_of_ne_zero fun e => by rw [e, Nat.zero_mul] at m2'; omega
  have ht : t = false := by
    cases t with
    | false => rfl
    | true =>
      exfalso
      have : -((B * 2 ^ (r - b64.qmin).toNat : Nat) : Int) = y := z2
      omega
  subst ht
  have ed : val64 (FP.ddiv a b) = roundRatio b64 s A B (q - r) := by
    show val64 (FP.Core.ddiv a b) = _
    rw [val64_ddiv, e1, e2]
    show (if B = 0 then _ else roundRatio b64 (s != false) A B (q - r)) = _
    rw [if_neg (by omega)]
    simp
  have eA : inUnits A (q - r) (2 * b64.qmin - r) = x.natAbs * 2 ^ 1074 := by
    rw [← m1']
    unfold inUnits
    rw [show (q - r - (2 * b64.qmin - r)).toNat = (q - b64.qmin).toNat + 1074 by omega, Nat.pow_add, Nat.mul_assoc]
  have eV : ∀ z : Nat, z * 2 ^ (b64.qmin - (2 * b64.qmin - r)).toNat * B = z * y.natAbs := fun z => by
    rw [show (b64.qmin - (2 * b64.qmin - r)).toNat = (r - b64.qmin).toNat by omega, Nat.mul_assoc, ← m2', Nat.mul_comm B]
  obtain ⟨V1, v1, n1, w1⟩ := own_rep false hk1 hj1
  obtain ⟨V2, v2, n2, w2⟩ := own_rep false hk2 hj2
  have zV : ∀ (V : Datum) (k : Nat), zval b64 V = signed false k → zmag b64 V = k := fun V k h => by
    have h := congrArg Int.natAbs h
    rw [show (signed false k).natAbs = k from natAbs_signed _ _] at h
    exact (natAbs_signed _ _).symm.trans h
  have u1 := zV _ _ w1
  have u2 := zV _ _ w2
  have lo := zmag_roundRatio_ge good_b64 (s := s) (A := A) (B := B) (e := q - r) (e0 := 2 * b64.qmin - r) hB v1 (by omega) (by omega) (by rw [eA, eV, u1]; exact h1)
  have hi := zmag_roundRatio_le good_b64 (s := s) (A := A) (B := B) (e := q - r) (e0 := 2 * b64.qmin - r) hB v2 n2 (by omega) (by omega) (by rw [eA, eV, u2]; exact h2)
  rw [u1] at lo
  rw [u2] at hi
  refine ⟨zmag b64 (roundRatio b64 s A B (q - r)), lo, hi, ?_, ?_⟩
  · unfold DFin
    rw [ed]
    refine own_fin (roundRatio_ne_nan _ _ _ _ _) ?_
    rw [show (zval b64 (roundRatio b64 s A B (q - r))).natAbs = _ from natAbs_signed _ _]
    refine Nat.lt_of_le_of_lt hi ?_
    have := own_small (k := (k2 : Int)) (j := j2) (by omega) hj2
    rw [← Int.natCast_mul, Int.natAbs_natCast] at this
    exact this
  · rw [ed]
    unfold zval
    rw [sgn_roundRatio]
    have z1' : signed s (A * 2 ^ (q - b64.qmin).toNat) = x := z1
    by_cases hx : x < 0
    · rw [if_pos hx]
      cases s with
      | true => rfl
      | false => exfalso; have : ((A * 2 ^ (q - b64.qmin).toNat : Nat) : Int) = x := z1'; omega
    · rw [if_neg hx]
      cases s with
      | false => rfl
      | true =>
        have h3 : -((A * 2 ^ (q - b64.qmin).toNat : Nat) : Int) = x := z1'
        have hA : A = 0 := by
          rcases Nat.eq_zero_or_pos A with h | h
          · exact h
          · exfalso; have := Nat.mul_pos h (Nat.two_pow_pos (q - b64.qmin).toNat); omega
        subst hA
        have : zmag b64 (roundRatio b64 true 0 B (q - r)) = 0 := by
          unfold roundRatio
          rw [if_pos rfl]
          show inUnits 0 _ _ = 0
          unfold inUnits
          exact Nat.zero_mul _
        rw [this]; rfl
theorem own_one : Zv (4607182418800017408 : UInt64) (((2 ^ 1074 : Nat) : Int)) := by
  have h : (4607182418800017408 : UInt64) = FP.i2d 1 := by decide +kernel
  rw [h]
  have := Zv.i2d 1
  rw [show (1 : Int32).toInt = 1 from rfl, Int.one_mul] at this
  exact this
theorem own_zero : Zv (0 : UInt64) 0 := ⟨⟨_, _, _, val64_zero⟩, zval64_zero⟩
end OwnFP
theorem own_ushr4 (p0 : Int32) : 0 ≤ (((p0.toUInt32 >>> ((4 : Int32) &&& 31).toUInt32).toInt32)).toInt ∧ (((p0.toUInt32 >>> ((4 : Int32) &&& 31).toUInt32).toInt32)).toInt < 268435456 := by
  have h := c_iushr p0 (4 : Int32) 4 (by decide) (by decide)
  rw [h]
  have := Int.emod_nonneg p0.toInt (show (4294967296 : Int) ≠ 0 by decide)
  have := Int.emod_lt_of_pos p0.toInt (show (0 : Int) < 4294967296 by decide)
  omega
theorem own_s5 (p0 : Int32) : 53 ≤ ((53 : Int32) + (((p0.toUInt32 >>> ((4 : Int32) &&& 31).toUInt32).toInt32) % (10 : Int32))).toInt ∧ ((53 : Int32) + (((p0.toUInt32 >>> ((4 : Int32) &&& 31).toUInt32).toInt32) % (10 : Int32))).toInt ≤ 62 := by
  have h := own_ushr4 p0
  generalize ((p0.toUInt32 >>> ((4 : Int32) &&& 31).toUInt32).toInt32) = x at h ⊢
  have h2 := (c_irem x (10 : Int32) 10 rfl).1 h.1
  have h3 := Int.emod_nonneg x.toInt (show (10 : Int) ≠ 0 by decide)
  have h4 := Int.emod_lt_of_pos x.toInt (show (0 : Int) < 10 by decide)
  have e : ((53 : Int32) + x % 10).toInt = 53 + (x % 10).toInt := by
    rw [Int32.toInt_add, show (53 : Int32).toInt = 53 from rfl]
    exact Int.bmod_eq_of_le (by omega) (by omega)
  rw [e]; omega
theorem own_mask (x : Int32) : 0 ≤ (x &&& (1048575 : Int32)).toInt64.toInt ∧ (x &&& (1048575 : Int32)).toInt64.toInt < 1048576 := by
  have h := c_and x (1048575 : Int32) (by decide)
  rw [Int32.toInt_toInt64]
  have e : (1048575 : Int32).toInt = 1048575 := rfl
  omega
theorem own_cases {s : Int32} (h : 53 ≤ s.toInt ∧ s.toInt ≤ 62) : s = 53 ∨ s = 54 ∨ s = 55 ∨ s = 56 ∨ s = 57 ∨ s = 58 ∨ s = 59 ∨ s = 60 ∨ s = 61 ∨ s = 62 := by
  have : s.toInt = 53 ∨ s.toInt = 54 ∨ s.toInt = 55 ∨ s.toInt = 56 ∨ s.toInt = 57 ∨ s.toInt = 58 ∨ s.toInt = 59 ∨ s.toInt = 60 ∨ s.toInt = 61 ∨ s.toInt = 62 := by omega
  rcases this with h | h | h | h | h | h | h | h | h | h
  · exact Or.inl (Int32.toInt_inj.mp h)
  · exact Or.inr (Or.inl (Int32.toInt_inj.mp h))
  · exact Or.inr (Or.inr (Or.inl (Int32.toInt_inj.mp h)))
  · exact Or.inr (Or.inr (Or.inr (Or.inl (Int32.toInt_inj.mp h))))
  · exact Or.inr (Or.inr (Or.inr (Or.inr (Or.inl (Int32.toInt_inj.mp h)))))
  · exact Or.inr (Or.inr (Or.inr (Or.inr (Or.inr (Or.inl (Int32.toInt_inj.mp h))))))
  · exact Or.inr (Or.inr (Or.inr (Or.inr (Or.inr (Or.inr (Or.inl (Int32.toInt_inj.mp h)))))))
  · exact Or.inr (Or.inr (Or.inr (Or.inr (Or.inr (Or.inr (Or.inr (Or.inl (Int32.toInt_inj.mp h))))))))
  · exact Or.inr (Or.inr (Or.inr (Or.inr (Or.inr (Or.inr (Or.inr (Or.inr (Or.inl (Int32.toInt_inj.mp h)))))))))
  · exact Or.inr (Or.inr (Or.inr (Or.inr (Or.inr (Or.inr (Or.inr (Or.inr (Or.inr (Int32.toInt_inj.mp h)))))))))
theorem own_half {s : Int32} (h : 53 ≤ s.toInt ∧ s.toInt ≤ 62) : 1 ≤ ((1 : Int64) <<< ((s - (53 : Int32)) &&& 0x3f).toInt64).toInt ∧ ((1 : Int64) <<< ((s - (53 : Int32)) &&& 0x3f).toInt64).toInt ≤ 512 := by
  rcases own_cases h with rfl | rfl | rfl | rfl | rfl | rfl | rfl | rfl | rfl | rfl <;> decide
theorem own_two {hf : Int64} (h : 1 ≤ hf.toInt ∧ hf.toInt ≤ 512) : (((2 : Int64) * hf) + (1 : Int64)).toInt = 2 * hf.toInt + 1 := by
  have e1 : ((2 : Int64) * hf).toInt = 2 * hf.toInt := by
    have := FP.Core.int64_mul (a := (2 : Int64)) (b := hf) (by rw [show (2 : Int64).toInt = 2 from rfl]; omega) (by rw [show (2 : Int64).toInt = 2 from rfl]; omega)
    rw [this]; rfl
  have := FP.Core.int64_add (a := (2 : Int64) * hf) (b := (1 : Int64)) (by rw [e1, show (1 : Int64).toInt = 1 from rfl]; omega) (by rw [e1, show (1 : Int64).toInt = 1 from rfl]; omega)
  rw [this, e1]; rfl
theorem own_nz {hf : Int64} (h : 1 ≤ hf.toInt ∧ hf.toInt ≤ 512) : ((2 : Int64) * hf) + (1 : Int64) ≠ 0 := fun e => by
  have := own_two h
  rw [e] at this
  rw [show (0 : Int64).toInt = 0 from rfl] at this
  omega
theorem own_low (y : Int32) {hf : Int64} (h : 1 ≤ hf.toInt ∧ hf.toInt ≤ 512) : -1024 ≤ (((y &&& (2147483647 : Int32)).toInt64 % (((2 : Int64) * hf) + (1 : Int64))) - hf).toInt ∧ (((y &&& (2147483647 : Int32)).toInt64 % (((2 : Int64) * hf) + (1 : Int64))) - hf).toInt ≤ 1024 := by
  have h0 := c_and y (2147483647 : Int32) (by decide)
  have e0 : (y &&& (2147483647 : Int32)).toInt64.toInt = (y &&& (2147483647 : Int32)).toInt := Int32.toInt_toInt64 _
  generalize (y &&& (2147483647 : Int32)).toInt64 = u at e0 ⊢
  have e1 := own_two h
  generalize ((2 : Int64) * hf) + (1 : Int64) = w at e1 ⊢
  have e2 : (u % w).toInt = u.toInt % w.toInt := by rw [Int64.toInt_mod]; exact Int.tmod_eq_emod_of_nonneg (by omega)
  have h1 := Int.emod_nonneg u.toInt (show w.toInt ≠ 0 by omega)
  have h2 := Int.emod_lt_of_pos u.toInt (show 0 < w.toInt by omega)
  have e3 := FP.Core.int64_sub (a := u % w) (b := hf) (by rw [e2]; omega) (by rw [e2]; omega)
  rw [e3, e2]; omega
theorem own_core (P Q : Int64) (j : Nat) (hj : 13 ≤ j ∧ j ≤ 22) (hP : P.toInt = ((2 ^ j : Nat) : Int)) (hQ : Q.toInt = 1099511627776 * ((2 ^ j : Nat) : Int)) (sg d1 d2 l1 l2 h1 h2 : Int64) (hsg : sg = 1 ∨ sg = -1) (hd1 : 0 ≤ d1.toInt ∧ d1.toInt < 1048576) (hd2 : 0 ≤ d2.toInt ∧ d2.toInt < 1048576)
    (hl1 : -1024 ≤ l1.toInt ∧ l1.toInt ≤ 1024) (hl2 : -1024 ≤ l2.toInt ∧ l2.toInt ≤ 1024) (e1 : h1 = sg * (Q + d1 * P)) (e2 : h2 = sg * (Q + d2 * P)) :
    NoNaN64 (FP.dsub (FP.l2d h1) (FP.l2d h2)) ∧ NoNaN64 (FP.dsub (FP.l2d l1) (FP.l2d l2)) ∧ NoNaN64 (FP.dadd (FP.dsub (FP.l2d h1) (FP.l2d h2)) (FP.dsub (FP.l2d l1) (FP.l2d l2))) ∧
      FP.dcmp (FP.dadd (FP.dsub (FP.l2d h1) (FP.l2d h2)) (FP.dsub (FP.l2d l1) (FP.l2d l2))) (FP.l2d ((sg * ((d1 - d2) * P)) + (l1 - l2))) = some .eq := by
  have hb1 : (8192 : Int) ≤ ((2 ^ j : Nat) : Int) := by
    have := Nat.pow_le_pow_right (show 0 < 2 by decide) hj.1
    have e : (2 : Nat) ^ 13 = 8192 := by decide
    omega
  have hb2 : ((2 ^ j : Nat) : Int) ≤ 4194304 := by
    have := Nat.pow_le_pow_right (show 0 < 2 by decide) hj.2
    have e : (2 : Nat) ^ 22 = 4194304 := by decide
    omega
  generalize hW : ((2 ^ j : Nat) : Int) = W at hP hQ hb1 hb2
  have nn : ∀ d : Int, 0 ≤ d → d < 1048576 → 0 ≤ d * W ∧ d * W ≤ 4398046511104 := fun d a b => by
    have := Int.mul_nonneg a (show 0 ≤ W by omega)
    have := Int.mul_le_mul (show d ≤ 1048576 by omega) hb2 (show 0 ≤ W by omega) (show (0 : Int) ≤ 1048576 by decide)
    omega
  have H : ∀ d : Int64, 0 ≤ d.toInt → d.toInt < 1048576 → (Q + d * P).toInt = (1099511627776 + d.toInt) * W := fun d a b => by
    have n1 := nn _ a b
    have m1 : (d * P).toInt = d.toInt * W := by
      rw [FP.Core.int64_mul (by rw [hP]; omega) (by rw [hP]; omega), hP]
    rw [FP.Core.int64_add (by rw [m1, hQ]; omega) (by rw [m1, hQ]; omega), m1, hQ, Int.add_mul]
  have sgv : ∀ y : Int64, -9223372036854775807 ≤ y.toInt → (sg * y).toInt = sg.toInt * y.toInt := fun y hy => by
    have := Int64.toInt_lt y
    rcases hsg with rfl | rfl
    · exact FP.Core.int64_mul (by rw [show (1 : Int64).toInt = 1 from rfl]; omega) (by rw [show (1 : Int64).toInt = 1 from rfl]; omega)
    · exact FP.Core.int64_mul (by rw [show (-1 : Int64).toInt = -1 from rfl]; omega) (by rw [show (-1 : Int64).toInt = -1 from rfl]; omega)
  have sgb : sg.toInt = 1 ∨ sg.toInt = -1 := by rcases hsg with rfl | rfl <;> decide
  have k1 := nn _ hd1.1 hd1.2
  have k2 := nn _ hd2.1 hd2.2
  have g1 : h1.toInt = (sg.toInt * (1099511627776 + d1.toInt)) * W := by
    have h := H d1 hd1.1 hd1.2
    rw [e1, sgv _ (by rw [h, Int.add_mul]; omega), h, Int.mul_assoc]
  have g2 : h2.toInt = (sg.toInt * (1099511627776 + d2.toInt)) * W := by
    have h := H d2 hd2.1 hd2.2
    rw [e2, sgv _ (by rw [h, Int.add_mul]; omega), h, Int.mul_assoc]
  have z1 : Zv (FP.l2d h1) _ := Zv.l2d (n := h1) (k := sg.toInt * (1099511627776 + d1.toInt)) (j := j) (by rcases sgb with q | q <;> rw [q] <;> omega) (by omega) (by rw [g1, hW])
  have z2 : Zv (FP.l2d h2) _ := Zv.l2d (n := h2) (k := sg.toInt * (1099511627776 + d2.toInt)) (j := j) (by rcases sgb with q | q <;> rw [q] <;> omega) (by omega) (by rw [g2, hW])
  have z3 : Zv (FP.l2d l1) _ := Zv.l2d (n := l1) (k := l1.toInt) (j := 0) (by omega) (by decide) (by omega)
  have z4 : Zv (FP.l2d l2) _ := Zv.l2d (n := l2) (k := l2.toInt) (j := 0) (by omega) (by decide) (by omega)
  generalize hU : ((2 ^ 1074 : Nat) : Int) = U at z1 z2 z3 z4
  have z5 := Zv.dsub z1 z2 (k := sg.toInt * (d1.toInt - d2.toInt)) (j := j + 1074) (by rcases sgb with q | q <;> rw [q] <;> omega) (by omega) (by
    rw [Nat.pow_add, Int.natCast_mul, hW, hU, g1, g2, ← Int.sub_mul, ← Int.sub_mul, ← Int.mul_sub, ← Int.mul_assoc]
    congr 3; omega)
  have z6 := Zv.dsub z3 z4 (k := l1.toInt - l2.toInt) (j := 1074) (by omega) (by decide) (by rw [hU, Int.sub_mul])
  have d12 : -4398046511104 ≤ (d1.toInt - d2.toInt) * W ∧ (d1.toInt - d2.toInt) * W ≤ 4398046511104 := by rw [Int.sub_mul]; omega
  have sd : -4398046511104 ≤ sg.toInt * ((d1.toInt - d2.toInt) * W) ∧ sg.toInt * ((d1.toInt - d2.toInt) * W) ≤ 4398046511104 := by rcases sgb with q | q <;> rw [q] <;> omega
  have eh : h1.toInt - h2.toInt = sg.toInt * ((d1.toInt - d2.toInt) * W) := by
    rw [g1, g2, ← Int.sub_mul, ← Int.mul_sub, Int.mul_assoc]
    congr 2; omega
  have z7 := Zv.dadd z5 z6 (k := sg.toInt * ((d1.toInt - d2.toInt) * W) + (l1.toInt - l2.toInt)) (j := 1074) (by omega) (by decide) (by
    rw [hU, ← Int.sub_mul, ← Int.sub_mul, eh, Int.add_mul])
  have m1 : (d1 - d2).toInt = d1.toInt - d2.toInt := FP.Core.int64_sub (by omega) (by omega)
  have m2 : ((d1 - d2) * P).toInt = (d1.toInt - d2.toInt) * W := by
    rw [FP.Core.int64_mul (by rw [m1, hP]; omega) (by rw [m1, hP]; omega), m1, hP]
  have m3 : (sg * ((d1 - d2) * P)).toInt = sg.toInt * ((d1.toInt - d2.toInt) * W) := by rw [sgv _ (by rw [m2]; omega), m2]
  have m4 : (l1 - l2).toInt = l1.toInt - l2.toInt := FP.Core.int64_sub (by omega) (by omega)
  have m5 : ((sg * ((d1 - d2) * P)) + (l1 - l2)).toInt = sg.toInt * ((d1.toInt - d2.toInt) * W) + (l1.toInt - l2.toInt) := by
    rw [FP.Core.int64_add (by rw [m3, m4]; omega) (by rw [m3, m4]; omega), m3, m4]
  have z8 : Zv (FP.l2d ((sg * ((d1 - d2) * P)) + (l1 - l2))) _ := Zv.l2d (k := sg.toInt * ((d1.toInt - d2.toInt) * W) + (l1.toInt - l2.toInt)) (j := 0) (by omega) (by decide) (by rw [m5]; simp)
  refine ⟨z5.noNaN, z6.noNaN, z7.noNaN, Zv.dcmp_eq z7 (x := _) ?_⟩
  have e : ((sg * ((d1 - d2) * P)) + (l1 - l2)).toInt * ((2 ^ 1074 : Nat) : Int) = h1.toInt * U - h2.toInt * U + (l1.toInt * U - l2.toInt * U) := by
    rw [m5, hU, ← Int.sub_mul, ← Int.sub_mul, eh, Int.add_mul]
  rw [← e]; exact z8
theorem own_main {s5 : Int32} {sg d1 d2 hf l1 l2 h1 h2 : Int64} (hs5 : 53 ≤ s5.toInt ∧ s5.toInt ≤ 62) (h_sg : sg = 1 ∨ sg = -1) (hd1 : 0 ≤ d1.toInt ∧ d1.toInt < 1048576) (hd2 : 0 ≤ d2.toInt ∧ d2.toInt < 1048576) (hhf : 1 ≤ hf.toInt ∧ hf.toInt ≤ 512)
    (hl1 : -1024 ≤ l1.toInt ∧ l1.toInt ≤ 1024) (hl2 : -1024 ≤ l2.toInt ∧ l2.toInt ≤ 1024) (q1 : h1 = (sg * (((1 : Int64) <<< (s5 &&& 0x3f).toInt64) + (d1 <<< ((s5 - (40 : Int32)) &&& 0x3f).toInt64)))) (q2 : h2 = (sg * (((1 : Int64) <<< (s5 &&& 0x3f).toInt64) + (d2 <<< ((s5 - (40 : Int32)) &&& 0x3f).toInt64)))) :
    NoNaN64 (FP.dsub (FP.l2d h1) (FP.l2d h2)) ∧ NoNaN64 (FP.dsub (FP.l2d l1) (FP.l2d l2)) ∧ NoNaN64 (FP.dadd (FP.dsub (FP.l2d h1) (FP.l2d h2)) (FP.dsub (FP.l2d l1) (FP.l2d l2))) ∧
      FP.dcmp (FP.dadd (FP.dsub (FP.l2d h1) (FP.l2d h2)) (FP.dsub (FP.l2d l1) (FP.l2d l2))) (FP.l2d ((sg * ((d1 - d2) <<< ((s5 - (40 : Int32)) &&& 0x3f).toInt64)) + (l1 - l2))) = some .eq := by
  rcases own_cases hs5 with rfl | rfl | rfl | rfl | rfl | rfl | rfl | rfl | rfl | rfl
  · have t : ∀ x : Int64, x <<< (((53 : Int32) - (40 : Int32)) &&& 0x3f).toInt64 = x * 8192 := fun x => shlmL (by decide)
    rw [t] at q1 q2 ⊢
    exact own_core 8192 ((1 : Int64) <<< ((53 : Int32) &&& 0x3f).toInt64) 13 (by decide) (by decide) (by decide) sg d1 d2 l1 l2 h1 h2 h_sg hd1 hd2 hl1 hl2 q1 q2
  · have t : ∀ x : Int64, x <<< (((54 : Int32) - (40 : Int32)) &&& 0x3f).toInt64 = x * 16384 := fun x => shlmL (by decide)
    rw [t] at q1 q2 ⊢
    exact own_core 16384 ((1 : Int64) <<< ((54 : Int32) &&& 0x3f).toInt64) 14 (by decide) (by decide) (by decide) sg d1 d2 l1 l2 h1 h2 h_sg hd1 hd2 hl1 hl2 q1 q2
  · have t : ∀ x : Int64, x <<< (((55 : Int32) - (40 : Int32)) &&& 0x3f).toInt64 = x * 32768 := fun x => shlmL (by decide)
    rw [t] at q1 q2 ⊢
    exact own_core 32768 ((1 : Int64) <<< ((55 : Int32) &&& 0x3f).toInt64) 15 (by decide) (by decide) (by decide) sg d1 d2 l1 l2 h1 h2 h_sg hd1 hd2 hl1 hl2 q1 q2
  · have t : ∀ x : Int64, x <<< (((56 : Int32) - (40 : Int32)) &&& 0x3f).toInt64 = x * 65536 := fun x => shlmL (by decide)
    rw [t] at q1 q2 ⊢
    exact own_core 65536 ((1 : Int64) <<< ((56 : Int32) &&& 0x3f).toInt64) 16 (by decide) (by decide) (by decide) sg d1 d2 l1 l2 h1 h2 h_sg hd1 hd2 hl1 hl2 q1 q2
  · have t : ∀ x : Int64, x <<< (((57 : Int32) - (40 : Int32)) &&& 0x3f).toInt64 = x * 131072 := fun x => shlmL (by decide)
    rw [t] at q1 q2 ⊢
    exact own_core 131072 ((1 : Int64) <<< ((57 : Int32) &&& 0x3f).toInt64) 17 (by decide) (by decide) (by decide) sg d1 d2 l1 l2 h1 h2 h_sg hd1 hd2 hl1 hl2 q1 q2
  · have t : ∀ x : Int64, x <<< (((58 : Int32) - (40 : Int32)) &&& 0x3f).toInt64 = x * 262144 := fun x => shlmL (by decide)
    rw [t] at q1 q2 ⊢
    exact own_core 262144 ((1 : Int64) <<< ((58 : Int32) &&& 0x3f).toInt64) 18 (by decide) (by decide) (by decide) sg d1 d2 l1 l2 h1 h2 h_sg hd1 hd2 hl1 hl2 q1 q2
  · have t : ∀ x : Int64, x <<< (((59 : Int32) - (40 : Int32)) &&& 0x3f).toInt64 = x * 524288 := fun x => shlmL (by decide)
    rw [t] at q1 q2 ⊢
    exact own_core 524288 ((1 : Int64) <<< ((59 : Int32) &&& 0x3f).toInt64) 19 (by decide) (by decide) (by decide) sg d1 d2 l1 l2 h1 h2 h_sg hd1 hd2 hl1 hl2 q1 q2
  · have t : ∀ x : Int64, x <<< (((60 : Int32) - (40 : Int32)) &&& 0x3f).toInt64 = x * 1048576 := fun x => shlmL (by decide)
    rw [t] at q1 q2 ⊢
    exact own_core 1048576 ((1 : Int64) <<< ((60 : Int32) &&& 0x3f).toInt64) 20 (by decide) (by decide) (by decide) sg d1 d2 l1 l2 h1 h2 h_sg hd1 hd2 hl1 hl2 q1 q2
  · have t : ∀ x : Int64, x <<< (((61 : Int32) - (40 : Int32)) &&& 0x3f).toInt64 = x * 2097152 := fun x => shlmL (by decide)
    rw [t] at q1 q2 ⊢
    exact own_core 2097152 ((1 : Int64) <<< ((61 : Int32) &&& 0x3f).toInt64) 21 (by decide) (by decide) (by decide) sg d1 d2 l1 l2 h1 h2 h_sg hd1 hd2 hl1 hl2 q1 q2
  · have t : ∀ x : Int64, x <<< (((62 : Int32) - (40 : Int32)) &&& 0x3f).toInt64 = x * 4194304 := fun x => shlmL (by decide)
    rw [t] at q1 q2 ⊢
    exact own_core 4194304 ((1 : Int64) <<< ((62 : Int32) &&& 0x3f).toInt64) 22 (by decide) (by decide) (by decide) sg d1 d2 l1 l2 h1 h2 h_sg hd1 hd2 hl1 hl2 q1 q2
theorem ef_init (m : MethodId) (x0 : Addr) (x1 : UInt64) (x2 : UInt64) : entryFrame m #[(.ref x0), (.double x1), (.double x2)] 5 = mkF m 0 #[.val (.ref x0), .val (.double x1), .second, .val (.double x2), .second] [] := by first | (simp [entryFrame, mkF, argsToLocals, Value.category]; done) | rfl
theorem pn_init : plainName "com/example/blindroute/blindroute/electrical/DoubleDouble" = true := by first | (simp [plainName, overriddenIn]; done) | decide +kernel
def Q_init (Z : State) (a : Addr) (u : UInt64) (v0 : UInt64) (h0 : Heap) (n0 : Nat) (v : Option Value) (h : Heap) (L : List Loc) : Prop := v = none ∧ Fr n0 L ∧ Keep h0 h [a] ∧ Exa Z h a "com/example/blindroute/blindroute/electrical/DoubleDouble" ∧ Fld Z h a "com/example/blindroute/blindroute/electrical/DoubleDouble" "high" "D" (.double u) ∧ Fld Z h a "com/example/blindroute/blindroute/electrical/DoubleDouble" "low" "D" (.double v0)
set_option maxRecDepth 65536 in
set_option maxHeartbeats 40000000 in
theorem rm_init (l : Launch) (Z : State) (a0 : Array Value) (hw : ∀ d ∈ tables_1, d.before a0 Z = true) (ws : List Jvm.Cond) (a : Addr) (u : UInt64) (v0 : UInt64) (h0 : Heap) (n0 : Nat) (Z0 : n0 ≤ h0.size) (E0 : Exa Z h0 a "com/example/blindroute/blindroute/electrical/DoubleDouble") (F1 : Fld Z h0 a "com/example/blindroute/blindroute/electrical/DoubleDouble" "high" "D" (.double (0 : UInt64))) (F2 : Fld Z h0 a "com/example/blindroute/blindroute/electrical/DoubleDouble" "low" "D" (.double (0 : UInt64))) (g_a : n0 ≤ a) :
    MetFree l (⟨"com/example/blindroute/blindroute/electrical/DoubleDouble", "<init>", "(DD)V"⟩ : MethodName) (head1 (Jvm.Cond.code (⟨"com/example/blindroute/blindroute/electrical/DoubleDouble", "<init>", "(DD)V"⟩ : MethodName) prog_19_method_1_code 5 none :: ws) ({ frames := 1, cells := 0, slots := 0, locals := 12 } : Room)) (fun aa U => aa = #[(.ref a), (.double u), (.double v0)] ∧ Z.Warmed39 U.vm ∧ U.heap = h0) (fun _ _ _ _ _ => True) (fun _ U o U' => ∃ v L, o = .returned v ∧ Q_init Z a u v0 h0 n0 v U'.heap L ∧ FrameEnd U o U' L ({ frames := 1, cells := 0, slots := 0, locals := 12 } : Room).cells ({ frames := 1, cells := 0, slots := 0, locals := 12 } : Room).slots) := by
  refine MetFree.of_bodySF (plainFor_of_name pn_init) hisR ?_
  intro p e s m args below meth c s₁ Bd hml0 hP hK
  obtain ⟨rfl, hZ, hh⟩ := hP
  have hx := Bd.exec
  have hby := Bd.bytes
  have hml : c.maxLocals = 5 := hml0
  have hown : s.vm.findClass "com/example/blindroute/blindroute/electrical/DoubleDouble" = some m.cls := findClass_of_methodNamed Bd.named
  have hnm := (name_of_methodNamed Bd.named Bd.method).1
  have X0 : Stand p l e ({ frames := 1, cells := 0, slots := 0, locals := 12 } : Room) s m #[(.ref a), (.double u), (.double v0)] below meth c s₁ [] 0 0 := Stand.of_body Bd
  have e0 : s₁.heap = h0 := by rw [← hh, Bd.state]; rfl
  have N0 := Fr.nil n0
  have S0 : Go p e below s₁ (entryFrame m #[(.ref a), (.double u), (.double v0)] 5) s₁ (mkF m 0 #[.val (.ref a), .val (.double u), .second, .val (.double v0), .second] []) := fun t k => castTop (ef_init m a u v0) k
  have S1 : Go p e below s₁ (entryFrame m #[(.ref a), (.double u), (.double v0)] 5) s₁ (mkF m 1 #[.val (.ref a), .val (.double u), .second, .val (.double v0), .second] [(.ref a)]) := fun t kt => S0 t (by
    refine XS.aloadN X0.here hx rfl (hb hby d1_0) rfl rfl ?_
    show Steps p.tables e below (s₁.setTop (mkF m 1 #[.val (.ref a), .val (.double u), .second, .val (.double v0), .second] [(.ref a)])) _
    exact kt)
  obtain ⟨T2, X2, e2, st2⟩ := initO X0 hx hZ hown (hw _ (List.mem_of_getElem? (i := 9) rfl)) (hw _ (List.mem_of_getElem? (i := 10) rfl)) (hw _ (List.mem_of_getElem? (i := 11) rfl)) e0 (g := (mkF m 1 #[.val (.ref a), .val (.double u), .second, .val (.double v0), .second] [(.ref a)])) rfl (by rw [hml]; rfl) rfl (hb hby d1_1) (by decide) (W := 0) (by show 2 * 0 + _ ≤ _; exact Nat.le_of_eq rfl) (by decide)
  have S3 : Go p e below s₁ (entryFrame m #[(.ref a), (.double u), (.double v0)] 5) T2 (mkF m 4 #[.val (.ref a), .val (.double u), .second, .val (.double v0), .second] []) := fun t kt => S1 t (st2 t kt)
  have S4 : Go p e below s₁ (entryFrame m #[(.ref a), (.double u), (.double v0)] 5) T2 (mkF m 6 #[.val (.ref a), .val (.double u), .second, .val (.double v0), .second] [(.double u), (.ref a)]) := fun t kt => S3 t (by
    refine XS.aloadN X2.here hx rfl (hb hby d1_4) rfl rfl ?_
    show Steps p.tables e below (T2.setTop (mkF m 5 #[.val (.ref a), .val (.double u), .second, .val (.double v0), .second] [(.ref a)])) _
    refine XS.dloadN X2.here hx rfl (hb hby d1_5) rfl ?_
    show Steps p.tables e below (T2.setTop (mkF m 6 #[.val (.ref a), .val (.double u), .second, .val (.double v0), .second] [(.double u), (.ref a)])) _
    exact kt)
  obtain ⟨T5, h5, X5, e5, W5, st5⟩ := putF X2 hx hZ hown (host := "") (Or.inl (hw _ (List.mem_of_getElem? (i := 12) rfl))) Via.refl e2 F1 E0 (Or.inl (hw _ (List.mem_of_getElem? (i := 13) rfl))) (hw _ (List.mem_of_getElem? (i := 4) rfl)) (ty := .double) (by decide) rfl rfl (g := (mkF m 6 #[.val (.ref a), .val (.double u), .second, .val (.double v0), .second] [(.double u), (.ref a)])) rfl rfl (hb hby d1_6)
  have N5 := Fr.snoc X5 N0 g_a
  have K5 : Keep h0 h5 [a] := (Keep.refl h0 [a]).wr W5 (Or.inl (by simp))
  have Fw5 := F1.same W5
  have S6 : Go p e below s₁ (entryFrame m #[(.ref a), (.double u), (.double v0)] 5) T5 (mkF m 9 #[.val (.ref a), .val (.double u), .second, .val (.double v0), .second] []) := fun t kt => S4 t (st5 t kt)
  have S7 : Go p e below s₁ (entryFrame m #[(.ref a), (.double u), (.double v0)] 5) T5 (mkF m 11 #[.val (.ref a), .val (.double u), .second, .val (.double v0), .second] [(.double v0), (.ref a)]) := fun t kt => S6 t (by
    refine XS.aloadN X5.here hx rfl (hb hby d1_9) rfl rfl ?_
    show Steps p.tables e below (T5.setTop (mkF m 10 #[.val (.ref a), .val (.double u), .second, .val (.double v0), .second] [(.ref a)])) _
    refine XS.dloadN X5.here hx rfl (hb hby d1_10) rfl ?_
    show Steps p.tables e below (T5.setTop (mkF m 11 #[.val (.ref a), .val (.double u), .second, .val (.double v0), .second] [(.double v0), (.ref a)])) _
    exact kt)
  have f8 := (F2.other W5 (Or.inr (slot_ne (C := "com/example/blindroute/blindroute/electrical/DoubleDouble") (Or.inl (hw _ (List.mem_of_getElem? (i := 15) rfl))) (Or.inl (hw _ (List.mem_of_getElem? (i := 13) rfl))) (by decide) (t := .double) (t' := .double) (by decide) (by decide))))
  have f9 := (E0.wr W5)
  obtain ⟨T10, h10, X10, e10, W10, st10⟩ := putF X5 hx hZ hown (host := "") (Or.inl (hw _ (List.mem_of_getElem? (i := 14) rfl))) Via.refl e5 f8 f9 (Or.inl (hw _ (List.mem_of_getElem? (i := 15) rfl))) (hw _ (List.mem_of_getElem? (i := 4) rfl)) (ty := .double) (by decide) rfl rfl (g := (mkF m 11 #[.val (.ref a), .val (.double u), .second, .val (.double v0), .second] [(.double v0), (.ref a)])) rfl rfl (hb hby d1_11)
  have N10 := Fr.snoc X10 N5 g_a
  have K10 : Keep h0 h10 [a] := K5.wr W10 (Or.inl (by simp))
  have Fw10 := f8.same W10
  have S11 : Go p e below s₁ (entryFrame m #[(.ref a), (.double u), (.double v0)] 5) T10 (mkF m 14 #[.val (.ref a), .val (.double u), .second, .val (.double v0), .second] []) := fun t kt => S7 t (st10 t kt)
  have f12 := (f9.wr W10)
  have f13 := (Fw5.other W10 (Or.inr (slot_ne (C := "com/example/blindroute/blindroute/electrical/DoubleDouble") (Or.inl (hw _ (List.mem_of_getElem? (i := 13) rfl))) (Or.inl (hw _ (List.mem_of_getElem? (i := 15) rfl))) (by decide) (t := .double) (t' := .double) (by decide) (by decide))))
  obtain ⟨fs, hr, hrun, hended, hW, hsame⟩ := X10.leave (v := none) (fun h => by first | rfl | (rw [Bd.returns] at h; cases h))
  refine ⟨_, _, S11 _ ?_, hrun, hended, _, _, rfl, ?_, ⟨_, rfl⟩, hW, hsame.mono (by decide) (by decide)⟩
  · exact X10.returnOut hx Bd.returns (hb hby d1_14) hr
  · show Q_init Z a u v0 h0 n0 _ T10.heap _
    rw [e10]
    exact ⟨rfl, N10, K10, f12, f13, Fw10⟩
theorem ef_diff (m : MethodId) (x0 : Addr) (x1 : Addr) : entryFrame m #[(.ref x0), (.ref x1)] 2 = mkF m 0 #[.val (.ref x0), .val (.ref x1)] [] := by first | (simp [entryFrame, mkF, argsToLocals, Value.category]; done) | rfl
theorem pn_diff : plainName "com/example/blindroute/blindroute/electrical/DoubleDouble" = true := by first | (simp [plainName, overriddenIn]; done) | decide +kernel
def Q_diff (Z : State) (a : Addr) (b : Addr) (h1 : UInt64) (l1 : UInt64) (h2 : UInt64) (l2 : UInt64) (h0 : Heap) (n0 : Nat) (v : Option Value) (h : Heap) (L : List Loc) : Prop := v = some (.double (FP.dadd (FP.dsub h1 h2) (FP.dsub l1 l2))) ∧ Fr n0 L ∧ h = h0
set_option maxRecDepth 65536 in
set_option maxHeartbeats 40000000 in
theorem rm_diff (l : Launch) (Z : State) (a0 : Array Value) (hw : ∀ d ∈ tables_1, d.before a0 Z = true) (ws : List Jvm.Cond) (a : Addr) (b : Addr) (h1 : UInt64) (l1 : UInt64) (h2 : UInt64) (l2 : UInt64) (h0 : Heap) (n0 : Nat) (Z0 : n0 ≤ h0.size) (F1 : Fld Z h0 a "com/example/blindroute/blindroute/electrical/DoubleDouble" "high" "D" (.double h1)) (F2 : Fld Z h0 a "com/example/blindroute/blindroute/electrical/DoubleDouble" "low" "D" (.double l1)) (F3 : Fld Z h0 b "com/example/blindroute/blindroute/electrical/DoubleDouble" "high" "D" (.double h2)) (F4 : Fld Z h0 b "com/example/blindroute/blindroute/electrical/DoubleDouble" "low" "D" (.double l2)) (n1 : NoNaN64 (FP.dsub h1 h2)) (n2 : NoNaN64 (FP.dsub l1 l2)) (n3 : NoNaN64 (FP.dadd (FP.dsub h1 h2) (FP.dsub l1 l2))) :
    MetFree l (⟨"com/example/blindroute/blindroute/electrical/DoubleDouble", "difference", "(Lcom/example/blindroute/blindroute/electrical/DoubleDouble;Lcom/example/blindroute/blindroute/electrical/DoubleDouble;)D"⟩ : MethodName) (head1 (Jvm.Cond.code (⟨"com/example/blindroute/blindroute/electrical/DoubleDouble", "difference", "(Lcom/example/blindroute/blindroute/electrical/DoubleDouble;Lcom/example/blindroute/blindroute/electrical/DoubleDouble;)D"⟩ : MethodName) prog_19_method_4_code 2 (some .double) :: ws) ({ frames := 0, cells := 0, slots := 0, locals := 0 } : Room)) (fun aa U => aa = #[(.ref a), (.ref b)] ∧ Z.Warmed39 U.vm ∧ U.heap = h0) (fun _ _ _ _ _ => True) (fun _ U o U' => ∃ v L, o = .returned v ∧ Q_diff Z a b h1 l1 h2 l2 h0 n0 v U'.heap L ∧ FrameEnd U o U' L ({ frames := 0, cells := 0, slots := 0, locals := 0 } : Room).cells ({ frames := 0, cells := 0, slots := 0, locals := 0 } : Room).slots) := by
  refine MetFree.of_bodySF (plainFor_of_name pn_diff) hisR ?_
  intro p e s m args below meth c s₁ Bd hml0 hP hK
  obtain ⟨rfl, hZ, hh⟩ := hP
  have hx := Bd.exec
  have hby := Bd.bytes
  have hml : c.maxLocals = 2 := hml0
  have hown : s.vm.findClass "com/example/blindroute/blindroute/electrical/DoubleDouble" = some m.cls := findClass_of_methodNamed Bd.named
  have hnm := (name_of_methodNamed Bd.named Bd.method).1
  have X0 : Stand p l e ({ frames := 0, cells := 0, slots := 0, locals := 0 } : Room) s m #[(.ref a), (.ref b)] below meth c s₁ [] 0 0 := Stand.of_body Bd
  have e0 : s₁.heap = h0 := by rw [← hh, Bd.state]; rfl
  have N0 := Fr.nil n0
  have S0 : Go p e below s₁ (entryFrame m #[(.ref a), (.ref b)] 2) s₁ (mkF m 0 #[.val (.ref a), .val (.ref b)] []) := fun t k => castTop (ef_diff m a b) k
  have S14 : Go p e below s₁ (entryFrame m #[(.ref a), (.ref b)] 2) s₁ (mkF m 1 #[.val (.ref a), .val (.ref b)] [(.ref a)]) := fun t kt => S0 t (by
    refine XS.aloadN X0.here hx rfl (hb hby d3_0) rfl rfl ?_
    show Steps p.tables e below (s₁.setTop (mkF m 1 #[.val (.ref a), .val (.ref b)] [(.ref a)])) _
    exact kt)
  obtain ⟨T15, X15, e15, st15⟩ := getF X0 hx hZ hown (host := "") (Or.inl (hw _ (List.mem_of_getElem? (i := 12) rfl))) Via.refl e0 F1 (g := (mkF m 1 #[.val (.ref a), .val (.ref b)] [(.ref a)])) rfl rfl (hb hby d3_1)
  have S16 : Go p e below s₁ (entryFrame m #[(.ref a), (.ref b)] 2) T15 (mkF m 4 #[.val (.ref a), .val (.ref b)] [(.double h1)]) := fun t kt => S14 t (st15 t kt)
  have S17 : Go p e below s₁ (entryFrame m #[(.ref a), (.ref b)] 2) T15 (mkF m 5 #[.val (.ref a), .val (.ref b)] [(.ref b), (.double h1)]) := fun t kt => S16 t (by
    refine XS.aloadN X15.here hx rfl (hb hby d3_4) rfl rfl ?_
    show Steps p.tables e below (T15.setTop (mkF m 5 #[.val (.ref a), .val (.ref b)] [(.ref b), (.double h1)])) _
    exact kt)
  obtain ⟨T18, X18, e18, st18⟩ := getF X15 hx hZ hown (host := "") (Or.inl (hw _ (List.mem_of_getElem? (i := 12) rfl))) Via.refl e15 F3 (g := (mkF m 5 #[.val (.ref a), .val (.ref b)] [(.ref b), (.double h1)])) rfl rfl (hb hby d3_5)
  have S19 : Go p e below s₁ (entryFrame m #[(.ref a), (.ref b)] 2) T18 (mkF m 8 #[.val (.ref a), .val (.ref b)] [(.double h2), (.double h1)]) := fun t kt => S17 t (st18 t kt)
  have S20 : Go p e below s₁ (entryFrame m #[(.ref a), (.ref b)] 2) T18 (mkF m 10 #[.val (.ref a), .val (.ref b)] [(.ref a), (.double (FP.dsub h1 h2))]) := fun t kt => S19 t (by
    refine XS.dsubS X18.here hx rfl (hb hby d3_8) rfl n1 rfl ?_
    show Steps p.tables e below (T18.setTop (mkF m 9 #[.val (.ref a), .val (.ref b)] [(.double (FP.dsub h1 h2))])) _
    refine XS.aloadN X18.here hx rfl (hb hby d3_9) rfl rfl ?_
    show Steps p.tables e below (T18.setTop (mkF m 10 #[.val (.ref a), .val (.ref b)] [(.ref a), (.double (FP.dsub h1 h2))])) _
    exact kt)
  obtain ⟨T21, X21, e21, st21⟩ := getF X18 hx hZ hown (host := "") (Or.inl (hw _ (List.mem_of_getElem? (i := 14) rfl))) Via.refl e18 F2 (g := (mkF m 10 #[.val (.ref a), .val (.ref b)] [(.ref a), (.double (FP.dsub h1 h2))])) rfl rfl (hb hby d3_10)
  have S22 : Go p e below s₁ (entryFrame m #[(.ref a), (.ref b)] 2) T21 (mkF m 13 #[.val (.ref a), .val (.ref b)] [(.double l1), (.double (FP.dsub h1 h2))]) := fun t kt => S20 t (st21 t kt)
  have S23 : Go p e below s₁ (entryFrame m #[(.ref a), (.ref b)] 2) T21 (mkF m 14 #[.val (.ref a), .val (.ref b)] [(.ref b), (.double l1), (.double (FP.dsub h1 h2))]) := fun t kt => S22 t (by
    refine XS.aloadN X21.here hx rfl (hb hby d3_13) rfl rfl ?_
    show Steps p.tables e below (T21.setTop (mkF m 14 #[.val (.ref a), .val (.ref b)] [(.ref b), (.double l1), (.double (FP.dsub h1 h2))])) _
    exact kt)
  obtain ⟨T24, X24, e24, st24⟩ := getF X21 hx hZ hown (host := "") (Or.inl (hw _ (List.mem_of_getElem? (i := 14) rfl))) Via.refl e21 F4 (g := (mkF m 14 #[.val (.ref a), .val (.ref b)] [(.ref b), (.double l1), (.double (FP.dsub h1 h2))])) rfl rfl (hb hby d3_14)
  have S25 : Go p e below s₁ (entryFrame m #[(.ref a), (.ref b)] 2) T24 (mkF m 17 #[.val (.ref a), .val (.ref b)] [(.double l2), (.double l1), (.double (FP.dsub h1 h2))]) := fun t kt => S23 t (st24 t kt)
  have S26 : Go p e below s₁ (entryFrame m #[(.ref a), (.ref b)] 2) T24 (mkF m 19 #[.val (.ref a), .val (.ref b)] [(.double (FP.dadd (FP.dsub h1 h2) (FP.dsub l1 l2)))]) := fun t kt => S25 t (by
    refine XS.dsubS X24.here hx rfl (hb hby d3_17) rfl n2 rfl ?_
    show Steps p.tables e below (T24.setTop (mkF m 18 #[.val (.ref a), .val (.ref b)] [(.double (FP.dsub l1 l2)), (.double (FP.dsub h1 h2))])) _
    refine XS.daddS X24.here hx rfl (hb hby d3_18) rfl n3 rfl ?_
    show Steps p.tables e below (T24.setTop (mkF m 19 #[.val (.ref a), .val (.ref b)] [(.double (FP.dadd (FP.dsub h1 h2) (FP.dsub l1 l2)))])) _
    exact kt)
  obtain ⟨fs, hr, hrun, hended, hW, hsame⟩ := X24.leave (v := some (.double (FP.dadd (FP.dsub h1 h2) (FP.dsub l1 l2)))) (fun h => by first | rfl | (rw [Bd.returns] at h; cases h))
  refine ⟨_, _, S26 _ ?_, hrun, hended, _, _, rfl, ?_, ⟨_, rfl⟩, hW, hsame.mono (by decide) (by decide)⟩
  · jvm_step X24.here [X24.here.top, hx, (hb hby d3_19), X24.method', Bd.returns, narrow]
    first | (intro acts; rw [hr _ acts rfl rfl rfl]) | rw [hr _ _ rfl rfl rfl]
    exact Steps.refl _
  · show Q_diff Z a b h1 l1 h2 l2 h0 n0 _ T24.heap _
    rw [e24]
    exact ⟨rfl, N0, rfl⟩
theorem ef_law (m : MethodId) (x0 : Int32) (x1 : Int32) (x2 : Int32) (x3 : Int32) (x4 : Int32) : entryFrame m #[(.int x0), (.int x1), (.int x2), (.int x3), (.int x4)] maxLocals = mkF m 0 #[.val (.int x0), .val (.int x1), .val (.int x2), .val (.int x3), .val (.int x4), .unset, .unset, .unset, .unset, .unset, .unset, .unset, .unset, .unset, .unset, .unset, .unset, .unset, .unset, .unset, .unset, .unset, .unset, .unset, .unset, .unset, .unset, .unset, .unset, .unset, .unset] [] := by first | (simp [entryFrame, mkF, argsToLocals, Value.category, maxLocals]; done) | rfl
theorem pn_law : plainName "com/example/blindroute/blindroute/electrical/DoubleDoubleDifferencePinLaw" = true := by first | (simp [plainName, overriddenIn]; done) | decide +kernel
def Q_law (Z : State) (p0 : Int32) (x1 : Int32) (x2 : Int32) (y1 : Int32) (y2 : Int32) (h0 : Heap) (n0 : Nat) (v : Option Value) (h : Heap) (L : List Loc) : Prop := v = some (.int 1) ∧ Fr n0 L
set_option maxRecDepth 65536 in
set_option maxHeartbeats 40000000 in
theorem rm_law (l : Launch) (Z : State) (a0 : Array Value) (hw : ∀ d ∈ tables_1, d.before a0 Z = true) (ws : List Jvm.Cond) (p0 : Int32) (x1 : Int32) (x2 : Int32) (y1 : Int32) (y2 : Int32) (h0 : Heap) (n0 : Nat) (Z0 : n0 ≤ h0.size)  :
    MetFree l x (head1 (Jvm.Cond.code x code maxLocals ret :: ws) room_1) (fun aa U => aa = #[(.int p0), (.int x1), (.int x2), (.int y1), (.int y2)] ∧ Z.Warmed39 U.vm ∧ U.heap = h0) (fun _ _ _ _ _ => True) (fun _ U o U' => ∃ v L, o = .returned v ∧ Q_law Z p0 x1 x2 y1 y2 h0 n0 v U'.heap L ∧ FrameEnd U o U' L 2 4) := by
  refine MetFree.of_bodySF (plainFor_of_name pn_law) hisR ?_
  intro p e s m args below meth c s₁ Bd hml0 hP hK
  obtain ⟨rfl, hZ, hh⟩ := hP
  have hx := Bd.exec
  have hby := Bd.bytes
  have hml : c.maxLocals = 31 := hml0
  have hown : s.vm.findClass "com/example/blindroute/blindroute/electrical/DoubleDoubleDifferencePinLaw" = some m.cls := findClass_of_methodNamed Bd.named
  have hnm := (name_of_methodNamed Bd.named Bd.method).1
  have X0 : Stand p l e room_1 s m #[(.int p0), (.int x1), (.int x2), (.int y1), (.int y2)] below meth c s₁ [] 0 0 := Stand.of_body Bd
  have e0 : s₁.heap = h0 := by rw [← hh, Bd.state]; rfl
  have N0 := Fr.nil n0
  have S0 : Go p e below s₁ (entryFrame m #[(.int p0), (.int x1), (.int x2), (.int y1), (.int y2)] maxLocals) s₁ (mkF m 0 #[.val (.int p0), .val (.int x1), .val (.int x2), .val (.int y1), .val (.int y2), .unset, .unset, .unset, .unset, .unset, .unset, .unset, .unset, .unset, .unset, .unset, .unset, .unset, .unset, .unset, .unset, .unset, .unset, .unset, .unset, .unset, .unset, .unset, .unset, .unset, .unset] []) := fun t k => castTop (ef_law m p0 x1 x2 y1 y2) k
  have S27 : Go p e below s₁ (entryFrame m #[(.int p0), (.int x1), (.int x2), (.int y1), (.int y2)] maxLocals) s₁ (mkF m 9 #[.val (.int p0), .val (.int x1), .val (.int x2), .val (.int y1), .val (.int y2), .unset, .unset, .unset, .unset, .unset, .unset, .unset, .unset, .unset, .unset, .unset, .unset, .unset, .unset, .unset, .unset, .unset, .unset, .unset, .unset, .unset, .unset, .unset, .unset, .unset, .unset] [(.int ((53 : Int32) + (((p0.toUInt32 >>> ((4 : Int32) &&& 31).toUInt32).toInt32) % (10 : Int32))))]) := fun t kt => S0 t (by
    refine XS.bipush X0.here hx rfl (hb hby at_0) ?_
    show Steps p.tables e below (s₁.setTop (mkF m 2 #[.val (.int p0), .val (.int x1), .val (.int x2), .val (.int y1), .val (.int y2), .unset, .unset, .unset, .unset, .unset, .unset, .unset, .unset, .unset, .unset, .unset, .unset, .unset, .unset, .unset, .unset, .unset, .unset, .unset, .unset, .unset, .unset, .unset, .unset, .unset, .unset] [(.int (53 : Int32))])) _
    refine XS.iloadN X0.here hx rfl (hb hby at_2) rfl ?_
    show Steps p.tables e below (s₁.setTop (mkF m 3 #[.val (.int p0), .val (.int x1), .val (.int x2), .val (.int y1), .val (.int y2), .unset, .unset, .unset, .unset, .unset, .unset, .unset, .unset, .unset, .unset, .unset, .unset, .unset, .unset, .unset, .unset, .unset, .unset, .unset, .unset, .unset, .unset, .unset, .unset, .unset, .unset] [(.int p0), (.int (53 : Int32))])) _
    refine XS.iconst X0.here hx rfl (hb hby at_3) ?_
    show Steps p.tables e below (s₁.setTop (mkF m 4 #[.val (.int p0), .val (.int x1), .val (.int x2), .val (.int y1), .val (.int y2), .unset, .unset, .unset, .unset, .unset, .unset, .unset, .unset, .unset, .unset, .unset, .unset, .unset, .unset, .unset, .unset, .unset, .unset, .unset, .unset, .unset, .unset, .unset, .unset, .unset, .unset] [(.int (4 : Int32)), (.int p0), (.int (53 : Int32))])) _
    refine XS.iushr X0.here hx rfl (hb hby at_4) rfl ?_
    show Steps p.tables e below (s₁.setTop (mkF m 5 #[.val (.int p0), .val (.int x1), .val (.int x2), .val (.int y1), .val (.int y2), .unset, .unset, .unset, .unset, .unset, .unset, .unset, .unset, .unset, .unset, .unset, .unset, .unset, .unset, .unset, .unset, .unset, .unset, .unset, .unset, .unset, .unset, .unset, .unset, .unset, .unset] [(.int ((p0.toUInt32 >>> ((4 : Int32) &&& 31).toUInt32).toInt32)), (.int (53 : Int32))])) _
    refine XS.bipush X0.here hx rfl (hb hby at_5) ?_
    show Steps p.tables e below (s₁.setTop (mkF m 7 #[.val (.int p0), .val (.int x1), .val (.int x2), .val (.int y1), .val (.int y2), .unset, .unset, .unset, .unset, .unset, .unset, .unset, .unset, .unset, .unset, .unset, .unset, .unset, .unset, .unset, .unset, .unset, .unset, .unset, .unset, .unset, .unset, .unset, .unset, .unset, .unset] [(.int (10 : Int32)), (.int ((p0.toUInt32 >>> ((4 : Int32) &&& 31).toUInt32).toInt32)), (.int (53 : Int32))])) _
    refine iremM X0 hx rfl (hb hby at_7) rfl (by decide) ?_
    show Steps p.tables e below (s₁.setTop (mkF m 8 #[.val (.int p0), .val (.int x1), .val (.int x2), .val (.int y1), .val (.int y2), .unset, .unset, .unset, .unset, .unset, .unset, .unset, .unset, .unset, .unset, .unset, .unset, .unset, .unset, .unset, .unset, .unset, .unset, .unset, .unset, .unset, .unset, .unset, .unset, .unset, .unset] [(.int (((p0.toUInt32 >>> ((4 : Int32) &&& 31).toUInt32).toInt32) % (10 : Int32))), (.int (53 : Int32))])) _
    refine XS.iadd X0.here hx rfl (hb hby at_8) rfl ?_
    show Steps p.tables e below (s₁.setTop (mkF m 9 #[.val (.int p0), .val (.int x1), .val (.int x2), .val (.int y1), .val (.int y2), .unset, .unset, .unset, .unset, .unset, .unset, .unset, .unset, .unset, .unset, .unset, .unset, .unset, .unset, .unset, .unset, .unset, .unset, .unset, .unset, .unset, .unset, .unset, .unset, .unset, .unset] [(.int ((53 : Int32) + (((p0.toUInt32 >>> ((4 : Int32) &&& 31).toUInt32).toInt32) % (10 : Int32))))])) _
    exact kt)
  obtain ⟨s5, q_s5⟩ : ∃ z : Int32, z = ((53 : Int32) + (((p0.toUInt32 >>> ((4 : Int32) &&& 31).toUInt32).toInt32) % (10 : Int32))) := ⟨_, rfl⟩
  have S28 : Go p e below s₁ (entryFrame m #[(.int p0), (.int x1), (.int x2), (.int y1), (.int y2)] maxLocals) s₁ (mkF m 9 #[.val (.int p0), .val (.int x1), .val (.int x2), .val (.int y1), .val (.int y2), .unset, .unset, .unset, .unset, .unset, .unset, .unset, .unset, .unset, .unset, .unset, .unset, .unset, .unset, .unset, .unset, .unset, .unset, .unset, .unset, .unset, .unset, .unset, .unset, .unset, .unset] [(.int s5)]) := by subst q_s5; exact S27
  have hs5 := own_s5 p0
  rw [← q_s5] at hs5
  have S29 : Go p e below s₁ (entryFrame m #[(.int p0), (.int x1), (.int x2), (.int y1), (.int y2)] maxLocals) s₁ (mkF m 14 #[.val (.int p0), .val (.int x1), .val (.int x2), .val (.int y1), .val (.int y2), .val (.int s5), .unset, .unset, .unset, .unset, .unset, .unset, .unset, .unset, .unset, .unset, .unset, .unset, .unset, .unset, .unset, .unset, .unset, .unset, .unset, .unset, .unset, .unset, .unset, .unset, .unset] [(.int (p0 &&& (1 : Int32)))]) := fun t kt => S28 t (by
    refine XS.istore X0.here hx rfl (hb hby at_9) rfl (l' := #[.val (.int p0), .val (.int x1), .val (.int x2), .val (.int y1), .val (.int y2), .val (.int s5), .unset, .unset, .unset, .unset, .unset, .unset, .unset, .unset, .unset, .unset, .unset, .unset, .unset, .unset, .unset, .unset, .unset, .unset, .unset, .unset, .unset, .unset, .unset, .unset, .unset]) rfl ?_
    show Steps p.tables e below (s₁.setTop (mkF m 11 #[.val (.int p0), .val (.int x1), .val (.int x2), .val (.int y1), .val (.int y2), .val (.int s5), .unset, .unset, .unset, .unset, .unset, .unset, .unset, .unset, .unset, .unset, .unset, .unset, .unset, .unset, .unset, .unset, .unset, .unset, .unset, .unset, .unset, .unset, .unset, .unset, .unset] [])) _
    refine XS.iloadN X0.here hx rfl (hb hby at_11) rfl ?_
    show Steps p.tables e below (s₁.setTop (mkF m 12 #[.val (.int p0), .val (.int x1), .val (.int x2), .val (.int y1), .val (.int y2), .val (.int s5), .unset, .unset, .unset, .unset, .unset, .unset, .unset, .unset, .unset, .unset, .unset, .unset, .unset, .unset, .unset, .unset, .unset, .unset, .unset, .unset, .unset, .unset, .unset, .unset, .unset] [(.int p0)])) _
    refine XS.iconst X0.here hx rfl (hb hby at_12) ?_
    show Steps p.tables e below (s₁.setTop (mkF m 13 #[.val (.int p0), .val (.int x1), .val (.int x2), .val (.int y1), .val (.int y2), .val (.int s5), .unset, .unset, .unset, .unset, .unset, .unset, .unset, .unset, .unset, .unset, .unset, .unset, .unset, .unset, .unset, .unset, .unset, .unset, .unset, .unset, .unset, .unset, .unset, .unset, .unset] [(.int (1 : Int32)), (.int p0)])) _
    refine XS.iand X0.here hx rfl (hb hby at_13) rfl ?_
    show Steps p.tables e below (s₁.setTop (mkF m 14 #[.val (.int p0), .val (.int x1), .val (.int x2), .val (.int y1), .val (.int y2), .val (.int s5), .unset, .unset, .unset, .unset, .unset, .unset, .unset, .unset, .unset, .unset, .unset, .unset, .unset, .unset, .unset, .unset, .unset, .unset, .unset, .unset, .unset, .unset, .unset, .unset, .unset] [(.int (p0 &&& (1 : Int32)))])) _
    exact kt)
  obtain ⟨sg, h_sg, S32⟩ : ∃ sg : Int64, (sg = 1 ∨ sg = -1) ∧ Go p e below s₁ (entryFrame m #[(.int p0), (.int x1), (.int x2), (.int y1), (.int y2)] maxLocals) s₁ (mkF m 24 #[.val (.int p0), .val (.int x1), .val (.int x2), .val (.int y1), .val (.int y2), .val (.int s5), .unset, .unset, .unset, .unset, .unset, .unset, .unset, .unset, .unset, .unset, .unset, .unset, .unset, .unset, .unset, .unset, .unset, .unset, .unset, .unset, .unset, .unset, .unset, .unset, .unset] [(.long sg)]) := by
    by_cases hc1 : (p0 &&& (1 : Int32)) = (0 : Int32)
    · have S30 : Go p e below s₁ (entryFrame m #[(.int p0), (.int x1), (.int x2), (.int y1), (.int y2)] maxLocals) s₁ (mkF m 24 #[.val (.int p0), .val (.int x1), .val (.int x2), .val (.int y1), .val (.int y2), .val (.int s5), .unset, .unset, .unset, .unset, .unset, .unset, .unset, .unset, .unset, .unset, .unset, .unset, .unset, .unset, .unset, .unset, .unset, .unset, .unset, .unset, .unset, .unset, .unset, .unset, .unset] [(.long (1 : Int64))]) := fun t kt => S29 t (by
        refine XS.ifYes X0.here hx rfl (pc0 := 14) (pc' := 23) rfl (hb hby at_14) rfl ((if0 _ _).trans (teq (show (p0 &&& (1 : Int32)) = (0 : Int32) from hc1)).1) (by decide) (by decide) ?_
        show Steps p.tables e below (s₁.setTop (mkF m 23 #[.val (.int p0), .val (.int x1), .val (.int x2), .val (.int y1), .val (.int y2), .val (.int s5), .unset, .unset, .unset, .unset, .unset, .unset, .unset, .unset, .unset, .unset, .unset, .unset, .unset, .unset, .unset, .unset, .unset, .unset, .unset, .unset, .unset, .unset, .unset, .unset, .unset] [])) _
        refine XS.lconst X0.here hx rfl (hb hby at_23) ?_
        show Steps p.tables e below (s₁.setTop (mkF m 24 #[.val (.int p0), .val (.int x1), .val (.int x2), .val (.int y1), .val (.int y2), .val (.int s5), .unset, .unset, .unset, .unset, .unset, .unset, .unset, .unset, .unset, .unset, .unset, .unset, .unset, .unset, .unset, .unset, .unset, .unset, .unset, .unset, .unset, .unset, .unset, .unset, .unset] [(.long (1 : Int64))])) _
        exact kt)
      exact ⟨1, Or.inl rfl, S30⟩
    · have S31 : Go p e below s₁ (entryFrame m #[(.int p0), (.int x1), (.int x2), (.int y1), (.int y2)] maxLocals) s₁ (mkF m 24 #[.val (.int p0), .val (.int x1), .val (.int x2), .val (.int y1), .val (.int y2), .val (.int s5), .unset, .unset, .unset, .unset, .unset, .unset, .unset, .unset, .unset, .unset, .unset, .unset, .unset, .unset, .unset, .unset, .unset, .unset, .unset, .unset, .unset, .unset, .unset, .unset, .unset] [(.long (-1 : Int64))]) := fun t kt => S29 t (by
        refine XS.ifNo X0.here hx rfl (hb hby at_14) rfl ((if0 _ _).trans (feq (show ¬ ((p0 &&& (1 : Int32)) = (0 : Int32)) from hc1)).1) ?_
        show Steps p.tables e below (s₁.setTop (mkF m 17 #[.val (.int p0), .val (.int x1), .val (.int x2), .val (.int y1), .val (.int y2), .val (.int s5), .unset, .unset, .unset, .unset, .unset, .unset, .unset, .unset, .unset, .unset, .unset, .unset, .unset, .unset, .unset, .unset, .unset, .unset, .unset, .unset, .unset, .unset, .unset, .unset, .unset] [])) _
        refine X0.ldc2Long hx hown (mvT hZ (hw _ (List.mem_of_getElem? (i := 19) rfl))) (g := (mkF m 17 #[.val (.int p0), .val (.int x1), .val (.int x2), .val (.int y1), .val (.int y2), .val (.int s5), .unset, .unset, .unset, .unset, .unset, .unset, .unset, .unset, .unset, .unset, .unset, .unset, .unset, .unset, .unset, .unset, .unset, .unset, .unset, .unset, .unset, .unset, .unset, .unset, .unset] [])) rfl (hb hby at_17) _ ?_
        show Steps p.tables e below (s₁.setTop (mkF m 20 #[.val (.int p0), .val (.int x1), .val (.int x2), .val (.int y1), .val (.int y2), .val (.int s5), .unset, .unset, .unset, .unset, .unset, .unset, .unset, .unset, .unset, .unset, .unset, .unset, .unset, .unset, .unset, .unset, .unset, .unset, .unset, .unset, .unset, .unset, .unset, .unset, .unset] [(.long (-1 : Int64))])) _
        refine XS.goto X0.here hx rfl (pc0 := 20) (pc' := 24) rfl (hb hby at_20) (by decide) (by decide) ?_
        show Steps p.tables e below (s₁.setTop (mkF m 24 #[.val (.int p0), .val (.int x1), .val (.int x2), .val (.int y1), .val (.int y2), .val (.int s5), .unset, .unset, .unset, .unset, .unset, .unset, .unset, .unset, .unset, .unset, .unset, .unset, .unset, .unset, .unset, .unset, .unset, .unset, .unset, .unset, .unset, .unset, .unset, .unset, .unset] [(.long (-1 : Int64))])) _
        exact kt)
      exact ⟨-1, Or.inr rfl, S31⟩
  have S33 : Go p e below s₁ (entryFrame m #[(.int p0), (.int x1), (.int x2), (.int y1), (.int y2)] maxLocals) s₁ (mkF m 29 #[.val (.int p0), .val (.int x1), .val (.int x2), .val (.int y1), .val (.int y2), .val (.int s5), .val (.long sg), .second, .unset, .unset, .unset, .unset, .unset, .unset, .unset, .unset, .unset, .unset, .unset, .unset, .unset, .unset, .unset, .unset, .unset, .unset, .unset, .unset, .unset, .unset, .unset] [(.int (p0 &&& (2 : Int32)))]) := fun t kt => S32 t (by
    refine XS.lstore X0.here hx rfl (hb hby at_24) rfl (l' := #[.val (.int p0), .val (.int x1), .val (.int x2), .val (.int y1), .val (.int y2), .val (.int s5), .val (.long sg), .second, .unset, .unset, .unset, .unset, .unset, .unset, .unset, .unset, .unset, .unset, .unset, .unset, .unset, .unset, .unset, .unset, .unset, .unset, .unset, .unset, .unset, .unset, .unset]) rfl ?_
    show Steps p.tables e below (s₁.setTop (mkF m 26 #[.val (.int p0), .val (.int x1), .val (.int x2), .val (.int y1), .val (.int y2), .val (.int s5), .val (.long sg), .second, .unset, .unset, .unset, .unset, .unset, .unset, .unset, .unset, .unset, .unset, .unset, .unset, .unset, .unset, .unset, .unset, .unset, .unset, .unset, .unset, .unset, .unset, .unset] [])) _
    refine XS.iloadN X0.here hx rfl (hb hby at_26) rfl ?_
    show Steps p.tables e below (s₁.setTop (mkF m 27 #[.val (.int p0), .val (.int x1), .val (.int x2), .val (.int y1), .val (.int y2), .val (.int s5), .val (.long sg), .second, .unset, .unset, .unset, .unset, .unset, .unset, .unset, .unset, .unset, .unset, .unset, .unset, .unset, .unset, .unset, .unset, .unset, .unset, .unset, .unset, .unset, .unset, .unset] [(.int p0)])) _
    refine XS.iconst X0.here hx rfl (hb hby at_27) ?_
    show Steps p.tables e below (s₁.setTop (mkF m 28 #[.val (.int p0), .val (.int x1), .val (.int x2), .val (.int y1), .val (.int y2), .val (.int s5), .val (.long sg), .second, .unset, .unset, .unset, .unset, .unset, .unset, .unset, .unset, .unset, .unset, .unset, .unset, .unset, .unset, .unset, .unset, .unset, .unset, .unset, .unset, .unset, .unset, .unset] [(.int (2 : Int32)), (.int p0)])) _
    refine XS.iand X0.here hx rfl (hb hby at_28) rfl ?_
    show Steps p.tables e below (s₁.setTop (mkF m 29 #[.val (.int p0), .val (.int x1), .val (.int x2), .val (.int y1), .val (.int y2), .val (.int s5), .val (.long sg), .second, .unset, .unset, .unset, .unset, .unset, .unset, .unset, .unset, .unset, .unset, .unset, .unset, .unset, .unset, .unset, .unset, .unset, .unset, .unset, .unset, .unset, .unset, .unset] [(.int (p0 &&& (2 : Int32)))])) _
    exact kt)
  obtain ⟨sm, h_sm, S36⟩ : ∃ sm : Int32, (True) ∧ Go p e below s₁ (entryFrame m #[(.int p0), (.int x1), (.int x2), (.int y1), (.int y2)] maxLocals) s₁ (mkF m 37 #[.val (.int p0), .val (.int x1), .val (.int x2), .val (.int y1), .val (.int y2), .val (.int s5), .val (.long sg), .second, .unset, .unset, .unset, .unset, .unset, .unset, .unset, .unset, .unset, .unset, .unset, .unset, .unset, .unset, .unset, .unset, .unset, .unset, .unset, .unset, .unset, .unset, .unset] [(.int sm)]) := by
    by_cases hc2 : (p0 &&& (2 : Int32)) = (0 : Int32)
    · have S34 : Go p e below s₁ (entryFrame m #[(.int p0), (.int x1), (.int x2), (.int y1), (.int y2)] maxLocals) s₁ (mkF m 37 #[.val (.int p0), .val (.int x1), .val (.int x2), .val (.int y1), .val (.int y2), .val (.int s5), .val (.long sg), .second, .unset, .unset, .unset, .unset, .unset, .unset, .unset, .unset, .unset, .unset, .unset, .unset, .unset, .unset, .unset, .unset, .unset, .unset, .unset, .unset, .unset, .unset, .unset] [(.int (0 : Int32))]) := fun t kt => S33 t (by
        refine XS.ifYes X0.here hx rfl (pc0 := 29) (pc' := 36) rfl (hb hby at_29) rfl ((if0 _ _).trans (teq (show (p0 &&& (2 : Int32)) = (0 : Int32) from hc2)).1) (by decide) (by decide) ?_
        show Steps p.tables e below (s₁.setTop (mkF m 36 #[.val (.int p0), .val (.int x1), .val (.int x2), .val (.int y1), .val (.int y2), .val (.int s5), .val (.long sg), .second, .unset, .unset, .unset, .unset, .unset, .unset, .unset, .unset, .unset, .unset, .unset, .unset, .unset, .unset, .unset, .unset, .unset, .unset, .unset, .unset, .unset, .unset, .unset] [])) _
        refine XS.iconst X0.here hx rfl (hb hby at_36) ?_
        show Steps p.tables e below (s₁.setTop (mkF m 37 #[.val (.int p0), .val (.int x1), .val (.int x2), .val (.int y1), .val (.int y2), .val (.int s5), .val (.long sg), .second, .unset, .unset, .unset, .unset, .unset, .unset, .unset, .unset, .unset, .unset, .unset, .unset, .unset, .unset, .unset, .unset, .unset, .unset, .unset, .unset, .unset, .unset, .unset] [(.int (0 : Int32))])) _
        exact kt)
      exact ⟨0, trivial, S34⟩
    · have S35 : Go p e below s₁ (entryFrame m #[(.int p0), (.int x1), (.int x2), (.int y1), (.int y2)] maxLocals) s₁ (mkF m 37 #[.val (.int p0), .val (.int x1), .val (.int x2), .val (.int y1), .val (.int y2), .val (.int s5), .val (.long sg), .second, .unset, .unset, .unset, .unset, .unset, .unset, .unset, .unset, .unset, .unset, .unset, .unset, .unset, .unset, .unset, .unset, .unset, .unset, .unset, .unset, .unset, .unset, .unset] [(.int (1 : Int32))]) := fun t kt => S33 t (by
        refine XS.ifNo X0.here hx rfl (hb hby at_29) rfl ((if0 _ _).trans (feq (show ¬ ((p0 &&& (2 : Int32)) = (0 : Int32)) from hc2)).1) ?_
        show Steps p.tables e below (s₁.setTop (mkF m 32 #[.val (.int p0), .val (.int x1), .val (.int x2), .val (.int y1), .val (.int y2), .val (.int s5), .val (.long sg), .second, .unset, .unset, .unset, .unset, .unset, .unset, .unset, .unset, .unset, .unset, .unset, .unset, .unset, .unset, .unset, .unset, .unset, .unset, .unset, .unset, .unset, .unset, .unset] [])) _
        refine XS.iconst X0.here hx rfl (hb hby at_32) ?_
        show Steps p.tables e below (s₁.setTop (mkF m 33 #[.val (.int p0), .val (.int x1), .val (.int x2), .val (.int y1), .val (.int y2), .val (.int s5), .val (.long sg), .second, .unset, .unset, .unset, .unset, .unset, .unset, .unset, .unset, .unset, .unset, .unset, .unset, .unset, .unset, .unset, .unset, .unset, .unset, .unset, .unset, .unset, .unset, .unset] [(.int (1 : Int32))])) _
        refine XS.goto X0.here hx rfl (pc0 := 33) (pc' := 37) rfl (hb hby at_33) (by decide) (by decide) ?_
        show Steps p.tables e below (s₁.setTop (mkF m 37 #[.val (.int p0), .val (.int x1), .val (.int x2), .val (.int y1), .val (.int y2), .val (.int s5), .val (.long sg), .second, .unset, .unset, .unset, .unset, .unset, .unset, .unset, .unset, .unset, .unset, .unset, .unset, .unset, .unset, .unset, .unset, .unset, .unset, .unset, .unset, .unset, .unset, .unset] [(.int (1 : Int32))])) _
        exact kt)
      exact ⟨1, trivial, S35⟩
  have S37 : Go p e below s₁ (entryFrame m #[(.int p0), (.int x1), (.int x2), (.int y1), (.int y2)] maxLocals) s₁ (mkF m 44 #[.val (.int p0), .val (.int x1), .val (.int x2), .val (.int y1), .val (.int y2), .val (.int s5), .val (.long sg), .second, .val (.int sm), .unset, .unset, .unset, .unset, .unset, .unset, .unset, .unset, .unset, .unset, .unset, .unset, .unset, .unset, .unset, .unset, .unset, .unset, .unset, .unset, .unset, .unset] [(.long ((x1 &&& (1048575 : Int32)).toInt64))]) := fun t kt => S36 t (by
    refine XS.istore X0.here hx rfl (hb hby at_37) rfl (l' := #[.val (.int p0), .val (.int x1), .val (.int x2), .val (.int y1), .val (.int y2), .val (.int s5), .val (.long sg), .second, .val (.int sm), .unset, .unset, .unset, .unset, .unset, .unset, .unset, .unset, .unset, .unset, .unset, .unset, .unset, .unset, .unset, .unset, .unset, .unset, .unset, .unset, .unset, .unset]) rfl ?_
    show Steps p.tables e below (s₁.setTop (mkF m 39 #[.val (.int p0), .val (.int x1), .val (.int x2), .val (.int y1), .val (.int y2), .val (.int s5), .val (.long sg), .second, .val (.int sm), .unset, .unset, .unset, .unset, .unset, .unset, .unset, .unset, .unset, .unset, .unset, .unset, .unset, .unset, .unset, .unset, .unset, .unset, .unset, .unset, .unset, .unset] [])) _
    refine XS.iloadN X0.here hx rfl (hb hby at_39) rfl ?_
    show Steps p.tables e below (s₁.setTop (mkF m 40 #[.val (.int p0), .val (.int x1), .val (.int x2), .val (.int y1), .val (.int y2), .val (.int s5), .val (.long sg), .second, .val (.int sm), .unset, .unset, .unset, .unset, .unset, .unset, .unset, .unset, .unset, .unset, .unset, .unset, .unset, .unset, .unset, .unset, .unset, .unset, .unset, .unset, .unset, .unset] [(.int x1)])) _
    refine X0.ldcInt hx hown (mvT hZ (hw _ (List.mem_of_getElem? (i := 0) rfl))) (g := (mkF m 40 #[.val (.int p0), .val (.int x1), .val (.int x2), .val (.int y1), .val (.int y2), .val (.int s5), .val (.long sg), .second, .val (.int sm), .unset, .unset, .unset, .unset, .unset, .unset, .unset, .unset, .unset, .unset, .unset, .unset, .unset, .unset, .unset, .unset, .unset, .unset, .unset, .unset, .unset, .unset] [(.int x1)])) rfl (hb hby at_40) _ ?_
    show Steps p.tables e below (s₁.setTop (mkF m 42 #[.val (.int p0), .val (.int x1), .val (.int x2), .val (.int y1), .val (.int y2), .val (.int s5), .val (.long sg), .second, .val (.int sm), .unset, .unset, .unset, .unset, .unset, .unset, .unset, .unset, .unset, .unset, .unset, .unset, .unset, .unset, .unset, .unset, .unset, .unset, .unset, .unset, .unset, .unset] [(.int (1048575 : Int32)), (.int x1)])) _
    refine XS.iand X0.here hx rfl (hb hby at_42) rfl ?_
    show Steps p.tables e below (s₁.setTop (mkF m 43 #[.val (.int p0), .val (.int x1), .val (.int x2), .val (.int y1), .val (.int y2), .val (.int s5), .val (.long sg), .second, .val (.int sm), .unset, .unset, .unset, .unset, .unset, .unset, .unset, .unset, .unset, .unset, .unset, .unset, .unset, .unset, .unset, .unset, .unset, .unset, .unset, .unset, .unset, .unset] [(.int (x1 &&& (1048575 : Int32)))])) _
    refine XS.i2l X0.here hx rfl (hb hby at_43) rfl ?_
    show Steps p.tables e below (s₁.setTop (mkF m 44 #[.val (.int p0), .val (.int x1), .val (.int x2), .val (.int y1), .val (.int y2), .val (.int s5), .val (.long sg), .second, .val (.int sm), .unset, .unset, .unset, .unset, .unset, .unset, .unset, .unset, .unset, .unset, .unset, .unset, .unset, .unset, .unset, .unset, .unset, .unset, .unset, .unset, .unset, .unset] [(.long ((x1 &&& (1048575 : Int32)).toInt64))])) _
    exact kt)
  obtain ⟨d1, q_d1⟩ : ∃ z : Int64, z = ((x1 &&& (1048575 : Int32)).toInt64) := ⟨_, rfl⟩
  have S38 : Go p e below s₁ (entryFrame m #[(.int p0), (.int x1), (.int x2), (.int y1), (.int y2)] maxLocals) s₁ (mkF m 44 #[.val (.int p0), .val (.int x1), .val (.int x2), .val (.int y1), .val (.int y2), .val (.int s5), .val (.long sg), .second, .val (.int sm), .unset, .unset, .unset, .unset, .unset, .unset, .unset, .unset, .unset, .unset, .unset, .unset, .unset, .unset, .unset, .unset, .unset, .unset, .unset, .unset, .unset, .unset] [(.long d1)]) := by subst q_d1; exact S37
  have hd1 := own_mask x1
  rw [← q_d1] at hd1
  have S39 : Go p e below s₁ (entryFrame m #[(.int p0), (.int x1), (.int x2), (.int y1), (.int y2)] maxLocals) s₁ (mkF m 48 #[.val (.int p0), .val (.int x1), .val (.int x2), .val (.int y1), .val (.int y2), .val (.int s5), .val (.long sg), .second, .val (.int sm), .val (.long d1), .second, .unset, .unset, .unset, .unset, .unset, .unset, .unset, .unset, .unset, .unset, .unset, .unset, .unset, .unset, .unset, .unset, .unset, .unset, .unset, .unset] [(.int sm)]) := fun t kt => S38 t (by
    refine XS.lstore X0.here hx rfl (hb hby at_44) rfl (l' := #[.val (.int p0), .val (.int x1), .val (.int x2), .val (.int y1), .val (.int y2), .val (.int s5), .val (.long sg), .second, .val (.int sm), .val (.long d1), .second, .unset, .unset, .unset, .unset, .unset, .unset, .unset, .unset, .unset, .unset, .unset, .unset, .unset, .unset, .unset, .unset, .unset, .unset, .unset, .unset]) rfl ?_
    show Steps p.tables e below (s₁.setTop (mkF m 46 #[.val (.int p0), .val (.int x1), .val (.int x2), .val (.int y1), .val (.int y2), .val (.int s5), .val (.long sg), .second, .val (.int sm), .val (.long d1), .second, .unset, .unset, .unset, .unset, .unset, .unset, .unset, .unset, .unset, .unset, .unset, .unset, .unset, .unset, .unset, .unset, .unset, .unset, .unset, .unset] [])) _
    refine XS.iload X0.here hx rfl (hb hby at_46) rfl ?_
    show Steps p.tables e below (s₁.setTop (mkF m 48 #[.val (.int p0), .val (.int x1), .val (.int x2), .val (.int y1), .val (.int y2), .val (.int s5), .val (.long sg), .second, .val (.int sm), .val (.long d1), .second, .unset, .unset, .unset, .unset, .unset, .unset, .unset, .unset, .unset, .unset, .unset, .unset, .unset, .unset, .unset, .unset, .unset, .unset, .unset, .unset] [(.int sm)])) _
    exact kt)
  obtain ⟨d2, h_d2, S42⟩ : ∃ d2 : Int64, (0 ≤ d2.toInt ∧ d2.toInt < 1048576) ∧ Go p e below s₁ (entryFrame m #[(.int p0), (.int x1), (.int x2), (.int y1), (.int y2)] maxLocals) s₁ (mkF m 61 #[.val (.int p0), .val (.int x1), .val (.int x2), .val (.int y1), .val (.int y2), .val (.int s5), .val (.long sg), .second, .val (.int sm), .val (.long d1), .second, .unset, .unset, .unset, .unset, .unset, .unset, .unset, .unset, .unset, .unset, .unset, .unset, .unset, .unset, .unset, .unset, .unset, .unset, .unset, .unset] [(.long d2)]) := by
    by_cases hc3 : sm = (0 : Int32)
    · have S40 : Go p e below s₁ (entryFrame m #[(.int p0), (.int x1), (.int x2), (.int y1), (.int y2)] maxLocals) s₁ (mkF m 61 #[.val (.int p0), .val (.int x1), .val (.int x2), .val (.int y1), .val (.int y2), .val (.int s5), .val (.long sg), .second, .val (.int sm), .val (.long d1), .second, .unset, .unset, .unset, .unset, .unset, .unset, .unset, .unset, .unset, .unset, .unset, .unset, .unset, .unset, .unset, .unset, .unset, .unset, .unset, .unset] [(.long ((x2 &&& (1048575 : Int32)).toInt64))]) := fun t kt => S39 t (by
        refine XS.ifYes X0.here hx rfl (pc0 := 48) (pc' := 56) rfl (hb hby at_48) rfl ((if0 _ _).trans (teq (show sm = (0 : Int32) from hc3)).1) (by decide) (by decide) ?_
        show Steps p.tables e below (s₁.setTop (mkF m 56 #[.val (.int p0), .val (.int x1), .val (.int x2), .val (.int y1), .val (.int y2), .val (.int s5), .val (.long sg), .second, .val (.int sm), .val (.long d1), .second, .unset, .unset, .unset, .unset, .unset, .unset, .unset, .unset, .unset, .unset, .unset, .unset, .unset, .unset, .unset, .unset, .unset, .unset, .unset, .unset] [])) _
        refine XS.iloadN X0.here hx rfl (hb hby at_56) rfl ?_
        show Steps p.tables e below (s₁.setTop (mkF m 57 #[.val (.int p0), .val (.int x1), .val (.int x2), .val (.int y1), .val (.int y2), .val (.int s5), .val (.long sg), .second, .val (.int sm), .val (.long d1), .second, .unset, .unset, .unset, .unset, .unset, .unset, .unset, .unset, .unset, .unset, .unset, .unset, .unset, .unset, .unset, .unset, .unset, .unset, .unset, .unset] [(.int x2)])) _
        refine X0.ldcInt hx hown (mvT hZ (hw _ (List.mem_of_getElem? (i := 0) rfl))) (g := (mkF m 57 #[.val (.int p0), .val (.int x1), .val (.int x2), .val (.int y1), .val (.int y2), .val (.int s5), .val (.long sg), .second, .val (.int sm), .val (.long d1), .second, .unset, .unset, .unset, .unset, .unset, .unset, .unset, .unset, .unset, .unset, .unset, .unset, .unset, .unset, .unset, .unset, .unset, .unset, .unset, .unset] [(.int x2)])) rfl (hb hby at_57) _ ?_
        show Steps p.tables e below (s₁.setTop (mkF m 59 #[.val (.int p0), .val (.int x1), .val (.int x2), .val (.int y1), .val (.int y2), .val (.int s5), .val (.long sg), .second, .val (.int sm), .val (.long d1), .second, .unset, .unset, .unset, .unset, .unset, .unset, .unset, .unset, .unset, .unset, .unset, .unset, .unset, .unset, .unset, .unset, .unset, .unset, .unset, .unset] [(.int (1048575 : Int32)), (.int x2)])) _
        refine XS.iand X0.here hx rfl (hb hby at_59) rfl ?_
        show Steps p.tables e below (s₁.setTop (mkF m 60 #[.val (.int p0), .val (.int x1), .val (.int x2), .val (.int y1), .val (.int y2), .val (.int s5), .val (.long sg), .second, .val (.int sm), .val (.long d1), .second, .unset, .unset, .unset, .unset, .unset, .unset, .unset, .unset, .unset, .unset, .unset, .unset, .unset, .unset, .unset, .unset, .unset, .unset, .unset, .unset] [(.int (x2 &&& (1048575 : Int32)))])) _
        refine XS.i2l X0.here hx rfl (hb hby at_60) rfl ?_
        show Steps p.tables e below (s₁.setTop (mkF m 61 #[.val (.int p0), .val (.int x1), .val (.int x2), .val (.int y1), .val (.int y2), .val (.int s5), .val (.long sg), .second, .val (.int sm), .val (.long d1), .second, .unset, .unset, .unset, .unset, .unset, .unset, .unset, .unset, .unset, .unset, .unset, .unset, .unset, .unset, .unset, .unset, .unset, .unset, .unset, .unset] [(.long ((x2 &&& (1048575 : Int32)).toInt64))])) _
        exact kt)
      exact ⟨((x2 &&& (1048575 : Int32)).toInt64), own_mask x2, S40⟩
    · have S41 : Go p e below s₁ (entryFrame m #[(.int p0), (.int x1), (.int x2), (.int y1), (.int y2)] maxLocals) s₁ (mkF m 61 #[.val (.int p0), .val (.int x1), .val (.int x2), .val (.int y1), .val (.int y2), .val (.int s5), .val (.long sg), .second, .val (.int sm), .val (.long d1), .second, .unset, .unset, .unset, .unset, .unset, .unset, .unset, .unset, .unset, .unset, .unset, .unset, .unset, .unset, .unset, .unset, .unset, .unset, .unset, .unset] [(.long d1)]) := fun t kt => S39 t (by
        refine XS.ifNo X0.here hx rfl (hb hby at_48) rfl ((if0 _ _).trans (feq (show ¬ (sm = (0 : Int32)) from hc3)).1) ?_
        show Steps p.tables e below (s₁.setTop (mkF m 51 #[.val (.int p0), .val (.int x1), .val (.int x2), .val (.int y1), .val (.int y2), .val (.int s5), .val (.long sg), .second, .val (.int sm), .val (.long d1), .second, .unset, .unset, .unset, .unset, .unset, .unset, .unset, .unset, .unset, .unset, .unset, .unset, .unset, .unset, .unset, .unset, .unset, .unset, .unset, .unset] [])) _
        refine XS.lload X0.here hx rfl (hb hby at_51) rfl ?_
        show Steps p.tables e below (s₁.setTop (mkF m 53 #[.val (.int p0), .val (.int x1), .val (.int x2), .val (.int y1), .val (.int y2), .val (.int s5), .val (.long sg), .second, .val (.int sm), .val (.long d1), .second, .unset, .unset, .unset, .unset, .unset, .unset, .unset, .unset, .unset, .unset, .unset, .unset, .unset, .unset, .unset, .unset, .unset, .unset, .unset, .unset] [(.long d1)])) _
        refine XS.goto X0.here hx rfl (pc0 := 53) (pc' := 61) rfl (hb hby at_53) (by decide) (by decide) ?_
        show Steps p.tables e below (s₁.setTop (mkF m 61 #[.val (.int p0), .val (.int x1), .val (.int x2), .val (.int y1), .val (.int y2), .val (.int s5), .val (.long sg), .second, .val (.int sm), .val (.long d1), .second, .unset, .unset, .unset, .unset, .unset, .unset, .unset, .unset, .unset, .unset, .unset, .unset, .unset, .unset, .unset, .unset, .unset, .unset, .unset, .unset] [(.long d1)])) _
        exact kt)
      exact ⟨d1, hd1, S41⟩
  have S43 : Go p e below s₁ (entryFrame m #[(.int p0), (.int x1), (.int x2), (.int y1), (.int y2)] maxLocals) s₁ (mkF m 70 #[.val (.int p0), .val (.int x1), .val (.int x2), .val (.int y1), .val (.int y2), .val (.int s5), .val (.long sg), .second, .val (.int sm), .val (.long d1), .second, .val (.long d2), .second, .unset, .unset, .unset, .unset, .unset, .unset, .unset, .unset, .unset, .unset, .unset, .unset, .unset, .unset, .unset, .unset, .unset, .unset] [(.long ((1 : Int64) <<< ((s5 - (53 : Int32)) &&& 0x3f).toInt64))]) := fun t kt => S42 t (by
    refine XS.lstore X0.here hx rfl (hb hby at_61) rfl (l' := #[.val (.int p0), .val (.int x1), .val (.int x2), .val (.int y1), .val (.int y2), .val (.int s5), .val (.long sg), .second, .val (.int sm), .val (.long d1), .second, .val (.long d2), .second, .unset, .unset, .unset, .unset, .unset, .unset, .unset, .unset, .unset, .unset, .unset, .unset, .unset, .unset, .unset, .unset, .unset, .unset]) rfl ?_
    show Steps p.tables e below (s₁.setTop (mkF m 63 #[.val (.int p0), .val (.int x1), .val (.int x2), .val (.int y1), .val (.int y2), .val (.int s5), .val (.long sg), .second, .val (.int sm), .val (.long d1), .second, .val (.long d2), .second, .unset, .unset, .unset, .unset, .unset, .unset, .unset, .unset, .unset, .unset, .unset, .unset, .unset, .unset, .unset, .unset, .unset, .unset] [])) _
    refine XS.lconst X0.here hx rfl (hb hby at_63) ?_
    show Steps p.tables e below (s₁.setTop (mkF m 64 #[.val (.int p0), .val (.int x1), .val (.int x2), .val (.int y1), .val (.int y2), .val (.int s5), .val (.long sg), .second, .val (.int sm), .val (.long d1), .second, .val (.long d2), .second, .unset, .unset, .unset, .unset, .unset, .unset, .unset, .unset, .unset, .unset, .unset, .unset, .unset, .unset, .unset, .unset, .unset, .unset] [(.long (1 : Int64))])) _
    refine XS.iload X0.here hx rfl (hb hby at_64) rfl ?_
    show Steps p.tables e below (s₁.setTop (mkF m 66 #[.val (.int p0), .val (.int x1), .val (.int x2), .val (.int y1), .val (.int y2), .val (.int s5), .val (.long sg), .second, .val (.int sm), .val (.long d1), .second, .val (.long d2), .second, .unset, .unset, .unset, .unset, .unset, .unset, .unset, .unset, .unset, .unset, .unset, .unset, .unset, .unset, .unset, .unset, .unset, .unset] [(.int s5), (.long (1 : Int64))])) _
    refine XS.bipush X0.here hx rfl (hb hby at_66) ?_
    show Steps p.tables e below (s₁.setTop (mkF m 68 #[.val (.int p0), .val (.int x1), .val (.int x2), .val (.int y1), .val (.int y2), .val (.int s5), .val (.long sg), .second, .val (.int sm), .val (.long d1), .second, .val (.long d2), .second, .unset, .unset, .unset, .unset, .unset, .unset, .unset, .unset, .unset, .unset, .unset, .unset, .unset, .unset, .unset, .unset, .unset, .unset] [(.int (53 : Int32)), (.int s5), (.long (1 : Int64))])) _
    refine XS.isub X0.here hx rfl (hb hby at_68) rfl ?_
    show Steps p.tables e below (s₁.setTop (mkF m 69 #[.val (.int p0), .val (.int x1), .val (.int x2), .val (.int y1), .val (.int y2), .val (.int s5), .val (.long sg), .second, .val (.int sm), .val (.long d1), .second, .val (.long d2), .second, .unset, .unset, .unset, .unset, .unset, .unset, .unset, .unset, .unset, .unset, .unset, .unset, .unset, .unset, .unset, .unset, .unset, .unset] [(.int (s5 - (53 : Int32))), (.long (1 : Int64))])) _
    refine XS.lshl X0.here hx rfl (hb hby at_69) rfl ?_
    show Steps p.tables e below (s₁.setTop (mkF m 70 #[.val (.int p0), .val (.int x1), .val (.int x2), .val (.int y1), .val (.int y2), .val (.int s5), .val (.long sg), .second, .val (.int sm), .val (.long d1), .second, .val (.long d2), .second, .unset, .unset, .unset, .unset, .unset, .unset, .unset, .unset, .unset, .unset, .unset, .unset, .unset, .unset, .unset, .unset, .unset, .unset] [(.long ((1 : Int64) <<< ((s5 - (53 : Int32)) &&& 0x3f).toInt64))])) _
    exact kt)
  obtain ⟨hf, q_hf⟩ : ∃ z : Int64, z = ((1 : Int64) <<< ((s5 - (53 : Int32)) &&& 0x3f).toInt64) := ⟨_, rfl⟩
  have S44 : Go p e below s₁ (entryFrame m #[(.int p0), (.int x1), (.int x2), (.int y1), (.int y2)] maxLocals) s₁ (mkF m 70 #[.val (.int p0), .val (.int x1), .val (.int x2), .val (.int y1), .val (.int y2), .val (.int s5), .val (.long sg), .second, .val (.int sm), .val (.long d1), .second, .val (.long d2), .second, .unset, .unset, .unset, .unset, .unset, .unset, .unset, .unset, .unset, .unset, .unset, .unset, .unset, .unset, .unset, .unset, .unset, .unset] [(.long hf)]) := by subst q_hf; exact S43
  have hhf := own_half hs5
  rw [← q_hf] at hhf
  have S45 : Go p e below s₁ (entryFrame m #[(.int p0), (.int x1), (.int x2), (.int y1), (.int y2)] maxLocals) s₁ (mkF m 89 #[.val (.int p0), .val (.int x1), .val (.int x2), .val (.int y1), .val (.int y2), .val (.int s5), .val (.long sg), .second, .val (.int sm), .val (.long d1), .second, .val (.long d2), .second, .val (.long hf), .second, .unset, .unset, .unset, .unset, .unset, .unset, .unset, .unset, .unset, .unset, .unset, .unset, .unset, .unset, .unset, .unset] [(.long ((((y1 &&& (2147483647 : Int32)).toInt64) % (((2 : Int64) * hf) + (1 : Int64))) - hf))]) := fun t kt => S44 t (by
    refine XS.lstore X0.here hx rfl (hb hby at_70) rfl (l' := #[.val (.int p0), .val (.int x1), .val (.int x2), .val (.int y1), .val (.int y2), .val (.int s5), .val (.long sg), .second, .val (.int sm), .val (.long d1), .second, .val (.long d2), .second, .val (.long hf), .second, .unset, .unset, .unset, .unset, .unset, .unset, .unset, .unset, .unset, .unset, .unset, .unset, .unset, .unset, .unset, .unset]) rfl ?_
    show Steps p.tables e below (s₁.setTop (mkF m 72 #[.val (.int p0), .val (.int x1), .val (.int x2), .val (.int y1), .val (.int y2), .val (.int s5), .val (.long sg), .second, .val (.int sm), .val (.long d1), .second, .val (.long d2), .second, .val (.long hf), .second, .unset, .unset, .unset, .unset, .unset, .unset, .unset, .unset, .unset, .unset, .unset, .unset, .unset, .unset, .unset, .unset] [])) _
    refine XS.iloadN X0.here hx rfl (hb hby at_72) rfl ?_
    show Steps p.tables e below (s₁.setTop (mkF m 73 #[.val (.int p0), .val (.int x1), .val (.int x2), .val (.int y1), .val (.int y2), .val (.int s5), .val (.long sg), .second, .val (.int sm), .val (.long d1), .second, .val (.long d2), .second, .val (.long hf), .second, .unset, .unset, .unset, .unset, .unset, .unset, .unset, .unset, .unset, .unset, .unset, .unset, .unset, .unset, .unset, .unset] [(.int y1)])) _
    refine X0.ldcInt hx hown (mvT hZ (hw _ (List.mem_of_getElem? (i := 1) rfl))) (g := (mkF m 73 #[.val (.int p0), .val (.int x1), .val (.int x2), .val (.int y1), .val (.int y2), .val (.int s5), .val (.long sg), .second, .val (.int sm), .val (.long d1), .second, .val (.long d2), .second, .val (.long hf), .second, .unset, .unset, .unset, .unset, .unset, .unset, .unset, .unset, .unset, .unset, .unset, .unset, .unset, .unset, .unset, .unset] [(.int y1)])) rfl (hb hby at_73) _ ?_
    show Steps p.tables e below (s₁.setTop (mkF m 75 #[.val (.int p0), .val (.int x1), .val (.int x2), .val (.int y1), .val (.int y2), .val (.int s5), .val (.long sg), .second, .val (.int sm), .val (.long d1), .second, .val (.long d2), .second, .val (.long hf), .second, .unset, .unset, .unset, .unset, .unset, .unset, .unset, .unset, .unset, .unset, .unset, .unset, .unset, .unset, .unset, .unset] [(.int (2147483647 : Int32)), (.int y1)])) _
    refine XS.iand X0.here hx rfl (hb hby at_75) rfl ?_
    show Steps p.tables e below (s₁.setTop (mkF m 76 #[.val (.int p0), .val (.int x1), .val (.int x2), .val (.int y1), .val (.int y2), .val (.int s5), .val (.long sg), .second, .val (.int sm), .val (.long d1), .second, .val (.long d2), .second, .val (.long hf), .second, .unset, .unset, .unset, .unset, .unset, .unset, .unset, .unset, .unset, .unset, .unset, .unset, .unset, .unset, .unset, .unset] [(.int (y1 &&& (2147483647 : Int32)))])) _
    refine XS.i2l X0.here hx rfl (hb hby at_76) rfl ?_
    show Steps p.tables e below (s₁.setTop (mkF m 77 #[.val (.int p0), .val (.int x1), .val (.int x2), .val (.int y1), .val (.int y2), .val (.int s5), .val (.long sg), .second, .val (.int sm), .val (.long d1), .second, .val (.long d2), .second, .val (.long hf), .second, .unset, .unset, .unset, .unset, .unset, .unset, .unset, .unset, .unset, .unset, .unset, .unset, .unset, .unset, .unset, .unset] [(.long ((y1 &&& (2147483647 : Int32)).toInt64))])) _
    refine X0.ldc2Long hx hown (mvT hZ (hw _ (List.mem_of_getElem? (i := 2) rfl))) (g := (mkF m 77 #[.val (.int p0), .val (.int x1), .val (.int x2), .val (.int y1), .val (.int y2), .val (.int s5), .val (.long sg), .second, .val (.int sm), .val (.long d1), .second, .val (.long d2), .second, .val (.long hf), .second, .unset, .unset, .unset, .unset, .unset, .unset, .unset, .unset, .unset, .unset, .unset, .unset, .unset, .unset, .unset, .unset] [(.long ((y1 &&& (2147483647 : Int32)).toInt64))])) rfl (hb hby at_77) _ ?_
    show Steps p.tables e below (s₁.setTop (mkF m 80 #[.val (.int p0), .val (.int x1), .val (.int x2), .val (.int y1), .val (.int y2), .val (.int s5), .val (.long sg), .second, .val (.int sm), .val (.long d1), .second, .val (.long d2), .second, .val (.long hf), .second, .unset, .unset, .unset, .unset, .unset, .unset, .unset, .unset, .unset, .unset, .unset, .unset, .unset, .unset, .unset, .unset] [(.long (2 : Int64)), (.long ((y1 &&& (2147483647 : Int32)).toInt64))])) _
    refine XS.lload X0.here hx rfl (hb hby at_80) rfl ?_
    show Steps p.tables e below (s₁.setTop (mkF m 82 #[.val (.int p0), .val (.int x1), .val (.int x2), .val (.int y1), .val (.int y2), .val (.int s5), .val (.long sg), .second, .val (.int sm), .val (.long d1), .second, .val (.long d2), .second, .val (.long hf), .second, .unset, .unset, .unset, .unset, .unset, .unset, .unset, .unset, .unset, .unset, .unset, .unset, .unset, .unset, .unset, .unset] [(.long hf), (.long (2 : Int64)), (.long ((y1 &&& (2147483647 : Int32)).toInt64))])) _
    refine XS.lmul X0.here hx rfl (hb hby at_82) rfl ?_
    show Steps p.tables e below (s₁.setTop (mkF m 83 #[.val (.int p0), .val (.int x1), .val (.int x2), .val (.int y1), .val (.int y2), .val (.int s5), .val (.long sg), .second, .val (.int sm), .val (.long d1), .second, .val (.long d2), .second, .val (.long hf), .second, .unset, .unset, .unset, .unset, .unset, .unset, .unset, .unset, .unset, .unset, .unset, .unset, .unset, .unset, .unset, .unset] [(.long ((2 : Int64) * hf)), (.long ((y1 &&& (2147483647 : Int32)).toInt64))])) _
    refine XS.lconst X0.here hx rfl (hb hby at_83) ?_
    show Steps p.tables e below (s₁.setTop (mkF m 84 #[.val (.int p0), .val (.int x1), .val (.int x2), .val (.int y1), .val (.int y2), .val (.int s5), .val (.long sg), .second, .val (.int sm), .val (.long d1), .second, .val (.long d2), .second, .val (.long hf), .second, .unset, .unset, .unset, .unset, .unset, .unset, .unset, .unset, .unset, .unset, .unset, .unset, .unset, .unset, .unset, .unset] [(.long (1 : Int64)), (.long ((2 : Int64) * hf)), (.long ((y1 &&& (2147483647 : Int32)).toInt64))])) _
    refine XS.ladd X0.here hx rfl (hb hby at_84) rfl ?_
    show Steps p.tables e below (s₁.setTop (mkF m 85 #[.val (.int p0), .val (.int x1), .val (.int x2), .val (.int y1), .val (.int y2), .val (.int s5), .val (.long sg), .second, .val (.int sm), .val (.long d1), .second, .val (.long d2), .second, .val (.long hf), .second, .unset, .unset, .unset, .unset, .unset, .unset, .unset, .unset, .unset, .unset, .unset, .unset, .unset, .unset, .unset, .unset] [(.long (((2 : Int64) * hf) + (1 : Int64))), (.long ((y1 &&& (2147483647 : Int32)).toInt64))])) _
    refine XS.lrem X0.here hx rfl (hb hby at_85) rfl (own_nz hhf) ?_
    rw [lrem_mod]
    show Steps p.tables e below (s₁.setTop (mkF m 86 #[.val (.int p0), .val (.int x1), .val (.int x2), .val (.int y1), .val (.int y2), .val (.int s5), .val (.long sg), .second, .val (.int sm), .val (.long d1), .second, .val (.long d2), .second, .val (.long hf), .second, .unset, .unset, .unset, .unset, .unset, .unset, .unset, .unset, .unset, .unset, .unset, .unset, .unset, .unset, .unset, .unset] [(.long (((y1 &&& (2147483647 : Int32)).toInt64) % (((2 : Int64) * hf) + (1 : Int64))))])) _
    refine XS.lload X0.here hx rfl (hb hby at_86) rfl ?_
    show Steps p.tables e below (s₁.setTop (mkF m 88 #[.val (.int p0), .val (.int x1), .val (.int x2), .val (.int y1), .val (.int y2), .val (.int s5), .val (.long sg), .second, .val (.int sm), .val (.long d1), .second, .val (.long d2), .second, .val (.long hf), .second, .unset, .unset, .unset, .unset, .unset, .unset, .unset, .unset, .unset, .unset, .unset, .unset, .unset, .unset, .unset, .unset] [(.long hf), (.long (((y1 &&& (2147483647 : Int32)).toInt64) % (((2 : Int64) * hf) + (1 : Int64))))])) _
    refine XS.lsub X0.here hx rfl (hb hby at_88) rfl ?_
    show Steps p.tables e below (s₁.setTop (mkF m 89 #[.val (.int p0), .val (.int x1), .val (.int x2), .val (.int y1), .val (.int y2), .val (.int s5), .val (.long sg), .second, .val (.int sm), .val (.long d1), .second, .val (.long d2), .second, .val (.long hf), .second, .unset, .unset, .unset, .unset, .unset, .unset, .unset, .unset, .unset, .unset, .unset, .unset, .unset, .unset, .unset, .unset] [(.long ((((y1 &&& (2147483647 : Int32)).toInt64) % (((2 : Int64) * hf) + (1 : Int64))) - hf))])) _
    exact kt)
  obtain ⟨l1, q_l1⟩ : ∃ z : Int64, z = ((((y1 &&& (2147483647 : Int32)).toInt64) % (((2 : Int64) * hf) + (1 : Int64))) - hf) := ⟨_, rfl⟩
  have S46 : Go p e below s₁ (entryFrame m #[(.int p0), (.int x1), (.int x2), (.int y1), (.int y2)] maxLocals) s₁ (mkF m 89 #[.val (.int p0), .val (.int x1), .val (.int x2), .val (.int y1), .val (.int y2), .val (.int s5), .val (.long sg), .second, .val (.int sm), .val (.long d1), .second, .val (.long d2), .second, .val (.long hf), .second, .unset, .unset, .unset, .unset, .unset, .unset, .unset, .unset, .unset, .unset, .unset, .unset, .unset, .unset, .unset, .unset] [(.long l1)]) := by subst q_l1; exact S45
  have hl1 := own_low y1 hhf
  rw [← q_l1] at hl1
  have S47 : Go p e below s₁ (entryFrame m #[(.int p0), (.int x1), (.int x2), (.int y1), (.int y2)] maxLocals) s₁ (mkF m 109 #[.val (.int p0), .val (.int x1), .val (.int x2), .val (.int y1), .val (.int y2), .val (.int s5), .val (.long sg), .second, .val (.int sm), .val (.long d1), .second, .val (.long d2), .second, .val (.long hf), .second, .val (.long l1), .second, .unset, .unset, .unset, .unset, .unset, .unset, .unset, .unset, .unset, .unset, .unset, .unset, .unset, .unset] [(.long ((((y2 &&& (2147483647 : Int32)).toInt64) % (((2 : Int64) * hf) + (1 : Int64))) - hf))]) := fun t kt => S46 t (by
    refine XS.lstore X0.here hx rfl (hb hby at_89) rfl (l' := #[.val (.int p0), .val (.int x1), .val (.int x2), .val (.int y1), .val (.int y2), .val (.int s5), .val (.long sg), .second, .val (.int sm), .val (.long d1), .second, .val (.long d2), .second, .val (.long hf), .second, .val (.long l1), .second, .unset, .unset, .unset, .unset, .unset, .unset, .unset, .unset, .unset, .unset, .unset, .unset, .unset, .unset]) rfl ?_
    show Steps p.tables e below (s₁.setTop (mkF m 91 #[.val (.int p0), .val (.int x1), .val (.int x2), .val (.int y1), .val (.int y2), .val (.int s5), .val (.long sg), .second, .val (.int sm), .val (.long d1), .second, .val (.long d2), .second, .val (.long hf), .second, .val (.long l1), .second, .unset, .unset, .unset, .unset, .unset, .unset, .unset, .unset, .unset, .unset, .unset, .unset, .unset, .unset] [])) _
    refine XS.iload X0.here hx rfl (hb hby at_91) rfl ?_
    show Steps p.tables e below (s₁.setTop (mkF m 93 #[.val (.int p0), .val (.int x1), .val (.int x2), .val (.int y1), .val (.int y2), .val (.int s5), .val (.long sg), .second, .val (.int sm), .val (.long d1), .second, .val (.long d2), .second, .val (.long hf), .second, .val (.long l1), .second, .unset, .unset, .unset, .unset, .unset, .unset, .unset, .unset, .unset, .unset, .unset, .unset, .unset, .unset] [(.int y2)])) _
    refine X0.ldcInt hx hown (mvT hZ (hw _ (List.mem_of_getElem? (i := 1) rfl))) (g := (mkF m 93 #[.val (.int p0), .val (.int x1), .val (.int x2), .val (.int y1), .val (.int y2), .val (.int s5), .val (.long sg), .second, .val (.int sm), .val (.long d1), .second, .val (.long d2), .second, .val (.long hf), .second, .val (.long l1), .second, .unset, .unset, .unset, .unset, .unset, .unset, .unset, .unset, .unset, .unset, .unset, .unset, .unset, .unset] [(.int y2)])) rfl (hb hby at_93) _ ?_
    show Steps p.tables e below (s₁.setTop (mkF m 95 #[.val (.int p0), .val (.int x1), .val (.int x2), .val (.int y1), .val (.int y2), .val (.int s5), .val (.long sg), .second, .val (.int sm), .val (.long d1), .second, .val (.long d2), .second, .val (.long hf), .second, .val (.long l1), .second, .unset, .unset, .unset, .unset, .unset, .unset, .unset, .unset, .unset, .unset, .unset, .unset, .unset, .unset] [(.int (2147483647 : Int32)), (.int y2)])) _
    refine XS.iand X0.here hx rfl (hb hby at_95) rfl ?_
    show Steps p.tables e below (s₁.setTop (mkF m 96 #[.val (.int p0), .val (.int x1), .val (.int x2), .val (.int y1), .val (.int y2), .val (.int s5), .val (.long sg), .second, .val (.int sm), .val (.long d1), .second, .val (.long d2), .second, .val (.long hf), .second, .val (.long l1), .second, .unset, .unset, .unset, .unset, .unset, .unset, .unset, .unset, .unset, .unset, .unset, .unset, .unset, .unset] [(.int (y2 &&& (2147483647 : Int32)))])) _
    refine XS.i2l X0.here hx rfl (hb hby at_96) rfl ?_
    show Steps p.tables e below (s₁.setTop (mkF m 97 #[.val (.int p0), .val (.int x1), .val (.int x2), .val (.int y1), .val (.int y2), .val (.int s5), .val (.long sg), .second, .val (.int sm), .val (.long d1), .second, .val (.long d2), .second, .val (.long hf), .second, .val (.long l1), .second, .unset, .unset, .unset, .unset, .unset, .unset, .unset, .unset, .unset, .unset, .unset, .unset, .unset, .unset] [(.long ((y2 &&& (2147483647 : Int32)).toInt64))])) _
    refine X0.ldc2Long hx hown (mvT hZ (hw _ (List.mem_of_getElem? (i := 2) rfl))) (g := (mkF m 97 #[.val (.int p0), .val (.int x1), .val (.int x2), .val (.int y1), .val (.int y2), .val (.int s5), .val (.long sg), .second, .val (.int sm), .val (.long d1), .second, .val (.long d2), .second, .val (.long hf), .second, .val (.long l1), .second, .unset, .unset, .unset, .unset, .unset, .unset, .unset, .unset, .unset, .unset, .unset, .unset, .unset, .unset] [(.long ((y2 &&& (2147483647 : Int32)).toInt64))])) rfl (hb hby at_97) _ ?_
    show Steps p.tables e below (s₁.setTop (mkF m 100 #[.val (.int p0), .val (.int x1), .val (.int x2), .val (.int y1), .val (.int y2), .val (.int s5), .val (.long sg), .second, .val (.int sm), .val (.long d1), .second, .val (.long d2), .second, .val (.long hf), .second, .val (.long l1), .second, .unset, .unset, .unset, .unset, .unset, .unset, .unset, .unset, .unset, .unset, .unset, .unset, .unset, .unset] [(.long (2 : Int64)), (.long ((y2 &&& (2147483647 : Int32)).toInt64))])) _
    refine XS.lload X0.here hx rfl (hb hby at_100) rfl ?_
    show Steps p.tables e below (s₁.setTop (mkF m 102 #[.val (.int p0), .val (.int x1), .val (.int x2), .val (.int y1), .val (.int y2), .val (.int s5), .val (.long sg), .second, .val (.int sm), .val (.long d1), .second, .val (.long d2), .second, .val (.long hf), .second, .val (.long l1), .second, .unset, .unset, .unset, .unset, .unset, .unset, .unset, .unset, .unset, .unset, .unset, .unset, .unset, .unset] [(.long hf), (.long (2 : Int64)), (.long ((y2 &&& (2147483647 : Int32)).toInt64))])) _
    refine XS.lmul X0.here hx rfl (hb hby at_102) rfl ?_
    show Steps p.tables e below (s₁.setTop (mkF m 103 #[.val (.int p0), .val (.int x1), .val (.int x2), .val (.int y1), .val (.int y2), .val (.int s5), .val (.long sg), .second, .val (.int sm), .val (.long d1), .second, .val (.long d2), .second, .val (.long hf), .second, .val (.long l1), .second, .unset, .unset, .unset, .unset, .unset, .unset, .unset, .unset, .unset, .unset, .unset, .unset, .unset, .unset] [(.long ((2 : Int64) * hf)), (.long ((y2 &&& (2147483647 : Int32)).toInt64))])) _
    refine XS.lconst X0.here hx rfl (hb hby at_103) ?_
    show Steps p.tables e below (s₁.setTop (mkF m 104 #[.val (.int p0), .val (.int x1), .val (.int x2), .val (.int y1), .val (.int y2), .val (.int s5), .val (.long sg), .second, .val (.int sm), .val (.long d1), .second, .val (.long d2), .second, .val (.long hf), .second, .val (.long l1), .second, .unset, .unset, .unset, .unset, .unset, .unset, .unset, .unset, .unset, .unset, .unset, .unset, .unset, .unset] [(.long (1 : Int64)), (.long ((2 : Int64) * hf)), (.long ((y2 &&& (2147483647 : Int32)).toInt64))])) _
    refine XS.ladd X0.here hx rfl (hb hby at_104) rfl ?_
    show Steps p.tables e below (s₁.setTop (mkF m 105 #[.val (.int p0), .val (.int x1), .val (.int x2), .val (.int y1), .val (.int y2), .val (.int s5), .val (.long sg), .second, .val (.int sm), .val (.long d1), .second, .val (.long d2), .second, .val (.long hf), .second, .val (.long l1), .second, .unset, .unset, .unset, .unset, .unset, .unset, .unset, .unset, .unset, .unset, .unset, .unset, .unset, .unset] [(.long (((2 : Int64) * hf) + (1 : Int64))), (.long ((y2 &&& (2147483647 : Int32)).toInt64))])) _
    refine XS.lrem X0.here hx rfl (hb hby at_105) rfl (own_nz hhf) ?_
    rw [lrem_mod]
    show Steps p.tables e below (s₁.setTop (mkF m 106 #[.val (.int p0), .val (.int x1), .val (.int x2), .val (.int y1), .val (.int y2), .val (.int s5), .val (.long sg), .second, .val (.int sm), .val (.long d1), .second, .val (.long d2), .second, .val (.long hf), .second, .val (.long l1), .second, .unset, .unset, .unset, .unset, .unset, .unset, .unset, .unset, .unset, .unset, .unset, .unset, .unset, .unset] [(.long (((y2 &&& (2147483647 : Int32)).toInt64) % (((2 : Int64) * hf) + (1 : Int64))))])) _
    refine XS.lload X0.here hx rfl (hb hby at_106) rfl ?_
    show Steps p.tables e below (s₁.setTop (mkF m 108 #[.val (.int p0), .val (.int x1), .val (.int x2), .val (.int y1), .val (.int y2), .val (.int s5), .val (.long sg), .second, .val (.int sm), .val (.long d1), .second, .val (.long d2), .second, .val (.long hf), .second, .val (.long l1), .second, .unset, .unset, .unset, .unset, .unset, .unset, .unset, .unset, .unset, .unset, .unset, .unset, .unset, .unset] [(.long hf), (.long (((y2 &&& (2147483647 : Int32)).toInt64) % (((2 : Int64) * hf) + (1 : Int64))))])) _
    refine XS.lsub X0.here hx rfl (hb hby at_108) rfl ?_
    show Steps p.tables e below (s₁.setTop (mkF m 109 #[.val (.int p0), .val (.int x1), .val (.int x2), .val (.int y1), .val (.int y2), .val (.int s5), .val (.long sg), .second, .val (.int sm), .val (.long d1), .second, .val (.long d2), .second, .val (.long hf), .second, .val (.long l1), .second, .unset, .unset, .unset, .unset, .unset, .unset, .unset, .unset, .unset, .unset, .unset, .unset, .unset, .unset] [(.long ((((y2 &&& (2147483647 : Int32)).toInt64) % (((2 : Int64) * hf) + (1 : Int64))) - hf))])) _
    exact kt)
  obtain ⟨l2, q_l2⟩ : ∃ z : Int64, z = ((((y2 &&& (2147483647 : Int32)).toInt64) % (((2 : Int64) * hf) + (1 : Int64))) - hf) := ⟨_, rfl⟩
  have S48 : Go p e below s₁ (entryFrame m #[(.int p0), (.int x1), (.int x2), (.int y1), (.int y2)] maxLocals) s₁ (mkF m 109 #[.val (.int p0), .val (.int x1), .val (.int x2), .val (.int y1), .val (.int y2), .val (.int s5), .val (.long sg), .second, .val (.int sm), .val (.long d1), .second, .val (.long d2), .second, .val (.long hf), .second, .val (.long l1), .second, .unset, .unset, .unset, .unset, .unset, .unset, .unset, .unset, .unset, .unset, .unset, .unset, .unset, .unset] [(.long l2)]) := by subst q_l2; exact S47
  have hl2 := own_low y2 hhf
  rw [← q_l2] at hl2
  have S49 : Go p e below s₁ (entryFrame m #[(.int p0), (.int x1), (.int x2), (.int y1), (.int y2)] maxLocals) s₁ (mkF m 131 #[.val (.int p0), .val (.int x1), .val (.int x2), .val (.int y1), .val (.int y2), .val (.int s5), .val (.long sg), .second, .val (.int sm), .val (.long d1), .second, .val (.long d2), .second, .val (.long hf), .second, .val (.long l1), .second, .val (.long l2), .second, .val (.long ((1 : Int64) <<< (s5 &&& 0x3f).toInt64)), .second, .unset, .unset, .unset, .unset, .unset, .unset, .unset, .unset, .unset, .unset] [(.long (sg * (((1 : Int64) <<< (s5 &&& 0x3f).toInt64) + (d1 <<< ((s5 - (40 : Int32)) &&& 0x3f).toInt64))))]) := fun t kt => S48 t (by
    refine XS.lstore X0.here hx rfl (hb hby at_109) rfl (l' := #[.val (.int p0), .val (.int x1), .val (.int x2), .val (.int y1), .val (.int y2), .val (.int s5), .val (.long sg), .second, .val (.int sm), .val (.long d1), .second, .val (.long d2), .second, .val (.long hf), .second, .val (.long l1), .second, .val (.long l2), .second, .unset, .unset, .unset, .unset, .unset, .unset, .unset, .unset, .unset, .unset, .unset, .unset]) rfl ?_
    show Steps p.tables e below (s₁.setTop (mkF m 111 #[.val (.int p0), .val (.int x1), .val (.int x2), .val (.int y1), .val (.int y2), .val (.int s5), .val (.long sg), .second, .val (.int sm), .val (.long d1), .second, .val (.long d2), .second, .val (.long hf), .second, .val (.long l1), .second, .val (.long l2), .second, .unset, .unset, .unset, .unset, .unset, .unset, .unset, .unset, .unset, .unset, .unset, .unset] [])) _
    refine XS.lconst X0.here hx rfl (hb hby at_111) ?_
    show Steps p.tables e below (s₁.setTop (mkF m 112 #[.val (.int p0), .val (.int x1), .val (.int x2), .val (.int y1), .val (.int y2), .val (.int s5), .val (.long sg), .second, .val (.int sm), .val (.long d1), .second, .val (.long d2), .second, .val (.long hf), .second, .val (.long l1), .second, .val (.long l2), .second, .unset, .unset, .unset, .unset, .unset, .unset, .unset, .unset, .unset, .unset, .unset, .unset] [(.long (1 : Int64))])) _
    refine XS.iload X0.here hx rfl (hb hby at_112) rfl ?_
    show Steps p.tables e below (s₁.setTop (mkF m 114 #[.val (.int p0), .val (.int x1), .val (.int x2), .val (.int y1), .val (.int y2), .val (.int s5), .val (.long sg), .second, .val (.int sm), .val (.long d1), .second, .val (.long d2), .second, .val (.long hf), .second, .val (.long l1), .second, .val (.long l2), .second, .unset, .unset, .unset, .unset, .unset, .unset, .unset, .unset, .unset, .unset, .unset, .unset] [(.int s5), (.long (1 : Int64))])) _
    refine XS.lshl X0.here hx rfl (hb hby at_114) rfl ?_
    show Steps p.tables e below (s₁.setTop (mkF m 115 #[.val (.int p0), .val (.int x1), .val (.int x2), .val (.int y1), .val (.int y2), .val (.int s5), .val (.long sg), .second, .val (.int sm), .val (.long d1), .second, .val (.long d2), .second, .val (.long hf), .second, .val (.long l1), .second, .val (.long l2), .second, .unset, .unset, .unset, .unset, .unset, .unset, .unset, .unset, .unset, .unset, .unset, .unset] [(.long ((1 : Int64) <<< (s5 &&& 0x3f).toInt64))])) _
    refine XS.lstore X0.here hx rfl (hb hby at_115) rfl (l' := #[.val (.int p0), .val (.int x1), .val (.int x2), .val (.int y1), .val (.int y2), .val (.int s5), .val (.long sg), .second, .val (.int sm), .val (.long d1), .second, .val (.long d2), .second, .val (.long hf), .second, .val (.long l1), .second, .val (.long l2), .second, .val (.long ((1 : Int64) <<< (s5 &&& 0x3f).toInt64)), .second, .unset, .unset, .unset, .unset, .unset, .unset, .unset, .unset, .unset, .unset]) rfl ?_
    show Steps p.tables e below (s₁.setTop (mkF m 117 #[.val (.int p0), .val (.int x1), .val (.int x2), .val (.int y1), .val (.int y2), .val (.int s5), .val (.long sg), .second, .val (.int sm), .val (.long d1), .second, .val (.long d2), .second, .val (.long hf), .second, .val (.long l1), .second, .val (.long l2), .second, .val (.long ((1 : Int64) <<< (s5 &&& 0x3f).toInt64)), .second, .unset, .unset, .unset, .unset, .unset, .unset, .unset, .unset, .unset, .unset] [])) _
    refine XS.lload X0.here hx rfl (hb hby at_117) rfl ?_
    show Steps p.tables e below (s₁.setTop (mkF m 119 #[.val (.int p0), .val (.int x1), .val (.int x2), .val (.int y1), .val (.int y2), .val (.int s5), .val (.long sg), .second, .val (.int sm), .val (.long d1), .second, .val (.long d2), .second, .val (.long hf), .second, .val (.long l1), .second, .val (.long l2), .second, .val (.long ((1 : Int64) <<< (s5 &&& 0x3f).toInt64)), .second, .unset, .unset, .unset, .unset, .unset, .unset, .unset, .unset, .unset, .unset] [(.long sg)])) _
    refine XS.lload X0.here hx rfl (hb hby at_119) rfl ?_
    show Steps p.tables e below (s₁.setTop (mkF m 121 #[.val (.int p0), .val (.int x1), .val (.int x2), .val (.int y1), .val (.int y2), .val (.int s5), .val (.long sg), .second, .val (.int sm), .val (.long d1), .second, .val (.long d2), .second, .val (.long hf), .second, .val (.long l1), .second, .val (.long l2), .second, .val (.long ((1 : Int64) <<< (s5 &&& 0x3f).toInt64)), .second, .unset, .unset, .unset, .unset, .unset, .unset, .unset, .unset, .unset, .unset] [(.long ((1 : Int64) <<< (s5 &&& 0x3f).toInt64)), (.long sg)])) _
    refine XS.lload X0.here hx rfl (hb hby at_121) rfl ?_
    show Steps p.tables e below (s₁.setTop (mkF m 123 #[.val (.int p0), .val (.int x1), .val (.int x2), .val (.int y1), .val (.int y2), .val (.int s5), .val (.long sg), .second, .val (.int sm), .val (.long d1), .second, .val (.long d2), .second, .val (.long hf), .second, .val (.long l1), .second, .val (.long l2), .second, .val (.long ((1 : Int64) <<< (s5 &&& 0x3f).toInt64)), .second, .unset, .unset, .unset, .unset, .unset, .unset, .unset, .unset, .unset, .unset] [(.long d1), (.long ((1 : Int64) <<< (s5 &&& 0x3f).toInt64)), (.long sg)])) _
    refine XS.iload X0.here hx rfl (hb hby at_123) rfl ?_
    show Steps p.tables e below (s₁.setTop (mkF m 125 #[.val (.int p0), .val (.int x1), .val (.int x2), .val (.int y1), .val (.int y2), .val (.int s5), .val (.long sg), .second, .val (.int sm), .val (.long d1), .second, .val (.long d2), .second, .val (.long hf), .second, .val (.long l1), .second, .val (.long l2), .second, .val (.long ((1 : Int64) <<< (s5 &&& 0x3f).toInt64)), .second, .unset, .unset, .unset, .unset, .unset, .unset, .unset, .unset, .unset, .unset] [(.int s5), (.long d1), (.long ((1 : Int64) <<< (s5 &&& 0x3f).toInt64)), (.long sg)])) _
    refine XS.bipush X0.here hx rfl (hb hby at_125) ?_
    show Steps p.tables e below (s₁.setTop (mkF m 127 #[.val (.int p0), .val (.int x1), .val (.int x2), .val (.int y1), .val (.int y2), .val (.int s5), .val (.long sg), .second, .val (.int sm), .val (.long d1), .second, .val (.long d2), .second, .val (.long hf), .second, .val (.long l1), .second, .val (.long l2), .second, .val (.long ((1 : Int64) <<< (s5 &&& 0x3f).toInt64)), .second, .unset, .unset, .unset, .unset, .unset, .unset, .unset, .unset, .unset, .unset] [(.int (40 : Int32)), (.int s5), (.long d1), (.long ((1 : Int64) <<< (s5 &&& 0x3f).toInt64)), (.long sg)])) _
    refine XS.isub X0.here hx rfl (hb hby at_127) rfl ?_
    show Steps p.tables e below (s₁.setTop (mkF m 128 #[.val (.int p0), .val (.int x1), .val (.int x2), .val (.int y1), .val (.int y2), .val (.int s5), .val (.long sg), .second, .val (.int sm), .val (.long d1), .second, .val (.long d2), .second, .val (.long hf), .second, .val (.long l1), .second, .val (.long l2), .second, .val (.long ((1 : Int64) <<< (s5 &&& 0x3f).toInt64)), .second, .unset, .unset, .unset, .unset, .unset, .unset, .unset, .unset, .unset, .unset] [(.int (s5 - (40 : Int32))), (.long d1), (.long ((1 : Int64) <<< (s5 &&& 0x3f).toInt64)), (.long sg)])) _
    refine XS.lshl X0.here hx rfl (hb hby at_128) rfl ?_
    show Steps p.tables e below (s₁.setTop (mkF m 129 #[.val (.int p0), .val (.int x1), .val (.int x2), .val (.int y1), .val (.int y2), .val (.int s5), .val (.long sg), .second, .val (.int sm), .val (.long d1), .second, .val (.long d2), .second, .val (.long hf), .second, .val (.long l1), .second, .val (.long l2), .second, .val (.long ((1 : Int64) <<< (s5 &&& 0x3f).toInt64)), .second, .unset, .unset, .unset, .unset, .unset, .unset, .unset, .unset, .unset, .unset] [(.long (d1 <<< ((s5 - (40 : Int32)) &&& 0x3f).toInt64)), (.long ((1 : Int64) <<< (s5 &&& 0x3f).toInt64)), (.long sg)])) _
    refine XS.ladd X0.here hx rfl (hb hby at_129) rfl ?_
    show Steps p.tables e below (s₁.setTop (mkF m 130 #[.val (.int p0), .val (.int x1), .val (.int x2), .val (.int y1), .val (.int y2), .val (.int s5), .val (.long sg), .second, .val (.int sm), .val (.long d1), .second, .val (.long d2), .second, .val (.long hf), .second, .val (.long l1), .second, .val (.long l2), .second, .val (.long ((1 : Int64) <<< (s5 &&& 0x3f).toInt64)), .second, .unset, .unset, .unset, .unset, .unset, .unset, .unset, .unset, .unset, .unset] [(.long (((1 : Int64) <<< (s5 &&& 0x3f).toInt64) + (d1 <<< ((s5 - (40 : Int32)) &&& 0x3f).toInt64))), (.long sg)])) _
    refine XS.lmul X0.here hx rfl (hb hby at_130) rfl ?_
    show Steps p.tables e below (s₁.setTop (mkF m 131 #[.val (.int p0), .val (.int x1), .val (.int x2), .val (.int y1), .val (.int y2), .val (.int s5), .val (.long sg), .second, .val (.int sm), .val (.long d1), .second, .val (.long d2), .second, .val (.long hf), .second, .val (.long l1), .second, .val (.long l2), .second, .val (.long ((1 : Int64) <<< (s5 &&& 0x3f).toInt64)), .second, .unset, .unset, .unset, .unset, .unset, .unset, .unset, .unset, .unset, .unset] [(.long (sg * (((1 : Int64) <<< (s5 &&& 0x3f).toInt64) + (d1 <<< ((s5 - (40 : Int32)) &&& 0x3f).toInt64))))])) _
    exact kt)
  obtain ⟨h1, q_h1⟩ : ∃ z : Int64, z = (sg * (((1 : Int64) <<< (s5 &&& 0x3f).toInt64) + (d1 <<< ((s5 - (40 : Int32)) &&& 0x3f).toInt64))) := ⟨_, rfl⟩
  have S50 : Go p e below s₁ (entryFrame m #[(.int p0), (.int x1), (.int x2), (.int y1), (.int y2)] maxLocals) s₁ (mkF m 131 #[.val (.int p0), .val (.int x1), .val (.int x2), .val (.int y1), .val (.int y2), .val (.int s5), .val (.long sg), .second, .val (.int sm), .val (.long d1), .second, .val (.long d2), .second, .val (.long hf), .second, .val (.long l1), .second, .val (.long l2), .second, .val (.long ((1 : Int64) <<< (s5 &&& 0x3f).toInt64)), .second, .unset, .unset, .unset, .unset, .unset, .unset, .unset, .unset, .unset, .unset] [(.long h1)]) := by subst q_h1; exact S49
  have S51 : Go p e below s₁ (entryFrame m #[(.int p0), (.int x1), (.int x2), (.int y1), (.int y2)] maxLocals) s₁ (mkF m 147 #[.val (.int p0), .val (.int x1), .val (.int x2), .val (.int y1), .val (.int y2), .val (.int s5), .val (.long sg), .second, .val (.int sm), .val (.long d1), .second, .val (.long d2), .second, .val (.long hf), .second, .val (.long l1), .second, .val (.long l2), .second, .val (.long ((1 : Int64) <<< (s5 &&& 0x3f).toInt64)), .second, .val (.long h1), .second, .unset, .unset, .unset, .unset, .unset, .unset, .unset, .unset] [(.long (sg * (((1 : Int64) <<< (s5 &&& 0x3f).toInt64) + (d2 <<< ((s5 - (40 : Int32)) &&& 0x3f).toInt64))))]) := fun t kt => S50 t (by
    refine XS.lstore X0.here hx rfl (hb hby at_131) rfl (l' := #[.val (.int p0), .val (.int x1), .val (.int x2), .val (.int y1), .val (.int y2), .val (.int s5), .val (.long sg), .second, .val (.int sm), .val (.long d1), .second, .val (.long d2), .second, .val (.long hf), .second, .val (.long l1), .second, .val (.long l2), .second, .val (.long ((1 : Int64) <<< (s5 &&& 0x3f).toInt64)), .second, .val (.long h1), .second, .unset, .unset, .unset, .unset, .unset, .unset, .unset, .unset]) rfl ?_
    show Steps p.tables e below (s₁.setTop (mkF m 133 #[.val (.int p0), .val (.int x1), .val (.int x2), .val (.int y1), .val (.int y2), .val (.int s5), .val (.long sg), .second, .val (.int sm), .val (.long d1), .second, .val (.long d2), .second, .val (.long hf), .second, .val (.long l1), .second, .val (.long l2), .second, .val (.long ((1 : Int64) <<< (s5 &&& 0x3f).toInt64)), .second, .val (.long h1), .second, .unset, .unset, .unset, .unset, .unset, .unset, .unset, .unset] [])) _
    refine XS.lload X0.here hx rfl (hb hby at_133) rfl ?_
    show Steps p.tables e below (s₁.setTop (mkF m 135 #[.val (.int p0), .val (.int x1), .val (.int x2), .val (.int y1), .val (.int y2), .val (.int s5), .val (.long sg), .second, .val (.int sm), .val (.long d1), .second, .val (.long d2), .second, .val (.long hf), .second, .val (.long l1), .second, .val (.long l2), .second, .val (.long ((1 : Int64) <<< (s5 &&& 0x3f).toInt64)), .second, .val (.long h1), .second, .unset, .unset, .unset, .unset, .unset, .unset, .unset, .unset] [(.long sg)])) _
    refine XS.lload X0.here hx rfl (hb hby at_135) rfl ?_
    show Steps p.tables e below (s₁.setTop (mkF m 137 #[.val (.int p0), .val (.int x1), .val (.int x2), .val (.int y1), .val (.int y2), .val (.int s5), .val (.long sg), .second, .val (.int sm), .val (.long d1), .second, .val (.long d2), .second, .val (.long hf), .second, .val (.long l1), .second, .val (.long l2), .second, .val (.long ((1 : Int64) <<< (s5 &&& 0x3f).toInt64)), .second, .val (.long h1), .second, .unset, .unset, .unset, .unset, .unset, .unset, .unset, .unset] [(.long ((1 : Int64) <<< (s5 &&& 0x3f).toInt64)), (.long sg)])) _
    refine XS.lload X0.here hx rfl (hb hby at_137) rfl ?_
    show Steps p.tables e below (s₁.setTop (mkF m 139 #[.val (.int p0), .val (.int x1), .val (.int x2), .val (.int y1), .val (.int y2), .val (.int s5), .val (.long sg), .second, .val (.int sm), .val (.long d1), .second, .val (.long d2), .second, .val (.long hf), .second, .val (.long l1), .second, .val (.long l2), .second, .val (.long ((1 : Int64) <<< (s5 &&& 0x3f).toInt64)), .second, .val (.long h1), .second, .unset, .unset, .unset, .unset, .unset, .unset, .unset, .unset] [(.long d2), (.long ((1 : Int64) <<< (s5 &&& 0x3f).toInt64)), (.long sg)])) _
    refine XS.iload X0.here hx rfl (hb hby at_139) rfl ?_
    show Steps p.tables e below (s₁.setTop (mkF m 141 #[.val (.int p0), .val (.int x1), .val (.int x2), .val (.int y1), .val (.int y2), .val (.int s5), .val (.long sg), .second, .val (.int sm), .val (.long d1), .second, .val (.long d2), .second, .val (.long hf), .second, .val (.long l1), .second, .val (.long l2), .second, .val (.long ((1 : Int64) <<< (s5 &&& 0x3f).toInt64)), .second, .val (.long h1), .second, .unset, .unset, .unset, .unset, .unset, .unset, .unset, .unset] [(.int s5), (.long d2), (.long ((1 : Int64) <<< (s5 &&& 0x3f).toInt64)), (.long sg)])) _
    refine XS.bipush X0.here hx rfl (hb hby at_141) ?_
    show Steps p.tables e below (s₁.setTop (mkF m 143 #[.val (.int p0), .val (.int x1), .val (.int x2), .val (.int y1), .val (.int y2), .val (.int s5), .val (.long sg), .second, .val (.int sm), .val (.long d1), .second, .val (.long d2), .second, .val (.long hf), .second, .val (.long l1), .second, .val (.long l2), .second, .val (.long ((1 : Int64) <<< (s5 &&& 0x3f).toInt64)), .second, .val (.long h1), .second, .unset, .unset, .unset, .unset, .unset, .unset, .unset, .unset] [(.int (40 : Int32)), (.int s5), (.long d2), (.long ((1 : Int64) <<< (s5 &&& 0x3f).toInt64)), (.long sg)])) _
    refine XS.isub X0.here hx rfl (hb hby at_143) rfl ?_
    show Steps p.tables e below (s₁.setTop (mkF m 144 #[.val (.int p0), .val (.int x1), .val (.int x2), .val (.int y1), .val (.int y2), .val (.int s5), .val (.long sg), .second, .val (.int sm), .val (.long d1), .second, .val (.long d2), .second, .val (.long hf), .second, .val (.long l1), .second, .val (.long l2), .second, .val (.long ((1 : Int64) <<< (s5 &&& 0x3f).toInt64)), .second, .val (.long h1), .second, .unset, .unset, .unset, .unset, .unset, .unset, .unset, .unset] [(.int (s5 - (40 : Int32))), (.long d2), (.long ((1 : Int64) <<< (s5 &&& 0x3f).toInt64)), (.long sg)])) _
    refine XS.lshl X0.here hx rfl (hb hby at_144) rfl ?_
    show Steps p.tables e below (s₁.setTop (mkF m 145 #[.val (.int p0), .val (.int x1), .val (.int x2), .val (.int y1), .val (.int y2), .val (.int s5), .val (.long sg), .second, .val (.int sm), .val (.long d1), .second, .val (.long d2), .second, .val (.long hf), .second, .val (.long l1), .second, .val (.long l2), .second, .val (.long ((1 : Int64) <<< (s5 &&& 0x3f).toInt64)), .second, .val (.long h1), .second, .unset, .unset, .unset, .unset, .unset, .unset, .unset, .unset] [(.long (d2 <<< ((s5 - (40 : Int32)) &&& 0x3f).toInt64)), (.long ((1 : Int64) <<< (s5 &&& 0x3f).toInt64)), (.long sg)])) _
    refine XS.ladd X0.here hx rfl (hb hby at_145) rfl ?_
    show Steps p.tables e below (s₁.setTop (mkF m 146 #[.val (.int p0), .val (.int x1), .val (.int x2), .val (.int y1), .val (.int y2), .val (.int s5), .val (.long sg), .second, .val (.int sm), .val (.long d1), .second, .val (.long d2), .second, .val (.long hf), .second, .val (.long l1), .second, .val (.long l2), .second, .val (.long ((1 : Int64) <<< (s5 &&& 0x3f).toInt64)), .second, .val (.long h1), .second, .unset, .unset, .unset, .unset, .unset, .unset, .unset, .unset] [(.long (((1 : Int64) <<< (s5 &&& 0x3f).toInt64) + (d2 <<< ((s5 - (40 : Int32)) &&& 0x3f).toInt64))), (.long sg)])) _
    refine XS.lmul X0.here hx rfl (hb hby at_146) rfl ?_
    show Steps p.tables e below (s₁.setTop (mkF m 147 #[.val (.int p0), .val (.int x1), .val (.int x2), .val (.int y1), .val (.int y2), .val (.int s5), .val (.long sg), .second, .val (.int sm), .val (.long d1), .second, .val (.long d2), .second, .val (.long hf), .second, .val (.long l1), .second, .val (.long l2), .second, .val (.long ((1 : Int64) <<< (s5 &&& 0x3f).toInt64)), .second, .val (.long h1), .second, .unset, .unset, .unset, .unset, .unset, .unset, .unset, .unset] [(.long (sg * (((1 : Int64) <<< (s5 &&& 0x3f).toInt64) + (d2 <<< ((s5 - (40 : Int32)) &&& 0x3f).toInt64))))])) _
    exact kt)
  obtain ⟨h2, q_h2⟩ : ∃ z : Int64, z = (sg * (((1 : Int64) <<< (s5 &&& 0x3f).toInt64) + (d2 <<< ((s5 - (40 : Int32)) &&& 0x3f).toInt64))) := ⟨_, rfl⟩
  have S52 : Go p e below s₁ (entryFrame m #[(.int p0), (.int x1), (.int x2), (.int y1), (.int y2)] maxLocals) s₁ (mkF m 147 #[.val (.int p0), .val (.int x1), .val (.int x2), .val (.int y1), .val (.int y2), .val (.int s5), .val (.long sg), .second, .val (.int sm), .val (.long d1), .second, .val (.long d2), .second, .val (.long hf), .second, .val (.long l1), .second, .val (.long l2), .second, .val (.long ((1 : Int64) <<< (s5 &&& 0x3f).toInt64)), .second, .val (.long h1), .second, .unset, .unset, .unset, .unset, .unset, .unset, .unset, .unset] [(.long h2)]) := by subst q_h2; exact S51
  obtain ⟨m1, m2, m3, m4⟩ := own_main hs5 h_sg hd1 h_d2 hhf hl1 hl2 q_h1 q_h2
  have S53 : Go p e below s₁ (entryFrame m #[(.int p0), (.int x1), (.int x2), (.int y1), (.int y2)] maxLocals) s₁ (mkF m 149 #[.val (.int p0), .val (.int x1), .val (.int x2), .val (.int y1), .val (.int y2), .val (.int s5), .val (.long sg), .second, .val (.int sm), .val (.long d1), .second, .val (.long d2), .second, .val (.long hf), .second, .val (.long l1), .second, .val (.long l2), .second, .val (.long ((1 : Int64) <<< (s5 &&& 0x3f).toInt64)), .second, .val (.long h1), .second, .val (.long h2), .second, .unset, .unset, .unset, .unset, .unset, .unset] []) := fun t kt => S52 t (by
    refine XS.lstore X0.here hx rfl (hb hby at_147) rfl (l' := #[.val (.int p0), .val (.int x1), .val (.int x2), .val (.int y1), .val (.int y2), .val (.int s5), .val (.long sg), .second, .val (.int sm), .val (.long d1), .second, .val (.long d2), .second, .val (.long hf), .second, .val (.long l1), .second, .val (.long l2), .second, .val (.long ((1 : Int64) <<< (s5 &&& 0x3f).toInt64)), .second, .val (.long h1), .second, .val (.long h2), .second, .unset, .unset, .unset, .unset, .unset, .unset]) rfl ?_
    show Steps p.tables e below (s₁.setTop (mkF m 149 #[.val (.int p0), .val (.int x1), .val (.int x2), .val (.int y1), .val (.int y2), .val (.int s5), .val (.long sg), .second, .val (.int sm), .val (.long d1), .second, .val (.long d2), .second, .val (.long hf), .second, .val (.long l1), .second, .val (.long l2), .second, .val (.long ((1 : Int64) <<< (s5 &&& 0x3f).toInt64)), .second, .val (.long h1), .second, .val (.long h2), .second, .unset, .unset, .unset, .unset, .unset, .unset] [])) _
    exact kt)
  obtain ⟨T54, h54, X54, e54, E54, A54, D54, -, st54⟩ := newO X0 hx hZ hown (hw _ (List.mem_of_getElem? (i := 3) rfl)) (hw _ (List.mem_of_getElem? (i := 4) rfl)) (hw _ (List.mem_of_getElem? (i := 5) rfl)) e0 (g := (mkF m 149 #[.val (.int p0), .val (.int x1), .val (.int x2), .val (.int y1), .val (.int y2), .val (.int s5), .val (.long sg), .second, .val (.int sm), .val (.long d1), .second, .val (.long d2), .second, .val (.long hf), .second, .val (.long l1), .second, .val (.long l2), .second, .val (.long ((1 : Int64) <<< (s5 &&& 0x3f).toInt64)), .second, .val (.long h1), .second, .val (.long h2), .second, .unset, .unset, .unset, .unset, .unset, .unset] [])) rfl (hb hby at_149) (by decide) (by decide)
  obtain ⟨o1, g54⟩ : ∃ z, z = h0.size := ⟨_, rfl⟩
  rw [← g54] at A54 D54 st54
  have g_o1 : n0 ≤ o1 := Nat.le_trans Z0 (Nat.le_of_eq g54.symm)
  have F_high_o1 : Fld Z h54 o1 "com/example/blindroute/blindroute/electrical/DoubleDouble" "high" "D" (.double (0 : UInt64)) := D54 (Or.inl (hw _ (List.mem_of_getElem? (i := 13) rfl))) (ty := .double) (by decide)
  have F_low_o1 : Fld Z h54 o1 "com/example/blindroute/blindroute/electrical/DoubleDouble" "low" "D" (.double (0 : UInt64)) := D54 (Or.inl (hw _ (List.mem_of_getElem? (i := 15) rfl))) (ty := .double) (by decide)
  have S55 : Go p e below s₁ (entryFrame m #[(.int p0), (.int x1), (.int x2), (.int y1), (.int y2)] maxLocals) T54 (mkF m 152 #[.val (.int p0), .val (.int x1), .val (.int x2), .val (.int y1), .val (.int y2), .val (.int s5), .val (.long sg), .second, .val (.int sm), .val (.long d1), .second, .val (.long d2), .second, .val (.long hf), .second, .val (.long l1), .second, .val (.long l2), .second, .val (.long ((1 : Int64) <<< (s5 &&& 0x3f).toInt64)), .second, .val (.long h1), .second, .val (.long h2), .second, .unset, .unset, .unset, .unset, .unset, .unset] [(.ref o1)]) := fun t kt => S53 t (st54 t kt)
  have S56 : Go p e below s₁ (entryFrame m #[(.int p0), (.int x1), (.int x2), (.int y1), (.int y2)] maxLocals) T54 (mkF m 159 #[.val (.int p0), .val (.int x1), .val (.int x2), .val (.int y1), .val (.int y2), .val (.int s5), .val (.long sg), .second, .val (.int sm), .val (.long d1), .second, .val (.long d2), .second, .val (.long hf), .second, .val (.long l1), .second, .val (.long l2), .second, .val (.long ((1 : Int64) <<< (s5 &&& 0x3f).toInt64)), .second, .val (.long h1), .second, .val (.long h2), .second, .unset, .unset, .unset, .unset, .unset, .unset] [(.double (FP.l2d l1)), (.double (FP.l2d h1)), (.ref o1), (.ref o1)]) := fun t kt => S55 t (by
    refine XS.dup X54.here hx rfl (hb hby at_152) rfl rfl ?_
    show Steps p.tables e below (T54.setTop (mkF m 153 #[.val (.int p0), .val (.int x1), .val (.int x2), .val (.int y1), .val (.int y2), .val (.int s5), .val (.long sg), .second, .val (.int sm), .val (.long d1), .second, .val (.long d2), .second, .val (.long hf), .second, .val (.long l1), .second, .val (.long l2), .second, .val (.long ((1 : Int64) <<< (s5 &&& 0x3f).toInt64)), .second, .val (.long h1), .second, .val (.long h2), .second, .unset, .unset, .unset, .unset, .unset, .unset] [(.ref o1), (.ref o1)])) _
    refine XS.lload X54.here hx rfl (hb hby at_153) rfl ?_
    show Steps p.tables e below (T54.setTop (mkF m 155 #[.val (.int p0), .val (.int x1), .val (.int x2), .val (.int y1), .val (.int y2), .val (.int s5), .val (.long sg), .second, .val (.int sm), .val (.long d1), .second, .val (.long d2), .second, .val (.long hf), .second, .val (.long l1), .second, .val (.long l2), .second, .val (.long ((1 : Int64) <<< (s5 &&& 0x3f).toInt64)), .second, .val (.long h1), .second, .val (.long h2), .second, .unset, .unset, .unset, .unset, .unset, .unset] [(.long h1), (.ref o1), (.ref o1)])) _
    refine XS.l2dS X54.here hx rfl (hb hby at_155) rfl rfl ?_
    show Steps p.tables e below (T54.setTop (mkF m 156 #[.val (.int p0), .val (.int x1), .val (.int x2), .val (.int y1), .val (.int y2), .val (.int s5), .val (.long sg), .second, .val (.int sm), .val (.long d1), .second, .val (.long d2), .second, .val (.long hf), .second, .val (.long l1), .second, .val (.long l2), .second, .val (.long ((1 : Int64) <<< (s5 &&& 0x3f).toInt64)), .second, .val (.long h1), .second, .val (.long h2), .second, .unset, .unset, .unset, .unset, .unset, .unset] [(.double (FP.l2d h1)), (.ref o1), (.ref o1)])) _
    refine XS.lload X54.here hx rfl (hb hby at_156) rfl ?_
    show Steps p.tables e below (T54.setTop (mkF m 158 #[.val (.int p0), .val (.int x1), .val (.int x2), .val (.int y1), .val (.int y2), .val (.int s5), .val (.long sg), .second, .val (.int sm), .val (.long d1), .second, .val (.long d2), .second, .val (.long hf), .second, .val (.long l1), .second, .val (.long l2), .second, .val (.long ((1 : Int64) <<< (s5 &&& 0x3f).toInt64)), .second, .val (.long h1), .second, .val (.long h2), .second, .unset, .unset, .unset, .unset, .unset, .unset] [(.long l1), (.double (FP.l2d h1)), (.ref o1), (.ref o1)])) _
    refine XS.l2dS X54.here hx rfl (hb hby at_158) rfl rfl ?_
    show Steps p.tables e below (T54.setTop (mkF m 159 #[.val (.int p0), .val (.int x1), .val (.int x2), .val (.int y1), .val (.int y2), .val (.int s5), .val (.long sg), .second, .val (.int sm), .val (.long d1), .second, .val (.long d2), .second, .val (.long hf), .second, .val (.long l1), .second, .val (.long l2), .second, .val (.long ((1 : Int64) <<< (s5 &&& 0x3f).toInt64)), .second, .val (.long h1), .second, .val (.long h2), .second, .unset, .unset, .unset, .unset, .unset, .unset] [(.double (FP.l2d l1)), (.double (FP.l2d h1)), (.ref o1), (.ref o1)])) _
    exact kt)
  obtain ⟨_, _, ⟨T57, L57, k57, n57⟩, -, X57, ⟨Lc57, hQ57, l57, y57, z57⟩, st57⟩ := X54.specialBack hx (y := (⟨"com/example/blindroute/blindroute/electrical/DoubleDouble", "<init>", "(DD)V"⟩ : MethodName)) rfl hown (mvT hZ (hw _ (List.mem_of_getElem? (i := 6) rfl))) (mvT hZ (hw _ (List.mem_of_getElem? (i := 7) rfl))) (mvT hZ (hw _ (List.mem_of_getElem? (i := 8) rfl))) (by decide) (backOf (W := 1) (rm_init l Z a0 hw [] o1 (FP.l2d h1) (FP.l2d l1) h54 n0 (Nat.le_trans Z0 E54.1) A54 F_high_o1 F_low_o1 g_o1) hZ (hw _ (List.mem_of_getElem? (i := 8) rfl)) (hw _ (List.mem_of_getElem? (i := 5) rfl)) (by decide) (by decide)) (g := (mkF m 159 #[.val (.int p0), .val (.int x1), .val (.int x2), .val (.int y1), .val (.int y2), .val (.int s5), .val (.long sg), .second, .val (.int sm), .val (.long d1), .second, .val (.long d2), .second, .val (.long hf), .second, .val (.long l1), .second, .val (.long l2), .second, .val (.long ((1 : Int64) <<< (s5 &&& 0x3f).toInt64)), .second, .val (.long h1), .second, .val (.long h2), .second, .unset, .unset, .unset, .unset, .unset, .unset] [(.double (FP.l2d l1)), (.double (FP.l2d h1)), (.ref o1), (.ref o1)])) rfl (by rw [hml]; rfl) (Steps.refl _) (a := o1) (argsL := [(.double (FP.l2d h1)), (.double (FP.l2d l1))]) (rest := [(.ref o1)]) (lenOf pd__DD_V rfl) rfl (by show 2 * 0 + _ ≤ _; exact Nat.le_of_eq rfl) (hb hby at_159) (fun _ _ => ⟨rfl, e54, (by decide : 1 + 0 ≤ _), (by decide : 2 + 0 ≤ _)⟩)
  dsimp only [Pt.U, Pt.locs, Pt.cells, Pt.slots] at X57 l57 y57 z57 st57 hQ57
  subst l57 y57 z57
  obtain ⟨rfl, N57q, K57, Ex57, Ft57, Fd57⟩ := hQ57
  have N57 := Fr.app N0 N57q
  have S58 : Go p e below s₁ (entryFrame m #[(.int p0), (.int x1), (.int x2), (.int y1), (.int y2)] maxLocals) T57 (mkF m 162 #[.val (.int p0), .val (.int x1), .val (.int x2), .val (.int y1), .val (.int y2), .val (.int s5), .val (.long sg), .second, .val (.int sm), .val (.long d1), .second, .val (.long d2), .second, .val (.long hf), .second, .val (.long l1), .second, .val (.long l2), .second, .val (.long ((1 : Int64) <<< (s5 &&& 0x3f).toInt64)), .second, .val (.long h1), .second, .val (.long h2), .second, .unset, .unset, .unset, .unset, .unset, .unset] [(.ref o1)]) := fun t kt => S56 t (st57.trans kt)
  have S59 : Go p e below s₁ (entryFrame m #[(.int p0), (.int x1), (.int x2), (.int y1), (.int y2)] maxLocals) T57 (mkF m 164 #[.val (.int p0), .val (.int x1), .val (.int x2), .val (.int y1), .val (.int y2), .val (.int s5), .val (.long sg), .second, .val (.int sm), .val (.long d1), .second, .val (.long d2), .second, .val (.long hf), .second, .val (.long l1), .second, .val (.long l2), .second, .val (.long ((1 : Int64) <<< (s5 &&& 0x3f).toInt64)), .second, .val (.long h1), .second, .val (.long h2), .second, .val (.ref o1), .unset, .unset, .unset, .unset, .unset] []) := fun t kt => S58 t (by
    refine XS.astore X57.here hx rfl (hb hby at_162) rfl rfl (l' := #[.val (.int p0), .val (.int x1), .val (.int x2), .val (.int y1), .val (.int y2), .val (.int s5), .val (.long sg), .second, .val (.int sm), .val (.long d1), .second, .val (.long d2), .second, .val (.long hf), .second, .val (.long l1), .second, .val (.long l2), .second, .val (.long ((1 : Int64) <<< (s5 &&& 0x3f).toInt64)), .second, .val (.long h1), .second, .val (.long h2), .second, .val (.ref o1), .unset, .unset, .unset, .unset, .unset]) rfl ?_
    show Steps p.tables e below (T57.setTop (mkF m 164 #[.val (.int p0), .val (.int x1), .val (.int x2), .val (.int y1), .val (.int y2), .val (.int s5), .val (.long sg), .second, .val (.int sm), .val (.long d1), .second, .val (.long d2), .second, .val (.long hf), .second, .val (.long l1), .second, .val (.long l2), .second, .val (.long ((1 : Int64) <<< (s5 &&& 0x3f).toInt64)), .second, .val (.long h1), .second, .val (.long h2), .second, .val (.ref o1), .unset, .unset, .unset, .unset, .unset] [])) _
    exact kt)
  obtain ⟨T60, h60, X60, e60, E60, A60, D60, -, st60⟩ := newO X57 hx hZ hown (hw _ (List.mem_of_getElem? (i := 3) rfl)) (hw _ (List.mem_of_getElem? (i := 4) rfl)) (hw _ (List.mem_of_getElem? (i := 5) rfl)) rfl (g := (mkF m 164 #[.val (.int p0), .val (.int x1), .val (.int x2), .val (.int y1), .val (.int y2), .val (.int s5), .val (.long sg), .second, .val (.int sm), .val (.long d1), .second, .val (.long d2), .second, .val (.long hf), .second, .val (.long l1), .second, .val (.long l2), .second, .val (.long ((1 : Int64) <<< (s5 &&& 0x3f).toInt64)), .second, .val (.long h1), .second, .val (.long h2), .second, .val (.ref o1), .unset, .unset, .unset, .unset, .unset] [])) rfl (hb hby at_164) (by decide) (by decide)
  obtain ⟨o2, g60⟩ : ∃ z, z = T57.heap.size := ⟨_, rfl⟩
  rw [← g60] at A60 D60 st60
  have g_o2 : n0 ≤ o2 := Nat.le_trans (Nat.le_trans (Nat.le_trans Z0 E54.1) K57.1) (Nat.le_of_eq g60.symm)
  have F_high_o2 : Fld Z h60 o2 "com/example/blindroute/blindroute/electrical/DoubleDouble" "high" "D" (.double (0 : UInt64)) := D60 (Or.inl (hw _ (List.mem_of_getElem? (i := 13) rfl))) (ty := .double) (by decide)
  have F_low_o2 : Fld Z h60 o2 "com/example/blindroute/blindroute/electrical/DoubleDouble" "low" "D" (.double (0 : UInt64)) := D60 (Or.inl (hw _ (List.mem_of_getElem? (i := 15) rfl))) (ty := .double) (by decide)
  have S61 : Go p e below s₁ (entryFrame m #[(.int p0), (.int x1), (.int x2), (.int y1), (.int y2)] maxLocals) T60 (mkF m 167 #[.val (.int p0), .val (.int x1), .val (.int x2), .val (.int y1), .val (.int y2), .val (.int s5), .val (.long sg), .second, .val (.int sm), .val (.long d1), .second, .val (.long d2), .second, .val (.long hf), .second, .val (.long l1), .second, .val (.long l2), .second, .val (.long ((1 : Int64) <<< (s5 &&& 0x3f).toInt64)), .second, .val (.long h1), .second, .val (.long h2), .second, .val (.ref o1), .unset, .unset, .unset, .unset, .unset] [(.ref o2)]) := fun t kt => S59 t (st60 t kt)
  have S62 : Go p e below s₁ (entryFrame m #[(.int p0), (.int x1), (.int x2), (.int y1), (.int y2)] maxLocals) T60 (mkF m 174 #[.val (.int p0), .val (.int x1), .val (.int x2), .val (.int y1), .val (.int y2), .val (.int s5), .val (.long sg), .second, .val (.int sm), .val (.long d1), .second, .val (.long d2), .second, .val (.long hf), .second, .val (.long l1), .second, .val (.long l2), .second, .val (.long ((1 : Int64) <<< (s5 &&& 0x3f).toInt64)), .second, .val (.long h1), .second, .val (.long h2), .second, .val (.ref o1), .unset, .unset, .unset, .unset, .unset] [(.double (FP.l2d l2)), (.double (FP.l2d h2)), (.ref o2), (.ref o2)]) := fun t kt => S61 t (by
    refine XS.dup X60.here hx rfl (hb hby at_167) rfl rfl ?_
    show Steps p.tables e below (T60.setTop (mkF m 168 #[.val (.int p0), .val (.int x1), .val (.int x2), .val (.int y1), .val (.int y2), .val (.int s5), .val (.long sg), .second, .val (.int sm), .val (.long d1), .second, .val (.long d2), .second, .val (.long hf), .second, .val (.long l1), .second, .val (.long l2), .second, .val (.long ((1 : Int64) <<< (s5 &&& 0x3f).toInt64)), .second, .val (.long h1), .second, .val (.long h2), .second, .val (.ref o1), .unset, .unset, .unset, .unset, .unset] [(.ref o2), (.ref o2)])) _
    refine XS.lload X60.here hx rfl (hb hby at_168) rfl ?_
    show Steps p.tables e below (T60.setTop (mkF m 170 #[.val (.int p0), .val (.int x1), .val (.int x2), .val (.int y1), .val (.int y2), .val (.int s5), .val (.long sg), .second, .val (.int sm), .val (.long d1), .second, .val (.long d2), .second, .val (.long hf), .second, .val (.long l1), .second, .val (.long l2), .second, .val (.long ((1 : Int64) <<< (s5 &&& 0x3f).toInt64)), .second, .val (.long h1), .second, .val (.long h2), .second, .val (.ref o1), .unset, .unset, .unset, .unset, .unset] [(.long h2), (.ref o2), (.ref o2)])) _
    refine XS.l2dS X60.here hx rfl (hb hby at_170) rfl rfl ?_
    show Steps p.tables e below (T60.setTop (mkF m 171 #[.val (.int p0), .val (.int x1), .val (.int x2), .val (.int y1), .val (.int y2), .val (.int s5), .val (.long sg), .second, .val (.int sm), .val (.long d1), .second, .val (.long d2), .second, .val (.long hf), .second, .val (.long l1), .second, .val (.long l2), .second, .val (.long ((1 : Int64) <<< (s5 &&& 0x3f).toInt64)), .second, .val (.long h1), .second, .val (.long h2), .second, .val (.ref o1), .unset, .unset, .unset, .unset, .unset] [(.double (FP.l2d h2)), (.ref o2), (.ref o2)])) _
    refine XS.lload X60.here hx rfl (hb hby at_171) rfl ?_
    show Steps p.tables e below (T60.setTop (mkF m 173 #[.val (.int p0), .val (.int x1), .val (.int x2), .val (.int y1), .val (.int y2), .val (.int s5), .val (.long sg), .second, .val (.int sm), .val (.long d1), .second, .val (.long d2), .second, .val (.long hf), .second, .val (.long l1), .second, .val (.long l2), .second, .val (.long ((1 : Int64) <<< (s5 &&& 0x3f).toInt64)), .second, .val (.long h1), .second, .val (.long h2), .second, .val (.ref o1), .unset, .unset, .unset, .unset, .unset] [(.long l2), (.double (FP.l2d h2)), (.ref o2), (.ref o2)])) _
    refine XS.l2dS X60.here hx rfl (hb hby at_173) rfl rfl ?_
    show Steps p.tables e below (T60.setTop (mkF m 174 #[.val (.int p0), .val (.int x1), .val (.int x2), .val (.int y1), .val (.int y2), .val (.int s5), .val (.long sg), .second, .val (.int sm), .val (.long d1), .second, .val (.long d2), .second, .val (.long hf), .second, .val (.long l1), .second, .val (.long l2), .second, .val (.long ((1 : Int64) <<< (s5 &&& 0x3f).toInt64)), .second, .val (.long h1), .second, .val (.long h2), .second, .val (.ref o1), .unset, .unset, .unset, .unset, .unset] [(.double (FP.l2d l2)), (.double (FP.l2d h2)), (.ref o2), (.ref o2)])) _
    exact kt)
  obtain ⟨_, _, ⟨T63, L63, k63, n63⟩, -, X63, ⟨Lc63, hQ63, l63, y63, z63⟩, st63⟩ := X60.specialBack hx (y := (⟨"com/example/blindroute/blindroute/electrical/DoubleDouble", "<init>", "(DD)V"⟩ : MethodName)) rfl hown (mvT hZ (hw _ (List.mem_of_getElem? (i := 6) rfl))) (mvT hZ (hw _ (List.mem_of_getElem? (i := 7) rfl))) (mvT hZ (hw _ (List.mem_of_getElem? (i := 8) rfl))) (by decide) (backOf (W := 1) (rm_init l Z a0 hw [] o2 (FP.l2d h2) (FP.l2d l2) h60 n0 (Nat.le_trans (Nat.le_trans (Nat.le_trans Z0 E54.1) K57.1) E60.1) A60 F_high_o2 F_low_o2 g_o2) hZ (hw _ (List.mem_of_getElem? (i := 8) rfl)) (hw _ (List.mem_of_getElem? (i := 5) rfl)) (by decide) (by decide)) (g := (mkF m 174 #[.val (.int p0), .val (.int x1), .val (.int x2), .val (.int y1), .val (.int y2), .val (.int s5), .val (.long sg), .second, .val (.int sm), .val (.long d1), .second, .val (.long d2), .second, .val (.long hf), .second, .val (.long l1), .second, .val (.long l2), .second, .val (.long ((1 : Int64) <<< (s5 &&& 0x3f).toInt64)), .second, .val (.long h1), .second, .val (.long h2), .second, .val (.ref o1), .unset, .unset, .unset, .unset, .unset] [(.double (FP.l2d l2)), (.double (FP.l2d h2)), (.ref o2), (.ref o2)])) rfl (by rw [hml]; rfl) (Steps.refl _) (a := o2) (argsL := [(.double (FP.l2d h2)), (.double (FP.l2d l2))]) (rest := [(.ref o2)]) (lenOf pd__DD_V rfl) rfl (by show 2 * 0 + _ ≤ _; exact Nat.le_of_eq rfl) (hb hby at_174) (fun _ _ => ⟨rfl, e60, (by decide : 2 + 0 ≤ _), (by decide : 4 + 0 ≤ _)⟩)
  dsimp only [Pt.U, Pt.locs, Pt.cells, Pt.slots] at X63 l63 y63 z63 st63 hQ63
  subst l63 y63 z63
  obtain ⟨rfl, N63q, K63, Ex63, Ft63, Fd63⟩ := hQ63
  have N63 := Fr.app N57 N63q
  have S64 : Go p e below s₁ (entryFrame m #[(.int p0), (.int x1), (.int x2), (.int y1), (.int y2)] maxLocals) T63 (mkF m 177 #[.val (.int p0), .val (.int x1), .val (.int x2), .val (.int y1), .val (.int y2), .val (.int s5), .val (.long sg), .second, .val (.int sm), .val (.long d1), .second, .val (.long d2), .second, .val (.long hf), .second, .val (.long l1), .second, .val (.long l2), .second, .val (.long ((1 : Int64) <<< (s5 &&& 0x3f).toInt64)), .second, .val (.long h1), .second, .val (.long h2), .second, .val (.ref o1), .unset, .unset, .unset, .unset, .unset] [(.ref o2)]) := fun t kt => S62 t (st63.trans kt)
  have S65 : Go p e below s₁ (entryFrame m #[(.int p0), (.int x1), (.int x2), (.int y1), (.int y2)] maxLocals) T63 (mkF m 183 #[.val (.int p0), .val (.int x1), .val (.int x2), .val (.int y1), .val (.int y2), .val (.int s5), .val (.long sg), .second, .val (.int sm), .val (.long d1), .second, .val (.long d2), .second, .val (.long hf), .second, .val (.long l1), .second, .val (.long l2), .second, .val (.long ((1 : Int64) <<< (s5 &&& 0x3f).toInt64)), .second, .val (.long h1), .second, .val (.long h2), .second, .val (.ref o1), .val (.ref o2), .unset, .unset, .unset, .unset] [(.ref o2), (.ref o1)]) := fun t kt => S64 t (by
    refine XS.astore X63.here hx rfl (hb hby at_177) rfl rfl (l' := #[.val (.int p0), .val (.int x1), .val (.int x2), .val (.int y1), .val (.int y2), .val (.int s5), .val (.long sg), .second, .val (.int sm), .val (.long d1), .second, .val (.long d2), .second, .val (.long hf), .second, .val (.long l1), .second, .val (.long l2), .second, .val (.long ((1 : Int64) <<< (s5 &&& 0x3f).toInt64)), .second, .val (.long h1), .second, .val (.long h2), .second, .val (.ref o1), .val (.ref o2), .unset, .unset, .unset, .unset]) rfl ?_
    show Steps p.tables e below (T63.setTop (mkF m 179 #[.val (.int p0), .val (.int x1), .val (.int x2), .val (.int y1), .val (.int y2), .val (.int s5), .val (.long sg), .second, .val (.int sm), .val (.long d1), .second, .val (.long d2), .second, .val (.long hf), .second, .val (.long l1), .second, .val (.long l2), .second, .val (.long ((1 : Int64) <<< (s5 &&& 0x3f).toInt64)), .second, .val (.long h1), .second, .val (.long h2), .second, .val (.ref o1), .val (.ref o2), .unset, .unset, .unset, .unset] [])) _
    refine XS.aload X63.here hx rfl (hb hby at_179) rfl rfl ?_
    show Steps p.tables e below (T63.setTop (mkF m 181 #[.val (.int p0), .val (.int x1), .val (.int x2), .val (.int y1), .val (.int y2), .val (.int s5), .val (.long sg), .second, .val (.int sm), .val (.long d1), .second, .val (.long d2), .second, .val (.long hf), .second, .val (.long l1), .second, .val (.long l2), .second, .val (.long ((1 : Int64) <<< (s5 &&& 0x3f).toInt64)), .second, .val (.long h1), .second, .val (.long h2), .second, .val (.ref o1), .val (.ref o2), .unset, .unset, .unset, .unset] [(.ref o1)])) _
    refine XS.aload X63.here hx rfl (hb hby at_181) rfl rfl ?_
    show Steps p.tables e below (T63.setTop (mkF m 183 #[.val (.int p0), .val (.int x1), .val (.int x2), .val (.int y1), .val (.int y2), .val (.int s5), .val (.long sg), .second, .val (.int sm), .val (.long d1), .second, .val (.long d2), .second, .val (.long hf), .second, .val (.long l1), .second, .val (.long l2), .second, .val (.long ((1 : Int64) <<< (s5 &&& 0x3f).toInt64)), .second, .val (.long h1), .second, .val (.long h2), .second, .val (.ref o1), .val (.ref o2), .unset, .unset, .unset, .unset] [(.ref o2), (.ref o1)])) _
    exact kt)
  have ne66 : o1 ≠ o2 := by rw [g60]; exact Nat.ne_of_lt (Ex57.lt)
  have f67 := ((Ft57.ext E60).keep K63 (ninS ne66 nin0))
  have f68 := ((Fd57.ext E60).keep K63 (ninS ne66 nin0))
  obtain ⟨_, _, ⟨T69, L69, k69, n69⟩, -, X69, ⟨Lc69, hQ69, l69, y69, z69⟩, st69⟩ := Jvm.LawKit.callS X63 hx (y := (⟨"com/example/blindroute/blindroute/electrical/DoubleDouble", "difference", "(Lcom/example/blindroute/blindroute/electrical/DoubleDouble;Lcom/example/blindroute/blindroute/electrical/DoubleDouble;)D"⟩ : MethodName)) hown (mvT hZ (hw _ (List.mem_of_getElem? (i := 16) rfl))) (mvT hZ (hw _ (List.mem_of_getElem? (i := 17) rfl))) (mvT hZ (hw _ (List.mem_of_getElem? (i := 5) rfl))) (mvT hZ (hw _ (List.mem_of_getElem? (i := 18) rfl))) (by decide) (backOf (W := 0) (rm_diff l Z a0 hw [] o1 o2 (FP.l2d h1) (FP.l2d l1) (FP.l2d h2) (FP.l2d l2) T63.heap n0 (Nat.le_trans (Nat.le_trans (Nat.le_trans (Nat.le_trans Z0 E54.1) K57.1) E60.1) K63.1) f67 f68 Ft63 Fd63 m1 m2 m3) hZ (hw _ (List.mem_of_getElem? (i := 18) rfl)) (hw _ (List.mem_of_getElem? (i := 5) rfl)) (by decide) (by decide)) (g := (mkF m 183 #[.val (.int p0), .val (.int x1), .val (.int x2), .val (.int y1), .val (.int y2), .val (.int s5), .val (.long sg), .second, .val (.int sm), .val (.long d1), .second, .val (.long d2), .second, .val (.long hf), .second, .val (.long l1), .second, .val (.long l2), .second, .val (.long ((1 : Int64) <<< (s5 &&& 0x3f).toInt64)), .second, .val (.long h1), .second, .val (.long h2), .second, .val (.ref o1), .val (.ref o2), .unset, .unset, .unset, .unset] [(.ref o2), (.ref o1)])) rfl (by rw [hml]; rfl) (argsL := [(.ref o1), (.ref o2)]) (rest := []) (lenOf pd__Lcom_example_blindroute_blindroute_electrical_DoubleDouble_Lcom_example_blindroute_blindroute_electrical_DoubleDouble__D rfl) rfl (by show 2 * 0 + _ ≤ _; exact Nat.le_of_eq rfl) (hb hby at_183) (fun _ _ => ⟨rfl, rfl, (by decide : 2 + 0 ≤ _), (by decide : 4 + 0 ≤ _)⟩)
  dsimp only [Pt.U, Pt.locs, Pt.cells, Pt.slots] at X69 l69 y69 z69 st69 hQ69
  subst l69 y69 z69
  obtain ⟨rfl, N69q, e69⟩ := hQ69
  have N69 := Fr.app N63 N69q
  have S70 : Go p e below s₁ (entryFrame m #[(.int p0), (.int x1), (.int x2), (.int y1), (.int y2)] maxLocals) T69 (mkF m 186 #[.val (.int p0), .val (.int x1), .val (.int x2), .val (.int y1), .val (.int y2), .val (.int s5), .val (.long sg), .second, .val (.int sm), .val (.long d1), .second, .val (.long d2), .second, .val (.long hf), .second, .val (.long l1), .second, .val (.long l2), .second, .val (.long ((1 : Int64) <<< (s5 &&& 0x3f).toInt64)), .second, .val (.long h1), .second, .val (.long h2), .second, .val (.ref o1), .val (.ref o2), .unset, .unset, .unset, .unset] [(.double (FP.dadd (FP.dsub (FP.l2d h1) (FP.l2d h2)) (FP.dsub (FP.l2d l1) (FP.l2d l2))))]) := fun t kt => S65 t (st69 t kt)
  have S71 : Go p e below s₁ (entryFrame m #[(.int p0), (.int x1), (.int x2), (.int y1), (.int y2)] maxLocals) T69 (mkF m 216 #[.val (.int p0), .val (.int x1), .val (.int x2), .val (.int y1), .val (.int y2), .val (.int s5), .val (.long sg), .second, .val (.int sm), .val (.long d1), .second, .val (.long d2), .second, .val (.long hf), .second, .val (.long l1), .second, .val (.long l2), .second, .val (.long ((1 : Int64) <<< (s5 &&& 0x3f).toInt64)), .second, .val (.long h1), .second, .val (.long h2), .second, .val (.ref o1), .val (.ref o2), .val (.double (FP.dadd (FP.dsub (FP.l2d h1) (FP.l2d h2)) (FP.dsub (FP.l2d l1) (FP.l2d l2)))), .second, .val (.long ((sg * ((d1 - d2) <<< ((s5 - (40 : Int32)) &&& 0x3f).toInt64)) + (l1 - l2))), .second] [(.int (FP.cmpInt (-1) (FP.dcmp (FP.dadd (FP.dsub (FP.l2d h1) (FP.l2d h2)) (FP.dsub (FP.l2d l1) (FP.l2d l2))) (FP.l2d ((sg * ((d1 - d2) <<< ((s5 - (40 : Int32)) &&& 0x3f).toInt64)) + (l1 - l2))))))]) := fun t kt => S70 t (by
    refine XS.dstore X69.here hx rfl (hb hby at_186) rfl (l' := #[.val (.int p0), .val (.int x1), .val (.int x2), .val (.int y1), .val (.int y2), .val (.int s5), .val (.long sg), .second, .val (.int sm), .val (.long d1), .second, .val (.long d2), .second, .val (.long hf), .second, .val (.long l1), .second, .val (.long l2), .second, .val (.long ((1 : Int64) <<< (s5 &&& 0x3f).toInt64)), .second, .val (.long h1), .second, .val (.long h2), .second, .val (.ref o1), .val (.ref o2), .val (.double (FP.dadd (FP.dsub (FP.l2d h1) (FP.l2d h2)) (FP.dsub (FP.l2d l1) (FP.l2d l2)))), .second, .unset, .unset]) rfl ?_
    show Steps p.tables e below (T69.setTop (mkF m 188 #[.val (.int p0), .val (.int x1), .val (.int x2), .val (.int y1), .val (.int y2), .val (.int s5), .val (.long sg), .second, .val (.int sm), .val (.long d1), .second, .val (.long d2), .second, .val (.long hf), .second, .val (.long l1), .second, .val (.long l2), .second, .val (.long ((1 : Int64) <<< (s5 &&& 0x3f).toInt64)), .second, .val (.long h1), .second, .val (.long h2), .second, .val (.ref o1), .val (.ref o2), .val (.double (FP.dadd (FP.dsub (FP.l2d h1) (FP.l2d h2)) (FP.dsub (FP.l2d l1) (FP.l2d l2)))), .second, .unset, .unset] [])) _
    refine XS.lload X69.here hx rfl (hb hby at_188) rfl ?_
    show Steps p.tables e below (T69.setTop (mkF m 190 #[.val (.int p0), .val (.int x1), .val (.int x2), .val (.int y1), .val (.int y2), .val (.int s5), .val (.long sg), .second, .val (.int sm), .val (.long d1), .second, .val (.long d2), .second, .val (.long hf), .second, .val (.long l1), .second, .val (.long l2), .second, .val (.long ((1 : Int64) <<< (s5 &&& 0x3f).toInt64)), .second, .val (.long h1), .second, .val (.long h2), .second, .val (.ref o1), .val (.ref o2), .val (.double (FP.dadd (FP.dsub (FP.l2d h1) (FP.l2d h2)) (FP.dsub (FP.l2d l1) (FP.l2d l2)))), .second, .unset, .unset] [(.long sg)])) _
    refine XS.lload X69.here hx rfl (hb hby at_190) rfl ?_
    show Steps p.tables e below (T69.setTop (mkF m 192 #[.val (.int p0), .val (.int x1), .val (.int x2), .val (.int y1), .val (.int y2), .val (.int s5), .val (.long sg), .second, .val (.int sm), .val (.long d1), .second, .val (.long d2), .second, .val (.long hf), .second, .val (.long l1), .second, .val (.long l2), .second, .val (.long ((1 : Int64) <<< (s5 &&& 0x3f).toInt64)), .second, .val (.long h1), .second, .val (.long h2), .second, .val (.ref o1), .val (.ref o2), .val (.double (FP.dadd (FP.dsub (FP.l2d h1) (FP.l2d h2)) (FP.dsub (FP.l2d l1) (FP.l2d l2)))), .second, .unset, .unset] [(.long d1), (.long sg)])) _
    refine XS.lload X69.here hx rfl (hb hby at_192) rfl ?_
    show Steps p.tables e below (T69.setTop (mkF m 194 #[.val (.int p0), .val (.int x1), .val (.int x2), .val (.int y1), .val (.int y2), .val (.int s5), .val (.long sg), .second, .val (.int sm), .val (.long d1), .second, .val (.long d2), .second, .val (.long hf), .second, .val (.long l1), .second, .val (.long l2), .second, .val (.long ((1 : Int64) <<< (s5 &&& 0x3f).toInt64)), .second, .val (.long h1), .second, .val (.long h2), .second, .val (.ref o1), .val (.ref o2), .val (.double (FP.dadd (FP.dsub (FP.l2d h1) (FP.l2d h2)) (FP.dsub (FP.l2d l1) (FP.l2d l2)))), .second, .unset, .unset] [(.long d2), (.long d1), (.long sg)])) _
    refine XS.lsub X69.here hx rfl (hb hby at_194) rfl ?_
    show Steps p.tables e below (T69.setTop (mkF m 195 #[.val (.int p0), .val (.int x1), .val (.int x2), .val (.int y1), .val (.int y2), .val (.int s5), .val (.long sg), .second, .val (.int sm), .val (.long d1), .second, .val (.long d2), .second, .val (.long hf), .second, .val (.long l1), .second, .val (.long l2), .second, .val (.long ((1 : Int64) <<< (s5 &&& 0x3f).toInt64)), .second, .val (.long h1), .second, .val (.long h2), .second, .val (.ref o1), .val (.ref o2), .val (.double (FP.dadd (FP.dsub (FP.l2d h1) (FP.l2d h2)) (FP.dsub (FP.l2d l1) (FP.l2d l2)))), .second, .unset, .unset] [(.long (d1 - d2)), (.long sg)])) _
    refine XS.iload X69.here hx rfl (hb hby at_195) rfl ?_
    show Steps p.tables e below (T69.setTop (mkF m 197 #[.val (.int p0), .val (.int x1), .val (.int x2), .val (.int y1), .val (.int y2), .val (.int s5), .val (.long sg), .second, .val (.int sm), .val (.long d1), .second, .val (.long d2), .second, .val (.long hf), .second, .val (.long l1), .second, .val (.long l2), .second, .val (.long ((1 : Int64) <<< (s5 &&& 0x3f).toInt64)), .second, .val (.long h1), .second, .val (.long h2), .second, .val (.ref o1), .val (.ref o2), .val (.double (FP.dadd (FP.dsub (FP.l2d h1) (FP.l2d h2)) (FP.dsub (FP.l2d l1) (FP.l2d l2)))), .second, .unset, .unset] [(.int s5), (.long (d1 - d2)), (.long sg)])) _
    refine XS.bipush X69.here hx rfl (hb hby at_197) ?_
    show Steps p.tables e below (T69.setTop (mkF m 199 #[.val (.int p0), .val (.int x1), .val (.int x2), .val (.int y1), .val (.int y2), .val (.int s5), .val (.long sg), .second, .val (.int sm), .val (.long d1), .second, .val (.long d2), .second, .val (.long hf), .second, .val (.long l1), .second, .val (.long l2), .second, .val (.long ((1 : Int64) <<< (s5 &&& 0x3f).toInt64)), .second, .val (.long h1), .second, .val (.long h2), .second, .val (.ref o1), .val (.ref o2), .val (.double (FP.dadd (FP.dsub (FP.l2d h1) (FP.l2d h2)) (FP.dsub (FP.l2d l1) (FP.l2d l2)))), .second, .unset, .unset] [(.int (40 : Int32)), (.int s5), (.long (d1 - d2)), (.long sg)])) _
    refine XS.isub X69.here hx rfl (hb hby at_199) rfl ?_
    show Steps p.tables e below (T69.setTop (mkF m 200 #[.val (.int p0), .val (.int x1), .val (.int x2), .val (.int y1), .val (.int y2), .val (.int s5), .val (.long sg), .second, .val (.int sm), .val (.long d1), .second, .val (.long d2), .second, .val (.long hf), .second, .val (.long l1), .second, .val (.long l2), .second, .val (.long ((1 : Int64) <<< (s5 &&& 0x3f).toInt64)), .second, .val (.long h1), .second, .val (.long h2), .second, .val (.ref o1), .val (.ref o2), .val (.double (FP.dadd (FP.dsub (FP.l2d h1) (FP.l2d h2)) (FP.dsub (FP.l2d l1) (FP.l2d l2)))), .second, .unset, .unset] [(.int (s5 - (40 : Int32))), (.long (d1 - d2)), (.long sg)])) _
    refine XS.lshl X69.here hx rfl (hb hby at_200) rfl ?_
    show Steps p.tables e below (T69.setTop (mkF m 201 #[.val (.int p0), .val (.int x1), .val (.int x2), .val (.int y1), .val (.int y2), .val (.int s5), .val (.long sg), .second, .val (.int sm), .val (.long d1), .second, .val (.long d2), .second, .val (.long hf), .second, .val (.long l1), .second, .val (.long l2), .second, .val (.long ((1 : Int64) <<< (s5 &&& 0x3f).toInt64)), .second, .val (.long h1), .second, .val (.long h2), .second, .val (.ref o1), .val (.ref o2), .val (.double (FP.dadd (FP.dsub (FP.l2d h1) (FP.l2d h2)) (FP.dsub (FP.l2d l1) (FP.l2d l2)))), .second, .unset, .unset] [(.long ((d1 - d2) <<< ((s5 - (40 : Int32)) &&& 0x3f).toInt64)), (.long sg)])) _
    refine XS.lmul X69.here hx rfl (hb hby at_201) rfl ?_
    show Steps p.tables e below (T69.setTop (mkF m 202 #[.val (.int p0), .val (.int x1), .val (.int x2), .val (.int y1), .val (.int y2), .val (.int s5), .val (.long sg), .second, .val (.int sm), .val (.long d1), .second, .val (.long d2), .second, .val (.long hf), .second, .val (.long l1), .second, .val (.long l2), .second, .val (.long ((1 : Int64) <<< (s5 &&& 0x3f).toInt64)), .second, .val (.long h1), .second, .val (.long h2), .second, .val (.ref o1), .val (.ref o2), .val (.double (FP.dadd (FP.dsub (FP.l2d h1) (FP.l2d h2)) (FP.dsub (FP.l2d l1) (FP.l2d l2)))), .second, .unset, .unset] [(.long (sg * ((d1 - d2) <<< ((s5 - (40 : Int32)) &&& 0x3f).toInt64)))])) _
    refine XS.lload X69.here hx rfl (hb hby at_202) rfl ?_
    show Steps p.tables e below (T69.setTop (mkF m 204 #[.val (.int p0), .val (.int x1), .val (.int x2), .val (.int y1), .val (.int y2), .val (.int s5), .val (.long sg), .second, .val (.int sm), .val (.long d1), .second, .val (.long d2), .second, .val (.long hf), .second, .val (.long l1), .second, .val (.long l2), .second, .val (.long ((1 : Int64) <<< (s5 &&& 0x3f).toInt64)), .second, .val (.long h1), .second, .val (.long h2), .second, .val (.ref o1), .val (.ref o2), .val (.double (FP.dadd (FP.dsub (FP.l2d h1) (FP.l2d h2)) (FP.dsub (FP.l2d l1) (FP.l2d l2)))), .second, .unset, .unset] [(.long l1), (.long (sg * ((d1 - d2) <<< ((s5 - (40 : Int32)) &&& 0x3f).toInt64)))])) _
    refine XS.lload X69.here hx rfl (hb hby at_204) rfl ?_
    show Steps p.tables e below (T69.setTop (mkF m 206 #[.val (.int p0), .val (.int x1), .val (.int x2), .val (.int y1), .val (.int y2), .val (.int s5), .val (.long sg), .second, .val (.int sm), .val (.long d1), .second, .val (.long d2), .second, .val (.long hf), .second, .val (.long l1), .second, .val (.long l2), .second, .val (.long ((1 : Int64) <<< (s5 &&& 0x3f).toInt64)), .second, .val (.long h1), .second, .val (.long h2), .second, .val (.ref o1), .val (.ref o2), .val (.double (FP.dadd (FP.dsub (FP.l2d h1) (FP.l2d h2)) (FP.dsub (FP.l2d l1) (FP.l2d l2)))), .second, .unset, .unset] [(.long l2), (.long l1), (.long (sg * ((d1 - d2) <<< ((s5 - (40 : Int32)) &&& 0x3f).toInt64)))])) _
    refine XS.lsub X69.here hx rfl (hb hby at_206) rfl ?_
    show Steps p.tables e below (T69.setTop (mkF m 207 #[.val (.int p0), .val (.int x1), .val (.int x2), .val (.int y1), .val (.int y2), .val (.int s5), .val (.long sg), .second, .val (.int sm), .val (.long d1), .second, .val (.long d2), .second, .val (.long hf), .second, .val (.long l1), .second, .val (.long l2), .second, .val (.long ((1 : Int64) <<< (s5 &&& 0x3f).toInt64)), .second, .val (.long h1), .second, .val (.long h2), .second, .val (.ref o1), .val (.ref o2), .val (.double (FP.dadd (FP.dsub (FP.l2d h1) (FP.l2d h2)) (FP.dsub (FP.l2d l1) (FP.l2d l2)))), .second, .unset, .unset] [(.long (l1 - l2)), (.long (sg * ((d1 - d2) <<< ((s5 - (40 : Int32)) &&& 0x3f).toInt64)))])) _
    refine XS.ladd X69.here hx rfl (hb hby at_207) rfl ?_
    show Steps p.tables e below (T69.setTop (mkF m 208 #[.val (.int p0), .val (.int x1), .val (.int x2), .val (.int y1), .val (.int y2), .val (.int s5), .val (.long sg), .second, .val (.int sm), .val (.long d1), .second, .val (.long d2), .second, .val (.long hf), .second, .val (.long l1), .second, .val (.long l2), .second, .val (.long ((1 : Int64) <<< (s5 &&& 0x3f).toInt64)), .second, .val (.long h1), .second, .val (.long h2), .second, .val (.ref o1), .val (.ref o2), .val (.double (FP.dadd (FP.dsub (FP.l2d h1) (FP.l2d h2)) (FP.dsub (FP.l2d l1) (FP.l2d l2)))), .second, .unset, .unset] [(.long ((sg * ((d1 - d2) <<< ((s5 - (40 : Int32)) &&& 0x3f).toInt64)) + (l1 - l2)))])) _
    refine XS.lstore X69.here hx rfl (hb hby at_208) rfl (l' := #[.val (.int p0), .val (.int x1), .val (.int x2), .val (.int y1), .val (.int y2), .val (.int s5), .val (.long sg), .second, .val (.int sm), .val (.long d1), .second, .val (.long d2), .second, .val (.long hf), .second, .val (.long l1), .second, .val (.long l2), .second, .val (.long ((1 : Int64) <<< (s5 &&& 0x3f).toInt64)), .second, .val (.long h1), .second, .val (.long h2), .second, .val (.ref o1), .val (.ref o2), .val (.double (FP.dadd (FP.dsub (FP.l2d h1) (FP.l2d h2)) (FP.dsub (FP.l2d l1) (FP.l2d l2)))), .second, .val (.long ((sg * ((d1 - d2) <<< ((s5 - (40 : Int32)) &&& 0x3f).toInt64)) + (l1 - l2))), .second]) rfl ?_
    show Steps p.tables e below (T69.setTop (mkF m 210 #[.val (.int p0), .val (.int x1), .val (.int x2), .val (.int y1), .val (.int y2), .val (.int s5), .val (.long sg), .second, .val (.int sm), .val (.long d1), .second, .val (.long d2), .second, .val (.long hf), .second, .val (.long l1), .second, .val (.long l2), .second, .val (.long ((1 : Int64) <<< (s5 &&& 0x3f).toInt64)), .second, .val (.long h1), .second, .val (.long h2), .second, .val (.ref o1), .val (.ref o2), .val (.double (FP.dadd (FP.dsub (FP.l2d h1) (FP.l2d h2)) (FP.dsub (FP.l2d l1) (FP.l2d l2)))), .second, .val (.long ((sg * ((d1 - d2) <<< ((s5 - (40 : Int32)) &&& 0x3f).toInt64)) + (l1 - l2))), .second] [])) _
    refine XS.dload X69.here hx rfl (hb hby at_210) rfl ?_
    show Steps p.tables e below (T69.setTop (mkF m 212 #[.val (.int p0), .val (.int x1), .val (.int x2), .val (.int y1), .val (.int y2), .val (.int s5), .val (.long sg), .second, .val (.int sm), .val (.long d1), .second, .val (.long d2), .second, .val (.long hf), .second, .val (.long l1), .second, .val (.long l2), .second, .val (.long ((1 : Int64) <<< (s5 &&& 0x3f).toInt64)), .second, .val (.long h1), .second, .val (.long h2), .second, .val (.ref o1), .val (.ref o2), .val (.double (FP.dadd (FP.dsub (FP.l2d h1) (FP.l2d h2)) (FP.dsub (FP.l2d l1) (FP.l2d l2)))), .second, .val (.long ((sg * ((d1 - d2) <<< ((s5 - (40 : Int32)) &&& 0x3f).toInt64)) + (l1 - l2))), .second] [(.double (FP.dadd (FP.dsub (FP.l2d h1) (FP.l2d h2)) (FP.dsub (FP.l2d l1) (FP.l2d l2))))])) _
    refine XS.lload X69.here hx rfl (hb hby at_212) rfl ?_
    show Steps p.tables e below (T69.setTop (mkF m 214 #[.val (.int p0), .val (.int x1), .val (.int x2), .val (.int y1), .val (.int y2), .val (.int s5), .val (.long sg), .second, .val (.int sm), .val (.long d1), .second, .val (.long d2), .second, .val (.long hf), .second, .val (.long l1), .second, .val (.long l2), .second, .val (.long ((1 : Int64) <<< (s5 &&& 0x3f).toInt64)), .second, .val (.long h1), .second, .val (.long h2), .second, .val (.ref o1), .val (.ref o2), .val (.double (FP.dadd (FP.dsub (FP.l2d h1) (FP.l2d h2)) (FP.dsub (FP.l2d l1) (FP.l2d l2)))), .second, .val (.long ((sg * ((d1 - d2) <<< ((s5 - (40 : Int32)) &&& 0x3f).toInt64)) + (l1 - l2))), .second] [(.long ((sg * ((d1 - d2) <<< ((s5 - (40 : Int32)) &&& 0x3f).toInt64)) + (l1 - l2))), (.double (FP.dadd (FP.dsub (FP.l2d h1) (FP.l2d h2)) (FP.dsub (FP.l2d l1) (FP.l2d l2))))])) _
    refine XS.l2dS X69.here hx rfl (hb hby at_214) rfl rfl ?_
    show Steps p.tables e below (T69.setTop (mkF m 215 #[.val (.int p0), .val (.int x1), .val (.int x2), .val (.int y1), .val (.int y2), .val (.int s5), .val (.long sg), .second, .val (.int sm), .val (.long d1), .second, .val (.long d2), .second, .val (.long hf), .second, .val (.long l1), .second, .val (.long l2), .second, .val (.long ((1 : Int64) <<< (s5 &&& 0x3f).toInt64)), .second, .val (.long h1), .second, .val (.long h2), .second, .val (.ref o1), .val (.ref o2), .val (.double (FP.dadd (FP.dsub (FP.l2d h1) (FP.l2d h2)) (FP.dsub (FP.l2d l1) (FP.l2d l2)))), .second, .val (.long ((sg * ((d1 - d2) <<< ((s5 - (40 : Int32)) &&& 0x3f).toInt64)) + (l1 - l2))), .second] [(.double (FP.l2d ((sg * ((d1 - d2) <<< ((s5 - (40 : Int32)) &&& 0x3f).toInt64)) + (l1 - l2)))), (.double (FP.dadd (FP.dsub (FP.l2d h1) (FP.l2d h2)) (FP.dsub (FP.l2d l1) (FP.l2d l2))))])) _
    refine XS.dcmpS X69.here hx rfl (hb hby at_215) rfl (cmpV_l _) ?_
    show Steps p.tables e below (T69.setTop (mkF m 216 #[.val (.int p0), .val (.int x1), .val (.int x2), .val (.int y1), .val (.int y2), .val (.int s5), .val (.long sg), .second, .val (.int sm), .val (.long d1), .second, .val (.long d2), .second, .val (.long hf), .second, .val (.long l1), .second, .val (.long l2), .second, .val (.long ((1 : Int64) <<< (s5 &&& 0x3f).toInt64)), .second, .val (.long h1), .second, .val (.long h2), .second, .val (.ref o1), .val (.ref o2), .val (.double (FP.dadd (FP.dsub (FP.l2d h1) (FP.l2d h2)) (FP.dsub (FP.l2d l1) (FP.l2d l2)))), .second, .val (.long ((sg * ((d1 - d2) <<< ((s5 - (40 : Int32)) &&& 0x3f).toInt64)) + (l1 - l2))), .second] [(.int (FP.cmpInt (-1) (FP.dcmp (FP.dadd (FP.dsub (FP.l2d h1) (FP.l2d h2)) (FP.dsub (FP.l2d l1) (FP.l2d l2))) (FP.l2d ((sg * ((d1 - d2) <<< ((s5 - (40 : Int32)) &&& 0x3f).toInt64)) + (l1 - l2))))))])) _
    exact kt)
  have S72 : Go p e below s₁ (entryFrame m #[(.int p0), (.int x1), (.int x2), (.int y1), (.int y2)] maxLocals) T69 (mkF m 224 #[.val (.int p0), .val (.int x1), .val (.int x2), .val (.int y1), .val (.int y2), .val (.int s5), .val (.long sg), .second, .val (.int sm), .val (.long d1), .second, .val (.long d2), .second, .val (.long hf), .second, .val (.long l1), .second, .val (.long l2), .second, .val (.long ((1 : Int64) <<< (s5 &&& 0x3f).toInt64)), .second, .val (.long h1), .second, .val (.long h2), .second, .val (.ref o1), .val (.ref o2), .val (.double (FP.dadd (FP.dsub (FP.l2d h1) (FP.l2d h2)) (FP.dsub (FP.l2d l1) (FP.l2d l2)))), .second, .val (.long ((sg * ((d1 - d2) <<< ((s5 - (40 : Int32)) &&& 0x3f).toInt64)) + (l1 - l2))), .second] [(.int (1 : Int32))]) := fun t kt => S71 t (by
    refine XS.ifNo X69.here hx rfl (hb hby at_216) rfl ((if0 _ _).trans (teq (show (FP.cmpInt (-1) (FP.dcmp (FP.dadd (FP.dsub (FP.l2d h1) (FP.l2d h2)) (FP.dsub (FP.l2d l1) (FP.l2d l2))) (FP.l2d ((sg * ((d1 - d2) <<< ((s5 - (40 : Int32)) &&& 0x3f).toInt64)) + (l1 - l2))))) = (0 : Int32) from (by rw [m4]; rfl))).2) ?_
    show Steps p.tables e below (T69.setTop (mkF m 219 #[.val (.int p0), .val (.int x1), .val (.int x2), .val (.int y1), .val (.int y2), .val (.int s5), .val (.long sg), .second, .val (.int sm), .val (.long d1), .second, .val (.long d2), .second, .val (.long hf), .second, .val (.long l1), .second, .val (.long l2), .second, .val (.long ((1 : Int64) <<< (s5 &&& 0x3f).toInt64)), .second, .val (.long h1), .second, .val (.long h2), .second, .val (.ref o1), .val (.ref o2), .val (.double (FP.dadd (FP.dsub (FP.l2d h1) (FP.l2d h2)) (FP.dsub (FP.l2d l1) (FP.l2d l2)))), .second, .val (.long ((sg * ((d1 - d2) <<< ((s5 - (40 : Int32)) &&& 0x3f).toInt64)) + (l1 - l2))), .second] [])) _
    refine XS.iconst X69.here hx rfl (hb hby at_219) ?_
    show Steps p.tables e below (T69.setTop (mkF m 220 #[.val (.int p0), .val (.int x1), .val (.int x2), .val (.int y1), .val (.int y2), .val (.int s5), .val (.long sg), .second, .val (.int sm), .val (.long d1), .second, .val (.long d2), .second, .val (.long hf), .second, .val (.long l1), .second, .val (.long l2), .second, .val (.long ((1 : Int64) <<< (s5 &&& 0x3f).toInt64)), .second, .val (.long h1), .second, .val (.long h2), .second, .val (.ref o1), .val (.ref o2), .val (.double (FP.dadd (FP.dsub (FP.l2d h1) (FP.l2d h2)) (FP.dsub (FP.l2d l1) (FP.l2d l2)))), .second, .val (.long ((sg * ((d1 - d2) <<< ((s5 - (40 : Int32)) &&& 0x3f).toInt64)) + (l1 - l2))), .second] [(.int (1 : Int32))])) _
    refine XS.goto X69.here hx rfl (pc0 := 220) (pc' := 224) rfl (hb hby at_220) (by decide) (by decide) ?_
    show Steps p.tables e below (T69.setTop (mkF m 224 #[.val (.int p0), .val (.int x1), .val (.int x2), .val (.int y1), .val (.int y2), .val (.int s5), .val (.long sg), .second, .val (.int sm), .val (.long d1), .second, .val (.long d2), .second, .val (.long hf), .second, .val (.long l1), .second, .val (.long l2), .second, .val (.long ((1 : Int64) <<< (s5 &&& 0x3f).toInt64)), .second, .val (.long h1), .second, .val (.long h2), .second, .val (.ref o1), .val (.ref o2), .val (.double (FP.dadd (FP.dsub (FP.l2d h1) (FP.l2d h2)) (FP.dsub (FP.l2d l1) (FP.l2d l2)))), .second, .val (.long ((sg * ((d1 - d2) <<< ((s5 - (40 : Int32)) &&& 0x3f).toInt64)) + (l1 - l2))), .second] [(.int (1 : Int32))])) _
    exact kt)
  obtain ⟨fs, hr, hrun, hended, hW, hsame⟩ := X69.leave (v := some (.int (1 : Int32))) (fun h => by first | rfl | (rw [Bd.returns] at h; cases h))
  refine ⟨_, _, S72 _ ?_, hrun, hended, _, _, rfl, ?_, ⟨_, rfl⟩, hW, hsame.mono (by decide) (by decide)⟩
  · exact retN X69 hx (t := .boolean) Bd.returns (by simp) (hb hby at_224) hr
  · show Q_law Z p0 x1 x2 y1 y2 h0 n0 _ T69.heap _
    rw [e69]
    exact ⟨rfl, N69⟩
set_option maxRecDepth 65536 in
set_option maxHeartbeats 40000000 in
theorem comes_1 {Post : Tables → Env → Array Value → State → Outcome → State → Prop} (hpost : ∀ tb e args s v u, (limb_1_1.after args s (.returned v) u = true ∧ limb_1_2.after args s (.returned v) u = true ∧ True) → FrameEnd s (.returned v) u (Jvm.fieldLocs frame_1_writes args s ++ Jvm.arrayLocs frame_1_arrays args s ++ Jvm.staticLocs frame_1_statics s) 16 128 → Post tb e args s (.returned v) u) :
    ArmFor flags0 classFile x code maxLocals ret World_1 tables_1 room_1 Calls_1 rest_1 Pre_1 Post := by
  intro l hfl _ _ p e ha hc hk s m args below hf hA hF happ hP
  obtain ⟨hcalls, hrest, hpre⟩ := hP
  obtain ⟨-, -, -, hnamed, -, -, -, hat⟩ := (Spec.applies_iff hf).mp happ
  obtain ⟨hg, hn⟩ := and_e (Cond.before_iff.mp (show (Jvm.Cond.and given_1 narrow_1).before args s = true from hpre))
  obtain ⟨hcount, r0⟩ := and_e hg
  obtain ⟨v0, r1⟩ := and_e r0
  obtain ⟨v1, r2⟩ := and_e r1
  obtain ⟨v2, r3⟩ := and_e r2
  obtain ⟨v3, r4⟩ := and_e r3
  obtain ⟨w0, w1, w2, w3, w4, rfl⟩ : ∃ w0 w1 w2 w3 w4 : Value, args = #[w0, w1, w2, w3, w4] := by
    have hs : args.size = 5 := by simpa [Cond.value, given_1] using hcount
    obtain ⟨L⟩ := args
    match L, hs with
    | [w0, w1, w2, w3, w4], _ => exact ⟨w0, w1, w2, w3, w4, rfl⟩
  have hw := fun d (hd : d ∈ tables_1) => atoms_spec (ws := Jvm.Cond.code x code maxLocals ret :: tables_1) hat d (List.mem_cons_of_mem _ hd)
  have hfit : Fit s := fun {y c} hc i hi => by
    obtain ⟨ha, rfl⟩ := Array.getElem?_eq_some_iff.mp hc
    have q := List.all_eq_true.mp ((Array.all_eq_true_iff_forall_mem.mp hF) _ (Array.getElem_mem ha)) i (List.mem_range.mpr hi)
    simpa [Array.getElem?_eq_getElem hi] using q
  obtain ⟨i0, ei0⟩ := is_v v0
  obtain rfl : w0 = (.int i0) := Option.some.inj ei0
  obtain ⟨i1, ei1⟩ := is_v v1
  obtain rfl : w1 = (.int i1) := Option.some.inj ei1
  obtain ⟨i2, ei2⟩ := is_v v2
  obtain rfl : w2 = (.int i2) := Option.some.inj ei2
  obtain ⟨i3, ei3⟩ := is_v v3
  obtain rfl : w3 = (.int i3) := Option.some.inj ei3
  obtain ⟨i4, ei4⟩ := is_v r4
  obtain rfl : w4 = (.int i4) := Option.some.inj ei4
  obtain ⟨n, o, h1, h2, h3, _, L, rfl, ⟨rfl, N⟩, hq⟩ := rm_law l s _ hw tables_1 i0 i1 i2 i3 i4 s.heap s.heap.size (Nat.le_refl _)  p e ha hc hk s m _ below hf ((Spec.applies_iff_loose hf).mp happ).1 ⟨rfl, State.Warmed39.refl s, rfl⟩ trivial
  refine ⟨n, _, h1, h2, h3, hpost _ _ _ _ _ _ ⟨Cond.after_iff.mpr rfl, Cond.after_iff.mpr (eq_i res_at (Term.int_eval (1)) rfl), trivial⟩ ⟨hq.1, hq.2.1, (hq.2.2.sift fun y hy => Or.inr (N y hy)).mono (by decide) (by decide)⟩⟩
theorem main_1_1 : Claimed_1_1 := comes_1 fun _ _ _ _ _ _ h hF => ⟨h.1, hF⟩
theorem main_1_2 : Claimed_1_2 := comes_1 fun _ _ _ _ _ _ h hF => ⟨h.2.1, hF⟩
end Jvm.Pilot.@@N@@
namespace Jvm.Pilot.@@N@@
open Jvm Jvm.ClassFile Sem Op Lib Jvm.Free Jvm.Stand Jvm.Pilot.@@N@@.Jvm.D
/-! MADE BY PROGRAM (witnessworld.py) out of the Statement's table words and the real class files: 9 classes; the members and pool entries that the words name. The judged class is class 1, her method 1. -/
namespace start1
open Jvm.ClassFile
def u (s : String) : CpInfo := .utf8 (stringToUtf16 s)
/-- a pool by its gaps: so many unusable entries, then the entry; so many at the end -/
def gap : Nat → List CpInfo → List CpInfo
  | 0, r => r
  | n + 1, r => .unusable :: gap n r
def poolList (es : List (Nat × CpInfo)) (last : Nat) : List CpInfo := es.foldr (fun e r => gap e.1 (e.2 :: r)) (gap last [])
def pool (es : List (Nat × CpInfo)) (last : Nat) : Array CpInfo := ⟨poolList es last⟩
def fileOf (pool : Array CpInfo) (this : Nat) (attrs : Array Attribute := #[]) (ms : Array MethodInfo := #[]) (fl : Nat := 33) (sup : Nat := 0) (ifs : Array Nat := #[]) (fds : Array FieldInfo := #[]) : ClassFile where
  minorVersion := 0
  majorVersion := 65
  constantPool := pool
  accessFlags := fl
  thisClass := this
  superClass := sup
  interfaces := ifs
  fields := fds
  methods := ms
  attributes := attrs
def plain (name : String) (sup : Option ClassId) : Class where
  name := name
  kind := .ordinary
  loader := none
  accessFlags := 33
  super := sup
  interfaces := #[]
  cf := none
  fields := #[]
  methods := #[]
  instanceTypes := #[]
  staticTypes := #[]
  resolved := #[]
  callSites := []
  init := .initialized
  statics := none
  mirror := none

def pool0 : Array CpInfo := pool [(5, u "<init>"), (0, u "()V"), (1, .class_ 10), (1, u "java/lang/Object")] 113

def k0c0 : Code := { maxStack := 0, maxLocals := 1, code := object_method_1_code, exceptionTable := #[], attributes := #[] }
def k0m0 : Method := { name := "<init>", desc := "()V", sig := { parameters := [], returnType := none }, accessFlags := 1, code := some k0c0 }
/-- java/lang/Object -/
def k0 : Class := { plain "java/lang/Object" none with
  accessFlags := 33
  interfaces := #[]
  cf := some (fileOf pool0 8 #[] #[{ accessFlags := 1, nameIndex := 5, descriptorIndex := 6, attributes := #[] }] 33 0 #[] #[])
  fields := #[]
  methods := #[k0m0]
  instanceTypes := #[]
  staticTypes := #[]
  resolved := Array.replicate 124 none
  statics := none }

def pool1 : Array CpInfo := pool [(2, .class_ 4), (1, u "java/lang/Object"), (0, u "<init>"), (0, u "()V"), (0, .long 18446744073709551615), (1, .integer 1048575), (0, .integer 2147483647), (0, .long 2), (1, .class_ 14), (0, u "com/example/blindroute/blindroute/electrical/DoubleDouble"), (0, .methodref 13 16), (0, .nameAndType 5 17), (0, u "(DD)V"), (0, .methodref 13 19), (0, .nameAndType 20 21), (0, u "difference"), (0, u "(Lcom/example/blindroute/blindroute/electrical/DoubleDouble;Lcom/example/blindroute/blindroute/electrical/DoubleDouble;)D"), (0, .class_ 23), (0, u "com/example/blindroute/blindroute/electrical/DoubleDoubleDifferencePinLaw"), (2, u "law"), (0, u "(IIIII)Z")] 3

def k1m0 : Method := { name := "<init>", desc := "()V", sig := { parameters := [], returnType := none }, accessFlags := 2, code := none }
def k1c1 : Code := { maxStack := 8, maxLocals := 31, code := code, exceptionTable := #[], attributes := #[] }
def k1m1 : Method := { name := "law", desc := "(IIIII)Z", sig := { parameters := [.int, .int, .int, .int, .int], returnType := some .boolean }, accessFlags := 9, code := some k1c1 }
/-- com/example/blindroute/blindroute/electrical/DoubleDoubleDifferencePinLaw -/
def k1 : Class := { plain "com/example/blindroute/blindroute/electrical/DoubleDoubleDifferencePinLaw" (some 0) with
  accessFlags := 49
  interfaces := #[]
  cf := some (fileOf pool1 22 #[] #[{ accessFlags := 2, nameIndex := 5, descriptorIndex := 6, attributes := #[] }, { accessFlags := 9, nameIndex := 26, descriptorIndex := 27, attributes := #[] }] 49 2 #[] #[])
  fields := #[]
  methods := #[k1m0, k1m1]
  instanceTypes := #[]
  staticTypes := #[]
  resolved := Array.replicate 31 none
  statics := none }

def pool2 : Array CpInfo := pool [(1, .methodref 2 3), (0, .class_ 4), (0, .nameAndType 5 6), (0, u "java/lang/Object"), (0, u "<init>"), (0, u "()V"), (0, .fieldref 8 9), (0, .class_ 10), (0, .nameAndType 11 12), (0, u "com/example/blindroute/blindroute/electrical/DoubleDouble"), (0, u "high"), (0, u "D"), (0, .fieldref 8 14), (0, .nameAndType 15 12), (0, u "low"), (7, u "(DD)V"), (13, u "SPLITTER"), (4, u "difference"), (0, u "(Lcom/example/blindroute/blindroute/electrical/DoubleDouble;Lcom/example/blindroute/blindroute/electrical/DoubleDouble;)D")] 9

def k2c0 : Code := { maxStack := 3, maxLocals := 5, code := prog_19_method_1_code, exceptionTable := #[], attributes := #[] }
def k2m0 : Method := { name := "<init>", desc := "(DD)V", sig := { parameters := [.double, .double], returnType := none }, accessFlags := 0, code := some k2c0 }
def k2c1 : Code := { maxStack := 6, maxLocals := 2, code := prog_19_method_4_code, exceptionTable := #[], attributes := #[] }
def k2m1 : Method := { name := "difference", desc := "(Lcom/example/blindroute/blindroute/electrical/DoubleDouble;Lcom/example/blindroute/blindroute/electrical/DoubleDouble;)D", sig := { parameters := [(.object "com/example/blindroute/blindroute/electrical/DoubleDouble"), (.object "com/example/blindroute/blindroute/electrical/DoubleDouble")], returnType := some .double }, accessFlags := 8, code := some k2c1 }
/-- com/example/blindroute/blindroute/electrical/DoubleDouble -/
def k2 : Class := { plain "com/example/blindroute/blindroute/electrical/DoubleDouble" (some 0) with
  accessFlags := 48
  interfaces := #[]
  cf := some (fileOf pool2 8 #[] #[{ accessFlags := 0, nameIndex := 5, descriptorIndex := 23, attributes := #[] }, { accessFlags := 8, nameIndex := 42, descriptorIndex := 43, attributes := #[] }] 48 2 #[] #[{ accessFlags := 26, nameIndex := 37, descriptorIndex := 12, attributes := #[] }, { accessFlags := 2, nameIndex := 11, descriptorIndex := 12, attributes := #[] }, { accessFlags := 2, nameIndex := 15, descriptorIndex := 12, attributes := #[] }])
  fields := #[{ name := "SPLITTER", type := .double, accessFlags := 26, slot := 0, constantValue := 0 }, { name := "high", type := .double, accessFlags := 2, slot := 0, constantValue := 0 }, { name := "low", type := .double, accessFlags := 2, slot := 1, constantValue := 0 }]
  methods := #[k2m0, k2m1]
  instanceTypes := #[.double, .double]
  staticTypes := #[.double]
  resolved := Array.replicate 53 none
  statics := none }

def pool3 : Array CpInfo := pool [(1, u "java/lang/Cloneable"), (0, .class_ 1), (0, u "java/lang/Object"), (0, .class_ 3)] 3

/-- java/lang/Cloneable -/
def k3 : Class := { plain "java/lang/Cloneable" (some 0) with
  accessFlags := 1537
  interfaces := #[]
  cf := some (fileOf pool3 2 #[] #[] 1537 4 #[] #[])
  fields := #[]
  methods := #[]
  instanceTypes := #[]
  staticTypes := #[]
  resolved := Array.replicate 8 none
  statics := none }

def pool4 : Array CpInfo := pool [(1, u "java/io/Serializable"), (0, .class_ 1), (0, u "java/lang/Object"), (0, .class_ 3)] 3

/-- java/io/Serializable -/
def k4 : Class := { plain "java/io/Serializable" (some 0) with
  accessFlags := 1537
  interfaces := #[]
  cf := some (fileOf pool4 2 #[] #[] 1537 4 #[] #[])
  fields := #[]
  methods := #[]
  instanceTypes := #[]
  staticTypes := #[]
  resolved := Array.replicate 8 none
  statics := none }

/-- the primitive byte -/
def k5 : Class := { plain "byte" none with kind := .primitive 'B', accessFlags := 0x411 }
/-- [B -/
def k6 : Class := { plain "[B" (some 0) with kind := .array 5 .byte, interfaces := #[3, 4], accessFlags := 1041 }

/-- the primitive int -/
def k7 : Class := { plain "int" none with kind := .primitive 'I', accessFlags := 0x411 }
/-- [I -/
def k8 : Class := { plain "[I" (some 0) with kind := .array 7 .int, interfaces := #[3, 4], accessFlags := 1041 }

def heap : Heap := #[]
def classes : Array Class := #[k0, k1, k2, k3, k4, k5, k6, k7, k8]
def interned : List (Array UInt16 × Addr) := []
def slotsUsed : Nat := 0
def theMethod : MethodId := ⟨1, 1⟩
def args0 : Array Value := #[.int 5, .int 3, .int 4, .int 7, .int 9]
def aboutOver (below : List Frame) : State where
  vm := { classes := classes, interned := interned.toArray }
  heap := heap
  slotsUsed := slotsUsed
  threads := #[{ frames := .invoking theMethod args0 :: below }]
def below0 : List Frame := [.native { method := ⟨0, 0⟩, args := #[] }]
def about1 : State := aboutOver below0
def p0 : Program := .bare "" "" ""
def e0 : Env := launch0.env 0 0 0
theorem w_frames : about1.frames = Frame.invoking theMethod args0 :: below0 := rfl
set_option maxRecDepth 65536 in
theorem w_args : argsFit about1.vm theMethod args0 = true := by decide +kernel
set_option maxRecDepth 65536 in
theorem w_heap : heapFits about1 = true := by decide +kernel
set_option maxRecDepth 65536 in
theorem w_runnable : about1.curStatus? = some .runnable := by decide +kernel
set_option maxRecDepth 65536 in
theorem w_alone : about1.alone = true := by decide +kernel
set_option maxRecDepth 65536 in
theorem w_named : about1.methodNamed? x = some theMethod := by decide +kernel
set_option maxRecDepth 65536 in
theorem w_hears : about1.hears theMethod below0 = true := by decide +kernel
set_option maxRecDepth 65536 in
theorem w_ripe : about1.ripe theMethod args0 below0 = true := by decide +kernel
theorem w_running : about1.status = .running := rfl
set_option maxRecDepth 65536 in
theorem w_room : about1.hasRoom e0.platform room_1 = true :=
  launch0.hasRoom_least _ room_1 (by decide +kernel) (by decide +kernel) (by decide +kernel) (by decide +kernel) (by decide +kernel) (by decide +kernel)
theorem allAtoms_all (ts : List Jvm.Cond) (a : Array Jvm.Value) (st : Jvm.State) : (allAtoms ts).before a st = ts.all (fun c => c.before a st) := by
  induction ts with
  | nil => rfl
  | cons c t ih =>
    show (Jvm.Cond.and c (allAtoms t)).before a st = _
    rw [Jvm.Cond.before_and, ih, List.all_cons]
def words1 : List Jvm.Cond := Jvm.Cond.code x code maxLocals ret :: tables_1
/-- a 'code' word, met by the world's own term for the bytes: nothing is compared byte by byte -/
theorem code_word {y : MethodName} {bytes : ByteArray} {mx : Nat} {rt : Option FieldType} {a : Array Value} {s : State} {m : MethodId} {meth : Method} {c : Code} (h1 : s.methodNamed? y = some m) (h2 : s.vm.method? m = some meth) (h3 : meth.code = some c) (h4 : c.code = bytes)
    (h5 : (c.maxLocals == mx && c.exceptionTable.isEmpty && decide (c.maxStack ≤ mostOperands) && decide (meth.sig.returnType = rt) && !meth.locks && decide (parseMethodDescriptor y.desc = some meth.sig)) = true) : (Jvm.Cond.code y bytes mx rt).before a s = true := by
  simp only [Bool.and_eq_true, beq_iff_eq, Bool.not_eq_true', decide_eq_true_eq] at h5
  obtain ⟨⟨⟨⟨⟨g1, g2⟩, g3⟩, g4⟩, g5⟩, g6⟩ := h5
  simp [Cond.before, Cond.holds, Cond.value, h1, h2, h3, h4, g1, g2, g3, g4, g5, g6]
def isCode : Jvm.Cond → Bool
  | .code _ _ _ _ => true
  | _ => false
theorem all_split {L : List Jvm.Cond} {P : Jvm.Cond → Bool} (h1 : L.all (fun c => isCode c || P c) = true) (h2 : ∀ c ∈ L.filter isCode, P c = true) : L.all P = true := by
  refine List.all_eq_true.mpr fun c hc => ?_
  have h := List.all_eq_true.mp h1 c hc
  rcases Bool.eq_false_or_eq_true (isCode c) with hi | hi
  · exact h2 c (List.mem_filter.mpr ⟨hc, hi⟩)
  · simpa [hi] using h
set_option maxRecDepth 65536 in
theorem w_c0 : (Jvm.Cond.code x code maxLocals ret).before args0 about1 = true := code_word (m := ⟨1, 1⟩) (meth := k1m1) (c := k1c1) (by decide +kernel) rfl rfl rfl (by decide +kernel)
set_option maxRecDepth 65536 in
theorem w_c1 : (Jvm.Cond.code ({ cls := "com/example/blindroute/blindroute/electrical/DoubleDouble", name := "<init>", desc := "(DD)V" } : Jvm.MethodName) prog_19_method_1_code (5 : Nat) (Option.none : Option Jvm.ClassFile.FieldType)).before args0 about1 = true := code_word (m := ⟨2, 0⟩) (meth := k2m0) (c := k2c0) (by decide +kernel) rfl rfl rfl (by decide +kernel)
set_option maxRecDepth 65536 in
theorem w_c2 : (Jvm.Cond.code ({ cls := "java/lang/Object", name := "<init>", desc := "()V" } : Jvm.MethodName) object_method_1_code (1 : Nat) (Option.none : Option Jvm.ClassFile.FieldType)).before args0 about1 = true := code_word (m := ⟨0, 0⟩) (meth := k0m0) (c := k0c0) (by decide +kernel) rfl rfl rfl (by decide +kernel)
set_option maxRecDepth 65536 in
theorem w_c3 : (Jvm.Cond.code ({ cls := "com/example/blindroute/blindroute/electrical/DoubleDouble", name := "difference", desc := "(Lcom/example/blindroute/blindroute/electrical/DoubleDouble;Lcom/example/blindroute/blindroute/electrical/DoubleDouble;)D" } : Jvm.MethodName) prog_19_method_4_code (2 : Nat) (Option.some Jvm.ClassFile.FieldType.double)).before args0 about1 = true := code_word (m := ⟨2, 1⟩) (meth := k2m1) (c := k2c1) (by decide +kernel) rfl rfl rfl (by decide +kernel)
def codes1 : List Jvm.Cond := [Jvm.Cond.code x code maxLocals ret, Jvm.Cond.code ({ cls := "com/example/blindroute/blindroute/electrical/DoubleDouble", name := "<init>", desc := "(DD)V" } : Jvm.MethodName) prog_19_method_1_code (5 : Nat) (Option.none : Option Jvm.ClassFile.FieldType), Jvm.Cond.code ({ cls := "java/lang/Object", name := "<init>", desc := "()V" } : Jvm.MethodName) object_method_1_code (1 : Nat) (Option.none : Option Jvm.ClassFile.FieldType), Jvm.Cond.code ({ cls := "com/example/blindroute/blindroute/electrical/DoubleDouble", name := "difference", desc := "(Lcom/example/blindroute/blindroute/electrical/DoubleDouble;Lcom/example/blindroute/blindroute/electrical/DoubleDouble;)D" } : Jvm.MethodName) prog_19_method_4_code (2 : Nat) (Option.some Jvm.ClassFile.FieldType.double)]
set_option maxRecDepth 65536 in
theorem codes_eq : words1.filter isCode = codes1 := rfl
theorem w_codes : ∀ c ∈ words1.filter isCode, c.before args0 about1 = true := by
  rw [codes_eq]
  intro c hc
  simp only [codes1, List.mem_cons, List.not_mem_nil, or_false] at hc
  rcases hc with rfl | rfl | rfl | rfl
  · exact w_c0
  · exact w_c1
  · exact w_c2
  · exact w_c3
set_option maxRecDepth 65536 in
theorem w_t1 : words1.all (fun c => isCode c || c.before args0 about1) = true := by decide +kernel
theorem w_tables : (allAtoms (Jvm.Cond.code x code maxLocals ret :: tables_1)).before args0 about1 = true := by
  rw [allAtoms_all]
  show words1.all (fun c => c.before args0 about1) = true
  refine all_split ?_ w_codes
  rw [w_t1]
set_option maxRecDepth 65536 in
theorem w_case : (Jvm.Cond.and given_1 narrow_1).before args0 about1 = true := by decide +kernel
theorem w_applies : (headSpec (Jvm.Cond.code x code maxLocals ret :: tables_1) room_1).applies x e0.platform about1 = true :=
  (Spec.applies_iff w_frames).mpr ⟨w_running, w_runnable, w_alone, w_named, w_hears, w_ripe, w_room, w_tables⟩
theorem atStart : AtStart classFile x code maxLocals ret World_1 tables_1 room_1 Calls_1 rest_1 Pre_1 launch0 p0 e0 about1 theMethod args0 below0 :=
  ⟨lists_1, trivial, launch0.admits_env _ _ _, launch0.least_env, fairChoices_fair.cas, fairChoices_fair.clock, w_frames, w_args, w_heap, w_applies, trivial, trivial, w_case⟩
end start1
theorem witness_1 : WitnessClaimed_1 := ⟨start1.p0, start1.e0, start1.about1, start1.theMethod, start1.args0, start1.below0, start1.atStart⟩
end Jvm.Pilot.@@N@@
