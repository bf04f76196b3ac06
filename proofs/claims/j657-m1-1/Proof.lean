import JvmDerived
import JvmDerived.Pilot.@@N@@Statement
import JvmDerived.Pilot.@@N@@Code
set_option linter.unusedVariables false
set_option linter.unusedSimpArgs false
namespace Jvm.RoadKit
open Sem ClassFile Op Lib Jvm.Stand Jvm.Free Jvm.LawKit
section New
variable {p : Program} {l : Launch} {e : Env} {R : Room} {s : State} {m : MethodId} {args : Array Value} {below : List Frame} {meth : Method} {c : Code} {T : State} {locs : List Loc} {cells slots : Nat}
theorem retI (X : Stand p l e R s m args below meth c T locs cells slots) (hx : p.tables.exec = Jvm.exec) {pc : Nat} {Ls : Array Slot} {z : Int32} {rest : List Value} (hret : meth.sig.returnType = some .int) (hd : decode c.code pc = .ok (.ireturn, 1)) {fs : List Frame}
    (hl : ∀ (f : JFrame) (acts : List Action), f.method = m → f.locked = none → f.entered = [] → (doReturn e (T.setTop f) acts (some (.int z))).1 = T.setFrames fs) : Steps p.tables e below (T.setTop (mkF m pc Ls (.int z :: rest))) (T.setFrames fs) := by
  have hm' : T.vm.method? m = some meth := X.method'
  have hn : narrow .int (.int z) = .int z := rfl
  show Steps p.tables e below (T.setTop { method := m, pc := pc, locals := Ls, stack := _ :: rest, locked := none }) _
  jvm_step X.here [X.here.top, hx, hd, hm', hret, hn]
  first | (intro acts; rw [hl _ acts rfl rfl rfl]) | rw [hl _ _ rfl rfl rfl]
  exact Steps.refl _
end New
end Jvm.RoadKit
namespace Jvm.Pilot.@@N@@
open Jvm Jvm.ClassFile Sem Op Lib Jvm.Free Jvm.Stand Jvm.LawKit Jvm.RoadKit Bundle Jvm.Free.Fl Jvm.Pilot.@@N@@.Jvm.D
/-- the run comes from the frame g0 (over T0) to the frame g (over T) -/
abbrev Go (p : Program) (e : Env) (below : List Frame) (T0 : State) (g0 : JFrame) (T : State) (g : JFrame) : Prop :=
  ∀ t, Steps p.tables e below (T.setTop g) t → Steps p.tables e below (T0.setTop g0) t
/-- a call's outcome, its point opened -/
theorem own_outV {p : Program} {l : Launch} {e : Env} {R : Room} {s : State} {m : MethodId} {args : Array Value} {below : List Frame} {meth : Method} {c : Code} {s₀ : State} {locs : List Loc} {cells slots : Nat} {Q : Option Value → Heap → List Loc → Prop} {kc ks : Nat} {g' : Option Value → JFrame}
    (H : ∃ (v : Option Value) (vm₁ : Vm) (B : Pt), s.WarmedH vm₁ ∧ Stand p l e R s m args below meth c B.U B.locs B.cells B.slots ∧ (∃ L, Q v B.U.heap L ∧ B.locs = locs ++ L ∧ B.cells = cells + kc ∧ B.slots = slots + ks) ∧ Steps p.tables e below s₀ (B.U.setTop (g' v))) :
    ∃ (v : Option Value) (T' : State) (L : List Loc), Stand p l e R s m args below meth c T' (locs ++ L) (cells + kc) (slots + ks) ∧ Q v T'.heap L ∧ ∀ t, Steps p.tables e below (T'.setTop (g' v)) t → Steps p.tables e below s₀ t := by
  obtain ⟨v, vm, ⟨T', L', k', n'⟩, -, X, ⟨L, hQ, e1, e2, e3⟩, st⟩ := H
  subst e1 e2 e3
  exact ⟨v, T', L, X, hQ, fun t k => st.trans k⟩
theorem own_outS {p : Program} {l : Launch} {e : Env} {R : Room} {s : State} {m : MethodId} {args : Array Value} {below : List Frame} {meth : Method} {c : Code} {s₀ : State} {locs : List Loc} {cells slots : Nat} {Q : Option Value → Heap → List Loc → Prop} {kc ks : Nat} {g' : Option Value → JFrame}
    (H : ∃ (v : Option Value) (vm₁ : Vm) (B : Pt), s.WarmedH vm₁ ∧ Stand p l e R s m args below meth c B.U B.locs B.cells B.slots ∧ (∃ L, Q v B.U.heap L ∧ B.locs = locs ++ L ∧ B.cells = cells + kc ∧ B.slots = slots + ks) ∧ ∀ t, Steps p.tables e below (B.U.setTop (g' v)) t → Steps p.tables e below s₀ t) :
    ∃ (v : Option Value) (T' : State) (L : List Loc), Stand p l e R s m args below meth c T' (locs ++ L) (cells + kc) (slots + ks) ∧ Q v T'.heap L ∧ ∀ t, Steps p.tables e below (T'.setTop (g' v)) t → Steps p.tables e below s₀ t := by
  obtain ⟨v, vm, ⟨T', L', k', n'⟩, -, X, ⟨L, hQ, e1, e2, e3⟩, st⟩ := H
  subst e1 e2 e3
  exact ⟨v, T', L, X, hQ, st⟩
theorem d1_0 : decode method_2_code 0 = .ok (.lload_n 0, 1) := by decide +kernel
theorem d1_1 : decode method_2_code 1 = .ok (.bipush 8, 2) := by decide +kernel
theorem d1_3 : decode method_2_code 3 = .ok (.iload_n 2, 1) := by decide +kernel
theorem d1_4 : decode method_2_code 4 = .ok (.imul, 1) := by decide +kernel
theorem d1_5 : decode method_2_code 5 = .ok (.lushr, 1) := by decide +kernel
theorem d1_6 : decode method_2_code 6 = .ok (.l2i, 1) := by decide +kernel
theorem d1_7 : decode method_2_code 7 = .ok (.i2b, 1) := by decide +kernel
theorem d1_8 : decode method_2_code 8 = .ok (.i2l, 1) := by decide +kernel
theorem d1_9 : decode method_2_code 9 = .ok (.lreturn, 1) := by decide +kernel
theorem d2_0 : decode method_3_code 0 = .ok (.iload_n 3, 1) := by decide +kernel
theorem d2_1 : decode method_3_code 1 = .ok (.iload 5, 2) := by decide +kernel
theorem d2_3 : decode method_3_code 3 = .ok (.if_icmp .gt 22, 3) := by decide +kernel
theorem d2_6 : decode method_3_code 6 = .ok (.iload 5, 2) := by decide +kernel
theorem d2_8 : decode method_3_code 8 = .ok (.iload 4, 2) := by decide +kernel
theorem d2_10 : decode method_3_code 10 = .ok (.if_icmp .ge 15, 3) := by decide +kernel
theorem d2_13 : decode method_3_code 13 = .ok (.aload_n 0, 1) := by decide +kernel
theorem d2_14 : decode method_3_code 14 = .ok (.iload 5, 2) := by decide +kernel
theorem d2_16 : decode method_3_code 16 = .ok (.laload, 1) := by decide +kernel
theorem d2_17 : decode method_3_code 17 = .ok (.aload_n 2, 1) := by decide +kernel
theorem d2_18 : decode method_3_code 18 = .ok (.aload_n 1, 1) := by decide +kernel
theorem d2_19 : decode method_3_code 19 = .ok (.iload 5, 2) := by decide +kernel
theorem d2_21 : decode method_3_code 21 = .ok (.iaload, 1) := by decide +kernel
theorem d2_22 : decode method_3_code 22 = .ok (.laload, 1) := by decide +kernel
theorem d2_23 : decode method_3_code 23 = .ok (.lmul, 1) := by decide +kernel
theorem d2_24 : decode method_3_code 24 = .ok (.lreturn, 1) := by decide +kernel
theorem d2_25 : decode method_3_code 25 = .ok (.lconst 0, 1) := by decide +kernel
theorem d2_26 : decode method_3_code 26 = .ok (.lreturn, 1) := by decide +kernel
theorem d3_0 : decode prog_32_method_1_code 0 = .ok (.aload_n 0, 1) := by decide +kernel
theorem d3_1 : decode prog_32_method_1_code 1 = .ok (.invokespecial 1, 3) := by decide +kernel
theorem d3_4 : decode prog_32_method_1_code 4 = .ok (.aload_n 0, 1) := by decide +kernel
theorem d3_5 : decode prog_32_method_1_code 5 = .ok (.aload_n 1, 1) := by decide +kernel
theorem d3_6 : decode prog_32_method_1_code 6 = .ok (.putfield 7, 3) := by decide +kernel
theorem d3_9 : decode prog_32_method_1_code 9 = .ok (.aload_n 0, 1) := by decide +kernel
theorem d3_10 : decode prog_32_method_1_code 10 = .ok (.aload_n 2, 1) := by decide +kernel
theorem d3_11 : decode prog_32_method_1_code 11 = .ok (.putfield 13, 3) := by decide +kernel
theorem d3_14 : decode prog_32_method_1_code 14 = .ok (.aload_n 0, 1) := by decide +kernel
theorem d3_15 : decode prog_32_method_1_code 15 = .ok (.aload_n 3, 1) := by decide +kernel
theorem d3_16 : decode prog_32_method_1_code 16 = .ok (.putfield 16, 3) := by decide +kernel
theorem d3_19 : decode prog_32_method_1_code 19 = .ok (.return_, 1) := by decide +kernel
theorem d5_0 : decode prog_32_method_6_code 0 = .ok (.aload_n 0, 1) := by decide +kernel
theorem d5_1 : decode prog_32_method_6_code 1 = .ok (.getfield 7, 3) := by decide +kernel
theorem d5_4 : decode prog_32_method_6_code 4 = .ok (.iload_n 1, 1) := by decide +kernel
theorem d5_5 : decode prog_32_method_6_code 5 = .ok (.iconst 1, 1) := by decide +kernel
theorem d5_6 : decode prog_32_method_6_code 6 = .ok (.iadd, 1) := by decide +kernel
theorem d5_7 : decode prog_32_method_6_code 7 = .ok (.iaload, 1) := by decide +kernel
theorem d5_8 : decode prog_32_method_6_code 8 = .ok (.istore_n 3, 1) := by decide +kernel
theorem d5_9 : decode prog_32_method_6_code 9 = .ok (.dconst 0, 1) := by decide +kernel
theorem d5_10 : decode prog_32_method_6_code 10 = .ok (.dstore 4, 2) := by decide +kernel
theorem d5_12 : decode prog_32_method_6_code 12 = .ok (.aload_n 0, 1) := by decide +kernel
theorem d5_13 : decode prog_32_method_6_code 13 = .ok (.getfield 7, 3) := by decide +kernel
theorem d5_16 : decode prog_32_method_6_code 16 = .ok (.iload_n 1, 1) := by decide +kernel
theorem d5_17 : decode prog_32_method_6_code 17 = .ok (.iaload, 1) := by decide +kernel
theorem d5_18 : decode prog_32_method_6_code 18 = .ok (.istore 6, 2) := by decide +kernel
theorem d5_20 : decode prog_32_method_6_code 20 = .ok (.iload 6, 2) := by decide +kernel
theorem d5_22 : decode prog_32_method_6_code 22 = .ok (.iload_n 3, 1) := by decide +kernel
theorem d5_23 : decode prog_32_method_6_code 23 = .ok (.if_icmp .ge 31, 3) := by decide +kernel
theorem d5_26 : decode prog_32_method_6_code 26 = .ok (.dload 4, 2) := by decide +kernel
theorem d5_28 : decode prog_32_method_6_code 28 = .ok (.aload_n 0, 1) := by decide +kernel
theorem d5_29 : decode prog_32_method_6_code 29 = .ok (.getfield 16, 3) := by decide +kernel
theorem d5_32 : decode prog_32_method_6_code 32 = .ok (.iload 6, 2) := by decide +kernel
theorem d5_34 : decode prog_32_method_6_code 34 = .ok (.daload, 1) := by decide +kernel
theorem d5_35 : decode prog_32_method_6_code 35 = .ok (.aload_n 2, 1) := by decide +kernel
theorem d5_36 : decode prog_32_method_6_code 36 = .ok (.aload_n 0, 1) := by decide +kernel
theorem d5_37 : decode prog_32_method_6_code 37 = .ok (.getfield 13, 3) := by decide +kernel
theorem d5_40 : decode prog_32_method_6_code 40 = .ok (.iload 6, 2) := by decide +kernel
theorem d5_42 : decode prog_32_method_6_code 42 = .ok (.iaload, 1) := by decide +kernel
theorem d5_43 : decode prog_32_method_6_code 43 = .ok (.daload, 1) := by decide +kernel
theorem d5_44 : decode prog_32_method_6_code 44 = .ok (.dmul, 1) := by decide +kernel
theorem d5_45 : decode prog_32_method_6_code 45 = .ok (.dadd, 1) := by decide +kernel
theorem d5_46 : decode prog_32_method_6_code 46 = .ok (.dstore 4, 2) := by decide +kernel
theorem d5_48 : decode prog_32_method_6_code 48 = .ok (.iinc 6 1, 3) := by decide +kernel
theorem d5_51 : decode prog_32_method_6_code 51 = .ok (.goto (-31), 3) := by decide +kernel
theorem d5_54 : decode prog_32_method_6_code 54 = .ok (.dload 4, 2) := by decide +kernel
theorem d5_56 : decode prog_32_method_6_code 56 = .ok (.dreturn, 1) := by decide +kernel
theorem pd__JI_J : parseMethodDescriptor "(JI)J" = some ⟨[.long, .int], some .long⟩ := by decide +kernel
theorem pd___J_I_JIII_J : parseMethodDescriptor "([J[I[JIII)J" = some ⟨[(.array .long), (.array .int), (.array .long), .int, .int, .int], some .long⟩ := by decide +kernel
theorem pd___I_I_D_V : parseMethodDescriptor "([I[I[D)V" = some ⟨[(.array .int), (.array .int), (.array .double)], none⟩ := by decide +kernel
theorem pd__I_D_D : parseMethodDescriptor "(I[D)D" = some ⟨[.int, (.array .double)], some .double⟩ := by decide +kernel
def ownB (x : Int64) (i : Int32) : Int64 := ((((((x.toUInt64 >>> (((8 : Int32) * i) &&& 0x3f).toInt64.toUInt64).toInt64)).toInt32)).toInt8.toInt32).toInt64
def ownD (z : Int64) : Value := .double (FP.l2d z)
def own_t (f : Int32 → Int64) (lo hi q : Int32) : Int64 := if q < lo then 0 else if q < hi then f q else 0
def own_M (lv : List Int64) (ps : List Int32) (lc : List Int64) (q : Int32) : Int := (lv.getD q.toNatClampNeg (0 : Int64)).toInt * (lc.getD (ps.getD q.toNatClampNeg (0 : Int32)).toNatClampNeg (0 : Int64)).toInt
def own_e (f : Int32 → Int) (lo hi : Int32) : Int := if lo < hi then (if lo + (1 : Int32) < hi then f lo + f (lo + (1 : Int32)) else f lo) else 0
theorem own_bb (x : Int64) (i : Int32) : -128 ≤ (ownB x i).toInt ∧ (ownB x i).toInt ≤ 127 := by
  unfold ownB
  generalize ((((x.toUInt64 >>> (((8 : Int32) * i) &&& 0x3f).toInt64.toUInt64).toInt64)).toInt32).toInt8 = y
  rw [Int32.toInt_toInt64, Int8.toInt_toInt32]
  have := Int8.le_toInt y
  have := Int8.toInt_lt y
  omega
theorem own_at {α : Type} (L : List α) (f : α → Value) (n : Nat) (d0 : α) (dv : Value) (h : n < L.length) : (L.map f).getD n dv = f (L.getD n d0) := by
  simp [List.getD_eq_getElem?_getD, h]
theorem own_mem {α : Type} {L : List α} {n : Nat} {d : α} (h : n < L.length) : L.getD n d ∈ L := by
  simp [List.getD_eq_getElem?_getD, h]
theorem own_ix {q m : Int32} {n : Nat} (h : ¬ q < 0 ∧ q < m) (hm : m.toInt = n) : q.toNatClampNeg < n := by
  have h1 := h.1
  have h2 := h.2
  rw [Int32.lt_iff_toInt_lt] at h1 h2
  rw [show (0 : Int32).toInt = 0 from rfl] at h1
  have : q.toNatClampNeg = q.toInt.toNat := rfl
  omega
theorem own_d0 : FP.Core.DInt 0 (0 : UInt64) := by
  have h := FP.Core.i2d_int 0
  rw [show FP.Core.i2d 0 = 0 by decide +kernel, show (0 : Int32).toInt = 0 from rfl] at h
  exact h
theorem own_nn {i : Int} {a : UInt64} (h : FP.Core.DInt i a) : NoNaN64 a := noNaN64_no.mpr ((FP.Core.notNaN_iff a).mpr (FP.Core.DInt_ne_nan h))
theorem own_mb {a b : Int64} (ha : -128 ≤ a.toInt ∧ a.toInt ≤ 127) (hb : -128 ≤ b.toInt ∧ b.toInt ≤ 127) : -16384 ≤ a.toInt * b.toInt ∧ a.toInt * b.toInt ≤ 16384 := by
  have := mc ha.1 ha.2 hb.1 hb.2
  omega
theorem own_dm {a b : Int64} (ha : -128 ≤ a.toInt ∧ a.toInt ≤ 127) (hb : -128 ≤ b.toInt ∧ b.toInt ≤ 127) : FP.Core.DInt (a.toInt * b.toInt) (FP.dmul (FP.l2d a) (FP.l2d b)) ∧ -16384 ≤ a.toInt * b.toInt ∧ a.toInt * b.toInt ≤ 16384 := by
  have h := own_mb ha hb
  exact ⟨FP.Core.dmul_int (FP.Core.l2d_int (by omega)) (FP.Core.l2d_int (by omega)) (by omega), h⟩
theorem own_ds {i j : Int} {a b : UInt64} (ha : FP.Core.DInt i a) (hb : FP.Core.DInt j b ∧ -16384 ≤ j ∧ j ≤ 16384) (hi : -16384 ≤ i ∧ i ≤ 16384) : FP.Core.DInt (i + j) (FP.dadd a b) := FP.Core.dadd_int ha hb.1 (by omega)
theorem own_lti (x y : Int32) : x < y ↔ x.toInt < y.toInt := Int32.lt_iff_toInt_lt
theorem own_p1 {lo : Int32} (h : 0 ≤ lo.toInt) (h2 : lo.toInt < 100) : (lo + (1 : Int32)).toInt = lo.toInt + 1 := by
  rw [Int32.toInt_add, show (1 : Int32).toInt = 1 from rfl]
  exact Int.bmod_eq_of_le (by omega) (by omega)
theorem own_rg1 {lo hi : Int32} (hlo : 0 ≤ lo.toInt) (hhi : hi.toInt ≤ lo.toInt + 2) (h8 : hi.toInt ≤ 8) (h1 : lo < hi) : ¬ lo < 0 ∧ lo < 8 := by
  rw [own_lti] at h1
  rw [own_lti, own_lti, show (0 : Int32).toInt = 0 from rfl, show (8 : Int32).toInt = 8 from rfl]
  omega
theorem own_rg2 {lo hi : Int32} (hlo : 0 ≤ lo.toInt) (hhi : hi.toInt ≤ lo.toInt + 2) (h8 : hi.toInt ≤ 8) (h1 : lo < hi) (h2 : lo + (1 : Int32) < hi) : ¬ (lo + (1 : Int32)) < 0 ∧ (lo + (1 : Int32)) < 8 := by
  rw [own_lti] at h1 h2
  have e := own_p1 hlo (by omega)
  rw [own_lti, own_lti, show (0 : Int32).toInt = 0 from rfl, show (8 : Int32).toInt = 8 from rfl]
  omega
theorem own_rg3 {lo hi : Int32} (hlo : 0 ≤ lo.toInt) (hhi : hi.toInt ≤ lo.toInt + 2) (h8 : hi.toInt ≤ 8) (h1 : lo < hi) (h2 : lo + (1 : Int32) < hi) : ¬ ((lo + (1 : Int32)) + (1 : Int32) < hi) := by
  rw [own_lti] at h1 h2 ⊢
  have e := own_p1 hlo (by omega)
  have e2 := own_p1 (lo := lo + 1) (by omega) (by omega)
  omega
theorem own_and1 (a : Int32) : 0 ≤ (a &&& (1 : Int32)).toInt ∧ (a &&& (1 : Int32)).toInt ≤ 1 := c_and a (1 : Int32) (by decide)
theorem own_and3 (x : Int32) : ¬ (x &&& (3 : Int32)) < 0 ∧ (x &&& (3 : Int32)) < 4 := by
  have h := c_and x (3 : Int32) (by decide)
  rw [own_lti, own_lti, show (0 : Int32).toInt = 0 from rfl, show (4 : Int32).toInt = 4 from rfl]
  rw [show (3 : Int32).toInt = 3 from rfl] at h
  omega
theorem own_add3 (p x : Int32) (h1 : 0 ≤ p.toInt) (h2 : p.toInt ≤ 50) : p.toInt ≤ (p + ((x &&& (3 : Int32)) % (3 : Int32))).toInt ∧ (p + ((x &&& (3 : Int32)) % (3 : Int32))).toInt ≤ p.toInt + 2 := by
  have h := c_and x (3 : Int32) (by decide)
  generalize x &&& (3 : Int32) = y at h ⊢
  have h3 := (c_irem y (3 : Int32) 3 rfl).1 h.1
  have h4 := Int.emod_nonneg y.toInt (show (3 : Int) ≠ 0 by decide)
  have h5 := Int.emod_lt_of_pos y.toInt (show (0 : Int) < 3 by decide)
  have e : (p + y % 3).toInt = p.toInt + (y % 3).toInt := by
    rw [Int32.toInt_add]
    exact Int.bmod_eq_of_le (by omega) (by omega)
  rw [e]; omega
theorem own_line (f : Int32) : 0 ≤ ((f &&& (2147483647 : Int32)) % (3 : Int32)).toInt ∧ ((f &&& (2147483647 : Int32)) % (3 : Int32)).toInt < 3 := by
  have h := c_and f (2147483647 : Int32) (by decide)
  generalize f &&& (2147483647 : Int32) = y at h ⊢
  have h3 := (c_irem y (3 : Int32) 3 rfl).1 h.1
  have h4 := Int.emod_nonneg y.toInt (show (3 : Int) ≠ 0 by decide)
  have h5 := Int.emod_lt_of_pos y.toInt (show (0 : Int) < 3 by decide)
  omega
theorem own_l0 {line : Int32} (h : 0 ≤ line.toInt ∧ line.toInt < 3) : ¬ line < 0 ∧ line < 4 := by
  rw [own_lti, own_lti, show (0 : Int32).toInt = 0 from rfl, show (4 : Int32).toInt = 4 from rfl]; omega
theorem own_l1 {line : Int32} (h : 0 ≤ line.toInt ∧ line.toInt < 3) : ¬ (line + (1 : Int32)) < 0 ∧ (line + (1 : Int32)) < 4 := by
  have e := own_p1 h.1 (by omega)
  rw [own_lti, own_lti, show (0 : Int32).toInt = 0 from rfl, show (4 : Int32).toInt = 4 from rfl]; omega
theorem own_start {line s0 s1 s2 s3 : Int32} (h : 0 ≤ line.toInt ∧ line.toInt < 3) (hs0 : 0 ≤ s0.toInt) (hs1 : s0.toInt ≤ s1.toInt ∧ s1.toInt ≤ s0.toInt + 2) (hs2 : s1.toInt ≤ s2.toInt ∧ s2.toInt ≤ s1.toInt + 2) (hs3 : s2.toInt ≤ s3.toInt ∧ s3.toInt ≤ s2.toInt + 2 ∧ s3.toInt ≤ 7) :
    ∃ lo hi : Int32, [Value.int s0, .int s1, .int s2, .int s3].getD line.toNatClampNeg (.int (0 : Int32)) = .int lo ∧ [Value.int s0, .int s1, .int s2, .int s3].getD (line + (1 : Int32)).toNatClampNeg (.int (0 : Int32)) = .int hi ∧ 0 ≤ lo.toInt ∧ lo.toInt ≤ hi.toInt ∧ hi.toInt ≤ lo.toInt + 2 ∧ hi.toInt ≤ 8 := by
  have : line.toInt = 0 ∨ line.toInt = 1 ∨ line.toInt = 2 := by omega
  rcases this with q | q | q
  · obtain rfl : line = 0 := Int32.toInt_inj.mp q
    exact ⟨s0, s1, rfl, rfl, by omega, by omega, by omega, by omega⟩
  · obtain rfl : line = 1 := Int32.toInt_inj.mp q
    exact ⟨s1, s2, rfl, rfl, by omega, by omega, by omega, by omega⟩
  · obtain rfl : line = 2 := Int32.toInt_inj.mp q
    exact ⟨s2, s3, rfl, rfl, by omega, by omega, by omega, by omega⟩
theorem own_ref (f : Int32 → Int64) {lo hi : Int32} (hlo : 0 ≤ lo.toInt) (hlh : lo.toInt ≤ hi.toInt) (hhi : hi.toInt ≤ lo.toInt + 2) (h8 : hi.toInt ≤ 8) :
    ((((((((own_t f lo hi 0) + (own_t f lo hi 1)) + (own_t f lo hi 2)) + (own_t f lo hi 3)) + (own_t f lo hi 4)) + (own_t f lo hi 5)) + (own_t f lo hi 6)) + (own_t f lo hi 7)) = if lo < hi then (if lo + (1 : Int32) < hi then f lo + f (lo + (1 : Int32)) else f lo) else 0 := by
  have a : lo.toInt = 0 ∨ lo.toInt = 1 ∨ lo.toInt = 2 ∨ lo.toInt = 3 ∨ lo.toInt = 4 ∨ lo.toInt = 5 ∨ lo.toInt = 6 ∨ lo.toInt = 7 ∨ lo.toInt = 8 := by omega
  have b : hi.toInt = 0 ∨ hi.toInt = 1 ∨ hi.toInt = 2 ∨ hi.toInt = 3 ∨ hi.toInt = 4 ∨ hi.toInt = 5 ∨ hi.toInt = 6 ∨ hi.toInt = 7 ∨ hi.toInt = 8 := by omega
  have e : ∀ (x : Int32) (n : Int), x.toInt = n → x = Int32.ofInt n := fun x n h => by rw [← h, Int32.ofInt_toInt]
  unfold own_t
  rcases a with q | q | q | q | q | q | q | q | q <;> rcases b with r | r | r | r | r | r | r | r | r <;> first | omega | (have e1 := e _ _ q; have e2 := e _ _ r; subst e1; subst e2; simp)
theorem own_fin2 (lv : List Int64) (ps : List Int32) (lc : List Int64) (hlv : ∀ z ∈ lv, -128 ≤ z.toInt ∧ z.toInt ≤ 127) (hlc : ∀ z ∈ lc, -128 ≤ z.toInt ∧ z.toInt ≤ 127) (lo hi : Int32) (hlo : 0 ≤ lo.toInt) (hlh : lo.toInt ≤ hi.toInt) (hhi : hi.toInt ≤ lo.toInt + 2) (h8 : hi.toInt ≤ 8) {r : UInt64} (hr : FP.Core.DInt (own_e (fun q => own_M lv ps lc q) lo hi) r) (ref : Int64)
    (e : ref = (let f := (fun q : Int32 => (lv.getD q.toNatClampNeg (0 : Int64)) * (lc.getD (ps.getD q.toNatClampNeg (0 : Int32)).toNatClampNeg (0 : Int64))); ((((((((own_t f lo hi 0) + (own_t f lo hi 1)) + (own_t f lo hi 2)) + (own_t f lo hi 3)) + (own_t f lo hi 4)) + (own_t f lo hi 5)) + (own_t f lo hi 6)) + (own_t f lo hi 7)))) : FP.dcmp r (FP.l2d ref) = some .eq := by
  have bz : ∀ (L : List Int64) (n : Nat), (∀ z ∈ L, -128 ≤ z.toInt ∧ z.toInt ≤ 127) → -128 ≤ (L.getD n 0).toInt ∧ (L.getD n 0).toInt ≤ 127 := fun L n h => by
    by_cases q : n < L.length
    · exact h _ (own_mem q)
    · simp [List.getD_eq_getElem?_getD, List.getElem?_eq_none (Nat.le_of_not_lt q)]
  have fm : ∀ q : Int32, ((lv.getD q.toNatClampNeg (0 : Int64)) * (lc.getD (ps.getD q.toNatClampNeg (0 : Int32)).toNatClampNeg (0 : Int64))).toInt = own_M lv ps lc q ∧ -16384 ≤ own_M lv ps lc q ∧ own_M lv ps lc q ≤ 16384 := fun q => by
    have a := bz lv q.toNatClampNeg hlv
    have b := bz lc (ps.getD q.toNatClampNeg (0 : Int32)).toNatClampNeg hlc
    have m := own_mb a b
    refine ⟨?_, m⟩
    rw [FP.Core.int64_mul (by omega) (by omega)]; rfl
  dsimp only at e
  rw [own_ref _ hlo hlh hhi h8] at e
  have hv : ref.toInt = own_e (fun q => own_M lv ps lc q) lo hi := by
    rw [e]
    unfold own_e
    have m1 := fm lo
    have m2 := fm (lo + 1)
    by_cases h1 : lo < hi
    · rw [if_pos h1, if_pos h1]
      by_cases h2 : lo + (1 : Int32) < hi
      · rw [if_pos h2, if_pos h2, FP.Core.int64_add (by omega) (by omega), m1.1, m2.1]
      · rw [if_neg h2, if_neg h2, m1.1]
    · rw [if_neg h1, if_neg h1]; rfl
  have hb : -32768 ≤ ref.toInt ∧ ref.toInt ≤ 32768 := by
    rw [hv]
    unfold own_e
    have m1 := (fm lo).2
    have m2 := (fm (lo + 1)).2
    by_cases h1 : lo < hi
    · rw [if_pos h1]
      by_cases h2 : lo + (1 : Int32) < hi
      · rw [if_pos h2]; dsimp only; omega
      · rw [if_neg h2]; dsimp only; omega
    · rw [if_neg h1]; omega
  have h := FP.Core.dcmp_int hr (FP.Core.l2d_int (a := ref) (by omega))
  rw [hv] at h
  show FP.Core.dcmp _ _ = _
  rw [h, FP.Core.compare_self_int]
theorem ef_byteAt (m : MethodId) (x0 : Int64) (x1 : Int32) : entryFrame m #[(.long x0), (.int x1)] 3 = mkF m 0 #[.val (.long x0), .second, .val (.int x1)] [] := by first | (simp [entryFrame, mkF, argsToLocals, Value.category]; done) | rfl
theorem pn_byteAt : plainName "com/example/blindroute/blindroute/lp/SparseLinesDotPinLaw" = true := by first | (simp [plainName, overriddenIn]; done) | decide +kernel
def Q_byteAt (Z : State) (x : Int64) (i : Int32) (h0 : Heap) (n0 : Nat) (v : Option Value) (h : Heap) (L : List Loc) : Prop := v = some (.long (ownB x i)) ∧ Fr n0 L ∧ h = h0
set_option maxRecDepth 65536 in
set_option maxHeartbeats 40000000 in
theorem rm_byteAt (l : Launch) (Z : State) (a0 : Array Value) (hw : ∀ d ∈ tables_1, d.before a0 Z = true) (ws : List Jvm.Cond) (x : Int64) (i : Int32) (h0 : Heap) (n0 : Nat) (Z0 : n0 ≤ h0.size)  :
    MetFree l (⟨"com/example/blindroute/blindroute/lp/SparseLinesDotPinLaw", "byteAt", "(JI)J"⟩ : MethodName) (head1 (Jvm.Cond.code (⟨"com/example/blindroute/blindroute/lp/SparseLinesDotPinLaw", "byteAt", "(JI)J"⟩ : MethodName) method_2_code 3 (some .long) :: ws) ({ frames := 0, cells := 0, slots := 0, locals := 0 } : Room)) (fun aa U => aa = #[(.long x), (.int i)] ∧ Z.Warmed39 U.vm ∧ U.heap = h0) (fun _ _ _ _ _ => True) (fun _ U o U' => ∃ v L, o = .returned v ∧ Q_byteAt Z x i h0 n0 v U'.heap L ∧ FrameEnd U o U' L ({ frames := 0, cells := 0, slots := 0, locals := 0 } : Room).cells ({ frames := 0, cells := 0, slots := 0, locals := 0 } : Room).slots) := by
  refine MetFree.of_bodySF (plainFor_of_name pn_byteAt) hisR ?_
  intro p e s m args below meth c s₁ Bd hml0 hP hK
  obtain ⟨rfl, hZ, hh⟩ := hP
  have hx := Bd.exec
  have hby := Bd.bytes
  have hml : c.maxLocals = 3 := hml0
  have hown : s.vm.findClass "com/example/blindroute/blindroute/lp/SparseLinesDotPinLaw" = some m.cls := findClass_of_methodNamed Bd.named
  have hnm := (name_of_methodNamed Bd.named Bd.method).1
  have X0 : Stand p l e ({ frames := 0, cells := 0, slots := 0, locals := 0 } : Room) s m #[(.long x), (.int i)] below meth c s₁ [] 0 0 := Stand.of_body Bd
  have e0 : s₁.heap = h0 := by rw [← hh, Bd.state]; rfl
  have N0 := Fr.nil n0
  have S0 : Go p e below s₁ (entryFrame m #[(.long x), (.int i)] 3) s₁ (mkF m 0 #[.val (.long x), .second, .val (.int i)] []) := fun t k => castTop (ef_byteAt m x i) k
  have S1 : Go p e below s₁ (entryFrame m #[(.long x), (.int i)] 3) s₁ (mkF m 9 #[.val (.long x), .second, .val (.int i)] [(.long (((((x.toUInt64 >>> (((8 : Int32) * i) &&& 0x3f).toInt64.toUInt64).toInt64).toInt32).toInt8.toInt32).toInt64))]) := fun t kt => S0 t (by
    refine XS.lloadN X0.here hx rfl (hb hby d1_0) rfl ?_
    show Steps p.tables e below (s₁.setTop (mkF m 1 #[.val (.long x), .second, .val (.int i)] [(.long x)])) _
    refine XS.bipush X0.here hx rfl (hb hby d1_1) ?_
    show Steps p.tables e below (s₁.setTop (mkF m 3 #[.val (.long x), .second, .val (.int i)] [(.int (8 : Int32)), (.long x)])) _
    refine XS.iloadN X0.here hx rfl (hb hby d1_3) rfl ?_
    show Steps p.tables e below (s₁.setTop (mkF m 4 #[.val (.long x), .second, .val (.int i)] [(.int i), (.int (8 : Int32)), (.long x)])) _
    refine XS.imul X0.here hx rfl (hb hby d1_4) rfl ?_
    show Steps p.tables e below (s₁.setTop (mkF m 5 #[.val (.long x), .second, .val (.int i)] [(.int ((8 : Int32) * i)), (.long x)])) _
    refine XS.lushr X0.here hx rfl (hb hby d1_5) rfl ?_
    show Steps p.tables e below (s₁.setTop (mkF m 6 #[.val (.long x), .second, .val (.int i)] [(.long ((x.toUInt64 >>> (((8 : Int32) * i) &&& 0x3f).toInt64.toUInt64).toInt64))])) _
    refine XS.l2i X0.here hx rfl (hb hby d1_6) rfl ?_
    show Steps p.tables e below (s₁.setTop (mkF m 7 #[.val (.long x), .second, .val (.int i)] [(.int (((x.toUInt64 >>> (((8 : Int32) * i) &&& 0x3f).toInt64.toUInt64).toInt64).toInt32))])) _
    refine XS.i2b X0.here hx rfl (hb hby d1_7) rfl ?_
    show Steps p.tables e below (s₁.setTop (mkF m 8 #[.val (.long x), .second, .val (.int i)] [(.int ((((x.toUInt64 >>> (((8 : Int32) * i) &&& 0x3f).toInt64.toUInt64).toInt64).toInt32).toInt8.toInt32))])) _
    refine XS.i2l X0.here hx rfl (hb hby d1_8) rfl ?_
    show Steps p.tables e below (s₁.setTop (mkF m 9 #[.val (.long x), .second, .val (.int i)] [(.long (((((x.toUInt64 >>> (((8 : Int32) * i) &&& 0x3f).toInt64.toUInt64).toInt64).toInt32).toInt8.toInt32).toInt64))])) _
    exact kt)
  clear S0
  obtain ⟨fs, hr, hrun, hended, hW, hsame⟩ := X0.leave (v := some (.long (((((x.toUInt64 >>> (((8 : Int32) * i) &&& 0x3f).toInt64.toUInt64).toInt64).toInt32).toInt8.toInt32).toInt64))) (fun h => by first | rfl | (rw [Bd.returns] at h; cases h))
  refine ⟨_, _, S1 _ ?_, hrun, hended, _, _, rfl, ?_, ⟨_, rfl⟩, hW, hsame.mono (by decide) (by decide)⟩
  · exact retOut X0 hx Bd.returns rfl (Or.inr (Or.inl ⟨rfl, rfl, _, rfl⟩)) (hb hby d1_9) hr
  · show Q_byteAt Z x i h0 n0 _ s₁.heap _
    rw [e0]
    exact ⟨rfl, N0, rfl⟩
theorem ef_term (m : MethodId) (x0 : Addr) (x1 : Addr) (x2 : Addr) (x3 : Int32) (x4 : Int32) (x5 : Int32) : entryFrame m #[(.ref x0), (.ref x1), (.ref x2), (.int x3), (.int x4), (.int x5)] 6 = mkF m 0 #[.val (.ref x0), .val (.ref x1), .val (.ref x2), .val (.int x3), .val (.int x4), .val (.int x5)] [] := by first | (simp [entryFrame, mkF, argsToLocals, Value.category]; done) | rfl
theorem pn_term : plainName "com/example/blindroute/blindroute/lp/SparseLinesDotPinLaw" = true := by first | (simp [plainName, overriddenIn]; done) | decide +kernel
def Q_term (Z : State) (lo : Int32) (hi : Int32) (q : Int32) (lv : List Int64) (ps : List Int32) (lc : List Int64) (h0 : Heap) (n0 : Nat) (v : Option Value) (h : Heap) (L : List Loc) : Prop := v = some (.long (own_t (fun q => ((lv.getD (q).toNatClampNeg (0 : Int64)) * (lc.getD ((ps.getD (q).toNatClampNeg (0 : Int32))).toNatClampNeg (0 : Int64)))) lo hi q)) ∧ Fr n0 L ∧ h = h0
set_option maxRecDepth 65536 in
set_option maxHeartbeats 40000000 in
theorem rm_term (l : Launch) (Z : State) (a0 : Array Value) (hw : ∀ d ∈ tables_1, d.before a0 Z = true) (ws : List Jvm.Cond) (bl : Addr) (bp : Addr) (bc : Addr) (lo : Int32) (hi : Int32) (q : Int32) (lv : List Int64) (ps : List Int32) (lc : List Int64) (k1 : ClassId) (k2 : ClassId) (k3 : ClassId) (h0 : Heap) (n0 : Nat) (Z0 : n0 ≤ h0.size) (V1 : Arv Z h0 bl k1 .long (8 : Int32) (lv.map Value.long) (.long (0 : Int64))) (hl : lv.length = 8) (V2 : Arv Z h0 bp k2 .int (8 : Int32) (ps.map Value.int) (.int (0 : Int32))) (hp : ps.length = 8) (V3 : Arv Z h0 bc k3 .long (4 : Int32) (lc.map Value.long) (.long (0 : Int64))) (hc : lc.length = 4) (hps : ∀ z ∈ ps, ¬ z < 0 ∧ z < 4) (hq : ¬ q < 0 ∧ q < 8) :
    MetFree l (⟨"com/example/blindroute/blindroute/lp/SparseLinesDotPinLaw", "term", "([J[I[JIII)J"⟩ : MethodName) (head1 (Jvm.Cond.code (⟨"com/example/blindroute/blindroute/lp/SparseLinesDotPinLaw", "term", "([J[I[JIII)J"⟩ : MethodName) method_3_code 6 (some .long) :: ws) ({ frames := 0, cells := 0, slots := 0, locals := 0 } : Room)) (fun aa U => aa = #[(.ref bl), (.ref bp), (.ref bc), (.int lo), (.int hi), (.int q)] ∧ Z.Warmed39 U.vm ∧ U.heap = h0) (fun _ _ _ _ _ => True) (fun _ U o U' => ∃ v L, o = .returned v ∧ Q_term Z lo hi q lv ps lc h0 n0 v U'.heap L ∧ FrameEnd U o U' L ({ frames := 0, cells := 0, slots := 0, locals := 0 } : Room).cells ({ frames := 0, cells := 0, slots := 0, locals := 0 } : Room).slots) := by
  refine MetFree.of_bodySF (plainFor_of_name pn_term) hisR ?_
  intro p e s m args below meth c s₁ Bd hml0 hP hK
  obtain ⟨rfl, hZ, hh⟩ := hP
  have hx := Bd.exec
  have hby := Bd.bytes
  have hml : c.maxLocals = 6 := hml0
  have hown : s.vm.findClass "com/example/blindroute/blindroute/lp/SparseLinesDotPinLaw" = some m.cls := findClass_of_methodNamed Bd.named
  have hnm := (name_of_methodNamed Bd.named Bd.method).1
  have X0 : Stand p l e ({ frames := 0, cells := 0, slots := 0, locals := 0 } : Room) s m #[(.ref bl), (.ref bp), (.ref bc), (.int lo), (.int hi), (.int q)] below meth c s₁ [] 0 0 := Stand.of_body Bd
  have e0 : s₁.heap = h0 := by rw [← hh, Bd.state]; rfl
  have N0 := Fr.nil n0
  have S0 : Go p e below s₁ (entryFrame m #[(.ref bl), (.ref bp), (.ref bc), (.int lo), (.int hi), (.int q)] 6) s₁ (mkF m 0 #[.val (.ref bl), .val (.ref bp), .val (.ref bc), .val (.int lo), .val (.int hi), .val (.int q)] []) := fun t k => castTop (ef_term m bl bp bc lo hi q) k
  have hq8 := own_ix (n := 8) hq (by decide)
  have hpq : ¬ (ps.getD (q).toNatClampNeg (0 : Int32)) < 0 ∧ (ps.getD (q).toNatClampNeg (0 : Int32)) < 4 := hps _ (own_mem (by rw [hp]; exact hq8))
  have hp4 := own_ix (n := 4) hpq (by decide)
  have S2 : Go p e below s₁ (entryFrame m #[(.ref bl), (.ref bp), (.ref bc), (.int lo), (.int hi), (.int q)] 6) s₁ (mkF m 3 #[.val (.ref bl), .val (.ref bp), .val (.ref bc), .val (.int lo), .val (.int hi), .val (.int q)] [(.int q), (.int lo)]) := fun t kt => S0 t (by
    refine XS.iloadN X0.here hx rfl (hb hby d2_0) rfl ?_
    show Steps p.tables e below (s₁.setTop (mkF m 1 #[.val (.ref bl), .val (.ref bp), .val (.ref bc), .val (.int lo), .val (.int hi), .val (.int q)] [(.int lo)])) _
    refine XS.iload X0.here hx rfl (hb hby d2_1) rfl ?_
    show Steps p.tables e below (s₁.setTop (mkF m 3 #[.val (.ref bl), .val (.ref bp), .val (.ref bc), .val (.int lo), .val (.int hi), .val (.int q)] [(.int q), (.int lo)])) _
    exact kt)
  clear S0
  by_cases h1 : q < lo
  · have S3 : Go p e below s₁ (entryFrame m #[(.ref bl), (.ref bp), (.ref bc), (.int lo), (.int hi), (.int q)] 6) s₁ (mkF m 26 #[.val (.ref bl), .val (.ref bp), .val (.ref bc), .val (.int lo), .val (.int hi), .val (.int q)] [(.long (0 : Int64))]) := fun t kt => S2 t (by
      refine XS.icmpYes X0.here hx rfl (pc0 := 3) (pc' := 25) rfl (hb hby d2_3) rfl (tlt (show q < lo from h1)).2.2.1 (by decide) (by decide) ?_
      show Steps p.tables e below (s₁.setTop (mkF m 25 #[.val (.ref bl), .val (.ref bp), .val (.ref bc), .val (.int lo), .val (.int hi), .val (.int q)] [])) _
      refine XS.lconst X0.here hx rfl (hb hby d2_25) ?_
      show Steps p.tables e below (s₁.setTop (mkF m 26 #[.val (.ref bl), .val (.ref bp), .val (.ref bc), .val (.int lo), .val (.int hi), .val (.int q)] [(.long (0 : Int64))])) _
      exact kt)
    clear S2
    obtain ⟨fs, hr, hrun, hended, hW, hsame⟩ := X0.leave (v := some (.long (0 : Int64))) (fun h => by first | rfl | (rw [Bd.returns] at h; cases h))
    refine ⟨_, _, S3 _ ?_, hrun, hended, _, _, rfl, ?_, ⟨_, rfl⟩, hW, hsame.mono (by decide) (by decide)⟩
    · exact retOut X0 hx Bd.returns rfl (Or.inr (Or.inl ⟨rfl, rfl, _, rfl⟩)) (hb hby d2_26) hr
    · show Q_term Z lo hi q lv ps lc h0 n0 _ s₁.heap _
      rw [e0]
      exact ⟨by rw [own_t, if_pos h1], N0, rfl⟩
  · have S4 : Go p e below s₁ (entryFrame m #[(.ref bl), (.ref bp), (.ref bc), (.int lo), (.int hi), (.int q)] 6) s₁ (mkF m 10 #[.val (.ref bl), .val (.ref bp), .val (.ref bc), .val (.int lo), .val (.int hi), .val (.int q)] [(.int hi), (.int q)]) := fun t kt => S2 t (by
      refine XS.icmpNo X0.here hx rfl (hb hby d2_3) rfl (flt (show ¬ (q < lo) from h1)).2.2.1 ?_
      show Steps p.tables e below (s₁.setTop (mkF m 6 #[.val (.ref bl), .val (.ref bp), .val (.ref bc), .val (.int lo), .val (.int hi), .val (.int q)] [])) _
      refine XS.iload X0.here hx rfl (hb hby d2_6) rfl ?_
      show Steps p.tables e below (s₁.setTop (mkF m 8 #[.val (.ref bl), .val (.ref bp), .val (.ref bc), .val (.int lo), .val (.int hi), .val (.int q)] [(.int q)])) _
      refine XS.iload X0.here hx rfl (hb hby d2_8) rfl ?_
      show Steps p.tables e below (s₁.setTop (mkF m 10 #[.val (.ref bl), .val (.ref bp), .val (.ref bc), .val (.int lo), .val (.int hi), .val (.int q)] [(.int hi), (.int q)])) _
      exact kt)
    clear S2
    by_cases h2 : q < hi
    · have S6 : Go p e below s₁ (entryFrame m #[(.ref bl), (.ref bp), (.ref bc), (.int lo), (.int hi), (.int q)] 6) s₁ (mkF m 16 #[.val (.ref bl), .val (.ref bp), .val (.ref bc), .val (.int lo), .val (.int hi), .val (.int q)] [(.int q), (.ref bl)]) := fun t kt => S4 t (by
        refine XS.icmpNo X0.here hx rfl (hb hby d2_10) rfl (tlt (show q < hi from h2)).2.1 ?_
        show Steps p.tables e below (s₁.setTop (mkF m 13 #[.val (.ref bl), .val (.ref bp), .val (.ref bc), .val (.int lo), .val (.int hi), .val (.int q)] [])) _
        refine XS.aloadN X0.here hx rfl (hb hby d2_13) rfl rfl ?_
        show Steps p.tables e below (s₁.setTop (mkF m 14 #[.val (.ref bl), .val (.ref bp), .val (.ref bc), .val (.int lo), .val (.int hi), .val (.int q)] [(.ref bl)])) _
        refine XS.iload X0.here hx rfl (hb hby d2_14) rfl ?_
        show Steps p.tables e below (s₁.setTop (mkF m 16 #[.val (.ref bl), .val (.ref bp), .val (.ref bc), .val (.int lo), .val (.int hi), .val (.int q)] [(.int q), (.ref bl)])) _
        exact kt)
      clear S4
      obtain ⟨co7, Ao7, qo7, So7, No7, Ho7, Go7⟩ := id V1
      have hino7 : ¬ (q < 0 ∨ co7.slots.size ≤ (q).toNatClampNeg) := inb_of So7 hq
      have hato7 : co7.slots[(q).toNatClampNeg]? = some (.long (lv.getD (q).toNatClampNeg (0 : Int64))) := Has.at Ho7 hino7 (own_at _ _ _ (0 : Int64) _ (by rw [hl]; exact hq8))
      have S8 : Go p e below s₁ (entryFrame m #[(.ref bl), (.ref bp), (.ref bc), (.int lo), (.int hi), (.int q)] 6) s₁ (mkF m 21 #[.val (.ref bl), .val (.ref bp), .val (.ref bc), .val (.int lo), .val (.int hi), .val (.int q)] [(.int q), (.ref bp), (.ref bc), (.long (lv.getD (q).toNatClampNeg (0 : Int64)))]) := fun t kt => S6 t (by
        refine X0.laload hx (j := q) (v := (.long (lv.getD (q).toNatClampNeg (0 : Int64)))) (by rw [e0]; exact Ao7.1) (State.isArrayOf_alike hZ.alike Ao7.2.1) Ao7.2.2 hino7 hato7 (g := (mkF m 16 #[.val (.ref bl), .val (.ref bp), .val (.ref bc), .val (.int lo), .val (.int hi), .val (.int q)] [(.int q), (.ref bl)])) rfl rfl (hb hby d2_16) _ ?_
        show Steps p.tables e below (s₁.setTop (mkF m 17 #[.val (.ref bl), .val (.ref bp), .val (.ref bc), .val (.int lo), .val (.int hi), .val (.int q)] [(.long (lv.getD (q).toNatClampNeg (0 : Int64)))])) _
        refine XS.aloadN X0.here hx rfl (hb hby d2_17) rfl rfl ?_
        show Steps p.tables e below (s₁.setTop (mkF m 18 #[.val (.ref bl), .val (.ref bp), .val (.ref bc), .val (.int lo), .val (.int hi), .val (.int q)] [(.ref bc), (.long (lv.getD (q).toNatClampNeg (0 : Int64)))])) _
        refine XS.aloadN X0.here hx rfl (hb hby d2_18) rfl rfl ?_
        show Steps p.tables e below (s₁.setTop (mkF m 19 #[.val (.ref bl), .val (.ref bp), .val (.ref bc), .val (.int lo), .val (.int hi), .val (.int q)] [(.ref bp), (.ref bc), (.long (lv.getD (q).toNatClampNeg (0 : Int64)))])) _
        refine XS.iload X0.here hx rfl (hb hby d2_19) rfl ?_
        show Steps p.tables e below (s₁.setTop (mkF m 21 #[.val (.ref bl), .val (.ref bp), .val (.ref bc), .val (.int lo), .val (.int hi), .val (.int q)] [(.int q), (.ref bp), (.ref bc), (.long (lv.getD (q).toNatClampNeg (0 : Int64)))])) _
        exact kt)
      clear S6
      obtain ⟨co9, Ao9, qo9, So9, No9, Ho9, Go9⟩ := id V2
      have hino9 : ¬ (q < 0 ∨ co9.slots.size ≤ (q).toNatClampNeg) := inb_of So9 hq
      have hato9 : co9.slots[(q).toNatClampNeg]? = some (.int (ps.getD (q).toNatClampNeg (0 : Int32))) := Has.at Ho9 hino9 (own_at _ _ _ (0 : Int32) _ (by rw [hp]; exact hq8))
      have S10 : Go p e below s₁ (entryFrame m #[(.ref bl), (.ref bp), (.ref bc), (.int lo), (.int hi), (.int q)] 6) s₁ (mkF m 22 #[.val (.ref bl), .val (.ref bp), .val (.ref bc), .val (.int lo), .val (.int hi), .val (.int q)] [(.int (ps.getD (q).toNatClampNeg (0 : Int32))), (.ref bc), (.long (lv.getD (q).toNatClampNeg (0 : Int64)))]) := fun t kt => S8 t (by
        refine X0.iaload hx (j := q) (v := (.int (ps.getD (q).toNatClampNeg (0 : Int32)))) (by rw [e0]; exact Ao9.1) (State.isArrayOf_alike hZ.alike Ao9.2.1) Ao9.2.2 hino9 hato9 (g := (mkF m 21 #[.val (.ref bl), .val (.ref bp), .val (.ref bc), .val (.int lo), .val (.int hi), .val (.int q)] [(.int q), (.ref bp), (.ref bc), (.long (lv.getD (q).toNatClampNeg (0 : Int64)))])) rfl rfl (hb hby d2_21) _ ?_
        show Steps p.tables e below (s₁.setTop (mkF m 22 #[.val (.ref bl), .val (.ref bp), .val (.ref bc), .val (.int lo), .val (.int hi), .val (.int q)] [(.int (ps.getD (q).toNatClampNeg (0 : Int32))), (.ref bc), (.long (lv.getD (q).toNatClampNeg (0 : Int64)))])) _
        exact kt)
      clear S8
      obtain ⟨co11, Ao11, qo11, So11, No11, Ho11, Go11⟩ := id V3
      have hino11 : ¬ ((ps.getD (q).toNatClampNeg (0 : Int32)) < 0 ∨ co11.slots.size ≤ ((ps.getD (q).toNatClampNeg (0 : Int32))).toNatClampNeg) := inb_of So11 hpq
      have hato11 : co11.slots[((ps.getD (q).toNatClampNeg (0 : Int32))).toNatClampNeg]? = some (.long (lc.getD ((ps.getD (q).toNatClampNeg (0 : Int32))).toNatClampNeg (0 : Int64))) := Has.at Ho11 hino11 (own_at _ _ _ (0 : Int64) _ (by rw [hc]; exact hp4))
      have S12 : Go p e below s₁ (entryFrame m #[(.ref bl), (.ref bp), (.ref bc), (.int lo), (.int hi), (.int q)] 6) s₁ (mkF m 24 #[.val (.ref bl), .val (.ref bp), .val (.ref bc), .val (.int lo), .val (.int hi), .val (.int q)] [(.long ((lv.getD (q).toNatClampNeg (0 : Int64)) * (lc.getD ((ps.getD (q).toNatClampNeg (0 : Int32))).toNatClampNeg (0 : Int64))))]) := fun t kt => S10 t (by
        refine X0.laload hx (j := (ps.getD (q).toNatClampNeg (0 : Int32))) (v := (.long (lc.getD ((ps.getD (q).toNatClampNeg (0 : Int32))).toNatClampNeg (0 : Int64)))) (by rw [e0]; exact Ao11.1) (State.isArrayOf_alike hZ.alike Ao11.2.1) Ao11.2.2 hino11 hato11 (g := (mkF m 22 #[.val (.ref bl), .val (.ref bp), .val (.ref bc), .val (.int lo), .val (.int hi), .val (.int q)] [(.int (ps.getD (q).toNatClampNeg (0 : Int32))), (.ref bc), (.long (lv.getD (q).toNatClampNeg (0 : Int64)))])) rfl rfl (hb hby d2_22) _ ?_
        show Steps p.tables e below (s₁.setTop (mkF m 23 #[.val (.ref bl), .val (.ref bp), .val (.ref bc), .val (.int lo), .val (.int hi), .val (.int q)] [(.long (lc.getD ((ps.getD (q).toNatClampNeg (0 : Int32))).toNatClampNeg (0 : Int64))), (.long (lv.getD (q).toNatClampNeg (0 : Int64)))])) _
        refine XS.lmul X0.here hx rfl (hb hby d2_23) rfl ?_
        show Steps p.tables e below (s₁.setTop (mkF m 24 #[.val (.ref bl), .val (.ref bp), .val (.ref bc), .val (.int lo), .val (.int hi), .val (.int q)] [(.long ((lv.getD (q).toNatClampNeg (0 : Int64)) * (lc.getD ((ps.getD (q).toNatClampNeg (0 : Int32))).toNatClampNeg (0 : Int64))))])) _
        exact kt)
      clear S10
      obtain ⟨fs, hr, hrun, hended, hW, hsame⟩ := X0.leave (v := some (.long ((lv.getD (q).toNatClampNeg (0 : Int64)) * (lc.getD ((ps.getD (q).toNatClampNeg (0 : Int32))).toNatClampNeg (0 : Int64))))) (fun h => by first | rfl | (rw [Bd.returns] at h; cases h))
      refine ⟨_, _, S12 _ ?_, hrun, hended, _, _, rfl, ?_, ⟨_, rfl⟩, hW, hsame.mono (by decide) (by decide)⟩
      · exact retOut X0 hx Bd.returns rfl (Or.inr (Or.inl ⟨rfl, rfl, _, rfl⟩)) (hb hby d2_24) hr
      · show Q_term Z lo hi q lv ps lc h0 n0 _ s₁.heap _
        rw [e0]
        exact ⟨by rw [own_t, if_neg h1, if_pos h2], N0, rfl⟩
    · have S5 : Go p e below s₁ (entryFrame m #[(.ref bl), (.ref bp), (.ref bc), (.int lo), (.int hi), (.int q)] 6) s₁ (mkF m 26 #[.val (.ref bl), .val (.ref bp), .val (.ref bc), .val (.int lo), .val (.int hi), .val (.int q)] [(.long (0 : Int64))]) := fun t kt => S4 t (by
        refine XS.icmpYes X0.here hx rfl (pc0 := 10) (pc' := 25) rfl (hb hby d2_10) rfl (flt (show ¬ (q < hi) from h2)).2.1 (by decide) (by decide) ?_
        show Steps p.tables e below (s₁.setTop (mkF m 25 #[.val (.ref bl), .val (.ref bp), .val (.ref bc), .val (.int lo), .val (.int hi), .val (.int q)] [])) _
        refine XS.lconst X0.here hx rfl (hb hby d2_25) ?_
        show Steps p.tables e below (s₁.setTop (mkF m 26 #[.val (.ref bl), .val (.ref bp), .val (.ref bc), .val (.int lo), .val (.int hi), .val (.int q)] [(.long (0 : Int64))])) _
        exact kt)
      clear S4
      obtain ⟨fs, hr, hrun, hended, hW, hsame⟩ := X0.leave (v := some (.long (0 : Int64))) (fun h => by first | rfl | (rw [Bd.returns] at h; cases h))
      refine ⟨_, _, S5 _ ?_, hrun, hended, _, _, rfl, ?_, ⟨_, rfl⟩, hW, hsame.mono (by decide) (by decide)⟩
      · exact retOut X0 hx Bd.returns rfl (Or.inr (Or.inl ⟨rfl, rfl, _, rfl⟩)) (hb hby d2_26) hr
      · show Q_term Z lo hi q lv ps lc h0 n0 _ s₁.heap _
        rw [e0]
        exact ⟨by rw [own_t, if_neg h1, if_neg h2], N0, rfl⟩
theorem ef_init (m : MethodId) (x0 : Addr) (x1 : Addr) (x2 : Addr) (x3 : Addr) : entryFrame m #[(.ref x0), (.ref x1), (.ref x2), (.ref x3)] 4 = mkF m 0 #[.val (.ref x0), .val (.ref x1), .val (.ref x2), .val (.ref x3)] [] := by first | (simp [entryFrame, mkF, argsToLocals, Value.category]; done) | rfl
theorem pn_init : plainName "com/example/blindroute/blindroute/lp/SparseLines" = true := by first | (simp [plainName, overriddenIn]; done) | decide +kernel
def Q_init (Z : State) (a : Addr) (p1 : Addr) (p2 : Addr) (p3 : Addr) (h0 : Heap) (n0 : Nat) (v : Option Value) (h : Heap) (L : List Loc) : Prop := v = none ∧ Fr n0 L ∧ Keep h0 h [a] ∧ Exa Z h a "com/example/blindroute/blindroute/lp/SparseLines" ∧ Fld Z h a "com/example/blindroute/blindroute/lp/SparseLines" "start" "[I" (.ref p1) ∧ Fld Z h a "com/example/blindroute/blindroute/lp/SparseLines" "positions" "[I" (.ref p2) ∧ Fld Z h a "com/example/blindroute/blindroute/lp/SparseLines" "values" "[D" (.ref p3)
set_option maxRecDepth 65536 in
set_option maxHeartbeats 40000000 in
theorem rm_init (l : Launch) (Z : State) (a0 : Array Value) (hw : ∀ d ∈ tables_1, d.before a0 Z = true) (ws : List Jvm.Cond) (a : Addr) (p1 : Addr) (p2 : Addr) (p3 : Addr) (h0 : Heap) (n0 : Nat) (Z0 : n0 ≤ h0.size) (E0 : Exa Z h0 a "com/example/blindroute/blindroute/lp/SparseLines") (F0 : Fld Z h0 a "com/example/blindroute/blindroute/lp/SparseLines" "start" "[I" .null) (F1 : Fld Z h0 a "com/example/blindroute/blindroute/lp/SparseLines" "positions" "[I" .null) (F2 : Fld Z h0 a "com/example/blindroute/blindroute/lp/SparseLines" "values" "[D" .null) (g_a : n0 ≤ a) :
    MetFree l (⟨"com/example/blindroute/blindroute/lp/SparseLines", "<init>", "([I[I[D)V"⟩ : MethodName) (head1 (Jvm.Cond.code (⟨"com/example/blindroute/blindroute/lp/SparseLines", "<init>", "([I[I[D)V"⟩ : MethodName) prog_32_method_1_code 4 none :: ws) ({ frames := 1, cells := 0, slots := 0, locals := 12 } : Room)) (fun aa U => aa = #[(.ref a), (.ref p1), (.ref p2), (.ref p3)] ∧ Z.Warmed39 U.vm ∧ U.heap = h0) (fun _ _ _ _ _ => True) (fun _ U o U' => ∃ v L, o = .returned v ∧ Q_init Z a p1 p2 p3 h0 n0 v U'.heap L ∧ FrameEnd U o U' L ({ frames := 1, cells := 0, slots := 0, locals := 12 } : Room).cells ({ frames := 1, cells := 0, slots := 0, locals := 12 } : Room).slots) := by
  refine MetFree.of_bodySF (plainFor_of_name pn_init) hisR ?_
  intro p e s m args below meth c s₁ Bd hml0 hP hK
  obtain ⟨rfl, hZ, hh⟩ := hP
  have hx := Bd.exec
  have hby := Bd.bytes
  have hml : c.maxLocals = 4 := hml0
  have hown : s.vm.findClass "com/example/blindroute/blindroute/lp/SparseLines" = some m.cls := findClass_of_methodNamed Bd.named
  have hnm := (name_of_methodNamed Bd.named Bd.method).1
  have X0 : Stand p l e ({ frames := 1, cells := 0, slots := 0, locals := 12 } : Room) s m #[(.ref a), (.ref p1), (.ref p2), (.ref p3)] below meth c s₁ [] 0 0 := Stand.of_body Bd
  have e0 : s₁.heap = h0 := by rw [← hh, Bd.state]; rfl
  have N0 := Fr.nil n0
  have S0 : Go p e below s₁ (entryFrame m #[(.ref a), (.ref p1), (.ref p2), (.ref p3)] 4) s₁ (mkF m 0 #[.val (.ref a), .val (.ref p1), .val (.ref p2), .val (.ref p3)] []) := fun t k => castTop (ef_init m a p1 p2 p3) k
  have S13 : Go p e below s₁ (entryFrame m #[(.ref a), (.ref p1), (.ref p2), (.ref p3)] 4) s₁ (mkF m 1 #[.val (.ref a), .val (.ref p1), .val (.ref p2), .val (.ref p3)] [(.ref a)]) := fun t kt => S0 t (by
    refine XS.aloadN X0.here hx rfl (hb hby d3_0) rfl rfl ?_
    show Steps p.tables e below (s₁.setTop (mkF m 1 #[.val (.ref a), .val (.ref p1), .val (.ref p2), .val (.ref p3)] [(.ref a)])) _
    exact kt)
  clear S0
  obtain ⟨T14, X14, e14, st14⟩ := initO X0 hx hZ hown (hw _ (List.mem_of_getElem? (i := 17) rfl)) (hw _ (List.mem_of_getElem? (i := 18) rfl)) (hw _ (List.mem_of_getElem? (i := 19) rfl)) e0 (g := (mkF m 1 #[.val (.ref a), .val (.ref p1), .val (.ref p2), .val (.ref p3)] [(.ref a)])) rfl (by rw [hml]; rfl) rfl (hb hby d3_1) (by decide) (W := 0) (by show 2 * 0 + _ ≤ _; exact Nat.le_of_eq rfl) (by decide)
  have S15 : Go p e below s₁ (entryFrame m #[(.ref a), (.ref p1), (.ref p2), (.ref p3)] 4) T14 (mkF m 4 #[.val (.ref a), .val (.ref p1), .val (.ref p2), .val (.ref p3)] []) := fun t kt => S13 t (st14 t kt)
  clear S13 st14 X0 e0
  have S16 : Go p e below s₁ (entryFrame m #[(.ref a), (.ref p1), (.ref p2), (.ref p3)] 4) T14 (mkF m 6 #[.val (.ref a), .val (.ref p1), .val (.ref p2), .val (.ref p3)] [(.ref p1), (.ref a)]) := fun t kt => S15 t (by
    refine XS.aloadN X14.here hx rfl (hb hby d3_4) rfl rfl ?_
    show Steps p.tables e below (T14.setTop (mkF m 5 #[.val (.ref a), .val (.ref p1), .val (.ref p2), .val (.ref p3)] [(.ref a)])) _
    refine XS.aloadN X14.here hx rfl (hb hby d3_5) rfl rfl ?_
    show Steps p.tables e below (T14.setTop (mkF m 6 #[.val (.ref a), .val (.ref p1), .val (.ref p2), .val (.ref p3)] [(.ref p1), (.ref a)])) _
    exact kt)
  clear S15
  obtain ⟨T17, h17, X17, e17, W17, st17⟩ := putF X14 hx hZ hown (host := "") (Or.inl (hw _ (List.mem_of_getElem? (i := 20) rfl))) Via.refl e14 F0 E0 (Or.inr ⟨(hw _ (List.mem_of_getElem? (i := 21) rfl)), rfl, hnm⟩) (hw _ (List.mem_of_getElem? (i := 12) rfl)) (ty := (.array .int)) (by decide) rfl rfl (g := (mkF m 6 #[.val (.ref a), .val (.ref p1), .val (.ref p2), .val (.ref p3)] [(.ref p1), (.ref a)])) rfl rfl (hb hby d3_6)
  have N17 := Fr.snoc X17 N0 g_a
  have K17 : Keep h0 h17 [a] := (Keep.refl h0 [a]).wr W17 (Or.inl (by simp))
  have Fw17 := F0.same W17
  have S18 : Go p e below s₁ (entryFrame m #[(.ref a), (.ref p1), (.ref p2), (.ref p3)] 4) T17 (mkF m 9 #[.val (.ref a), .val (.ref p1), .val (.ref p2), .val (.ref p3)] []) := fun t kt => S16 t (st17 t kt)
  clear S16 st17 X14 e14
  have S19 : Go p e below s₁ (entryFrame m #[(.ref a), (.ref p1), (.ref p2), (.ref p3)] 4) T17 (mkF m 11 #[.val (.ref a), .val (.ref p1), .val (.ref p2), .val (.ref p3)] [(.ref p2), (.ref a)]) := fun t kt => S18 t (by
    refine XS.aloadN X17.here hx rfl (hb hby d3_9) rfl rfl ?_
    show Steps p.tables e below (T17.setTop (mkF m 10 #[.val (.ref a), .val (.ref p1), .val (.ref p2), .val (.ref p3)] [(.ref a)])) _
    refine XS.aloadN X17.here hx rfl (hb hby d3_10) rfl rfl ?_
    show Steps p.tables e below (T17.setTop (mkF m 11 #[.val (.ref a), .val (.ref p1), .val (.ref p2), .val (.ref p3)] [(.ref p2), (.ref a)])) _
    exact kt)
  clear S18
  have f20 := (F1.other W17 (Or.inr (slot_ne (C := "com/example/blindroute/blindroute/lp/SparseLines") (Or.inr (hw _ (List.mem_of_getElem? (i := 23) rfl))) (Or.inr (hw _ (List.mem_of_getElem? (i := 21) rfl))) (by decide) (t := (.array .int)) (t' := (.array .int)) (by decide) (by decide))))
  have f21 := (E0.wr W17)
  obtain ⟨T22, h22, X22, e22, W22, st22⟩ := putF X17 hx hZ hown (host := "") (Or.inl (hw _ (List.mem_of_getElem? (i := 22) rfl))) Via.refl e17 f20 f21 (Or.inr ⟨(hw _ (List.mem_of_getElem? (i := 23) rfl)), rfl, hnm⟩) (hw _ (List.mem_of_getElem? (i := 12) rfl)) (ty := (.array .int)) (by decide) rfl rfl (g := (mkF m 11 #[.val (.ref a), .val (.ref p1), .val (.ref p2), .val (.ref p3)] [(.ref p2), (.ref a)])) rfl rfl (hb hby d3_11)
  have N22 := Fr.snoc X22 N17 g_a
  have K22 : Keep h0 h22 [a] := K17.wr W22 (Or.inl (by simp))
  have Fw22 := f20.same W22
  have S23 : Go p e below s₁ (entryFrame m #[(.ref a), (.ref p1), (.ref p2), (.ref p3)] 4) T22 (mkF m 14 #[.val (.ref a), .val (.ref p1), .val (.ref p2), .val (.ref p3)] []) := fun t kt => S19 t (st22 t kt)
  clear S19 st22 X17 e17
  have S24 : Go p e below s₁ (entryFrame m #[(.ref a), (.ref p1), (.ref p2), (.ref p3)] 4) T22 (mkF m 16 #[.val (.ref a), .val (.ref p1), .val (.ref p2), .val (.ref p3)] [(.ref p3), (.ref a)]) := fun t kt => S23 t (by
    refine XS.aloadN X22.here hx rfl (hb hby d3_14) rfl rfl ?_
    show Steps p.tables e below (T22.setTop (mkF m 15 #[.val (.ref a), .val (.ref p1), .val (.ref p2), .val (.ref p3)] [(.ref a)])) _
    refine XS.aloadN X22.here hx rfl (hb hby d3_15) rfl rfl ?_
    show Steps p.tables e below (T22.setTop (mkF m 16 #[.val (.ref a), .val (.ref p1), .val (.ref p2), .val (.ref p3)] [(.ref p3), (.ref a)])) _
    exact kt)
  clear S23
  have f25 := ((F2.other W17 (Or.inr (slot_ne (C := "com/example/blindroute/blindroute/lp/SparseLines") (Or.inr (hw _ (List.mem_of_getElem? (i := 25) rfl))) (Or.inr (hw _ (List.mem_of_getElem? (i := 21) rfl))) (by decide) (t := (.array .double)) (t' := (.array .int)) (by decide) (by decide)))).other W22 (Or.inr (slot_ne (C := "com/example/blindroute/blindroute/lp/SparseLines") (Or.inr (hw _ (List.mem_of_getElem? (i := 25) rfl))) (Or.inr (hw _ (List.mem_of_getElem? (i := 23) rfl))) (by decide) (t := (.array .double)) (t' := (.array .int)) (by decide) (by decide))))
  have f26 := (f21.wr W22)
  obtain ⟨T27, h27, X27, e27, W27, st27⟩ := putF X22 hx hZ hown (host := "") (Or.inl (hw _ (List.mem_of_getElem? (i := 24) rfl))) Via.refl e22 f25 f26 (Or.inr ⟨(hw _ (List.mem_of_getElem? (i := 25) rfl)), rfl, hnm⟩) (hw _ (List.mem_of_getElem? (i := 12) rfl)) (ty := (.array .double)) (by decide) rfl rfl (g := (mkF m 16 #[.val (.ref a), .val (.ref p1), .val (.ref p2), .val (.ref p3)] [(.ref p3), (.ref a)])) rfl rfl (hb hby d3_16)
  have N27 := Fr.snoc X27 N22 g_a
  have K27 : Keep h0 h27 [a] := K22.wr W27 (Or.inl (by simp))
  have Fw27 := f25.same W27
  have S28 : Go p e below s₁ (entryFrame m #[(.ref a), (.ref p1), (.ref p2), (.ref p3)] 4) T27 (mkF m 19 #[.val (.ref a), .val (.ref p1), .val (.ref p2), .val (.ref p3)] []) := fun t kt => S24 t (st27 t kt)
  clear S24 st27 X22 e22
  have f29 := (f26.wr W27)
  have f30 := ((Fw17.other W22 (Or.inr (slot_ne (C := "com/example/blindroute/blindroute/lp/SparseLines") (Or.inr (hw _ (List.mem_of_getElem? (i := 21) rfl))) (Or.inr (hw _ (List.mem_of_getElem? (i := 23) rfl))) (by decide) (t := (.array .int)) (t' := (.array .int)) (by decide) (by decide)))).other W27 (Or.inr (slot_ne (C := "com/example/blindroute/blindroute/lp/SparseLines") (Or.inr (hw _ (List.mem_of_getElem? (i := 21) rfl))) (Or.inr (hw _ (List.mem_of_getElem? (i := 25) rfl))) (by decide) (t := (.array .int)) (t' := (.array .double)) (by decide) (by decide))))
  have f31 := (Fw22.other W27 (Or.inr (slot_ne (C := "com/example/blindroute/blindroute/lp/SparseLines") (Or.inr (hw _ (List.mem_of_getElem? (i := 23) rfl))) (Or.inr (hw _ (List.mem_of_getElem? (i := 25) rfl))) (by decide) (t := (.array .int)) (t' := (.array .double)) (by decide) (by decide))))
  obtain ⟨fs, hr, hrun, hended, hW, hsame⟩ := X27.leave (v := none) (fun h => by first | rfl | (rw [Bd.returns] at h; cases h))
  refine ⟨_, _, S28 _ ?_, hrun, hended, _, _, rfl, ?_, ⟨_, rfl⟩, hW, hsame.mono (by decide) (by decide)⟩
  · exact X27.returnOut hx Bd.returns (hb hby d3_19) hr
  · show Q_init Z a p1 p2 p3 h0 n0 _ T27.heap _
    rw [e27]
    exact ⟨rfl, N27, K27, f29, f30, f31, Fw27⟩
theorem ef_dot (m : MethodId) (x0 : Addr) (x1 : Int32) (x2 : Addr) : entryFrame m #[(.ref x0), (.int x1), (.ref x2)] 7 = mkF m 0 #[.val (.ref x0), .val (.int x1), .val (.ref x2), .unset, .unset, .unset, .unset] [] := by first | (simp [entryFrame, mkF, argsToLocals, Value.category]; done) | rfl
theorem pn_dot : plainName "com/example/blindroute/blindroute/lp/SparseLines" = true := by first | (simp [plainName, overriddenIn]; done) | decide +kernel
def Q_dot (Z : State) (lv : List Int64) (ps : List Int32) (lc : List Int64) (lo : Int32) (hi : Int32) (h0 : Heap) (n0 : Nat) (v : Option Value) (h : Heap) (L : List Loc) : Prop := ∃ r, v = some (.double r) ∧ FP.Core.DInt (own_e (fun q => own_M lv ps lc q) lo hi) r ∧ Fr n0 L ∧ h = h0
set_option maxRecDepth 65536 in
set_option maxHeartbeats 40000000 in
theorem rm_dot (l : Launch) (Z : State) (a0 : Array Value) (hw : ∀ d ∈ tables_1, d.before a0 Z = true) (ws : List Jvm.Cond) (a : Addr) (line : Int32) (b4 : Addr) (b1 : Addr) (b2 : Addr) (b3 : Addr) (k1 : ClassId) (k2 : ClassId) (k3 : ClassId) (k4 : ClassId) (vs1 : List Value) (lv : List Int64) (ps : List Int32) (lc : List Int64) (lo : Int32) (hi : Int32) (h0 : Heap) (n0 : Nat) (Z0 : n0 ≤ h0.size) (F1 : Fld Z h0 a "com/example/blindroute/blindroute/lp/SparseLines" "start" "[I" (.ref b1)) (F2 : Fld Z h0 a "com/example/blindroute/blindroute/lp/SparseLines" "positions" "[I" (.ref b2)) (F3 : Fld Z h0 a "com/example/blindroute/blindroute/lp/SparseLines" "values" "[D" (.ref b3)) (V1 : Arv Z h0 b1 k1 .int (4 : Int32) vs1 (.int (0 : Int32))) (V2 : Arv Z h0 b2 k2 .int (8 : Int32) (ps.map Value.int) (.int (0 : Int32))) (V3 : Arv Z h0 b3 k3 .double (8 : Int32) (lv.map ownD) (.double (0 : UInt64))) (V4 : Arv Z h0 b4 k4 .double (4 : Int32) (lc.map ownD) (.double (0 : UInt64))) (hl : lv.length = 8) (hp : ps.length = 8) (hc : lc.length = 4) (hps : ∀ z ∈ ps, ¬ z < 0 ∧ z < 4) (hlv : ∀ z ∈ lv, -128 ≤ z.toInt ∧ z.toInt ≤ 127) (hlc : ∀ z ∈ lc, -128 ≤ z.toInt ∧ z.toInt ≤ 127) (i0 : ¬ line < 0 ∧ line < 4) (i1 : ¬ (line + (1 : Int32)) < 0 ∧ (line + (1 : Int32)) < 4) (at0 : vs1.getD line.toNatClampNeg (.int (0 : Int32)) = .int lo) (at1 : vs1.getD (line + (1 : Int32)).toNatClampNeg (.int (0 : Int32)) = .int hi) (hlo : 0 ≤ lo.toInt) (hhi : hi.toInt ≤ lo.toInt + 2) (hh8 : hi.toInt ≤ 8) :
    MetFree l (⟨"com/example/blindroute/blindroute/lp/SparseLines", "dot", "(I[D)D"⟩ : MethodName) (head1 (Jvm.Cond.code (⟨"com/example/blindroute/blindroute/lp/SparseLines", "dot", "(I[D)D"⟩ : MethodName) prog_32_method_6_code 7 (some .double) :: ws) ({ frames := 0, cells := 0, slots := 0, locals := 0 } : Room)) (fun aa U => aa = #[(.ref a), (.int line), (.ref b4)] ∧ Z.Warmed39 U.vm ∧ U.heap = h0) (fun _ _ _ _ _ => True) (fun _ U o U' => ∃ v L, o = .returned v ∧ Q_dot Z lv ps lc lo hi h0 n0 v U'.heap L ∧ FrameEnd U o U' L ({ frames := 0, cells := 0, slots := 0, locals := 0 } : Room).cells ({ frames := 0, cells := 0, slots := 0, locals := 0 } : Room).slots) := by
  refine MetFree.of_bodySF (plainFor_of_name pn_dot) hisR ?_
  intro p e s m args below meth c s₁ Bd hml0 hP hK
  obtain ⟨rfl, hZ, hh⟩ := hP
  have hx := Bd.exec
  have hby := Bd.bytes
  have hml : c.maxLocals = 7 := hml0
  have hown : s.vm.findClass "com/example/blindroute/blindroute/lp/SparseLines" = some m.cls := findClass_of_methodNamed Bd.named
  have hnm := (name_of_methodNamed Bd.named Bd.method).1
  have X0 : Stand p l e ({ frames := 0, cells := 0, slots := 0, locals := 0 } : Room) s m #[(.ref a), (.int line), (.ref b4)] below meth c s₁ [] 0 0 := Stand.of_body Bd
  have e0 : s₁.heap = h0 := by rw [← hh, Bd.state]; rfl
  have N0 := Fr.nil n0
  have S0 : Go p e below s₁ (entryFrame m #[(.ref a), (.int line), (.ref b4)] 7) s₁ (mkF m 0 #[.val (.ref a), .val (.int line), .val (.ref b4), .unset, .unset, .unset, .unset] []) := fun t k => castTop (ef_dot m a line b4) k
  have S32 : Go p e below s₁ (entryFrame m #[(.ref a), (.int line), (.ref b4)] 7) s₁ (mkF m 1 #[.val (.ref a), .val (.int line), .val (.ref b4), .unset, .unset, .unset, .unset] [(.ref a)]) := fun t kt => S0 t (by
    refine XS.aloadN X0.here hx rfl (hb hby d5_0) rfl rfl ?_
    show Steps p.tables e below (s₁.setTop (mkF m 1 #[.val (.ref a), .val (.int line), .val (.ref b4), .unset, .unset, .unset, .unset] [(.ref a)])) _
    exact kt)
  clear S0
  obtain ⟨T33, X33, e33, st33⟩ := getF X0 hx hZ hown (host := "") (Or.inl (hw _ (List.mem_of_getElem? (i := 20) rfl))) Via.refl e0 F1 (g := (mkF m 1 #[.val (.ref a), .val (.int line), .val (.ref b4), .unset, .unset, .unset, .unset] [(.ref a)])) rfl rfl (hb hby d5_1)
  have S34 : Go p e below s₁ (entryFrame m #[(.ref a), (.int line), (.ref b4)] 7) T33 (mkF m 4 #[.val (.ref a), .val (.int line), .val (.ref b4), .unset, .unset, .unset, .unset] [(.ref b1)]) := fun t kt => S32 t (st33 t kt)
  clear S32 st33 X0 e0
  have S35 : Go p e below s₁ (entryFrame m #[(.ref a), (.int line), (.ref b4)] 7) T33 (mkF m 7 #[.val (.ref a), .val (.int line), .val (.ref b4), .unset, .unset, .unset, .unset] [(.int (line + (1 : Int32))), (.ref b1)]) := fun t kt => S34 t (by
    refine XS.iloadN X33.here hx rfl (hb hby d5_4) rfl ?_
    show Steps p.tables e below (T33.setTop (mkF m 5 #[.val (.ref a), .val (.int line), .val (.ref b4), .unset, .unset, .unset, .unset] [(.int line), (.ref b1)])) _
    refine XS.iconst X33.here hx rfl (hb hby d5_5) ?_
    show Steps p.tables e below (T33.setTop (mkF m 6 #[.val (.ref a), .val (.int line), .val (.ref b4), .unset, .unset, .unset, .unset] [(.int (1 : Int32)), (.int line), (.ref b1)])) _
    refine XS.iadd X33.here hx rfl (hb hby d5_6) rfl ?_
    show Steps p.tables e below (T33.setTop (mkF m 7 #[.val (.ref a), .val (.int line), .val (.ref b4), .unset, .unset, .unset, .unset] [(.int (line + (1 : Int32))), (.ref b1)])) _
    exact kt)
  clear S34
  obtain ⟨co36, Ao36, qo36, So36, No36, Ho36, Go36⟩ := id V1
  have hino36 : ¬ ((line + (1 : Int32)) < 0 ∨ co36.slots.size ≤ ((line + (1 : Int32))).toNatClampNeg) := inb_of So36 i1
  have hato36 : co36.slots[((line + (1 : Int32))).toNatClampNeg]? = some (.int hi) := Has.at Ho36 hino36 at1
  have S37 : Go p e below s₁ (entryFrame m #[(.ref a), (.int line), (.ref b4)] 7) T33 (mkF m 13 #[.val (.ref a), .val (.int line), .val (.ref b4), .val (.int hi), .val (.double (0 : UInt64)), .second, .unset] [(.ref a)]) := fun t kt => S35 t (by
    refine X33.iaload hx (j := (line + (1 : Int32))) (v := (.int hi)) (by rw [e33]; exact Ao36.1) (State.isArrayOf_alike hZ.alike Ao36.2.1) Ao36.2.2 hino36 hato36 (g := (mkF m 7 #[.val (.ref a), .val (.int line), .val (.ref b4), .unset, .unset, .unset, .unset] [(.int (line + (1 : Int32))), (.ref b1)])) rfl rfl (hb hby d5_7) _ ?_
    show Steps p.tables e below (T33.setTop (mkF m 8 #[.val (.ref a), .val (.int line), .val (.ref b4), .unset, .unset, .unset, .unset] [(.int hi)])) _
    refine XS.istoreN X33.here hx rfl (hb hby d5_8) rfl (l' := #[.val (.ref a), .val (.int line), .val (.ref b4), .val (.int hi), .unset, .unset, .unset]) rfl ?_
    show Steps p.tables e below (T33.setTop (mkF m 9 #[.val (.ref a), .val (.int line), .val (.ref b4), .val (.int hi), .unset, .unset, .unset] [])) _
    refine XS.dconst0 X33.here hx rfl (hb hby d5_9) rfl ?_
    show Steps p.tables e below (T33.setTop (mkF m 10 #[.val (.ref a), .val (.int line), .val (.ref b4), .val (.int hi), .unset, .unset, .unset] [(.double (0 : UInt64))])) _
    refine XS.dstore X33.here hx rfl (hb hby d5_10) rfl (l' := #[.val (.ref a), .val (.int line), .val (.ref b4), .val (.int hi), .val (.double (0 : UInt64)), .second, .unset]) rfl ?_
    show Steps p.tables e below (T33.setTop (mkF m 12 #[.val (.ref a), .val (.int line), .val (.ref b4), .val (.int hi), .val (.double (0 : UInt64)), .second, .unset] [])) _
    refine XS.aloadN X33.here hx rfl (hb hby d5_12) rfl rfl ?_
    show Steps p.tables e below (T33.setTop (mkF m 13 #[.val (.ref a), .val (.int line), .val (.ref b4), .val (.int hi), .val (.double (0 : UInt64)), .second, .unset] [(.ref a)])) _
    exact kt)
  clear S35
  obtain ⟨T38, X38, e38, st38⟩ := getF X33 hx hZ hown (host := "") (Or.inl (hw _ (List.mem_of_getElem? (i := 20) rfl))) Via.refl e33 F1 (g := (mkF m 13 #[.val (.ref a), .val (.int line), .val (.ref b4), .val (.int hi), .val (.double (0 : UInt64)), .second, .unset] [(.ref a)])) rfl rfl (hb hby d5_13)
  have S39 : Go p e below s₁ (entryFrame m #[(.ref a), (.int line), (.ref b4)] 7) T38 (mkF m 16 #[.val (.ref a), .val (.int line), .val (.ref b4), .val (.int hi), .val (.double (0 : UInt64)), .second, .unset] [(.ref b1)]) := fun t kt => S37 t (st38 t kt)
  clear S37 st38 X33 e33
  have S40 : Go p e below s₁ (entryFrame m #[(.ref a), (.int line), (.ref b4)] 7) T38 (mkF m 17 #[.val (.ref a), .val (.int line), .val (.ref b4), .val (.int hi), .val (.double (0 : UInt64)), .second, .unset] [(.int line), (.ref b1)]) := fun t kt => S39 t (by
    refine XS.iloadN X38.here hx rfl (hb hby d5_16) rfl ?_
    show Steps p.tables e below (T38.setTop (mkF m 17 #[.val (.ref a), .val (.int line), .val (.ref b4), .val (.int hi), .val (.double (0 : UInt64)), .second, .unset] [(.int line), (.ref b1)])) _
    exact kt)
  clear S39
  obtain ⟨co41, Ao41, qo41, So41, No41, Ho41, Go41⟩ := id V1
  have hino41 : ¬ (line < 0 ∨ co41.slots.size ≤ (line).toNatClampNeg) := inb_of So41 i0
  have hato41 : co41.slots[(line).toNatClampNeg]? = some (.int lo) := Has.at Ho41 hino41 at0
  have S42 : Go p e below s₁ (entryFrame m #[(.ref a), (.int line), (.ref b4)] 7) T38 (mkF m 23 #[.val (.ref a), .val (.int line), .val (.ref b4), .val (.int hi), .val (.double (0 : UInt64)), .second, .val (.int lo)] [(.int hi), (.int lo)]) := fun t kt => S40 t (by
    refine X38.iaload hx (j := line) (v := (.int lo)) (by rw [e38]; exact Ao41.1) (State.isArrayOf_alike hZ.alike Ao41.2.1) Ao41.2.2 hino41 hato41 (g := (mkF m 17 #[.val (.ref a), .val (.int line), .val (.ref b4), .val (.int hi), .val (.double (0 : UInt64)), .second, .unset] [(.int line), (.ref b1)])) rfl rfl (hb hby d5_17) _ ?_
    show Steps p.tables e below (T38.setTop (mkF m 18 #[.val (.ref a), .val (.int line), .val (.ref b4), .val (.int hi), .val (.double (0 : UInt64)), .second, .unset] [(.int lo)])) _
    refine XS.istore X38.here hx rfl (hb hby d5_18) rfl (l' := #[.val (.ref a), .val (.int line), .val (.ref b4), .val (.int hi), .val (.double (0 : UInt64)), .second, .val (.int lo)]) rfl ?_
    show Steps p.tables e below (T38.setTop (mkF m 20 #[.val (.ref a), .val (.int line), .val (.ref b4), .val (.int hi), .val (.double (0 : UInt64)), .second, .val (.int lo)] [])) _
    refine XS.iload X38.here hx rfl (hb hby d5_20) rfl ?_
    show Steps p.tables e below (T38.setTop (mkF m 22 #[.val (.ref a), .val (.int line), .val (.ref b4), .val (.int hi), .val (.double (0 : UInt64)), .second, .val (.int lo)] [(.int lo)])) _
    refine XS.iloadN X38.here hx rfl (hb hby d5_22) rfl ?_
    show Steps p.tables e below (T38.setTop (mkF m 23 #[.val (.ref a), .val (.int line), .val (.ref b4), .val (.int hi), .val (.double (0 : UInt64)), .second, .val (.int lo)] [(.int hi), (.int lo)])) _
    exact kt)
  clear S40
  by_cases h1 : lo < hi
  · have hq1 : ¬ lo < 0 ∧ lo < 8 := own_rg1 hlo hhi hh8 h1
    have hq81 := own_ix (n := 8) hq1 (by decide)
    have hpq1 : ¬ (ps.getD (lo).toNatClampNeg (0 : Int32)) < 0 ∧ (ps.getD (lo).toNatClampNeg (0 : Int32)) < 4 := hps _ (own_mem (by rw [hp]; exact hq81))
    have hp41 := own_ix (n := 4) hpq1 (by decide)
    have dm1 := own_dm (hlv _ (own_mem (d := 0) (by rw [hl]; exact hq81))) (hlc _ (own_mem (d := 0) (by rw [hc]; exact hp41)))
    have ds1 := own_ds own_d0 dm1 (by omega)
    have S44 : Go p e below s₁ (entryFrame m #[(.ref a), (.int line), (.ref b4)] 7) T38 (mkF m 29 #[.val (.ref a), .val (.int line), .val (.ref b4), .val (.int hi), .val (.double (0 : UInt64)), .second, .val (.int lo)] [(.ref a), (.double (0 : UInt64))]) := fun t kt => S42 t (by
      refine XS.icmpNo X38.here hx rfl (hb hby d5_23) rfl (tlt (show lo < hi from h1)).2.1 ?_
      show Steps p.tables e below (T38.setTop (mkF m 26 #[.val (.ref a), .val (.int line), .val (.ref b4), .val (.int hi), .val (.double (0 : UInt64)), .second, .val (.int lo)] [])) _
      refine XS.dload X38.here hx rfl (hb hby d5_26) rfl ?_
      show Steps p.tables e below (T38.setTop (mkF m 28 #[.val (.ref a), .val (.int line), .val (.ref b4), .val (.int hi), .val (.double (0 : UInt64)), .second, .val (.int lo)] [(.double (0 : UInt64))])) _
      refine XS.aloadN X38.here hx rfl (hb hby d5_28) rfl rfl ?_
      show Steps p.tables e below (T38.setTop (mkF m 29 #[.val (.ref a), .val (.int line), .val (.ref b4), .val (.int hi), .val (.double (0 : UInt64)), .second, .val (.int lo)] [(.ref a), (.double (0 : UInt64))])) _
      exact kt)
    clear S42
    obtain ⟨T45, X45, e45, st45⟩ := getF X38 hx hZ hown (host := "") (Or.inl (hw _ (List.mem_of_getElem? (i := 24) rfl))) Via.refl e38 F3 (g := (mkF m 29 #[.val (.ref a), .val (.int line), .val (.ref b4), .val (.int hi), .val (.double (0 : UInt64)), .second, .val (.int lo)] [(.ref a), (.double (0 : UInt64))])) rfl rfl (hb hby d5_29)
    have S46 : Go p e below s₁ (entryFrame m #[(.ref a), (.int line), (.ref b4)] 7) T45 (mkF m 32 #[.val (.ref a), .val (.int line), .val (.ref b4), .val (.int hi), .val (.double (0 : UInt64)), .second, .val (.int lo)] [(.ref b3), (.double (0 : UInt64))]) := fun t kt => S44 t (st45 t kt)
    clear S44 st45 X38 e38
    have S47 : Go p e below s₁ (entryFrame m #[(.ref a), (.int line), (.ref b4)] 7) T45 (mkF m 34 #[.val (.ref a), .val (.int line), .val (.ref b4), .val (.int hi), .val (.double (0 : UInt64)), .second, .val (.int lo)] [(.int lo), (.ref b3), (.double (0 : UInt64))]) := fun t kt => S46 t (by
      refine XS.iload X45.here hx rfl (hb hby d5_32) rfl ?_
      show Steps p.tables e below (T45.setTop (mkF m 34 #[.val (.ref a), .val (.int line), .val (.ref b4), .val (.int hi), .val (.double (0 : UInt64)), .second, .val (.int lo)] [(.int lo), (.ref b3), (.double (0 : UInt64))])) _
      exact kt)
    clear S46
    obtain ⟨co48, Ao48, qo48, So48, No48, Ho48, Go48⟩ := id V3
    have hino48 : ¬ (lo < 0 ∨ co48.slots.size ≤ (lo).toNatClampNeg) := inb_of So48 hq1
    have hato48 : co48.slots[(lo).toNatClampNeg]? = some (.double (FP.l2d (lv.getD (lo).toNatClampNeg (0 : Int64)))) := Has.at Ho48 hino48 (own_at _ _ _ (0 : Int64) _ (by rw [hl]; exact hq81))
    have S49 : Go p e below s₁ (entryFrame m #[(.ref a), (.int line), (.ref b4)] 7) T45 (mkF m 37 #[.val (.ref a), .val (.int line), .val (.ref b4), .val (.int hi), .val (.double (0 : UInt64)), .second, .val (.int lo)] [(.ref a), (.ref b4), (.double (FP.l2d (lv.getD (lo).toNatClampNeg (0 : Int64)))), (.double (0 : UInt64))]) := fun t kt => S47 t (by
      refine X45.daload hx (j := lo) (v := (.double (FP.l2d (lv.getD (lo).toNatClampNeg (0 : Int64))))) (by rw [e45]; exact Ao48.1) (State.isArrayOf_alike hZ.alike Ao48.2.1) Ao48.2.2 hino48 hato48 (g := (mkF m 34 #[.val (.ref a), .val (.int line), .val (.ref b4), .val (.int hi), .val (.double (0 : UInt64)), .second, .val (.int lo)] [(.int lo), (.ref b3), (.double (0 : UInt64))])) rfl rfl (hb hby d5_34) _ ?_
      show Steps p.tables e below (T45.setTop (mkF m 35 #[.val (.ref a), .val (.int line), .val (.ref b4), .val (.int hi), .val (.double (0 : UInt64)), .second, .val (.int lo)] [(.double (FP.l2d (lv.getD (lo).toNatClampNeg (0 : Int64)))), (.double (0 : UInt64))])) _
      refine XS.aloadN X45.here hx rfl (hb hby d5_35) rfl rfl ?_
      show Steps p.tables e below (T45.setTop (mkF m 36 #[.val (.ref a), .val (.int line), .val (.ref b4), .val (.int hi), .val (.double (0 : UInt64)), .second, .val (.int lo)] [(.ref b4), (.double (FP.l2d (lv.getD (lo).toNatClampNeg (0 : Int64)))), (.double (0 : UInt64))])) _
      refine XS.aloadN X45.here hx rfl (hb hby d5_36) rfl rfl ?_
      show Steps p.tables e below (T45.setTop (mkF m 37 #[.val (.ref a), .val (.int line), .val (.ref b4), .val (.int hi), .val (.double (0 : UInt64)), .second, .val (.int lo)] [(.ref a), (.ref b4), (.double (FP.l2d (lv.getD (lo).toNatClampNeg (0 : Int64)))), (.double (0 : UInt64))])) _
      exact kt)
    clear S47
    obtain ⟨T50, X50, e50, st50⟩ := getF X45 hx hZ hown (host := "") (Or.inl (hw _ (List.mem_of_getElem? (i := 22) rfl))) Via.refl e45 F2 (g := (mkF m 37 #[.val (.ref a), .val (.int line), .val (.ref b4), .val (.int hi), .val (.double (0 : UInt64)), .second, .val (.int lo)] [(.ref a), (.ref b4), (.double (FP.l2d (lv.getD (lo).toNatClampNeg (0 : Int64)))), (.double (0 : UInt64))])) rfl rfl (hb hby d5_37)
    have S51 : Go p e below s₁ (entryFrame m #[(.ref a), (.int line), (.ref b4)] 7) T50 (mkF m 40 #[.val (.ref a), .val (.int line), .val (.ref b4), .val (.int hi), .val (.double (0 : UInt64)), .second, .val (.int lo)] [(.ref b2), (.ref b4), (.double (FP.l2d (lv.getD (lo).toNatClampNeg (0 : Int64)))), (.double (0 : UInt64))]) := fun t kt => S49 t (st50 t kt)
    clear S49 st50 X45 e45
    have S52 : Go p e below s₁ (entryFrame m #[(.ref a), (.int line), (.ref b4)] 7) T50 (mkF m 42 #[.val (.ref a), .val (.int line), .val (.ref b4), .val (.int hi), .val (.double (0 : UInt64)), .second, .val (.int lo)] [(.int lo), (.ref b2), (.ref b4), (.double (FP.l2d (lv.getD (lo).toNatClampNeg (0 : Int64)))), (.double (0 : UInt64))]) := fun t kt => S51 t (by
      refine XS.iload X50.here hx rfl (hb hby d5_40) rfl ?_
      show Steps p.tables e below (T50.setTop (mkF m 42 #[.val (.ref a), .val (.int line), .val (.ref b4), .val (.int hi), .val (.double (0 : UInt64)), .second, .val (.int lo)] [(.int lo), (.ref b2), (.ref b4), (.double (FP.l2d (lv.getD (lo).toNatClampNeg (0 : Int64)))), (.double (0 : UInt64))])) _
      exact kt)
    clear S51
    obtain ⟨co53, Ao53, qo53, So53, No53, Ho53, Go53⟩ := id V2
    have hino53 : ¬ (lo < 0 ∨ co53.slots.size ≤ (lo).toNatClampNeg) := inb_of So53 hq1
    have hato53 : co53.slots[(lo).toNatClampNeg]? = some (.int (ps.getD (lo).toNatClampNeg (0 : Int32))) := Has.at Ho53 hino53 (own_at _ _ _ (0 : Int32) _ (by rw [hp]; exact hq81))
    have S54 : Go p e below s₁ (entryFrame m #[(.ref a), (.int line), (.ref b4)] 7) T50 (mkF m 43 #[.val (.ref a), .val (.int line), .val (.ref b4), .val (.int hi), .val (.double (0 : UInt64)), .second, .val (.int lo)] [(.int (ps.getD (lo).toNatClampNeg (0 : Int32))), (.ref b4), (.double (FP.l2d (lv.getD (lo).toNatClampNeg (0 : Int64)))), (.double (0 : UInt64))]) := fun t kt => S52 t (by
      refine X50.iaload hx (j := lo) (v := (.int (ps.getD (lo).toNatClampNeg (0 : Int32)))) (by rw [e50]; exact Ao53.1) (State.isArrayOf_alike hZ.alike Ao53.2.1) Ao53.2.2 hino53 hato53 (g := (mkF m 42 #[.val (.ref a), .val (.int line), .val (.ref b4), .val (.int hi), .val (.double (0 : UInt64)), .second, .val (.int lo)] [(.int lo), (.ref b2), (.ref b4), (.double (FP.l2d (lv.getD (lo).toNatClampNeg (0 : Int64)))), (.double (0 : UInt64))])) rfl rfl (hb hby d5_42) _ ?_
      show Steps p.tables e below (T50.setTop (mkF m 43 #[.val (.ref a), .val (.int line), .val (.ref b4), .val (.int hi), .val (.double (0 : UInt64)), .second, .val (.int lo)] [(.int (ps.getD (lo).toNatClampNeg (0 : Int32))), (.ref b4), (.double (FP.l2d (lv.getD (lo).toNatClampNeg (0 : Int64)))), (.double (0 : UInt64))])) _
      exact kt)
    clear S52
    obtain ⟨co55, Ao55, qo55, So55, No55, Ho55, Go55⟩ := id V4
    have hino55 : ¬ ((ps.getD (lo).toNatClampNeg (0 : Int32)) < 0 ∨ co55.slots.size ≤ ((ps.getD (lo).toNatClampNeg (0 : Int32))).toNatClampNeg) := inb_of So55 hpq1
    have hato55 : co55.slots[((ps.getD (lo).toNatClampNeg (0 : Int32))).toNatClampNeg]? = some (.double (FP.l2d (lc.getD ((ps.getD (lo).toNatClampNeg (0 : Int32))).toNatClampNeg (0 : Int64)))) := Has.at Ho55 hino55 (own_at _ _ _ (0 : Int64) _ (by rw [hc]; exact hp41))
    have S56 : Go p e below s₁ (entryFrame m #[(.ref a), (.int line), (.ref b4)] 7) T50 (mkF m 23 #[.val (.ref a), .val (.int line), .val (.ref b4), .val (.int hi), .val (.double (FP.dadd (0 : UInt64) (FP.dmul (FP.l2d (lv.getD (lo).toNatClampNeg (0 : Int64))) (FP.l2d (lc.getD ((ps.getD (lo).toNatClampNeg (0 : Int32))).toNatClampNeg (0 : Int64)))))), .second, .val (.int (lo + (1 : Int32)))] [(.int hi), (.int (lo + (1 : Int32)))]) := fun t kt => S54 t (by
      refine X50.daload hx (j := (ps.getD (lo).toNatClampNeg (0 : Int32))) (v := (.double (FP.l2d (lc.getD ((ps.getD (lo).toNatClampNeg (0 : Int32))).toNatClampNeg (0 : Int64))))) (by rw [e50]; exact Ao55.1) (State.isArrayOf_alike hZ.alike Ao55.2.1) Ao55.2.2 hino55 hato55 (g := (mkF m 43 #[.val (.ref a), .val (.int line), .val (.ref b4), .val (.int hi), .val (.double (0 : UInt64)), .second, .val (.int lo)] [(.int (ps.getD (lo).toNatClampNeg (0 : Int32))), (.ref b4), (.double (FP.l2d (lv.getD (lo).toNatClampNeg (0 : Int64)))), (.double (0 : UInt64))])) rfl rfl (hb hby d5_43) _ ?_
      show Steps p.tables e below (T50.setTop (mkF m 44 #[.val (.ref a), .val (.int line), .val (.ref b4), .val (.int hi), .val (.double (0 : UInt64)), .second, .val (.int lo)] [(.double (FP.l2d (lc.getD ((ps.getD (lo).toNatClampNeg (0 : Int32))).toNatClampNeg (0 : Int64)))), (.double (FP.l2d (lv.getD (lo).toNatClampNeg (0 : Int64)))), (.double (0 : UInt64))])) _
      refine XS.dmulS X50.here hx rfl (hb hby d5_44) rfl (own_nn dm1.1) rfl ?_
      show Steps p.tables e below (T50.setTop (mkF m 45 #[.val (.ref a), .val (.int line), .val (.ref b4), .val (.int hi), .val (.double (0 : UInt64)), .second, .val (.int lo)] [(.double (FP.dmul (FP.l2d (lv.getD (lo).toNatClampNeg (0 : Int64))) (FP.l2d (lc.getD ((ps.getD (lo).toNatClampNeg (0 : Int32))).toNatClampNeg (0 : Int64))))), (.double (0 : UInt64))])) _
      refine XS.daddS X50.here hx rfl (hb hby d5_45) rfl (own_nn ds1) rfl ?_
      show Steps p.tables e below (T50.setTop (mkF m 46 #[.val (.ref a), .val (.int line), .val (.ref b4), .val (.int hi), .val (.double (0 : UInt64)), .second, .val (.int lo)] [(.double (FP.dadd (0 : UInt64) (FP.dmul (FP.l2d (lv.getD (lo).toNatClampNeg (0 : Int64))) (FP.l2d (lc.getD ((ps.getD (lo).toNatClampNeg (0 : Int32))).toNatClampNeg (0 : Int64))))))])) _
      refine XS.dstore X50.here hx rfl (hb hby d5_46) rfl (l' := #[.val (.ref a), .val (.int line), .val (.ref b4), .val (.int hi), .val (.double (FP.dadd (0 : UInt64) (FP.dmul (FP.l2d (lv.getD (lo).toNatClampNeg (0 : Int64))) (FP.l2d (lc.getD ((ps.getD (lo).toNatClampNeg (0 : Int32))).toNatClampNeg (0 : Int64)))))), .second, .val (.int lo)]) rfl ?_
      show Steps p.tables e below (T50.setTop (mkF m 48 #[.val (.ref a), .val (.int line), .val (.ref b4), .val (.int hi), .val (.double (FP.dadd (0 : UInt64) (FP.dmul (FP.l2d (lv.getD (lo).toNatClampNeg (0 : Int64))) (FP.l2d (lc.getD ((ps.getD (lo).toNatClampNeg (0 : Int32))).toNatClampNeg (0 : Int64)))))), .second, .val (.int lo)] [])) _
      refine XS.iinc X50.here hx rfl (hb hby d5_48) rfl (l' := #[.val (.ref a), .val (.int line), .val (.ref b4), .val (.int hi), .val (.double (FP.dadd (0 : UInt64) (FP.dmul (FP.l2d (lv.getD (lo).toNatClampNeg (0 : Int64))) (FP.l2d (lc.getD ((ps.getD (lo).toNatClampNeg (0 : Int32))).toNatClampNeg (0 : Int64)))))), .second, .val (.int (lo + (1 : Int32)))]) rfl ?_
      show Steps p.tables e below (T50.setTop (mkF m 51 #[.val (.ref a), .val (.int line), .val (.ref b4), .val (.int hi), .val (.double (FP.dadd (0 : UInt64) (FP.dmul (FP.l2d (lv.getD (lo).toNatClampNeg (0 : Int64))) (FP.l2d (lc.getD ((ps.getD (lo).toNatClampNeg (0 : Int32))).toNatClampNeg (0 : Int64)))))), .second, .val (.int (lo + (1 : Int32)))] [])) _
      refine XS.goto X50.here hx rfl (pc0 := 51) (pc' := 20) rfl (hb hby d5_51) (by decide) (by decide) ?_
      show Steps p.tables e below (T50.setTop (mkF m 20 #[.val (.ref a), .val (.int line), .val (.ref b4), .val (.int hi), .val (.double (FP.dadd (0 : UInt64) (FP.dmul (FP.l2d (lv.getD (lo).toNatClampNeg (0 : Int64))) (FP.l2d (lc.getD ((ps.getD (lo).toNatClampNeg (0 : Int32))).toNatClampNeg (0 : Int64)))))), .second, .val (.int (lo + (1 : Int32)))] [])) _
      refine XS.iload X50.here hx rfl (hb hby d5_20) rfl ?_
      show Steps p.tables e below (T50.setTop (mkF m 22 #[.val (.ref a), .val (.int line), .val (.ref b4), .val (.int hi), .val (.double (FP.dadd (0 : UInt64) (FP.dmul (FP.l2d (lv.getD (lo).toNatClampNeg (0 : Int64))) (FP.l2d (lc.getD ((ps.getD (lo).toNatClampNeg (0 : Int32))).toNatClampNeg (0 : Int64)))))), .second, .val (.int (lo + (1 : Int32)))] [(.int (lo + (1 : Int32)))])) _
      refine XS.iloadN X50.here hx rfl (hb hby d5_22) rfl ?_
      show Steps p.tables e below (T50.setTop (mkF m 23 #[.val (.ref a), .val (.int line), .val (.ref b4), .val (.int hi), .val (.double (FP.dadd (0 : UInt64) (FP.dmul (FP.l2d (lv.getD (lo).toNatClampNeg (0 : Int64))) (FP.l2d (lc.getD ((ps.getD (lo).toNatClampNeg (0 : Int32))).toNatClampNeg (0 : Int64)))))), .second, .val (.int (lo + (1 : Int32)))] [(.int hi), (.int (lo + (1 : Int32)))])) _
      exact kt)
    clear S54
    by_cases h2 : (lo + (1 : Int32)) < hi
    · have hq2 : ¬ (lo + (1 : Int32)) < 0 ∧ (lo + (1 : Int32)) < 8 := own_rg2 hlo hhi hh8 h1 h2
      have hq82 := own_ix (n := 8) hq2 (by decide)
      have hpq2 : ¬ (ps.getD ((lo + (1 : Int32))).toNatClampNeg (0 : Int32)) < 0 ∧ (ps.getD ((lo + (1 : Int32))).toNatClampNeg (0 : Int32)) < 4 := hps _ (own_mem (by rw [hp]; exact hq82))
      have hp42 := own_ix (n := 4) hpq2 (by decide)
      have dm2 := own_dm (hlv _ (own_mem (d := 0) (by rw [hl]; exact hq82))) (hlc _ (own_mem (d := 0) (by rw [hc]; exact hp42)))
      have ds2 := own_ds ds1 dm2 (by have := own_mb (hlv _ (own_mem (d := 0) (by rw [hl]; exact hq81))) (hlc _ (own_mem (d := 0) (by rw [hc]; exact hp41))); omega)
      have S58 : Go p e below s₁ (entryFrame m #[(.ref a), (.int line), (.ref b4)] 7) T50 (mkF m 29 #[.val (.ref a), .val (.int line), .val (.ref b4), .val (.int hi), .val (.double (FP.dadd (0 : UInt64) (FP.dmul (FP.l2d (lv.getD (lo).toNatClampNeg (0 : Int64))) (FP.l2d (lc.getD ((ps.getD (lo).toNatClampNeg (0 : Int32))).toNatClampNeg (0 : Int64)))))), .second, .val (.int (lo + (1 : Int32)))] [(.ref a), (.double (FP.dadd (0 : UInt64) (FP.dmul (FP.l2d (lv.getD (lo).toNatClampNeg (0 : Int64))) (FP.l2d (lc.getD ((ps.getD (lo).toNatClampNeg (0 : Int32))).toNatClampNeg (0 : Int64))))))]) := fun t kt => S56 t (by
        refine XS.icmpNo X50.here hx rfl (hb hby d5_23) rfl (tlt (show (lo + (1 : Int32)) < hi from h2)).2.1 ?_
        show Steps p.tables e below (T50.setTop (mkF m 26 #[.val (.ref a), .val (.int line), .val (.ref b4), .val (.int hi), .val (.double (FP.dadd (0 : UInt64) (FP.dmul (FP.l2d (lv.getD (lo).toNatClampNeg (0 : Int64))) (FP.l2d (lc.getD ((ps.getD (lo).toNatClampNeg (0 : Int32))).toNatClampNeg (0 : Int64)))))), .second, .val (.int (lo + (1 : Int32)))] [])) _
        refine XS.dload X50.here hx rfl (hb hby d5_26) rfl ?_
        show Steps p.tables e below (T50.setTop (mkF m 28 #[.val (.ref a), .val (.int line), .val (.ref b4), .val (.int hi), .val (.double (FP.dadd (0 : UInt64) (FP.dmul (FP.l2d (lv.getD (lo).toNatClampNeg (0 : Int64))) (FP.l2d (lc.getD ((ps.getD (lo).toNatClampNeg (0 : Int32))).toNatClampNeg (0 : Int64)))))), .second, .val (.int (lo + (1 : Int32)))] [(.double (FP.dadd (0 : UInt64) (FP.dmul (FP.l2d (lv.getD (lo).toNatClampNeg (0 : Int64))) (FP.l2d (lc.getD ((ps.getD (lo).toNatClampNeg (0 : Int32))).toNatClampNeg (0 : Int64))))))])) _
        refine XS.aloadN X50.here hx rfl (hb hby d5_28) rfl rfl ?_
        show Steps p.tables e below (T50.setTop (mkF m 29 #[.val (.ref a), .val (.int line), .val (.ref b4), .val (.int hi), .val (.double (FP.dadd (0 : UInt64) (FP.dmul (FP.l2d (lv.getD (lo).toNatClampNeg (0 : Int64))) (FP.l2d (lc.getD ((ps.getD (lo).toNatClampNeg (0 : Int32))).toNatClampNeg (0 : Int64)))))), .second, .val (.int (lo + (1 : Int32)))] [(.ref a), (.double (FP.dadd (0 : UInt64) (FP.dmul (FP.l2d (lv.getD (lo).toNatClampNeg (0 : Int64))) (FP.l2d (lc.getD ((ps.getD (lo).toNatClampNeg (0 : Int32))).toNatClampNeg (0 : Int64))))))])) _
        exact kt)
      clear S56
      obtain ⟨T59, X59, e59, st59⟩ := getF X50 hx hZ hown (host := "") (Or.inl (hw _ (List.mem_of_getElem? (i := 24) rfl))) Via.refl e50 F3 (g := (mkF m 29 #[.val (.ref a), .val (.int line), .val (.ref b4), .val (.int hi), .val (.double (FP.dadd (0 : UInt64) (FP.dmul (FP.l2d (lv.getD (lo).toNatClampNeg (0 : Int64))) (FP.l2d (lc.getD ((ps.getD (lo).toNatClampNeg (0 : Int32))).toNatClampNeg (0 : Int64)))))), .second, .val (.int (lo + (1 : Int32)))] [(.ref a), (.double (FP.dadd (0 : UInt64) (FP.dmul (FP.l2d (lv.getD (lo).toNatClampNeg (0 : Int64))) (FP.l2d (lc.getD ((ps.getD (lo).toNatClampNeg (0 : Int32))).toNatClampNeg (0 : Int64))))))])) rfl rfl (hb hby d5_29)
      have S60 : Go p e below s₁ (entryFrame m #[(.ref a), (.int line), (.ref b4)] 7) T59 (mkF m 32 #[.val (.ref a), .val (.int line), .val (.ref b4), .val (.int hi), .val (.double (FP.dadd (0 : UInt64) (FP.dmul (FP.l2d (lv.getD (lo).toNatClampNeg (0 : Int64))) (FP.l2d (lc.getD ((ps.getD (lo).toNatClampNeg (0 : Int32))).toNatClampNeg (0 : Int64)))))), .second, .val (.int (lo + (1 : Int32)))] [(.ref b3), (.double (FP.dadd (0 : UInt64) (FP.dmul (FP.l2d (lv.getD (lo).toNatClampNeg (0 : Int64))) (FP.l2d (lc.getD ((ps.getD (lo).toNatClampNeg (0 : Int32))).toNatClampNeg (0 : Int64))))))]) := fun t kt => S58 t (st59 t kt)
      clear S58 st59 X50 e50
      have S61 : Go p e below s₁ (entryFrame m #[(.ref a), (.int line), (.ref b4)] 7) T59 (mkF m 34 #[.val (.ref a), .val (.int line), .val (.ref b4), .val (.int hi), .val (.double (FP.dadd (0 : UInt64) (FP.dmul (FP.l2d (lv.getD (lo).toNatClampNeg (0 : Int64))) (FP.l2d (lc.getD ((ps.getD (lo).toNatClampNeg (0 : Int32))).toNatClampNeg (0 : Int64)))))), .second, .val (.int (lo + (1 : Int32)))] [(.int (lo + (1 : Int32))), (.ref b3), (.double (FP.dadd (0 : UInt64) (FP.dmul (FP.l2d (lv.getD (lo).toNatClampNeg (0 : Int64))) (FP.l2d (lc.getD ((ps.getD (lo).toNatClampNeg (0 : Int32))).toNatClampNeg (0 : Int64))))))]) := fun t kt => S60 t (by
        refine XS.iload X59.here hx rfl (hb hby d5_32) rfl ?_
        show Steps p.tables e below (T59.setTop (mkF m 34 #[.val (.ref a), .val (.int line), .val (.ref b4), .val (.int hi), .val (.double (FP.dadd (0 : UInt64) (FP.dmul (FP.l2d (lv.getD (lo).toNatClampNeg (0 : Int64))) (FP.l2d (lc.getD ((ps.getD (lo).toNatClampNeg (0 : Int32))).toNatClampNeg (0 : Int64)))))), .second, .val (.int (lo + (1 : Int32)))] [(.int (lo + (1 : Int32))), (.ref b3), (.double (FP.dadd (0 : UInt64) (FP.dmul (FP.l2d (lv.getD (lo).toNatClampNeg (0 : Int64))) (FP.l2d (lc.getD ((ps.getD (lo).toNatClampNeg (0 : Int32))).toNatClampNeg (0 : Int64))))))])) _
        exact kt)
      clear S60
      obtain ⟨co62, Ao62, qo62, So62, No62, Ho62, Go62⟩ := id V3
      have hino62 : ¬ ((lo + (1 : Int32)) < 0 ∨ co62.slots.size ≤ ((lo + (1 : Int32))).toNatClampNeg) := inb_of So62 hq2
      have hato62 : co62.slots[((lo + (1 : Int32))).toNatClampNeg]? = some (.double (FP.l2d (lv.getD ((lo + (1 : Int32))).toNatClampNeg (0 : Int64)))) := Has.at Ho62 hino62 (own_at _ _ _ (0 : Int64) _ (by rw [hl]; exact hq82))
      have S63 : Go p e below s₁ (entryFrame m #[(.ref a), (.int line), (.ref b4)] 7) T59 (mkF m 37 #[.val (.ref a), .val (.int line), .val (.ref b4), .val (.int hi), .val (.double (FP.dadd (0 : UInt64) (FP.dmul (FP.l2d (lv.getD (lo).toNatClampNeg (0 : Int64))) (FP.l2d (lc.getD ((ps.getD (lo).toNatClampNeg (0 : Int32))).toNatClampNeg (0 : Int64)))))), .second, .val (.int (lo + (1 : Int32)))] [(.ref a), (.ref b4), (.double (FP.l2d (lv.getD ((lo + (1 : Int32))).toNatClampNeg (0 : Int64)))), (.double (FP.dadd (0 : UInt64) (FP.dmul (FP.l2d (lv.getD (lo).toNatClampNeg (0 : Int64))) (FP.l2d (lc.getD ((ps.getD (lo).toNatClampNeg (0 : Int32))).toNatClampNeg (0 : Int64))))))]) := fun t kt => S61 t (by
        refine X59.daload hx (j := (lo + (1 : Int32))) (v := (.double (FP.l2d (lv.getD ((lo + (1 : Int32))).toNatClampNeg (0 : Int64))))) (by rw [e59]; exact Ao62.1) (State.isArrayOf_alike hZ.alike Ao62.2.1) Ao62.2.2 hino62 hato62 (g := (mkF m 34 #[.val (.ref a), .val (.int line), .val (.ref b4), .val (.int hi), .val (.double (FP.dadd (0 : UInt64) (FP.dmul (FP.l2d (lv.getD (lo).toNatClampNeg (0 : Int64))) (FP.l2d (lc.getD ((ps.getD (lo).toNatClampNeg (0 : Int32))).toNatClampNeg (0 : Int64)))))), .second, .val (.int (lo + (1 : Int32)))] [(.int (lo + (1 : Int32))), (.ref b3), (.double (FP.dadd (0 : UInt64) (FP.dmul (FP.l2d (lv.getD (lo).toNatClampNeg (0 : Int64))) (FP.l2d (lc.getD ((ps.getD (lo).toNatClampNeg (0 : Int32))).toNatClampNeg (0 : Int64))))))])) rfl rfl (hb hby d5_34) _ ?_
        show Steps p.tables e below (T59.setTop (mkF m 35 #[.val (.ref a), .val (.int line), .val (.ref b4), .val (.int hi), .val (.double (FP.dadd (0 : UInt64) (FP.dmul (FP.l2d (lv.getD (lo).toNatClampNeg (0 : Int64))) (FP.l2d (lc.getD ((ps.getD (lo).toNatClampNeg (0 : Int32))).toNatClampNeg (0 : Int64)))))), .second, .val (.int (lo + (1 : Int32)))] [(.double (FP.l2d (lv.getD ((lo + (1 : Int32))).toNatClampNeg (0 : Int64)))), (.double (FP.dadd (0 : UInt64) (FP.dmul (FP.l2d (lv.getD (lo).toNatClampNeg (0 : Int64))) (FP.l2d (lc.getD ((ps.getD (lo).toNatClampNeg (0 : Int32))).toNatClampNeg (0 : Int64))))))])) _
        refine XS.aloadN X59.here hx rfl (hb hby d5_35) rfl rfl ?_
        show Steps p.tables e below (T59.setTop (mkF m 36 #[.val (.ref a), .val (.int line), .val (.ref b4), .val (.int hi), .val (.double (FP.dadd (0 : UInt64) (FP.dmul (FP.l2d (lv.getD (lo).toNatClampNeg (0 : Int64))) (FP.l2d (lc.getD ((ps.getD (lo).toNatClampNeg (0 : Int32))).toNatClampNeg (0 : Int64)))))), .second, .val (.int (lo + (1 : Int32)))] [(.ref b4), (.double (FP.l2d (lv.getD ((lo + (1 : Int32))).toNatClampNeg (0 : Int64)))), (.double (FP.dadd (0 : UInt64) (FP.dmul (FP.l2d (lv.getD (lo).toNatClampNeg (0 : Int64))) (FP.l2d (lc.getD ((ps.getD (lo).toNatClampNeg (0 : Int32))).toNatClampNeg (0 : Int64))))))])) _
        refine XS.aloadN X59.here hx rfl (hb hby d5_36) rfl rfl ?_
        show Steps p.tables e below (T59.setTop (mkF m 37 #[.val (.ref a), .val (.int line), .val (.ref b4), .val (.int hi), .val (.double (FP.dadd (0 : UInt64) (FP.dmul (FP.l2d (lv.getD (lo).toNatClampNeg (0 : Int64))) (FP.l2d (lc.getD ((ps.getD (lo).toNatClampNeg (0 : Int32))).toNatClampNeg (0 : Int64)))))), .second, .val (.int (lo + (1 : Int32)))] [(.ref a), (.ref b4), (.double (FP.l2d (lv.getD ((lo + (1 : Int32))).toNatClampNeg (0 : Int64)))), (.double (FP.dadd (0 : UInt64) (FP.dmul (FP.l2d (lv.getD (lo).toNatClampNeg (0 : Int64))) (FP.l2d (lc.getD ((ps.getD (lo).toNatClampNeg (0 : Int32))).toNatClampNeg (0 : Int64))))))])) _
        exact kt)
      clear S61
      obtain ⟨T64, X64, e64, st64⟩ := getF X59 hx hZ hown (host := "") (Or.inl (hw _ (List.mem_of_getElem? (i := 22) rfl))) Via.refl e59 F2 (g := (mkF m 37 #[.val (.ref a), .val (.int line), .val (.ref b4), .val (.int hi), .val (.double (FP.dadd (0 : UInt64) (FP.dmul (FP.l2d (lv.getD (lo).toNatClampNeg (0 : Int64))) (FP.l2d (lc.getD ((ps.getD (lo).toNatClampNeg (0 : Int32))).toNatClampNeg (0 : Int64)))))), .second, .val (.int (lo + (1 : Int32)))] [(.ref a), (.ref b4), (.double (FP.l2d (lv.getD ((lo + (1 : Int32))).toNatClampNeg (0 : Int64)))), (.double (FP.dadd (0 : UInt64) (FP.dmul (FP.l2d (lv.getD (lo).toNatClampNeg (0 : Int64))) (FP.l2d (lc.getD ((ps.getD (lo).toNatClampNeg (0 : Int32))).toNatClampNeg (0 : Int64))))))])) rfl rfl (hb hby d5_37)
      have S65 : Go p e below s₁ (entryFrame m #[(.ref a), (.int line), (.ref b4)] 7) T64 (mkF m 40 #[.val (.ref a), .val (.int line), .val (.ref b4), .val (.int hi), .val (.double (FP.dadd (0 : UInt64) (FP.dmul (FP.l2d (lv.getD (lo).toNatClampNeg (0 : Int64))) (FP.l2d (lc.getD ((ps.getD (lo).toNatClampNeg (0 : Int32))).toNatClampNeg (0 : Int64)))))), .second, .val (.int (lo + (1 : Int32)))] [(.ref b2), (.ref b4), (.double (FP.l2d (lv.getD ((lo + (1 : Int32))).toNatClampNeg (0 : Int64)))), (.double (FP.dadd (0 : UInt64) (FP.dmul (FP.l2d (lv.getD (lo).toNatClampNeg (0 : Int64))) (FP.l2d (lc.getD ((ps.getD (lo).toNatClampNeg (0 : Int32))).toNatClampNeg (0 : Int64))))))]) := fun t kt => S63 t (st64 t kt)
      clear S63 st64 X59 e59
      have S66 : Go p e below s₁ (entryFrame m #[(.ref a), (.int line), (.ref b4)] 7) T64 (mkF m 42 #[.val (.ref a), .val (.int line), .val (.ref b4), .val (.int hi), .val (.double (FP.dadd (0 : UInt64) (FP.dmul (FP.l2d (lv.getD (lo).toNatClampNeg (0 : Int64))) (FP.l2d (lc.getD ((ps.getD (lo).toNatClampNeg (0 : Int32))).toNatClampNeg (0 : Int64)))))), .second, .val (.int (lo + (1 : Int32)))] [(.int (lo + (1 : Int32))), (.ref b2), (.ref b4), (.double (FP.l2d (lv.getD ((lo + (1 : Int32))).toNatClampNeg (0 : Int64)))), (.double (FP.dadd (0 : UInt64) (FP.dmul (FP.l2d (lv.getD (lo).toNatClampNeg (0 : Int64))) (FP.l2d (lc.getD ((ps.getD (lo).toNatClampNeg (0 : Int32))).toNatClampNeg (0 : Int64))))))]) := fun t kt => S65 t (by
        refine XS.iload X64.here hx rfl (hb hby d5_40) rfl ?_
        show Steps p.tables e below (T64.setTop (mkF m 42 #[.val (.ref a), .val (.int line), .val (.ref b4), .val (.int hi), .val (.double (FP.dadd (0 : UInt64) (FP.dmul (FP.l2d (lv.getD (lo).toNatClampNeg (0 : Int64))) (FP.l2d (lc.getD ((ps.getD (lo).toNatClampNeg (0 : Int32))).toNatClampNeg (0 : Int64)))))), .second, .val (.int (lo + (1 : Int32)))] [(.int (lo + (1 : Int32))), (.ref b2), (.ref b4), (.double (FP.l2d (lv.getD ((lo + (1 : Int32))).toNatClampNeg (0 : Int64)))), (.double (FP.dadd (0 : UInt64) (FP.dmul (FP.l2d (lv.getD (lo).toNatClampNeg (0 : Int64))) (FP.l2d (lc.getD ((ps.getD (lo).toNatClampNeg (0 : Int32))).toNatClampNeg (0 : Int64))))))])) _
        exact kt)
      clear S65
      obtain ⟨co67, Ao67, qo67, So67, No67, Ho67, Go67⟩ := id V2
      have hino67 : ¬ ((lo + (1 : Int32)) < 0 ∨ co67.slots.size ≤ ((lo + (1 : Int32))).toNatClampNeg) := inb_of So67 hq2
      have hato67 : co67.slots[((lo + (1 : Int32))).toNatClampNeg]? = some (.int (ps.getD ((lo + (1 : Int32))).toNatClampNeg (0 : Int32))) := Has.at Ho67 hino67 (own_at _ _ _ (0 : Int32) _ (by rw [hp]; exact hq82))
      have S68 : Go p e below s₁ (entryFrame m #[(.ref a), (.int line), (.ref b4)] 7) T64 (mkF m 43 #[.val (.ref a), .val (.int line), .val (.ref b4), .val (.int hi), .val (.double (FP.dadd (0 : UInt64) (FP.dmul (FP.l2d (lv.getD (lo).toNatClampNeg (0 : Int64))) (FP.l2d (lc.getD ((ps.getD (lo).toNatClampNeg (0 : Int32))).toNatClampNeg (0 : Int64)))))), .second, .val (.int (lo + (1 : Int32)))] [(.int (ps.getD ((lo + (1 : Int32))).toNatClampNeg (0 : Int32))), (.ref b4), (.double (FP.l2d (lv.getD ((lo + (1 : Int32))).toNatClampNeg (0 : Int64)))), (.double (FP.dadd (0 : UInt64) (FP.dmul (FP.l2d (lv.getD (lo).toNatClampNeg (0 : Int64))) (FP.l2d (lc.getD ((ps.getD (lo).toNatClampNeg (0 : Int32))).toNatClampNeg (0 : Int64))))))]) := fun t kt => S66 t (by
        refine X64.iaload hx (j := (lo + (1 : Int32))) (v := (.int (ps.getD ((lo + (1 : Int32))).toNatClampNeg (0 : Int32)))) (by rw [e64]; exact Ao67.1) (State.isArrayOf_alike hZ.alike Ao67.2.1) Ao67.2.2 hino67 hato67 (g := (mkF m 42 #[.val (.ref a), .val (.int line), .val (.ref b4), .val (.int hi), .val (.double (FP.dadd (0 : UInt64) (FP.dmul (FP.l2d (lv.getD (lo).toNatClampNeg (0 : Int64))) (FP.l2d (lc.getD ((ps.getD (lo).toNatClampNeg (0 : Int32))).toNatClampNeg (0 : Int64)))))), .second, .val (.int (lo + (1 : Int32)))] [(.int (lo + (1 : Int32))), (.ref b2), (.ref b4), (.double (FP.l2d (lv.getD ((lo + (1 : Int32))).toNatClampNeg (0 : Int64)))), (.double (FP.dadd (0 : UInt64) (FP.dmul (FP.l2d (lv.getD (lo).toNatClampNeg (0 : Int64))) (FP.l2d (lc.getD ((ps.getD (lo).toNatClampNeg (0 : Int32))).toNatClampNeg (0 : Int64))))))])) rfl rfl (hb hby d5_42) _ ?_
        show Steps p.tables e below (T64.setTop (mkF m 43 #[.val (.ref a), .val (.int line), .val (.ref b4), .val (.int hi), .val (.double (FP.dadd (0 : UInt64) (FP.dmul (FP.l2d (lv.getD (lo).toNatClampNeg (0 : Int64))) (FP.l2d (lc.getD ((ps.getD (lo).toNatClampNeg (0 : Int32))).toNatClampNeg (0 : Int64)))))), .second, .val (.int (lo + (1 : Int32)))] [(.int (ps.getD ((lo + (1 : Int32))).toNatClampNeg (0 : Int32))), (.ref b4), (.double (FP.l2d (lv.getD ((lo + (1 : Int32))).toNatClampNeg (0 : Int64)))), (.double (FP.dadd (0 : UInt64) (FP.dmul (FP.l2d (lv.getD (lo).toNatClampNeg (0 : Int64))) (FP.l2d (lc.getD ((ps.getD (lo).toNatClampNeg (0 : Int32))).toNatClampNeg (0 : Int64))))))])) _
        exact kt)
      clear S66
      obtain ⟨co69, Ao69, qo69, So69, No69, Ho69, Go69⟩ := id V4
      have hino69 : ¬ ((ps.getD ((lo + (1 : Int32))).toNatClampNeg (0 : Int32)) < 0 ∨ co69.slots.size ≤ ((ps.getD ((lo + (1 : Int32))).toNatClampNeg (0 : Int32))).toNatClampNeg) := inb_of So69 hpq2
      have hato69 : co69.slots[((ps.getD ((lo + (1 : Int32))).toNatClampNeg (0 : Int32))).toNatClampNeg]? = some (.double (FP.l2d (lc.getD ((ps.getD ((lo + (1 : Int32))).toNatClampNeg (0 : Int32))).toNatClampNeg (0 : Int64)))) := Has.at Ho69 hino69 (own_at _ _ _ (0 : Int64) _ (by rw [hc]; exact hp42))
      have S70 : Go p e below s₁ (entryFrame m #[(.ref a), (.int line), (.ref b4)] 7) T64 (mkF m 23 #[.val (.ref a), .val (.int line), .val (.ref b4), .val (.int hi), .val (.double (FP.dadd (FP.dadd (0 : UInt64) (FP.dmul (FP.l2d (lv.getD (lo).toNatClampNeg (0 : Int64))) (FP.l2d (lc.getD ((ps.getD (lo).toNatClampNeg (0 : Int32))).toNatClampNeg (0 : Int64))))) (FP.dmul (FP.l2d (lv.getD ((lo + (1 : Int32))).toNatClampNeg (0 : Int64))) (FP.l2d (lc.getD ((ps.getD ((lo + (1 : Int32))).toNatClampNeg (0 : Int32))).toNatClampNeg (0 : Int64)))))), .second, .val (.int ((lo + (1 : Int32)) + (1 : Int32)))] [(.int hi), (.int ((lo + (1 : Int32)) + (1 : Int32)))]) := fun t kt => S68 t (by
        refine X64.daload hx (j := (ps.getD ((lo + (1 : Int32))).toNatClampNeg (0 : Int32))) (v := (.double (FP.l2d (lc.getD ((ps.getD ((lo + (1 : Int32))).toNatClampNeg (0 : Int32))).toNatClampNeg (0 : Int64))))) (by rw [e64]; exact Ao69.1) (State.isArrayOf_alike hZ.alike Ao69.2.1) Ao69.2.2 hino69 hato69 (g := (mkF m 43 #[.val (.ref a), .val (.int line), .val (.ref b4), .val (.int hi), .val (.double (FP.dadd (0 : UInt64) (FP.dmul (FP.l2d (lv.getD (lo).toNatClampNeg (0 : Int64))) (FP.l2d (lc.getD ((ps.getD (lo).toNatClampNeg (0 : Int32))).toNatClampNeg (0 : Int64)))))), .second, .val (.int (lo + (1 : Int32)))] [(.int (ps.getD ((lo + (1 : Int32))).toNatClampNeg (0 : Int32))), (.ref b4), (.double (FP.l2d (lv.getD ((lo + (1 : Int32))).toNatClampNeg (0 : Int64)))), (.double (FP.dadd (0 : UInt64) (FP.dmul (FP.l2d (lv.getD (lo).toNatClampNeg (0 : Int64))) (FP.l2d (lc.getD ((ps.getD (lo).toNatClampNeg (0 : Int32))).toNatClampNeg (0 : Int64))))))])) rfl rfl (hb hby d5_43) _ ?_
        show Steps p.tables e below (T64.setTop (mkF m 44 #[.val (.ref a), .val (.int line), .val (.ref b4), .val (.int hi), .val (.double (FP.dadd (0 : UInt64) (FP.dmul (FP.l2d (lv.getD (lo).toNatClampNeg (0 : Int64))) (FP.l2d (lc.getD ((ps.getD (lo).toNatClampNeg (0 : Int32))).toNatClampNeg (0 : Int64)))))), .second, .val (.int (lo + (1 : Int32)))] [(.double (FP.l2d (lc.getD ((ps.getD ((lo + (1 : Int32))).toNatClampNeg (0 : Int32))).toNatClampNeg (0 : Int64)))), (.double (FP.l2d (lv.getD ((lo + (1 : Int32))).toNatClampNeg (0 : Int64)))), (.double (FP.dadd (0 : UInt64) (FP.dmul (FP.l2d (lv.getD (lo).toNatClampNeg (0 : Int64))) (FP.l2d (lc.getD ((ps.getD (lo).toNatClampNeg (0 : Int32))).toNatClampNeg (0 : Int64))))))])) _
        refine XS.dmulS X64.here hx rfl (hb hby d5_44) rfl (own_nn dm2.1) rfl ?_
        show Steps p.tables e below (T64.setTop (mkF m 45 #[.val (.ref a), .val (.int line), .val (.ref b4), .val (.int hi), .val (.double (FP.dadd (0 : UInt64) (FP.dmul (FP.l2d (lv.getD (lo).toNatClampNeg (0 : Int64))) (FP.l2d (lc.getD ((ps.getD (lo).toNatClampNeg (0 : Int32))).toNatClampNeg (0 : Int64)))))), .second, .val (.int (lo + (1 : Int32)))] [(.double (FP.dmul (FP.l2d (lv.getD ((lo + (1 : Int32))).toNatClampNeg (0 : Int64))) (FP.l2d (lc.getD ((ps.getD ((lo + (1 : Int32))).toNatClampNeg (0 : Int32))).toNatClampNeg (0 : Int64))))), (.double (FP.dadd (0 : UInt64) (FP.dmul (FP.l2d (lv.getD (lo).toNatClampNeg (0 : Int64))) (FP.l2d (lc.getD ((ps.getD (lo).toNatClampNeg (0 : Int32))).toNatClampNeg (0 : Int64))))))])) _
        refine XS.daddS X64.here hx rfl (hb hby d5_45) rfl (own_nn ds2) rfl ?_
        show Steps p.tables e below (T64.setTop (mkF m 46 #[.val (.ref a), .val (.int line), .val (.ref b4), .val (.int hi), .val (.double (FP.dadd (0 : UInt64) (FP.dmul (FP.l2d (lv.getD (lo).toNatClampNeg (0 : Int64))) (FP.l2d (lc.getD ((ps.getD (lo).toNatClampNeg (0 : Int32))).toNatClampNeg (0 : Int64)))))), .second, .val (.int (lo + (1 : Int32)))] [(.double (FP.dadd (FP.dadd (0 : UInt64) (FP.dmul (FP.l2d (lv.getD (lo).toNatClampNeg (0 : Int64))) (FP.l2d (lc.getD ((ps.getD (lo).toNatClampNeg (0 : Int32))).toNatClampNeg (0 : Int64))))) (FP.dmul (FP.l2d (lv.getD ((lo + (1 : Int32))).toNatClampNeg (0 : Int64))) (FP.l2d (lc.getD ((ps.getD ((lo + (1 : Int32))).toNatClampNeg (0 : Int32))).toNatClampNeg (0 : Int64))))))])) _
        refine XS.dstore X64.here hx rfl (hb hby d5_46) rfl (l' := #[.val (.ref a), .val (.int line), .val (.ref b4), .val (.int hi), .val (.double (FP.dadd (FP.dadd (0 : UInt64) (FP.dmul (FP.l2d (lv.getD (lo).toNatClampNeg (0 : Int64))) (FP.l2d (lc.getD ((ps.getD (lo).toNatClampNeg (0 : Int32))).toNatClampNeg (0 : Int64))))) (FP.dmul (FP.l2d (lv.getD ((lo + (1 : Int32))).toNatClampNeg (0 : Int64))) (FP.l2d (lc.getD ((ps.getD ((lo + (1 : Int32))).toNatClampNeg (0 : Int32))).toNatClampNeg (0 : Int64)))))), .second, .val (.int (lo + (1 : Int32)))]) rfl ?_
        show Steps p.tables e below (T64.setTop (mkF m 48 #[.val (.ref a), .val (.int line), .val (.ref b4), .val (.int hi), .val (.double (FP.dadd (FP.dadd (0 : UInt64) (FP.dmul (FP.l2d (lv.getD (lo).toNatClampNeg (0 : Int64))) (FP.l2d (lc.getD ((ps.getD (lo).toNatClampNeg (0 : Int32))).toNatClampNeg (0 : Int64))))) (FP.dmul (FP.l2d (lv.getD ((lo + (1 : Int32))).toNatClampNeg (0 : Int64))) (FP.l2d (lc.getD ((ps.getD ((lo + (1 : Int32))).toNatClampNeg (0 : Int32))).toNatClampNeg (0 : Int64)))))), .second, .val (.int (lo + (1 : Int32)))] [])) _
        refine XS.iinc X64.here hx rfl (hb hby d5_48) rfl (l' := #[.val (.ref a), .val (.int line), .val (.ref b4), .val (.int hi), .val (.double (FP.dadd (FP.dadd (0 : UInt64) (FP.dmul (FP.l2d (lv.getD (lo).toNatClampNeg (0 : Int64))) (FP.l2d (lc.getD ((ps.getD (lo).toNatClampNeg (0 : Int32))).toNatClampNeg (0 : Int64))))) (FP.dmul (FP.l2d (lv.getD ((lo + (1 : Int32))).toNatClampNeg (0 : Int64))) (FP.l2d (lc.getD ((ps.getD ((lo + (1 : Int32))).toNatClampNeg (0 : Int32))).toNatClampNeg (0 : Int64)))))), .second, .val (.int ((lo + (1 : Int32)) + (1 : Int32)))]) rfl ?_
        show Steps p.tables e below (T64.setTop (mkF m 51 #[.val (.ref a), .val (.int line), .val (.ref b4), .val (.int hi), .val (.double (FP.dadd (FP.dadd (0 : UInt64) (FP.dmul (FP.l2d (lv.getD (lo).toNatClampNeg (0 : Int64))) (FP.l2d (lc.getD ((ps.getD (lo).toNatClampNeg (0 : Int32))).toNatClampNeg (0 : Int64))))) (FP.dmul (FP.l2d (lv.getD ((lo + (1 : Int32))).toNatClampNeg (0 : Int64))) (FP.l2d (lc.getD ((ps.getD ((lo + (1 : Int32))).toNatClampNeg (0 : Int32))).toNatClampNeg (0 : Int64)))))), .second, .val (.int ((lo + (1 : Int32)) + (1 : Int32)))] [])) _
        refine XS.goto X64.here hx rfl (pc0 := 51) (pc' := 20) rfl (hb hby d5_51) (by decide) (by decide) ?_
        show Steps p.tables e below (T64.setTop (mkF m 20 #[.val (.ref a), .val (.int line), .val (.ref b4), .val (.int hi), .val (.double (FP.dadd (FP.dadd (0 : UInt64) (FP.dmul (FP.l2d (lv.getD (lo).toNatClampNeg (0 : Int64))) (FP.l2d (lc.getD ((ps.getD (lo).toNatClampNeg (0 : Int32))).toNatClampNeg (0 : Int64))))) (FP.dmul (FP.l2d (lv.getD ((lo + (1 : Int32))).toNatClampNeg (0 : Int64))) (FP.l2d (lc.getD ((ps.getD ((lo + (1 : Int32))).toNatClampNeg (0 : Int32))).toNatClampNeg (0 : Int64)))))), .second, .val (.int ((lo + (1 : Int32)) + (1 : Int32)))] [])) _
        refine XS.iload X64.here hx rfl (hb hby d5_20) rfl ?_
        show Steps p.tables e below (T64.setTop (mkF m 22 #[.val (.ref a), .val (.int line), .val (.ref b4), .val (.int hi), .val (.double (FP.dadd (FP.dadd (0 : UInt64) (FP.dmul (FP.l2d (lv.getD (lo).toNatClampNeg (0 : Int64))) (FP.l2d (lc.getD ((ps.getD (lo).toNatClampNeg (0 : Int32))).toNatClampNeg (0 : Int64))))) (FP.dmul (FP.l2d (lv.getD ((lo + (1 : Int32))).toNatClampNeg (0 : Int64))) (FP.l2d (lc.getD ((ps.getD ((lo + (1 : Int32))).toNatClampNeg (0 : Int32))).toNatClampNeg (0 : Int64)))))), .second, .val (.int ((lo + (1 : Int32)) + (1 : Int32)))] [(.int ((lo + (1 : Int32)) + (1 : Int32)))])) _
        refine XS.iloadN X64.here hx rfl (hb hby d5_22) rfl ?_
        show Steps p.tables e below (T64.setTop (mkF m 23 #[.val (.ref a), .val (.int line), .val (.ref b4), .val (.int hi), .val (.double (FP.dadd (FP.dadd (0 : UInt64) (FP.dmul (FP.l2d (lv.getD (lo).toNatClampNeg (0 : Int64))) (FP.l2d (lc.getD ((ps.getD (lo).toNatClampNeg (0 : Int32))).toNatClampNeg (0 : Int64))))) (FP.dmul (FP.l2d (lv.getD ((lo + (1 : Int32))).toNatClampNeg (0 : Int64))) (FP.l2d (lc.getD ((ps.getD ((lo + (1 : Int32))).toNatClampNeg (0 : Int32))).toNatClampNeg (0 : Int64)))))), .second, .val (.int ((lo + (1 : Int32)) + (1 : Int32)))] [(.int hi), (.int ((lo + (1 : Int32)) + (1 : Int32)))])) _
        exact kt)
      clear S68
      have S71 : Go p e below s₁ (entryFrame m #[(.ref a), (.int line), (.ref b4)] 7) T64 (mkF m 56 #[.val (.ref a), .val (.int line), .val (.ref b4), .val (.int hi), .val (.double (FP.dadd (FP.dadd (0 : UInt64) (FP.dmul (FP.l2d (lv.getD (lo).toNatClampNeg (0 : Int64))) (FP.l2d (lc.getD ((ps.getD (lo).toNatClampNeg (0 : Int32))).toNatClampNeg (0 : Int64))))) (FP.dmul (FP.l2d (lv.getD ((lo + (1 : Int32))).toNatClampNeg (0 : Int64))) (FP.l2d (lc.getD ((ps.getD ((lo + (1 : Int32))).toNatClampNeg (0 : Int32))).toNatClampNeg (0 : Int64)))))), .second, .val (.int ((lo + (1 : Int32)) + (1 : Int32)))] [(.double (FP.dadd (FP.dadd (0 : UInt64) (FP.dmul (FP.l2d (lv.getD (lo).toNatClampNeg (0 : Int64))) (FP.l2d (lc.getD ((ps.getD (lo).toNatClampNeg (0 : Int32))).toNatClampNeg (0 : Int64))))) (FP.dmul (FP.l2d (lv.getD ((lo + (1 : Int32))).toNatClampNeg (0 : Int64))) (FP.l2d (lc.getD ((ps.getD ((lo + (1 : Int32))).toNatClampNeg (0 : Int32))).toNatClampNeg (0 : Int64))))))]) := fun t kt => S70 t (by
        refine XS.icmpYes X64.here hx rfl (pc0 := 23) (pc' := 54) rfl (hb hby d5_23) rfl (flt (show ¬ (((lo + (1 : Int32)) + (1 : Int32)) < hi) from (own_rg3 hlo hhi hh8 h1 h2))).2.1 (by decide) (by decide) ?_
        show Steps p.tables e below (T64.setTop (mkF m 54 #[.val (.ref a), .val (.int line), .val (.ref b4), .val (.int hi), .val (.double (FP.dadd (FP.dadd (0 : UInt64) (FP.dmul (FP.l2d (lv.getD (lo).toNatClampNeg (0 : Int64))) (FP.l2d (lc.getD ((ps.getD (lo).toNatClampNeg (0 : Int32))).toNatClampNeg (0 : Int64))))) (FP.dmul (FP.l2d (lv.getD ((lo + (1 : Int32))).toNatClampNeg (0 : Int64))) (FP.l2d (lc.getD ((ps.getD ((lo + (1 : Int32))).toNatClampNeg (0 : Int32))).toNatClampNeg (0 : Int64)))))), .second, .val (.int ((lo + (1 : Int32)) + (1 : Int32)))] [])) _
        refine XS.dload X64.here hx rfl (hb hby d5_54) rfl ?_
        show Steps p.tables e below (T64.setTop (mkF m 56 #[.val (.ref a), .val (.int line), .val (.ref b4), .val (.int hi), .val (.double (FP.dadd (FP.dadd (0 : UInt64) (FP.dmul (FP.l2d (lv.getD (lo).toNatClampNeg (0 : Int64))) (FP.l2d (lc.getD ((ps.getD (lo).toNatClampNeg (0 : Int32))).toNatClampNeg (0 : Int64))))) (FP.dmul (FP.l2d (lv.getD ((lo + (1 : Int32))).toNatClampNeg (0 : Int64))) (FP.l2d (lc.getD ((ps.getD ((lo + (1 : Int32))).toNatClampNeg (0 : Int32))).toNatClampNeg (0 : Int64)))))), .second, .val (.int ((lo + (1 : Int32)) + (1 : Int32)))] [(.double (FP.dadd (FP.dadd (0 : UInt64) (FP.dmul (FP.l2d (lv.getD (lo).toNatClampNeg (0 : Int64))) (FP.l2d (lc.getD ((ps.getD (lo).toNatClampNeg (0 : Int32))).toNatClampNeg (0 : Int64))))) (FP.dmul (FP.l2d (lv.getD ((lo + (1 : Int32))).toNatClampNeg (0 : Int64))) (FP.l2d (lc.getD ((ps.getD ((lo + (1 : Int32))).toNatClampNeg (0 : Int32))).toNatClampNeg (0 : Int64))))))])) _
        exact kt)
      clear S70
      obtain ⟨fs, hr, hrun, hended, hW, hsame⟩ := X64.leave (v := some (.double (FP.dadd (FP.dadd (0 : UInt64) (FP.dmul (FP.l2d (lv.getD (lo).toNatClampNeg (0 : Int64))) (FP.l2d (lc.getD ((ps.getD (lo).toNatClampNeg (0 : Int32))).toNatClampNeg (0 : Int64))))) (FP.dmul (FP.l2d (lv.getD ((lo + (1 : Int32))).toNatClampNeg (0 : Int64))) (FP.l2d (lc.getD ((ps.getD ((lo + (1 : Int32))).toNatClampNeg (0 : Int32))).toNatClampNeg (0 : Int64))))))) (fun h => by first | rfl | (rw [Bd.returns] at h; cases h))
      refine ⟨_, _, S71 _ ?_, hrun, hended, _, _, rfl, ?_, ⟨_, rfl⟩, hW, hsame.mono (by decide) (by decide)⟩
      · exact retOut X64 hx Bd.returns rfl (Or.inr (Or.inr (Or.inl ⟨rfl, rfl, _, rfl⟩))) (hb hby d5_56) hr
      · show Q_dot Z lv ps lc lo hi h0 n0 _ T64.heap _
        rw [e64]
        exact ⟨_, rfl, by rw [own_e, if_pos h1, if_pos h2]; rw [Int.zero_add] at ds2; exact ds2, N0, rfl⟩
    · have S57 : Go p e below s₁ (entryFrame m #[(.ref a), (.int line), (.ref b4)] 7) T50 (mkF m 56 #[.val (.ref a), .val (.int line), .val (.ref b4), .val (.int hi), .val (.double (FP.dadd (0 : UInt64) (FP.dmul (FP.l2d (lv.getD (lo).toNatClampNeg (0 : Int64))) (FP.l2d (lc.getD ((ps.getD (lo).toNatClampNeg (0 : Int32))).toNatClampNeg (0 : Int64)))))), .second, .val (.int (lo + (1 : Int32)))] [(.double (FP.dadd (0 : UInt64) (FP.dmul (FP.l2d (lv.getD (lo).toNatClampNeg (0 : Int64))) (FP.l2d (lc.getD ((ps.getD (lo).toNatClampNeg (0 : Int32))).toNatClampNeg (0 : Int64))))))]) := fun t kt => S56 t (by
        refine XS.icmpYes X50.here hx rfl (pc0 := 23) (pc' := 54) rfl (hb hby d5_23) rfl (flt (show ¬ ((lo + (1 : Int32)) < hi) from h2)).2.1 (by decide) (by decide) ?_
        show Steps p.tables e below (T50.setTop (mkF m 54 #[.val (.ref a), .val (.int line), .val (.ref b4), .val (.int hi), .val (.double (FP.dadd (0 : UInt64) (FP.dmul (FP.l2d (lv.getD (lo).toNatClampNeg (0 : Int64))) (FP.l2d (lc.getD ((ps.getD (lo).toNatClampNeg (0 : Int32))).toNatClampNeg (0 : Int64)))))), .second, .val (.int (lo + (1 : Int32)))] [])) _
        refine XS.dload X50.here hx rfl (hb hby d5_54) rfl ?_
        show Steps p.tables e below (T50.setTop (mkF m 56 #[.val (.ref a), .val (.int line), .val (.ref b4), .val (.int hi), .val (.double (FP.dadd (0 : UInt64) (FP.dmul (FP.l2d (lv.getD (lo).toNatClampNeg (0 : Int64))) (FP.l2d (lc.getD ((ps.getD (lo).toNatClampNeg (0 : Int32))).toNatClampNeg (0 : Int64)))))), .second, .val (.int (lo + (1 : Int32)))] [(.double (FP.dadd (0 : UInt64) (FP.dmul (FP.l2d (lv.getD (lo).toNatClampNeg (0 : Int64))) (FP.l2d (lc.getD ((ps.getD (lo).toNatClampNeg (0 : Int32))).toNatClampNeg (0 : Int64))))))])) _
        exact kt)
      clear S56
      obtain ⟨fs, hr, hrun, hended, hW, hsame⟩ := X50.leave (v := some (.double (FP.dadd (0 : UInt64) (FP.dmul (FP.l2d (lv.getD (lo).toNatClampNeg (0 : Int64))) (FP.l2d (lc.getD ((ps.getD (lo).toNatClampNeg (0 : Int32))).toNatClampNeg (0 : Int64))))))) (fun h => by first | rfl | (rw [Bd.returns] at h; cases h))
      refine ⟨_, _, S57 _ ?_, hrun, hended, _, _, rfl, ?_, ⟨_, rfl⟩, hW, hsame.mono (by decide) (by decide)⟩
      · exact retOut X50 hx Bd.returns rfl (Or.inr (Or.inr (Or.inl ⟨rfl, rfl, _, rfl⟩))) (hb hby d5_56) hr
      · show Q_dot Z lv ps lc lo hi h0 n0 _ T50.heap _
        rw [e50]
        exact ⟨_, rfl, by rw [own_e, if_pos h1, if_neg h2]; rw [Int.zero_add] at ds1; exact ds1, N0, rfl⟩
  · have S43 : Go p e below s₁ (entryFrame m #[(.ref a), (.int line), (.ref b4)] 7) T38 (mkF m 56 #[.val (.ref a), .val (.int line), .val (.ref b4), .val (.int hi), .val (.double (0 : UInt64)), .second, .val (.int lo)] [(.double (0 : UInt64))]) := fun t kt => S42 t (by
      refine XS.icmpYes X38.here hx rfl (pc0 := 23) (pc' := 54) rfl (hb hby d5_23) rfl (flt (show ¬ (lo < hi) from h1)).2.1 (by decide) (by decide) ?_
      show Steps p.tables e below (T38.setTop (mkF m 54 #[.val (.ref a), .val (.int line), .val (.ref b4), .val (.int hi), .val (.double (0 : UInt64)), .second, .val (.int lo)] [])) _
      refine XS.dload X38.here hx rfl (hb hby d5_54) rfl ?_
      show Steps p.tables e below (T38.setTop (mkF m 56 #[.val (.ref a), .val (.int line), .val (.ref b4), .val (.int hi), .val (.double (0 : UInt64)), .second, .val (.int lo)] [(.double (0 : UInt64))])) _
      exact kt)
    clear S42
    obtain ⟨fs, hr, hrun, hended, hW, hsame⟩ := X38.leave (v := some (.double (0 : UInt64))) (fun h => by first | rfl | (rw [Bd.returns] at h; cases h))
    refine ⟨_, _, S43 _ ?_, hrun, hended, _, _, rfl, ?_, ⟨_, rfl⟩, hW, hsame.mono (by decide) (by decide)⟩
    · exact retOut X38 hx Bd.returns rfl (Or.inr (Or.inr (Or.inl ⟨rfl, rfl, _, rfl⟩))) (hb hby d5_56) hr
    · show Q_dot Z lv ps lc lo hi h0 n0 _ T38.heap _
      rw [e38]
      exact ⟨_, rfl, by rw [own_e, if_neg h1]; exact own_d0, N0, rfl⟩
theorem ef_law (m : MethodId) (x0 : Int32) (x1 : Int64) (x2 : Int32) (x3 : Int32) (x4 : Int32) : entryFrame m #[(.int x0), (.long x1), (.int x2), (.int x3), (.int x4)] maxLocals = mkF m 0 #[.val (.int x0), .val (.long x1), .second, .val (.int x2), .val (.int x3), .val (.int x4), .unset, .unset, .unset, .unset, .unset, .unset, .unset, .unset, .unset, .unset, .unset, .unset, .unset, .unset, .unset, .unset, .unset, .unset] [] := by first | (simp [entryFrame, mkF, argsToLocals, Value.category, maxLocals]; done) | rfl
theorem pn_law : plainName "com/example/blindroute/blindroute/lp/SparseLinesDotPinLaw" = true := by first | (simp [plainName, overriddenIn]; done) | decide +kernel
def Q_law (Z : State) (a : Int32) (b : Int64) (d : Int32) (e0x : Int32) (f : Int32) (h0 : Heap) (n0 : Nat) (v : Option Value) (h : Heap) (L : List Loc) : Prop := v = some (.int 1) ∧ Fr n0 L
set_option maxRecDepth 65536 in
set_option maxHeartbeats 40000000 in
theorem rm_law (l : Launch) (Z : State) (a0 : Array Value) (hw : ∀ d ∈ tables_1, d.before a0 Z = true) (ws : List Jvm.Cond) (a : Int32) (b : Int64) (d : Int32) (e0x : Int32) (f : Int32) (h0 : Heap) (n0 : Nat) (Z0 : n0 ≤ h0.size)  :
    MetFree l x (head1 (Jvm.Cond.code x code maxLocals ret :: ws) room_1) (fun aa U => aa = #[(.int a), (.long b), (.int d), (.int e0x), (.int f)] ∧ Z.Warmed39 U.vm ∧ U.heap = h0) (fun _ _ _ _ _ => True) (fun _ U o U' => ∃ v L, o = .returned v ∧ Q_law Z a b d e0x f h0 n0 v U'.heap L ∧ FrameEnd U o U' L 7 39) := by
  refine MetFree.of_bodySF (plainFor_of_name pn_law) hisR ?_
  intro p e s m args below meth c s₁ Bd hml0 hP hK
  obtain ⟨rfl, hZ, hh⟩ := hP
  have hx := Bd.exec
  have hby := Bd.bytes
  have hml : c.maxLocals = 24 := hml0
  have hown : s.vm.findClass "com/example/blindroute/blindroute/lp/SparseLinesDotPinLaw" = some m.cls := findClass_of_methodNamed Bd.named
  have hnm := (name_of_methodNamed Bd.named Bd.method).1
  have X0 : Stand p l e room_1 s m #[(.int a), (.long b), (.int d), (.int e0x), (.int f)] below meth c s₁ [] 0 0 := Stand.of_body Bd
  have e0 : s₁.heap = h0 := by rw [← hh, Bd.state]; rfl
  have N0 := Fr.nil n0
  have S0 : Go p e below s₁ (entryFrame m #[(.int a), (.long b), (.int d), (.int e0x), (.int f)] maxLocals) s₁ (mkF m 0 #[.val (.int a), .val (.long b), .second, .val (.int d), .val (.int e0x), .val (.int f), .unset, .unset, .unset, .unset, .unset, .unset, .unset, .unset, .unset, .unset, .unset, .unset, .unset, .unset, .unset, .unset, .unset, .unset] []) := fun t k => castTop (ef_law m a b d e0x f) k
  have S72 : Go p e below s₁ (entryFrame m #[(.int a), (.long b), (.int d), (.int e0x), (.int f)] maxLocals) s₁ (mkF m 3 #[.val (.int a), .val (.long b), .second, .val (.int d), .val (.int e0x), .val (.int f), .unset, .unset, .unset, .unset, .unset, .unset, .unset, .unset, .unset, .unset, .unset, .unset, .unset, .unset, .unset, .unset, .unset, .unset] [(.int (a &&& (1 : Int32)))]) := fun t kt => S0 t (by
    refine XS.iloadN X0.here hx rfl (hb hby at_0) rfl ?_
    show Steps p.tables e below (s₁.setTop (mkF m 1 #[.val (.int a), .val (.long b), .second, .val (.int d), .val (.int e0x), .val (.int f), .unset, .unset, .unset, .unset, .unset, .unset, .unset, .unset, .unset, .unset, .unset, .unset, .unset, .unset, .unset, .unset, .unset, .unset] [(.int a)])) _
    refine XS.iconst X0.here hx rfl (hb hby at_1) ?_
    show Steps p.tables e below (s₁.setTop (mkF m 2 #[.val (.int a), .val (.long b), .second, .val (.int d), .val (.int e0x), .val (.int f), .unset, .unset, .unset, .unset, .unset, .unset, .unset, .unset, .unset, .unset, .unset, .unset, .unset, .unset, .unset, .unset, .unset, .unset] [(.int (1 : Int32)), (.int a)])) _
    refine XS.iand X0.here hx rfl (hb hby at_2) rfl ?_
    show Steps p.tables e below (s₁.setTop (mkF m 3 #[.val (.int a), .val (.long b), .second, .val (.int d), .val (.int e0x), .val (.int f), .unset, .unset, .unset, .unset, .unset, .unset, .unset, .unset, .unset, .unset, .unset, .unset, .unset, .unset, .unset, .unset, .unset, .unset] [(.int (a &&& (1 : Int32)))])) _
    exact kt)
  clear S0
  obtain ⟨s0, q_s0⟩ : ∃ z : Int32, z = (a &&& (1 : Int32)) := ⟨_, rfl⟩
  have S73 : Go p e below s₁ (entryFrame m #[(.int a), (.long b), (.int d), (.int e0x), (.int f)] maxLocals) s₁ (mkF m 3 #[.val (.int a), .val (.long b), .second, .val (.int d), .val (.int e0x), .val (.int f), .unset, .unset, .unset, .unset, .unset, .unset, .unset, .unset, .unset, .unset, .unset, .unset, .unset, .unset, .unset, .unset, .unset, .unset] [(.int s0)]) := by subst q_s0; exact S72
  clear S72
  have hs0 := own_and1 a
  rw [← q_s0] at hs0
  have S74 : Go p e below s₁ (entryFrame m #[(.int a), (.long b), (.int d), (.int e0x), (.int f)] maxLocals) s₁ (mkF m 15 #[.val (.int a), .val (.long b), .second, .val (.int d), .val (.int e0x), .val (.int f), .val (.int s0), .unset, .unset, .unset, .unset, .unset, .unset, .unset, .unset, .unset, .unset, .unset, .unset, .unset, .unset, .unset, .unset, .unset] [(.int (s0 + ((((a.toUInt32 >>> ((1 : Int32) &&& 31).toUInt32).toInt32) &&& (3 : Int32)) % (3 : Int32))))]) := fun t kt => S73 t (by
    refine XS.istore X0.here hx rfl (hb hby at_3) rfl (l' := #[.val (.int a), .val (.long b), .second, .val (.int d), .val (.int e0x), .val (.int f), .val (.int s0), .unset, .unset, .unset, .unset, .unset, .unset, .unset, .unset, .unset, .unset, .unset, .unset, .unset, .unset, .unset, .unset, .unset]) rfl ?_
    show Steps p.tables e below (s₁.setTop (mkF m 5 #[.val (.int a), .val (.long b), .second, .val (.int d), .val (.int e0x), .val (.int f), .val (.int s0), .unset, .unset, .unset, .unset, .unset, .unset, .unset, .unset, .unset, .unset, .unset, .unset, .unset, .unset, .unset, .unset, .unset] [])) _
    refine XS.iload X0.here hx rfl (hb hby at_5) rfl ?_
    show Steps p.tables e below (s₁.setTop (mkF m 7 #[.val (.int a), .val (.long b), .second, .val (.int d), .val (.int e0x), .val (.int f), .val (.int s0), .unset, .unset, .unset, .unset, .unset, .unset, .unset, .unset, .unset, .unset, .unset, .unset, .unset, .unset, .unset, .unset, .unset] [(.int s0)])) _
    refine XS.iloadN X0.here hx rfl (hb hby at_7) rfl ?_
    show Steps p.tables e below (s₁.setTop (mkF m 8 #[.val (.int a), .val (.long b), .second, .val (.int d), .val (.int e0x), .val (.int f), .val (.int s0), .unset, .unset, .unset, .unset, .unset, .unset, .unset, .unset, .unset, .unset, .unset, .unset, .unset, .unset, .unset, .unset, .unset] [(.int a), (.int s0)])) _
    refine XS.iconst X0.here hx rfl (hb hby at_8) ?_
    show Steps p.tables e below (s₁.setTop (mkF m 9 #[.val (.int a), .val (.long b), .second, .val (.int d), .val (.int e0x), .val (.int f), .val (.int s0), .unset, .unset, .unset, .unset, .unset, .unset, .unset, .unset, .unset, .unset, .unset, .unset, .unset, .unset, .unset, .unset, .unset] [(.int (1 : Int32)), (.int a), (.int s0)])) _
    refine XS.iushr X0.here hx rfl (hb hby at_9) rfl ?_
    show Steps p.tables e below (s₁.setTop (mkF m 10 #[.val (.int a), .val (.long b), .second, .val (.int d), .val (.int e0x), .val (.int f), .val (.int s0), .unset, .unset, .unset, .unset, .unset, .unset, .unset, .unset, .unset, .unset, .unset, .unset, .unset, .unset, .unset, .unset, .unset] [(.int ((a.toUInt32 >>> ((1 : Int32) &&& 31).toUInt32).toInt32)), (.int s0)])) _
    refine XS.iconst X0.here hx rfl (hb hby at_10) ?_
    show Steps p.tables e below (s₁.setTop (mkF m 11 #[.val (.int a), .val (.long b), .second, .val (.int d), .val (.int e0x), .val (.int f), .val (.int s0), .unset, .unset, .unset, .unset, .unset, .unset, .unset, .unset, .unset, .unset, .unset, .unset, .unset, .unset, .unset, .unset, .unset] [(.int (3 : Int32)), (.int ((a.toUInt32 >>> ((1 : Int32) &&& 31).toUInt32).toInt32)), (.int s0)])) _
    refine XS.iand X0.here hx rfl (hb hby at_11) rfl ?_
    show Steps p.tables e below (s₁.setTop (mkF m 12 #[.val (.int a), .val (.long b), .second, .val (.int d), .val (.int e0x), .val (.int f), .val (.int s0), .unset, .unset, .unset, .unset, .unset, .unset, .unset, .unset, .unset, .unset, .unset, .unset, .unset, .unset, .unset, .unset, .unset] [(.int (((a.toUInt32 >>> ((1 : Int32) &&& 31).toUInt32).toInt32) &&& (3 : Int32))), (.int s0)])) _
    refine XS.iconst X0.here hx rfl (hb hby at_12) ?_
    show Steps p.tables e below (s₁.setTop (mkF m 13 #[.val (.int a), .val (.long b), .second, .val (.int d), .val (.int e0x), .val (.int f), .val (.int s0), .unset, .unset, .unset, .unset, .unset, .unset, .unset, .unset, .unset, .unset, .unset, .unset, .unset, .unset, .unset, .unset, .unset] [(.int (3 : Int32)), (.int (((a.toUInt32 >>> ((1 : Int32) &&& 31).toUInt32).toInt32) &&& (3 : Int32))), (.int s0)])) _
    refine iremM X0 hx rfl (hb hby at_13) rfl (by decide) ?_
    show Steps p.tables e below (s₁.setTop (mkF m 14 #[.val (.int a), .val (.long b), .second, .val (.int d), .val (.int e0x), .val (.int f), .val (.int s0), .unset, .unset, .unset, .unset, .unset, .unset, .unset, .unset, .unset, .unset, .unset, .unset, .unset, .unset, .unset, .unset, .unset] [(.int ((((a.toUInt32 >>> ((1 : Int32) &&& 31).toUInt32).toInt32) &&& (3 : Int32)) % (3 : Int32))), (.int s0)])) _
    refine XS.iadd X0.here hx rfl (hb hby at_14) rfl ?_
    show Steps p.tables e below (s₁.setTop (mkF m 15 #[.val (.int a), .val (.long b), .second, .val (.int d), .val (.int e0x), .val (.int f), .val (.int s0), .unset, .unset, .unset, .unset, .unset, .unset, .unset, .unset, .unset, .unset, .unset, .unset, .unset, .unset, .unset, .unset, .unset] [(.int (s0 + ((((a.toUInt32 >>> ((1 : Int32) &&& 31).toUInt32).toInt32) &&& (3 : Int32)) % (3 : Int32))))])) _
    exact kt)
  clear S73
  obtain ⟨s1, q_s1⟩ : ∃ z : Int32, z = (s0 + ((((a.toUInt32 >>> ((1 : Int32) &&& 31).toUInt32).toInt32) &&& (3 : Int32)) % (3 : Int32))) := ⟨_, rfl⟩
  have S75 : Go p e below s₁ (entryFrame m #[(.int a), (.long b), (.int d), (.int e0x), (.int f)] maxLocals) s₁ (mkF m 15 #[.val (.int a), .val (.long b), .second, .val (.int d), .val (.int e0x), .val (.int f), .val (.int s0), .unset, .unset, .unset, .unset, .unset, .unset, .unset, .unset, .unset, .unset, .unset, .unset, .unset, .unset, .unset, .unset, .unset] [(.int s1)]) := by subst q_s1; exact S74
  clear S74
  have hs1 := own_add3 s0 (((a.toUInt32 >>> ((1 : Int32) &&& 31).toUInt32).toInt32)) (by omega) (by omega)
  rw [← q_s1] at hs1
  have S76 : Go p e below s₁ (entryFrame m #[(.int a), (.long b), (.int d), (.int e0x), (.int f)] maxLocals) s₁ (mkF m 27 #[.val (.int a), .val (.long b), .second, .val (.int d), .val (.int e0x), .val (.int f), .val (.int s0), .val (.int s1), .unset, .unset, .unset, .unset, .unset, .unset, .unset, .unset, .unset, .unset, .unset, .unset, .unset, .unset, .unset, .unset] [(.int (s1 + ((((a.toUInt32 >>> ((3 : Int32) &&& 31).toUInt32).toInt32) &&& (3 : Int32)) % (3 : Int32))))]) := fun t kt => S75 t (by
    refine XS.istore X0.here hx rfl (hb hby at_15) rfl (l' := #[.val (.int a), .val (.long b), .second, .val (.int d), .val (.int e0x), .val (.int f), .val (.int s0), .val (.int s1), .unset, .unset, .unset, .unset, .unset, .unset, .unset, .unset, .unset, .unset, .unset, .unset, .unset, .unset, .unset, .unset]) rfl ?_
    show Steps p.tables e below (s₁.setTop (mkF m 17 #[.val (.int a), .val (.long b), .second, .val (.int d), .val (.int e0x), .val (.int f), .val (.int s0), .val (.int s1), .unset, .unset, .unset, .unset, .unset, .unset, .unset, .unset, .unset, .unset, .unset, .unset, .unset, .unset, .unset, .unset] [])) _
    refine XS.iload X0.here hx rfl (hb hby at_17) rfl ?_
    show Steps p.tables e below (s₁.setTop (mkF m 19 #[.val (.int a), .val (.long b), .second, .val (.int d), .val (.int e0x), .val (.int f), .val (.int s0), .val (.int s1), .unset, .unset, .unset, .unset, .unset, .unset, .unset, .unset, .unset, .unset, .unset, .unset, .unset, .unset, .unset, .unset] [(.int s1)])) _
    refine XS.iloadN X0.here hx rfl (hb hby at_19) rfl ?_
    show Steps p.tables e below (s₁.setTop (mkF m 20 #[.val (.int a), .val (.long b), .second, .val (.int d), .val (.int e0x), .val (.int f), .val (.int s0), .val (.int s1), .unset, .unset, .unset, .unset, .unset, .unset, .unset, .unset, .unset, .unset, .unset, .unset, .unset, .unset, .unset, .unset] [(.int a), (.int s1)])) _
    refine XS.iconst X0.here hx rfl (hb hby at_20) ?_
    show Steps p.tables e below (s₁.setTop (mkF m 21 #[.val (.int a), .val (.long b), .second, .val (.int d), .val (.int e0x), .val (.int f), .val (.int s0), .val (.int s1), .unset, .unset, .unset, .unset, .unset, .unset, .unset, .unset, .unset, .unset, .unset, .unset, .unset, .unset, .unset, .unset] [(.int (3 : Int32)), (.int a), (.int s1)])) _
    refine XS.iushr X0.here hx rfl (hb hby at_21) rfl ?_
    show Steps p.tables e below (s₁.setTop (mkF m 22 #[.val (.int a), .val (.long b), .second, .val (.int d), .val (.int e0x), .val (.int f), .val (.int s0), .val (.int s1), .unset, .unset, .unset, .unset, .unset, .unset, .unset, .unset, .unset, .unset, .unset, .unset, .unset, .unset, .unset, .unset] [(.int ((a.toUInt32 >>> ((3 : Int32) &&& 31).toUInt32).toInt32)), (.int s1)])) _
    refine XS.iconst X0.here hx rfl (hb hby at_22) ?_
    show Steps p.tables e below (s₁.setTop (mkF m 23 #[.val (.int a), .val (.long b), .second, .val (.int d), .val (.int e0x), .val (.int f), .val (.int s0), .val (.int s1), .unset, .unset, .unset, .unset, .unset, .unset, .unset, .unset, .unset, .unset, .unset, .unset, .unset, .unset, .unset, .unset] [(.int (3 : Int32)), (.int ((a.toUInt32 >>> ((3 : Int32) &&& 31).toUInt32).toInt32)), (.int s1)])) _
    refine XS.iand X0.here hx rfl (hb hby at_23) rfl ?_
    show Steps p.tables e below (s₁.setTop (mkF m 24 #[.val (.int a), .val (.long b), .second, .val (.int d), .val (.int e0x), .val (.int f), .val (.int s0), .val (.int s1), .unset, .unset, .unset, .unset, .unset, .unset, .unset, .unset, .unset, .unset, .unset, .unset, .unset, .unset, .unset, .unset] [(.int (((a.toUInt32 >>> ((3 : Int32) &&& 31).toUInt32).toInt32) &&& (3 : Int32))), (.int s1)])) _
    refine XS.iconst X0.here hx rfl (hb hby at_24) ?_
    show Steps p.tables e below (s₁.setTop (mkF m 25 #[.val (.int a), .val (.long b), .second, .val (.int d), .val (.int e0x), .val (.int f), .val (.int s0), .val (.int s1), .unset, .unset, .unset, .unset, .unset, .unset, .unset, .unset, .unset, .unset, .unset, .unset, .unset, .unset, .unset, .unset] [(.int (3 : Int32)), (.int (((a.toUInt32 >>> ((3 : Int32) &&& 31).toUInt32).toInt32) &&& (3 : Int32))), (.int s1)])) _
    refine iremM X0 hx rfl (hb hby at_25) rfl (by decide) ?_
    show Steps p.tables e below (s₁.setTop (mkF m 26 #[.val (.int a), .val (.long b), .second, .val (.int d), .val (.int e0x), .val (.int f), .val (.int s0), .val (.int s1), .unset, .unset, .unset, .unset, .unset, .unset, .unset, .unset, .unset, .unset, .unset, .unset, .unset, .unset, .unset, .unset] [(.int ((((a.toUInt32 >>> ((3 : Int32) &&& 31).toUInt32).toInt32) &&& (3 : Int32)) % (3 : Int32))), (.int s1)])) _
    refine XS.iadd X0.here hx rfl (hb hby at_26) rfl ?_
    show Steps p.tables e below (s₁.setTop (mkF m 27 #[.val (.int a), .val (.long b), .second, .val (.int d), .val (.int e0x), .val (.int f), .val (.int s0), .val (.int s1), .unset, .unset, .unset, .unset, .unset, .unset, .unset, .unset, .unset, .unset, .unset, .unset, .unset, .unset, .unset, .unset] [(.int (s1 + ((((a.toUInt32 >>> ((3 : Int32) &&& 31).toUInt32).toInt32) &&& (3 : Int32)) % (3 : Int32))))])) _
    exact kt)
  clear S75
  obtain ⟨s2, q_s2⟩ : ∃ z : Int32, z = (s1 + ((((a.toUInt32 >>> ((3 : Int32) &&& 31).toUInt32).toInt32) &&& (3 : Int32)) % (3 : Int32))) := ⟨_, rfl⟩
  have S77 : Go p e below s₁ (entryFrame m #[(.int a), (.long b), (.int d), (.int e0x), (.int f)] maxLocals) s₁ (mkF m 27 #[.val (.int a), .val (.long b), .second, .val (.int d), .val (.int e0x), .val (.int f), .val (.int s0), .val (.int s1), .unset, .unset, .unset, .unset, .unset, .unset, .unset, .unset, .unset, .unset, .unset, .unset, .unset, .unset, .unset, .unset] [(.int s2)]) := by subst q_s2; exact S76
  clear S76
  have hs2 := own_add3 s1 (((a.toUInt32 >>> ((3 : Int32) &&& 31).toUInt32).toInt32)) (by omega) (by omega)
  rw [← q_s2] at hs2
  have S78 : Go p e below s₁ (entryFrame m #[(.int a), (.long b), (.int d), (.int e0x), (.int f)] maxLocals) s₁ (mkF m 39 #[.val (.int a), .val (.long b), .second, .val (.int d), .val (.int e0x), .val (.int f), .val (.int s0), .val (.int s1), .val (.int s2), .unset, .unset, .unset, .unset, .unset, .unset, .unset, .unset, .unset, .unset, .unset, .unset, .unset, .unset, .unset] [(.int (s2 + ((((a.toUInt32 >>> ((5 : Int32) &&& 31).toUInt32).toInt32) &&& (3 : Int32)) % (3 : Int32))))]) := fun t kt => S77 t (by
    refine XS.istore X0.here hx rfl (hb hby at_27) rfl (l' := #[.val (.int a), .val (.long b), .second, .val (.int d), .val (.int e0x), .val (.int f), .val (.int s0), .val (.int s1), .val (.int s2), .unset, .unset, .unset, .unset, .unset, .unset, .unset, .unset, .unset, .unset, .unset, .unset, .unset, .unset, .unset]) rfl ?_
    show Steps p.tables e below (s₁.setTop (mkF m 29 #[.val (.int a), .val (.long b), .second, .val (.int d), .val (.int e0x), .val (.int f), .val (.int s0), .val (.int s1), .val (.int s2), .unset, .unset, .unset, .unset, .unset, .unset, .unset, .unset, .unset, .unset, .unset, .unset, .unset, .unset, .unset] [])) _
    refine XS.iload X0.here hx rfl (hb hby at_29) rfl ?_
    show Steps p.tables e below (s₁.setTop (mkF m 31 #[.val (.int a), .val (.long b), .second, .val (.int d), .val (.int e0x), .val (.int f), .val (.int s0), .val (.int s1), .val (.int s2), .unset, .unset, .unset, .unset, .unset, .unset, .unset, .unset, .unset, .unset, .unset, .unset, .unset, .unset, .unset] [(.int s2)])) _
    refine XS.iloadN X0.here hx rfl (hb hby at_31) rfl ?_
    show Steps p.tables e below (s₁.setTop (mkF m 32 #[.val (.int a), .val (.long b), .second, .val (.int d), .val (.int e0x), .val (.int f), .val (.int s0), .val (.int s1), .val (.int s2), .unset, .unset, .unset, .unset, .unset, .unset, .unset, .unset, .unset, .unset, .unset, .unset, .unset, .unset, .unset] [(.int a), (.int s2)])) _
    refine XS.iconst X0.here hx rfl (hb hby at_32) ?_
    show Steps p.tables e below (s₁.setTop (mkF m 33 #[.val (.int a), .val (.long b), .second, .val (.int d), .val (.int e0x), .val (.int f), .val (.int s0), .val (.int s1), .val (.int s2), .unset, .unset, .unset, .unset, .unset, .unset, .unset, .unset, .unset, .unset, .unset, .unset, .unset, .unset, .unset] [(.int (5 : Int32)), (.int a), (.int s2)])) _
    refine XS.iushr X0.here hx rfl (hb hby at_33) rfl ?_
    show Steps p.tables e below (s₁.setTop (mkF m 34 #[.val (.int a), .val (.long b), .second, .val (.int d), .val (.int e0x), .val (.int f), .val (.int s0), .val (.int s1), .val (.int s2), .unset, .unset, .unset, .unset, .unset, .unset, .unset, .unset, .unset, .unset, .unset, .unset, .unset, .unset, .unset] [(.int ((a.toUInt32 >>> ((5 : Int32) &&& 31).toUInt32).toInt32)), (.int s2)])) _
    refine XS.iconst X0.here hx rfl (hb hby at_34) ?_
    show Steps p.tables e below (s₁.setTop (mkF m 35 #[.val (.int a), .val (.long b), .second, .val (.int d), .val (.int e0x), .val (.int f), .val (.int s0), .val (.int s1), .val (.int s2), .unset, .unset, .unset, .unset, .unset, .unset, .unset, .unset, .unset, .unset, .unset, .unset, .unset, .unset, .unset] [(.int (3 : Int32)), (.int ((a.toUInt32 >>> ((5 : Int32) &&& 31).toUInt32).toInt32)), (.int s2)])) _
    refine XS.iand X0.here hx rfl (hb hby at_35) rfl ?_
    show Steps p.tables e below (s₁.setTop (mkF m 36 #[.val (.int a), .val (.long b), .second, .val (.int d), .val (.int e0x), .val (.int f), .val (.int s0), .val (.int s1), .val (.int s2), .unset, .unset, .unset, .unset, .unset, .unset, .unset, .unset, .unset, .unset, .unset, .unset, .unset, .unset, .unset] [(.int (((a.toUInt32 >>> ((5 : Int32) &&& 31).toUInt32).toInt32) &&& (3 : Int32))), (.int s2)])) _
    refine XS.iconst X0.here hx rfl (hb hby at_36) ?_
    show Steps p.tables e below (s₁.setTop (mkF m 37 #[.val (.int a), .val (.long b), .second, .val (.int d), .val (.int e0x), .val (.int f), .val (.int s0), .val (.int s1), .val (.int s2), .unset, .unset, .unset, .unset, .unset, .unset, .unset, .unset, .unset, .unset, .unset, .unset, .unset, .unset, .unset] [(.int (3 : Int32)), (.int (((a.toUInt32 >>> ((5 : Int32) &&& 31).toUInt32).toInt32) &&& (3 : Int32))), (.int s2)])) _
    refine iremM X0 hx rfl (hb hby at_37) rfl (by decide) ?_
    show Steps p.tables e below (s₁.setTop (mkF m 38 #[.val (.int a), .val (.long b), .second, .val (.int d), .val (.int e0x), .val (.int f), .val (.int s0), .val (.int s1), .val (.int s2), .unset, .unset, .unset, .unset, .unset, .unset, .unset, .unset, .unset, .unset, .unset, .unset, .unset, .unset, .unset] [(.int ((((a.toUInt32 >>> ((5 : Int32) &&& 31).toUInt32).toInt32) &&& (3 : Int32)) % (3 : Int32))), (.int s2)])) _
    refine XS.iadd X0.here hx rfl (hb hby at_38) rfl ?_
    show Steps p.tables e below (s₁.setTop (mkF m 39 #[.val (.int a), .val (.long b), .second, .val (.int d), .val (.int e0x), .val (.int f), .val (.int s0), .val (.int s1), .val (.int s2), .unset, .unset, .unset, .unset, .unset, .unset, .unset, .unset, .unset, .unset, .unset, .unset, .unset, .unset, .unset] [(.int (s2 + ((((a.toUInt32 >>> ((5 : Int32) &&& 31).toUInt32).toInt32) &&& (3 : Int32)) % (3 : Int32))))])) _
    exact kt)
  clear S77
  obtain ⟨s3, q_s3⟩ : ∃ z : Int32, z = (s2 + ((((a.toUInt32 >>> ((5 : Int32) &&& 31).toUInt32).toInt32) &&& (3 : Int32)) % (3 : Int32))) := ⟨_, rfl⟩
  have S79 : Go p e below s₁ (entryFrame m #[(.int a), (.long b), (.int d), (.int e0x), (.int f)] maxLocals) s₁ (mkF m 39 #[.val (.int a), .val (.long b), .second, .val (.int d), .val (.int e0x), .val (.int f), .val (.int s0), .val (.int s1), .val (.int s2), .unset, .unset, .unset, .unset, .unset, .unset, .unset, .unset, .unset, .unset, .unset, .unset, .unset, .unset, .unset] [(.int s3)]) := by subst q_s3; exact S78
  clear S78
  have hs3 := own_add3 s2 (((a.toUInt32 >>> ((5 : Int32) &&& 31).toUInt32).toInt32)) (by omega) (by omega)
  rw [← q_s3] at hs3
  have S80 : Go p e below s₁ (entryFrame m #[(.int a), (.long b), (.int d), (.int e0x), (.int f)] maxLocals) s₁ (mkF m 42 #[.val (.int a), .val (.long b), .second, .val (.int d), .val (.int e0x), .val (.int f), .val (.int s0), .val (.int s1), .val (.int s2), .val (.int s3), .unset, .unset, .unset, .unset, .unset, .unset, .unset, .unset, .unset, .unset, .unset, .unset, .unset, .unset] [(.int (4 : Int32))]) := fun t kt => S79 t (by
    refine XS.istore X0.here hx rfl (hb hby at_39) rfl (l' := #[.val (.int a), .val (.long b), .second, .val (.int d), .val (.int e0x), .val (.int f), .val (.int s0), .val (.int s1), .val (.int s2), .val (.int s3), .unset, .unset, .unset, .unset, .unset, .unset, .unset, .unset, .unset, .unset, .unset, .unset, .unset, .unset]) rfl ?_
    show Steps p.tables e below (s₁.setTop (mkF m 41 #[.val (.int a), .val (.long b), .second, .val (.int d), .val (.int e0x), .val (.int f), .val (.int s0), .val (.int s1), .val (.int s2), .val (.int s3), .unset, .unset, .unset, .unset, .unset, .unset, .unset, .unset, .unset, .unset, .unset, .unset, .unset, .unset] [])) _
    refine XS.iconst X0.here hx rfl (hb hby at_41) ?_
    show Steps p.tables e below (s₁.setTop (mkF m 42 #[.val (.int a), .val (.long b), .second, .val (.int d), .val (.int e0x), .val (.int f), .val (.int s0), .val (.int s1), .val (.int s2), .val (.int s3), .unset, .unset, .unset, .unset, .unset, .unset, .unset, .unset, .unset, .unset, .unset, .unset, .unset, .unset] [(.int (4 : Int32))])) _
    exact kt)
  clear S79
  obtain ⟨T81, h81, k81, X81, e81, E81, A81, st81⟩ := newP X0 hx hZ (hw _ (List.mem_of_getElem? (i := 0) rfl)) e0 (g := (mkF m 42 #[.val (.int a), .val (.long b), .second, .val (.int d), .val (.int e0x), .val (.int f), .val (.int s0), .val (.int s1), .val (.int s2), .val (.int s3), .unset, .unset, .unset, .unset, .unset, .unset, .unset, .unset, .unset, .unset, .unset, .unset, .unset, .unset] [(.int (4 : Int32))])) rfl (hb hby at_42) rfl (by decide) (cap := 4) (by decide) (by decide) (by decide) (by decide)
  obtain ⟨b81, g81⟩ : ∃ z, z = h0.size := ⟨_, rfl⟩
  rw [← g81] at A81 st81
  have g_b81 : n0 ≤ b81 := Nat.le_trans Z0 (Nat.le_of_eq g81.symm)
  have V81 : Arv Z h81 b81 k81 .int (4 : Int32) [(.int (0 : Int32)), (.int (0 : Int32)), (.int (0 : Int32)), (.int (0 : Int32))] (.int (0 : Int32)) := (Arv.new A81 (by decide)).pad (pad_rep [] _ 4)
  have S82 : Go p e below s₁ (entryFrame m #[(.int a), (.long b), (.int d), (.int e0x), (.int f)] maxLocals) T81 (mkF m 44 #[.val (.int a), .val (.long b), .second, .val (.int d), .val (.int e0x), .val (.int f), .val (.int s0), .val (.int s1), .val (.int s2), .val (.int s3), .unset, .unset, .unset, .unset, .unset, .unset, .unset, .unset, .unset, .unset, .unset, .unset, .unset, .unset] [(.ref b81)]) := fun t kt => S80 t (st81 t kt)
  clear S80 st81 X0 e0
  have S83 : Go p e below s₁ (entryFrame m #[(.int a), (.long b), (.int d), (.int e0x), (.int f)] maxLocals) T81 (mkF m 48 #[.val (.int a), .val (.long b), .second, .val (.int d), .val (.int e0x), .val (.int f), .val (.int s0), .val (.int s1), .val (.int s2), .val (.int s3), .unset, .unset, .unset, .unset, .unset, .unset, .unset, .unset, .unset, .unset, .unset, .unset, .unset, .unset] [(.int s0), (.int (0 : Int32)), (.ref b81), (.ref b81)]) := fun t kt => S82 t (by
    refine XS.dup X81.here hx rfl (hb hby at_44) rfl rfl ?_
    show Steps p.tables e below (T81.setTop (mkF m 45 #[.val (.int a), .val (.long b), .second, .val (.int d), .val (.int e0x), .val (.int f), .val (.int s0), .val (.int s1), .val (.int s2), .val (.int s3), .unset, .unset, .unset, .unset, .unset, .unset, .unset, .unset, .unset, .unset, .unset, .unset, .unset, .unset] [(.ref b81), (.ref b81)])) _
    refine XS.iconst X81.here hx rfl (hb hby at_45) ?_
    show Steps p.tables e below (T81.setTop (mkF m 46 #[.val (.int a), .val (.long b), .second, .val (.int d), .val (.int e0x), .val (.int f), .val (.int s0), .val (.int s1), .val (.int s2), .val (.int s3), .unset, .unset, .unset, .unset, .unset, .unset, .unset, .unset, .unset, .unset, .unset, .unset, .unset, .unset] [(.int (0 : Int32)), (.ref b81), (.ref b81)])) _
    refine XS.iload X81.here hx rfl (hb hby at_46) rfl ?_
    show Steps p.tables e below (T81.setTop (mkF m 48 #[.val (.int a), .val (.long b), .second, .val (.int d), .val (.int e0x), .val (.int f), .val (.int s0), .val (.int s1), .val (.int s2), .val (.int s3), .unset, .unset, .unset, .unset, .unset, .unset, .unset, .unset, .unset, .unset, .unset, .unset, .unset, .unset] [(.int s0), (.int (0 : Int32)), (.ref b81), (.ref b81)])) _
    exact kt)
  clear S82
  obtain ⟨co84, Ao84, qo84, So84, No84, Ho84, Go84⟩ := id V81
  have hino84 : ¬ ((0 : Int32) < 0 ∨ co84.slots.size ≤ ((0 : Int32)).toNatClampNeg) := inb_of So84 ⟨by decide, by decide⟩
  obtain ⟨T85, h85, X85, e85, W85, st85⟩ := stI X81 hx hZ e81 Ao84 (j := (0 : Int32)) hino84 (g := (mkF m 48 #[.val (.int a), .val (.long b), .second, .val (.int d), .val (.int e0x), .val (.int f), .val (.int s0), .val (.int s1), .val (.int s2), .val (.int s3), .unset, .unset, .unset, .unset, .unset, .unset, .unset, .unset, .unset, .unset, .unset, .unset, .unset, .unset] [(.int s0), (.int (0 : Int32)), (.ref b81), (.ref b81)])) rfl rfl (hb hby at_48)
  have N85 := Fr.snoc X85 N0 g_b81
  have V85 : Arv Z h85 b81 k81 .int (4 : Int32) [(.int s0), (.int (0 : Int32)), (.int (0 : Int32)), (.int (0 : Int32))] (.int (0 : Int32)) := Arv.set Ao84 qo84 So84 No84 Ho84 Go84 rfl W85 0 rfl (Nat.le_of_ble_eq_true rfl)
  have S86 : Go p e below s₁ (entryFrame m #[(.int a), (.long b), (.int d), (.int e0x), (.int f)] maxLocals) T85 (mkF m 49 #[.val (.int a), .val (.long b), .second, .val (.int d), .val (.int e0x), .val (.int f), .val (.int s0), .val (.int s1), .val (.int s2), .val (.int s3), .unset, .unset, .unset, .unset, .unset, .unset, .unset, .unset, .unset, .unset, .unset, .unset, .unset, .unset] [(.ref b81)]) := fun t kt => S83 t (st85 t kt)
  clear S83 st85 X81 e81
  have S87 : Go p e below s₁ (entryFrame m #[(.int a), (.long b), (.int d), (.int e0x), (.int f)] maxLocals) T85 (mkF m 53 #[.val (.int a), .val (.long b), .second, .val (.int d), .val (.int e0x), .val (.int f), .val (.int s0), .val (.int s1), .val (.int s2), .val (.int s3), .unset, .unset, .unset, .unset, .unset, .unset, .unset, .unset, .unset, .unset, .unset, .unset, .unset, .unset] [(.int s1), (.int (1 : Int32)), (.ref b81), (.ref b81)]) := fun t kt => S86 t (by
    refine XS.dup X85.here hx rfl (hb hby at_49) rfl rfl ?_
    show Steps p.tables e below (T85.setTop (mkF m 50 #[.val (.int a), .val (.long b), .second, .val (.int d), .val (.int e0x), .val (.int f), .val (.int s0), .val (.int s1), .val (.int s2), .val (.int s3), .unset, .unset, .unset, .unset, .unset, .unset, .unset, .unset, .unset, .unset, .unset, .unset, .unset, .unset] [(.ref b81), (.ref b81)])) _
    refine XS.iconst X85.here hx rfl (hb hby at_50) ?_
    show Steps p.tables e below (T85.setTop (mkF m 51 #[.val (.int a), .val (.long b), .second, .val (.int d), .val (.int e0x), .val (.int f), .val (.int s0), .val (.int s1), .val (.int s2), .val (.int s3), .unset, .unset, .unset, .unset, .unset, .unset, .unset, .unset, .unset, .unset, .unset, .unset, .unset, .unset] [(.int (1 : Int32)), (.ref b81), (.ref b81)])) _
    refine XS.iload X85.here hx rfl (hb hby at_51) rfl ?_
    show Steps p.tables e below (T85.setTop (mkF m 53 #[.val (.int a), .val (.long b), .second, .val (.int d), .val (.int e0x), .val (.int f), .val (.int s0), .val (.int s1), .val (.int s2), .val (.int s3), .unset, .unset, .unset, .unset, .unset, .unset, .unset, .unset, .unset, .unset, .unset, .unset, .unset, .unset] [(.int s1), (.int (1 : Int32)), (.ref b81), (.ref b81)])) _
    exact kt)
  clear S86
  obtain ⟨co88, Ao88, qo88, So88, No88, Ho88, Go88⟩ := id V85
  have hino88 : ¬ ((1 : Int32) < 0 ∨ co88.slots.size ≤ ((1 : Int32)).toNatClampNeg) := inb_of So88 ⟨by decide, by decide⟩
  obtain ⟨T89, h89, X89, e89, W89, st89⟩ := stI X85 hx hZ e85 Ao88 (j := (1 : Int32)) hino88 (g := (mkF m 53 #[.val (.int a), .val (.long b), .second, .val (.int d), .val (.int e0x), .val (.int f), .val (.int s0), .val (.int s1), .val (.int s2), .val (.int s3), .unset, .unset, .unset, .unset, .unset, .unset, .unset, .unset, .unset, .unset, .unset, .unset, .unset, .unset] [(.int s1), (.int (1 : Int32)), (.ref b81), (.ref b81)])) rfl rfl (hb hby at_53)
  have N89 := Fr.snoc X89 N85 g_b81
  have V89 : Arv Z h89 b81 k81 .int (4 : Int32) [(.int s0), (.int s1), (.int (0 : Int32)), (.int (0 : Int32))] (.int (0 : Int32)) := Arv.set Ao88 qo88 So88 No88 Ho88 Go88 rfl W89 1 rfl (Nat.le_of_ble_eq_true rfl)
  have S90 : Go p e below s₁ (entryFrame m #[(.int a), (.long b), (.int d), (.int e0x), (.int f)] maxLocals) T89 (mkF m 54 #[.val (.int a), .val (.long b), .second, .val (.int d), .val (.int e0x), .val (.int f), .val (.int s0), .val (.int s1), .val (.int s2), .val (.int s3), .unset, .unset, .unset, .unset, .unset, .unset, .unset, .unset, .unset, .unset, .unset, .unset, .unset, .unset] [(.ref b81)]) := fun t kt => S87 t (st89 t kt)
  clear S87 st89 X85 e85
  have S91 : Go p e below s₁ (entryFrame m #[(.int a), (.long b), (.int d), (.int e0x), (.int f)] maxLocals) T89 (mkF m 58 #[.val (.int a), .val (.long b), .second, .val (.int d), .val (.int e0x), .val (.int f), .val (.int s0), .val (.int s1), .val (.int s2), .val (.int s3), .unset, .unset, .unset, .unset, .unset, .unset, .unset, .unset, .unset, .unset, .unset, .unset, .unset, .unset] [(.int s2), (.int (2 : Int32)), (.ref b81), (.ref b81)]) := fun t kt => S90 t (by
    refine XS.dup X89.here hx rfl (hb hby at_54) rfl rfl ?_
    show Steps p.tables e below (T89.setTop (mkF m 55 #[.val (.int a), .val (.long b), .second, .val (.int d), .val (.int e0x), .val (.int f), .val (.int s0), .val (.int s1), .val (.int s2), .val (.int s3), .unset, .unset, .unset, .unset, .unset, .unset, .unset, .unset, .unset, .unset, .unset, .unset, .unset, .unset] [(.ref b81), (.ref b81)])) _
    refine XS.iconst X89.here hx rfl (hb hby at_55) ?_
    show Steps p.tables e below (T89.setTop (mkF m 56 #[.val (.int a), .val (.long b), .second, .val (.int d), .val (.int e0x), .val (.int f), .val (.int s0), .val (.int s1), .val (.int s2), .val (.int s3), .unset, .unset, .unset, .unset, .unset, .unset, .unset, .unset, .unset, .unset, .unset, .unset, .unset, .unset] [(.int (2 : Int32)), (.ref b81), (.ref b81)])) _
    refine XS.iload X89.here hx rfl (hb hby at_56) rfl ?_
    show Steps p.tables e below (T89.setTop (mkF m 58 #[.val (.int a), .val (.long b), .second, .val (.int d), .val (.int e0x), .val (.int f), .val (.int s0), .val (.int s1), .val (.int s2), .val (.int s3), .unset, .unset, .unset, .unset, .unset, .unset, .unset, .unset, .unset, .unset, .unset, .unset, .unset, .unset] [(.int s2), (.int (2 : Int32)), (.ref b81), (.ref b81)])) _
    exact kt)
  clear S90
  obtain ⟨co92, Ao92, qo92, So92, No92, Ho92, Go92⟩ := id V89
  have hino92 : ¬ ((2 : Int32) < 0 ∨ co92.slots.size ≤ ((2 : Int32)).toNatClampNeg) := inb_of So92 ⟨by decide, by decide⟩
  obtain ⟨T93, h93, X93, e93, W93, st93⟩ := stI X89 hx hZ e89 Ao92 (j := (2 : Int32)) hino92 (g := (mkF m 58 #[.val (.int a), .val (.long b), .second, .val (.int d), .val (.int e0x), .val (.int f), .val (.int s0), .val (.int s1), .val (.int s2), .val (.int s3), .unset, .unset, .unset, .unset, .unset, .unset, .unset, .unset, .unset, .unset, .unset, .unset, .unset, .unset] [(.int s2), (.int (2 : Int32)), (.ref b81), (.ref b81)])) rfl rfl (hb hby at_58)
  have N93 := Fr.snoc X93 N89 g_b81
  have V93 : Arv Z h93 b81 k81 .int (4 : Int32) [(.int s0), (.int s1), (.int s2), (.int (0 : Int32))] (.int (0 : Int32)) := Arv.set Ao92 qo92 So92 No92 Ho92 Go92 rfl W93 2 rfl (Nat.le_of_ble_eq_true rfl)
  have S94 : Go p e below s₁ (entryFrame m #[(.int a), (.long b), (.int d), (.int e0x), (.int f)] maxLocals) T93 (mkF m 59 #[.val (.int a), .val (.long b), .second, .val (.int d), .val (.int e0x), .val (.int f), .val (.int s0), .val (.int s1), .val (.int s2), .val (.int s3), .unset, .unset, .unset, .unset, .unset, .unset, .unset, .unset, .unset, .unset, .unset, .unset, .unset, .unset] [(.ref b81)]) := fun t kt => S91 t (st93 t kt)
  clear S91 st93 X89 e89
  have S95 : Go p e below s₁ (entryFrame m #[(.int a), (.long b), (.int d), (.int e0x), (.int f)] maxLocals) T93 (mkF m 63 #[.val (.int a), .val (.long b), .second, .val (.int d), .val (.int e0x), .val (.int f), .val (.int s0), .val (.int s1), .val (.int s2), .val (.int s3), .unset, .unset, .unset, .unset, .unset, .unset, .unset, .unset, .unset, .unset, .unset, .unset, .unset, .unset] [(.int s3), (.int (3 : Int32)), (.ref b81), (.ref b81)]) := fun t kt => S94 t (by
    refine XS.dup X93.here hx rfl (hb hby at_59) rfl rfl ?_
    show Steps p.tables e below (T93.setTop (mkF m 60 #[.val (.int a), .val (.long b), .second, .val (.int d), .val (.int e0x), .val (.int f), .val (.int s0), .val (.int s1), .val (.int s2), .val (.int s3), .unset, .unset, .unset, .unset, .unset, .unset, .unset, .unset, .unset, .unset, .unset, .unset, .unset, .unset] [(.ref b81), (.ref b81)])) _
    refine XS.iconst X93.here hx rfl (hb hby at_60) ?_
    show Steps p.tables e below (T93.setTop (mkF m 61 #[.val (.int a), .val (.long b), .second, .val (.int d), .val (.int e0x), .val (.int f), .val (.int s0), .val (.int s1), .val (.int s2), .val (.int s3), .unset, .unset, .unset, .unset, .unset, .unset, .unset, .unset, .unset, .unset, .unset, .unset, .unset, .unset] [(.int (3 : Int32)), (.ref b81), (.ref b81)])) _
    refine XS.iload X93.here hx rfl (hb hby at_61) rfl ?_
    show Steps p.tables e below (T93.setTop (mkF m 63 #[.val (.int a), .val (.long b), .second, .val (.int d), .val (.int e0x), .val (.int f), .val (.int s0), .val (.int s1), .val (.int s2), .val (.int s3), .unset, .unset, .unset, .unset, .unset, .unset, .unset, .unset, .unset, .unset, .unset, .unset, .unset, .unset] [(.int s3), (.int (3 : Int32)), (.ref b81), (.ref b81)])) _
    exact kt)
  clear S94
  obtain ⟨co96, Ao96, qo96, So96, No96, Ho96, Go96⟩ := id V93
  have hino96 : ¬ ((3 : Int32) < 0 ∨ co96.slots.size ≤ ((3 : Int32)).toNatClampNeg) := inb_of So96 ⟨by decide, by decide⟩
  obtain ⟨T97, h97, X97, e97, W97, st97⟩ := stI X93 hx hZ e93 Ao96 (j := (3 : Int32)) hino96 (g := (mkF m 63 #[.val (.int a), .val (.long b), .second, .val (.int d), .val (.int e0x), .val (.int f), .val (.int s0), .val (.int s1), .val (.int s2), .val (.int s3), .unset, .unset, .unset, .unset, .unset, .unset, .unset, .unset, .unset, .unset, .unset, .unset, .unset, .unset] [(.int s3), (.int (3 : Int32)), (.ref b81), (.ref b81)])) rfl rfl (hb hby at_63)
  have N97 := Fr.snoc X97 N93 g_b81
  have V97 : Arv Z h97 b81 k81 .int (4 : Int32) [(.int s0), (.int s1), (.int s2), (.int s3)] (.int (0 : Int32)) := Arv.set Ao96 qo96 So96 No96 Ho96 Go96 rfl W97 3 rfl (Nat.le_of_ble_eq_true rfl)
  have S98 : Go p e below s₁ (entryFrame m #[(.int a), (.long b), (.int d), (.int e0x), (.int f)] maxLocals) T97 (mkF m 64 #[.val (.int a), .val (.long b), .second, .val (.int d), .val (.int e0x), .val (.int f), .val (.int s0), .val (.int s1), .val (.int s2), .val (.int s3), .unset, .unset, .unset, .unset, .unset, .unset, .unset, .unset, .unset, .unset, .unset, .unset, .unset, .unset] [(.ref b81)]) := fun t kt => S95 t (st97 t kt)
  clear S95 st97 X93 e93
  have S99 : Go p e below s₁ (entryFrame m #[(.int a), (.long b), (.int d), (.int e0x), (.int f)] maxLocals) T97 (mkF m 68 #[.val (.int a), .val (.long b), .second, .val (.int d), .val (.int e0x), .val (.int f), .val (.int s0), .val (.int s1), .val (.int s2), .val (.int s3), .val (.ref b81), .unset, .unset, .unset, .unset, .unset, .unset, .unset, .unset, .unset, .unset, .unset, .unset, .unset] [(.int (8 : Int32))]) := fun t kt => S98 t (by
    refine XS.astore X97.here hx rfl (hb hby at_64) rfl rfl (l' := #[.val (.int a), .val (.long b), .second, .val (.int d), .val (.int e0x), .val (.int f), .val (.int s0), .val (.int s1), .val (.int s2), .val (.int s3), .val (.ref b81), .unset, .unset, .unset, .unset, .unset, .unset, .unset, .unset, .unset, .unset, .unset, .unset, .unset]) rfl ?_
    show Steps p.tables e below (T97.setTop (mkF m 66 #[.val (.int a), .val (.long b), .second, .val (.int d), .val (.int e0x), .val (.int f), .val (.int s0), .val (.int s1), .val (.int s2), .val (.int s3), .val (.ref b81), .unset, .unset, .unset, .unset, .unset, .unset, .unset, .unset, .unset, .unset, .unset, .unset, .unset] [])) _
    refine XS.bipush X97.here hx rfl (hb hby at_66) ?_
    show Steps p.tables e below (T97.setTop (mkF m 68 #[.val (.int a), .val (.long b), .second, .val (.int d), .val (.int e0x), .val (.int f), .val (.int s0), .val (.int s1), .val (.int s2), .val (.int s3), .val (.ref b81), .unset, .unset, .unset, .unset, .unset, .unset, .unset, .unset, .unset, .unset, .unset, .unset, .unset] [(.int (8 : Int32))])) _
    exact kt)
  clear S98
  obtain ⟨T100, h100, k100, X100, e100, E100, A100, st100⟩ := newP X97 hx hZ (hw _ (List.mem_of_getElem? (i := 1) rfl)) e97 (g := (mkF m 68 #[.val (.int a), .val (.long b), .second, .val (.int d), .val (.int e0x), .val (.int f), .val (.int s0), .val (.int s1), .val (.int s2), .val (.int s3), .val (.ref b81), .unset, .unset, .unset, .unset, .unset, .unset, .unset, .unset, .unset, .unset, .unset, .unset, .unset] [(.int (8 : Int32))])) rfl (hb hby at_68) rfl (by decide) (cap := 8) (by decide) (by decide) (by decide) (by decide)
  obtain ⟨b100, g100⟩ : ∃ z, z = h97.size := ⟨_, rfl⟩
  rw [← g100] at A100 st100
  have ne101 : b81 ≠ b100 := by rw [g100]; exact Nat.ne_of_lt V97.lt
  have g_b100 : n0 ≤ b100 := Nat.le_trans (Nat.le_trans (Nat.le_trans (Nat.le_trans (Nat.le_trans (Nat.le_trans Z0 E81.1) (Keep.of_wr W85).1) (Keep.of_wr W89).1) (Keep.of_wr W93).1) (Keep.of_wr W97).1) (Nat.le_of_eq g100.symm)
  have V100 : Arv Z h100 b100 k100 .long (8 : Int32) [(.long (0 : Int64)), (.long (0 : Int64)), (.long (0 : Int64)), (.long (0 : Int64)), (.long (0 : Int64)), (.long (0 : Int64)), (.long (0 : Int64)), (.long (0 : Int64))] (.long (0 : Int64)) := (Arv.new A100 (by decide)).pad (pad_rep [] _ 8)
  have S102 : Go p e below s₁ (entryFrame m #[(.int a), (.long b), (.int d), (.int e0x), (.int f)] maxLocals) T100 (mkF m 70 #[.val (.int a), .val (.long b), .second, .val (.int d), .val (.int e0x), .val (.int f), .val (.int s0), .val (.int s1), .val (.int s2), .val (.int s3), .val (.ref b81), .unset, .unset, .unset, .unset, .unset, .unset, .unset, .unset, .unset, .unset, .unset, .unset, .unset] [(.ref b100)]) := fun t kt => S99 t (st100 t kt)
  clear S99 st100 X97 e97
  have S103 : Go p e below s₁ (entryFrame m #[(.int a), (.long b), (.int d), (.int e0x), (.int f)] maxLocals) T100 (mkF m 77 #[.val (.int a), .val (.long b), .second, .val (.int d), .val (.int e0x), .val (.int f), .val (.int s0), .val (.int s1), .val (.int s2), .val (.int s3), .val (.ref b81), .val (.ref b100), .unset, .unset, .unset, .unset, .unset, .unset, .unset, .unset, .unset, .unset, .unset, .unset] [(.int (0 : Int32)), (.long b), (.int (0 : Int32)), (.ref b100)]) := fun t kt => S102 t (by
    refine XS.astore X100.here hx rfl (hb hby at_70) rfl rfl (l' := #[.val (.int a), .val (.long b), .second, .val (.int d), .val (.int e0x), .val (.int f), .val (.int s0), .val (.int s1), .val (.int s2), .val (.int s3), .val (.ref b81), .val (.ref b100), .unset, .unset, .unset, .unset, .unset, .unset, .unset, .unset, .unset, .unset, .unset, .unset]) rfl ?_
    show Steps p.tables e below (T100.setTop (mkF m 72 #[.val (.int a), .val (.long b), .second, .val (.int d), .val (.int e0x), .val (.int f), .val (.int s0), .val (.int s1), .val (.int s2), .val (.int s3), .val (.ref b81), .val (.ref b100), .unset, .unset, .unset, .unset, .unset, .unset, .unset, .unset, .unset, .unset, .unset, .unset] [])) _
    refine XS.aload X100.here hx rfl (hb hby at_72) rfl rfl ?_
    show Steps p.tables e below (T100.setTop (mkF m 74 #[.val (.int a), .val (.long b), .second, .val (.int d), .val (.int e0x), .val (.int f), .val (.int s0), .val (.int s1), .val (.int s2), .val (.int s3), .val (.ref b81), .val (.ref b100), .unset, .unset, .unset, .unset, .unset, .unset, .unset, .unset, .unset, .unset, .unset, .unset] [(.ref b100)])) _
    refine XS.iconst X100.here hx rfl (hb hby at_74) ?_
    show Steps p.tables e below (T100.setTop (mkF m 75 #[.val (.int a), .val (.long b), .second, .val (.int d), .val (.int e0x), .val (.int f), .val (.int s0), .val (.int s1), .val (.int s2), .val (.int s3), .val (.ref b81), .val (.ref b100), .unset, .unset, .unset, .unset, .unset, .unset, .unset, .unset, .unset, .unset, .unset, .unset] [(.int (0 : Int32)), (.ref b100)])) _
    refine XS.lloadN X100.here hx rfl (hb hby at_75) rfl ?_
    show Steps p.tables e below (T100.setTop (mkF m 76 #[.val (.int a), .val (.long b), .second, .val (.int d), .val (.int e0x), .val (.int f), .val (.int s0), .val (.int s1), .val (.int s2), .val (.int s3), .val (.ref b81), .val (.ref b100), .unset, .unset, .unset, .unset, .unset, .unset, .unset, .unset, .unset, .unset, .unset, .unset] [(.long b), (.int (0 : Int32)), (.ref b100)])) _
    refine XS.iconst X100.here hx rfl (hb hby at_76) ?_
    show Steps p.tables e below (T100.setTop (mkF m 77 #[.val (.int a), .val (.long b), .second, .val (.int d), .val (.int e0x), .val (.int f), .val (.int s0), .val (.int s1), .val (.int s2), .val (.int s3), .val (.ref b81), .val (.ref b100), .unset, .unset, .unset, .unset, .unset, .unset, .unset, .unset, .unset, .unset, .unset, .unset] [(.int (0 : Int32)), (.long b), (.int (0 : Int32)), (.ref b100)])) _
    exact kt)
  clear S102
  obtain ⟨v104, T104, L104, X104, hQ104, st104⟩ := own_outS (Jvm.LawKit.callS X100 hx (y := (⟨"com/example/blindroute/blindroute/lp/SparseLinesDotPinLaw", "byteAt", "(JI)J"⟩ : MethodName)) hown (mvT hZ (hw _ (List.mem_of_getElem? (i := 2) rfl))) (mvT hZ (hw _ (List.mem_of_getElem? (i := 3) rfl))) (mvT hZ (hw _ (List.mem_of_getElem? (i := 4) rfl))) (mvT hZ (hw _ (List.mem_of_getElem? (i := 5) rfl))) (by decide) (backOf (W := 2) (rm_byteAt l Z a0 hw [] b (0 : Int32) h100 n0 (Nat.le_trans (Nat.le_trans (Nat.le_trans (Nat.le_trans (Nat.le_trans (Nat.le_trans Z0 E81.1) (Keep.of_wr W85).1) (Keep.of_wr W89).1) (Keep.of_wr W93).1) (Keep.of_wr W97).1) E100.1)) hZ (hw _ (List.mem_of_getElem? (i := 5) rfl)) (hw _ (List.mem_of_getElem? (i := 4) rfl)) (by decide) (by decide)) (g := (mkF m 77 #[.val (.int a), .val (.long b), .second, .val (.int d), .val (.int e0x), .val (.int f), .val (.int s0), .val (.int s1), .val (.int s2), .val (.int s3), .val (.ref b81), .val (.ref b100), .unset, .unset, .unset, .unset, .unset, .unset, .unset, .unset, .unset, .unset, .unset, .unset] [(.int (0 : Int32)), (.long b), (.int (0 : Int32)), (.ref b100)])) rfl (by rw [hml]; rfl) (argsL := [(.long b), (.int (0 : Int32))]) (rest := [(.int (0 : Int32)), (.ref b100)]) (lenOf pd__JI_J rfl) rfl (by show 2 * 0 + _ ≤ _; exact Nat.le_of_eq rfl) (hb hby at_77) (fun _ _ => ⟨rfl, e100, (by decide : 2 + 0 ≤ _), (by decide : 12 + 0 ≤ _)⟩))
  obtain ⟨rfl, N104q, e104⟩ := hQ104
  have N104 := Fr.app N97 N104q
  have S105 : Go p e below s₁ (entryFrame m #[(.int a), (.long b), (.int d), (.int e0x), (.int f)] maxLocals) T104 (mkF m 80 #[.val (.int a), .val (.long b), .second, .val (.int d), .val (.int e0x), .val (.int f), .val (.int s0), .val (.int s1), .val (.int s2), .val (.int s3), .val (.ref b81), .val (.ref b100), .unset, .unset, .unset, .unset, .unset, .unset, .unset, .unset, .unset, .unset, .unset, .unset] [(.long (ownB b (0 : Int32))), (.int (0 : Int32)), (.ref b100)]) := fun t kt => S103 t (st104 t kt)
  clear S103 st104 X100 e100
  obtain ⟨l0, q_l0⟩ : ∃ z : Int64, z = (ownB b (0 : Int32)) := ⟨_, rfl⟩
  have S106 : Go p e below s₁ (entryFrame m #[(.int a), (.long b), (.int d), (.int e0x), (.int f)] maxLocals) T104 (mkF m 80 #[.val (.int a), .val (.long b), .second, .val (.int d), .val (.int e0x), .val (.int f), .val (.int s0), .val (.int s1), .val (.int s2), .val (.int s3), .val (.ref b81), .val (.ref b100), .unset, .unset, .unset, .unset, .unset, .unset, .unset, .unset, .unset, .unset, .unset, .unset] [(.long l0), (.int (0 : Int32)), (.ref b100)]) := by subst q_l0; exact S105
  clear S105
  have hl0 := own_bb b (0 : Int32)
  rw [← q_l0] at hl0
  obtain ⟨co107, Ao107, qo107, So107, No107, Ho107, Go107⟩ := id V100
  have hino107 : ¬ ((0 : Int32) < 0 ∨ co107.slots.size ≤ ((0 : Int32)).toNatClampNeg) := inb_of So107 ⟨by decide, by decide⟩
  obtain ⟨T108, h108, X108, e108, W108, st108⟩ := stJ X104 hx hZ e104 Ao107 (j := (0 : Int32)) hino107 (g := (mkF m 80 #[.val (.int a), .val (.long b), .second, .val (.int d), .val (.int e0x), .val (.int f), .val (.int s0), .val (.int s1), .val (.int s2), .val (.int s3), .val (.ref b81), .val (.ref b100), .unset, .unset, .unset, .unset, .unset, .unset, .unset, .unset, .unset, .unset, .unset, .unset] [(.long l0), (.int (0 : Int32)), (.ref b100)])) rfl rfl (hb hby at_80)
  have N108 := Fr.snoc X108 N104 g_b100
  have V108 : Arv Z h108 b100 k100 .long (8 : Int32) [(.long l0), (.long (0 : Int64)), (.long (0 : Int64)), (.long (0 : Int64)), (.long (0 : Int64)), (.long (0 : Int64)), (.long (0 : Int64)), (.long (0 : Int64))] (.long (0 : Int64)) := Arv.set Ao107 qo107 So107 No107 Ho107 Go107 rfl W108 0 rfl (Nat.le_of_ble_eq_true rfl)
  have S109 : Go p e below s₁ (entryFrame m #[(.int a), (.long b), (.int d), (.int e0x), (.int f)] maxLocals) T108 (mkF m 81 #[.val (.int a), .val (.long b), .second, .val (.int d), .val (.int e0x), .val (.int f), .val (.int s0), .val (.int s1), .val (.int s2), .val (.int s3), .val (.ref b81), .val (.ref b100), .unset, .unset, .unset, .unset, .unset, .unset, .unset, .unset, .unset, .unset, .unset, .unset] []) := fun t kt => S106 t (st108 t kt)
  clear S106 st108 X104 e104
  have S110 : Go p e below s₁ (entryFrame m #[(.int a), (.long b), (.int d), (.int e0x), (.int f)] maxLocals) T108 (mkF m 86 #[.val (.int a), .val (.long b), .second, .val (.int d), .val (.int e0x), .val (.int f), .val (.int s0), .val (.int s1), .val (.int s2), .val (.int s3), .val (.ref b81), .val (.ref b100), .unset, .unset, .unset, .unset, .unset, .unset, .unset, .unset, .unset, .unset, .unset, .unset] [(.int (1 : Int32)), (.long b), (.int (1 : Int32)), (.ref b100)]) := fun t kt => S109 t (by
    refine XS.aload X108.here hx rfl (hb hby at_81) rfl rfl ?_
    show Steps p.tables e below (T108.setTop (mkF m 83 #[.val (.int a), .val (.long b), .second, .val (.int d), .val (.int e0x), .val (.int f), .val (.int s0), .val (.int s1), .val (.int s2), .val (.int s3), .val (.ref b81), .val (.ref b100), .unset, .unset, .unset, .unset, .unset, .unset, .unset, .unset, .unset, .unset, .unset, .unset] [(.ref b100)])) _
    refine XS.iconst X108.here hx rfl (hb hby at_83) ?_
    show Steps p.tables e below (T108.setTop (mkF m 84 #[.val (.int a), .val (.long b), .second, .val (.int d), .val (.int e0x), .val (.int f), .val (.int s0), .val (.int s1), .val (.int s2), .val (.int s3), .val (.ref b81), .val (.ref b100), .unset, .unset, .unset, .unset, .unset, .unset, .unset, .unset, .unset, .unset, .unset, .unset] [(.int (1 : Int32)), (.ref b100)])) _
    refine XS.lloadN X108.here hx rfl (hb hby at_84) rfl ?_
    show Steps p.tables e below (T108.setTop (mkF m 85 #[.val (.int a), .val (.long b), .second, .val (.int d), .val (.int e0x), .val (.int f), .val (.int s0), .val (.int s1), .val (.int s2), .val (.int s3), .val (.ref b81), .val (.ref b100), .unset, .unset, .unset, .unset, .unset, .unset, .unset, .unset, .unset, .unset, .unset, .unset] [(.long b), (.int (1 : Int32)), (.ref b100)])) _
    refine XS.iconst X108.here hx rfl (hb hby at_85) ?_
    show Steps p.tables e below (T108.setTop (mkF m 86 #[.val (.int a), .val (.long b), .second, .val (.int d), .val (.int e0x), .val (.int f), .val (.int s0), .val (.int s1), .val (.int s2), .val (.int s3), .val (.ref b81), .val (.ref b100), .unset, .unset, .unset, .unset, .unset, .unset, .unset, .unset, .unset, .unset, .unset, .unset] [(.int (1 : Int32)), (.long b), (.int (1 : Int32)), (.ref b100)])) _
    exact kt)
  clear S109
  obtain ⟨v111, T111, L111, X111, hQ111, st111⟩ := own_outS (Jvm.LawKit.callS X108 hx (y := (⟨"com/example/blindroute/blindroute/lp/SparseLinesDotPinLaw", "byteAt", "(JI)J"⟩ : MethodName)) hown (mvT hZ (hw _ (List.mem_of_getElem? (i := 2) rfl))) (mvT hZ (hw _ (List.mem_of_getElem? (i := 3) rfl))) (mvT hZ (hw _ (List.mem_of_getElem? (i := 4) rfl))) (mvT hZ (hw _ (List.mem_of_getElem? (i := 5) rfl))) (by decide) (backOf (W := 2) (rm_byteAt l Z a0 hw [] b (1 : Int32) h108 n0 (Nat.le_trans (Nat.le_trans (Nat.le_trans (Nat.le_trans (Nat.le_trans (Nat.le_trans (Nat.le_trans Z0 E81.1) (Keep.of_wr W85).1) (Keep.of_wr W89).1) (Keep.of_wr W93).1) (Keep.of_wr W97).1) E100.1) (Keep.of_wr W108).1)) hZ (hw _ (List.mem_of_getElem? (i := 5) rfl)) (hw _ (List.mem_of_getElem? (i := 4) rfl)) (by decide) (by decide)) (g := (mkF m 86 #[.val (.int a), .val (.long b), .second, .val (.int d), .val (.int e0x), .val (.int f), .val (.int s0), .val (.int s1), .val (.int s2), .val (.int s3), .val (.ref b81), .val (.ref b100), .unset, .unset, .unset, .unset, .unset, .unset, .unset, .unset, .unset, .unset, .unset, .unset] [(.int (1 : Int32)), (.long b), (.int (1 : Int32)), (.ref b100)])) rfl (by rw [hml]; rfl) (argsL := [(.long b), (.int (1 : Int32))]) (rest := [(.int (1 : Int32)), (.ref b100)]) (lenOf pd__JI_J rfl) rfl (by show 2 * 0 + _ ≤ _; exact Nat.le_of_eq rfl) (hb hby at_86) (fun _ _ => ⟨rfl, e108, (by decide : 2 + 0 ≤ _), (by decide : 12 + 0 ≤ _)⟩))
  obtain ⟨rfl, N111q, e111⟩ := hQ111
  have N111 := Fr.app N108 N111q
  have S112 : Go p e below s₁ (entryFrame m #[(.int a), (.long b), (.int d), (.int e0x), (.int f)] maxLocals) T111 (mkF m 89 #[.val (.int a), .val (.long b), .second, .val (.int d), .val (.int e0x), .val (.int f), .val (.int s0), .val (.int s1), .val (.int s2), .val (.int s3), .val (.ref b81), .val (.ref b100), .unset, .unset, .unset, .unset, .unset, .unset, .unset, .unset, .unset, .unset, .unset, .unset] [(.long (ownB b (1 : Int32))), (.int (1 : Int32)), (.ref b100)]) := fun t kt => S110 t (st111 t kt)
  clear S110 st111 X108 e108
  obtain ⟨l1, q_l1⟩ : ∃ z : Int64, z = (ownB b (1 : Int32)) := ⟨_, rfl⟩
  have S113 : Go p e below s₁ (entryFrame m #[(.int a), (.long b), (.int d), (.int e0x), (.int f)] maxLocals) T111 (mkF m 89 #[.val (.int a), .val (.long b), .second, .val (.int d), .val (.int e0x), .val (.int f), .val (.int s0), .val (.int s1), .val (.int s2), .val (.int s3), .val (.ref b81), .val (.ref b100), .unset, .unset, .unset, .unset, .unset, .unset, .unset, .unset, .unset, .unset, .unset, .unset] [(.long l1), (.int (1 : Int32)), (.ref b100)]) := by subst q_l1; exact S112
  clear S112
  have hl1 := own_bb b (1 : Int32)
  rw [← q_l1] at hl1
  obtain ⟨co114, Ao114, qo114, So114, No114, Ho114, Go114⟩ := id V108
  have hino114 : ¬ ((1 : Int32) < 0 ∨ co114.slots.size ≤ ((1 : Int32)).toNatClampNeg) := inb_of So114 ⟨by decide, by decide⟩
  obtain ⟨T115, h115, X115, e115, W115, st115⟩ := stJ X111 hx hZ e111 Ao114 (j := (1 : Int32)) hino114 (g := (mkF m 89 #[.val (.int a), .val (.long b), .second, .val (.int d), .val (.int e0x), .val (.int f), .val (.int s0), .val (.int s1), .val (.int s2), .val (.int s3), .val (.ref b81), .val (.ref b100), .unset, .unset, .unset, .unset, .unset, .unset, .unset, .unset, .unset, .unset, .unset, .unset] [(.long l1), (.int (1 : Int32)), (.ref b100)])) rfl rfl (hb hby at_89)
  have N115 := Fr.snoc X115 N111 g_b100
  have V115 : Arv Z h115 b100 k100 .long (8 : Int32) [(.long l0), (.long l1), (.long (0 : Int64)), (.long (0 : Int64)), (.long (0 : Int64)), (.long (0 : Int64)), (.long (0 : Int64)), (.long (0 : Int64))] (.long (0 : Int64)) := Arv.set Ao114 qo114 So114 No114 Ho114 Go114 rfl W115 1 rfl (Nat.le_of_ble_eq_true rfl)
  have S116 : Go p e below s₁ (entryFrame m #[(.int a), (.long b), (.int d), (.int e0x), (.int f)] maxLocals) T115 (mkF m 90 #[.val (.int a), .val (.long b), .second, .val (.int d), .val (.int e0x), .val (.int f), .val (.int s0), .val (.int s1), .val (.int s2), .val (.int s3), .val (.ref b81), .val (.ref b100), .unset, .unset, .unset, .unset, .unset, .unset, .unset, .unset, .unset, .unset, .unset, .unset] []) := fun t kt => S113 t (st115 t kt)
  clear S113 st115 X111 e111
  have S117 : Go p e below s₁ (entryFrame m #[(.int a), (.long b), (.int d), (.int e0x), (.int f)] maxLocals) T115 (mkF m 95 #[.val (.int a), .val (.long b), .second, .val (.int d), .val (.int e0x), .val (.int f), .val (.int s0), .val (.int s1), .val (.int s2), .val (.int s3), .val (.ref b81), .val (.ref b100), .unset, .unset, .unset, .unset, .unset, .unset, .unset, .unset, .unset, .unset, .unset, .unset] [(.int (2 : Int32)), (.long b), (.int (2 : Int32)), (.ref b100)]) := fun t kt => S116 t (by
    refine XS.aload X115.here hx rfl (hb hby at_90) rfl rfl ?_
    show Steps p.tables e below (T115.setTop (mkF m 92 #[.val (.int a), .val (.long b), .second, .val (.int d), .val (.int e0x), .val (.int f), .val (.int s0), .val (.int s1), .val (.int s2), .val (.int s3), .val (.ref b81), .val (.ref b100), .unset, .unset, .unset, .unset, .unset, .unset, .unset, .unset, .unset, .unset, .unset, .unset] [(.ref b100)])) _
    refine XS.iconst X115.here hx rfl (hb hby at_92) ?_
    show Steps p.tables e below (T115.setTop (mkF m 93 #[.val (.int a), .val (.long b), .second, .val (.int d), .val (.int e0x), .val (.int f), .val (.int s0), .val (.int s1), .val (.int s2), .val (.int s3), .val (.ref b81), .val (.ref b100), .unset, .unset, .unset, .unset, .unset, .unset, .unset, .unset, .unset, .unset, .unset, .unset] [(.int (2 : Int32)), (.ref b100)])) _
    refine XS.lloadN X115.here hx rfl (hb hby at_93) rfl ?_
    show Steps p.tables e below (T115.setTop (mkF m 94 #[.val (.int a), .val (.long b), .second, .val (.int d), .val (.int e0x), .val (.int f), .val (.int s0), .val (.int s1), .val (.int s2), .val (.int s3), .val (.ref b81), .val (.ref b100), .unset, .unset, .unset, .unset, .unset, .unset, .unset, .unset, .unset, .unset, .unset, .unset] [(.long b), (.int (2 : Int32)), (.ref b100)])) _
    refine XS.iconst X115.here hx rfl (hb hby at_94) ?_
    show Steps p.tables e below (T115.setTop (mkF m 95 #[.val (.int a), .val (.long b), .second, .val (.int d), .val (.int e0x), .val (.int f), .val (.int s0), .val (.int s1), .val (.int s2), .val (.int s3), .val (.ref b81), .val (.ref b100), .unset, .unset, .unset, .unset, .unset, .unset, .unset, .unset, .unset, .unset, .unset, .unset] [(.int (2 : Int32)), (.long b), (.int (2 : Int32)), (.ref b100)])) _
    exact kt)
  clear S116
  obtain ⟨v118, T118, L118, X118, hQ118, st118⟩ := own_outS (Jvm.LawKit.callS X115 hx (y := (⟨"com/example/blindroute/blindroute/lp/SparseLinesDotPinLaw", "byteAt", "(JI)J"⟩ : MethodName)) hown (mvT hZ (hw _ (List.mem_of_getElem? (i := 2) rfl))) (mvT hZ (hw _ (List.mem_of_getElem? (i := 3) rfl))) (mvT hZ (hw _ (List.mem_of_getElem? (i := 4) rfl))) (mvT hZ (hw _ (List.mem_of_getElem? (i := 5) rfl))) (by decide) (backOf (W := 2) (rm_byteAt l Z a0 hw [] b (2 : Int32) h115 n0 (Nat.le_trans (Nat.le_trans (Nat.le_trans (Nat.le_trans (Nat.le_trans (Nat.le_trans (Nat.le_trans (Nat.le_trans Z0 E81.1) (Keep.of_wr W85).1) (Keep.of_wr W89).1) (Keep.of_wr W93).1) (Keep.of_wr W97).1) E100.1) (Keep.of_wr W108).1) (Keep.of_wr W115).1)) hZ (hw _ (List.mem_of_getElem? (i := 5) rfl)) (hw _ (List.mem_of_getElem? (i := 4) rfl)) (by decide) (by decide)) (g := (mkF m 95 #[.val (.int a), .val (.long b), .second, .val (.int d), .val (.int e0x), .val (.int f), .val (.int s0), .val (.int s1), .val (.int s2), .val (.int s3), .val (.ref b81), .val (.ref b100), .unset, .unset, .unset, .unset, .unset, .unset, .unset, .unset, .unset, .unset, .unset, .unset] [(.int (2 : Int32)), (.long b), (.int (2 : Int32)), (.ref b100)])) rfl (by rw [hml]; rfl) (argsL := [(.long b), (.int (2 : Int32))]) (rest := [(.int (2 : Int32)), (.ref b100)]) (lenOf pd__JI_J rfl) rfl (by show 2 * 0 + _ ≤ _; exact Nat.le_of_eq rfl) (hb hby at_95) (fun _ _ => ⟨rfl, e115, (by decide : 2 + 0 ≤ _), (by decide : 12 + 0 ≤ _)⟩))
  obtain ⟨rfl, N118q, e118⟩ := hQ118
  have N118 := Fr.app N115 N118q
  have S119 : Go p e below s₁ (entryFrame m #[(.int a), (.long b), (.int d), (.int e0x), (.int f)] maxLocals) T118 (mkF m 98 #[.val (.int a), .val (.long b), .second, .val (.int d), .val (.int e0x), .val (.int f), .val (.int s0), .val (.int s1), .val (.int s2), .val (.int s3), .val (.ref b81), .val (.ref b100), .unset, .unset, .unset, .unset, .unset, .unset, .unset, .unset, .unset, .unset, .unset, .unset] [(.long (ownB b (2 : Int32))), (.int (2 : Int32)), (.ref b100)]) := fun t kt => S117 t (st118 t kt)
  clear S117 st118 X115 e115
  obtain ⟨l2, q_l2⟩ : ∃ z : Int64, z = (ownB b (2 : Int32)) := ⟨_, rfl⟩
  have S120 : Go p e below s₁ (entryFrame m #[(.int a), (.long b), (.int d), (.int e0x), (.int f)] maxLocals) T118 (mkF m 98 #[.val (.int a), .val (.long b), .second, .val (.int d), .val (.int e0x), .val (.int f), .val (.int s0), .val (.int s1), .val (.int s2), .val (.int s3), .val (.ref b81), .val (.ref b100), .unset, .unset, .unset, .unset, .unset, .unset, .unset, .unset, .unset, .unset, .unset, .unset] [(.long l2), (.int (2 : Int32)), (.ref b100)]) := by subst q_l2; exact S119
  clear S119
  have hl2 := own_bb b (2 : Int32)
  rw [← q_l2] at hl2
  obtain ⟨co121, Ao121, qo121, So121, No121, Ho121, Go121⟩ := id V115
  have hino121 : ¬ ((2 : Int32) < 0 ∨ co121.slots.size ≤ ((2 : Int32)).toNatClampNeg) := inb_of So121 ⟨by decide, by decide⟩
  obtain ⟨T122, h122, X122, e122, W122, st122⟩ := stJ X118 hx hZ e118 Ao121 (j := (2 : Int32)) hino121 (g := (mkF m 98 #[.val (.int a), .val (.long b), .second, .val (.int d), .val (.int e0x), .val (.int f), .val (.int s0), .val (.int s1), .val (.int s2), .val (.int s3), .val (.ref b81), .val (.ref b100), .unset, .unset, .unset, .unset, .unset, .unset, .unset, .unset, .unset, .unset, .unset, .unset] [(.long l2), (.int (2 : Int32)), (.ref b100)])) rfl rfl (hb hby at_98)
  have N122 := Fr.snoc X122 N118 g_b100
  have V122 : Arv Z h122 b100 k100 .long (8 : Int32) [(.long l0), (.long l1), (.long l2), (.long (0 : Int64)), (.long (0 : Int64)), (.long (0 : Int64)), (.long (0 : Int64)), (.long (0 : Int64))] (.long (0 : Int64)) := Arv.set Ao121 qo121 So121 No121 Ho121 Go121 rfl W122 2 rfl (Nat.le_of_ble_eq_true rfl)
  have S123 : Go p e below s₁ (entryFrame m #[(.int a), (.long b), (.int d), (.int e0x), (.int f)] maxLocals) T122 (mkF m 99 #[.val (.int a), .val (.long b), .second, .val (.int d), .val (.int e0x), .val (.int f), .val (.int s0), .val (.int s1), .val (.int s2), .val (.int s3), .val (.ref b81), .val (.ref b100), .unset, .unset, .unset, .unset, .unset, .unset, .unset, .unset, .unset, .unset, .unset, .unset] []) := fun t kt => S120 t (st122 t kt)
  clear S120 st122 X118 e118
  have S124 : Go p e below s₁ (entryFrame m #[(.int a), (.long b), (.int d), (.int e0x), (.int f)] maxLocals) T122 (mkF m 104 #[.val (.int a), .val (.long b), .second, .val (.int d), .val (.int e0x), .val (.int f), .val (.int s0), .val (.int s1), .val (.int s2), .val (.int s3), .val (.ref b81), .val (.ref b100), .unset, .unset, .unset, .unset, .unset, .unset, .unset, .unset, .unset, .unset, .unset, .unset] [(.int (3 : Int32)), (.long b), (.int (3 : Int32)), (.ref b100)]) := fun t kt => S123 t (by
    refine XS.aload X122.here hx rfl (hb hby at_99) rfl rfl ?_
    show Steps p.tables e below (T122.setTop (mkF m 101 #[.val (.int a), .val (.long b), .second, .val (.int d), .val (.int e0x), .val (.int f), .val (.int s0), .val (.int s1), .val (.int s2), .val (.int s3), .val (.ref b81), .val (.ref b100), .unset, .unset, .unset, .unset, .unset, .unset, .unset, .unset, .unset, .unset, .unset, .unset] [(.ref b100)])) _
    refine XS.iconst X122.here hx rfl (hb hby at_101) ?_
    show Steps p.tables e below (T122.setTop (mkF m 102 #[.val (.int a), .val (.long b), .second, .val (.int d), .val (.int e0x), .val (.int f), .val (.int s0), .val (.int s1), .val (.int s2), .val (.int s3), .val (.ref b81), .val (.ref b100), .unset, .unset, .unset, .unset, .unset, .unset, .unset, .unset, .unset, .unset, .unset, .unset] [(.int (3 : Int32)), (.ref b100)])) _
    refine XS.lloadN X122.here hx rfl (hb hby at_102) rfl ?_
    show Steps p.tables e below (T122.setTop (mkF m 103 #[.val (.int a), .val (.long b), .second, .val (.int d), .val (.int e0x), .val (.int f), .val (.int s0), .val (.int s1), .val (.int s2), .val (.int s3), .val (.ref b81), .val (.ref b100), .unset, .unset, .unset, .unset, .unset, .unset, .unset, .unset, .unset, .unset, .unset, .unset] [(.long b), (.int (3 : Int32)), (.ref b100)])) _
    refine XS.iconst X122.here hx rfl (hb hby at_103) ?_
    show Steps p.tables e below (T122.setTop (mkF m 104 #[.val (.int a), .val (.long b), .second, .val (.int d), .val (.int e0x), .val (.int f), .val (.int s0), .val (.int s1), .val (.int s2), .val (.int s3), .val (.ref b81), .val (.ref b100), .unset, .unset, .unset, .unset, .unset, .unset, .unset, .unset, .unset, .unset, .unset, .unset] [(.int (3 : Int32)), (.long b), (.int (3 : Int32)), (.ref b100)])) _
    exact kt)
  clear S123
  obtain ⟨v125, T125, L125, X125, hQ125, st125⟩ := own_outS (Jvm.LawKit.callS X122 hx (y := (⟨"com/example/blindroute/blindroute/lp/SparseLinesDotPinLaw", "byteAt", "(JI)J"⟩ : MethodName)) hown (mvT hZ (hw _ (List.mem_of_getElem? (i := 2) rfl))) (mvT hZ (hw _ (List.mem_of_getElem? (i := 3) rfl))) (mvT hZ (hw _ (List.mem_of_getElem? (i := 4) rfl))) (mvT hZ (hw _ (List.mem_of_getElem? (i := 5) rfl))) (by decide) (backOf (W := 2) (rm_byteAt l Z a0 hw [] b (3 : Int32) h122 n0 (Nat.le_trans (Nat.le_trans (Nat.le_trans (Nat.le_trans (Nat.le_trans (Nat.le_trans (Nat.le_trans (Nat.le_trans (Nat.le_trans Z0 E81.1) (Keep.of_wr W85).1) (Keep.of_wr W89).1) (Keep.of_wr W93).1) (Keep.of_wr W97).1) E100.1) (Keep.of_wr W108).1) (Keep.of_wr W115).1) (Keep.of_wr W122).1)) hZ (hw _ (List.mem_of_getElem? (i := 5) rfl)) (hw _ (List.mem_of_getElem? (i := 4) rfl)) (by decide) (by decide)) (g := (mkF m 104 #[.val (.int a), .val (.long b), .second, .val (.int d), .val (.int e0x), .val (.int f), .val (.int s0), .val (.int s1), .val (.int s2), .val (.int s3), .val (.ref b81), .val (.ref b100), .unset, .unset, .unset, .unset, .unset, .unset, .unset, .unset, .unset, .unset, .unset, .unset] [(.int (3 : Int32)), (.long b), (.int (3 : Int32)), (.ref b100)])) rfl (by rw [hml]; rfl) (argsL := [(.long b), (.int (3 : Int32))]) (rest := [(.int (3 : Int32)), (.ref b100)]) (lenOf pd__JI_J rfl) rfl (by show 2 * 0 + _ ≤ _; exact Nat.le_of_eq rfl) (hb hby at_104) (fun _ _ => ⟨rfl, e122, (by decide : 2 + 0 ≤ _), (by decide : 12 + 0 ≤ _)⟩))
  obtain ⟨rfl, N125q, e125⟩ := hQ125
  have N125 := Fr.app N122 N125q
  have S126 : Go p e below s₁ (entryFrame m #[(.int a), (.long b), (.int d), (.int e0x), (.int f)] maxLocals) T125 (mkF m 107 #[.val (.int a), .val (.long b), .second, .val (.int d), .val (.int e0x), .val (.int f), .val (.int s0), .val (.int s1), .val (.int s2), .val (.int s3), .val (.ref b81), .val (.ref b100), .unset, .unset, .unset, .unset, .unset, .unset, .unset, .unset, .unset, .unset, .unset, .unset] [(.long (ownB b (3 : Int32))), (.int (3 : Int32)), (.ref b100)]) := fun t kt => S124 t (st125 t kt)
  clear S124 st125 X122 e122
  obtain ⟨l3, q_l3⟩ : ∃ z : Int64, z = (ownB b (3 : Int32)) := ⟨_, rfl⟩
  have S127 : Go p e below s₁ (entryFrame m #[(.int a), (.long b), (.int d), (.int e0x), (.int f)] maxLocals) T125 (mkF m 107 #[.val (.int a), .val (.long b), .second, .val (.int d), .val (.int e0x), .val (.int f), .val (.int s0), .val (.int s1), .val (.int s2), .val (.int s3), .val (.ref b81), .val (.ref b100), .unset, .unset, .unset, .unset, .unset, .unset, .unset, .unset, .unset, .unset, .unset, .unset] [(.long l3), (.int (3 : Int32)), (.ref b100)]) := by subst q_l3; exact S126
  clear S126
  have hl3 := own_bb b (3 : Int32)
  rw [← q_l3] at hl3
  obtain ⟨co128, Ao128, qo128, So128, No128, Ho128, Go128⟩ := id V122
  have hino128 : ¬ ((3 : Int32) < 0 ∨ co128.slots.size ≤ ((3 : Int32)).toNatClampNeg) := inb_of So128 ⟨by decide, by decide⟩
  obtain ⟨T129, h129, X129, e129, W129, st129⟩ := stJ X125 hx hZ e125 Ao128 (j := (3 : Int32)) hino128 (g := (mkF m 107 #[.val (.int a), .val (.long b), .second, .val (.int d), .val (.int e0x), .val (.int f), .val (.int s0), .val (.int s1), .val (.int s2), .val (.int s3), .val (.ref b81), .val (.ref b100), .unset, .unset, .unset, .unset, .unset, .unset, .unset, .unset, .unset, .unset, .unset, .unset] [(.long l3), (.int (3 : Int32)), (.ref b100)])) rfl rfl (hb hby at_107)
  have N129 := Fr.snoc X129 N125 g_b100
  have V129 : Arv Z h129 b100 k100 .long (8 : Int32) [(.long l0), (.long l1), (.long l2), (.long l3), (.long (0 : Int64)), (.long (0 : Int64)), (.long (0 : Int64)), (.long (0 : Int64))] (.long (0 : Int64)) := Arv.set Ao128 qo128 So128 No128 Ho128 Go128 rfl W129 3 rfl (Nat.le_of_ble_eq_true rfl)
  have S130 : Go p e below s₁ (entryFrame m #[(.int a), (.long b), (.int d), (.int e0x), (.int f)] maxLocals) T129 (mkF m 108 #[.val (.int a), .val (.long b), .second, .val (.int d), .val (.int e0x), .val (.int f), .val (.int s0), .val (.int s1), .val (.int s2), .val (.int s3), .val (.ref b81), .val (.ref b100), .unset, .unset, .unset, .unset, .unset, .unset, .unset, .unset, .unset, .unset, .unset, .unset] []) := fun t kt => S127 t (st129 t kt)
  clear S127 st129 X125 e125
  have S131 : Go p e below s₁ (entryFrame m #[(.int a), (.long b), (.int d), (.int e0x), (.int f)] maxLocals) T129 (mkF m 113 #[.val (.int a), .val (.long b), .second, .val (.int d), .val (.int e0x), .val (.int f), .val (.int s0), .val (.int s1), .val (.int s2), .val (.int s3), .val (.ref b81), .val (.ref b100), .unset, .unset, .unset, .unset, .unset, .unset, .unset, .unset, .unset, .unset, .unset, .unset] [(.int (4 : Int32)), (.long b), (.int (4 : Int32)), (.ref b100)]) := fun t kt => S130 t (by
    refine XS.aload X129.here hx rfl (hb hby at_108) rfl rfl ?_
    show Steps p.tables e below (T129.setTop (mkF m 110 #[.val (.int a), .val (.long b), .second, .val (.int d), .val (.int e0x), .val (.int f), .val (.int s0), .val (.int s1), .val (.int s2), .val (.int s3), .val (.ref b81), .val (.ref b100), .unset, .unset, .unset, .unset, .unset, .unset, .unset, .unset, .unset, .unset, .unset, .unset] [(.ref b100)])) _
    refine XS.iconst X129.here hx rfl (hb hby at_110) ?_
    show Steps p.tables e below (T129.setTop (mkF m 111 #[.val (.int a), .val (.long b), .second, .val (.int d), .val (.int e0x), .val (.int f), .val (.int s0), .val (.int s1), .val (.int s2), .val (.int s3), .val (.ref b81), .val (.ref b100), .unset, .unset, .unset, .unset, .unset, .unset, .unset, .unset, .unset, .unset, .unset, .unset] [(.int (4 : Int32)), (.ref b100)])) _
    refine XS.lloadN X129.here hx rfl (hb hby at_111) rfl ?_
    show Steps p.tables e below (T129.setTop (mkF m 112 #[.val (.int a), .val (.long b), .second, .val (.int d), .val (.int e0x), .val (.int f), .val (.int s0), .val (.int s1), .val (.int s2), .val (.int s3), .val (.ref b81), .val (.ref b100), .unset, .unset, .unset, .unset, .unset, .unset, .unset, .unset, .unset, .unset, .unset, .unset] [(.long b), (.int (4 : Int32)), (.ref b100)])) _
    refine XS.iconst X129.here hx rfl (hb hby at_112) ?_
    show Steps p.tables e below (T129.setTop (mkF m 113 #[.val (.int a), .val (.long b), .second, .val (.int d), .val (.int e0x), .val (.int f), .val (.int s0), .val (.int s1), .val (.int s2), .val (.int s3), .val (.ref b81), .val (.ref b100), .unset, .unset, .unset, .unset, .unset, .unset, .unset, .unset, .unset, .unset, .unset, .unset] [(.int (4 : Int32)), (.long b), (.int (4 : Int32)), (.ref b100)])) _
    exact kt)
  clear S130
  obtain ⟨v132, T132, L132, X132, hQ132, st132⟩ := own_outS (Jvm.LawKit.callS X129 hx (y := (⟨"com/example/blindroute/blindroute/lp/SparseLinesDotPinLaw", "byteAt", "(JI)J"⟩ : MethodName)) hown (mvT hZ (hw _ (List.mem_of_getElem? (i := 2) rfl))) (mvT hZ (hw _ (List.mem_of_getElem? (i := 3) rfl))) (mvT hZ (hw _ (List.mem_of_getElem? (i := 4) rfl))) (mvT hZ (hw _ (List.mem_of_getElem? (i := 5) rfl))) (by decide) (backOf (W := 2) (rm_byteAt l Z a0 hw [] b (4 : Int32) h129 n0 (Nat.le_trans (Nat.le_trans (Nat.le_trans (Nat.le_trans (Nat.le_trans (Nat.le_trans (Nat.le_trans (Nat.le_trans (Nat.le_trans (Nat.le_trans Z0 E81.1) (Keep.of_wr W85).1) (Keep.of_wr W89).1) (Keep.of_wr W93).1) (Keep.of_wr W97).1) E100.1) (Keep.of_wr W108).1) (Keep.of_wr W115).1) (Keep.of_wr W122).1) (Keep.of_wr W129).1)) hZ (hw _ (List.mem_of_getElem? (i := 5) rfl)) (hw _ (List.mem_of_getElem? (i := 4) rfl)) (by decide) (by decide)) (g := (mkF m 113 #[.val (.int a), .val (.long b), .second, .val (.int d), .val (.int e0x), .val (.int f), .val (.int s0), .val (.int s1), .val (.int s2), .val (.int s3), .val (.ref b81), .val (.ref b100), .unset, .unset, .unset, .unset, .unset, .unset, .unset, .unset, .unset, .unset, .unset, .unset] [(.int (4 : Int32)), (.long b), (.int (4 : Int32)), (.ref b100)])) rfl (by rw [hml]; rfl) (argsL := [(.long b), (.int (4 : Int32))]) (rest := [(.int (4 : Int32)), (.ref b100)]) (lenOf pd__JI_J rfl) rfl (by show 2 * 0 + _ ≤ _; exact Nat.le_of_eq rfl) (hb hby at_113) (fun _ _ => ⟨rfl, e129, (by decide : 2 + 0 ≤ _), (by decide : 12 + 0 ≤ _)⟩))
  obtain ⟨rfl, N132q, e132⟩ := hQ132
  have N132 := Fr.app N129 N132q
  have S133 : Go p e below s₁ (entryFrame m #[(.int a), (.long b), (.int d), (.int e0x), (.int f)] maxLocals) T132 (mkF m 116 #[.val (.int a), .val (.long b), .second, .val (.int d), .val (.int e0x), .val (.int f), .val (.int s0), .val (.int s1), .val (.int s2), .val (.int s3), .val (.ref b81), .val (.ref b100), .unset, .unset, .unset, .unset, .unset, .unset, .unset, .unset, .unset, .unset, .unset, .unset] [(.long (ownB b (4 : Int32))), (.int (4 : Int32)), (.ref b100)]) := fun t kt => S131 t (st132 t kt)
  clear S131 st132 X129 e129
  obtain ⟨l4, q_l4⟩ : ∃ z : Int64, z = (ownB b (4 : Int32)) := ⟨_, rfl⟩
  have S134 : Go p e below s₁ (entryFrame m #[(.int a), (.long b), (.int d), (.int e0x), (.int f)] maxLocals) T132 (mkF m 116 #[.val (.int a), .val (.long b), .second, .val (.int d), .val (.int e0x), .val (.int f), .val (.int s0), .val (.int s1), .val (.int s2), .val (.int s3), .val (.ref b81), .val (.ref b100), .unset, .unset, .unset, .unset, .unset, .unset, .unset, .unset, .unset, .unset, .unset, .unset] [(.long l4), (.int (4 : Int32)), (.ref b100)]) := by subst q_l4; exact S133
  clear S133
  have hl4 := own_bb b (4 : Int32)
  rw [← q_l4] at hl4
  obtain ⟨co135, Ao135, qo135, So135, No135, Ho135, Go135⟩ := id V129
  have hino135 : ¬ ((4 : Int32) < 0 ∨ co135.slots.size ≤ ((4 : Int32)).toNatClampNeg) := inb_of So135 ⟨by decide, by decide⟩
  obtain ⟨T136, h136, X136, e136, W136, st136⟩ := stJ X132 hx hZ e132 Ao135 (j := (4 : Int32)) hino135 (g := (mkF m 116 #[.val (.int a), .val (.long b), .second, .val (.int d), .val (.int e0x), .val (.int f), .val (.int s0), .val (.int s1), .val (.int s2), .val (.int s3), .val (.ref b81), .val (.ref b100), .unset, .unset, .unset, .unset, .unset, .unset, .unset, .unset, .unset, .unset, .unset, .unset] [(.long l4), (.int (4 : Int32)), (.ref b100)])) rfl rfl (hb hby at_116)
  have N136 := Fr.snoc X136 N132 g_b100
  have V136 : Arv Z h136 b100 k100 .long (8 : Int32) [(.long l0), (.long l1), (.long l2), (.long l3), (.long l4), (.long (0 : Int64)), (.long (0 : Int64)), (.long (0 : Int64))] (.long (0 : Int64)) := Arv.set Ao135 qo135 So135 No135 Ho135 Go135 rfl W136 4 rfl (Nat.le_of_ble_eq_true rfl)
  have S137 : Go p e below s₁ (entryFrame m #[(.int a), (.long b), (.int d), (.int e0x), (.int f)] maxLocals) T136 (mkF m 117 #[.val (.int a), .val (.long b), .second, .val (.int d), .val (.int e0x), .val (.int f), .val (.int s0), .val (.int s1), .val (.int s2), .val (.int s3), .val (.ref b81), .val (.ref b100), .unset, .unset, .unset, .unset, .unset, .unset, .unset, .unset, .unset, .unset, .unset, .unset] []) := fun t kt => S134 t (st136 t kt)
  clear S134 st136 X132 e132
  have S138 : Go p e below s₁ (entryFrame m #[(.int a), (.long b), (.int d), (.int e0x), (.int f)] maxLocals) T136 (mkF m 122 #[.val (.int a), .val (.long b), .second, .val (.int d), .val (.int e0x), .val (.int f), .val (.int s0), .val (.int s1), .val (.int s2), .val (.int s3), .val (.ref b81), .val (.ref b100), .unset, .unset, .unset, .unset, .unset, .unset, .unset, .unset, .unset, .unset, .unset, .unset] [(.int (5 : Int32)), (.long b), (.int (5 : Int32)), (.ref b100)]) := fun t kt => S137 t (by
    refine XS.aload X136.here hx rfl (hb hby at_117) rfl rfl ?_
    show Steps p.tables e below (T136.setTop (mkF m 119 #[.val (.int a), .val (.long b), .second, .val (.int d), .val (.int e0x), .val (.int f), .val (.int s0), .val (.int s1), .val (.int s2), .val (.int s3), .val (.ref b81), .val (.ref b100), .unset, .unset, .unset, .unset, .unset, .unset, .unset, .unset, .unset, .unset, .unset, .unset] [(.ref b100)])) _
    refine XS.iconst X136.here hx rfl (hb hby at_119) ?_
    show Steps p.tables e below (T136.setTop (mkF m 120 #[.val (.int a), .val (.long b), .second, .val (.int d), .val (.int e0x), .val (.int f), .val (.int s0), .val (.int s1), .val (.int s2), .val (.int s3), .val (.ref b81), .val (.ref b100), .unset, .unset, .unset, .unset, .unset, .unset, .unset, .unset, .unset, .unset, .unset, .unset] [(.int (5 : Int32)), (.ref b100)])) _
    refine XS.lloadN X136.here hx rfl (hb hby at_120) rfl ?_
    show Steps p.tables e below (T136.setTop (mkF m 121 #[.val (.int a), .val (.long b), .second, .val (.int d), .val (.int e0x), .val (.int f), .val (.int s0), .val (.int s1), .val (.int s2), .val (.int s3), .val (.ref b81), .val (.ref b100), .unset, .unset, .unset, .unset, .unset, .unset, .unset, .unset, .unset, .unset, .unset, .unset] [(.long b), (.int (5 : Int32)), (.ref b100)])) _
    refine XS.iconst X136.here hx rfl (hb hby at_121) ?_
    show Steps p.tables e below (T136.setTop (mkF m 122 #[.val (.int a), .val (.long b), .second, .val (.int d), .val (.int e0x), .val (.int f), .val (.int s0), .val (.int s1), .val (.int s2), .val (.int s3), .val (.ref b81), .val (.ref b100), .unset, .unset, .unset, .unset, .unset, .unset, .unset, .unset, .unset, .unset, .unset, .unset] [(.int (5 : Int32)), (.long b), (.int (5 : Int32)), (.ref b100)])) _
    exact kt)
  clear S137
  obtain ⟨v139, T139, L139, X139, hQ139, st139⟩ := own_outS (Jvm.LawKit.callS X136 hx (y := (⟨"com/example/blindroute/blindroute/lp/SparseLinesDotPinLaw", "byteAt", "(JI)J"⟩ : MethodName)) hown (mvT hZ (hw _ (List.mem_of_getElem? (i := 2) rfl))) (mvT hZ (hw _ (List.mem_of_getElem? (i := 3) rfl))) (mvT hZ (hw _ (List.mem_of_getElem? (i := 4) rfl))) (mvT hZ (hw _ (List.mem_of_getElem? (i := 5) rfl))) (by decide) (backOf (W := 2) (rm_byteAt l Z a0 hw [] b (5 : Int32) h136 n0 (Nat.le_trans (Nat.le_trans (Nat.le_trans (Nat.le_trans (Nat.le_trans (Nat.le_trans (Nat.le_trans (Nat.le_trans (Nat.le_trans (Nat.le_trans (Nat.le_trans Z0 E81.1) (Keep.of_wr W85).1) (Keep.of_wr W89).1) (Keep.of_wr W93).1) (Keep.of_wr W97).1) E100.1) (Keep.of_wr W108).1) (Keep.of_wr W115).1) (Keep.of_wr W122).1) (Keep.of_wr W129).1) (Keep.of_wr W136).1)) hZ (hw _ (List.mem_of_getElem? (i := 5) rfl)) (hw _ (List.mem_of_getElem? (i := 4) rfl)) (by decide) (by decide)) (g := (mkF m 122 #[.val (.int a), .val (.long b), .second, .val (.int d), .val (.int e0x), .val (.int f), .val (.int s0), .val (.int s1), .val (.int s2), .val (.int s3), .val (.ref b81), .val (.ref b100), .unset, .unset, .unset, .unset, .unset, .unset, .unset, .unset, .unset, .unset, .unset, .unset] [(.int (5 : Int32)), (.long b), (.int (5 : Int32)), (.ref b100)])) rfl (by rw [hml]; rfl) (argsL := [(.long b), (.int (5 : Int32))]) (rest := [(.int (5 : Int32)), (.ref b100)]) (lenOf pd__JI_J rfl) rfl (by show 2 * 0 + _ ≤ _; exact Nat.le_of_eq rfl) (hb hby at_122) (fun _ _ => ⟨rfl, e136, (by decide : 2 + 0 ≤ _), (by decide : 12 + 0 ≤ _)⟩))
  obtain ⟨rfl, N139q, e139⟩ := hQ139
  have N139 := Fr.app N136 N139q
  have S140 : Go p e below s₁ (entryFrame m #[(.int a), (.long b), (.int d), (.int e0x), (.int f)] maxLocals) T139 (mkF m 125 #[.val (.int a), .val (.long b), .second, .val (.int d), .val (.int e0x), .val (.int f), .val (.int s0), .val (.int s1), .val (.int s2), .val (.int s3), .val (.ref b81), .val (.ref b100), .unset, .unset, .unset, .unset, .unset, .unset, .unset, .unset, .unset, .unset, .unset, .unset] [(.long (ownB b (5 : Int32))), (.int (5 : Int32)), (.ref b100)]) := fun t kt => S138 t (st139 t kt)
  clear S138 st139 X136 e136
  obtain ⟨l5, q_l5⟩ : ∃ z : Int64, z = (ownB b (5 : Int32)) := ⟨_, rfl⟩
  have S141 : Go p e below s₁ (entryFrame m #[(.int a), (.long b), (.int d), (.int e0x), (.int f)] maxLocals) T139 (mkF m 125 #[.val (.int a), .val (.long b), .second, .val (.int d), .val (.int e0x), .val (.int f), .val (.int s0), .val (.int s1), .val (.int s2), .val (.int s3), .val (.ref b81), .val (.ref b100), .unset, .unset, .unset, .unset, .unset, .unset, .unset, .unset, .unset, .unset, .unset, .unset] [(.long l5), (.int (5 : Int32)), (.ref b100)]) := by subst q_l5; exact S140
  clear S140
  have hl5 := own_bb b (5 : Int32)
  rw [← q_l5] at hl5
  obtain ⟨co142, Ao142, qo142, So142, No142, Ho142, Go142⟩ := id V136
  have hino142 : ¬ ((5 : Int32) < 0 ∨ co142.slots.size ≤ ((5 : Int32)).toNatClampNeg) := inb_of So142 ⟨by decide, by decide⟩
  obtain ⟨T143, h143, X143, e143, W143, st143⟩ := stJ X139 hx hZ e139 Ao142 (j := (5 : Int32)) hino142 (g := (mkF m 125 #[.val (.int a), .val (.long b), .second, .val (.int d), .val (.int e0x), .val (.int f), .val (.int s0), .val (.int s1), .val (.int s2), .val (.int s3), .val (.ref b81), .val (.ref b100), .unset, .unset, .unset, .unset, .unset, .unset, .unset, .unset, .unset, .unset, .unset, .unset] [(.long l5), (.int (5 : Int32)), (.ref b100)])) rfl rfl (hb hby at_125)
  have N143 := Fr.snoc X143 N139 g_b100
  have V143 : Arv Z h143 b100 k100 .long (8 : Int32) [(.long l0), (.long l1), (.long l2), (.long l3), (.long l4), (.long l5), (.long (0 : Int64)), (.long (0 : Int64))] (.long (0 : Int64)) := Arv.set Ao142 qo142 So142 No142 Ho142 Go142 rfl W143 5 rfl (Nat.le_of_ble_eq_true rfl)
  have S144 : Go p e below s₁ (entryFrame m #[(.int a), (.long b), (.int d), (.int e0x), (.int f)] maxLocals) T143 (mkF m 126 #[.val (.int a), .val (.long b), .second, .val (.int d), .val (.int e0x), .val (.int f), .val (.int s0), .val (.int s1), .val (.int s2), .val (.int s3), .val (.ref b81), .val (.ref b100), .unset, .unset, .unset, .unset, .unset, .unset, .unset, .unset, .unset, .unset, .unset, .unset] []) := fun t kt => S141 t (st143 t kt)
  clear S141 st143 X139 e139
  have S145 : Go p e below s₁ (entryFrame m #[(.int a), (.long b), (.int d), (.int e0x), (.int f)] maxLocals) T143 (mkF m 133 #[.val (.int a), .val (.long b), .second, .val (.int d), .val (.int e0x), .val (.int f), .val (.int s0), .val (.int s1), .val (.int s2), .val (.int s3), .val (.ref b81), .val (.ref b100), .unset, .unset, .unset, .unset, .unset, .unset, .unset, .unset, .unset, .unset, .unset, .unset] [(.int (6 : Int32)), (.long b), (.int (6 : Int32)), (.ref b100)]) := fun t kt => S144 t (by
    refine XS.aload X143.here hx rfl (hb hby at_126) rfl rfl ?_
    show Steps p.tables e below (T143.setTop (mkF m 128 #[.val (.int a), .val (.long b), .second, .val (.int d), .val (.int e0x), .val (.int f), .val (.int s0), .val (.int s1), .val (.int s2), .val (.int s3), .val (.ref b81), .val (.ref b100), .unset, .unset, .unset, .unset, .unset, .unset, .unset, .unset, .unset, .unset, .unset, .unset] [(.ref b100)])) _
    refine XS.bipush X143.here hx rfl (hb hby at_128) ?_
    show Steps p.tables e below (T143.setTop (mkF m 130 #[.val (.int a), .val (.long b), .second, .val (.int d), .val (.int e0x), .val (.int f), .val (.int s0), .val (.int s1), .val (.int s2), .val (.int s3), .val (.ref b81), .val (.ref b100), .unset, .unset, .unset, .unset, .unset, .unset, .unset, .unset, .unset, .unset, .unset, .unset] [(.int (6 : Int32)), (.ref b100)])) _
    refine XS.lloadN X143.here hx rfl (hb hby at_130) rfl ?_
    show Steps p.tables e below (T143.setTop (mkF m 131 #[.val (.int a), .val (.long b), .second, .val (.int d), .val (.int e0x), .val (.int f), .val (.int s0), .val (.int s1), .val (.int s2), .val (.int s3), .val (.ref b81), .val (.ref b100), .unset, .unset, .unset, .unset, .unset, .unset, .unset, .unset, .unset, .unset, .unset, .unset] [(.long b), (.int (6 : Int32)), (.ref b100)])) _
    refine XS.bipush X143.here hx rfl (hb hby at_131) ?_
    show Steps p.tables e below (T143.setTop (mkF m 133 #[.val (.int a), .val (.long b), .second, .val (.int d), .val (.int e0x), .val (.int f), .val (.int s0), .val (.int s1), .val (.int s2), .val (.int s3), .val (.ref b81), .val (.ref b100), .unset, .unset, .unset, .unset, .unset, .unset, .unset, .unset, .unset, .unset, .unset, .unset] [(.int (6 : Int32)), (.long b), (.int (6 : Int32)), (.ref b100)])) _
    exact kt)
  clear S144
  obtain ⟨v146, T146, L146, X146, hQ146, st146⟩ := own_outS (Jvm.LawKit.callS X143 hx (y := (⟨"com/example/blindroute/blindroute/lp/SparseLinesDotPinLaw", "byteAt", "(JI)J"⟩ : MethodName)) hown (mvT hZ (hw _ (List.mem_of_getElem? (i := 2) rfl))) (mvT hZ (hw _ (List.mem_of_getElem? (i := 3) rfl))) (mvT hZ (hw _ (List.mem_of_getElem? (i := 4) rfl))) (mvT hZ (hw _ (List.mem_of_getElem? (i := 5) rfl))) (by decide) (backOf (W := 2) (rm_byteAt l Z a0 hw [] b (6 : Int32) h143 n0 (Nat.le_trans (Nat.le_trans (Nat.le_trans (Nat.le_trans (Nat.le_trans (Nat.le_trans (Nat.le_trans (Nat.le_trans (Nat.le_trans (Nat.le_trans (Nat.le_trans (Nat.le_trans Z0 E81.1) (Keep.of_wr W85).1) (Keep.of_wr W89).1) (Keep.of_wr W93).1) (Keep.of_wr W97).1) E100.1) (Keep.of_wr W108).1) (Keep.of_wr W115).1) (Keep.of_wr W122).1) (Keep.of_wr W129).1) (Keep.of_wr W136).1) (Keep.of_wr W143).1)) hZ (hw _ (List.mem_of_getElem? (i := 5) rfl)) (hw _ (List.mem_of_getElem? (i := 4) rfl)) (by decide) (by decide)) (g := (mkF m 133 #[.val (.int a), .val (.long b), .second, .val (.int d), .val (.int e0x), .val (.int f), .val (.int s0), .val (.int s1), .val (.int s2), .val (.int s3), .val (.ref b81), .val (.ref b100), .unset, .unset, .unset, .unset, .unset, .unset, .unset, .unset, .unset, .unset, .unset, .unset] [(.int (6 : Int32)), (.long b), (.int (6 : Int32)), (.ref b100)])) rfl (by rw [hml]; rfl) (argsL := [(.long b), (.int (6 : Int32))]) (rest := [(.int (6 : Int32)), (.ref b100)]) (lenOf pd__JI_J rfl) rfl (by show 2 * 0 + _ ≤ _; exact Nat.le_of_eq rfl) (hb hby at_133) (fun _ _ => ⟨rfl, e143, (by decide : 2 + 0 ≤ _), (by decide : 12 + 0 ≤ _)⟩))
  obtain ⟨rfl, N146q, e146⟩ := hQ146
  have N146 := Fr.app N143 N146q
  have S147 : Go p e below s₁ (entryFrame m #[(.int a), (.long b), (.int d), (.int e0x), (.int f)] maxLocals) T146 (mkF m 136 #[.val (.int a), .val (.long b), .second, .val (.int d), .val (.int e0x), .val (.int f), .val (.int s0), .val (.int s1), .val (.int s2), .val (.int s3), .val (.ref b81), .val (.ref b100), .unset, .unset, .unset, .unset, .unset, .unset, .unset, .unset, .unset, .unset, .unset, .unset] [(.long (ownB b (6 : Int32))), (.int (6 : Int32)), (.ref b100)]) := fun t kt => S145 t (st146 t kt)
  clear S145 st146 X143 e143
  obtain ⟨l6, q_l6⟩ : ∃ z : Int64, z = (ownB b (6 : Int32)) := ⟨_, rfl⟩
  have S148 : Go p e below s₁ (entryFrame m #[(.int a), (.long b), (.int d), (.int e0x), (.int f)] maxLocals) T146 (mkF m 136 #[.val (.int a), .val (.long b), .second, .val (.int d), .val (.int e0x), .val (.int f), .val (.int s0), .val (.int s1), .val (.int s2), .val (.int s3), .val (.ref b81), .val (.ref b100), .unset, .unset, .unset, .unset, .unset, .unset, .unset, .unset, .unset, .unset, .unset, .unset] [(.long l6), (.int (6 : Int32)), (.ref b100)]) := by subst q_l6; exact S147
  clear S147
  have hl6 := own_bb b (6 : Int32)
  rw [← q_l6] at hl6
  obtain ⟨co149, Ao149, qo149, So149, No149, Ho149, Go149⟩ := id V143
  have hino149 : ¬ ((6 : Int32) < 0 ∨ co149.slots.size ≤ ((6 : Int32)).toNatClampNeg) := inb_of So149 ⟨by decide, by decide⟩
  obtain ⟨T150, h150, X150, e150, W150, st150⟩ := stJ X146 hx hZ e146 Ao149 (j := (6 : Int32)) hino149 (g := (mkF m 136 #[.val (.int a), .val (.long b), .second, .val (.int d), .val (.int e0x), .val (.int f), .val (.int s0), .val (.int s1), .val (.int s2), .val (.int s3), .val (.ref b81), .val (.ref b100), .unset, .unset, .unset, .unset, .unset, .unset, .unset, .unset, .unset, .unset, .unset, .unset] [(.long l6), (.int (6 : Int32)), (.ref b100)])) rfl rfl (hb hby at_136)
  have N150 := Fr.snoc X150 N146 g_b100
  have V150 : Arv Z h150 b100 k100 .long (8 : Int32) [(.long l0), (.long l1), (.long l2), (.long l3), (.long l4), (.long l5), (.long l6), (.long (0 : Int64))] (.long (0 : Int64)) := Arv.set Ao149 qo149 So149 No149 Ho149 Go149 rfl W150 6 rfl (Nat.le_of_ble_eq_true rfl)
  have S151 : Go p e below s₁ (entryFrame m #[(.int a), (.long b), (.int d), (.int e0x), (.int f)] maxLocals) T150 (mkF m 137 #[.val (.int a), .val (.long b), .second, .val (.int d), .val (.int e0x), .val (.int f), .val (.int s0), .val (.int s1), .val (.int s2), .val (.int s3), .val (.ref b81), .val (.ref b100), .unset, .unset, .unset, .unset, .unset, .unset, .unset, .unset, .unset, .unset, .unset, .unset] []) := fun t kt => S148 t (st150 t kt)
  clear S148 st150 X146 e146
  have S152 : Go p e below s₁ (entryFrame m #[(.int a), (.long b), (.int d), (.int e0x), (.int f)] maxLocals) T150 (mkF m 144 #[.val (.int a), .val (.long b), .second, .val (.int d), .val (.int e0x), .val (.int f), .val (.int s0), .val (.int s1), .val (.int s2), .val (.int s3), .val (.ref b81), .val (.ref b100), .unset, .unset, .unset, .unset, .unset, .unset, .unset, .unset, .unset, .unset, .unset, .unset] [(.int (7 : Int32)), (.long b), (.int (7 : Int32)), (.ref b100)]) := fun t kt => S151 t (by
    refine XS.aload X150.here hx rfl (hb hby at_137) rfl rfl ?_
    show Steps p.tables e below (T150.setTop (mkF m 139 #[.val (.int a), .val (.long b), .second, .val (.int d), .val (.int e0x), .val (.int f), .val (.int s0), .val (.int s1), .val (.int s2), .val (.int s3), .val (.ref b81), .val (.ref b100), .unset, .unset, .unset, .unset, .unset, .unset, .unset, .unset, .unset, .unset, .unset, .unset] [(.ref b100)])) _
    refine XS.bipush X150.here hx rfl (hb hby at_139) ?_
    show Steps p.tables e below (T150.setTop (mkF m 141 #[.val (.int a), .val (.long b), .second, .val (.int d), .val (.int e0x), .val (.int f), .val (.int s0), .val (.int s1), .val (.int s2), .val (.int s3), .val (.ref b81), .val (.ref b100), .unset, .unset, .unset, .unset, .unset, .unset, .unset, .unset, .unset, .unset, .unset, .unset] [(.int (7 : Int32)), (.ref b100)])) _
    refine XS.lloadN X150.here hx rfl (hb hby at_141) rfl ?_
    show Steps p.tables e below (T150.setTop (mkF m 142 #[.val (.int a), .val (.long b), .second, .val (.int d), .val (.int e0x), .val (.int f), .val (.int s0), .val (.int s1), .val (.int s2), .val (.int s3), .val (.ref b81), .val (.ref b100), .unset, .unset, .unset, .unset, .unset, .unset, .unset, .unset, .unset, .unset, .unset, .unset] [(.long b), (.int (7 : Int32)), (.ref b100)])) _
    refine XS.bipush X150.here hx rfl (hb hby at_142) ?_
    show Steps p.tables e below (T150.setTop (mkF m 144 #[.val (.int a), .val (.long b), .second, .val (.int d), .val (.int e0x), .val (.int f), .val (.int s0), .val (.int s1), .val (.int s2), .val (.int s3), .val (.ref b81), .val (.ref b100), .unset, .unset, .unset, .unset, .unset, .unset, .unset, .unset, .unset, .unset, .unset, .unset] [(.int (7 : Int32)), (.long b), (.int (7 : Int32)), (.ref b100)])) _
    exact kt)
  clear S151
  obtain ⟨v153, T153, L153, X153, hQ153, st153⟩ := own_outS (Jvm.LawKit.callS X150 hx (y := (⟨"com/example/blindroute/blindroute/lp/SparseLinesDotPinLaw", "byteAt", "(JI)J"⟩ : MethodName)) hown (mvT hZ (hw _ (List.mem_of_getElem? (i := 2) rfl))) (mvT hZ (hw _ (List.mem_of_getElem? (i := 3) rfl))) (mvT hZ (hw _ (List.mem_of_getElem? (i := 4) rfl))) (mvT hZ (hw _ (List.mem_of_getElem? (i := 5) rfl))) (by decide) (backOf (W := 2) (rm_byteAt l Z a0 hw [] b (7 : Int32) h150 n0 (Nat.le_trans (Nat.le_trans (Nat.le_trans (Nat.le_trans (Nat.le_trans (Nat.le_trans (Nat.le_trans (Nat.le_trans (Nat.le_trans (Nat.le_trans (Nat.le_trans (Nat.le_trans (Nat.le_trans Z0 E81.1) (Keep.of_wr W85).1) (Keep.of_wr W89).1) (Keep.of_wr W93).1) (Keep.of_wr W97).1) E100.1) (Keep.of_wr W108).1) (Keep.of_wr W115).1) (Keep.of_wr W122).1) (Keep.of_wr W129).1) (Keep.of_wr W136).1) (Keep.of_wr W143).1) (Keep.of_wr W150).1)) hZ (hw _ (List.mem_of_getElem? (i := 5) rfl)) (hw _ (List.mem_of_getElem? (i := 4) rfl)) (by decide) (by decide)) (g := (mkF m 144 #[.val (.int a), .val (.long b), .second, .val (.int d), .val (.int e0x), .val (.int f), .val (.int s0), .val (.int s1), .val (.int s2), .val (.int s3), .val (.ref b81), .val (.ref b100), .unset, .unset, .unset, .unset, .unset, .unset, .unset, .unset, .unset, .unset, .unset, .unset] [(.int (7 : Int32)), (.long b), (.int (7 : Int32)), (.ref b100)])) rfl (by rw [hml]; rfl) (argsL := [(.long b), (.int (7 : Int32))]) (rest := [(.int (7 : Int32)), (.ref b100)]) (lenOf pd__JI_J rfl) rfl (by show 2 * 0 + _ ≤ _; exact Nat.le_of_eq rfl) (hb hby at_144) (fun _ _ => ⟨rfl, e150, (by decide : 2 + 0 ≤ _), (by decide : 12 + 0 ≤ _)⟩))
  obtain ⟨rfl, N153q, e153⟩ := hQ153
  have N153 := Fr.app N150 N153q
  have S154 : Go p e below s₁ (entryFrame m #[(.int a), (.long b), (.int d), (.int e0x), (.int f)] maxLocals) T153 (mkF m 147 #[.val (.int a), .val (.long b), .second, .val (.int d), .val (.int e0x), .val (.int f), .val (.int s0), .val (.int s1), .val (.int s2), .val (.int s3), .val (.ref b81), .val (.ref b100), .unset, .unset, .unset, .unset, .unset, .unset, .unset, .unset, .unset, .unset, .unset, .unset] [(.long (ownB b (7 : Int32))), (.int (7 : Int32)), (.ref b100)]) := fun t kt => S152 t (st153 t kt)
  clear S152 st153 X150 e150
  obtain ⟨l7, q_l7⟩ : ∃ z : Int64, z = (ownB b (7 : Int32)) := ⟨_, rfl⟩
  have S155 : Go p e below s₁ (entryFrame m #[(.int a), (.long b), (.int d), (.int e0x), (.int f)] maxLocals) T153 (mkF m 147 #[.val (.int a), .val (.long b), .second, .val (.int d), .val (.int e0x), .val (.int f), .val (.int s0), .val (.int s1), .val (.int s2), .val (.int s3), .val (.ref b81), .val (.ref b100), .unset, .unset, .unset, .unset, .unset, .unset, .unset, .unset, .unset, .unset, .unset, .unset] [(.long l7), (.int (7 : Int32)), (.ref b100)]) := by subst q_l7; exact S154
  clear S154
  have hl7 := own_bb b (7 : Int32)
  rw [← q_l7] at hl7
  obtain ⟨co156, Ao156, qo156, So156, No156, Ho156, Go156⟩ := id V150
  have hino156 : ¬ ((7 : Int32) < 0 ∨ co156.slots.size ≤ ((7 : Int32)).toNatClampNeg) := inb_of So156 ⟨by decide, by decide⟩
  obtain ⟨T157, h157, X157, e157, W157, st157⟩ := stJ X153 hx hZ e153 Ao156 (j := (7 : Int32)) hino156 (g := (mkF m 147 #[.val (.int a), .val (.long b), .second, .val (.int d), .val (.int e0x), .val (.int f), .val (.int s0), .val (.int s1), .val (.int s2), .val (.int s3), .val (.ref b81), .val (.ref b100), .unset, .unset, .unset, .unset, .unset, .unset, .unset, .unset, .unset, .unset, .unset, .unset] [(.long l7), (.int (7 : Int32)), (.ref b100)])) rfl rfl (hb hby at_147)
  have N157 := Fr.snoc X157 N153 g_b100
  have V157 : Arv Z h157 b100 k100 .long (8 : Int32) [(.long l0), (.long l1), (.long l2), (.long l3), (.long l4), (.long l5), (.long l6), (.long l7)] (.long (0 : Int64)) := Arv.set Ao156 qo156 So156 No156 Ho156 Go156 rfl W157 7 rfl (Nat.le_of_ble_eq_true rfl)
  have S158 : Go p e below s₁ (entryFrame m #[(.int a), (.long b), (.int d), (.int e0x), (.int f)] maxLocals) T157 (mkF m 148 #[.val (.int a), .val (.long b), .second, .val (.int d), .val (.int e0x), .val (.int f), .val (.int s0), .val (.int s1), .val (.int s2), .val (.int s3), .val (.ref b81), .val (.ref b100), .unset, .unset, .unset, .unset, .unset, .unset, .unset, .unset, .unset, .unset, .unset, .unset] []) := fun t kt => S155 t (st157 t kt)
  clear S155 st157 X153 e153
  have S159 : Go p e below s₁ (entryFrame m #[(.int a), (.long b), (.int d), (.int e0x), (.int f)] maxLocals) T157 (mkF m 150 #[.val (.int a), .val (.long b), .second, .val (.int d), .val (.int e0x), .val (.int f), .val (.int s0), .val (.int s1), .val (.int s2), .val (.int s3), .val (.ref b81), .val (.ref b100), .unset, .unset, .unset, .unset, .unset, .unset, .unset, .unset, .unset, .unset, .unset, .unset] [(.int (8 : Int32))]) := fun t kt => S158 t (by
    refine XS.bipush X157.here hx rfl (hb hby at_148) ?_
    show Steps p.tables e below (T157.setTop (mkF m 150 #[.val (.int a), .val (.long b), .second, .val (.int d), .val (.int e0x), .val (.int f), .val (.int s0), .val (.int s1), .val (.int s2), .val (.int s3), .val (.ref b81), .val (.ref b100), .unset, .unset, .unset, .unset, .unset, .unset, .unset, .unset, .unset, .unset, .unset, .unset] [(.int (8 : Int32))])) _
    exact kt)
  clear S158
  obtain ⟨T160, h160, k160, X160, e160, E160, A160, st160⟩ := newP X157 hx hZ (hw _ (List.mem_of_getElem? (i := 6) rfl)) e157 (g := (mkF m 150 #[.val (.int a), .val (.long b), .second, .val (.int d), .val (.int e0x), .val (.int f), .val (.int s0), .val (.int s1), .val (.int s2), .val (.int s3), .val (.ref b81), .val (.ref b100), .unset, .unset, .unset, .unset, .unset, .unset, .unset, .unset, .unset, .unset, .unset, .unset] [(.int (8 : Int32))])) rfl (hb hby at_150) rfl (by decide) (cap := 8) (by decide) (by decide) (by decide) (by decide)
  obtain ⟨b160, g160⟩ : ∃ z, z = h157.size := ⟨_, rfl⟩
  rw [← g160] at A160 st160
  have f161 := (((((((((V97.ext E100).other W108 ne101).other W115 ne101).other W122 ne101).other W129 ne101).other W136 ne101).other W143 ne101).other W150 ne101).other W157 ne101)
  have ne162 : b81 ≠ b160 := by rw [g160]; exact Nat.ne_of_lt f161.lt
  have ne163 : b100 ≠ b160 := by rw [g160]; exact Nat.ne_of_lt V157.lt
  have g_b160 : n0 ≤ b160 := Nat.le_trans (Nat.le_trans (Nat.le_trans (Nat.le_trans (Nat.le_trans (Nat.le_trans (Nat.le_trans (Nat.le_trans (Nat.le_trans (Nat.le_trans (Nat.le_trans (Nat.le_trans (Nat.le_trans (Nat.le_trans (Nat.le_trans Z0 E81.1) (Keep.of_wr W85).1) (Keep.of_wr W89).1) (Keep.of_wr W93).1) (Keep.of_wr W97).1) E100.1) (Keep.of_wr W108).1) (Keep.of_wr W115).1) (Keep.of_wr W122).1) (Keep.of_wr W129).1) (Keep.of_wr W136).1) (Keep.of_wr W143).1) (Keep.of_wr W150).1) (Keep.of_wr W157).1) (Nat.le_of_eq g160.symm)
  have V160 : Arv Z h160 b160 k160 .double (8 : Int32) [(.double (0 : UInt64)), (.double (0 : UInt64)), (.double (0 : UInt64)), (.double (0 : UInt64)), (.double (0 : UInt64)), (.double (0 : UInt64)), (.double (0 : UInt64)), (.double (0 : UInt64))] (.double (0 : UInt64)) := (Arv.new A160 (by decide)).pad (pad_rep [] _ 8)
  have S164 : Go p e below s₁ (entryFrame m #[(.int a), (.long b), (.int d), (.int e0x), (.int f)] maxLocals) T160 (mkF m 152 #[.val (.int a), .val (.long b), .second, .val (.int d), .val (.int e0x), .val (.int f), .val (.int s0), .val (.int s1), .val (.int s2), .val (.int s3), .val (.ref b81), .val (.ref b100), .unset, .unset, .unset, .unset, .unset, .unset, .unset, .unset, .unset, .unset, .unset, .unset] [(.ref b160)]) := fun t kt => S159 t (st160 t kt)
  clear S159 st160 X157 e157
  have S165 : Go p e below s₁ (entryFrame m #[(.int a), (.long b), (.int d), (.int e0x), (.int f)] maxLocals) T160 (mkF m 160 #[.val (.int a), .val (.long b), .second, .val (.int d), .val (.int e0x), .val (.int f), .val (.int s0), .val (.int s1), .val (.int s2), .val (.int s3), .val (.ref b81), .val (.ref b100), .val (.ref b160), .unset, .unset, .unset, .unset, .unset, .unset, .unset, .unset, .unset, .unset, .unset] [(.int (0 : Int32)), (.ref b100), (.int (0 : Int32)), (.ref b160)]) := fun t kt => S164 t (by
    refine XS.astore X160.here hx rfl (hb hby at_152) rfl rfl (l' := #[.val (.int a), .val (.long b), .second, .val (.int d), .val (.int e0x), .val (.int f), .val (.int s0), .val (.int s1), .val (.int s2), .val (.int s3), .val (.ref b81), .val (.ref b100), .val (.ref b160), .unset, .unset, .unset, .unset, .unset, .unset, .unset, .unset, .unset, .unset, .unset]) rfl ?_
    show Steps p.tables e below (T160.setTop (mkF m 154 #[.val (.int a), .val (.long b), .second, .val (.int d), .val (.int e0x), .val (.int f), .val (.int s0), .val (.int s1), .val (.int s2), .val (.int s3), .val (.ref b81), .val (.ref b100), .val (.ref b160), .unset, .unset, .unset, .unset, .unset, .unset, .unset, .unset, .unset, .unset, .unset] [])) _
    refine XS.aload X160.here hx rfl (hb hby at_154) rfl rfl ?_
    show Steps p.tables e below (T160.setTop (mkF m 156 #[.val (.int a), .val (.long b), .second, .val (.int d), .val (.int e0x), .val (.int f), .val (.int s0), .val (.int s1), .val (.int s2), .val (.int s3), .val (.ref b81), .val (.ref b100), .val (.ref b160), .unset, .unset, .unset, .unset, .unset, .unset, .unset, .unset, .unset, .unset, .unset] [(.ref b160)])) _
    refine XS.iconst X160.here hx rfl (hb hby at_156) ?_
    show Steps p.tables e below (T160.setTop (mkF m 157 #[.val (.int a), .val (.long b), .second, .val (.int d), .val (.int e0x), .val (.int f), .val (.int s0), .val (.int s1), .val (.int s2), .val (.int s3), .val (.ref b81), .val (.ref b100), .val (.ref b160), .unset, .unset, .unset, .unset, .unset, .unset, .unset, .unset, .unset, .unset, .unset] [(.int (0 : Int32)), (.ref b160)])) _
    refine XS.aload X160.here hx rfl (hb hby at_157) rfl rfl ?_
    show Steps p.tables e below (T160.setTop (mkF m 159 #[.val (.int a), .val (.long b), .second, .val (.int d), .val (.int e0x), .val (.int f), .val (.int s0), .val (.int s1), .val (.int s2), .val (.int s3), .val (.ref b81), .val (.ref b100), .val (.ref b160), .unset, .unset, .unset, .unset, .unset, .unset, .unset, .unset, .unset, .unset, .unset] [(.ref b100), (.int (0 : Int32)), (.ref b160)])) _
    refine XS.iconst X160.here hx rfl (hb hby at_159) ?_
    show Steps p.tables e below (T160.setTop (mkF m 160 #[.val (.int a), .val (.long b), .second, .val (.int d), .val (.int e0x), .val (.int f), .val (.int s0), .val (.int s1), .val (.int s2), .val (.int s3), .val (.ref b81), .val (.ref b100), .val (.ref b160), .unset, .unset, .unset, .unset, .unset, .unset, .unset, .unset, .unset, .unset, .unset] [(.int (0 : Int32)), (.ref b100), (.int (0 : Int32)), (.ref b160)])) _
    exact kt)
  clear S164
  have f166 := (V157.ext E160)
  obtain ⟨co167, Ao167, qo167, So167, No167, Ho167, Go167⟩ := id f166
  have hino167 : ¬ ((0 : Int32) < 0 ∨ co167.slots.size ≤ ((0 : Int32)).toNatClampNeg) := inb_of So167 ⟨by decide, by decide⟩
  have hato167 : co167.slots[((0 : Int32)).toNatClampNeg]? = some (.long l0) := Has.at Ho167 hino167 rfl
  have S168 : Go p e below s₁ (entryFrame m #[(.int a), (.long b), (.int d), (.int e0x), (.int f)] maxLocals) T160 (mkF m 162 #[.val (.int a), .val (.long b), .second, .val (.int d), .val (.int e0x), .val (.int f), .val (.int s0), .val (.int s1), .val (.int s2), .val (.int s3), .val (.ref b81), .val (.ref b100), .val (.ref b160), .unset, .unset, .unset, .unset, .unset, .unset, .unset, .unset, .unset, .unset, .unset] [(.double (FP.l2d l0)), (.int (0 : Int32)), (.ref b160)]) := fun t kt => S165 t (by
    refine X160.laload hx (j := (0 : Int32)) (v := (.long l0)) (by rw [e160]; exact Ao167.1) (State.isArrayOf_alike hZ.alike Ao167.2.1) Ao167.2.2 hino167 hato167 (g := (mkF m 160 #[.val (.int a), .val (.long b), .second, .val (.int d), .val (.int e0x), .val (.int f), .val (.int s0), .val (.int s1), .val (.int s2), .val (.int s3), .val (.ref b81), .val (.ref b100), .val (.ref b160), .unset, .unset, .unset, .unset, .unset, .unset, .unset, .unset, .unset, .unset, .unset] [(.int (0 : Int32)), (.ref b100), (.int (0 : Int32)), (.ref b160)])) rfl rfl (hb hby at_160) _ ?_
    show Steps p.tables e below (T160.setTop (mkF m 161 #[.val (.int a), .val (.long b), .second, .val (.int d), .val (.int e0x), .val (.int f), .val (.int s0), .val (.int s1), .val (.int s2), .val (.int s3), .val (.ref b81), .val (.ref b100), .val (.ref b160), .unset, .unset, .unset, .unset, .unset, .unset, .unset, .unset, .unset, .unset, .unset] [(.long l0), (.int (0 : Int32)), (.ref b160)])) _
    refine XS.l2dS X160.here hx rfl (hb hby at_161) rfl rfl ?_
    show Steps p.tables e below (T160.setTop (mkF m 162 #[.val (.int a), .val (.long b), .second, .val (.int d), .val (.int e0x), .val (.int f), .val (.int s0), .val (.int s1), .val (.int s2), .val (.int s3), .val (.ref b81), .val (.ref b100), .val (.ref b160), .unset, .unset, .unset, .unset, .unset, .unset, .unset, .unset, .unset, .unset, .unset] [(.double (FP.l2d l0)), (.int (0 : Int32)), (.ref b160)])) _
    exact kt)
  clear S165
  obtain ⟨co169, Ao169, qo169, So169, No169, Ho169, Go169⟩ := id V160
  have hino169 : ¬ ((0 : Int32) < 0 ∨ co169.slots.size ≤ ((0 : Int32)).toNatClampNeg) := inb_of So169 ⟨by decide, by decide⟩
  obtain ⟨T170, h170, X170, e170, W170, st170⟩ := stD X160 hx hZ e160 Ao169 (j := (0 : Int32)) hino169 (g := (mkF m 162 #[.val (.int a), .val (.long b), .second, .val (.int d), .val (.int e0x), .val (.int f), .val (.int s0), .val (.int s1), .val (.int s2), .val (.int s3), .val (.ref b81), .val (.ref b100), .val (.ref b160), .unset, .unset, .unset, .unset, .unset, .unset, .unset, .unset, .unset, .unset, .unset] [(.double (FP.l2d l0)), (.int (0 : Int32)), (.ref b160)])) rfl rfl (hb hby at_162)
  have N170 := Fr.snoc X170 N157 g_b160
  have V170 : Arv Z h170 b160 k160 .double (8 : Int32) [(.double (FP.l2d l0)), (.double (0 : UInt64)), (.double (0 : UInt64)), (.double (0 : UInt64)), (.double (0 : UInt64)), (.double (0 : UInt64)), (.double (0 : UInt64)), (.double (0 : UInt64))] (.double (0 : UInt64)) := Arv.set Ao169 qo169 So169 No169 Ho169 Go169 rfl W170 0 rfl (Nat.le_of_ble_eq_true rfl)
  have S171 : Go p e below s₁ (entryFrame m #[(.int a), (.long b), (.int d), (.int e0x), (.int f)] maxLocals) T170 (mkF m 163 #[.val (.int a), .val (.long b), .second, .val (.int d), .val (.int e0x), .val (.int f), .val (.int s0), .val (.int s1), .val (.int s2), .val (.int s3), .val (.ref b81), .val (.ref b100), .val (.ref b160), .unset, .unset, .unset, .unset, .unset, .unset, .unset, .unset, .unset, .unset, .unset] []) := fun t kt => S168 t (st170 t kt)
  clear S168 st170 X160 e160
  have S172 : Go p e below s₁ (entryFrame m #[(.int a), (.long b), (.int d), (.int e0x), (.int f)] maxLocals) T170 (mkF m 169 #[.val (.int a), .val (.long b), .second, .val (.int d), .val (.int e0x), .val (.int f), .val (.int s0), .val (.int s1), .val (.int s2), .val (.int s3), .val (.ref b81), .val (.ref b100), .val (.ref b160), .unset, .unset, .unset, .unset, .unset, .unset, .unset, .unset, .unset, .unset, .unset] [(.int (1 : Int32)), (.ref b100), (.int (1 : Int32)), (.ref b160)]) := fun t kt => S171 t (by
    refine XS.aload X170.here hx rfl (hb hby at_163) rfl rfl ?_
    show Steps p.tables e below (T170.setTop (mkF m 165 #[.val (.int a), .val (.long b), .second, .val (.int d), .val (.int e0x), .val (.int f), .val (.int s0), .val (.int s1), .val (.int s2), .val (.int s3), .val (.ref b81), .val (.ref b100), .val (.ref b160), .unset, .unset, .unset, .unset, .unset, .unset, .unset, .unset, .unset, .unset, .unset] [(.ref b160)])) _
    refine XS.iconst X170.here hx rfl (hb hby at_165) ?_
    show Steps p.tables e below (T170.setTop (mkF m 166 #[.val (.int a), .val (.long b), .second, .val (.int d), .val (.int e0x), .val (.int f), .val (.int s0), .val (.int s1), .val (.int s2), .val (.int s3), .val (.ref b81), .val (.ref b100), .val (.ref b160), .unset, .unset, .unset, .unset, .unset, .unset, .unset, .unset, .unset, .unset, .unset] [(.int (1 : Int32)), (.ref b160)])) _
    refine XS.aload X170.here hx rfl (hb hby at_166) rfl rfl ?_
    show Steps p.tables e below (T170.setTop (mkF m 168 #[.val (.int a), .val (.long b), .second, .val (.int d), .val (.int e0x), .val (.int f), .val (.int s0), .val (.int s1), .val (.int s2), .val (.int s3), .val (.ref b81), .val (.ref b100), .val (.ref b160), .unset, .unset, .unset, .unset, .unset, .unset, .unset, .unset, .unset, .unset, .unset] [(.ref b100), (.int (1 : Int32)), (.ref b160)])) _
    refine XS.iconst X170.here hx rfl (hb hby at_168) ?_
    show Steps p.tables e below (T170.setTop (mkF m 169 #[.val (.int a), .val (.long b), .second, .val (.int d), .val (.int e0x), .val (.int f), .val (.int s0), .val (.int s1), .val (.int s2), .val (.int s3), .val (.ref b81), .val (.ref b100), .val (.ref b160), .unset, .unset, .unset, .unset, .unset, .unset, .unset, .unset, .unset, .unset, .unset] [(.int (1 : Int32)), (.ref b100), (.int (1 : Int32)), (.ref b160)])) _
    exact kt)
  clear S171
  have f173 := (f166.other W170 ne163)
  obtain ⟨co174, Ao174, qo174, So174, No174, Ho174, Go174⟩ := id f173
  have hino174 : ¬ ((1 : Int32) < 0 ∨ co174.slots.size ≤ ((1 : Int32)).toNatClampNeg) := inb_of So174 ⟨by decide, by decide⟩
  have hato174 : co174.slots[((1 : Int32)).toNatClampNeg]? = some (.long l1) := Has.at Ho174 hino174 rfl
  have S175 : Go p e below s₁ (entryFrame m #[(.int a), (.long b), (.int d), (.int e0x), (.int f)] maxLocals) T170 (mkF m 171 #[.val (.int a), .val (.long b), .second, .val (.int d), .val (.int e0x), .val (.int f), .val (.int s0), .val (.int s1), .val (.int s2), .val (.int s3), .val (.ref b81), .val (.ref b100), .val (.ref b160), .unset, .unset, .unset, .unset, .unset, .unset, .unset, .unset, .unset, .unset, .unset] [(.double (FP.l2d l1)), (.int (1 : Int32)), (.ref b160)]) := fun t kt => S172 t (by
    refine X170.laload hx (j := (1 : Int32)) (v := (.long l1)) (by rw [e170]; exact Ao174.1) (State.isArrayOf_alike hZ.alike Ao174.2.1) Ao174.2.2 hino174 hato174 (g := (mkF m 169 #[.val (.int a), .val (.long b), .second, .val (.int d), .val (.int e0x), .val (.int f), .val (.int s0), .val (.int s1), .val (.int s2), .val (.int s3), .val (.ref b81), .val (.ref b100), .val (.ref b160), .unset, .unset, .unset, .unset, .unset, .unset, .unset, .unset, .unset, .unset, .unset] [(.int (1 : Int32)), (.ref b100), (.int (1 : Int32)), (.ref b160)])) rfl rfl (hb hby at_169) _ ?_
    show Steps p.tables e below (T170.setTop (mkF m 170 #[.val (.int a), .val (.long b), .second, .val (.int d), .val (.int e0x), .val (.int f), .val (.int s0), .val (.int s1), .val (.int s2), .val (.int s3), .val (.ref b81), .val (.ref b100), .val (.ref b160), .unset, .unset, .unset, .unset, .unset, .unset, .unset, .unset, .unset, .unset, .unset] [(.long l1), (.int (1 : Int32)), (.ref b160)])) _
    refine XS.l2dS X170.here hx rfl (hb hby at_170) rfl rfl ?_
    show Steps p.tables e below (T170.setTop (mkF m 171 #[.val (.int a), .val (.long b), .second, .val (.int d), .val (.int e0x), .val (.int f), .val (.int s0), .val (.int s1), .val (.int s2), .val (.int s3), .val (.ref b81), .val (.ref b100), .val (.ref b160), .unset, .unset, .unset, .unset, .unset, .unset, .unset, .unset, .unset, .unset, .unset] [(.double (FP.l2d l1)), (.int (1 : Int32)), (.ref b160)])) _
    exact kt)
  clear S172
  obtain ⟨co176, Ao176, qo176, So176, No176, Ho176, Go176⟩ := id V170
  have hino176 : ¬ ((1 : Int32) < 0 ∨ co176.slots.size ≤ ((1 : Int32)).toNatClampNeg) := inb_of So176 ⟨by decide, by decide⟩
  obtain ⟨T177, h177, X177, e177, W177, st177⟩ := stD X170 hx hZ e170 Ao176 (j := (1 : Int32)) hino176 (g := (mkF m 171 #[.val (.int a), .val (.long b), .second, .val (.int d), .val (.int e0x), .val (.int f), .val (.int s0), .val (.int s1), .val (.int s2), .val (.int s3), .val (.ref b81), .val (.ref b100), .val (.ref b160), .unset, .unset, .unset, .unset, .unset, .unset, .unset, .unset, .unset, .unset, .unset] [(.double (FP.l2d l1)), (.int (1 : Int32)), (.ref b160)])) rfl rfl (hb hby at_171)
  have N177 := Fr.snoc X177 N170 g_b160
  have V177 : Arv Z h177 b160 k160 .double (8 : Int32) [(.double (FP.l2d l0)), (.double (FP.l2d l1)), (.double (0 : UInt64)), (.double (0 : UInt64)), (.double (0 : UInt64)), (.double (0 : UInt64)), (.double (0 : UInt64)), (.double (0 : UInt64))] (.double (0 : UInt64)) := Arv.set Ao176 qo176 So176 No176 Ho176 Go176 rfl W177 1 rfl (Nat.le_of_ble_eq_true rfl)
  have S178 : Go p e below s₁ (entryFrame m #[(.int a), (.long b), (.int d), (.int e0x), (.int f)] maxLocals) T177 (mkF m 172 #[.val (.int a), .val (.long b), .second, .val (.int d), .val (.int e0x), .val (.int f), .val (.int s0), .val (.int s1), .val (.int s2), .val (.int s3), .val (.ref b81), .val (.ref b100), .val (.ref b160), .unset, .unset, .unset, .unset, .unset, .unset, .unset, .unset, .unset, .unset, .unset] []) := fun t kt => S175 t (st177 t kt)
  clear S175 st177 X170 e170
  have S179 : Go p e below s₁ (entryFrame m #[(.int a), (.long b), (.int d), (.int e0x), (.int f)] maxLocals) T177 (mkF m 178 #[.val (.int a), .val (.long b), .second, .val (.int d), .val (.int e0x), .val (.int f), .val (.int s0), .val (.int s1), .val (.int s2), .val (.int s3), .val (.ref b81), .val (.ref b100), .val (.ref b160), .unset, .unset, .unset, .unset, .unset, .unset, .unset, .unset, .unset, .unset, .unset] [(.int (2 : Int32)), (.ref b100), (.int (2 : Int32)), (.ref b160)]) := fun t kt => S178 t (by
    refine XS.aload X177.here hx rfl (hb hby at_172) rfl rfl ?_
    show Steps p.tables e below (T177.setTop (mkF m 174 #[.val (.int a), .val (.long b), .second, .val (.int d), .val (.int e0x), .val (.int f), .val (.int s0), .val (.int s1), .val (.int s2), .val (.int s3), .val (.ref b81), .val (.ref b100), .val (.ref b160), .unset, .unset, .unset, .unset, .unset, .unset, .unset, .unset, .unset, .unset, .unset] [(.ref b160)])) _
    refine XS.iconst X177.here hx rfl (hb hby at_174) ?_
    show Steps p.tables e below (T177.setTop (mkF m 175 #[.val (.int a), .val (.long b), .second, .val (.int d), .val (.int e0x), .val (.int f), .val (.int s0), .val (.int s1), .val (.int s2), .val (.int s3), .val (.ref b81), .val (.ref b100), .val (.ref b160), .unset, .unset, .unset, .unset, .unset, .unset, .unset, .unset, .unset, .unset, .unset] [(.int (2 : Int32)), (.ref b160)])) _
    refine XS.aload X177.here hx rfl (hb hby at_175) rfl rfl ?_
    show Steps p.tables e below (T177.setTop (mkF m 177 #[.val (.int a), .val (.long b), .second, .val (.int d), .val (.int e0x), .val (.int f), .val (.int s0), .val (.int s1), .val (.int s2), .val (.int s3), .val (.ref b81), .val (.ref b100), .val (.ref b160), .unset, .unset, .unset, .unset, .unset, .unset, .unset, .unset, .unset, .unset, .unset] [(.ref b100), (.int (2 : Int32)), (.ref b160)])) _
    refine XS.iconst X177.here hx rfl (hb hby at_177) ?_
    show Steps p.tables e below (T177.setTop (mkF m 178 #[.val (.int a), .val (.long b), .second, .val (.int d), .val (.int e0x), .val (.int f), .val (.int s0), .val (.int s1), .val (.int s2), .val (.int s3), .val (.ref b81), .val (.ref b100), .val (.ref b160), .unset, .unset, .unset, .unset, .unset, .unset, .unset, .unset, .unset, .unset, .unset] [(.int (2 : Int32)), (.ref b100), (.int (2 : Int32)), (.ref b160)])) _
    exact kt)
  clear S178
  have f180 := (f173.other W177 ne163)
  obtain ⟨co181, Ao181, qo181, So181, No181, Ho181, Go181⟩ := id f180
  have hino181 : ¬ ((2 : Int32) < 0 ∨ co181.slots.size ≤ ((2 : Int32)).toNatClampNeg) := inb_of So181 ⟨by decide, by decide⟩
  have hato181 : co181.slots[((2 : Int32)).toNatClampNeg]? = some (.long l2) := Has.at Ho181 hino181 rfl
  have S182 : Go p e below s₁ (entryFrame m #[(.int a), (.long b), (.int d), (.int e0x), (.int f)] maxLocals) T177 (mkF m 180 #[.val (.int a), .val (.long b), .second, .val (.int d), .val (.int e0x), .val (.int f), .val (.int s0), .val (.int s1), .val (.int s2), .val (.int s3), .val (.ref b81), .val (.ref b100), .val (.ref b160), .unset, .unset, .unset, .unset, .unset, .unset, .unset, .unset, .unset, .unset, .unset] [(.double (FP.l2d l2)), (.int (2 : Int32)), (.ref b160)]) := fun t kt => S179 t (by
    refine X177.laload hx (j := (2 : Int32)) (v := (.long l2)) (by rw [e177]; exact Ao181.1) (State.isArrayOf_alike hZ.alike Ao181.2.1) Ao181.2.2 hino181 hato181 (g := (mkF m 178 #[.val (.int a), .val (.long b), .second, .val (.int d), .val (.int e0x), .val (.int f), .val (.int s0), .val (.int s1), .val (.int s2), .val (.int s3), .val (.ref b81), .val (.ref b100), .val (.ref b160), .unset, .unset, .unset, .unset, .unset, .unset, .unset, .unset, .unset, .unset, .unset] [(.int (2 : Int32)), (.ref b100), (.int (2 : Int32)), (.ref b160)])) rfl rfl (hb hby at_178) _ ?_
    show Steps p.tables e below (T177.setTop (mkF m 179 #[.val (.int a), .val (.long b), .second, .val (.int d), .val (.int e0x), .val (.int f), .val (.int s0), .val (.int s1), .val (.int s2), .val (.int s3), .val (.ref b81), .val (.ref b100), .val (.ref b160), .unset, .unset, .unset, .unset, .unset, .unset, .unset, .unset, .unset, .unset, .unset] [(.long l2), (.int (2 : Int32)), (.ref b160)])) _
    refine XS.l2dS X177.here hx rfl (hb hby at_179) rfl rfl ?_
    show Steps p.tables e below (T177.setTop (mkF m 180 #[.val (.int a), .val (.long b), .second, .val (.int d), .val (.int e0x), .val (.int f), .val (.int s0), .val (.int s1), .val (.int s2), .val (.int s3), .val (.ref b81), .val (.ref b100), .val (.ref b160), .unset, .unset, .unset, .unset, .unset, .unset, .unset, .unset, .unset, .unset, .unset] [(.double (FP.l2d l2)), (.int (2 : Int32)), (.ref b160)])) _
    exact kt)
  clear S179
  obtain ⟨co183, Ao183, qo183, So183, No183, Ho183, Go183⟩ := id V177
  have hino183 : ¬ ((2 : Int32) < 0 ∨ co183.slots.size ≤ ((2 : Int32)).toNatClampNeg) := inb_of So183 ⟨by decide, by decide⟩
  obtain ⟨T184, h184, X184, e184, W184, st184⟩ := stD X177 hx hZ e177 Ao183 (j := (2 : Int32)) hino183 (g := (mkF m 180 #[.val (.int a), .val (.long b), .second, .val (.int d), .val (.int e0x), .val (.int f), .val (.int s0), .val (.int s1), .val (.int s2), .val (.int s3), .val (.ref b81), .val (.ref b100), .val (.ref b160), .unset, .unset, .unset, .unset, .unset, .unset, .unset, .unset, .unset, .unset, .unset] [(.double (FP.l2d l2)), (.int (2 : Int32)), (.ref b160)])) rfl rfl (hb hby at_180)
  have N184 := Fr.snoc X184 N177 g_b160
  have V184 : Arv Z h184 b160 k160 .double (8 : Int32) [(.double (FP.l2d l0)), (.double (FP.l2d l1)), (.double (FP.l2d l2)), (.double (0 : UInt64)), (.double (0 : UInt64)), (.double (0 : UInt64)), (.double (0 : UInt64)), (.double (0 : UInt64))] (.double (0 : UInt64)) := Arv.set Ao183 qo183 So183 No183 Ho183 Go183 rfl W184 2 rfl (Nat.le_of_ble_eq_true rfl)
  have S185 : Go p e below s₁ (entryFrame m #[(.int a), (.long b), (.int d), (.int e0x), (.int f)] maxLocals) T184 (mkF m 181 #[.val (.int a), .val (.long b), .second, .val (.int d), .val (.int e0x), .val (.int f), .val (.int s0), .val (.int s1), .val (.int s2), .val (.int s3), .val (.ref b81), .val (.ref b100), .val (.ref b160), .unset, .unset, .unset, .unset, .unset, .unset, .unset, .unset, .unset, .unset, .unset] []) := fun t kt => S182 t (st184 t kt)
  clear S182 st184 X177 e177
  have S186 : Go p e below s₁ (entryFrame m #[(.int a), (.long b), (.int d), (.int e0x), (.int f)] maxLocals) T184 (mkF m 187 #[.val (.int a), .val (.long b), .second, .val (.int d), .val (.int e0x), .val (.int f), .val (.int s0), .val (.int s1), .val (.int s2), .val (.int s3), .val (.ref b81), .val (.ref b100), .val (.ref b160), .unset, .unset, .unset, .unset, .unset, .unset, .unset, .unset, .unset, .unset, .unset] [(.int (3 : Int32)), (.ref b100), (.int (3 : Int32)), (.ref b160)]) := fun t kt => S185 t (by
    refine XS.aload X184.here hx rfl (hb hby at_181) rfl rfl ?_
    show Steps p.tables e below (T184.setTop (mkF m 183 #[.val (.int a), .val (.long b), .second, .val (.int d), .val (.int e0x), .val (.int f), .val (.int s0), .val (.int s1), .val (.int s2), .val (.int s3), .val (.ref b81), .val (.ref b100), .val (.ref b160), .unset, .unset, .unset, .unset, .unset, .unset, .unset, .unset, .unset, .unset, .unset] [(.ref b160)])) _
    refine XS.iconst X184.here hx rfl (hb hby at_183) ?_
    show Steps p.tables e below (T184.setTop (mkF m 184 #[.val (.int a), .val (.long b), .second, .val (.int d), .val (.int e0x), .val (.int f), .val (.int s0), .val (.int s1), .val (.int s2), .val (.int s3), .val (.ref b81), .val (.ref b100), .val (.ref b160), .unset, .unset, .unset, .unset, .unset, .unset, .unset, .unset, .unset, .unset, .unset] [(.int (3 : Int32)), (.ref b160)])) _
    refine XS.aload X184.here hx rfl (hb hby at_184) rfl rfl ?_
    show Steps p.tables e below (T184.setTop (mkF m 186 #[.val (.int a), .val (.long b), .second, .val (.int d), .val (.int e0x), .val (.int f), .val (.int s0), .val (.int s1), .val (.int s2), .val (.int s3), .val (.ref b81), .val (.ref b100), .val (.ref b160), .unset, .unset, .unset, .unset, .unset, .unset, .unset, .unset, .unset, .unset, .unset] [(.ref b100), (.int (3 : Int32)), (.ref b160)])) _
    refine XS.iconst X184.here hx rfl (hb hby at_186) ?_
    show Steps p.tables e below (T184.setTop (mkF m 187 #[.val (.int a), .val (.long b), .second, .val (.int d), .val (.int e0x), .val (.int f), .val (.int s0), .val (.int s1), .val (.int s2), .val (.int s3), .val (.ref b81), .val (.ref b100), .val (.ref b160), .unset, .unset, .unset, .unset, .unset, .unset, .unset, .unset, .unset, .unset, .unset] [(.int (3 : Int32)), (.ref b100), (.int (3 : Int32)), (.ref b160)])) _
    exact kt)
  clear S185
  have f187 := (f180.other W184 ne163)
  obtain ⟨co188, Ao188, qo188, So188, No188, Ho188, Go188⟩ := id f187
  have hino188 : ¬ ((3 : Int32) < 0 ∨ co188.slots.size ≤ ((3 : Int32)).toNatClampNeg) := inb_of So188 ⟨by decide, by decide⟩
  have hato188 : co188.slots[((3 : Int32)).toNatClampNeg]? = some (.long l3) := Has.at Ho188 hino188 rfl
  have S189 : Go p e below s₁ (entryFrame m #[(.int a), (.long b), (.int d), (.int e0x), (.int f)] maxLocals) T184 (mkF m 189 #[.val (.int a), .val (.long b), .second, .val (.int d), .val (.int e0x), .val (.int f), .val (.int s0), .val (.int s1), .val (.int s2), .val (.int s3), .val (.ref b81), .val (.ref b100), .val (.ref b160), .unset, .unset, .unset, .unset, .unset, .unset, .unset, .unset, .unset, .unset, .unset] [(.double (FP.l2d l3)), (.int (3 : Int32)), (.ref b160)]) := fun t kt => S186 t (by
    refine X184.laload hx (j := (3 : Int32)) (v := (.long l3)) (by rw [e184]; exact Ao188.1) (State.isArrayOf_alike hZ.alike Ao188.2.1) Ao188.2.2 hino188 hato188 (g := (mkF m 187 #[.val (.int a), .val (.long b), .second, .val (.int d), .val (.int e0x), .val (.int f), .val (.int s0), .val (.int s1), .val (.int s2), .val (.int s3), .val (.ref b81), .val (.ref b100), .val (.ref b160), .unset, .unset, .unset, .unset, .unset, .unset, .unset, .unset, .unset, .unset, .unset] [(.int (3 : Int32)), (.ref b100), (.int (3 : Int32)), (.ref b160)])) rfl rfl (hb hby at_187) _ ?_
    show Steps p.tables e below (T184.setTop (mkF m 188 #[.val (.int a), .val (.long b), .second, .val (.int d), .val (.int e0x), .val (.int f), .val (.int s0), .val (.int s1), .val (.int s2), .val (.int s3), .val (.ref b81), .val (.ref b100), .val (.ref b160), .unset, .unset, .unset, .unset, .unset, .unset, .unset, .unset, .unset, .unset, .unset] [(.long l3), (.int (3 : Int32)), (.ref b160)])) _
    refine XS.l2dS X184.here hx rfl (hb hby at_188) rfl rfl ?_
    show Steps p.tables e below (T184.setTop (mkF m 189 #[.val (.int a), .val (.long b), .second, .val (.int d), .val (.int e0x), .val (.int f), .val (.int s0), .val (.int s1), .val (.int s2), .val (.int s3), .val (.ref b81), .val (.ref b100), .val (.ref b160), .unset, .unset, .unset, .unset, .unset, .unset, .unset, .unset, .unset, .unset, .unset] [(.double (FP.l2d l3)), (.int (3 : Int32)), (.ref b160)])) _
    exact kt)
  clear S186
  obtain ⟨co190, Ao190, qo190, So190, No190, Ho190, Go190⟩ := id V184
  have hino190 : ¬ ((3 : Int32) < 0 ∨ co190.slots.size ≤ ((3 : Int32)).toNatClampNeg) := inb_of So190 ⟨by decide, by decide⟩
  obtain ⟨T191, h191, X191, e191, W191, st191⟩ := stD X184 hx hZ e184 Ao190 (j := (3 : Int32)) hino190 (g := (mkF m 189 #[.val (.int a), .val (.long b), .second, .val (.int d), .val (.int e0x), .val (.int f), .val (.int s0), .val (.int s1), .val (.int s2), .val (.int s3), .val (.ref b81), .val (.ref b100), .val (.ref b160), .unset, .unset, .unset, .unset, .unset, .unset, .unset, .unset, .unset, .unset, .unset] [(.double (FP.l2d l3)), (.int (3 : Int32)), (.ref b160)])) rfl rfl (hb hby at_189)
  have N191 := Fr.snoc X191 N184 g_b160
  have V191 : Arv Z h191 b160 k160 .double (8 : Int32) [(.double (FP.l2d l0)), (.double (FP.l2d l1)), (.double (FP.l2d l2)), (.double (FP.l2d l3)), (.double (0 : UInt64)), (.double (0 : UInt64)), (.double (0 : UInt64)), (.double (0 : UInt64))] (.double (0 : UInt64)) := Arv.set Ao190 qo190 So190 No190 Ho190 Go190 rfl W191 3 rfl (Nat.le_of_ble_eq_true rfl)
  have S192 : Go p e below s₁ (entryFrame m #[(.int a), (.long b), (.int d), (.int e0x), (.int f)] maxLocals) T191 (mkF m 190 #[.val (.int a), .val (.long b), .second, .val (.int d), .val (.int e0x), .val (.int f), .val (.int s0), .val (.int s1), .val (.int s2), .val (.int s3), .val (.ref b81), .val (.ref b100), .val (.ref b160), .unset, .unset, .unset, .unset, .unset, .unset, .unset, .unset, .unset, .unset, .unset] []) := fun t kt => S189 t (st191 t kt)
  clear S189 st191 X184 e184
  have S193 : Go p e below s₁ (entryFrame m #[(.int a), (.long b), (.int d), (.int e0x), (.int f)] maxLocals) T191 (mkF m 196 #[.val (.int a), .val (.long b), .second, .val (.int d), .val (.int e0x), .val (.int f), .val (.int s0), .val (.int s1), .val (.int s2), .val (.int s3), .val (.ref b81), .val (.ref b100), .val (.ref b160), .unset, .unset, .unset, .unset, .unset, .unset, .unset, .unset, .unset, .unset, .unset] [(.int (4 : Int32)), (.ref b100), (.int (4 : Int32)), (.ref b160)]) := fun t kt => S192 t (by
    refine XS.aload X191.here hx rfl (hb hby at_190) rfl rfl ?_
    show Steps p.tables e below (T191.setTop (mkF m 192 #[.val (.int a), .val (.long b), .second, .val (.int d), .val (.int e0x), .val (.int f), .val (.int s0), .val (.int s1), .val (.int s2), .val (.int s3), .val (.ref b81), .val (.ref b100), .val (.ref b160), .unset, .unset, .unset, .unset, .unset, .unset, .unset, .unset, .unset, .unset, .unset] [(.ref b160)])) _
    refine XS.iconst X191.here hx rfl (hb hby at_192) ?_
    show Steps p.tables e below (T191.setTop (mkF m 193 #[.val (.int a), .val (.long b), .second, .val (.int d), .val (.int e0x), .val (.int f), .val (.int s0), .val (.int s1), .val (.int s2), .val (.int s3), .val (.ref b81), .val (.ref b100), .val (.ref b160), .unset, .unset, .unset, .unset, .unset, .unset, .unset, .unset, .unset, .unset, .unset] [(.int (4 : Int32)), (.ref b160)])) _
    refine XS.aload X191.here hx rfl (hb hby at_193) rfl rfl ?_
    show Steps p.tables e below (T191.setTop (mkF m 195 #[.val (.int a), .val (.long b), .second, .val (.int d), .val (.int e0x), .val (.int f), .val (.int s0), .val (.int s1), .val (.int s2), .val (.int s3), .val (.ref b81), .val (.ref b100), .val (.ref b160), .unset, .unset, .unset, .unset, .unset, .unset, .unset, .unset, .unset, .unset, .unset] [(.ref b100), (.int (4 : Int32)), (.ref b160)])) _
    refine XS.iconst X191.here hx rfl (hb hby at_195) ?_
    show Steps p.tables e below (T191.setTop (mkF m 196 #[.val (.int a), .val (.long b), .second, .val (.int d), .val (.int e0x), .val (.int f), .val (.int s0), .val (.int s1), .val (.int s2), .val (.int s3), .val (.ref b81), .val (.ref b100), .val (.ref b160), .unset, .unset, .unset, .unset, .unset, .unset, .unset, .unset, .unset, .unset, .unset] [(.int (4 : Int32)), (.ref b100), (.int (4 : Int32)), (.ref b160)])) _
    exact kt)
  clear S192
  have f194 := (f187.other W191 ne163)
  obtain ⟨co195, Ao195, qo195, So195, No195, Ho195, Go195⟩ := id f194
  have hino195 : ¬ ((4 : Int32) < 0 ∨ co195.slots.size ≤ ((4 : Int32)).toNatClampNeg) := inb_of So195 ⟨by decide, by decide⟩
  have hato195 : co195.slots[((4 : Int32)).toNatClampNeg]? = some (.long l4) := Has.at Ho195 hino195 rfl
  have S196 : Go p e below s₁ (entryFrame m #[(.int a), (.long b), (.int d), (.int e0x), (.int f)] maxLocals) T191 (mkF m 198 #[.val (.int a), .val (.long b), .second, .val (.int d), .val (.int e0x), .val (.int f), .val (.int s0), .val (.int s1), .val (.int s2), .val (.int s3), .val (.ref b81), .val (.ref b100), .val (.ref b160), .unset, .unset, .unset, .unset, .unset, .unset, .unset, .unset, .unset, .unset, .unset] [(.double (FP.l2d l4)), (.int (4 : Int32)), (.ref b160)]) := fun t kt => S193 t (by
    refine X191.laload hx (j := (4 : Int32)) (v := (.long l4)) (by rw [e191]; exact Ao195.1) (State.isArrayOf_alike hZ.alike Ao195.2.1) Ao195.2.2 hino195 hato195 (g := (mkF m 196 #[.val (.int a), .val (.long b), .second, .val (.int d), .val (.int e0x), .val (.int f), .val (.int s0), .val (.int s1), .val (.int s2), .val (.int s3), .val (.ref b81), .val (.ref b100), .val (.ref b160), .unset, .unset, .unset, .unset, .unset, .unset, .unset, .unset, .unset, .unset, .unset] [(.int (4 : Int32)), (.ref b100), (.int (4 : Int32)), (.ref b160)])) rfl rfl (hb hby at_196) _ ?_
    show Steps p.tables e below (T191.setTop (mkF m 197 #[.val (.int a), .val (.long b), .second, .val (.int d), .val (.int e0x), .val (.int f), .val (.int s0), .val (.int s1), .val (.int s2), .val (.int s3), .val (.ref b81), .val (.ref b100), .val (.ref b160), .unset, .unset, .unset, .unset, .unset, .unset, .unset, .unset, .unset, .unset, .unset] [(.long l4), (.int (4 : Int32)), (.ref b160)])) _
    refine XS.l2dS X191.here hx rfl (hb hby at_197) rfl rfl ?_
    show Steps p.tables e below (T191.setTop (mkF m 198 #[.val (.int a), .val (.long b), .second, .val (.int d), .val (.int e0x), .val (.int f), .val (.int s0), .val (.int s1), .val (.int s2), .val (.int s3), .val (.ref b81), .val (.ref b100), .val (.ref b160), .unset, .unset, .unset, .unset, .unset, .unset, .unset, .unset, .unset, .unset, .unset] [(.double (FP.l2d l4)), (.int (4 : Int32)), (.ref b160)])) _
    exact kt)
  clear S193
  obtain ⟨co197, Ao197, qo197, So197, No197, Ho197, Go197⟩ := id V191
  have hino197 : ¬ ((4 : Int32) < 0 ∨ co197.slots.size ≤ ((4 : Int32)).toNatClampNeg) := inb_of So197 ⟨by decide, by decide⟩
  obtain ⟨T198, h198, X198, e198, W198, st198⟩ := stD X191 hx hZ e191 Ao197 (j := (4 : Int32)) hino197 (g := (mkF m 198 #[.val (.int a), .val (.long b), .second, .val (.int d), .val (.int e0x), .val (.int f), .val (.int s0), .val (.int s1), .val (.int s2), .val (.int s3), .val (.ref b81), .val (.ref b100), .val (.ref b160), .unset, .unset, .unset, .unset, .unset, .unset, .unset, .unset, .unset, .unset, .unset] [(.double (FP.l2d l4)), (.int (4 : Int32)), (.ref b160)])) rfl rfl (hb hby at_198)
  have N198 := Fr.snoc X198 N191 g_b160
  have V198 : Arv Z h198 b160 k160 .double (8 : Int32) [(.double (FP.l2d l0)), (.double (FP.l2d l1)), (.double (FP.l2d l2)), (.double (FP.l2d l3)), (.double (FP.l2d l4)), (.double (0 : UInt64)), (.double (0 : UInt64)), (.double (0 : UInt64))] (.double (0 : UInt64)) := Arv.set Ao197 qo197 So197 No197 Ho197 Go197 rfl W198 4 rfl (Nat.le_of_ble_eq_true rfl)
  have S199 : Go p e below s₁ (entryFrame m #[(.int a), (.long b), (.int d), (.int e0x), (.int f)] maxLocals) T198 (mkF m 199 #[.val (.int a), .val (.long b), .second, .val (.int d), .val (.int e0x), .val (.int f), .val (.int s0), .val (.int s1), .val (.int s2), .val (.int s3), .val (.ref b81), .val (.ref b100), .val (.ref b160), .unset, .unset, .unset, .unset, .unset, .unset, .unset, .unset, .unset, .unset, .unset] []) := fun t kt => S196 t (st198 t kt)
  clear S196 st198 X191 e191
  have S200 : Go p e below s₁ (entryFrame m #[(.int a), (.long b), (.int d), (.int e0x), (.int f)] maxLocals) T198 (mkF m 205 #[.val (.int a), .val (.long b), .second, .val (.int d), .val (.int e0x), .val (.int f), .val (.int s0), .val (.int s1), .val (.int s2), .val (.int s3), .val (.ref b81), .val (.ref b100), .val (.ref b160), .unset, .unset, .unset, .unset, .unset, .unset, .unset, .unset, .unset, .unset, .unset] [(.int (5 : Int32)), (.ref b100), (.int (5 : Int32)), (.ref b160)]) := fun t kt => S199 t (by
    refine XS.aload X198.here hx rfl (hb hby at_199) rfl rfl ?_
    show Steps p.tables e below (T198.setTop (mkF m 201 #[.val (.int a), .val (.long b), .second, .val (.int d), .val (.int e0x), .val (.int f), .val (.int s0), .val (.int s1), .val (.int s2), .val (.int s3), .val (.ref b81), .val (.ref b100), .val (.ref b160), .unset, .unset, .unset, .unset, .unset, .unset, .unset, .unset, .unset, .unset, .unset] [(.ref b160)])) _
    refine XS.iconst X198.here hx rfl (hb hby at_201) ?_
    show Steps p.tables e below (T198.setTop (mkF m 202 #[.val (.int a), .val (.long b), .second, .val (.int d), .val (.int e0x), .val (.int f), .val (.int s0), .val (.int s1), .val (.int s2), .val (.int s3), .val (.ref b81), .val (.ref b100), .val (.ref b160), .unset, .unset, .unset, .unset, .unset, .unset, .unset, .unset, .unset, .unset, .unset] [(.int (5 : Int32)), (.ref b160)])) _
    refine XS.aload X198.here hx rfl (hb hby at_202) rfl rfl ?_
    show Steps p.tables e below (T198.setTop (mkF m 204 #[.val (.int a), .val (.long b), .second, .val (.int d), .val (.int e0x), .val (.int f), .val (.int s0), .val (.int s1), .val (.int s2), .val (.int s3), .val (.ref b81), .val (.ref b100), .val (.ref b160), .unset, .unset, .unset, .unset, .unset, .unset, .unset, .unset, .unset, .unset, .unset] [(.ref b100), (.int (5 : Int32)), (.ref b160)])) _
    refine XS.iconst X198.here hx rfl (hb hby at_204) ?_
    show Steps p.tables e below (T198.setTop (mkF m 205 #[.val (.int a), .val (.long b), .second, .val (.int d), .val (.int e0x), .val (.int f), .val (.int s0), .val (.int s1), .val (.int s2), .val (.int s3), .val (.ref b81), .val (.ref b100), .val (.ref b160), .unset, .unset, .unset, .unset, .unset, .unset, .unset, .unset, .unset, .unset, .unset] [(.int (5 : Int32)), (.ref b100), (.int (5 : Int32)), (.ref b160)])) _
    exact kt)
  clear S199
  have f201 := (f194.other W198 ne163)
  obtain ⟨co202, Ao202, qo202, So202, No202, Ho202, Go202⟩ := id f201
  have hino202 : ¬ ((5 : Int32) < 0 ∨ co202.slots.size ≤ ((5 : Int32)).toNatClampNeg) := inb_of So202 ⟨by decide, by decide⟩
  have hato202 : co202.slots[((5 : Int32)).toNatClampNeg]? = some (.long l5) := Has.at Ho202 hino202 rfl
  have S203 : Go p e below s₁ (entryFrame m #[(.int a), (.long b), (.int d), (.int e0x), (.int f)] maxLocals) T198 (mkF m 207 #[.val (.int a), .val (.long b), .second, .val (.int d), .val (.int e0x), .val (.int f), .val (.int s0), .val (.int s1), .val (.int s2), .val (.int s3), .val (.ref b81), .val (.ref b100), .val (.ref b160), .unset, .unset, .unset, .unset, .unset, .unset, .unset, .unset, .unset, .unset, .unset] [(.double (FP.l2d l5)), (.int (5 : Int32)), (.ref b160)]) := fun t kt => S200 t (by
    refine X198.laload hx (j := (5 : Int32)) (v := (.long l5)) (by rw [e198]; exact Ao202.1) (State.isArrayOf_alike hZ.alike Ao202.2.1) Ao202.2.2 hino202 hato202 (g := (mkF m 205 #[.val (.int a), .val (.long b), .second, .val (.int d), .val (.int e0x), .val (.int f), .val (.int s0), .val (.int s1), .val (.int s2), .val (.int s3), .val (.ref b81), .val (.ref b100), .val (.ref b160), .unset, .unset, .unset, .unset, .unset, .unset, .unset, .unset, .unset, .unset, .unset] [(.int (5 : Int32)), (.ref b100), (.int (5 : Int32)), (.ref b160)])) rfl rfl (hb hby at_205) _ ?_
    show Steps p.tables e below (T198.setTop (mkF m 206 #[.val (.int a), .val (.long b), .second, .val (.int d), .val (.int e0x), .val (.int f), .val (.int s0), .val (.int s1), .val (.int s2), .val (.int s3), .val (.ref b81), .val (.ref b100), .val (.ref b160), .unset, .unset, .unset, .unset, .unset, .unset, .unset, .unset, .unset, .unset, .unset] [(.long l5), (.int (5 : Int32)), (.ref b160)])) _
    refine XS.l2dS X198.here hx rfl (hb hby at_206) rfl rfl ?_
    show Steps p.tables e below (T198.setTop (mkF m 207 #[.val (.int a), .val (.long b), .second, .val (.int d), .val (.int e0x), .val (.int f), .val (.int s0), .val (.int s1), .val (.int s2), .val (.int s3), .val (.ref b81), .val (.ref b100), .val (.ref b160), .unset, .unset, .unset, .unset, .unset, .unset, .unset, .unset, .unset, .unset, .unset] [(.double (FP.l2d l5)), (.int (5 : Int32)), (.ref b160)])) _
    exact kt)
  clear S200
  obtain ⟨co204, Ao204, qo204, So204, No204, Ho204, Go204⟩ := id V198
  have hino204 : ¬ ((5 : Int32) < 0 ∨ co204.slots.size ≤ ((5 : Int32)).toNatClampNeg) := inb_of So204 ⟨by decide, by decide⟩
  obtain ⟨T205, h205, X205, e205, W205, st205⟩ := stD X198 hx hZ e198 Ao204 (j := (5 : Int32)) hino204 (g := (mkF m 207 #[.val (.int a), .val (.long b), .second, .val (.int d), .val (.int e0x), .val (.int f), .val (.int s0), .val (.int s1), .val (.int s2), .val (.int s3), .val (.ref b81), .val (.ref b100), .val (.ref b160), .unset, .unset, .unset, .unset, .unset, .unset, .unset, .unset, .unset, .unset, .unset] [(.double (FP.l2d l5)), (.int (5 : Int32)), (.ref b160)])) rfl rfl (hb hby at_207)
  have N205 := Fr.snoc X205 N198 g_b160
  have V205 : Arv Z h205 b160 k160 .double (8 : Int32) [(.double (FP.l2d l0)), (.double (FP.l2d l1)), (.double (FP.l2d l2)), (.double (FP.l2d l3)), (.double (FP.l2d l4)), (.double (FP.l2d l5)), (.double (0 : UInt64)), (.double (0 : UInt64))] (.double (0 : UInt64)) := Arv.set Ao204 qo204 So204 No204 Ho204 Go204 rfl W205 5 rfl (Nat.le_of_ble_eq_true rfl)
  have S206 : Go p e below s₁ (entryFrame m #[(.int a), (.long b), (.int d), (.int e0x), (.int f)] maxLocals) T205 (mkF m 208 #[.val (.int a), .val (.long b), .second, .val (.int d), .val (.int e0x), .val (.int f), .val (.int s0), .val (.int s1), .val (.int s2), .val (.int s3), .val (.ref b81), .val (.ref b100), .val (.ref b160), .unset, .unset, .unset, .unset, .unset, .unset, .unset, .unset, .unset, .unset, .unset] []) := fun t kt => S203 t (st205 t kt)
  clear S203 st205 X198 e198
  have S207 : Go p e below s₁ (entryFrame m #[(.int a), (.long b), (.int d), (.int e0x), (.int f)] maxLocals) T205 (mkF m 216 #[.val (.int a), .val (.long b), .second, .val (.int d), .val (.int e0x), .val (.int f), .val (.int s0), .val (.int s1), .val (.int s2), .val (.int s3), .val (.ref b81), .val (.ref b100), .val (.ref b160), .unset, .unset, .unset, .unset, .unset, .unset, .unset, .unset, .unset, .unset, .unset] [(.int (6 : Int32)), (.ref b100), (.int (6 : Int32)), (.ref b160)]) := fun t kt => S206 t (by
    refine XS.aload X205.here hx rfl (hb hby at_208) rfl rfl ?_
    show Steps p.tables e below (T205.setTop (mkF m 210 #[.val (.int a), .val (.long b), .second, .val (.int d), .val (.int e0x), .val (.int f), .val (.int s0), .val (.int s1), .val (.int s2), .val (.int s3), .val (.ref b81), .val (.ref b100), .val (.ref b160), .unset, .unset, .unset, .unset, .unset, .unset, .unset, .unset, .unset, .unset, .unset] [(.ref b160)])) _
    refine XS.bipush X205.here hx rfl (hb hby at_210) ?_
    show Steps p.tables e below (T205.setTop (mkF m 212 #[.val (.int a), .val (.long b), .second, .val (.int d), .val (.int e0x), .val (.int f), .val (.int s0), .val (.int s1), .val (.int s2), .val (.int s3), .val (.ref b81), .val (.ref b100), .val (.ref b160), .unset, .unset, .unset, .unset, .unset, .unset, .unset, .unset, .unset, .unset, .unset] [(.int (6 : Int32)), (.ref b160)])) _
    refine XS.aload X205.here hx rfl (hb hby at_212) rfl rfl ?_
    show Steps p.tables e below (T205.setTop (mkF m 214 #[.val (.int a), .val (.long b), .second, .val (.int d), .val (.int e0x), .val (.int f), .val (.int s0), .val (.int s1), .val (.int s2), .val (.int s3), .val (.ref b81), .val (.ref b100), .val (.ref b160), .unset, .unset, .unset, .unset, .unset, .unset, .unset, .unset, .unset, .unset, .unset] [(.ref b100), (.int (6 : Int32)), (.ref b160)])) _
    refine XS.bipush X205.here hx rfl (hb hby at_214) ?_
    show Steps p.tables e below (T205.setTop (mkF m 216 #[.val (.int a), .val (.long b), .second, .val (.int d), .val (.int e0x), .val (.int f), .val (.int s0), .val (.int s1), .val (.int s2), .val (.int s3), .val (.ref b81), .val (.ref b100), .val (.ref b160), .unset, .unset, .unset, .unset, .unset, .unset, .unset, .unset, .unset, .unset, .unset] [(.int (6 : Int32)), (.ref b100), (.int (6 : Int32)), (.ref b160)])) _
    exact kt)
  clear S206
  have f208 := (f201.other W205 ne163)
  obtain ⟨co209, Ao209, qo209, So209, No209, Ho209, Go209⟩ := id f208
  have hino209 : ¬ ((6 : Int32) < 0 ∨ co209.slots.size ≤ ((6 : Int32)).toNatClampNeg) := inb_of So209 ⟨by decide, by decide⟩
  have hato209 : co209.slots[((6 : Int32)).toNatClampNeg]? = some (.long l6) := Has.at Ho209 hino209 rfl
  have S210 : Go p e below s₁ (entryFrame m #[(.int a), (.long b), (.int d), (.int e0x), (.int f)] maxLocals) T205 (mkF m 218 #[.val (.int a), .val (.long b), .second, .val (.int d), .val (.int e0x), .val (.int f), .val (.int s0), .val (.int s1), .val (.int s2), .val (.int s3), .val (.ref b81), .val (.ref b100), .val (.ref b160), .unset, .unset, .unset, .unset, .unset, .unset, .unset, .unset, .unset, .unset, .unset] [(.double (FP.l2d l6)), (.int (6 : Int32)), (.ref b160)]) := fun t kt => S207 t (by
    refine X205.laload hx (j := (6 : Int32)) (v := (.long l6)) (by rw [e205]; exact Ao209.1) (State.isArrayOf_alike hZ.alike Ao209.2.1) Ao209.2.2 hino209 hato209 (g := (mkF m 216 #[.val (.int a), .val (.long b), .second, .val (.int d), .val (.int e0x), .val (.int f), .val (.int s0), .val (.int s1), .val (.int s2), .val (.int s3), .val (.ref b81), .val (.ref b100), .val (.ref b160), .unset, .unset, .unset, .unset, .unset, .unset, .unset, .unset, .unset, .unset, .unset] [(.int (6 : Int32)), (.ref b100), (.int (6 : Int32)), (.ref b160)])) rfl rfl (hb hby at_216) _ ?_
    show Steps p.tables e below (T205.setTop (mkF m 217 #[.val (.int a), .val (.long b), .second, .val (.int d), .val (.int e0x), .val (.int f), .val (.int s0), .val (.int s1), .val (.int s2), .val (.int s3), .val (.ref b81), .val (.ref b100), .val (.ref b160), .unset, .unset, .unset, .unset, .unset, .unset, .unset, .unset, .unset, .unset, .unset] [(.long l6), (.int (6 : Int32)), (.ref b160)])) _
    refine XS.l2dS X205.here hx rfl (hb hby at_217) rfl rfl ?_
    show Steps p.tables e below (T205.setTop (mkF m 218 #[.val (.int a), .val (.long b), .second, .val (.int d), .val (.int e0x), .val (.int f), .val (.int s0), .val (.int s1), .val (.int s2), .val (.int s3), .val (.ref b81), .val (.ref b100), .val (.ref b160), .unset, .unset, .unset, .unset, .unset, .unset, .unset, .unset, .unset, .unset, .unset] [(.double (FP.l2d l6)), (.int (6 : Int32)), (.ref b160)])) _
    exact kt)
  clear S207
  obtain ⟨co211, Ao211, qo211, So211, No211, Ho211, Go211⟩ := id V205
  have hino211 : ¬ ((6 : Int32) < 0 ∨ co211.slots.size ≤ ((6 : Int32)).toNatClampNeg) := inb_of So211 ⟨by decide, by decide⟩
  obtain ⟨T212, h212, X212, e212, W212, st212⟩ := stD X205 hx hZ e205 Ao211 (j := (6 : Int32)) hino211 (g := (mkF m 218 #[.val (.int a), .val (.long b), .second, .val (.int d), .val (.int e0x), .val (.int f), .val (.int s0), .val (.int s1), .val (.int s2), .val (.int s3), .val (.ref b81), .val (.ref b100), .val (.ref b160), .unset, .unset, .unset, .unset, .unset, .unset, .unset, .unset, .unset, .unset, .unset] [(.double (FP.l2d l6)), (.int (6 : Int32)), (.ref b160)])) rfl rfl (hb hby at_218)
  have N212 := Fr.snoc X212 N205 g_b160
  have V212 : Arv Z h212 b160 k160 .double (8 : Int32) [(.double (FP.l2d l0)), (.double (FP.l2d l1)), (.double (FP.l2d l2)), (.double (FP.l2d l3)), (.double (FP.l2d l4)), (.double (FP.l2d l5)), (.double (FP.l2d l6)), (.double (0 : UInt64))] (.double (0 : UInt64)) := Arv.set Ao211 qo211 So211 No211 Ho211 Go211 rfl W212 6 rfl (Nat.le_of_ble_eq_true rfl)
  have S213 : Go p e below s₁ (entryFrame m #[(.int a), (.long b), (.int d), (.int e0x), (.int f)] maxLocals) T212 (mkF m 219 #[.val (.int a), .val (.long b), .second, .val (.int d), .val (.int e0x), .val (.int f), .val (.int s0), .val (.int s1), .val (.int s2), .val (.int s3), .val (.ref b81), .val (.ref b100), .val (.ref b160), .unset, .unset, .unset, .unset, .unset, .unset, .unset, .unset, .unset, .unset, .unset] []) := fun t kt => S210 t (st212 t kt)
  clear S210 st212 X205 e205
  have S214 : Go p e below s₁ (entryFrame m #[(.int a), (.long b), (.int d), (.int e0x), (.int f)] maxLocals) T212 (mkF m 227 #[.val (.int a), .val (.long b), .second, .val (.int d), .val (.int e0x), .val (.int f), .val (.int s0), .val (.int s1), .val (.int s2), .val (.int s3), .val (.ref b81), .val (.ref b100), .val (.ref b160), .unset, .unset, .unset, .unset, .unset, .unset, .unset, .unset, .unset, .unset, .unset] [(.int (7 : Int32)), (.ref b100), (.int (7 : Int32)), (.ref b160)]) := fun t kt => S213 t (by
    refine XS.aload X212.here hx rfl (hb hby at_219) rfl rfl ?_
    show Steps p.tables e below (T212.setTop (mkF m 221 #[.val (.int a), .val (.long b), .second, .val (.int d), .val (.int e0x), .val (.int f), .val (.int s0), .val (.int s1), .val (.int s2), .val (.int s3), .val (.ref b81), .val (.ref b100), .val (.ref b160), .unset, .unset, .unset, .unset, .unset, .unset, .unset, .unset, .unset, .unset, .unset] [(.ref b160)])) _
    refine XS.bipush X212.here hx rfl (hb hby at_221) ?_
    show Steps p.tables e below (T212.setTop (mkF m 223 #[.val (.int a), .val (.long b), .second, .val (.int d), .val (.int e0x), .val (.int f), .val (.int s0), .val (.int s1), .val (.int s2), .val (.int s3), .val (.ref b81), .val (.ref b100), .val (.ref b160), .unset, .unset, .unset, .unset, .unset, .unset, .unset, .unset, .unset, .unset, .unset] [(.int (7 : Int32)), (.ref b160)])) _
    refine XS.aload X212.here hx rfl (hb hby at_223) rfl rfl ?_
    show Steps p.tables e below (T212.setTop (mkF m 225 #[.val (.int a), .val (.long b), .second, .val (.int d), .val (.int e0x), .val (.int f), .val (.int s0), .val (.int s1), .val (.int s2), .val (.int s3), .val (.ref b81), .val (.ref b100), .val (.ref b160), .unset, .unset, .unset, .unset, .unset, .unset, .unset, .unset, .unset, .unset, .unset] [(.ref b100), (.int (7 : Int32)), (.ref b160)])) _
    refine XS.bipush X212.here hx rfl (hb hby at_225) ?_
    show Steps p.tables e below (T212.setTop (mkF m 227 #[.val (.int a), .val (.long b), .second, .val (.int d), .val (.int e0x), .val (.int f), .val (.int s0), .val (.int s1), .val (.int s2), .val (.int s3), .val (.ref b81), .val (.ref b100), .val (.ref b160), .unset, .unset, .unset, .unset, .unset, .unset, .unset, .unset, .unset, .unset, .unset] [(.int (7 : Int32)), (.ref b100), (.int (7 : Int32)), (.ref b160)])) _
    exact kt)
  clear S213
  have f215 := (f208.other W212 ne163)
  obtain ⟨co216, Ao216, qo216, So216, No216, Ho216, Go216⟩ := id f215
  have hino216 : ¬ ((7 : Int32) < 0 ∨ co216.slots.size ≤ ((7 : Int32)).toNatClampNeg) := inb_of So216 ⟨by decide, by decide⟩
  have hato216 : co216.slots[((7 : Int32)).toNatClampNeg]? = some (.long l7) := Has.at Ho216 hino216 rfl
  have S217 : Go p e below s₁ (entryFrame m #[(.int a), (.long b), (.int d), (.int e0x), (.int f)] maxLocals) T212 (mkF m 229 #[.val (.int a), .val (.long b), .second, .val (.int d), .val (.int e0x), .val (.int f), .val (.int s0), .val (.int s1), .val (.int s2), .val (.int s3), .val (.ref b81), .val (.ref b100), .val (.ref b160), .unset, .unset, .unset, .unset, .unset, .unset, .unset, .unset, .unset, .unset, .unset] [(.double (FP.l2d l7)), (.int (7 : Int32)), (.ref b160)]) := fun t kt => S214 t (by
    refine X212.laload hx (j := (7 : Int32)) (v := (.long l7)) (by rw [e212]; exact Ao216.1) (State.isArrayOf_alike hZ.alike Ao216.2.1) Ao216.2.2 hino216 hato216 (g := (mkF m 227 #[.val (.int a), .val (.long b), .second, .val (.int d), .val (.int e0x), .val (.int f), .val (.int s0), .val (.int s1), .val (.int s2), .val (.int s3), .val (.ref b81), .val (.ref b100), .val (.ref b160), .unset, .unset, .unset, .unset, .unset, .unset, .unset, .unset, .unset, .unset, .unset] [(.int (7 : Int32)), (.ref b100), (.int (7 : Int32)), (.ref b160)])) rfl rfl (hb hby at_227) _ ?_
    show Steps p.tables e below (T212.setTop (mkF m 228 #[.val (.int a), .val (.long b), .second, .val (.int d), .val (.int e0x), .val (.int f), .val (.int s0), .val (.int s1), .val (.int s2), .val (.int s3), .val (.ref b81), .val (.ref b100), .val (.ref b160), .unset, .unset, .unset, .unset, .unset, .unset, .unset, .unset, .unset, .unset, .unset] [(.long l7), (.int (7 : Int32)), (.ref b160)])) _
    refine XS.l2dS X212.here hx rfl (hb hby at_228) rfl rfl ?_
    show Steps p.tables e below (T212.setTop (mkF m 229 #[.val (.int a), .val (.long b), .second, .val (.int d), .val (.int e0x), .val (.int f), .val (.int s0), .val (.int s1), .val (.int s2), .val (.int s3), .val (.ref b81), .val (.ref b100), .val (.ref b160), .unset, .unset, .unset, .unset, .unset, .unset, .unset, .unset, .unset, .unset, .unset] [(.double (FP.l2d l7)), (.int (7 : Int32)), (.ref b160)])) _
    exact kt)
  clear S214
  obtain ⟨co218, Ao218, qo218, So218, No218, Ho218, Go218⟩ := id V212
  have hino218 : ¬ ((7 : Int32) < 0 ∨ co218.slots.size ≤ ((7 : Int32)).toNatClampNeg) := inb_of So218 ⟨by decide, by decide⟩
  obtain ⟨T219, h219, X219, e219, W219, st219⟩ := stD X212 hx hZ e212 Ao218 (j := (7 : Int32)) hino218 (g := (mkF m 229 #[.val (.int a), .val (.long b), .second, .val (.int d), .val (.int e0x), .val (.int f), .val (.int s0), .val (.int s1), .val (.int s2), .val (.int s3), .val (.ref b81), .val (.ref b100), .val (.ref b160), .unset, .unset, .unset, .unset, .unset, .unset, .unset, .unset, .unset, .unset, .unset] [(.double (FP.l2d l7)), (.int (7 : Int32)), (.ref b160)])) rfl rfl (hb hby at_229)
  have N219 := Fr.snoc X219 N212 g_b160
  have V219 : Arv Z h219 b160 k160 .double (8 : Int32) [(.double (FP.l2d l0)), (.double (FP.l2d l1)), (.double (FP.l2d l2)), (.double (FP.l2d l3)), (.double (FP.l2d l4)), (.double (FP.l2d l5)), (.double (FP.l2d l6)), (.double (FP.l2d l7))] (.double (0 : UInt64)) := Arv.set Ao218 qo218 So218 No218 Ho218 Go218 rfl W219 7 rfl (Nat.le_of_ble_eq_true rfl)
  have S220 : Go p e below s₁ (entryFrame m #[(.int a), (.long b), (.int d), (.int e0x), (.int f)] maxLocals) T219 (mkF m 230 #[.val (.int a), .val (.long b), .second, .val (.int d), .val (.int e0x), .val (.int f), .val (.int s0), .val (.int s1), .val (.int s2), .val (.int s3), .val (.ref b81), .val (.ref b100), .val (.ref b160), .unset, .unset, .unset, .unset, .unset, .unset, .unset, .unset, .unset, .unset, .unset] []) := fun t kt => S217 t (st219 t kt)
  clear S217 st219 X212 e212
  have S221 : Go p e below s₁ (entryFrame m #[(.int a), (.long b), (.int d), (.int e0x), (.int f)] maxLocals) T219 (mkF m 232 #[.val (.int a), .val (.long b), .second, .val (.int d), .val (.int e0x), .val (.int f), .val (.int s0), .val (.int s1), .val (.int s2), .val (.int s3), .val (.ref b81), .val (.ref b100), .val (.ref b160), .unset, .unset, .unset, .unset, .unset, .unset, .unset, .unset, .unset, .unset, .unset] [(.int (8 : Int32))]) := fun t kt => S220 t (by
    refine XS.bipush X219.here hx rfl (hb hby at_230) ?_
    show Steps p.tables e below (T219.setTop (mkF m 232 #[.val (.int a), .val (.long b), .second, .val (.int d), .val (.int e0x), .val (.int f), .val (.int s0), .val (.int s1), .val (.int s2), .val (.int s3), .val (.ref b81), .val (.ref b100), .val (.ref b160), .unset, .unset, .unset, .unset, .unset, .unset, .unset, .unset, .unset, .unset, .unset] [(.int (8 : Int32))])) _
    exact kt)
  clear S220
  obtain ⟨T222, h222, k222, X222, e222, E222, A222, st222⟩ := newP X219 hx hZ (hw _ (List.mem_of_getElem? (i := 0) rfl)) e219 (g := (mkF m 232 #[.val (.int a), .val (.long b), .second, .val (.int d), .val (.int e0x), .val (.int f), .val (.int s0), .val (.int s1), .val (.int s2), .val (.int s3), .val (.ref b81), .val (.ref b100), .val (.ref b160), .unset, .unset, .unset, .unset, .unset, .unset, .unset, .unset, .unset, .unset, .unset] [(.int (8 : Int32))])) rfl (hb hby at_232) rfl (by decide) (cap := 8) (by decide) (by decide) (by decide) (by decide)
  obtain ⟨b222, g222⟩ : ∃ z, z = h219.size := ⟨_, rfl⟩
  rw [← g222] at A222 st222
  have f223 := (((((((((f161.ext E160).other W170 ne162).other W177 ne162).other W184 ne162).other W191 ne162).other W198 ne162).other W205 ne162).other W212 ne162).other W219 ne162)
  have ne224 : b81 ≠ b222 := by rw [g222]; exact Nat.ne_of_lt f223.lt
  have f225 := (f215.other W219 ne163)
  have ne226 : b100 ≠ b222 := by rw [g222]; exact Nat.ne_of_lt f225.lt
  have ne227 : b160 ≠ b222 := by rw [g222]; exact Nat.ne_of_lt V219.lt
  have g_b222 : n0 ≤ b222 := Nat.le_trans (Nat.le_trans (Nat.le_trans (Nat.le_trans (Nat.le_trans (Nat.le_trans (Nat.le_trans (Nat.le_trans (Nat.le_trans (Nat.le_trans (Nat.le_trans (Nat.le_trans (Nat.le_trans (Nat.le_trans (Nat.le_trans (Nat.le_trans (Nat.le_trans (Nat.le_trans (Nat.le_trans (Nat.le_trans (Nat.le_trans (Nat.le_trans (Nat.le_trans (Nat.le_trans Z0 E81.1) (Keep.of_wr W85).1) (Keep.of_wr W89).1) (Keep.of_wr W93).1) (Keep.of_wr W97).1) E100.1) (Keep.of_wr W108).1) (Keep.of_wr W115).1) (Keep.of_wr W122).1) (Keep.of_wr W129).1) (Keep.of_wr W136).1) (Keep.of_wr W143).1) (Keep.of_wr W150).1) (Keep.of_wr W157).1) E160.1) (Keep.of_wr W170).1) (Keep.of_wr W177).1) (Keep.of_wr W184).1) (Keep.of_wr W191).1) (Keep.of_wr W198).1) (Keep.of_wr W205).1) (Keep.of_wr W212).1) (Keep.of_wr W219).1) (Nat.le_of_eq g222.symm)
  have V222 : Arv Z h222 b222 k222 .int (8 : Int32) [(.int (0 : Int32)), (.int (0 : Int32)), (.int (0 : Int32)), (.int (0 : Int32)), (.int (0 : Int32)), (.int (0 : Int32)), (.int (0 : Int32)), (.int (0 : Int32))] (.int (0 : Int32)) := (Arv.new A222 (by decide)).pad (pad_rep [] _ 8)
  have S228 : Go p e below s₁ (entryFrame m #[(.int a), (.long b), (.int d), (.int e0x), (.int f)] maxLocals) T222 (mkF m 234 #[.val (.int a), .val (.long b), .second, .val (.int d), .val (.int e0x), .val (.int f), .val (.int s0), .val (.int s1), .val (.int s2), .val (.int s3), .val (.ref b81), .val (.ref b100), .val (.ref b160), .unset, .unset, .unset, .unset, .unset, .unset, .unset, .unset, .unset, .unset, .unset] [(.ref b222)]) := fun t kt => S221 t (st222 t kt)
  clear S221 st222 X219 e219
  have S229 : Go p e below s₁ (entryFrame m #[(.int a), (.long b), (.int d), (.int e0x), (.int f)] maxLocals) T222 (mkF m 236 #[.val (.int a), .val (.long b), .second, .val (.int d), .val (.int e0x), .val (.int f), .val (.int s0), .val (.int s1), .val (.int s2), .val (.int s3), .val (.ref b81), .val (.ref b100), .val (.ref b160), .val (.ref b222), .unset, .unset, .unset, .unset, .unset, .unset, .unset, .unset, .unset, .unset] []) := fun t kt => S228 t (by
    refine XS.astore X222.here hx rfl (hb hby at_234) rfl rfl (l' := #[.val (.int a), .val (.long b), .second, .val (.int d), .val (.int e0x), .val (.int f), .val (.int s0), .val (.int s1), .val (.int s2), .val (.int s3), .val (.ref b81), .val (.ref b100), .val (.ref b160), .val (.ref b222), .unset, .unset, .unset, .unset, .unset, .unset, .unset, .unset, .unset, .unset]) rfl ?_
    show Steps p.tables e below (T222.setTop (mkF m 236 #[.val (.int a), .val (.long b), .second, .val (.int d), .val (.int e0x), .val (.int f), .val (.int s0), .val (.int s1), .val (.int s2), .val (.int s3), .val (.ref b81), .val (.ref b100), .val (.ref b160), .val (.ref b222), .unset, .unset, .unset, .unset, .unset, .unset, .unset, .unset, .unset, .unset] [])) _
    exact kt)
  clear S228
  have S230 : Go p e below s₁ (entryFrame m #[(.int a), (.long b), (.int d), (.int e0x), (.int f)] maxLocals) T222 (mkF m 243 #[.val (.int a), .val (.long b), .second, .val (.int d), .val (.int e0x), .val (.int f), .val (.int s0), .val (.int s1), .val (.int s2), .val (.int s3), .val (.ref b81), .val (.ref b100), .val (.ref b160), .val (.ref b222), .unset, .unset, .unset, .unset, .unset, .unset, .unset, .unset, .unset, .unset] [(.int (e0x &&& (3 : Int32))), (.int (0 : Int32)), (.ref b222)]) := fun t kt => S229 t (by
    refine XS.aload X222.here hx rfl (hb hby at_236) rfl rfl ?_
    show Steps p.tables e below (T222.setTop (mkF m 238 #[.val (.int a), .val (.long b), .second, .val (.int d), .val (.int e0x), .val (.int f), .val (.int s0), .val (.int s1), .val (.int s2), .val (.int s3), .val (.ref b81), .val (.ref b100), .val (.ref b160), .val (.ref b222), .unset, .unset, .unset, .unset, .unset, .unset, .unset, .unset, .unset, .unset] [(.ref b222)])) _
    refine XS.iconst X222.here hx rfl (hb hby at_238) ?_
    show Steps p.tables e below (T222.setTop (mkF m 239 #[.val (.int a), .val (.long b), .second, .val (.int d), .val (.int e0x), .val (.int f), .val (.int s0), .val (.int s1), .val (.int s2), .val (.int s3), .val (.ref b81), .val (.ref b100), .val (.ref b160), .val (.ref b222), .unset, .unset, .unset, .unset, .unset, .unset, .unset, .unset, .unset, .unset] [(.int (0 : Int32)), (.ref b222)])) _
    refine XS.iload X222.here hx rfl (hb hby at_239) rfl ?_
    show Steps p.tables e below (T222.setTop (mkF m 241 #[.val (.int a), .val (.long b), .second, .val (.int d), .val (.int e0x), .val (.int f), .val (.int s0), .val (.int s1), .val (.int s2), .val (.int s3), .val (.ref b81), .val (.ref b100), .val (.ref b160), .val (.ref b222), .unset, .unset, .unset, .unset, .unset, .unset, .unset, .unset, .unset, .unset] [(.int e0x), (.int (0 : Int32)), (.ref b222)])) _
    refine XS.iconst X222.here hx rfl (hb hby at_241) ?_
    show Steps p.tables e below (T222.setTop (mkF m 242 #[.val (.int a), .val (.long b), .second, .val (.int d), .val (.int e0x), .val (.int f), .val (.int s0), .val (.int s1), .val (.int s2), .val (.int s3), .val (.ref b81), .val (.ref b100), .val (.ref b160), .val (.ref b222), .unset, .unset, .unset, .unset, .unset, .unset, .unset, .unset, .unset, .unset] [(.int (3 : Int32)), (.int e0x), (.int (0 : Int32)), (.ref b222)])) _
    refine XS.iand X222.here hx rfl (hb hby at_242) rfl ?_
    show Steps p.tables e below (T222.setTop (mkF m 243 #[.val (.int a), .val (.long b), .second, .val (.int d), .val (.int e0x), .val (.int f), .val (.int s0), .val (.int s1), .val (.int s2), .val (.int s3), .val (.ref b81), .val (.ref b100), .val (.ref b160), .val (.ref b222), .unset, .unset, .unset, .unset, .unset, .unset, .unset, .unset, .unset, .unset] [(.int (e0x &&& (3 : Int32))), (.int (0 : Int32)), (.ref b222)])) _
    exact kt)
  clear S229
  obtain ⟨p0, q_p0⟩ : ∃ z : Int32, z = (e0x &&& (3 : Int32)) := ⟨_, rfl⟩
  have S231 : Go p e below s₁ (entryFrame m #[(.int a), (.long b), (.int d), (.int e0x), (.int f)] maxLocals) T222 (mkF m 243 #[.val (.int a), .val (.long b), .second, .val (.int d), .val (.int e0x), .val (.int f), .val (.int s0), .val (.int s1), .val (.int s2), .val (.int s3), .val (.ref b81), .val (.ref b100), .val (.ref b160), .val (.ref b222), .unset, .unset, .unset, .unset, .unset, .unset, .unset, .unset, .unset, .unset] [(.int p0), (.int (0 : Int32)), (.ref b222)]) := by subst q_p0; exact S230
  clear S230
  have hp0 := own_and3 e0x
  rw [← q_p0] at hp0
  obtain ⟨co232, Ao232, qo232, So232, No232, Ho232, Go232⟩ := id V222
  have hino232 : ¬ ((0 : Int32) < 0 ∨ co232.slots.size ≤ ((0 : Int32)).toNatClampNeg) := inb_of So232 ⟨by decide, by decide⟩
  obtain ⟨T233, h233, X233, e233, W233, st233⟩ := stI X222 hx hZ e222 Ao232 (j := (0 : Int32)) hino232 (g := (mkF m 243 #[.val (.int a), .val (.long b), .second, .val (.int d), .val (.int e0x), .val (.int f), .val (.int s0), .val (.int s1), .val (.int s2), .val (.int s3), .val (.ref b81), .val (.ref b100), .val (.ref b160), .val (.ref b222), .unset, .unset, .unset, .unset, .unset, .unset, .unset, .unset, .unset, .unset] [(.int p0), (.int (0 : Int32)), (.ref b222)])) rfl rfl (hb hby at_243)
  have N233 := Fr.snoc X233 N219 g_b222
  have V233 : Arv Z h233 b222 k222 .int (8 : Int32) [(.int p0), (.int (0 : Int32)), (.int (0 : Int32)), (.int (0 : Int32)), (.int (0 : Int32)), (.int (0 : Int32)), (.int (0 : Int32)), (.int (0 : Int32))] (.int (0 : Int32)) := Arv.set Ao232 qo232 So232 No232 Ho232 Go232 rfl W233 0 rfl (Nat.le_of_ble_eq_true rfl)
  have S234 : Go p e below s₁ (entryFrame m #[(.int a), (.long b), (.int d), (.int e0x), (.int f)] maxLocals) T233 (mkF m 244 #[.val (.int a), .val (.long b), .second, .val (.int d), .val (.int e0x), .val (.int f), .val (.int s0), .val (.int s1), .val (.int s2), .val (.int s3), .val (.ref b81), .val (.ref b100), .val (.ref b160), .val (.ref b222), .unset, .unset, .unset, .unset, .unset, .unset, .unset, .unset, .unset, .unset] []) := fun t kt => S231 t (st233 t kt)
  clear S231 st233 X222 e222
  have S235 : Go p e below s₁ (entryFrame m #[(.int a), (.long b), (.int d), (.int e0x), (.int f)] maxLocals) T233 (mkF m 253 #[.val (.int a), .val (.long b), .second, .val (.int d), .val (.int e0x), .val (.int f), .val (.int s0), .val (.int s1), .val (.int s2), .val (.int s3), .val (.ref b81), .val (.ref b100), .val (.ref b160), .val (.ref b222), .unset, .unset, .unset, .unset, .unset, .unset, .unset, .unset, .unset, .unset] [(.int (((e0x.toUInt32 >>> ((2 : Int32) &&& 31).toUInt32).toInt32) &&& (3 : Int32))), (.int (1 : Int32)), (.ref b222)]) := fun t kt => S234 t (by
    refine XS.aload X233.here hx rfl (hb hby at_244) rfl rfl ?_
    show Steps p.tables e below (T233.setTop (mkF m 246 #[.val (.int a), .val (.long b), .second, .val (.int d), .val (.int e0x), .val (.int f), .val (.int s0), .val (.int s1), .val (.int s2), .val (.int s3), .val (.ref b81), .val (.ref b100), .val (.ref b160), .val (.ref b222), .unset, .unset, .unset, .unset, .unset, .unset, .unset, .unset, .unset, .unset] [(.ref b222)])) _
    refine XS.iconst X233.here hx rfl (hb hby at_246) ?_
    show Steps p.tables e below (T233.setTop (mkF m 247 #[.val (.int a), .val (.long b), .second, .val (.int d), .val (.int e0x), .val (.int f), .val (.int s0), .val (.int s1), .val (.int s2), .val (.int s3), .val (.ref b81), .val (.ref b100), .val (.ref b160), .val (.ref b222), .unset, .unset, .unset, .unset, .unset, .unset, .unset, .unset, .unset, .unset] [(.int (1 : Int32)), (.ref b222)])) _
    refine XS.iload X233.here hx rfl (hb hby at_247) rfl ?_
    show Steps p.tables e below (T233.setTop (mkF m 249 #[.val (.int a), .val (.long b), .second, .val (.int d), .val (.int e0x), .val (.int f), .val (.int s0), .val (.int s1), .val (.int s2), .val (.int s3), .val (.ref b81), .val (.ref b100), .val (.ref b160), .val (.ref b222), .unset, .unset, .unset, .unset, .unset, .unset, .unset, .unset, .unset, .unset] [(.int e0x), (.int (1 : Int32)), (.ref b222)])) _
    refine XS.iconst X233.here hx rfl (hb hby at_249) ?_
    show Steps p.tables e below (T233.setTop (mkF m 250 #[.val (.int a), .val (.long b), .second, .val (.int d), .val (.int e0x), .val (.int f), .val (.int s0), .val (.int s1), .val (.int s2), .val (.int s3), .val (.ref b81), .val (.ref b100), .val (.ref b160), .val (.ref b222), .unset, .unset, .unset, .unset, .unset, .unset, .unset, .unset, .unset, .unset] [(.int (2 : Int32)), (.int e0x), (.int (1 : Int32)), (.ref b222)])) _
    refine XS.iushr X233.here hx rfl (hb hby at_250) rfl ?_
    show Steps p.tables e below (T233.setTop (mkF m 251 #[.val (.int a), .val (.long b), .second, .val (.int d), .val (.int e0x), .val (.int f), .val (.int s0), .val (.int s1), .val (.int s2), .val (.int s3), .val (.ref b81), .val (.ref b100), .val (.ref b160), .val (.ref b222), .unset, .unset, .unset, .unset, .unset, .unset, .unset, .unset, .unset, .unset] [(.int ((e0x.toUInt32 >>> ((2 : Int32) &&& 31).toUInt32).toInt32)), (.int (1 : Int32)), (.ref b222)])) _
    refine XS.iconst X233.here hx rfl (hb hby at_251) ?_
    show Steps p.tables e below (T233.setTop (mkF m 252 #[.val (.int a), .val (.long b), .second, .val (.int d), .val (.int e0x), .val (.int f), .val (.int s0), .val (.int s1), .val (.int s2), .val (.int s3), .val (.ref b81), .val (.ref b100), .val (.ref b160), .val (.ref b222), .unset, .unset, .unset, .unset, .unset, .unset, .unset, .unset, .unset, .unset] [(.int (3 : Int32)), (.int ((e0x.toUInt32 >>> ((2 : Int32) &&& 31).toUInt32).toInt32)), (.int (1 : Int32)), (.ref b222)])) _
    refine XS.iand X233.here hx rfl (hb hby at_252) rfl ?_
    show Steps p.tables e below (T233.setTop (mkF m 253 #[.val (.int a), .val (.long b), .second, .val (.int d), .val (.int e0x), .val (.int f), .val (.int s0), .val (.int s1), .val (.int s2), .val (.int s3), .val (.ref b81), .val (.ref b100), .val (.ref b160), .val (.ref b222), .unset, .unset, .unset, .unset, .unset, .unset, .unset, .unset, .unset, .unset] [(.int (((e0x.toUInt32 >>> ((2 : Int32) &&& 31).toUInt32).toInt32) &&& (3 : Int32))), (.int (1 : Int32)), (.ref b222)])) _
    exact kt)
  clear S234
  obtain ⟨p1, q_p1⟩ : ∃ z : Int32, z = (((e0x.toUInt32 >>> ((2 : Int32) &&& 31).toUInt32).toInt32) &&& (3 : Int32)) := ⟨_, rfl⟩
  have S236 : Go p e below s₁ (entryFrame m #[(.int a), (.long b), (.int d), (.int e0x), (.int f)] maxLocals) T233 (mkF m 253 #[.val (.int a), .val (.long b), .second, .val (.int d), .val (.int e0x), .val (.int f), .val (.int s0), .val (.int s1), .val (.int s2), .val (.int s3), .val (.ref b81), .val (.ref b100), .val (.ref b160), .val (.ref b222), .unset, .unset, .unset, .unset, .unset, .unset, .unset, .unset, .unset, .unset] [(.int p1), (.int (1 : Int32)), (.ref b222)]) := by subst q_p1; exact S235
  clear S235
  have hp1 := own_and3 ((e0x.toUInt32 >>> ((2 : Int32) &&& 31).toUInt32).toInt32)
  rw [← q_p1] at hp1
  obtain ⟨co237, Ao237, qo237, So237, No237, Ho237, Go237⟩ := id V233
  have hino237 : ¬ ((1 : Int32) < 0 ∨ co237.slots.size ≤ ((1 : Int32)).toNatClampNeg) := inb_of So237 ⟨by decide, by decide⟩
  obtain ⟨T238, h238, X238, e238, W238, st238⟩ := stI X233 hx hZ e233 Ao237 (j := (1 : Int32)) hino237 (g := (mkF m 253 #[.val (.int a), .val (.long b), .second, .val (.int d), .val (.int e0x), .val (.int f), .val (.int s0), .val (.int s1), .val (.int s2), .val (.int s3), .val (.ref b81), .val (.ref b100), .val (.ref b160), .val (.ref b222), .unset, .unset, .unset, .unset, .unset, .unset, .unset, .unset, .unset, .unset] [(.int p1), (.int (1 : Int32)), (.ref b222)])) rfl rfl (hb hby at_253)
  have N238 := Fr.snoc X238 N233 g_b222
  have V238 : Arv Z h238 b222 k222 .int (8 : Int32) [(.int p0), (.int p1), (.int (0 : Int32)), (.int (0 : Int32)), (.int (0 : Int32)), (.int (0 : Int32)), (.int (0 : Int32)), (.int (0 : Int32))] (.int (0 : Int32)) := Arv.set Ao237 qo237 So237 No237 Ho237 Go237 rfl W238 1 rfl (Nat.le_of_ble_eq_true rfl)
  have S239 : Go p e below s₁ (entryFrame m #[(.int a), (.long b), (.int d), (.int e0x), (.int f)] maxLocals) T238 (mkF m 254 #[.val (.int a), .val (.long b), .second, .val (.int d), .val (.int e0x), .val (.int f), .val (.int s0), .val (.int s1), .val (.int s2), .val (.int s3), .val (.ref b81), .val (.ref b100), .val (.ref b160), .val (.ref b222), .unset, .unset, .unset, .unset, .unset, .unset, .unset, .unset, .unset, .unset] []) := fun t kt => S236 t (st238 t kt)
  clear S236 st238 X233 e233
  have S240 : Go p e below s₁ (entryFrame m #[(.int a), (.long b), (.int d), (.int e0x), (.int f)] maxLocals) T238 (mkF m 263 #[.val (.int a), .val (.long b), .second, .val (.int d), .val (.int e0x), .val (.int f), .val (.int s0), .val (.int s1), .val (.int s2), .val (.int s3), .val (.ref b81), .val (.ref b100), .val (.ref b160), .val (.ref b222), .unset, .unset, .unset, .unset, .unset, .unset, .unset, .unset, .unset, .unset] [(.int (((e0x.toUInt32 >>> ((4 : Int32) &&& 31).toUInt32).toInt32) &&& (3 : Int32))), (.int (2 : Int32)), (.ref b222)]) := fun t kt => S239 t (by
    refine XS.aload X238.here hx rfl (hb hby at_254) rfl rfl ?_
    show Steps p.tables e below (T238.setTop (mkF m 256 #[.val (.int a), .val (.long b), .second, .val (.int d), .val (.int e0x), .val (.int f), .val (.int s0), .val (.int s1), .val (.int s2), .val (.int s3), .val (.ref b81), .val (.ref b100), .val (.ref b160), .val (.ref b222), .unset, .unset, .unset, .unset, .unset, .unset, .unset, .unset, .unset, .unset] [(.ref b222)])) _
    refine XS.iconst X238.here hx rfl (hb hby at_256) ?_
    show Steps p.tables e below (T238.setTop (mkF m 257 #[.val (.int a), .val (.long b), .second, .val (.int d), .val (.int e0x), .val (.int f), .val (.int s0), .val (.int s1), .val (.int s2), .val (.int s3), .val (.ref b81), .val (.ref b100), .val (.ref b160), .val (.ref b222), .unset, .unset, .unset, .unset, .unset, .unset, .unset, .unset, .unset, .unset] [(.int (2 : Int32)), (.ref b222)])) _
    refine XS.iload X238.here hx rfl (hb hby at_257) rfl ?_
    show Steps p.tables e below (T238.setTop (mkF m 259 #[.val (.int a), .val (.long b), .second, .val (.int d), .val (.int e0x), .val (.int f), .val (.int s0), .val (.int s1), .val (.int s2), .val (.int s3), .val (.ref b81), .val (.ref b100), .val (.ref b160), .val (.ref b222), .unset, .unset, .unset, .unset, .unset, .unset, .unset, .unset, .unset, .unset] [(.int e0x), (.int (2 : Int32)), (.ref b222)])) _
    refine XS.iconst X238.here hx rfl (hb hby at_259) ?_
    show Steps p.tables e below (T238.setTop (mkF m 260 #[.val (.int a), .val (.long b), .second, .val (.int d), .val (.int e0x), .val (.int f), .val (.int s0), .val (.int s1), .val (.int s2), .val (.int s3), .val (.ref b81), .val (.ref b100), .val (.ref b160), .val (.ref b222), .unset, .unset, .unset, .unset, .unset, .unset, .unset, .unset, .unset, .unset] [(.int (4 : Int32)), (.int e0x), (.int (2 : Int32)), (.ref b222)])) _
    refine XS.iushr X238.here hx rfl (hb hby at_260) rfl ?_
    show Steps p.tables e below (T238.setTop (mkF m 261 #[.val (.int a), .val (.long b), .second, .val (.int d), .val (.int e0x), .val (.int f), .val (.int s0), .val (.int s1), .val (.int s2), .val (.int s3), .val (.ref b81), .val (.ref b100), .val (.ref b160), .val (.ref b222), .unset, .unset, .unset, .unset, .unset, .unset, .unset, .unset, .unset, .unset] [(.int ((e0x.toUInt32 >>> ((4 : Int32) &&& 31).toUInt32).toInt32)), (.int (2 : Int32)), (.ref b222)])) _
    refine XS.iconst X238.here hx rfl (hb hby at_261) ?_
    show Steps p.tables e below (T238.setTop (mkF m 262 #[.val (.int a), .val (.long b), .second, .val (.int d), .val (.int e0x), .val (.int f), .val (.int s0), .val (.int s1), .val (.int s2), .val (.int s3), .val (.ref b81), .val (.ref b100), .val (.ref b160), .val (.ref b222), .unset, .unset, .unset, .unset, .unset, .unset, .unset, .unset, .unset, .unset] [(.int (3 : Int32)), (.int ((e0x.toUInt32 >>> ((4 : Int32) &&& 31).toUInt32).toInt32)), (.int (2 : Int32)), (.ref b222)])) _
    refine XS.iand X238.here hx rfl (hb hby at_262) rfl ?_
    show Steps p.tables e below (T238.setTop (mkF m 263 #[.val (.int a), .val (.long b), .second, .val (.int d), .val (.int e0x), .val (.int f), .val (.int s0), .val (.int s1), .val (.int s2), .val (.int s3), .val (.ref b81), .val (.ref b100), .val (.ref b160), .val (.ref b222), .unset, .unset, .unset, .unset, .unset, .unset, .unset, .unset, .unset, .unset] [(.int (((e0x.toUInt32 >>> ((4 : Int32) &&& 31).toUInt32).toInt32) &&& (3 : Int32))), (.int (2 : Int32)), (.ref b222)])) _
    exact kt)
  clear S239
  obtain ⟨p2, q_p2⟩ : ∃ z : Int32, z = (((e0x.toUInt32 >>> ((4 : Int32) &&& 31).toUInt32).toInt32) &&& (3 : Int32)) := ⟨_, rfl⟩
  have S241 : Go p e below s₁ (entryFrame m #[(.int a), (.long b), (.int d), (.int e0x), (.int f)] maxLocals) T238 (mkF m 263 #[.val (.int a), .val (.long b), .second, .val (.int d), .val (.int e0x), .val (.int f), .val (.int s0), .val (.int s1), .val (.int s2), .val (.int s3), .val (.ref b81), .val (.ref b100), .val (.ref b160), .val (.ref b222), .unset, .unset, .unset, .unset, .unset, .unset, .unset, .unset, .unset, .unset] [(.int p2), (.int (2 : Int32)), (.ref b222)]) := by subst q_p2; exact S240
  clear S240
  have hp2 := own_and3 ((e0x.toUInt32 >>> ((4 : Int32) &&& 31).toUInt32).toInt32)
  rw [← q_p2] at hp2
  obtain ⟨co242, Ao242, qo242, So242, No242, Ho242, Go242⟩ := id V238
  have hino242 : ¬ ((2 : Int32) < 0 ∨ co242.slots.size ≤ ((2 : Int32)).toNatClampNeg) := inb_of So242 ⟨by decide, by decide⟩
  obtain ⟨T243, h243, X243, e243, W243, st243⟩ := stI X238 hx hZ e238 Ao242 (j := (2 : Int32)) hino242 (g := (mkF m 263 #[.val (.int a), .val (.long b), .second, .val (.int d), .val (.int e0x), .val (.int f), .val (.int s0), .val (.int s1), .val (.int s2), .val (.int s3), .val (.ref b81), .val (.ref b100), .val (.ref b160), .val (.ref b222), .unset, .unset, .unset, .unset, .unset, .unset, .unset, .unset, .unset, .unset] [(.int p2), (.int (2 : Int32)), (.ref b222)])) rfl rfl (hb hby at_263)
  have N243 := Fr.snoc X243 N238 g_b222
  have V243 : Arv Z h243 b222 k222 .int (8 : Int32) [(.int p0), (.int p1), (.int p2), (.int (0 : Int32)), (.int (0 : Int32)), (.int (0 : Int32)), (.int (0 : Int32)), (.int (0 : Int32))] (.int (0 : Int32)) := Arv.set Ao242 qo242 So242 No242 Ho242 Go242 rfl W243 2 rfl (Nat.le_of_ble_eq_true rfl)
  have S244 : Go p e below s₁ (entryFrame m #[(.int a), (.long b), (.int d), (.int e0x), (.int f)] maxLocals) T243 (mkF m 264 #[.val (.int a), .val (.long b), .second, .val (.int d), .val (.int e0x), .val (.int f), .val (.int s0), .val (.int s1), .val (.int s2), .val (.int s3), .val (.ref b81), .val (.ref b100), .val (.ref b160), .val (.ref b222), .unset, .unset, .unset, .unset, .unset, .unset, .unset, .unset, .unset, .unset] []) := fun t kt => S241 t (st243 t kt)
  clear S241 st243 X238 e238
  have S245 : Go p e below s₁ (entryFrame m #[(.int a), (.long b), (.int d), (.int e0x), (.int f)] maxLocals) T243 (mkF m 274 #[.val (.int a), .val (.long b), .second, .val (.int d), .val (.int e0x), .val (.int f), .val (.int s0), .val (.int s1), .val (.int s2), .val (.int s3), .val (.ref b81), .val (.ref b100), .val (.ref b160), .val (.ref b222), .unset, .unset, .unset, .unset, .unset, .unset, .unset, .unset, .unset, .unset] [(.int (((e0x.toUInt32 >>> ((6 : Int32) &&& 31).toUInt32).toInt32) &&& (3 : Int32))), (.int (3 : Int32)), (.ref b222)]) := fun t kt => S244 t (by
    refine XS.aload X243.here hx rfl (hb hby at_264) rfl rfl ?_
    show Steps p.tables e below (T243.setTop (mkF m 266 #[.val (.int a), .val (.long b), .second, .val (.int d), .val (.int e0x), .val (.int f), .val (.int s0), .val (.int s1), .val (.int s2), .val (.int s3), .val (.ref b81), .val (.ref b100), .val (.ref b160), .val (.ref b222), .unset, .unset, .unset, .unset, .unset, .unset, .unset, .unset, .unset, .unset] [(.ref b222)])) _
    refine XS.iconst X243.here hx rfl (hb hby at_266) ?_
    show Steps p.tables e below (T243.setTop (mkF m 267 #[.val (.int a), .val (.long b), .second, .val (.int d), .val (.int e0x), .val (.int f), .val (.int s0), .val (.int s1), .val (.int s2), .val (.int s3), .val (.ref b81), .val (.ref b100), .val (.ref b160), .val (.ref b222), .unset, .unset, .unset, .unset, .unset, .unset, .unset, .unset, .unset, .unset] [(.int (3 : Int32)), (.ref b222)])) _
    refine XS.iload X243.here hx rfl (hb hby at_267) rfl ?_
    show Steps p.tables e below (T243.setTop (mkF m 269 #[.val (.int a), .val (.long b), .second, .val (.int d), .val (.int e0x), .val (.int f), .val (.int s0), .val (.int s1), .val (.int s2), .val (.int s3), .val (.ref b81), .val (.ref b100), .val (.ref b160), .val (.ref b222), .unset, .unset, .unset, .unset, .unset, .unset, .unset, .unset, .unset, .unset] [(.int e0x), (.int (3 : Int32)), (.ref b222)])) _
    refine XS.bipush X243.here hx rfl (hb hby at_269) ?_
    show Steps p.tables e below (T243.setTop (mkF m 271 #[.val (.int a), .val (.long b), .second, .val (.int d), .val (.int e0x), .val (.int f), .val (.int s0), .val (.int s1), .val (.int s2), .val (.int s3), .val (.ref b81), .val (.ref b100), .val (.ref b160), .val (.ref b222), .unset, .unset, .unset, .unset, .unset, .unset, .unset, .unset, .unset, .unset] [(.int (6 : Int32)), (.int e0x), (.int (3 : Int32)), (.ref b222)])) _
    refine XS.iushr X243.here hx rfl (hb hby at_271) rfl ?_
    show Steps p.tables e below (T243.setTop (mkF m 272 #[.val (.int a), .val (.long b), .second, .val (.int d), .val (.int e0x), .val (.int f), .val (.int s0), .val (.int s1), .val (.int s2), .val (.int s3), .val (.ref b81), .val (.ref b100), .val (.ref b160), .val (.ref b222), .unset, .unset, .unset, .unset, .unset, .unset, .unset, .unset, .unset, .unset] [(.int ((e0x.toUInt32 >>> ((6 : Int32) &&& 31).toUInt32).toInt32)), (.int (3 : Int32)), (.ref b222)])) _
    refine XS.iconst X243.here hx rfl (hb hby at_272) ?_
    show Steps p.tables e below (T243.setTop (mkF m 273 #[.val (.int a), .val (.long b), .second, .val (.int d), .val (.int e0x), .val (.int f), .val (.int s0), .val (.int s1), .val (.int s2), .val (.int s3), .val (.ref b81), .val (.ref b100), .val (.ref b160), .val (.ref b222), .unset, .unset, .unset, .unset, .unset, .unset, .unset, .unset, .unset, .unset] [(.int (3 : Int32)), (.int ((e0x.toUInt32 >>> ((6 : Int32) &&& 31).toUInt32).toInt32)), (.int (3 : Int32)), (.ref b222)])) _
    refine XS.iand X243.here hx rfl (hb hby at_273) rfl ?_
    show Steps p.tables e below (T243.setTop (mkF m 274 #[.val (.int a), .val (.long b), .second, .val (.int d), .val (.int e0x), .val (.int f), .val (.int s0), .val (.int s1), .val (.int s2), .val (.int s3), .val (.ref b81), .val (.ref b100), .val (.ref b160), .val (.ref b222), .unset, .unset, .unset, .unset, .unset, .unset, .unset, .unset, .unset, .unset] [(.int (((e0x.toUInt32 >>> ((6 : Int32) &&& 31).toUInt32).toInt32) &&& (3 : Int32))), (.int (3 : Int32)), (.ref b222)])) _
    exact kt)
  clear S244
  obtain ⟨p3, q_p3⟩ : ∃ z : Int32, z = (((e0x.toUInt32 >>> ((6 : Int32) &&& 31).toUInt32).toInt32) &&& (3 : Int32)) := ⟨_, rfl⟩
  have S246 : Go p e below s₁ (entryFrame m #[(.int a), (.long b), (.int d), (.int e0x), (.int f)] maxLocals) T243 (mkF m 274 #[.val (.int a), .val (.long b), .second, .val (.int d), .val (.int e0x), .val (.int f), .val (.int s0), .val (.int s1), .val (.int s2), .val (.int s3), .val (.ref b81), .val (.ref b100), .val (.ref b160), .val (.ref b222), .unset, .unset, .unset, .unset, .unset, .unset, .unset, .unset, .unset, .unset] [(.int p3), (.int (3 : Int32)), (.ref b222)]) := by subst q_p3; exact S245
  clear S245
  have hp3 := own_and3 ((e0x.toUInt32 >>> ((6 : Int32) &&& 31).toUInt32).toInt32)
  rw [← q_p3] at hp3
  obtain ⟨co247, Ao247, qo247, So247, No247, Ho247, Go247⟩ := id V243
  have hino247 : ¬ ((3 : Int32) < 0 ∨ co247.slots.size ≤ ((3 : Int32)).toNatClampNeg) := inb_of So247 ⟨by decide, by decide⟩
  obtain ⟨T248, h248, X248, e248, W248, st248⟩ := stI X243 hx hZ e243 Ao247 (j := (3 : Int32)) hino247 (g := (mkF m 274 #[.val (.int a), .val (.long b), .second, .val (.int d), .val (.int e0x), .val (.int f), .val (.int s0), .val (.int s1), .val (.int s2), .val (.int s3), .val (.ref b81), .val (.ref b100), .val (.ref b160), .val (.ref b222), .unset, .unset, .unset, .unset, .unset, .unset, .unset, .unset, .unset, .unset] [(.int p3), (.int (3 : Int32)), (.ref b222)])) rfl rfl (hb hby at_274)
  have N248 := Fr.snoc X248 N243 g_b222
  have V248 : Arv Z h248 b222 k222 .int (8 : Int32) [(.int p0), (.int p1), (.int p2), (.int p3), (.int (0 : Int32)), (.int (0 : Int32)), (.int (0 : Int32)), (.int (0 : Int32))] (.int (0 : Int32)) := Arv.set Ao247 qo247 So247 No247 Ho247 Go247 rfl W248 3 rfl (Nat.le_of_ble_eq_true rfl)
  have S249 : Go p e below s₁ (entryFrame m #[(.int a), (.long b), (.int d), (.int e0x), (.int f)] maxLocals) T248 (mkF m 275 #[.val (.int a), .val (.long b), .second, .val (.int d), .val (.int e0x), .val (.int f), .val (.int s0), .val (.int s1), .val (.int s2), .val (.int s3), .val (.ref b81), .val (.ref b100), .val (.ref b160), .val (.ref b222), .unset, .unset, .unset, .unset, .unset, .unset, .unset, .unset, .unset, .unset] []) := fun t kt => S246 t (st248 t kt)
  clear S246 st248 X243 e243
  have S250 : Go p e below s₁ (entryFrame m #[(.int a), (.long b), (.int d), (.int e0x), (.int f)] maxLocals) T248 (mkF m 285 #[.val (.int a), .val (.long b), .second, .val (.int d), .val (.int e0x), .val (.int f), .val (.int s0), .val (.int s1), .val (.int s2), .val (.int s3), .val (.ref b81), .val (.ref b100), .val (.ref b160), .val (.ref b222), .unset, .unset, .unset, .unset, .unset, .unset, .unset, .unset, .unset, .unset] [(.int (((e0x.toUInt32 >>> ((8 : Int32) &&& 31).toUInt32).toInt32) &&& (3 : Int32))), (.int (4 : Int32)), (.ref b222)]) := fun t kt => S249 t (by
    refine XS.aload X248.here hx rfl (hb hby at_275) rfl rfl ?_
    show Steps p.tables e below (T248.setTop (mkF m 277 #[.val (.int a), .val (.long b), .second, .val (.int d), .val (.int e0x), .val (.int f), .val (.int s0), .val (.int s1), .val (.int s2), .val (.int s3), .val (.ref b81), .val (.ref b100), .val (.ref b160), .val (.ref b222), .unset, .unset, .unset, .unset, .unset, .unset, .unset, .unset, .unset, .unset] [(.ref b222)])) _
    refine XS.iconst X248.here hx rfl (hb hby at_277) ?_
    show Steps p.tables e below (T248.setTop (mkF m 278 #[.val (.int a), .val (.long b), .second, .val (.int d), .val (.int e0x), .val (.int f), .val (.int s0), .val (.int s1), .val (.int s2), .val (.int s3), .val (.ref b81), .val (.ref b100), .val (.ref b160), .val (.ref b222), .unset, .unset, .unset, .unset, .unset, .unset, .unset, .unset, .unset, .unset] [(.int (4 : Int32)), (.ref b222)])) _
    refine XS.iload X248.here hx rfl (hb hby at_278) rfl ?_
    show Steps p.tables e below (T248.setTop (mkF m 280 #[.val (.int a), .val (.long b), .second, .val (.int d), .val (.int e0x), .val (.int f), .val (.int s0), .val (.int s1), .val (.int s2), .val (.int s3), .val (.ref b81), .val (.ref b100), .val (.ref b160), .val (.ref b222), .unset, .unset, .unset, .unset, .unset, .unset, .unset, .unset, .unset, .unset] [(.int e0x), (.int (4 : Int32)), (.ref b222)])) _
    refine XS.bipush X248.here hx rfl (hb hby at_280) ?_
    show Steps p.tables e below (T248.setTop (mkF m 282 #[.val (.int a), .val (.long b), .second, .val (.int d), .val (.int e0x), .val (.int f), .val (.int s0), .val (.int s1), .val (.int s2), .val (.int s3), .val (.ref b81), .val (.ref b100), .val (.ref b160), .val (.ref b222), .unset, .unset, .unset, .unset, .unset, .unset, .unset, .unset, .unset, .unset] [(.int (8 : Int32)), (.int e0x), (.int (4 : Int32)), (.ref b222)])) _
    refine XS.iushr X248.here hx rfl (hb hby at_282) rfl ?_
    show Steps p.tables e below (T248.setTop (mkF m 283 #[.val (.int a), .val (.long b), .second, .val (.int d), .val (.int e0x), .val (.int f), .val (.int s0), .val (.int s1), .val (.int s2), .val (.int s3), .val (.ref b81), .val (.ref b100), .val (.ref b160), .val (.ref b222), .unset, .unset, .unset, .unset, .unset, .unset, .unset, .unset, .unset, .unset] [(.int ((e0x.toUInt32 >>> ((8 : Int32) &&& 31).toUInt32).toInt32)), (.int (4 : Int32)), (.ref b222)])) _
    refine XS.iconst X248.here hx rfl (hb hby at_283) ?_
    show Steps p.tables e below (T248.setTop (mkF m 284 #[.val (.int a), .val (.long b), .second, .val (.int d), .val (.int e0x), .val (.int f), .val (.int s0), .val (.int s1), .val (.int s2), .val (.int s3), .val (.ref b81), .val (.ref b100), .val (.ref b160), .val (.ref b222), .unset, .unset, .unset, .unset, .unset, .unset, .unset, .unset, .unset, .unset] [(.int (3 : Int32)), (.int ((e0x.toUInt32 >>> ((8 : Int32) &&& 31).toUInt32).toInt32)), (.int (4 : Int32)), (.ref b222)])) _
    refine XS.iand X248.here hx rfl (hb hby at_284) rfl ?_
    show Steps p.tables e below (T248.setTop (mkF m 285 #[.val (.int a), .val (.long b), .second, .val (.int d), .val (.int e0x), .val (.int f), .val (.int s0), .val (.int s1), .val (.int s2), .val (.int s3), .val (.ref b81), .val (.ref b100), .val (.ref b160), .val (.ref b222), .unset, .unset, .unset, .unset, .unset, .unset, .unset, .unset, .unset, .unset] [(.int (((e0x.toUInt32 >>> ((8 : Int32) &&& 31).toUInt32).toInt32) &&& (3 : Int32))), (.int (4 : Int32)), (.ref b222)])) _
    exact kt)
  clear S249
  obtain ⟨p4, q_p4⟩ : ∃ z : Int32, z = (((e0x.toUInt32 >>> ((8 : Int32) &&& 31).toUInt32).toInt32) &&& (3 : Int32)) := ⟨_, rfl⟩
  have S251 : Go p e below s₁ (entryFrame m #[(.int a), (.long b), (.int d), (.int e0x), (.int f)] maxLocals) T248 (mkF m 285 #[.val (.int a), .val (.long b), .second, .val (.int d), .val (.int e0x), .val (.int f), .val (.int s0), .val (.int s1), .val (.int s2), .val (.int s3), .val (.ref b81), .val (.ref b100), .val (.ref b160), .val (.ref b222), .unset, .unset, .unset, .unset, .unset, .unset, .unset, .unset, .unset, .unset] [(.int p4), (.int (4 : Int32)), (.ref b222)]) := by subst q_p4; exact S250
  clear S250
  have hp4 := own_and3 ((e0x.toUInt32 >>> ((8 : Int32) &&& 31).toUInt32).toInt32)
  rw [← q_p4] at hp4
  obtain ⟨co252, Ao252, qo252, So252, No252, Ho252, Go252⟩ := id V248
  have hino252 : ¬ ((4 : Int32) < 0 ∨ co252.slots.size ≤ ((4 : Int32)).toNatClampNeg) := inb_of So252 ⟨by decide, by decide⟩
  obtain ⟨T253, h253, X253, e253, W253, st253⟩ := stI X248 hx hZ e248 Ao252 (j := (4 : Int32)) hino252 (g := (mkF m 285 #[.val (.int a), .val (.long b), .second, .val (.int d), .val (.int e0x), .val (.int f), .val (.int s0), .val (.int s1), .val (.int s2), .val (.int s3), .val (.ref b81), .val (.ref b100), .val (.ref b160), .val (.ref b222), .unset, .unset, .unset, .unset, .unset, .unset, .unset, .unset, .unset, .unset] [(.int p4), (.int (4 : Int32)), (.ref b222)])) rfl rfl (hb hby at_285)
  have N253 := Fr.snoc X253 N248 g_b222
  have V253 : Arv Z h253 b222 k222 .int (8 : Int32) [(.int p0), (.int p1), (.int p2), (.int p3), (.int p4), (.int (0 : Int32)), (.int (0 : Int32)), (.int (0 : Int32))] (.int (0 : Int32)) := Arv.set Ao252 qo252 So252 No252 Ho252 Go252 rfl W253 4 rfl (Nat.le_of_ble_eq_true rfl)
  have S254 : Go p e below s₁ (entryFrame m #[(.int a), (.long b), (.int d), (.int e0x), (.int f)] maxLocals) T253 (mkF m 286 #[.val (.int a), .val (.long b), .second, .val (.int d), .val (.int e0x), .val (.int f), .val (.int s0), .val (.int s1), .val (.int s2), .val (.int s3), .val (.ref b81), .val (.ref b100), .val (.ref b160), .val (.ref b222), .unset, .unset, .unset, .unset, .unset, .unset, .unset, .unset, .unset, .unset] []) := fun t kt => S251 t (st253 t kt)
  clear S251 st253 X248 e248
  have S255 : Go p e below s₁ (entryFrame m #[(.int a), (.long b), (.int d), (.int e0x), (.int f)] maxLocals) T253 (mkF m 296 #[.val (.int a), .val (.long b), .second, .val (.int d), .val (.int e0x), .val (.int f), .val (.int s0), .val (.int s1), .val (.int s2), .val (.int s3), .val (.ref b81), .val (.ref b100), .val (.ref b160), .val (.ref b222), .unset, .unset, .unset, .unset, .unset, .unset, .unset, .unset, .unset, .unset] [(.int (((e0x.toUInt32 >>> ((10 : Int32) &&& 31).toUInt32).toInt32) &&& (3 : Int32))), (.int (5 : Int32)), (.ref b222)]) := fun t kt => S254 t (by
    refine XS.aload X253.here hx rfl (hb hby at_286) rfl rfl ?_
    show Steps p.tables e below (T253.setTop (mkF m 288 #[.val (.int a), .val (.long b), .second, .val (.int d), .val (.int e0x), .val (.int f), .val (.int s0), .val (.int s1), .val (.int s2), .val (.int s3), .val (.ref b81), .val (.ref b100), .val (.ref b160), .val (.ref b222), .unset, .unset, .unset, .unset, .unset, .unset, .unset, .unset, .unset, .unset] [(.ref b222)])) _
    refine XS.iconst X253.here hx rfl (hb hby at_288) ?_
    show Steps p.tables e below (T253.setTop (mkF m 289 #[.val (.int a), .val (.long b), .second, .val (.int d), .val (.int e0x), .val (.int f), .val (.int s0), .val (.int s1), .val (.int s2), .val (.int s3), .val (.ref b81), .val (.ref b100), .val (.ref b160), .val (.ref b222), .unset, .unset, .unset, .unset, .unset, .unset, .unset, .unset, .unset, .unset] [(.int (5 : Int32)), (.ref b222)])) _
    refine XS.iload X253.here hx rfl (hb hby at_289) rfl ?_
    show Steps p.tables e below (T253.setTop (mkF m 291 #[.val (.int a), .val (.long b), .second, .val (.int d), .val (.int e0x), .val (.int f), .val (.int s0), .val (.int s1), .val (.int s2), .val (.int s3), .val (.ref b81), .val (.ref b100), .val (.ref b160), .val (.ref b222), .unset, .unset, .unset, .unset, .unset, .unset, .unset, .unset, .unset, .unset] [(.int e0x), (.int (5 : Int32)), (.ref b222)])) _
    refine XS.bipush X253.here hx rfl (hb hby at_291) ?_
    show Steps p.tables e below (T253.setTop (mkF m 293 #[.val (.int a), .val (.long b), .second, .val (.int d), .val (.int e0x), .val (.int f), .val (.int s0), .val (.int s1), .val (.int s2), .val (.int s3), .val (.ref b81), .val (.ref b100), .val (.ref b160), .val (.ref b222), .unset, .unset, .unset, .unset, .unset, .unset, .unset, .unset, .unset, .unset] [(.int (10 : Int32)), (.int e0x), (.int (5 : Int32)), (.ref b222)])) _
    refine XS.iushr X253.here hx rfl (hb hby at_293) rfl ?_
    show Steps p.tables e below (T253.setTop (mkF m 294 #[.val (.int a), .val (.long b), .second, .val (.int d), .val (.int e0x), .val (.int f), .val (.int s0), .val (.int s1), .val (.int s2), .val (.int s3), .val (.ref b81), .val (.ref b100), .val (.ref b160), .val (.ref b222), .unset, .unset, .unset, .unset, .unset, .unset, .unset, .unset, .unset, .unset] [(.int ((e0x.toUInt32 >>> ((10 : Int32) &&& 31).toUInt32).toInt32)), (.int (5 : Int32)), (.ref b222)])) _
    refine XS.iconst X253.here hx rfl (hb hby at_294) ?_
    show Steps p.tables e below (T253.setTop (mkF m 295 #[.val (.int a), .val (.long b), .second, .val (.int d), .val (.int e0x), .val (.int f), .val (.int s0), .val (.int s1), .val (.int s2), .val (.int s3), .val (.ref b81), .val (.ref b100), .val (.ref b160), .val (.ref b222), .unset, .unset, .unset, .unset, .unset, .unset, .unset, .unset, .unset, .unset] [(.int (3 : Int32)), (.int ((e0x.toUInt32 >>> ((10 : Int32) &&& 31).toUInt32).toInt32)), (.int (5 : Int32)), (.ref b222)])) _
    refine XS.iand X253.here hx rfl (hb hby at_295) rfl ?_
    show Steps p.tables e below (T253.setTop (mkF m 296 #[.val (.int a), .val (.long b), .second, .val (.int d), .val (.int e0x), .val (.int f), .val (.int s0), .val (.int s1), .val (.int s2), .val (.int s3), .val (.ref b81), .val (.ref b100), .val (.ref b160), .val (.ref b222), .unset, .unset, .unset, .unset, .unset, .unset, .unset, .unset, .unset, .unset] [(.int (((e0x.toUInt32 >>> ((10 : Int32) &&& 31).toUInt32).toInt32) &&& (3 : Int32))), (.int (5 : Int32)), (.ref b222)])) _
    exact kt)
  clear S254
  obtain ⟨p5, q_p5⟩ : ∃ z : Int32, z = (((e0x.toUInt32 >>> ((10 : Int32) &&& 31).toUInt32).toInt32) &&& (3 : Int32)) := ⟨_, rfl⟩
  have S256 : Go p e below s₁ (entryFrame m #[(.int a), (.long b), (.int d), (.int e0x), (.int f)] maxLocals) T253 (mkF m 296 #[.val (.int a), .val (.long b), .second, .val (.int d), .val (.int e0x), .val (.int f), .val (.int s0), .val (.int s1), .val (.int s2), .val (.int s3), .val (.ref b81), .val (.ref b100), .val (.ref b160), .val (.ref b222), .unset, .unset, .unset, .unset, .unset, .unset, .unset, .unset, .unset, .unset] [(.int p5), (.int (5 : Int32)), (.ref b222)]) := by subst q_p5; exact S255
  clear S255
  have hp5 := own_and3 ((e0x.toUInt32 >>> ((10 : Int32) &&& 31).toUInt32).toInt32)
  rw [← q_p5] at hp5
  obtain ⟨co257, Ao257, qo257, So257, No257, Ho257, Go257⟩ := id V253
  have hino257 : ¬ ((5 : Int32) < 0 ∨ co257.slots.size ≤ ((5 : Int32)).toNatClampNeg) := inb_of So257 ⟨by decide, by decide⟩
  obtain ⟨T258, h258, X258, e258, W258, st258⟩ := stI X253 hx hZ e253 Ao257 (j := (5 : Int32)) hino257 (g := (mkF m 296 #[.val (.int a), .val (.long b), .second, .val (.int d), .val (.int e0x), .val (.int f), .val (.int s0), .val (.int s1), .val (.int s2), .val (.int s3), .val (.ref b81), .val (.ref b100), .val (.ref b160), .val (.ref b222), .unset, .unset, .unset, .unset, .unset, .unset, .unset, .unset, .unset, .unset] [(.int p5), (.int (5 : Int32)), (.ref b222)])) rfl rfl (hb hby at_296)
  have N258 := Fr.snoc X258 N253 g_b222
  have V258 : Arv Z h258 b222 k222 .int (8 : Int32) [(.int p0), (.int p1), (.int p2), (.int p3), (.int p4), (.int p5), (.int (0 : Int32)), (.int (0 : Int32))] (.int (0 : Int32)) := Arv.set Ao257 qo257 So257 No257 Ho257 Go257 rfl W258 5 rfl (Nat.le_of_ble_eq_true rfl)
  have S259 : Go p e below s₁ (entryFrame m #[(.int a), (.long b), (.int d), (.int e0x), (.int f)] maxLocals) T258 (mkF m 297 #[.val (.int a), .val (.long b), .second, .val (.int d), .val (.int e0x), .val (.int f), .val (.int s0), .val (.int s1), .val (.int s2), .val (.int s3), .val (.ref b81), .val (.ref b100), .val (.ref b160), .val (.ref b222), .unset, .unset, .unset, .unset, .unset, .unset, .unset, .unset, .unset, .unset] []) := fun t kt => S256 t (st258 t kt)
  clear S256 st258 X253 e253
  have S260 : Go p e below s₁ (entryFrame m #[(.int a), (.long b), (.int d), (.int e0x), (.int f)] maxLocals) T258 (mkF m 308 #[.val (.int a), .val (.long b), .second, .val (.int d), .val (.int e0x), .val (.int f), .val (.int s0), .val (.int s1), .val (.int s2), .val (.int s3), .val (.ref b81), .val (.ref b100), .val (.ref b160), .val (.ref b222), .unset, .unset, .unset, .unset, .unset, .unset, .unset, .unset, .unset, .unset] [(.int (((e0x.toUInt32 >>> ((12 : Int32) &&& 31).toUInt32).toInt32) &&& (3 : Int32))), (.int (6 : Int32)), (.ref b222)]) := fun t kt => S259 t (by
    refine XS.aload X258.here hx rfl (hb hby at_297) rfl rfl ?_
    show Steps p.tables e below (T258.setTop (mkF m 299 #[.val (.int a), .val (.long b), .second, .val (.int d), .val (.int e0x), .val (.int f), .val (.int s0), .val (.int s1), .val (.int s2), .val (.int s3), .val (.ref b81), .val (.ref b100), .val (.ref b160), .val (.ref b222), .unset, .unset, .unset, .unset, .unset, .unset, .unset, .unset, .unset, .unset] [(.ref b222)])) _
    refine XS.bipush X258.here hx rfl (hb hby at_299) ?_
    show Steps p.tables e below (T258.setTop (mkF m 301 #[.val (.int a), .val (.long b), .second, .val (.int d), .val (.int e0x), .val (.int f), .val (.int s0), .val (.int s1), .val (.int s2), .val (.int s3), .val (.ref b81), .val (.ref b100), .val (.ref b160), .val (.ref b222), .unset, .unset, .unset, .unset, .unset, .unset, .unset, .unset, .unset, .unset] [(.int (6 : Int32)), (.ref b222)])) _
    refine XS.iload X258.here hx rfl (hb hby at_301) rfl ?_
    show Steps p.tables e below (T258.setTop (mkF m 303 #[.val (.int a), .val (.long b), .second, .val (.int d), .val (.int e0x), .val (.int f), .val (.int s0), .val (.int s1), .val (.int s2), .val (.int s3), .val (.ref b81), .val (.ref b100), .val (.ref b160), .val (.ref b222), .unset, .unset, .unset, .unset, .unset, .unset, .unset, .unset, .unset, .unset] [(.int e0x), (.int (6 : Int32)), (.ref b222)])) _
    refine XS.bipush X258.here hx rfl (hb hby at_303) ?_
    show Steps p.tables e below (T258.setTop (mkF m 305 #[.val (.int a), .val (.long b), .second, .val (.int d), .val (.int e0x), .val (.int f), .val (.int s0), .val (.int s1), .val (.int s2), .val (.int s3), .val (.ref b81), .val (.ref b100), .val (.ref b160), .val (.ref b222), .unset, .unset, .unset, .unset, .unset, .unset, .unset, .unset, .unset, .unset] [(.int (12 : Int32)), (.int e0x), (.int (6 : Int32)), (.ref b222)])) _
    refine XS.iushr X258.here hx rfl (hb hby at_305) rfl ?_
    show Steps p.tables e below (T258.setTop (mkF m 306 #[.val (.int a), .val (.long b), .second, .val (.int d), .val (.int e0x), .val (.int f), .val (.int s0), .val (.int s1), .val (.int s2), .val (.int s3), .val (.ref b81), .val (.ref b100), .val (.ref b160), .val (.ref b222), .unset, .unset, .unset, .unset, .unset, .unset, .unset, .unset, .unset, .unset] [(.int ((e0x.toUInt32 >>> ((12 : Int32) &&& 31).toUInt32).toInt32)), (.int (6 : Int32)), (.ref b222)])) _
    refine XS.iconst X258.here hx rfl (hb hby at_306) ?_
    show Steps p.tables e below (T258.setTop (mkF m 307 #[.val (.int a), .val (.long b), .second, .val (.int d), .val (.int e0x), .val (.int f), .val (.int s0), .val (.int s1), .val (.int s2), .val (.int s3), .val (.ref b81), .val (.ref b100), .val (.ref b160), .val (.ref b222), .unset, .unset, .unset, .unset, .unset, .unset, .unset, .unset, .unset, .unset] [(.int (3 : Int32)), (.int ((e0x.toUInt32 >>> ((12 : Int32) &&& 31).toUInt32).toInt32)), (.int (6 : Int32)), (.ref b222)])) _
    refine XS.iand X258.here hx rfl (hb hby at_307) rfl ?_
    show Steps p.tables e below (T258.setTop (mkF m 308 #[.val (.int a), .val (.long b), .second, .val (.int d), .val (.int e0x), .val (.int f), .val (.int s0), .val (.int s1), .val (.int s2), .val (.int s3), .val (.ref b81), .val (.ref b100), .val (.ref b160), .val (.ref b222), .unset, .unset, .unset, .unset, .unset, .unset, .unset, .unset, .unset, .unset] [(.int (((e0x.toUInt32 >>> ((12 : Int32) &&& 31).toUInt32).toInt32) &&& (3 : Int32))), (.int (6 : Int32)), (.ref b222)])) _
    exact kt)
  clear S259
  obtain ⟨p6, q_p6⟩ : ∃ z : Int32, z = (((e0x.toUInt32 >>> ((12 : Int32) &&& 31).toUInt32).toInt32) &&& (3 : Int32)) := ⟨_, rfl⟩
  have S261 : Go p e below s₁ (entryFrame m #[(.int a), (.long b), (.int d), (.int e0x), (.int f)] maxLocals) T258 (mkF m 308 #[.val (.int a), .val (.long b), .second, .val (.int d), .val (.int e0x), .val (.int f), .val (.int s0), .val (.int s1), .val (.int s2), .val (.int s3), .val (.ref b81), .val (.ref b100), .val (.ref b160), .val (.ref b222), .unset, .unset, .unset, .unset, .unset, .unset, .unset, .unset, .unset, .unset] [(.int p6), (.int (6 : Int32)), (.ref b222)]) := by subst q_p6; exact S260
  clear S260
  have hp6 := own_and3 ((e0x.toUInt32 >>> ((12 : Int32) &&& 31).toUInt32).toInt32)
  rw [← q_p6] at hp6
  obtain ⟨co262, Ao262, qo262, So262, No262, Ho262, Go262⟩ := id V258
  have hino262 : ¬ ((6 : Int32) < 0 ∨ co262.slots.size ≤ ((6 : Int32)).toNatClampNeg) := inb_of So262 ⟨by decide, by decide⟩
  obtain ⟨T263, h263, X263, e263, W263, st263⟩ := stI X258 hx hZ e258 Ao262 (j := (6 : Int32)) hino262 (g := (mkF m 308 #[.val (.int a), .val (.long b), .second, .val (.int d), .val (.int e0x), .val (.int f), .val (.int s0), .val (.int s1), .val (.int s2), .val (.int s3), .val (.ref b81), .val (.ref b100), .val (.ref b160), .val (.ref b222), .unset, .unset, .unset, .unset, .unset, .unset, .unset, .unset, .unset, .unset] [(.int p6), (.int (6 : Int32)), (.ref b222)])) rfl rfl (hb hby at_308)
  have N263 := Fr.snoc X263 N258 g_b222
  have V263 : Arv Z h263 b222 k222 .int (8 : Int32) [(.int p0), (.int p1), (.int p2), (.int p3), (.int p4), (.int p5), (.int p6), (.int (0 : Int32))] (.int (0 : Int32)) := Arv.set Ao262 qo262 So262 No262 Ho262 Go262 rfl W263 6 rfl (Nat.le_of_ble_eq_true rfl)
  have S264 : Go p e below s₁ (entryFrame m #[(.int a), (.long b), (.int d), (.int e0x), (.int f)] maxLocals) T263 (mkF m 309 #[.val (.int a), .val (.long b), .second, .val (.int d), .val (.int e0x), .val (.int f), .val (.int s0), .val (.int s1), .val (.int s2), .val (.int s3), .val (.ref b81), .val (.ref b100), .val (.ref b160), .val (.ref b222), .unset, .unset, .unset, .unset, .unset, .unset, .unset, .unset, .unset, .unset] []) := fun t kt => S261 t (st263 t kt)
  clear S261 st263 X258 e258
  have S265 : Go p e below s₁ (entryFrame m #[(.int a), (.long b), (.int d), (.int e0x), (.int f)] maxLocals) T263 (mkF m 320 #[.val (.int a), .val (.long b), .second, .val (.int d), .val (.int e0x), .val (.int f), .val (.int s0), .val (.int s1), .val (.int s2), .val (.int s3), .val (.ref b81), .val (.ref b100), .val (.ref b160), .val (.ref b222), .unset, .unset, .unset, .unset, .unset, .unset, .unset, .unset, .unset, .unset] [(.int (((e0x.toUInt32 >>> ((14 : Int32) &&& 31).toUInt32).toInt32) &&& (3 : Int32))), (.int (7 : Int32)), (.ref b222)]) := fun t kt => S264 t (by
    refine XS.aload X263.here hx rfl (hb hby at_309) rfl rfl ?_
    show Steps p.tables e below (T263.setTop (mkF m 311 #[.val (.int a), .val (.long b), .second, .val (.int d), .val (.int e0x), .val (.int f), .val (.int s0), .val (.int s1), .val (.int s2), .val (.int s3), .val (.ref b81), .val (.ref b100), .val (.ref b160), .val (.ref b222), .unset, .unset, .unset, .unset, .unset, .unset, .unset, .unset, .unset, .unset] [(.ref b222)])) _
    refine XS.bipush X263.here hx rfl (hb hby at_311) ?_
    show Steps p.tables e below (T263.setTop (mkF m 313 #[.val (.int a), .val (.long b), .second, .val (.int d), .val (.int e0x), .val (.int f), .val (.int s0), .val (.int s1), .val (.int s2), .val (.int s3), .val (.ref b81), .val (.ref b100), .val (.ref b160), .val (.ref b222), .unset, .unset, .unset, .unset, .unset, .unset, .unset, .unset, .unset, .unset] [(.int (7 : Int32)), (.ref b222)])) _
    refine XS.iload X263.here hx rfl (hb hby at_313) rfl ?_
    show Steps p.tables e below (T263.setTop (mkF m 315 #[.val (.int a), .val (.long b), .second, .val (.int d), .val (.int e0x), .val (.int f), .val (.int s0), .val (.int s1), .val (.int s2), .val (.int s3), .val (.ref b81), .val (.ref b100), .val (.ref b160), .val (.ref b222), .unset, .unset, .unset, .unset, .unset, .unset, .unset, .unset, .unset, .unset] [(.int e0x), (.int (7 : Int32)), (.ref b222)])) _
    refine XS.bipush X263.here hx rfl (hb hby at_315) ?_
    show Steps p.tables e below (T263.setTop (mkF m 317 #[.val (.int a), .val (.long b), .second, .val (.int d), .val (.int e0x), .val (.int f), .val (.int s0), .val (.int s1), .val (.int s2), .val (.int s3), .val (.ref b81), .val (.ref b100), .val (.ref b160), .val (.ref b222), .unset, .unset, .unset, .unset, .unset, .unset, .unset, .unset, .unset, .unset] [(.int (14 : Int32)), (.int e0x), (.int (7 : Int32)), (.ref b222)])) _
    refine XS.iushr X263.here hx rfl (hb hby at_317) rfl ?_
    show Steps p.tables e below (T263.setTop (mkF m 318 #[.val (.int a), .val (.long b), .second, .val (.int d), .val (.int e0x), .val (.int f), .val (.int s0), .val (.int s1), .val (.int s2), .val (.int s3), .val (.ref b81), .val (.ref b100), .val (.ref b160), .val (.ref b222), .unset, .unset, .unset, .unset, .unset, .unset, .unset, .unset, .unset, .unset] [(.int ((e0x.toUInt32 >>> ((14 : Int32) &&& 31).toUInt32).toInt32)), (.int (7 : Int32)), (.ref b222)])) _
    refine XS.iconst X263.here hx rfl (hb hby at_318) ?_
    show Steps p.tables e below (T263.setTop (mkF m 319 #[.val (.int a), .val (.long b), .second, .val (.int d), .val (.int e0x), .val (.int f), .val (.int s0), .val (.int s1), .val (.int s2), .val (.int s3), .val (.ref b81), .val (.ref b100), .val (.ref b160), .val (.ref b222), .unset, .unset, .unset, .unset, .unset, .unset, .unset, .unset, .unset, .unset] [(.int (3 : Int32)), (.int ((e0x.toUInt32 >>> ((14 : Int32) &&& 31).toUInt32).toInt32)), (.int (7 : Int32)), (.ref b222)])) _
    refine XS.iand X263.here hx rfl (hb hby at_319) rfl ?_
    show Steps p.tables e below (T263.setTop (mkF m 320 #[.val (.int a), .val (.long b), .second, .val (.int d), .val (.int e0x), .val (.int f), .val (.int s0), .val (.int s1), .val (.int s2), .val (.int s3), .val (.ref b81), .val (.ref b100), .val (.ref b160), .val (.ref b222), .unset, .unset, .unset, .unset, .unset, .unset, .unset, .unset, .unset, .unset] [(.int (((e0x.toUInt32 >>> ((14 : Int32) &&& 31).toUInt32).toInt32) &&& (3 : Int32))), (.int (7 : Int32)), (.ref b222)])) _
    exact kt)
  clear S264
  obtain ⟨p7, q_p7⟩ : ∃ z : Int32, z = (((e0x.toUInt32 >>> ((14 : Int32) &&& 31).toUInt32).toInt32) &&& (3 : Int32)) := ⟨_, rfl⟩
  have S266 : Go p e below s₁ (entryFrame m #[(.int a), (.long b), (.int d), (.int e0x), (.int f)] maxLocals) T263 (mkF m 320 #[.val (.int a), .val (.long b), .second, .val (.int d), .val (.int e0x), .val (.int f), .val (.int s0), .val (.int s1), .val (.int s2), .val (.int s3), .val (.ref b81), .val (.ref b100), .val (.ref b160), .val (.ref b222), .unset, .unset, .unset, .unset, .unset, .unset, .unset, .unset, .unset, .unset] [(.int p7), (.int (7 : Int32)), (.ref b222)]) := by subst q_p7; exact S265
  clear S265
  have hp7 := own_and3 ((e0x.toUInt32 >>> ((14 : Int32) &&& 31).toUInt32).toInt32)
  rw [← q_p7] at hp7
  obtain ⟨co267, Ao267, qo267, So267, No267, Ho267, Go267⟩ := id V263
  have hino267 : ¬ ((7 : Int32) < 0 ∨ co267.slots.size ≤ ((7 : Int32)).toNatClampNeg) := inb_of So267 ⟨by decide, by decide⟩
  obtain ⟨T268, h268, X268, e268, W268, st268⟩ := stI X263 hx hZ e263 Ao267 (j := (7 : Int32)) hino267 (g := (mkF m 320 #[.val (.int a), .val (.long b), .second, .val (.int d), .val (.int e0x), .val (.int f), .val (.int s0), .val (.int s1), .val (.int s2), .val (.int s3), .val (.ref b81), .val (.ref b100), .val (.ref b160), .val (.ref b222), .unset, .unset, .unset, .unset, .unset, .unset, .unset, .unset, .unset, .unset] [(.int p7), (.int (7 : Int32)), (.ref b222)])) rfl rfl (hb hby at_320)
  have N268 := Fr.snoc X268 N263 g_b222
  have V268 : Arv Z h268 b222 k222 .int (8 : Int32) [(.int p0), (.int p1), (.int p2), (.int p3), (.int p4), (.int p5), (.int p6), (.int p7)] (.int (0 : Int32)) := Arv.set Ao267 qo267 So267 No267 Ho267 Go267 rfl W268 7 rfl (Nat.le_of_ble_eq_true rfl)
  have S269 : Go p e below s₁ (entryFrame m #[(.int a), (.long b), (.int d), (.int e0x), (.int f)] maxLocals) T268 (mkF m 321 #[.val (.int a), .val (.long b), .second, .val (.int d), .val (.int e0x), .val (.int f), .val (.int s0), .val (.int s1), .val (.int s2), .val (.int s3), .val (.ref b81), .val (.ref b100), .val (.ref b160), .val (.ref b222), .unset, .unset, .unset, .unset, .unset, .unset, .unset, .unset, .unset, .unset] []) := fun t kt => S266 t (st268 t kt)
  clear S266 st268 X263 e263
  have S270 : Go p e below s₁ (entryFrame m #[(.int a), (.long b), (.int d), (.int e0x), (.int f)] maxLocals) T268 (mkF m 322 #[.val (.int a), .val (.long b), .second, .val (.int d), .val (.int e0x), .val (.int f), .val (.int s0), .val (.int s1), .val (.int s2), .val (.int s3), .val (.ref b81), .val (.ref b100), .val (.ref b160), .val (.ref b222), .unset, .unset, .unset, .unset, .unset, .unset, .unset, .unset, .unset, .unset] [(.int (4 : Int32))]) := fun t kt => S269 t (by
    refine XS.iconst X268.here hx rfl (hb hby at_321) ?_
    show Steps p.tables e below (T268.setTop (mkF m 322 #[.val (.int a), .val (.long b), .second, .val (.int d), .val (.int e0x), .val (.int f), .val (.int s0), .val (.int s1), .val (.int s2), .val (.int s3), .val (.ref b81), .val (.ref b100), .val (.ref b160), .val (.ref b222), .unset, .unset, .unset, .unset, .unset, .unset, .unset, .unset, .unset, .unset] [(.int (4 : Int32))])) _
    exact kt)
  clear S269
  obtain ⟨T271, h271, k271, X271, e271, E271, A271, st271⟩ := newP X268 hx hZ (hw _ (List.mem_of_getElem? (i := 1) rfl)) e268 (g := (mkF m 322 #[.val (.int a), .val (.long b), .second, .val (.int d), .val (.int e0x), .val (.int f), .val (.int s0), .val (.int s1), .val (.int s2), .val (.int s3), .val (.ref b81), .val (.ref b100), .val (.ref b160), .val (.ref b222), .unset, .unset, .unset, .unset, .unset, .unset, .unset, .unset, .unset, .unset] [(.int (4 : Int32))])) rfl (hb hby at_322) rfl (by decide) (cap := 4) (by decide) (by decide) (by decide) (by decide)
  obtain ⟨b271, g271⟩ : ∃ z, z = h268.size := ⟨_, rfl⟩
  rw [← g271] at A271 st271
  have f272 := (((((((((f223.ext E222).other W233 ne224).other W238 ne224).other W243 ne224).other W248 ne224).other W253 ne224).other W258 ne224).other W263 ne224).other W268 ne224)
  have ne273 : b81 ≠ b271 := by rw [g271]; exact Nat.ne_of_lt f272.lt
  have f274 := (((((((((f225.ext E222).other W233 ne226).other W238 ne226).other W243 ne226).other W248 ne226).other W253 ne226).other W258 ne226).other W263 ne226).other W268 ne226)
  have ne275 : b100 ≠ b271 := by rw [g271]; exact Nat.ne_of_lt f274.lt
  have f276 := (((((((((V219.ext E222).other W233 ne227).other W238 ne227).other W243 ne227).other W248 ne227).other W253 ne227).other W258 ne227).other W263 ne227).other W268 ne227)
  have ne277 : b160 ≠ b271 := by rw [g271]; exact Nat.ne_of_lt f276.lt
  have ne278 : b222 ≠ b271 := by rw [g271]; exact Nat.ne_of_lt V268.lt
  have g_b271 : n0 ≤ b271 := Nat.le_trans (Nat.le_trans (Nat.le_trans (Nat.le_trans (Nat.le_trans (Nat.le_trans (Nat.le_trans (Nat.le_trans (Nat.le_trans (Nat.le_trans (Nat.le_trans (Nat.le_trans (Nat.le_trans (Nat.le_trans (Nat.le_trans (Nat.le_trans (Nat.le_trans (Nat.le_trans (Nat.le_trans (Nat.le_trans (Nat.le_trans (Nat.le_trans (Nat.le_trans (Nat.le_trans (Nat.le_trans (Nat.le_trans (Nat.le_trans (Nat.le_trans (Nat.le_trans (Nat.le_trans (Nat.le_trans (Nat.le_trans (Nat.le_trans Z0 E81.1) (Keep.of_wr W85).1) (Keep.of_wr W89).1) (Keep.of_wr W93).1) (Keep.of_wr W97).1) E100.1) (Keep.of_wr W108).1) (Keep.of_wr W115).1) (Keep.of_wr W122).1) (Keep.of_wr W129).1) (Keep.of_wr W136).1) (Keep.of_wr W143).1) (Keep.of_wr W150).1) (Keep.of_wr W157).1) E160.1) (Keep.of_wr W170).1) (Keep.of_wr W177).1) (Keep.of_wr W184).1) (Keep.of_wr W191).1) (Keep.of_wr W198).1) (Keep.of_wr W205).1) (Keep.of_wr W212).1) (Keep.of_wr W219).1) E222.1) (Keep.of_wr W233).1) (Keep.of_wr W238).1) (Keep.of_wr W243).1) (Keep.of_wr W248).1) (Keep.of_wr W253).1) (Keep.of_wr W258).1) (Keep.of_wr W263).1) (Keep.of_wr W268).1) (Nat.le_of_eq g271.symm)
  have V271 : Arv Z h271 b271 k271 .long (4 : Int32) [(.long (0 : Int64)), (.long (0 : Int64)), (.long (0 : Int64)), (.long (0 : Int64))] (.long (0 : Int64)) := (Arv.new A271 (by decide)).pad (pad_rep [] _ 4)
  have S279 : Go p e below s₁ (entryFrame m #[(.int a), (.long b), (.int d), (.int e0x), (.int f)] maxLocals) T271 (mkF m 324 #[.val (.int a), .val (.long b), .second, .val (.int d), .val (.int e0x), .val (.int f), .val (.int s0), .val (.int s1), .val (.int s2), .val (.int s3), .val (.ref b81), .val (.ref b100), .val (.ref b160), .val (.ref b222), .unset, .unset, .unset, .unset, .unset, .unset, .unset, .unset, .unset, .unset] [(.ref b271)]) := fun t kt => S270 t (st271 t kt)
  clear S270 st271 X268 e268
  have S280 : Go p e below s₁ (entryFrame m #[(.int a), (.long b), (.int d), (.int e0x), (.int f)] maxLocals) T271 (mkF m 332 #[.val (.int a), .val (.long b), .second, .val (.int d), .val (.int e0x), .val (.int f), .val (.int s0), .val (.int s1), .val (.int s2), .val (.int s3), .val (.ref b81), .val (.ref b100), .val (.ref b160), .val (.ref b222), .val (.ref b271), .unset, .unset, .unset, .unset, .unset, .unset, .unset, .unset, .unset] [(.int (0 : Int32)), (.long (d.toInt64)), (.int (0 : Int32)), (.ref b271)]) := fun t kt => S279 t (by
    refine XS.astore X271.here hx rfl (hb hby at_324) rfl rfl (l' := #[.val (.int a), .val (.long b), .second, .val (.int d), .val (.int e0x), .val (.int f), .val (.int s0), .val (.int s1), .val (.int s2), .val (.int s3), .val (.ref b81), .val (.ref b100), .val (.ref b160), .val (.ref b222), .val (.ref b271), .unset, .unset, .unset, .unset, .unset, .unset, .unset, .unset, .unset]) rfl ?_
    show Steps p.tables e below (T271.setTop (mkF m 326 #[.val (.int a), .val (.long b), .second, .val (.int d), .val (.int e0x), .val (.int f), .val (.int s0), .val (.int s1), .val (.int s2), .val (.int s3), .val (.ref b81), .val (.ref b100), .val (.ref b160), .val (.ref b222), .val (.ref b271), .unset, .unset, .unset, .unset, .unset, .unset, .unset, .unset, .unset] [])) _
    refine XS.aload X271.here hx rfl (hb hby at_326) rfl rfl ?_
    show Steps p.tables e below (T271.setTop (mkF m 328 #[.val (.int a), .val (.long b), .second, .val (.int d), .val (.int e0x), .val (.int f), .val (.int s0), .val (.int s1), .val (.int s2), .val (.int s3), .val (.ref b81), .val (.ref b100), .val (.ref b160), .val (.ref b222), .val (.ref b271), .unset, .unset, .unset, .unset, .unset, .unset, .unset, .unset, .unset] [(.ref b271)])) _
    refine XS.iconst X271.here hx rfl (hb hby at_328) ?_
    show Steps p.tables e below (T271.setTop (mkF m 329 #[.val (.int a), .val (.long b), .second, .val (.int d), .val (.int e0x), .val (.int f), .val (.int s0), .val (.int s1), .val (.int s2), .val (.int s3), .val (.ref b81), .val (.ref b100), .val (.ref b160), .val (.ref b222), .val (.ref b271), .unset, .unset, .unset, .unset, .unset, .unset, .unset, .unset, .unset] [(.int (0 : Int32)), (.ref b271)])) _
    refine XS.iloadN X271.here hx rfl (hb hby at_329) rfl ?_
    show Steps p.tables e below (T271.setTop (mkF m 330 #[.val (.int a), .val (.long b), .second, .val (.int d), .val (.int e0x), .val (.int f), .val (.int s0), .val (.int s1), .val (.int s2), .val (.int s3), .val (.ref b81), .val (.ref b100), .val (.ref b160), .val (.ref b222), .val (.ref b271), .unset, .unset, .unset, .unset, .unset, .unset, .unset, .unset, .unset] [(.int d), (.int (0 : Int32)), (.ref b271)])) _
    refine XS.i2l X271.here hx rfl (hb hby at_330) rfl ?_
    show Steps p.tables e below (T271.setTop (mkF m 331 #[.val (.int a), .val (.long b), .second, .val (.int d), .val (.int e0x), .val (.int f), .val (.int s0), .val (.int s1), .val (.int s2), .val (.int s3), .val (.ref b81), .val (.ref b100), .val (.ref b160), .val (.ref b222), .val (.ref b271), .unset, .unset, .unset, .unset, .unset, .unset, .unset, .unset, .unset] [(.long (d.toInt64)), (.int (0 : Int32)), (.ref b271)])) _
    refine XS.iconst X271.here hx rfl (hb hby at_331) ?_
    show Steps p.tables e below (T271.setTop (mkF m 332 #[.val (.int a), .val (.long b), .second, .val (.int d), .val (.int e0x), .val (.int f), .val (.int s0), .val (.int s1), .val (.int s2), .val (.int s3), .val (.ref b81), .val (.ref b100), .val (.ref b160), .val (.ref b222), .val (.ref b271), .unset, .unset, .unset, .unset, .unset, .unset, .unset, .unset, .unset] [(.int (0 : Int32)), (.long (d.toInt64)), (.int (0 : Int32)), (.ref b271)])) _
    exact kt)
  clear S279
  obtain ⟨v281, T281, L281, X281, hQ281, st281⟩ := own_outS (Jvm.LawKit.callS X271 hx (y := (⟨"com/example/blindroute/blindroute/lp/SparseLinesDotPinLaw", "byteAt", "(JI)J"⟩ : MethodName)) hown (mvT hZ (hw _ (List.mem_of_getElem? (i := 2) rfl))) (mvT hZ (hw _ (List.mem_of_getElem? (i := 3) rfl))) (mvT hZ (hw _ (List.mem_of_getElem? (i := 4) rfl))) (mvT hZ (hw _ (List.mem_of_getElem? (i := 5) rfl))) (by decide) (backOf (W := 2) (rm_byteAt l Z a0 hw [] (d.toInt64) (0 : Int32) h271 n0 (Nat.le_trans (Nat.le_trans (Nat.le_trans (Nat.le_trans (Nat.le_trans (Nat.le_trans (Nat.le_trans (Nat.le_trans (Nat.le_trans (Nat.le_trans (Nat.le_trans (Nat.le_trans (Nat.le_trans (Nat.le_trans (Nat.le_trans (Nat.le_trans (Nat.le_trans (Nat.le_trans (Nat.le_trans (Nat.le_trans (Nat.le_trans (Nat.le_trans (Nat.le_trans (Nat.le_trans (Nat.le_trans (Nat.le_trans (Nat.le_trans (Nat.le_trans (Nat.le_trans (Nat.le_trans (Nat.le_trans (Nat.le_trans (Nat.le_trans Z0 E81.1) (Keep.of_wr W85).1) (Keep.of_wr W89).1) (Keep.of_wr W93).1) (Keep.of_wr W97).1) E100.1) (Keep.of_wr W108).1) (Keep.of_wr W115).1) (Keep.of_wr W122).1) (Keep.of_wr W129).1) (Keep.of_wr W136).1) (Keep.of_wr W143).1) (Keep.of_wr W150).1) (Keep.of_wr W157).1) E160.1) (Keep.of_wr W170).1) (Keep.of_wr W177).1) (Keep.of_wr W184).1) (Keep.of_wr W191).1) (Keep.of_wr W198).1) (Keep.of_wr W205).1) (Keep.of_wr W212).1) (Keep.of_wr W219).1) E222.1) (Keep.of_wr W233).1) (Keep.of_wr W238).1) (Keep.of_wr W243).1) (Keep.of_wr W248).1) (Keep.of_wr W253).1) (Keep.of_wr W258).1) (Keep.of_wr W263).1) (Keep.of_wr W268).1) E271.1)) hZ (hw _ (List.mem_of_getElem? (i := 5) rfl)) (hw _ (List.mem_of_getElem? (i := 4) rfl)) (by decide) (by decide)) (g := (mkF m 332 #[.val (.int a), .val (.long b), .second, .val (.int d), .val (.int e0x), .val (.int f), .val (.int s0), .val (.int s1), .val (.int s2), .val (.int s3), .val (.ref b81), .val (.ref b100), .val (.ref b160), .val (.ref b222), .val (.ref b271), .unset, .unset, .unset, .unset, .unset, .unset, .unset, .unset, .unset] [(.int (0 : Int32)), (.long (d.toInt64)), (.int (0 : Int32)), (.ref b271)])) rfl (by rw [hml]; rfl) (argsL := [(.long (d.toInt64)), (.int (0 : Int32))]) (rest := [(.int (0 : Int32)), (.ref b271)]) (lenOf pd__JI_J rfl) rfl (by show 2 * 0 + _ ≤ _; exact Nat.le_of_eq rfl) (hb hby at_332) (fun _ _ => ⟨rfl, e271, (by decide : 5 + 0 ≤ _), (by decide : 32 + 0 ≤ _)⟩))
  obtain ⟨rfl, N281q, e281⟩ := hQ281
  have N281 := Fr.app N268 N281q
  have S282 : Go p e below s₁ (entryFrame m #[(.int a), (.long b), (.int d), (.int e0x), (.int f)] maxLocals) T281 (mkF m 335 #[.val (.int a), .val (.long b), .second, .val (.int d), .val (.int e0x), .val (.int f), .val (.int s0), .val (.int s1), .val (.int s2), .val (.int s3), .val (.ref b81), .val (.ref b100), .val (.ref b160), .val (.ref b222), .val (.ref b271), .unset, .unset, .unset, .unset, .unset, .unset, .unset, .unset, .unset] [(.long (ownB (d.toInt64) (0 : Int32))), (.int (0 : Int32)), (.ref b271)]) := fun t kt => S280 t (st281 t kt)
  clear S280 st281 X271 e271
  obtain ⟨c0, q_c0⟩ : ∃ z : Int64, z = (ownB (d.toInt64) (0 : Int32)) := ⟨_, rfl⟩
  have S283 : Go p e below s₁ (entryFrame m #[(.int a), (.long b), (.int d), (.int e0x), (.int f)] maxLocals) T281 (mkF m 335 #[.val (.int a), .val (.long b), .second, .val (.int d), .val (.int e0x), .val (.int f), .val (.int s0), .val (.int s1), .val (.int s2), .val (.int s3), .val (.ref b81), .val (.ref b100), .val (.ref b160), .val (.ref b222), .val (.ref b271), .unset, .unset, .unset, .unset, .unset, .unset, .unset, .unset, .unset] [(.long c0), (.int (0 : Int32)), (.ref b271)]) := by subst q_c0; exact S282
  clear S282
  have hc0 := own_bb (d.toInt64) (0 : Int32)
  rw [← q_c0] at hc0
  obtain ⟨co284, Ao284, qo284, So284, No284, Ho284, Go284⟩ := id V271
  have hino284 : ¬ ((0 : Int32) < 0 ∨ co284.slots.size ≤ ((0 : Int32)).toNatClampNeg) := inb_of So284 ⟨by decide, by decide⟩
  obtain ⟨T285, h285, X285, e285, W285, st285⟩ := stJ X281 hx hZ e281 Ao284 (j := (0 : Int32)) hino284 (g := (mkF m 335 #[.val (.int a), .val (.long b), .second, .val (.int d), .val (.int e0x), .val (.int f), .val (.int s0), .val (.int s1), .val (.int s2), .val (.int s3), .val (.ref b81), .val (.ref b100), .val (.ref b160), .val (.ref b222), .val (.ref b271), .unset, .unset, .unset, .unset, .unset, .unset, .unset, .unset, .unset] [(.long c0), (.int (0 : Int32)), (.ref b271)])) rfl rfl (hb hby at_335)
  have N285 := Fr.snoc X285 N281 g_b271
  have V285 : Arv Z h285 b271 k271 .long (4 : Int32) [(.long c0), (.long (0 : Int64)), (.long (0 : Int64)), (.long (0 : Int64))] (.long (0 : Int64)) := Arv.set Ao284 qo284 So284 No284 Ho284 Go284 rfl W285 0 rfl (Nat.le_of_ble_eq_true rfl)
  have S286 : Go p e below s₁ (entryFrame m #[(.int a), (.long b), (.int d), (.int e0x), (.int f)] maxLocals) T285 (mkF m 336 #[.val (.int a), .val (.long b), .second, .val (.int d), .val (.int e0x), .val (.int f), .val (.int s0), .val (.int s1), .val (.int s2), .val (.int s3), .val (.ref b81), .val (.ref b100), .val (.ref b160), .val (.ref b222), .val (.ref b271), .unset, .unset, .unset, .unset, .unset, .unset, .unset, .unset, .unset] []) := fun t kt => S283 t (st285 t kt)
  clear S283 st285 X281 e281
  have S287 : Go p e below s₁ (entryFrame m #[(.int a), (.long b), (.int d), (.int e0x), (.int f)] maxLocals) T285 (mkF m 342 #[.val (.int a), .val (.long b), .second, .val (.int d), .val (.int e0x), .val (.int f), .val (.int s0), .val (.int s1), .val (.int s2), .val (.int s3), .val (.ref b81), .val (.ref b100), .val (.ref b160), .val (.ref b222), .val (.ref b271), .unset, .unset, .unset, .unset, .unset, .unset, .unset, .unset, .unset] [(.int (1 : Int32)), (.long (d.toInt64)), (.int (1 : Int32)), (.ref b271)]) := fun t kt => S286 t (by
    refine XS.aload X285.here hx rfl (hb hby at_336) rfl rfl ?_
    show Steps p.tables e below (T285.setTop (mkF m 338 #[.val (.int a), .val (.long b), .second, .val (.int d), .val (.int e0x), .val (.int f), .val (.int s0), .val (.int s1), .val (.int s2), .val (.int s3), .val (.ref b81), .val (.ref b100), .val (.ref b160), .val (.ref b222), .val (.ref b271), .unset, .unset, .unset, .unset, .unset, .unset, .unset, .unset, .unset] [(.ref b271)])) _
    refine XS.iconst X285.here hx rfl (hb hby at_338) ?_
    show Steps p.tables e below (T285.setTop (mkF m 339 #[.val (.int a), .val (.long b), .second, .val (.int d), .val (.int e0x), .val (.int f), .val (.int s0), .val (.int s1), .val (.int s2), .val (.int s3), .val (.ref b81), .val (.ref b100), .val (.ref b160), .val (.ref b222), .val (.ref b271), .unset, .unset, .unset, .unset, .unset, .unset, .unset, .unset, .unset] [(.int (1 : Int32)), (.ref b271)])) _
    refine XS.iloadN X285.here hx rfl (hb hby at_339) rfl ?_
    show Steps p.tables e below (T285.setTop (mkF m 340 #[.val (.int a), .val (.long b), .second, .val (.int d), .val (.int e0x), .val (.int f), .val (.int s0), .val (.int s1), .val (.int s2), .val (.int s3), .val (.ref b81), .val (.ref b100), .val (.ref b160), .val (.ref b222), .val (.ref b271), .unset, .unset, .unset, .unset, .unset, .unset, .unset, .unset, .unset] [(.int d), (.int (1 : Int32)), (.ref b271)])) _
    refine XS.i2l X285.here hx rfl (hb hby at_340) rfl ?_
    show Steps p.tables e below (T285.setTop (mkF m 341 #[.val (.int a), .val (.long b), .second, .val (.int d), .val (.int e0x), .val (.int f), .val (.int s0), .val (.int s1), .val (.int s2), .val (.int s3), .val (.ref b81), .val (.ref b100), .val (.ref b160), .val (.ref b222), .val (.ref b271), .unset, .unset, .unset, .unset, .unset, .unset, .unset, .unset, .unset] [(.long (d.toInt64)), (.int (1 : Int32)), (.ref b271)])) _
    refine XS.iconst X285.here hx rfl (hb hby at_341) ?_
    show Steps p.tables e below (T285.setTop (mkF m 342 #[.val (.int a), .val (.long b), .second, .val (.int d), .val (.int e0x), .val (.int f), .val (.int s0), .val (.int s1), .val (.int s2), .val (.int s3), .val (.ref b81), .val (.ref b100), .val (.ref b160), .val (.ref b222), .val (.ref b271), .unset, .unset, .unset, .unset, .unset, .unset, .unset, .unset, .unset] [(.int (1 : Int32)), (.long (d.toInt64)), (.int (1 : Int32)), (.ref b271)])) _
    exact kt)
  clear S286
  obtain ⟨v288, T288, L288, X288, hQ288, st288⟩ := own_outS (Jvm.LawKit.callS X285 hx (y := (⟨"com/example/blindroute/blindroute/lp/SparseLinesDotPinLaw", "byteAt", "(JI)J"⟩ : MethodName)) hown (mvT hZ (hw _ (List.mem_of_getElem? (i := 2) rfl))) (mvT hZ (hw _ (List.mem_of_getElem? (i := 3) rfl))) (mvT hZ (hw _ (List.mem_of_getElem? (i := 4) rfl))) (mvT hZ (hw _ (List.mem_of_getElem? (i := 5) rfl))) (by decide) (backOf (W := 2) (rm_byteAt l Z a0 hw [] (d.toInt64) (1 : Int32) h285 n0 (Nat.le_trans (Nat.le_trans (Nat.le_trans (Nat.le_trans (Nat.le_trans (Nat.le_trans (Nat.le_trans (Nat.le_trans (Nat.le_trans (Nat.le_trans (Nat.le_trans (Nat.le_trans (Nat.le_trans (Nat.le_trans (Nat.le_trans (Nat.le_trans (Nat.le_trans (Nat.le_trans (Nat.le_trans (Nat.le_trans (Nat.le_trans (Nat.le_trans (Nat.le_trans (Nat.le_trans (Nat.le_trans (Nat.le_trans (Nat.le_trans (Nat.le_trans (Nat.le_trans (Nat.le_trans (Nat.le_trans (Nat.le_trans (Nat.le_trans (Nat.le_trans Z0 E81.1) (Keep.of_wr W85).1) (Keep.of_wr W89).1) (Keep.of_wr W93).1) (Keep.of_wr W97).1) E100.1) (Keep.of_wr W108).1) (Keep.of_wr W115).1) (Keep.of_wr W122).1) (Keep.of_wr W129).1) (Keep.of_wr W136).1) (Keep.of_wr W143).1) (Keep.of_wr W150).1) (Keep.of_wr W157).1) E160.1) (Keep.of_wr W170).1) (Keep.of_wr W177).1) (Keep.of_wr W184).1) (Keep.of_wr W191).1) (Keep.of_wr W198).1) (Keep.of_wr W205).1) (Keep.of_wr W212).1) (Keep.of_wr W219).1) E222.1) (Keep.of_wr W233).1) (Keep.of_wr W238).1) (Keep.of_wr W243).1) (Keep.of_wr W248).1) (Keep.of_wr W253).1) (Keep.of_wr W258).1) (Keep.of_wr W263).1) (Keep.of_wr W268).1) E271.1) (Keep.of_wr W285).1)) hZ (hw _ (List.mem_of_getElem? (i := 5) rfl)) (hw _ (List.mem_of_getElem? (i := 4) rfl)) (by decide) (by decide)) (g := (mkF m 342 #[.val (.int a), .val (.long b), .second, .val (.int d), .val (.int e0x), .val (.int f), .val (.int s0), .val (.int s1), .val (.int s2), .val (.int s3), .val (.ref b81), .val (.ref b100), .val (.ref b160), .val (.ref b222), .val (.ref b271), .unset, .unset, .unset, .unset, .unset, .unset, .unset, .unset, .unset] [(.int (1 : Int32)), (.long (d.toInt64)), (.int (1 : Int32)), (.ref b271)])) rfl (by rw [hml]; rfl) (argsL := [(.long (d.toInt64)), (.int (1 : Int32))]) (rest := [(.int (1 : Int32)), (.ref b271)]) (lenOf pd__JI_J rfl) rfl (by show 2 * 0 + _ ≤ _; exact Nat.le_of_eq rfl) (hb hby at_342) (fun _ _ => ⟨rfl, e285, (by decide : 5 + 0 ≤ _), (by decide : 32 + 0 ≤ _)⟩))
  obtain ⟨rfl, N288q, e288⟩ := hQ288
  have N288 := Fr.app N285 N288q
  have S289 : Go p e below s₁ (entryFrame m #[(.int a), (.long b), (.int d), (.int e0x), (.int f)] maxLocals) T288 (mkF m 345 #[.val (.int a), .val (.long b), .second, .val (.int d), .val (.int e0x), .val (.int f), .val (.int s0), .val (.int s1), .val (.int s2), .val (.int s3), .val (.ref b81), .val (.ref b100), .val (.ref b160), .val (.ref b222), .val (.ref b271), .unset, .unset, .unset, .unset, .unset, .unset, .unset, .unset, .unset] [(.long (ownB (d.toInt64) (1 : Int32))), (.int (1 : Int32)), (.ref b271)]) := fun t kt => S287 t (st288 t kt)
  clear S287 st288 X285 e285
  obtain ⟨c1, q_c1⟩ : ∃ z : Int64, z = (ownB (d.toInt64) (1 : Int32)) := ⟨_, rfl⟩
  have S290 : Go p e below s₁ (entryFrame m #[(.int a), (.long b), (.int d), (.int e0x), (.int f)] maxLocals) T288 (mkF m 345 #[.val (.int a), .val (.long b), .second, .val (.int d), .val (.int e0x), .val (.int f), .val (.int s0), .val (.int s1), .val (.int s2), .val (.int s3), .val (.ref b81), .val (.ref b100), .val (.ref b160), .val (.ref b222), .val (.ref b271), .unset, .unset, .unset, .unset, .unset, .unset, .unset, .unset, .unset] [(.long c1), (.int (1 : Int32)), (.ref b271)]) := by subst q_c1; exact S289
  clear S289
  have hc1 := own_bb (d.toInt64) (1 : Int32)
  rw [← q_c1] at hc1
  obtain ⟨co291, Ao291, qo291, So291, No291, Ho291, Go291⟩ := id V285
  have hino291 : ¬ ((1 : Int32) < 0 ∨ co291.slots.size ≤ ((1 : Int32)).toNatClampNeg) := inb_of So291 ⟨by decide, by decide⟩
  obtain ⟨T292, h292, X292, e292, W292, st292⟩ := stJ X288 hx hZ e288 Ao291 (j := (1 : Int32)) hino291 (g := (mkF m 345 #[.val (.int a), .val (.long b), .second, .val (.int d), .val (.int e0x), .val (.int f), .val (.int s0), .val (.int s1), .val (.int s2), .val (.int s3), .val (.ref b81), .val (.ref b100), .val (.ref b160), .val (.ref b222), .val (.ref b271), .unset, .unset, .unset, .unset, .unset, .unset, .unset, .unset, .unset] [(.long c1), (.int (1 : Int32)), (.ref b271)])) rfl rfl (hb hby at_345)
  have N292 := Fr.snoc X292 N288 g_b271
  have V292 : Arv Z h292 b271 k271 .long (4 : Int32) [(.long c0), (.long c1), (.long (0 : Int64)), (.long (0 : Int64))] (.long (0 : Int64)) := Arv.set Ao291 qo291 So291 No291 Ho291 Go291 rfl W292 1 rfl (Nat.le_of_ble_eq_true rfl)
  have S293 : Go p e below s₁ (entryFrame m #[(.int a), (.long b), (.int d), (.int e0x), (.int f)] maxLocals) T292 (mkF m 346 #[.val (.int a), .val (.long b), .second, .val (.int d), .val (.int e0x), .val (.int f), .val (.int s0), .val (.int s1), .val (.int s2), .val (.int s3), .val (.ref b81), .val (.ref b100), .val (.ref b160), .val (.ref b222), .val (.ref b271), .unset, .unset, .unset, .unset, .unset, .unset, .unset, .unset, .unset] []) := fun t kt => S290 t (st292 t kt)
  clear S290 st292 X288 e288
  have S294 : Go p e below s₁ (entryFrame m #[(.int a), (.long b), (.int d), (.int e0x), (.int f)] maxLocals) T292 (mkF m 352 #[.val (.int a), .val (.long b), .second, .val (.int d), .val (.int e0x), .val (.int f), .val (.int s0), .val (.int s1), .val (.int s2), .val (.int s3), .val (.ref b81), .val (.ref b100), .val (.ref b160), .val (.ref b222), .val (.ref b271), .unset, .unset, .unset, .unset, .unset, .unset, .unset, .unset, .unset] [(.int (2 : Int32)), (.long (d.toInt64)), (.int (2 : Int32)), (.ref b271)]) := fun t kt => S293 t (by
    refine XS.aload X292.here hx rfl (hb hby at_346) rfl rfl ?_
    show Steps p.tables e below (T292.setTop (mkF m 348 #[.val (.int a), .val (.long b), .second, .val (.int d), .val (.int e0x), .val (.int f), .val (.int s0), .val (.int s1), .val (.int s2), .val (.int s3), .val (.ref b81), .val (.ref b100), .val (.ref b160), .val (.ref b222), .val (.ref b271), .unset, .unset, .unset, .unset, .unset, .unset, .unset, .unset, .unset] [(.ref b271)])) _
    refine XS.iconst X292.here hx rfl (hb hby at_348) ?_
    show Steps p.tables e below (T292.setTop (mkF m 349 #[.val (.int a), .val (.long b), .second, .val (.int d), .val (.int e0x), .val (.int f), .val (.int s0), .val (.int s1), .val (.int s2), .val (.int s3), .val (.ref b81), .val (.ref b100), .val (.ref b160), .val (.ref b222), .val (.ref b271), .unset, .unset, .unset, .unset, .unset, .unset, .unset, .unset, .unset] [(.int (2 : Int32)), (.ref b271)])) _
    refine XS.iloadN X292.here hx rfl (hb hby at_349) rfl ?_
    show Steps p.tables e below (T292.setTop (mkF m 350 #[.val (.int a), .val (.long b), .second, .val (.int d), .val (.int e0x), .val (.int f), .val (.int s0), .val (.int s1), .val (.int s2), .val (.int s3), .val (.ref b81), .val (.ref b100), .val (.ref b160), .val (.ref b222), .val (.ref b271), .unset, .unset, .unset, .unset, .unset, .unset, .unset, .unset, .unset] [(.int d), (.int (2 : Int32)), (.ref b271)])) _
    refine XS.i2l X292.here hx rfl (hb hby at_350) rfl ?_
    show Steps p.tables e below (T292.setTop (mkF m 351 #[.val (.int a), .val (.long b), .second, .val (.int d), .val (.int e0x), .val (.int f), .val (.int s0), .val (.int s1), .val (.int s2), .val (.int s3), .val (.ref b81), .val (.ref b100), .val (.ref b160), .val (.ref b222), .val (.ref b271), .unset, .unset, .unset, .unset, .unset, .unset, .unset, .unset, .unset] [(.long (d.toInt64)), (.int (2 : Int32)), (.ref b271)])) _
    refine XS.iconst X292.here hx rfl (hb hby at_351) ?_
    show Steps p.tables e below (T292.setTop (mkF m 352 #[.val (.int a), .val (.long b), .second, .val (.int d), .val (.int e0x), .val (.int f), .val (.int s0), .val (.int s1), .val (.int s2), .val (.int s3), .val (.ref b81), .val (.ref b100), .val (.ref b160), .val (.ref b222), .val (.ref b271), .unset, .unset, .unset, .unset, .unset, .unset, .unset, .unset, .unset] [(.int (2 : Int32)), (.long (d.toInt64)), (.int (2 : Int32)), (.ref b271)])) _
    exact kt)
  clear S293
  obtain ⟨v295, T295, L295, X295, hQ295, st295⟩ := own_outS (Jvm.LawKit.callS X292 hx (y := (⟨"com/example/blindroute/blindroute/lp/SparseLinesDotPinLaw", "byteAt", "(JI)J"⟩ : MethodName)) hown (mvT hZ (hw _ (List.mem_of_getElem? (i := 2) rfl))) (mvT hZ (hw _ (List.mem_of_getElem? (i := 3) rfl))) (mvT hZ (hw _ (List.mem_of_getElem? (i := 4) rfl))) (mvT hZ (hw _ (List.mem_of_getElem? (i := 5) rfl))) (by decide) (backOf (W := 2) (rm_byteAt l Z a0 hw [] (d.toInt64) (2 : Int32) h292 n0 (Nat.le_trans (Nat.le_trans (Nat.le_trans (Nat.le_trans (Nat.le_trans (Nat.le_trans (Nat.le_trans (Nat.le_trans (Nat.le_trans (Nat.le_trans (Nat.le_trans (Nat.le_trans (Nat.le_trans (Nat.le_trans (Nat.le_trans (Nat.le_trans (Nat.le_trans (Nat.le_trans (Nat.le_trans (Nat.le_trans (Nat.le_trans (Nat.le_trans (Nat.le_trans (Nat.le_trans (Nat.le_trans (Nat.le_trans (Nat.le_trans (Nat.le_trans (Nat.le_trans (Nat.le_trans (Nat.le_trans (Nat.le_trans (Nat.le_trans (Nat.le_trans (Nat.le_trans Z0 E81.1) (Keep.of_wr W85).1) (Keep.of_wr W89).1) (Keep.of_wr W93).1) (Keep.of_wr W97).1) E100.1) (Keep.of_wr W108).1) (Keep.of_wr W115).1) (Keep.of_wr W122).1) (Keep.of_wr W129).1) (Keep.of_wr W136).1) (Keep.of_wr W143).1) (Keep.of_wr W150).1) (Keep.of_wr W157).1) E160.1) (Keep.of_wr W170).1) (Keep.of_wr W177).1) (Keep.of_wr W184).1) (Keep.of_wr W191).1) (Keep.of_wr W198).1) (Keep.of_wr W205).1) (Keep.of_wr W212).1) (Keep.of_wr W219).1) E222.1) (Keep.of_wr W233).1) (Keep.of_wr W238).1) (Keep.of_wr W243).1) (Keep.of_wr W248).1) (Keep.of_wr W253).1) (Keep.of_wr W258).1) (Keep.of_wr W263).1) (Keep.of_wr W268).1) E271.1) (Keep.of_wr W285).1) (Keep.of_wr W292).1)) hZ (hw _ (List.mem_of_getElem? (i := 5) rfl)) (hw _ (List.mem_of_getElem? (i := 4) rfl)) (by decide) (by decide)) (g := (mkF m 352 #[.val (.int a), .val (.long b), .second, .val (.int d), .val (.int e0x), .val (.int f), .val (.int s0), .val (.int s1), .val (.int s2), .val (.int s3), .val (.ref b81), .val (.ref b100), .val (.ref b160), .val (.ref b222), .val (.ref b271), .unset, .unset, .unset, .unset, .unset, .unset, .unset, .unset, .unset] [(.int (2 : Int32)), (.long (d.toInt64)), (.int (2 : Int32)), (.ref b271)])) rfl (by rw [hml]; rfl) (argsL := [(.long (d.toInt64)), (.int (2 : Int32))]) (rest := [(.int (2 : Int32)), (.ref b271)]) (lenOf pd__JI_J rfl) rfl (by show 2 * 0 + _ ≤ _; exact Nat.le_of_eq rfl) (hb hby at_352) (fun _ _ => ⟨rfl, e292, (by decide : 5 + 0 ≤ _), (by decide : 32 + 0 ≤ _)⟩))
  obtain ⟨rfl, N295q, e295⟩ := hQ295
  have N295 := Fr.app N292 N295q
  have S296 : Go p e below s₁ (entryFrame m #[(.int a), (.long b), (.int d), (.int e0x), (.int f)] maxLocals) T295 (mkF m 355 #[.val (.int a), .val (.long b), .second, .val (.int d), .val (.int e0x), .val (.int f), .val (.int s0), .val (.int s1), .val (.int s2), .val (.int s3), .val (.ref b81), .val (.ref b100), .val (.ref b160), .val (.ref b222), .val (.ref b271), .unset, .unset, .unset, .unset, .unset, .unset, .unset, .unset, .unset] [(.long (ownB (d.toInt64) (2 : Int32))), (.int (2 : Int32)), (.ref b271)]) := fun t kt => S294 t (st295 t kt)
  clear S294 st295 X292 e292
  obtain ⟨c2, q_c2⟩ : ∃ z : Int64, z = (ownB (d.toInt64) (2 : Int32)) := ⟨_, rfl⟩
  have S297 : Go p e below s₁ (entryFrame m #[(.int a), (.long b), (.int d), (.int e0x), (.int f)] maxLocals) T295 (mkF m 355 #[.val (.int a), .val (.long b), .second, .val (.int d), .val (.int e0x), .val (.int f), .val (.int s0), .val (.int s1), .val (.int s2), .val (.int s3), .val (.ref b81), .val (.ref b100), .val (.ref b160), .val (.ref b222), .val (.ref b271), .unset, .unset, .unset, .unset, .unset, .unset, .unset, .unset, .unset] [(.long c2), (.int (2 : Int32)), (.ref b271)]) := by subst q_c2; exact S296
  clear S296
  have hc2 := own_bb (d.toInt64) (2 : Int32)
  rw [← q_c2] at hc2
  obtain ⟨co298, Ao298, qo298, So298, No298, Ho298, Go298⟩ := id V292
  have hino298 : ¬ ((2 : Int32) < 0 ∨ co298.slots.size ≤ ((2 : Int32)).toNatClampNeg) := inb_of So298 ⟨by decide, by decide⟩
  obtain ⟨T299, h299, X299, e299, W299, st299⟩ := stJ X295 hx hZ e295 Ao298 (j := (2 : Int32)) hino298 (g := (mkF m 355 #[.val (.int a), .val (.long b), .second, .val (.int d), .val (.int e0x), .val (.int f), .val (.int s0), .val (.int s1), .val (.int s2), .val (.int s3), .val (.ref b81), .val (.ref b100), .val (.ref b160), .val (.ref b222), .val (.ref b271), .unset, .unset, .unset, .unset, .unset, .unset, .unset, .unset, .unset] [(.long c2), (.int (2 : Int32)), (.ref b271)])) rfl rfl (hb hby at_355)
  have N299 := Fr.snoc X299 N295 g_b271
  have V299 : Arv Z h299 b271 k271 .long (4 : Int32) [(.long c0), (.long c1), (.long c2), (.long (0 : Int64))] (.long (0 : Int64)) := Arv.set Ao298 qo298 So298 No298 Ho298 Go298 rfl W299 2 rfl (Nat.le_of_ble_eq_true rfl)
  have S300 : Go p e below s₁ (entryFrame m #[(.int a), (.long b), (.int d), (.int e0x), (.int f)] maxLocals) T299 (mkF m 356 #[.val (.int a), .val (.long b), .second, .val (.int d), .val (.int e0x), .val (.int f), .val (.int s0), .val (.int s1), .val (.int s2), .val (.int s3), .val (.ref b81), .val (.ref b100), .val (.ref b160), .val (.ref b222), .val (.ref b271), .unset, .unset, .unset, .unset, .unset, .unset, .unset, .unset, .unset] []) := fun t kt => S297 t (st299 t kt)
  clear S297 st299 X295 e295
  have S301 : Go p e below s₁ (entryFrame m #[(.int a), (.long b), (.int d), (.int e0x), (.int f)] maxLocals) T299 (mkF m 362 #[.val (.int a), .val (.long b), .second, .val (.int d), .val (.int e0x), .val (.int f), .val (.int s0), .val (.int s1), .val (.int s2), .val (.int s3), .val (.ref b81), .val (.ref b100), .val (.ref b160), .val (.ref b222), .val (.ref b271), .unset, .unset, .unset, .unset, .unset, .unset, .unset, .unset, .unset] [(.int (3 : Int32)), (.long (d.toInt64)), (.int (3 : Int32)), (.ref b271)]) := fun t kt => S300 t (by
    refine XS.aload X299.here hx rfl (hb hby at_356) rfl rfl ?_
    show Steps p.tables e below (T299.setTop (mkF m 358 #[.val (.int a), .val (.long b), .second, .val (.int d), .val (.int e0x), .val (.int f), .val (.int s0), .val (.int s1), .val (.int s2), .val (.int s3), .val (.ref b81), .val (.ref b100), .val (.ref b160), .val (.ref b222), .val (.ref b271), .unset, .unset, .unset, .unset, .unset, .unset, .unset, .unset, .unset] [(.ref b271)])) _
    refine XS.iconst X299.here hx rfl (hb hby at_358) ?_
    show Steps p.tables e below (T299.setTop (mkF m 359 #[.val (.int a), .val (.long b), .second, .val (.int d), .val (.int e0x), .val (.int f), .val (.int s0), .val (.int s1), .val (.int s2), .val (.int s3), .val (.ref b81), .val (.ref b100), .val (.ref b160), .val (.ref b222), .val (.ref b271), .unset, .unset, .unset, .unset, .unset, .unset, .unset, .unset, .unset] [(.int (3 : Int32)), (.ref b271)])) _
    refine XS.iloadN X299.here hx rfl (hb hby at_359) rfl ?_
    show Steps p.tables e below (T299.setTop (mkF m 360 #[.val (.int a), .val (.long b), .second, .val (.int d), .val (.int e0x), .val (.int f), .val (.int s0), .val (.int s1), .val (.int s2), .val (.int s3), .val (.ref b81), .val (.ref b100), .val (.ref b160), .val (.ref b222), .val (.ref b271), .unset, .unset, .unset, .unset, .unset, .unset, .unset, .unset, .unset] [(.int d), (.int (3 : Int32)), (.ref b271)])) _
    refine XS.i2l X299.here hx rfl (hb hby at_360) rfl ?_
    show Steps p.tables e below (T299.setTop (mkF m 361 #[.val (.int a), .val (.long b), .second, .val (.int d), .val (.int e0x), .val (.int f), .val (.int s0), .val (.int s1), .val (.int s2), .val (.int s3), .val (.ref b81), .val (.ref b100), .val (.ref b160), .val (.ref b222), .val (.ref b271), .unset, .unset, .unset, .unset, .unset, .unset, .unset, .unset, .unset] [(.long (d.toInt64)), (.int (3 : Int32)), (.ref b271)])) _
    refine XS.iconst X299.here hx rfl (hb hby at_361) ?_
    show Steps p.tables e below (T299.setTop (mkF m 362 #[.val (.int a), .val (.long b), .second, .val (.int d), .val (.int e0x), .val (.int f), .val (.int s0), .val (.int s1), .val (.int s2), .val (.int s3), .val (.ref b81), .val (.ref b100), .val (.ref b160), .val (.ref b222), .val (.ref b271), .unset, .unset, .unset, .unset, .unset, .unset, .unset, .unset, .unset] [(.int (3 : Int32)), (.long (d.toInt64)), (.int (3 : Int32)), (.ref b271)])) _
    exact kt)
  clear S300
  obtain ⟨v302, T302, L302, X302, hQ302, st302⟩ := own_outS (Jvm.LawKit.callS X299 hx (y := (⟨"com/example/blindroute/blindroute/lp/SparseLinesDotPinLaw", "byteAt", "(JI)J"⟩ : MethodName)) hown (mvT hZ (hw _ (List.mem_of_getElem? (i := 2) rfl))) (mvT hZ (hw _ (List.mem_of_getElem? (i := 3) rfl))) (mvT hZ (hw _ (List.mem_of_getElem? (i := 4) rfl))) (mvT hZ (hw _ (List.mem_of_getElem? (i := 5) rfl))) (by decide) (backOf (W := 2) (rm_byteAt l Z a0 hw [] (d.toInt64) (3 : Int32) h299 n0 (Nat.le_trans (Nat.le_trans (Nat.le_trans (Nat.le_trans (Nat.le_trans (Nat.le_trans (Nat.le_trans (Nat.le_trans (Nat.le_trans (Nat.le_trans (Nat.le_trans (Nat.le_trans (Nat.le_trans (Nat.le_trans (Nat.le_trans (Nat.le_trans (Nat.le_trans (Nat.le_trans (Nat.le_trans (Nat.le_trans (Nat.le_trans (Nat.le_trans (Nat.le_trans (Nat.le_trans (Nat.le_trans (Nat.le_trans (Nat.le_trans (Nat.le_trans (Nat.le_trans (Nat.le_trans (Nat.le_trans (Nat.le_trans (Nat.le_trans (Nat.le_trans (Nat.le_trans (Nat.le_trans Z0 E81.1) (Keep.of_wr W85).1) (Keep.of_wr W89).1) (Keep.of_wr W93).1) (Keep.of_wr W97).1) E100.1) (Keep.of_wr W108).1) (Keep.of_wr W115).1) (Keep.of_wr W122).1) (Keep.of_wr W129).1) (Keep.of_wr W136).1) (Keep.of_wr W143).1) (Keep.of_wr W150).1) (Keep.of_wr W157).1) E160.1) (Keep.of_wr W170).1) (Keep.of_wr W177).1) (Keep.of_wr W184).1) (Keep.of_wr W191).1) (Keep.of_wr W198).1) (Keep.of_wr W205).1) (Keep.of_wr W212).1) (Keep.of_wr W219).1) E222.1) (Keep.of_wr W233).1) (Keep.of_wr W238).1) (Keep.of_wr W243).1) (Keep.of_wr W248).1) (Keep.of_wr W253).1) (Keep.of_wr W258).1) (Keep.of_wr W263).1) (Keep.of_wr W268).1) E271.1) (Keep.of_wr W285).1) (Keep.of_wr W292).1) (Keep.of_wr W299).1)) hZ (hw _ (List.mem_of_getElem? (i := 5) rfl)) (hw _ (List.mem_of_getElem? (i := 4) rfl)) (by decide) (by decide)) (g := (mkF m 362 #[.val (.int a), .val (.long b), .second, .val (.int d), .val (.int e0x), .val (.int f), .val (.int s0), .val (.int s1), .val (.int s2), .val (.int s3), .val (.ref b81), .val (.ref b100), .val (.ref b160), .val (.ref b222), .val (.ref b271), .unset, .unset, .unset, .unset, .unset, .unset, .unset, .unset, .unset] [(.int (3 : Int32)), (.long (d.toInt64)), (.int (3 : Int32)), (.ref b271)])) rfl (by rw [hml]; rfl) (argsL := [(.long (d.toInt64)), (.int (3 : Int32))]) (rest := [(.int (3 : Int32)), (.ref b271)]) (lenOf pd__JI_J rfl) rfl (by show 2 * 0 + _ ≤ _; exact Nat.le_of_eq rfl) (hb hby at_362) (fun _ _ => ⟨rfl, e299, (by decide : 5 + 0 ≤ _), (by decide : 32 + 0 ≤ _)⟩))
  obtain ⟨rfl, N302q, e302⟩ := hQ302
  have N302 := Fr.app N299 N302q
  have S303 : Go p e below s₁ (entryFrame m #[(.int a), (.long b), (.int d), (.int e0x), (.int f)] maxLocals) T302 (mkF m 365 #[.val (.int a), .val (.long b), .second, .val (.int d), .val (.int e0x), .val (.int f), .val (.int s0), .val (.int s1), .val (.int s2), .val (.int s3), .val (.ref b81), .val (.ref b100), .val (.ref b160), .val (.ref b222), .val (.ref b271), .unset, .unset, .unset, .unset, .unset, .unset, .unset, .unset, .unset] [(.long (ownB (d.toInt64) (3 : Int32))), (.int (3 : Int32)), (.ref b271)]) := fun t kt => S301 t (st302 t kt)
  clear S301 st302 X299 e299
  obtain ⟨c3, q_c3⟩ : ∃ z : Int64, z = (ownB (d.toInt64) (3 : Int32)) := ⟨_, rfl⟩
  have S304 : Go p e below s₁ (entryFrame m #[(.int a), (.long b), (.int d), (.int e0x), (.int f)] maxLocals) T302 (mkF m 365 #[.val (.int a), .val (.long b), .second, .val (.int d), .val (.int e0x), .val (.int f), .val (.int s0), .val (.int s1), .val (.int s2), .val (.int s3), .val (.ref b81), .val (.ref b100), .val (.ref b160), .val (.ref b222), .val (.ref b271), .unset, .unset, .unset, .unset, .unset, .unset, .unset, .unset, .unset] [(.long c3), (.int (3 : Int32)), (.ref b271)]) := by subst q_c3; exact S303
  clear S303
  have hc3 := own_bb (d.toInt64) (3 : Int32)
  rw [← q_c3] at hc3
  obtain ⟨co305, Ao305, qo305, So305, No305, Ho305, Go305⟩ := id V299
  have hino305 : ¬ ((3 : Int32) < 0 ∨ co305.slots.size ≤ ((3 : Int32)).toNatClampNeg) := inb_of So305 ⟨by decide, by decide⟩
  obtain ⟨T306, h306, X306, e306, W306, st306⟩ := stJ X302 hx hZ e302 Ao305 (j := (3 : Int32)) hino305 (g := (mkF m 365 #[.val (.int a), .val (.long b), .second, .val (.int d), .val (.int e0x), .val (.int f), .val (.int s0), .val (.int s1), .val (.int s2), .val (.int s3), .val (.ref b81), .val (.ref b100), .val (.ref b160), .val (.ref b222), .val (.ref b271), .unset, .unset, .unset, .unset, .unset, .unset, .unset, .unset, .unset] [(.long c3), (.int (3 : Int32)), (.ref b271)])) rfl rfl (hb hby at_365)
  have N306 := Fr.snoc X306 N302 g_b271
  have V306 : Arv Z h306 b271 k271 .long (4 : Int32) [(.long c0), (.long c1), (.long c2), (.long c3)] (.long (0 : Int64)) := Arv.set Ao305 qo305 So305 No305 Ho305 Go305 rfl W306 3 rfl (Nat.le_of_ble_eq_true rfl)
  have S307 : Go p e below s₁ (entryFrame m #[(.int a), (.long b), (.int d), (.int e0x), (.int f)] maxLocals) T306 (mkF m 366 #[.val (.int a), .val (.long b), .second, .val (.int d), .val (.int e0x), .val (.int f), .val (.int s0), .val (.int s1), .val (.int s2), .val (.int s3), .val (.ref b81), .val (.ref b100), .val (.ref b160), .val (.ref b222), .val (.ref b271), .unset, .unset, .unset, .unset, .unset, .unset, .unset, .unset, .unset] []) := fun t kt => S304 t (st306 t kt)
  clear S304 st306 X302 e302
  have S308 : Go p e below s₁ (entryFrame m #[(.int a), (.long b), (.int d), (.int e0x), (.int f)] maxLocals) T306 (mkF m 367 #[.val (.int a), .val (.long b), .second, .val (.int d), .val (.int e0x), .val (.int f), .val (.int s0), .val (.int s1), .val (.int s2), .val (.int s3), .val (.ref b81), .val (.ref b100), .val (.ref b160), .val (.ref b222), .val (.ref b271), .unset, .unset, .unset, .unset, .unset, .unset, .unset, .unset, .unset] [(.int (4 : Int32))]) := fun t kt => S307 t (by
    refine XS.iconst X306.here hx rfl (hb hby at_366) ?_
    show Steps p.tables e below (T306.setTop (mkF m 367 #[.val (.int a), .val (.long b), .second, .val (.int d), .val (.int e0x), .val (.int f), .val (.int s0), .val (.int s1), .val (.int s2), .val (.int s3), .val (.ref b81), .val (.ref b100), .val (.ref b160), .val (.ref b222), .val (.ref b271), .unset, .unset, .unset, .unset, .unset, .unset, .unset, .unset, .unset] [(.int (4 : Int32))])) _
    exact kt)
  clear S307
  obtain ⟨T309, h309, k309, X309, e309, E309, A309, st309⟩ := newP X306 hx hZ (hw _ (List.mem_of_getElem? (i := 6) rfl)) e306 (g := (mkF m 367 #[.val (.int a), .val (.long b), .second, .val (.int d), .val (.int e0x), .val (.int f), .val (.int s0), .val (.int s1), .val (.int s2), .val (.int s3), .val (.ref b81), .val (.ref b100), .val (.ref b160), .val (.ref b222), .val (.ref b271), .unset, .unset, .unset, .unset, .unset, .unset, .unset, .unset, .unset] [(.int (4 : Int32))])) rfl (hb hby at_367) rfl (by decide) (cap := 4) (by decide) (by decide) (by decide) (by decide)
  obtain ⟨b309, g309⟩ : ∃ z, z = h306.size := ⟨_, rfl⟩
  rw [← g309] at A309 st309
  have f310 := (((((f272.ext E271).other W285 ne273).other W292 ne273).other W299 ne273).other W306 ne273)
  have ne311 : b81 ≠ b309 := by rw [g309]; exact Nat.ne_of_lt f310.lt
  have f312 := (((((f274.ext E271).other W285 ne275).other W292 ne275).other W299 ne275).other W306 ne275)
  have ne313 : b100 ≠ b309 := by rw [g309]; exact Nat.ne_of_lt f312.lt
  have f314 := (((((f276.ext E271).other W285 ne277).other W292 ne277).other W299 ne277).other W306 ne277)
  have ne315 : b160 ≠ b309 := by rw [g309]; exact Nat.ne_of_lt f314.lt
  have f316 := (((((V268.ext E271).other W285 ne278).other W292 ne278).other W299 ne278).other W306 ne278)
  have ne317 : b222 ≠ b309 := by rw [g309]; exact Nat.ne_of_lt f316.lt
  have ne318 : b271 ≠ b309 := by rw [g309]; exact Nat.ne_of_lt V306.lt
  have g_b309 : n0 ≤ b309 := Nat.le_trans (Nat.le_trans (Nat.le_trans (Nat.le_trans (Nat.le_trans (Nat.le_trans (Nat.le_trans (Nat.le_trans (Nat.le_trans (Nat.le_trans (Nat.le_trans (Nat.le_trans (Nat.le_trans (Nat.le_trans (Nat.le_trans (Nat.le_trans (Nat.le_trans (Nat.le_trans (Nat.le_trans (Nat.le_trans (Nat.le_trans (Nat.le_trans (Nat.le_trans (Nat.le_trans (Nat.le_trans (Nat.le_trans (Nat.le_trans (Nat.le_trans (Nat.le_trans (Nat.le_trans (Nat.le_trans (Nat.le_trans (Nat.le_trans (Nat.le_trans (Nat.le_trans (Nat.le_trans (Nat.le_trans (Nat.le_trans Z0 E81.1) (Keep.of_wr W85).1) (Keep.of_wr W89).1) (Keep.of_wr W93).1) (Keep.of_wr W97).1) E100.1) (Keep.of_wr W108).1) (Keep.of_wr W115).1) (Keep.of_wr W122).1) (Keep.of_wr W129).1) (Keep.of_wr W136).1) (Keep.of_wr W143).1) (Keep.of_wr W150).1) (Keep.of_wr W157).1) E160.1) (Keep.of_wr W170).1) (Keep.of_wr W177).1) (Keep.of_wr W184).1) (Keep.of_wr W191).1) (Keep.of_wr W198).1) (Keep.of_wr W205).1) (Keep.of_wr W212).1) (Keep.of_wr W219).1) E222.1) (Keep.of_wr W233).1) (Keep.of_wr W238).1) (Keep.of_wr W243).1) (Keep.of_wr W248).1) (Keep.of_wr W253).1) (Keep.of_wr W258).1) (Keep.of_wr W263).1) (Keep.of_wr W268).1) E271.1) (Keep.of_wr W285).1) (Keep.of_wr W292).1) (Keep.of_wr W299).1) (Keep.of_wr W306).1) (Nat.le_of_eq g309.symm)
  have V309 : Arv Z h309 b309 k309 .double (4 : Int32) [(.double (0 : UInt64)), (.double (0 : UInt64)), (.double (0 : UInt64)), (.double (0 : UInt64))] (.double (0 : UInt64)) := (Arv.new A309 (by decide)).pad (pad_rep [] _ 4)
  have S319 : Go p e below s₁ (entryFrame m #[(.int a), (.long b), (.int d), (.int e0x), (.int f)] maxLocals) T309 (mkF m 369 #[.val (.int a), .val (.long b), .second, .val (.int d), .val (.int e0x), .val (.int f), .val (.int s0), .val (.int s1), .val (.int s2), .val (.int s3), .val (.ref b81), .val (.ref b100), .val (.ref b160), .val (.ref b222), .val (.ref b271), .unset, .unset, .unset, .unset, .unset, .unset, .unset, .unset, .unset] [(.ref b309)]) := fun t kt => S308 t (st309 t kt)
  clear S308 st309 X306 e306
  have S320 : Go p e below s₁ (entryFrame m #[(.int a), (.long b), (.int d), (.int e0x), (.int f)] maxLocals) T309 (mkF m 377 #[.val (.int a), .val (.long b), .second, .val (.int d), .val (.int e0x), .val (.int f), .val (.int s0), .val (.int s1), .val (.int s2), .val (.int s3), .val (.ref b81), .val (.ref b100), .val (.ref b160), .val (.ref b222), .val (.ref b271), .val (.ref b309), .unset, .unset, .unset, .unset, .unset, .unset, .unset, .unset] [(.int (0 : Int32)), (.ref b271), (.int (0 : Int32)), (.ref b309)]) := fun t kt => S319 t (by
    refine XS.astore X309.here hx rfl (hb hby at_369) rfl rfl (l' := #[.val (.int a), .val (.long b), .second, .val (.int d), .val (.int e0x), .val (.int f), .val (.int s0), .val (.int s1), .val (.int s2), .val (.int s3), .val (.ref b81), .val (.ref b100), .val (.ref b160), .val (.ref b222), .val (.ref b271), .val (.ref b309), .unset, .unset, .unset, .unset, .unset, .unset, .unset, .unset]) rfl ?_
    show Steps p.tables e below (T309.setTop (mkF m 371 #[.val (.int a), .val (.long b), .second, .val (.int d), .val (.int e0x), .val (.int f), .val (.int s0), .val (.int s1), .val (.int s2), .val (.int s3), .val (.ref b81), .val (.ref b100), .val (.ref b160), .val (.ref b222), .val (.ref b271), .val (.ref b309), .unset, .unset, .unset, .unset, .unset, .unset, .unset, .unset] [])) _
    refine XS.aload X309.here hx rfl (hb hby at_371) rfl rfl ?_
    show Steps p.tables e below (T309.setTop (mkF m 373 #[.val (.int a), .val (.long b), .second, .val (.int d), .val (.int e0x), .val (.int f), .val (.int s0), .val (.int s1), .val (.int s2), .val (.int s3), .val (.ref b81), .val (.ref b100), .val (.ref b160), .val (.ref b222), .val (.ref b271), .val (.ref b309), .unset, .unset, .unset, .unset, .unset, .unset, .unset, .unset] [(.ref b309)])) _
    refine XS.iconst X309.here hx rfl (hb hby at_373) ?_
    show Steps p.tables e below (T309.setTop (mkF m 374 #[.val (.int a), .val (.long b), .second, .val (.int d), .val (.int e0x), .val (.int f), .val (.int s0), .val (.int s1), .val (.int s2), .val (.int s3), .val (.ref b81), .val (.ref b100), .val (.ref b160), .val (.ref b222), .val (.ref b271), .val (.ref b309), .unset, .unset, .unset, .unset, .unset, .unset, .unset, .unset] [(.int (0 : Int32)), (.ref b309)])) _
    refine XS.aload X309.here hx rfl (hb hby at_374) rfl rfl ?_
    show Steps p.tables e below (T309.setTop (mkF m 376 #[.val (.int a), .val (.long b), .second, .val (.int d), .val (.int e0x), .val (.int f), .val (.int s0), .val (.int s1), .val (.int s2), .val (.int s3), .val (.ref b81), .val (.ref b100), .val (.ref b160), .val (.ref b222), .val (.ref b271), .val (.ref b309), .unset, .unset, .unset, .unset, .unset, .unset, .unset, .unset] [(.ref b271), (.int (0 : Int32)), (.ref b309)])) _
    refine XS.iconst X309.here hx rfl (hb hby at_376) ?_
    show Steps p.tables e below (T309.setTop (mkF m 377 #[.val (.int a), .val (.long b), .second, .val (.int d), .val (.int e0x), .val (.int f), .val (.int s0), .val (.int s1), .val (.int s2), .val (.int s3), .val (.ref b81), .val (.ref b100), .val (.ref b160), .val (.ref b222), .val (.ref b271), .val (.ref b309), .unset, .unset, .unset, .unset, .unset, .unset, .unset, .unset] [(.int (0 : Int32)), (.ref b271), (.int (0 : Int32)), (.ref b309)])) _
    exact kt)
  clear S319
  have f321 := (V306.ext E309)
  obtain ⟨co322, Ao322, qo322, So322, No322, Ho322, Go322⟩ := id f321
  have hino322 : ¬ ((0 : Int32) < 0 ∨ co322.slots.size ≤ ((0 : Int32)).toNatClampNeg) := inb_of So322 ⟨by decide, by decide⟩
  have hato322 : co322.slots[((0 : Int32)).toNatClampNeg]? = some (.long c0) := Has.at Ho322 hino322 rfl
  have S323 : Go p e below s₁ (entryFrame m #[(.int a), (.long b), (.int d), (.int e0x), (.int f)] maxLocals) T309 (mkF m 379 #[.val (.int a), .val (.long b), .second, .val (.int d), .val (.int e0x), .val (.int f), .val (.int s0), .val (.int s1), .val (.int s2), .val (.int s3), .val (.ref b81), .val (.ref b100), .val (.ref b160), .val (.ref b222), .val (.ref b271), .val (.ref b309), .unset, .unset, .unset, .unset, .unset, .unset, .unset, .unset] [(.double (FP.l2d c0)), (.int (0 : Int32)), (.ref b309)]) := fun t kt => S320 t (by
    refine X309.laload hx (j := (0 : Int32)) (v := (.long c0)) (by rw [e309]; exact Ao322.1) (State.isArrayOf_alike hZ.alike Ao322.2.1) Ao322.2.2 hino322 hato322 (g := (mkF m 377 #[.val (.int a), .val (.long b), .second, .val (.int d), .val (.int e0x), .val (.int f), .val (.int s0), .val (.int s1), .val (.int s2), .val (.int s3), .val (.ref b81), .val (.ref b100), .val (.ref b160), .val (.ref b222), .val (.ref b271), .val (.ref b309), .unset, .unset, .unset, .unset, .unset, .unset, .unset, .unset] [(.int (0 : Int32)), (.ref b271), (.int (0 : Int32)), (.ref b309)])) rfl rfl (hb hby at_377) _ ?_
    show Steps p.tables e below (T309.setTop (mkF m 378 #[.val (.int a), .val (.long b), .second, .val (.int d), .val (.int e0x), .val (.int f), .val (.int s0), .val (.int s1), .val (.int s2), .val (.int s3), .val (.ref b81), .val (.ref b100), .val (.ref b160), .val (.ref b222), .val (.ref b271), .val (.ref b309), .unset, .unset, .unset, .unset, .unset, .unset, .unset, .unset] [(.long c0), (.int (0 : Int32)), (.ref b309)])) _
    refine XS.l2dS X309.here hx rfl (hb hby at_378) rfl rfl ?_
    show Steps p.tables e below (T309.setTop (mkF m 379 #[.val (.int a), .val (.long b), .second, .val (.int d), .val (.int e0x), .val (.int f), .val (.int s0), .val (.int s1), .val (.int s2), .val (.int s3), .val (.ref b81), .val (.ref b100), .val (.ref b160), .val (.ref b222), .val (.ref b271), .val (.ref b309), .unset, .unset, .unset, .unset, .unset, .unset, .unset, .unset] [(.double (FP.l2d c0)), (.int (0 : Int32)), (.ref b309)])) _
    exact kt)
  clear S320
  obtain ⟨co324, Ao324, qo324, So324, No324, Ho324, Go324⟩ := id V309
  have hino324 : ¬ ((0 : Int32) < 0 ∨ co324.slots.size ≤ ((0 : Int32)).toNatClampNeg) := inb_of So324 ⟨by decide, by decide⟩
  obtain ⟨T325, h325, X325, e325, W325, st325⟩ := stD X309 hx hZ e309 Ao324 (j := (0 : Int32)) hino324 (g := (mkF m 379 #[.val (.int a), .val (.long b), .second, .val (.int d), .val (.int e0x), .val (.int f), .val (.int s0), .val (.int s1), .val (.int s2), .val (.int s3), .val (.ref b81), .val (.ref b100), .val (.ref b160), .val (.ref b222), .val (.ref b271), .val (.ref b309), .unset, .unset, .unset, .unset, .unset, .unset, .unset, .unset] [(.double (FP.l2d c0)), (.int (0 : Int32)), (.ref b309)])) rfl rfl (hb hby at_379)
  have N325 := Fr.snoc X325 N306 g_b309
  have V325 : Arv Z h325 b309 k309 .double (4 : Int32) [(.double (FP.l2d c0)), (.double (0 : UInt64)), (.double (0 : UInt64)), (.double (0 : UInt64))] (.double (0 : UInt64)) := Arv.set Ao324 qo324 So324 No324 Ho324 Go324 rfl W325 0 rfl (Nat.le_of_ble_eq_true rfl)
  have S326 : Go p e below s₁ (entryFrame m #[(.int a), (.long b), (.int d), (.int e0x), (.int f)] maxLocals) T325 (mkF m 380 #[.val (.int a), .val (.long b), .second, .val (.int d), .val (.int e0x), .val (.int f), .val (.int s0), .val (.int s1), .val (.int s2), .val (.int s3), .val (.ref b81), .val (.ref b100), .val (.ref b160), .val (.ref b222), .val (.ref b271), .val (.ref b309), .unset, .unset, .unset, .unset, .unset, .unset, .unset, .unset] []) := fun t kt => S323 t (st325 t kt)
  clear S323 st325 X309 e309
  have S327 : Go p e below s₁ (entryFrame m #[(.int a), (.long b), (.int d), (.int e0x), (.int f)] maxLocals) T325 (mkF m 386 #[.val (.int a), .val (.long b), .second, .val (.int d), .val (.int e0x), .val (.int f), .val (.int s0), .val (.int s1), .val (.int s2), .val (.int s3), .val (.ref b81), .val (.ref b100), .val (.ref b160), .val (.ref b222), .val (.ref b271), .val (.ref b309), .unset, .unset, .unset, .unset, .unset, .unset, .unset, .unset] [(.int (1 : Int32)), (.ref b271), (.int (1 : Int32)), (.ref b309)]) := fun t kt => S326 t (by
    refine XS.aload X325.here hx rfl (hb hby at_380) rfl rfl ?_
    show Steps p.tables e below (T325.setTop (mkF m 382 #[.val (.int a), .val (.long b), .second, .val (.int d), .val (.int e0x), .val (.int f), .val (.int s0), .val (.int s1), .val (.int s2), .val (.int s3), .val (.ref b81), .val (.ref b100), .val (.ref b160), .val (.ref b222), .val (.ref b271), .val (.ref b309), .unset, .unset, .unset, .unset, .unset, .unset, .unset, .unset] [(.ref b309)])) _
    refine XS.iconst X325.here hx rfl (hb hby at_382) ?_
    show Steps p.tables e below (T325.setTop (mkF m 383 #[.val (.int a), .val (.long b), .second, .val (.int d), .val (.int e0x), .val (.int f), .val (.int s0), .val (.int s1), .val (.int s2), .val (.int s3), .val (.ref b81), .val (.ref b100), .val (.ref b160), .val (.ref b222), .val (.ref b271), .val (.ref b309), .unset, .unset, .unset, .unset, .unset, .unset, .unset, .unset] [(.int (1 : Int32)), (.ref b309)])) _
    refine XS.aload X325.here hx rfl (hb hby at_383) rfl rfl ?_
    show Steps p.tables e below (T325.setTop (mkF m 385 #[.val (.int a), .val (.long b), .second, .val (.int d), .val (.int e0x), .val (.int f), .val (.int s0), .val (.int s1), .val (.int s2), .val (.int s3), .val (.ref b81), .val (.ref b100), .val (.ref b160), .val (.ref b222), .val (.ref b271), .val (.ref b309), .unset, .unset, .unset, .unset, .unset, .unset, .unset, .unset] [(.ref b271), (.int (1 : Int32)), (.ref b309)])) _
    refine XS.iconst X325.here hx rfl (hb hby at_385) ?_
    show Steps p.tables e below (T325.setTop (mkF m 386 #[.val (.int a), .val (.long b), .second, .val (.int d), .val (.int e0x), .val (.int f), .val (.int s0), .val (.int s1), .val (.int s2), .val (.int s3), .val (.ref b81), .val (.ref b100), .val (.ref b160), .val (.ref b222), .val (.ref b271), .val (.ref b309), .unset, .unset, .unset, .unset, .unset, .unset, .unset, .unset] [(.int (1 : Int32)), (.ref b271), (.int (1 : Int32)), (.ref b309)])) _
    exact kt)
  clear S326
  have f328 := (f321.other W325 ne318)
  obtain ⟨co329, Ao329, qo329, So329, No329, Ho329, Go329⟩ := id f328
  have hino329 : ¬ ((1 : Int32) < 0 ∨ co329.slots.size ≤ ((1 : Int32)).toNatClampNeg) := inb_of So329 ⟨by decide, by decide⟩
  have hato329 : co329.slots[((1 : Int32)).toNatClampNeg]? = some (.long c1) := Has.at Ho329 hino329 rfl
  have S330 : Go p e below s₁ (entryFrame m #[(.int a), (.long b), (.int d), (.int e0x), (.int f)] maxLocals) T325 (mkF m 388 #[.val (.int a), .val (.long b), .second, .val (.int d), .val (.int e0x), .val (.int f), .val (.int s0), .val (.int s1), .val (.int s2), .val (.int s3), .val (.ref b81), .val (.ref b100), .val (.ref b160), .val (.ref b222), .val (.ref b271), .val (.ref b309), .unset, .unset, .unset, .unset, .unset, .unset, .unset, .unset] [(.double (FP.l2d c1)), (.int (1 : Int32)), (.ref b309)]) := fun t kt => S327 t (by
    refine X325.laload hx (j := (1 : Int32)) (v := (.long c1)) (by rw [e325]; exact Ao329.1) (State.isArrayOf_alike hZ.alike Ao329.2.1) Ao329.2.2 hino329 hato329 (g := (mkF m 386 #[.val (.int a), .val (.long b), .second, .val (.int d), .val (.int e0x), .val (.int f), .val (.int s0), .val (.int s1), .val (.int s2), .val (.int s3), .val (.ref b81), .val (.ref b100), .val (.ref b160), .val (.ref b222), .val (.ref b271), .val (.ref b309), .unset, .unset, .unset, .unset, .unset, .unset, .unset, .unset] [(.int (1 : Int32)), (.ref b271), (.int (1 : Int32)), (.ref b309)])) rfl rfl (hb hby at_386) _ ?_
    show Steps p.tables e below (T325.setTop (mkF m 387 #[.val (.int a), .val (.long b), .second, .val (.int d), .val (.int e0x), .val (.int f), .val (.int s0), .val (.int s1), .val (.int s2), .val (.int s3), .val (.ref b81), .val (.ref b100), .val (.ref b160), .val (.ref b222), .val (.ref b271), .val (.ref b309), .unset, .unset, .unset, .unset, .unset, .unset, .unset, .unset] [(.long c1), (.int (1 : Int32)), (.ref b309)])) _
    refine XS.l2dS X325.here hx rfl (hb hby at_387) rfl rfl ?_
    show Steps p.tables e below (T325.setTop (mkF m 388 #[.val (.int a), .val (.long b), .second, .val (.int d), .val (.int e0x), .val (.int f), .val (.int s0), .val (.int s1), .val (.int s2), .val (.int s3), .val (.ref b81), .val (.ref b100), .val (.ref b160), .val (.ref b222), .val (.ref b271), .val (.ref b309), .unset, .unset, .unset, .unset, .unset, .unset, .unset, .unset] [(.double (FP.l2d c1)), (.int (1 : Int32)), (.ref b309)])) _
    exact kt)
  clear S327
  obtain ⟨co331, Ao331, qo331, So331, No331, Ho331, Go331⟩ := id V325
  have hino331 : ¬ ((1 : Int32) < 0 ∨ co331.slots.size ≤ ((1 : Int32)).toNatClampNeg) := inb_of So331 ⟨by decide, by decide⟩
  obtain ⟨T332, h332, X332, e332, W332, st332⟩ := stD X325 hx hZ e325 Ao331 (j := (1 : Int32)) hino331 (g := (mkF m 388 #[.val (.int a), .val (.long b), .second, .val (.int d), .val (.int e0x), .val (.int f), .val (.int s0), .val (.int s1), .val (.int s2), .val (.int s3), .val (.ref b81), .val (.ref b100), .val (.ref b160), .val (.ref b222), .val (.ref b271), .val (.ref b309), .unset, .unset, .unset, .unset, .unset, .unset, .unset, .unset] [(.double (FP.l2d c1)), (.int (1 : Int32)), (.ref b309)])) rfl rfl (hb hby at_388)
  have N332 := Fr.snoc X332 N325 g_b309
  have V332 : Arv Z h332 b309 k309 .double (4 : Int32) [(.double (FP.l2d c0)), (.double (FP.l2d c1)), (.double (0 : UInt64)), (.double (0 : UInt64))] (.double (0 : UInt64)) := Arv.set Ao331 qo331 So331 No331 Ho331 Go331 rfl W332 1 rfl (Nat.le_of_ble_eq_true rfl)
  have S333 : Go p e below s₁ (entryFrame m #[(.int a), (.long b), (.int d), (.int e0x), (.int f)] maxLocals) T332 (mkF m 389 #[.val (.int a), .val (.long b), .second, .val (.int d), .val (.int e0x), .val (.int f), .val (.int s0), .val (.int s1), .val (.int s2), .val (.int s3), .val (.ref b81), .val (.ref b100), .val (.ref b160), .val (.ref b222), .val (.ref b271), .val (.ref b309), .unset, .unset, .unset, .unset, .unset, .unset, .unset, .unset] []) := fun t kt => S330 t (st332 t kt)
  clear S330 st332 X325 e325
  have S334 : Go p e below s₁ (entryFrame m #[(.int a), (.long b), (.int d), (.int e0x), (.int f)] maxLocals) T332 (mkF m 395 #[.val (.int a), .val (.long b), .second, .val (.int d), .val (.int e0x), .val (.int f), .val (.int s0), .val (.int s1), .val (.int s2), .val (.int s3), .val (.ref b81), .val (.ref b100), .val (.ref b160), .val (.ref b222), .val (.ref b271), .val (.ref b309), .unset, .unset, .unset, .unset, .unset, .unset, .unset, .unset] [(.int (2 : Int32)), (.ref b271), (.int (2 : Int32)), (.ref b309)]) := fun t kt => S333 t (by
    refine XS.aload X332.here hx rfl (hb hby at_389) rfl rfl ?_
    show Steps p.tables e below (T332.setTop (mkF m 391 #[.val (.int a), .val (.long b), .second, .val (.int d), .val (.int e0x), .val (.int f), .val (.int s0), .val (.int s1), .val (.int s2), .val (.int s3), .val (.ref b81), .val (.ref b100), .val (.ref b160), .val (.ref b222), .val (.ref b271), .val (.ref b309), .unset, .unset, .unset, .unset, .unset, .unset, .unset, .unset] [(.ref b309)])) _
    refine XS.iconst X332.here hx rfl (hb hby at_391) ?_
    show Steps p.tables e below (T332.setTop (mkF m 392 #[.val (.int a), .val (.long b), .second, .val (.int d), .val (.int e0x), .val (.int f), .val (.int s0), .val (.int s1), .val (.int s2), .val (.int s3), .val (.ref b81), .val (.ref b100), .val (.ref b160), .val (.ref b222), .val (.ref b271), .val (.ref b309), .unset, .unset, .unset, .unset, .unset, .unset, .unset, .unset] [(.int (2 : Int32)), (.ref b309)])) _
    refine XS.aload X332.here hx rfl (hb hby at_392) rfl rfl ?_
    show Steps p.tables e below (T332.setTop (mkF m 394 #[.val (.int a), .val (.long b), .second, .val (.int d), .val (.int e0x), .val (.int f), .val (.int s0), .val (.int s1), .val (.int s2), .val (.int s3), .val (.ref b81), .val (.ref b100), .val (.ref b160), .val (.ref b222), .val (.ref b271), .val (.ref b309), .unset, .unset, .unset, .unset, .unset, .unset, .unset, .unset] [(.ref b271), (.int (2 : Int32)), (.ref b309)])) _
    refine XS.iconst X332.here hx rfl (hb hby at_394) ?_
    show Steps p.tables e below (T332.setTop (mkF m 395 #[.val (.int a), .val (.long b), .second, .val (.int d), .val (.int e0x), .val (.int f), .val (.int s0), .val (.int s1), .val (.int s2), .val (.int s3), .val (.ref b81), .val (.ref b100), .val (.ref b160), .val (.ref b222), .val (.ref b271), .val (.ref b309), .unset, .unset, .unset, .unset, .unset, .unset, .unset, .unset] [(.int (2 : Int32)), (.ref b271), (.int (2 : Int32)), (.ref b309)])) _
    exact kt)
  clear S333
  have f335 := (f328.other W332 ne318)
  obtain ⟨co336, Ao336, qo336, So336, No336, Ho336, Go336⟩ := id f335
  have hino336 : ¬ ((2 : Int32) < 0 ∨ co336.slots.size ≤ ((2 : Int32)).toNatClampNeg) := inb_of So336 ⟨by decide, by decide⟩
  have hato336 : co336.slots[((2 : Int32)).toNatClampNeg]? = some (.long c2) := Has.at Ho336 hino336 rfl
  have S337 : Go p e below s₁ (entryFrame m #[(.int a), (.long b), (.int d), (.int e0x), (.int f)] maxLocals) T332 (mkF m 397 #[.val (.int a), .val (.long b), .second, .val (.int d), .val (.int e0x), .val (.int f), .val (.int s0), .val (.int s1), .val (.int s2), .val (.int s3), .val (.ref b81), .val (.ref b100), .val (.ref b160), .val (.ref b222), .val (.ref b271), .val (.ref b309), .unset, .unset, .unset, .unset, .unset, .unset, .unset, .unset] [(.double (FP.l2d c2)), (.int (2 : Int32)), (.ref b309)]) := fun t kt => S334 t (by
    refine X332.laload hx (j := (2 : Int32)) (v := (.long c2)) (by rw [e332]; exact Ao336.1) (State.isArrayOf_alike hZ.alike Ao336.2.1) Ao336.2.2 hino336 hato336 (g := (mkF m 395 #[.val (.int a), .val (.long b), .second, .val (.int d), .val (.int e0x), .val (.int f), .val (.int s0), .val (.int s1), .val (.int s2), .val (.int s3), .val (.ref b81), .val (.ref b100), .val (.ref b160), .val (.ref b222), .val (.ref b271), .val (.ref b309), .unset, .unset, .unset, .unset, .unset, .unset, .unset, .unset] [(.int (2 : Int32)), (.ref b271), (.int (2 : Int32)), (.ref b309)])) rfl rfl (hb hby at_395) _ ?_
    show Steps p.tables e below (T332.setTop (mkF m 396 #[.val (.int a), .val (.long b), .second, .val (.int d), .val (.int e0x), .val (.int f), .val (.int s0), .val (.int s1), .val (.int s2), .val (.int s3), .val (.ref b81), .val (.ref b100), .val (.ref b160), .val (.ref b222), .val (.ref b271), .val (.ref b309), .unset, .unset, .unset, .unset, .unset, .unset, .unset, .unset] [(.long c2), (.int (2 : Int32)), (.ref b309)])) _
    refine XS.l2dS X332.here hx rfl (hb hby at_396) rfl rfl ?_
    show Steps p.tables e below (T332.setTop (mkF m 397 #[.val (.int a), .val (.long b), .second, .val (.int d), .val (.int e0x), .val (.int f), .val (.int s0), .val (.int s1), .val (.int s2), .val (.int s3), .val (.ref b81), .val (.ref b100), .val (.ref b160), .val (.ref b222), .val (.ref b271), .val (.ref b309), .unset, .unset, .unset, .unset, .unset, .unset, .unset, .unset] [(.double (FP.l2d c2)), (.int (2 : Int32)), (.ref b309)])) _
    exact kt)
  clear S334
  obtain ⟨co338, Ao338, qo338, So338, No338, Ho338, Go338⟩ := id V332
  have hino338 : ¬ ((2 : Int32) < 0 ∨ co338.slots.size ≤ ((2 : Int32)).toNatClampNeg) := inb_of So338 ⟨by decide, by decide⟩
  obtain ⟨T339, h339, X339, e339, W339, st339⟩ := stD X332 hx hZ e332 Ao338 (j := (2 : Int32)) hino338 (g := (mkF m 397 #[.val (.int a), .val (.long b), .second, .val (.int d), .val (.int e0x), .val (.int f), .val (.int s0), .val (.int s1), .val (.int s2), .val (.int s3), .val (.ref b81), .val (.ref b100), .val (.ref b160), .val (.ref b222), .val (.ref b271), .val (.ref b309), .unset, .unset, .unset, .unset, .unset, .unset, .unset, .unset] [(.double (FP.l2d c2)), (.int (2 : Int32)), (.ref b309)])) rfl rfl (hb hby at_397)
  have N339 := Fr.snoc X339 N332 g_b309
  have V339 : Arv Z h339 b309 k309 .double (4 : Int32) [(.double (FP.l2d c0)), (.double (FP.l2d c1)), (.double (FP.l2d c2)), (.double (0 : UInt64))] (.double (0 : UInt64)) := Arv.set Ao338 qo338 So338 No338 Ho338 Go338 rfl W339 2 rfl (Nat.le_of_ble_eq_true rfl)
  have S340 : Go p e below s₁ (entryFrame m #[(.int a), (.long b), (.int d), (.int e0x), (.int f)] maxLocals) T339 (mkF m 398 #[.val (.int a), .val (.long b), .second, .val (.int d), .val (.int e0x), .val (.int f), .val (.int s0), .val (.int s1), .val (.int s2), .val (.int s3), .val (.ref b81), .val (.ref b100), .val (.ref b160), .val (.ref b222), .val (.ref b271), .val (.ref b309), .unset, .unset, .unset, .unset, .unset, .unset, .unset, .unset] []) := fun t kt => S337 t (st339 t kt)
  clear S337 st339 X332 e332
  have S341 : Go p e below s₁ (entryFrame m #[(.int a), (.long b), (.int d), (.int e0x), (.int f)] maxLocals) T339 (mkF m 404 #[.val (.int a), .val (.long b), .second, .val (.int d), .val (.int e0x), .val (.int f), .val (.int s0), .val (.int s1), .val (.int s2), .val (.int s3), .val (.ref b81), .val (.ref b100), .val (.ref b160), .val (.ref b222), .val (.ref b271), .val (.ref b309), .unset, .unset, .unset, .unset, .unset, .unset, .unset, .unset] [(.int (3 : Int32)), (.ref b271), (.int (3 : Int32)), (.ref b309)]) := fun t kt => S340 t (by
    refine XS.aload X339.here hx rfl (hb hby at_398) rfl rfl ?_
    show Steps p.tables e below (T339.setTop (mkF m 400 #[.val (.int a), .val (.long b), .second, .val (.int d), .val (.int e0x), .val (.int f), .val (.int s0), .val (.int s1), .val (.int s2), .val (.int s3), .val (.ref b81), .val (.ref b100), .val (.ref b160), .val (.ref b222), .val (.ref b271), .val (.ref b309), .unset, .unset, .unset, .unset, .unset, .unset, .unset, .unset] [(.ref b309)])) _
    refine XS.iconst X339.here hx rfl (hb hby at_400) ?_
    show Steps p.tables e below (T339.setTop (mkF m 401 #[.val (.int a), .val (.long b), .second, .val (.int d), .val (.int e0x), .val (.int f), .val (.int s0), .val (.int s1), .val (.int s2), .val (.int s3), .val (.ref b81), .val (.ref b100), .val (.ref b160), .val (.ref b222), .val (.ref b271), .val (.ref b309), .unset, .unset, .unset, .unset, .unset, .unset, .unset, .unset] [(.int (3 : Int32)), (.ref b309)])) _
    refine XS.aload X339.here hx rfl (hb hby at_401) rfl rfl ?_
    show Steps p.tables e below (T339.setTop (mkF m 403 #[.val (.int a), .val (.long b), .second, .val (.int d), .val (.int e0x), .val (.int f), .val (.int s0), .val (.int s1), .val (.int s2), .val (.int s3), .val (.ref b81), .val (.ref b100), .val (.ref b160), .val (.ref b222), .val (.ref b271), .val (.ref b309), .unset, .unset, .unset, .unset, .unset, .unset, .unset, .unset] [(.ref b271), (.int (3 : Int32)), (.ref b309)])) _
    refine XS.iconst X339.here hx rfl (hb hby at_403) ?_
    show Steps p.tables e below (T339.setTop (mkF m 404 #[.val (.int a), .val (.long b), .second, .val (.int d), .val (.int e0x), .val (.int f), .val (.int s0), .val (.int s1), .val (.int s2), .val (.int s3), .val (.ref b81), .val (.ref b100), .val (.ref b160), .val (.ref b222), .val (.ref b271), .val (.ref b309), .unset, .unset, .unset, .unset, .unset, .unset, .unset, .unset] [(.int (3 : Int32)), (.ref b271), (.int (3 : Int32)), (.ref b309)])) _
    exact kt)
  clear S340
  have f342 := (f335.other W339 ne318)
  obtain ⟨co343, Ao343, qo343, So343, No343, Ho343, Go343⟩ := id f342
  have hino343 : ¬ ((3 : Int32) < 0 ∨ co343.slots.size ≤ ((3 : Int32)).toNatClampNeg) := inb_of So343 ⟨by decide, by decide⟩
  have hato343 : co343.slots[((3 : Int32)).toNatClampNeg]? = some (.long c3) := Has.at Ho343 hino343 rfl
  have S344 : Go p e below s₁ (entryFrame m #[(.int a), (.long b), (.int d), (.int e0x), (.int f)] maxLocals) T339 (mkF m 406 #[.val (.int a), .val (.long b), .second, .val (.int d), .val (.int e0x), .val (.int f), .val (.int s0), .val (.int s1), .val (.int s2), .val (.int s3), .val (.ref b81), .val (.ref b100), .val (.ref b160), .val (.ref b222), .val (.ref b271), .val (.ref b309), .unset, .unset, .unset, .unset, .unset, .unset, .unset, .unset] [(.double (FP.l2d c3)), (.int (3 : Int32)), (.ref b309)]) := fun t kt => S341 t (by
    refine X339.laload hx (j := (3 : Int32)) (v := (.long c3)) (by rw [e339]; exact Ao343.1) (State.isArrayOf_alike hZ.alike Ao343.2.1) Ao343.2.2 hino343 hato343 (g := (mkF m 404 #[.val (.int a), .val (.long b), .second, .val (.int d), .val (.int e0x), .val (.int f), .val (.int s0), .val (.int s1), .val (.int s2), .val (.int s3), .val (.ref b81), .val (.ref b100), .val (.ref b160), .val (.ref b222), .val (.ref b271), .val (.ref b309), .unset, .unset, .unset, .unset, .unset, .unset, .unset, .unset] [(.int (3 : Int32)), (.ref b271), (.int (3 : Int32)), (.ref b309)])) rfl rfl (hb hby at_404) _ ?_
    show Steps p.tables e below (T339.setTop (mkF m 405 #[.val (.int a), .val (.long b), .second, .val (.int d), .val (.int e0x), .val (.int f), .val (.int s0), .val (.int s1), .val (.int s2), .val (.int s3), .val (.ref b81), .val (.ref b100), .val (.ref b160), .val (.ref b222), .val (.ref b271), .val (.ref b309), .unset, .unset, .unset, .unset, .unset, .unset, .unset, .unset] [(.long c3), (.int (3 : Int32)), (.ref b309)])) _
    refine XS.l2dS X339.here hx rfl (hb hby at_405) rfl rfl ?_
    show Steps p.tables e below (T339.setTop (mkF m 406 #[.val (.int a), .val (.long b), .second, .val (.int d), .val (.int e0x), .val (.int f), .val (.int s0), .val (.int s1), .val (.int s2), .val (.int s3), .val (.ref b81), .val (.ref b100), .val (.ref b160), .val (.ref b222), .val (.ref b271), .val (.ref b309), .unset, .unset, .unset, .unset, .unset, .unset, .unset, .unset] [(.double (FP.l2d c3)), (.int (3 : Int32)), (.ref b309)])) _
    exact kt)
  clear S341
  obtain ⟨co345, Ao345, qo345, So345, No345, Ho345, Go345⟩ := id V339
  have hino345 : ¬ ((3 : Int32) < 0 ∨ co345.slots.size ≤ ((3 : Int32)).toNatClampNeg) := inb_of So345 ⟨by decide, by decide⟩
  obtain ⟨T346, h346, X346, e346, W346, st346⟩ := stD X339 hx hZ e339 Ao345 (j := (3 : Int32)) hino345 (g := (mkF m 406 #[.val (.int a), .val (.long b), .second, .val (.int d), .val (.int e0x), .val (.int f), .val (.int s0), .val (.int s1), .val (.int s2), .val (.int s3), .val (.ref b81), .val (.ref b100), .val (.ref b160), .val (.ref b222), .val (.ref b271), .val (.ref b309), .unset, .unset, .unset, .unset, .unset, .unset, .unset, .unset] [(.double (FP.l2d c3)), (.int (3 : Int32)), (.ref b309)])) rfl rfl (hb hby at_406)
  have N346 := Fr.snoc X346 N339 g_b309
  have V346 : Arv Z h346 b309 k309 .double (4 : Int32) [(.double (FP.l2d c0)), (.double (FP.l2d c1)), (.double (FP.l2d c2)), (.double (FP.l2d c3))] (.double (0 : UInt64)) := Arv.set Ao345 qo345 So345 No345 Ho345 Go345 rfl W346 3 rfl (Nat.le_of_ble_eq_true rfl)
  have S347 : Go p e below s₁ (entryFrame m #[(.int a), (.long b), (.int d), (.int e0x), (.int f)] maxLocals) T346 (mkF m 407 #[.val (.int a), .val (.long b), .second, .val (.int d), .val (.int e0x), .val (.int f), .val (.int s0), .val (.int s1), .val (.int s2), .val (.int s3), .val (.ref b81), .val (.ref b100), .val (.ref b160), .val (.ref b222), .val (.ref b271), .val (.ref b309), .unset, .unset, .unset, .unset, .unset, .unset, .unset, .unset] []) := fun t kt => S344 t (st346 t kt)
  clear S344 st346 X339 e339
  have S348 : Go p e below s₁ (entryFrame m #[(.int a), (.long b), (.int d), (.int e0x), (.int f)] maxLocals) T346 (mkF m 414 #[.val (.int a), .val (.long b), .second, .val (.int d), .val (.int e0x), .val (.int f), .val (.int s0), .val (.int s1), .val (.int s2), .val (.int s3), .val (.ref b81), .val (.ref b100), .val (.ref b160), .val (.ref b222), .val (.ref b271), .val (.ref b309), .unset, .unset, .unset, .unset, .unset, .unset, .unset, .unset] [(.int ((f &&& (2147483647 : Int32)) % (3 : Int32)))]) := fun t kt => S347 t (by
    refine XS.iload X346.here hx rfl (hb hby at_407) rfl ?_
    show Steps p.tables e below (T346.setTop (mkF m 409 #[.val (.int a), .val (.long b), .second, .val (.int d), .val (.int e0x), .val (.int f), .val (.int s0), .val (.int s1), .val (.int s2), .val (.int s3), .val (.ref b81), .val (.ref b100), .val (.ref b160), .val (.ref b222), .val (.ref b271), .val (.ref b309), .unset, .unset, .unset, .unset, .unset, .unset, .unset, .unset] [(.int f)])) _
    refine X346.ldcInt hx hown (mvT hZ (hw _ (List.mem_of_getElem? (i := 7) rfl))) (g := (mkF m 409 #[.val (.int a), .val (.long b), .second, .val (.int d), .val (.int e0x), .val (.int f), .val (.int s0), .val (.int s1), .val (.int s2), .val (.int s3), .val (.ref b81), .val (.ref b100), .val (.ref b160), .val (.ref b222), .val (.ref b271), .val (.ref b309), .unset, .unset, .unset, .unset, .unset, .unset, .unset, .unset] [(.int f)])) rfl (hb hby at_409) _ ?_
    show Steps p.tables e below (T346.setTop (mkF m 411 #[.val (.int a), .val (.long b), .second, .val (.int d), .val (.int e0x), .val (.int f), .val (.int s0), .val (.int s1), .val (.int s2), .val (.int s3), .val (.ref b81), .val (.ref b100), .val (.ref b160), .val (.ref b222), .val (.ref b271), .val (.ref b309), .unset, .unset, .unset, .unset, .unset, .unset, .unset, .unset] [(.int (2147483647 : Int32)), (.int f)])) _
    refine XS.iand X346.here hx rfl (hb hby at_411) rfl ?_
    show Steps p.tables e below (T346.setTop (mkF m 412 #[.val (.int a), .val (.long b), .second, .val (.int d), .val (.int e0x), .val (.int f), .val (.int s0), .val (.int s1), .val (.int s2), .val (.int s3), .val (.ref b81), .val (.ref b100), .val (.ref b160), .val (.ref b222), .val (.ref b271), .val (.ref b309), .unset, .unset, .unset, .unset, .unset, .unset, .unset, .unset] [(.int (f &&& (2147483647 : Int32)))])) _
    refine XS.iconst X346.here hx rfl (hb hby at_412) ?_
    show Steps p.tables e below (T346.setTop (mkF m 413 #[.val (.int a), .val (.long b), .second, .val (.int d), .val (.int e0x), .val (.int f), .val (.int s0), .val (.int s1), .val (.int s2), .val (.int s3), .val (.ref b81), .val (.ref b100), .val (.ref b160), .val (.ref b222), .val (.ref b271), .val (.ref b309), .unset, .unset, .unset, .unset, .unset, .unset, .unset, .unset] [(.int (3 : Int32)), (.int (f &&& (2147483647 : Int32)))])) _
    refine iremM X346 hx rfl (hb hby at_413) rfl (by decide) ?_
    show Steps p.tables e below (T346.setTop (mkF m 414 #[.val (.int a), .val (.long b), .second, .val (.int d), .val (.int e0x), .val (.int f), .val (.int s0), .val (.int s1), .val (.int s2), .val (.int s3), .val (.ref b81), .val (.ref b100), .val (.ref b160), .val (.ref b222), .val (.ref b271), .val (.ref b309), .unset, .unset, .unset, .unset, .unset, .unset, .unset, .unset] [(.int ((f &&& (2147483647 : Int32)) % (3 : Int32)))])) _
    exact kt)
  clear S347
  obtain ⟨line, q_line⟩ : ∃ z : Int32, z = ((f &&& (2147483647 : Int32)) % (3 : Int32)) := ⟨_, rfl⟩
  have S349 : Go p e below s₁ (entryFrame m #[(.int a), (.long b), (.int d), (.int e0x), (.int f)] maxLocals) T346 (mkF m 414 #[.val (.int a), .val (.long b), .second, .val (.int d), .val (.int e0x), .val (.int f), .val (.int s0), .val (.int s1), .val (.int s2), .val (.int s3), .val (.ref b81), .val (.ref b100), .val (.ref b160), .val (.ref b222), .val (.ref b271), .val (.ref b309), .unset, .unset, .unset, .unset, .unset, .unset, .unset, .unset] [(.int line)]) := by subst q_line; exact S348
  clear S348
  have hline := own_line f
  rw [← q_line] at hline
  obtain ⟨lo, hi, at0, at1, hlo, hlh, hhi, hh8⟩ := own_start hline (hs0 := by omega) (hs1 := by omega) (hs2 := by omega) (hs3 := by omega) (s0 := s0) (s1 := s1) (s2 := s2) (s3 := s3)
  have i0 : ¬ line < 0 ∧ line < 4 := own_l0 hline
  have i1 : ¬ (line + (1 : Int32)) < 0 ∧ (line + (1 : Int32)) < 4 := own_l1 hline
  have S350 : Go p e below s₁ (entryFrame m #[(.int a), (.long b), (.int d), (.int e0x), (.int f)] maxLocals) T346 (mkF m 420 #[.val (.int a), .val (.long b), .second, .val (.int d), .val (.int e0x), .val (.int f), .val (.int s0), .val (.int s1), .val (.int s2), .val (.int s3), .val (.ref b81), .val (.ref b100), .val (.ref b160), .val (.ref b222), .val (.ref b271), .val (.ref b309), .val (.int line), .unset, .unset, .unset, .unset, .unset, .unset, .unset] [(.int line), (.ref b81)]) := fun t kt => S349 t (by
    refine XS.istore X346.here hx rfl (hb hby at_414) rfl (l' := #[.val (.int a), .val (.long b), .second, .val (.int d), .val (.int e0x), .val (.int f), .val (.int s0), .val (.int s1), .val (.int s2), .val (.int s3), .val (.ref b81), .val (.ref b100), .val (.ref b160), .val (.ref b222), .val (.ref b271), .val (.ref b309), .val (.int line), .unset, .unset, .unset, .unset, .unset, .unset, .unset]) rfl ?_
    show Steps p.tables e below (T346.setTop (mkF m 416 #[.val (.int a), .val (.long b), .second, .val (.int d), .val (.int e0x), .val (.int f), .val (.int s0), .val (.int s1), .val (.int s2), .val (.int s3), .val (.ref b81), .val (.ref b100), .val (.ref b160), .val (.ref b222), .val (.ref b271), .val (.ref b309), .val (.int line), .unset, .unset, .unset, .unset, .unset, .unset, .unset] [])) _
    refine XS.aload X346.here hx rfl (hb hby at_416) rfl rfl ?_
    show Steps p.tables e below (T346.setTop (mkF m 418 #[.val (.int a), .val (.long b), .second, .val (.int d), .val (.int e0x), .val (.int f), .val (.int s0), .val (.int s1), .val (.int s2), .val (.int s3), .val (.ref b81), .val (.ref b100), .val (.ref b160), .val (.ref b222), .val (.ref b271), .val (.ref b309), .val (.int line), .unset, .unset, .unset, .unset, .unset, .unset, .unset] [(.ref b81)])) _
    refine XS.iload X346.here hx rfl (hb hby at_418) rfl ?_
    show Steps p.tables e below (T346.setTop (mkF m 420 #[.val (.int a), .val (.long b), .second, .val (.int d), .val (.int e0x), .val (.int f), .val (.int s0), .val (.int s1), .val (.int s2), .val (.int s3), .val (.ref b81), .val (.ref b100), .val (.ref b160), .val (.ref b222), .val (.ref b271), .val (.ref b309), .val (.int line), .unset, .unset, .unset, .unset, .unset, .unset, .unset] [(.int line), (.ref b81)])) _
    exact kt)
  clear S349
  have f351 := (((((f310.ext E309).other W325 ne311).other W332 ne311).other W339 ne311).other W346 ne311)
  obtain ⟨co352, Ao352, qo352, So352, No352, Ho352, Go352⟩ := id f351
  have hino352 : ¬ (line < 0 ∨ co352.slots.size ≤ (line).toNatClampNeg) := inb_of So352 i0
  have hato352 : co352.slots[(line).toNatClampNeg]? = some (.int lo) := Has.at Ho352 hino352 at0
  have S353 : Go p e below s₁ (entryFrame m #[(.int a), (.long b), (.int d), (.int e0x), (.int f)] maxLocals) T346 (mkF m 429 #[.val (.int a), .val (.long b), .second, .val (.int d), .val (.int e0x), .val (.int f), .val (.int s0), .val (.int s1), .val (.int s2), .val (.int s3), .val (.ref b81), .val (.ref b100), .val (.ref b160), .val (.ref b222), .val (.ref b271), .val (.ref b309), .val (.int line), .val (.int lo), .unset, .unset, .unset, .unset, .unset, .unset] [(.int (line + (1 : Int32))), (.ref b81)]) := fun t kt => S350 t (by
    refine X346.iaload hx (j := line) (v := (.int lo)) (by rw [e346]; exact Ao352.1) (State.isArrayOf_alike hZ.alike Ao352.2.1) Ao352.2.2 hino352 hato352 (g := (mkF m 420 #[.val (.int a), .val (.long b), .second, .val (.int d), .val (.int e0x), .val (.int f), .val (.int s0), .val (.int s1), .val (.int s2), .val (.int s3), .val (.ref b81), .val (.ref b100), .val (.ref b160), .val (.ref b222), .val (.ref b271), .val (.ref b309), .val (.int line), .unset, .unset, .unset, .unset, .unset, .unset, .unset] [(.int line), (.ref b81)])) rfl rfl (hb hby at_420) _ ?_
    show Steps p.tables e below (T346.setTop (mkF m 421 #[.val (.int a), .val (.long b), .second, .val (.int d), .val (.int e0x), .val (.int f), .val (.int s0), .val (.int s1), .val (.int s2), .val (.int s3), .val (.ref b81), .val (.ref b100), .val (.ref b160), .val (.ref b222), .val (.ref b271), .val (.ref b309), .val (.int line), .unset, .unset, .unset, .unset, .unset, .unset, .unset] [(.int lo)])) _
    refine XS.istore X346.here hx rfl (hb hby at_421) rfl (l' := #[.val (.int a), .val (.long b), .second, .val (.int d), .val (.int e0x), .val (.int f), .val (.int s0), .val (.int s1), .val (.int s2), .val (.int s3), .val (.ref b81), .val (.ref b100), .val (.ref b160), .val (.ref b222), .val (.ref b271), .val (.ref b309), .val (.int line), .val (.int lo), .unset, .unset, .unset, .unset, .unset, .unset]) rfl ?_
    show Steps p.tables e below (T346.setTop (mkF m 423 #[.val (.int a), .val (.long b), .second, .val (.int d), .val (.int e0x), .val (.int f), .val (.int s0), .val (.int s1), .val (.int s2), .val (.int s3), .val (.ref b81), .val (.ref b100), .val (.ref b160), .val (.ref b222), .val (.ref b271), .val (.ref b309), .val (.int line), .val (.int lo), .unset, .unset, .unset, .unset, .unset, .unset] [])) _
    refine XS.aload X346.here hx rfl (hb hby at_423) rfl rfl ?_
    show Steps p.tables e below (T346.setTop (mkF m 425 #[.val (.int a), .val (.long b), .second, .val (.int d), .val (.int e0x), .val (.int f), .val (.int s0), .val (.int s1), .val (.int s2), .val (.int s3), .val (.ref b81), .val (.ref b100), .val (.ref b160), .val (.ref b222), .val (.ref b271), .val (.ref b309), .val (.int line), .val (.int lo), .unset, .unset, .unset, .unset, .unset, .unset] [(.ref b81)])) _
    refine XS.iload X346.here hx rfl (hb hby at_425) rfl ?_
    show Steps p.tables e below (T346.setTop (mkF m 427 #[.val (.int a), .val (.long b), .second, .val (.int d), .val (.int e0x), .val (.int f), .val (.int s0), .val (.int s1), .val (.int s2), .val (.int s3), .val (.ref b81), .val (.ref b100), .val (.ref b160), .val (.ref b222), .val (.ref b271), .val (.ref b309), .val (.int line), .val (.int lo), .unset, .unset, .unset, .unset, .unset, .unset] [(.int line), (.ref b81)])) _
    refine XS.iconst X346.here hx rfl (hb hby at_427) ?_
    show Steps p.tables e below (T346.setTop (mkF m 428 #[.val (.int a), .val (.long b), .second, .val (.int d), .val (.int e0x), .val (.int f), .val (.int s0), .val (.int s1), .val (.int s2), .val (.int s3), .val (.ref b81), .val (.ref b100), .val (.ref b160), .val (.ref b222), .val (.ref b271), .val (.ref b309), .val (.int line), .val (.int lo), .unset, .unset, .unset, .unset, .unset, .unset] [(.int (1 : Int32)), (.int line), (.ref b81)])) _
    refine XS.iadd X346.here hx rfl (hb hby at_428) rfl ?_
    show Steps p.tables e below (T346.setTop (mkF m 429 #[.val (.int a), .val (.long b), .second, .val (.int d), .val (.int e0x), .val (.int f), .val (.int s0), .val (.int s1), .val (.int s2), .val (.int s3), .val (.ref b81), .val (.ref b100), .val (.ref b160), .val (.ref b222), .val (.ref b271), .val (.ref b309), .val (.int line), .val (.int lo), .unset, .unset, .unset, .unset, .unset, .unset] [(.int (line + (1 : Int32))), (.ref b81)])) _
    exact kt)
  clear S350
  obtain ⟨co354, Ao354, qo354, So354, No354, Ho354, Go354⟩ := id f351
  have hino354 : ¬ ((line + (1 : Int32)) < 0 ∨ co354.slots.size ≤ ((line + (1 : Int32))).toNatClampNeg) := inb_of So354 i1
  have hato354 : co354.slots[((line + (1 : Int32))).toNatClampNeg]? = some (.int hi) := Has.at Ho354 hino354 at1
  have S355 : Go p e below s₁ (entryFrame m #[(.int a), (.long b), (.int d), (.int e0x), (.int f)] maxLocals) T346 (mkF m 443 #[.val (.int a), .val (.long b), .second, .val (.int d), .val (.int e0x), .val (.int f), .val (.int s0), .val (.int s1), .val (.int s2), .val (.int s3), .val (.ref b81), .val (.ref b100), .val (.ref b160), .val (.ref b222), .val (.ref b271), .val (.ref b309), .val (.int line), .val (.int lo), .val (.int hi), .unset, .unset, .unset, .unset, .unset] [(.int (0 : Int32)), (.int hi), (.int lo), (.ref b271), (.ref b222), (.ref b100)]) := fun t kt => S353 t (by
    refine X346.iaload hx (j := (line + (1 : Int32))) (v := (.int hi)) (by rw [e346]; exact Ao354.1) (State.isArrayOf_alike hZ.alike Ao354.2.1) Ao354.2.2 hino354 hato354 (g := (mkF m 429 #[.val (.int a), .val (.long b), .second, .val (.int d), .val (.int e0x), .val (.int f), .val (.int s0), .val (.int s1), .val (.int s2), .val (.int s3), .val (.ref b81), .val (.ref b100), .val (.ref b160), .val (.ref b222), .val (.ref b271), .val (.ref b309), .val (.int line), .val (.int lo), .unset, .unset, .unset, .unset, .unset, .unset] [(.int (line + (1 : Int32))), (.ref b81)])) rfl rfl (hb hby at_429) _ ?_
    show Steps p.tables e below (T346.setTop (mkF m 430 #[.val (.int a), .val (.long b), .second, .val (.int d), .val (.int e0x), .val (.int f), .val (.int s0), .val (.int s1), .val (.int s2), .val (.int s3), .val (.ref b81), .val (.ref b100), .val (.ref b160), .val (.ref b222), .val (.ref b271), .val (.ref b309), .val (.int line), .val (.int lo), .unset, .unset, .unset, .unset, .unset, .unset] [(.int hi)])) _
    refine XS.istore X346.here hx rfl (hb hby at_430) rfl (l' := #[.val (.int a), .val (.long b), .second, .val (.int d), .val (.int e0x), .val (.int f), .val (.int s0), .val (.int s1), .val (.int s2), .val (.int s3), .val (.ref b81), .val (.ref b100), .val (.ref b160), .val (.ref b222), .val (.ref b271), .val (.ref b309), .val (.int line), .val (.int lo), .val (.int hi), .unset, .unset, .unset, .unset, .unset]) rfl ?_
    show Steps p.tables e below (T346.setTop (mkF m 432 #[.val (.int a), .val (.long b), .second, .val (.int d), .val (.int e0x), .val (.int f), .val (.int s0), .val (.int s1), .val (.int s2), .val (.int s3), .val (.ref b81), .val (.ref b100), .val (.ref b160), .val (.ref b222), .val (.ref b271), .val (.ref b309), .val (.int line), .val (.int lo), .val (.int hi), .unset, .unset, .unset, .unset, .unset] [])) _
    refine XS.aload X346.here hx rfl (hb hby at_432) rfl rfl ?_
    show Steps p.tables e below (T346.setTop (mkF m 434 #[.val (.int a), .val (.long b), .second, .val (.int d), .val (.int e0x), .val (.int f), .val (.int s0), .val (.int s1), .val (.int s2), .val (.int s3), .val (.ref b81), .val (.ref b100), .val (.ref b160), .val (.ref b222), .val (.ref b271), .val (.ref b309), .val (.int line), .val (.int lo), .val (.int hi), .unset, .unset, .unset, .unset, .unset] [(.ref b100)])) _
    refine XS.aload X346.here hx rfl (hb hby at_434) rfl rfl ?_
    show Steps p.tables e below (T346.setTop (mkF m 436 #[.val (.int a), .val (.long b), .second, .val (.int d), .val (.int e0x), .val (.int f), .val (.int s0), .val (.int s1), .val (.int s2), .val (.int s3), .val (.ref b81), .val (.ref b100), .val (.ref b160), .val (.ref b222), .val (.ref b271), .val (.ref b309), .val (.int line), .val (.int lo), .val (.int hi), .unset, .unset, .unset, .unset, .unset] [(.ref b222), (.ref b100)])) _
    refine XS.aload X346.here hx rfl (hb hby at_436) rfl rfl ?_
    show Steps p.tables e below (T346.setTop (mkF m 438 #[.val (.int a), .val (.long b), .second, .val (.int d), .val (.int e0x), .val (.int f), .val (.int s0), .val (.int s1), .val (.int s2), .val (.int s3), .val (.ref b81), .val (.ref b100), .val (.ref b160), .val (.ref b222), .val (.ref b271), .val (.ref b309), .val (.int line), .val (.int lo), .val (.int hi), .unset, .unset, .unset, .unset, .unset] [(.ref b271), (.ref b222), (.ref b100)])) _
    refine XS.iload X346.here hx rfl (hb hby at_438) rfl ?_
    show Steps p.tables e below (T346.setTop (mkF m 440 #[.val (.int a), .val (.long b), .second, .val (.int d), .val (.int e0x), .val (.int f), .val (.int s0), .val (.int s1), .val (.int s2), .val (.int s3), .val (.ref b81), .val (.ref b100), .val (.ref b160), .val (.ref b222), .val (.ref b271), .val (.ref b309), .val (.int line), .val (.int lo), .val (.int hi), .unset, .unset, .unset, .unset, .unset] [(.int lo), (.ref b271), (.ref b222), (.ref b100)])) _
    refine XS.iload X346.here hx rfl (hb hby at_440) rfl ?_
    show Steps p.tables e below (T346.setTop (mkF m 442 #[.val (.int a), .val (.long b), .second, .val (.int d), .val (.int e0x), .val (.int f), .val (.int s0), .val (.int s1), .val (.int s2), .val (.int s3), .val (.ref b81), .val (.ref b100), .val (.ref b160), .val (.ref b222), .val (.ref b271), .val (.ref b309), .val (.int line), .val (.int lo), .val (.int hi), .unset, .unset, .unset, .unset, .unset] [(.int hi), (.int lo), (.ref b271), (.ref b222), (.ref b100)])) _
    refine XS.iconst X346.here hx rfl (hb hby at_442) ?_
    show Steps p.tables e below (T346.setTop (mkF m 443 #[.val (.int a), .val (.long b), .second, .val (.int d), .val (.int e0x), .val (.int f), .val (.int s0), .val (.int s1), .val (.int s2), .val (.int s3), .val (.ref b81), .val (.ref b100), .val (.ref b160), .val (.ref b222), .val (.ref b271), .val (.ref b309), .val (.int line), .val (.int lo), .val (.int hi), .unset, .unset, .unset, .unset, .unset] [(.int (0 : Int32)), (.int hi), (.int lo), (.ref b271), (.ref b222), (.ref b100)])) _
    exact kt)
  clear S353
  have hps : ∀ z ∈ [p0, p1, p2, p3, p4, p5, p6, p7], ¬ z < 0 ∧ z < 4 := by
    intro z hz; simp only [List.mem_cons, List.not_mem_nil, or_false] at hz
    rcases hz with rfl | rfl | rfl | rfl | rfl | rfl | rfl | rfl <;> assumption
  have hlv : ∀ z ∈ [l0, l1, l2, l3, l4, l5, l6, l7], -128 ≤ z.toInt ∧ z.toInt ≤ 127 := by
    intro z hz; simp only [List.mem_cons, List.not_mem_nil, or_false] at hz
    rcases hz with rfl | rfl | rfl | rfl | rfl | rfl | rfl | rfl <;> assumption
  have hlc : ∀ z ∈ [c0, c1, c2, c3], -128 ≤ z.toInt ∧ z.toInt ≤ 127 := by
    intro z hz; simp only [List.mem_cons, List.not_mem_nil, or_false] at hz
    rcases hz with rfl | rfl | rfl | rfl <;> assumption
  obtain ⟨tf, q_tf⟩ : ∃ z : Int32 → Int64, z = (fun q => ([l0, l1, l2, l3, l4, l5, l6, l7].getD q.toNatClampNeg (0 : Int64)) * ([c0, c1, c2, c3].getD ([p0, p1, p2, p3, p4, p5, p6, p7].getD q.toNatClampNeg (0 : Int32)).toNatClampNeg (0 : Int64))) := ⟨_, rfl⟩
  have f356 := (((((f312.ext E309).other W325 ne313).other W332 ne313).other W339 ne313).other W346 ne313)
  have f357 := (((((f316.ext E309).other W325 ne317).other W332 ne317).other W339 ne317).other W346 ne317)
  have f358 := (f342.other W346 ne318)
  obtain ⟨v359, T359, L359, X359, hQ359, st359⟩ := own_outS (Jvm.LawKit.callS X346 hx (y := (⟨"com/example/blindroute/blindroute/lp/SparseLinesDotPinLaw", "term", "([J[I[JIII)J"⟩ : MethodName)) hown (mvT hZ (hw _ (List.mem_of_getElem? (i := 8) rfl))) (mvT hZ (hw _ (List.mem_of_getElem? (i := 9) rfl))) (mvT hZ (hw _ (List.mem_of_getElem? (i := 4) rfl))) (mvT hZ (hw _ (List.mem_of_getElem? (i := 10) rfl))) (by decide) (backOf (W := 0) (rm_term l Z a0 hw [] b100 b222 b271 lo hi (0 : Int32) [l0, l1, l2, l3, l4, l5, l6, l7] [p0, p1, p2, p3, p4, p5, p6, p7] [c0, c1, c2, c3] k100 k222 k271 h346 n0 (Nat.le_trans (Nat.le_trans (Nat.le_trans (Nat.le_trans (Nat.le_trans (Nat.le_trans (Nat.le_trans (Nat.le_trans (Nat.le_trans (Nat.le_trans (Nat.le_trans (Nat.le_trans (Nat.le_trans (Nat.le_trans (Nat.le_trans (Nat.le_trans (Nat.le_trans (Nat.le_trans (Nat.le_trans (Nat.le_trans (Nat.le_trans (Nat.le_trans (Nat.le_trans (Nat.le_trans (Nat.le_trans (Nat.le_trans (Nat.le_trans (Nat.le_trans (Nat.le_trans (Nat.le_trans (Nat.le_trans (Nat.le_trans (Nat.le_trans (Nat.le_trans (Nat.le_trans (Nat.le_trans (Nat.le_trans (Nat.le_trans (Nat.le_trans (Nat.le_trans (Nat.le_trans (Nat.le_trans Z0 E81.1) (Keep.of_wr W85).1) (Keep.of_wr W89).1) (Keep.of_wr W93).1) (Keep.of_wr W97).1) E100.1) (Keep.of_wr W108).1) (Keep.of_wr W115).1) (Keep.of_wr W122).1) (Keep.of_wr W129).1) (Keep.of_wr W136).1) (Keep.of_wr W143).1) (Keep.of_wr W150).1) (Keep.of_wr W157).1) E160.1) (Keep.of_wr W170).1) (Keep.of_wr W177).1) (Keep.of_wr W184).1) (Keep.of_wr W191).1) (Keep.of_wr W198).1) (Keep.of_wr W205).1) (Keep.of_wr W212).1) (Keep.of_wr W219).1) E222.1) (Keep.of_wr W233).1) (Keep.of_wr W238).1) (Keep.of_wr W243).1) (Keep.of_wr W248).1) (Keep.of_wr W253).1) (Keep.of_wr W258).1) (Keep.of_wr W263).1) (Keep.of_wr W268).1) E271.1) (Keep.of_wr W285).1) (Keep.of_wr W292).1) (Keep.of_wr W299).1) (Keep.of_wr W306).1) E309.1) (Keep.of_wr W325).1) (Keep.of_wr W332).1) (Keep.of_wr W339).1) (Keep.of_wr W346).1) f356 rfl f357 rfl f358 rfl hps (by decide)) hZ (hw _ (List.mem_of_getElem? (i := 10) rfl)) (hw _ (List.mem_of_getElem? (i := 4) rfl)) (by decide) (by decide)) (g := (mkF m 443 #[.val (.int a), .val (.long b), .second, .val (.int d), .val (.int e0x), .val (.int f), .val (.int s0), .val (.int s1), .val (.int s2), .val (.int s3), .val (.ref b81), .val (.ref b100), .val (.ref b160), .val (.ref b222), .val (.ref b271), .val (.ref b309), .val (.int line), .val (.int lo), .val (.int hi), .unset, .unset, .unset, .unset, .unset] [(.int (0 : Int32)), (.int hi), (.int lo), (.ref b271), (.ref b222), (.ref b100)])) rfl (by rw [hml]; rfl) (argsL := [(.ref b100), (.ref b222), (.ref b271), (.int lo), (.int hi), (.int (0 : Int32))]) (rest := []) (lenOf pd___J_I_JIII_J rfl) rfl (by show 2 * 0 + _ ≤ _; exact Nat.le_of_eq rfl) (hb hby at_443) (fun _ _ => ⟨rfl, e346, (by decide : 6 + 0 ≤ _), (by decide : 36 + 0 ≤ _)⟩))
  obtain ⟨rfl, N359q, e359⟩ := hQ359
  have N359 := Fr.app N346 N359q
  have S360 : Go p e below s₁ (entryFrame m #[(.int a), (.long b), (.int d), (.int e0x), (.int f)] maxLocals) T359 (mkF m 446 #[.val (.int a), .val (.long b), .second, .val (.int d), .val (.int e0x), .val (.int f), .val (.int s0), .val (.int s1), .val (.int s2), .val (.int s3), .val (.ref b81), .val (.ref b100), .val (.ref b160), .val (.ref b222), .val (.ref b271), .val (.ref b309), .val (.int line), .val (.int lo), .val (.int hi), .unset, .unset, .unset, .unset, .unset] [(.long (own_t (fun q => ([l0, l1, l2, l3, l4, l5, l6, l7].getD q.toNatClampNeg (0 : Int64)) * ([c0, c1, c2, c3].getD ([p0, p1, p2, p3, p4, p5, p6, p7].getD q.toNatClampNeg (0 : Int32)).toNatClampNeg (0 : Int64))) lo hi (0 : Int32)))]) := fun t kt => S355 t (st359 t kt)
  clear S355 st359 X346 e346
  obtain ⟨t0, q_t0⟩ : ∃ z : Int64, z = (own_t (fun q => ([l0, l1, l2, l3, l4, l5, l6, l7].getD q.toNatClampNeg (0 : Int64)) * ([c0, c1, c2, c3].getD ([p0, p1, p2, p3, p4, p5, p6, p7].getD q.toNatClampNeg (0 : Int32)).toNatClampNeg (0 : Int64))) lo hi (0 : Int32)) := ⟨_, rfl⟩
  have S361 : Go p e below s₁ (entryFrame m #[(.int a), (.long b), (.int d), (.int e0x), (.int f)] maxLocals) T359 (mkF m 446 #[.val (.int a), .val (.long b), .second, .val (.int d), .val (.int e0x), .val (.int f), .val (.int s0), .val (.int s1), .val (.int s2), .val (.int s3), .val (.ref b81), .val (.ref b100), .val (.ref b160), .val (.ref b222), .val (.ref b271), .val (.ref b309), .val (.int line), .val (.int lo), .val (.int hi), .unset, .unset, .unset, .unset, .unset] [(.long t0)]) := by subst q_t0; exact S360
  clear S360
  have S362 : Go p e below s₁ (entryFrame m #[(.int a), (.long b), (.int d), (.int e0x), (.int f)] maxLocals) T359 (mkF m 457 #[.val (.int a), .val (.long b), .second, .val (.int d), .val (.int e0x), .val (.int f), .val (.int s0), .val (.int s1), .val (.int s2), .val (.int s3), .val (.ref b81), .val (.ref b100), .val (.ref b160), .val (.ref b222), .val (.ref b271), .val (.ref b309), .val (.int line), .val (.int lo), .val (.int hi), .unset, .unset, .unset, .unset, .unset] [(.int (1 : Int32)), (.int hi), (.int lo), (.ref b271), (.ref b222), (.ref b100), (.long t0)]) := fun t kt => S361 t (by
    refine XS.aload X359.here hx rfl (hb hby at_446) rfl rfl ?_
    show Steps p.tables e below (T359.setTop (mkF m 448 #[.val (.int a), .val (.long b), .second, .val (.int d), .val (.int e0x), .val (.int f), .val (.int s0), .val (.int s1), .val (.int s2), .val (.int s3), .val (.ref b81), .val (.ref b100), .val (.ref b160), .val (.ref b222), .val (.ref b271), .val (.ref b309), .val (.int line), .val (.int lo), .val (.int hi), .unset, .unset, .unset, .unset, .unset] [(.ref b100), (.long t0)])) _
    refine XS.aload X359.here hx rfl (hb hby at_448) rfl rfl ?_
    show Steps p.tables e below (T359.setTop (mkF m 450 #[.val (.int a), .val (.long b), .second, .val (.int d), .val (.int e0x), .val (.int f), .val (.int s0), .val (.int s1), .val (.int s2), .val (.int s3), .val (.ref b81), .val (.ref b100), .val (.ref b160), .val (.ref b222), .val (.ref b271), .val (.ref b309), .val (.int line), .val (.int lo), .val (.int hi), .unset, .unset, .unset, .unset, .unset] [(.ref b222), (.ref b100), (.long t0)])) _
    refine XS.aload X359.here hx rfl (hb hby at_450) rfl rfl ?_
    show Steps p.tables e below (T359.setTop (mkF m 452 #[.val (.int a), .val (.long b), .second, .val (.int d), .val (.int e0x), .val (.int f), .val (.int s0), .val (.int s1), .val (.int s2), .val (.int s3), .val (.ref b81), .val (.ref b100), .val (.ref b160), .val (.ref b222), .val (.ref b271), .val (.ref b309), .val (.int line), .val (.int lo), .val (.int hi), .unset, .unset, .unset, .unset, .unset] [(.ref b271), (.ref b222), (.ref b100), (.long t0)])) _
    refine XS.iload X359.here hx rfl (hb hby at_452) rfl ?_
    show Steps p.tables e below (T359.setTop (mkF m 454 #[.val (.int a), .val (.long b), .second, .val (.int d), .val (.int e0x), .val (.int f), .val (.int s0), .val (.int s1), .val (.int s2), .val (.int s3), .val (.ref b81), .val (.ref b100), .val (.ref b160), .val (.ref b222), .val (.ref b271), .val (.ref b309), .val (.int line), .val (.int lo), .val (.int hi), .unset, .unset, .unset, .unset, .unset] [(.int lo), (.ref b271), (.ref b222), (.ref b100), (.long t0)])) _
    refine XS.iload X359.here hx rfl (hb hby at_454) rfl ?_
    show Steps p.tables e below (T359.setTop (mkF m 456 #[.val (.int a), .val (.long b), .second, .val (.int d), .val (.int e0x), .val (.int f), .val (.int s0), .val (.int s1), .val (.int s2), .val (.int s3), .val (.ref b81), .val (.ref b100), .val (.ref b160), .val (.ref b222), .val (.ref b271), .val (.ref b309), .val (.int line), .val (.int lo), .val (.int hi), .unset, .unset, .unset, .unset, .unset] [(.int hi), (.int lo), (.ref b271), (.ref b222), (.ref b100), (.long t0)])) _
    refine XS.iconst X359.here hx rfl (hb hby at_456) ?_
    show Steps p.tables e below (T359.setTop (mkF m 457 #[.val (.int a), .val (.long b), .second, .val (.int d), .val (.int e0x), .val (.int f), .val (.int s0), .val (.int s1), .val (.int s2), .val (.int s3), .val (.ref b81), .val (.ref b100), .val (.ref b160), .val (.ref b222), .val (.ref b271), .val (.ref b309), .val (.int line), .val (.int lo), .val (.int hi), .unset, .unset, .unset, .unset, .unset] [(.int (1 : Int32)), (.int hi), (.int lo), (.ref b271), (.ref b222), (.ref b100), (.long t0)])) _
    exact kt)
  clear S361
  obtain ⟨v363, T363, L363, X363, hQ363, st363⟩ := own_outS (Jvm.LawKit.callS X359 hx (y := (⟨"com/example/blindroute/blindroute/lp/SparseLinesDotPinLaw", "term", "([J[I[JIII)J"⟩ : MethodName)) hown (mvT hZ (hw _ (List.mem_of_getElem? (i := 8) rfl))) (mvT hZ (hw _ (List.mem_of_getElem? (i := 9) rfl))) (mvT hZ (hw _ (List.mem_of_getElem? (i := 4) rfl))) (mvT hZ (hw _ (List.mem_of_getElem? (i := 10) rfl))) (by decide) (backOf (W := 2) (rm_term l Z a0 hw [] b100 b222 b271 lo hi (1 : Int32) [l0, l1, l2, l3, l4, l5, l6, l7] [p0, p1, p2, p3, p4, p5, p6, p7] [c0, c1, c2, c3] k100 k222 k271 h346 n0 (Nat.le_trans (Nat.le_trans (Nat.le_trans (Nat.le_trans (Nat.le_trans (Nat.le_trans (Nat.le_trans (Nat.le_trans (Nat.le_trans (Nat.le_trans (Nat.le_trans (Nat.le_trans (Nat.le_trans (Nat.le_trans (Nat.le_trans (Nat.le_trans (Nat.le_trans (Nat.le_trans (Nat.le_trans (Nat.le_trans (Nat.le_trans (Nat.le_trans (Nat.le_trans (Nat.le_trans (Nat.le_trans (Nat.le_trans (Nat.le_trans (Nat.le_trans (Nat.le_trans (Nat.le_trans (Nat.le_trans (Nat.le_trans (Nat.le_trans (Nat.le_trans (Nat.le_trans (Nat.le_trans (Nat.le_trans (Nat.le_trans (Nat.le_trans (Nat.le_trans (Nat.le_trans (Nat.le_trans Z0 E81.1) (Keep.of_wr W85).1) (Keep.of_wr W89).1) (Keep.of_wr W93).1) (Keep.of_wr W97).1) E100.1) (Keep.of_wr W108).1) (Keep.of_wr W115).1) (Keep.of_wr W122).1) (Keep.of_wr W129).1) (Keep.of_wr W136).1) (Keep.of_wr W143).1) (Keep.of_wr W150).1) (Keep.of_wr W157).1) E160.1) (Keep.of_wr W170).1) (Keep.of_wr W177).1) (Keep.of_wr W184).1) (Keep.of_wr W191).1) (Keep.of_wr W198).1) (Keep.of_wr W205).1) (Keep.of_wr W212).1) (Keep.of_wr W219).1) E222.1) (Keep.of_wr W233).1) (Keep.of_wr W238).1) (Keep.of_wr W243).1) (Keep.of_wr W248).1) (Keep.of_wr W253).1) (Keep.of_wr W258).1) (Keep.of_wr W263).1) (Keep.of_wr W268).1) E271.1) (Keep.of_wr W285).1) (Keep.of_wr W292).1) (Keep.of_wr W299).1) (Keep.of_wr W306).1) E309.1) (Keep.of_wr W325).1) (Keep.of_wr W332).1) (Keep.of_wr W339).1) (Keep.of_wr W346).1) f356 rfl f357 rfl f358 rfl hps (by decide)) hZ (hw _ (List.mem_of_getElem? (i := 10) rfl)) (hw _ (List.mem_of_getElem? (i := 4) rfl)) (by decide) (by decide)) (g := (mkF m 457 #[.val (.int a), .val (.long b), .second, .val (.int d), .val (.int e0x), .val (.int f), .val (.int s0), .val (.int s1), .val (.int s2), .val (.int s3), .val (.ref b81), .val (.ref b100), .val (.ref b160), .val (.ref b222), .val (.ref b271), .val (.ref b309), .val (.int line), .val (.int lo), .val (.int hi), .unset, .unset, .unset, .unset, .unset] [(.int (1 : Int32)), (.int hi), (.int lo), (.ref b271), (.ref b222), (.ref b100), (.long t0)])) rfl (by rw [hml]; rfl) (argsL := [(.ref b100), (.ref b222), (.ref b271), (.int lo), (.int hi), (.int (1 : Int32))]) (rest := [(.long t0)]) (lenOf pd___J_I_JIII_J rfl) rfl (by show 2 * 0 + _ ≤ _; exact Nat.le_of_eq rfl) (hb hby at_457) (fun _ _ => ⟨rfl, e359, (by decide : 6 + 0 ≤ _), (by decide : 36 + 0 ≤ _)⟩))
  obtain ⟨rfl, N363q, e363⟩ := hQ363
  have N363 := Fr.app N359 N363q
  have S364 : Go p e below s₁ (entryFrame m #[(.int a), (.long b), (.int d), (.int e0x), (.int f)] maxLocals) T363 (mkF m 460 #[.val (.int a), .val (.long b), .second, .val (.int d), .val (.int e0x), .val (.int f), .val (.int s0), .val (.int s1), .val (.int s2), .val (.int s3), .val (.ref b81), .val (.ref b100), .val (.ref b160), .val (.ref b222), .val (.ref b271), .val (.ref b309), .val (.int line), .val (.int lo), .val (.int hi), .unset, .unset, .unset, .unset, .unset] [(.long (own_t (fun q => ([l0, l1, l2, l3, l4, l5, l6, l7].getD q.toNatClampNeg (0 : Int64)) * ([c0, c1, c2, c3].getD ([p0, p1, p2, p3, p4, p5, p6, p7].getD q.toNatClampNeg (0 : Int32)).toNatClampNeg (0 : Int64))) lo hi (1 : Int32))), (.long t0)]) := fun t kt => S362 t (st363 t kt)
  clear S362 st363 X359 e359
  obtain ⟨t1, q_t1⟩ : ∃ z : Int64, z = (own_t (fun q => ([l0, l1, l2, l3, l4, l5, l6, l7].getD q.toNatClampNeg (0 : Int64)) * ([c0, c1, c2, c3].getD ([p0, p1, p2, p3, p4, p5, p6, p7].getD q.toNatClampNeg (0 : Int32)).toNatClampNeg (0 : Int64))) lo hi (1 : Int32)) := ⟨_, rfl⟩
  have S365 : Go p e below s₁ (entryFrame m #[(.int a), (.long b), (.int d), (.int e0x), (.int f)] maxLocals) T363 (mkF m 460 #[.val (.int a), .val (.long b), .second, .val (.int d), .val (.int e0x), .val (.int f), .val (.int s0), .val (.int s1), .val (.int s2), .val (.int s3), .val (.ref b81), .val (.ref b100), .val (.ref b160), .val (.ref b222), .val (.ref b271), .val (.ref b309), .val (.int line), .val (.int lo), .val (.int hi), .unset, .unset, .unset, .unset, .unset] [(.long t1), (.long t0)]) := by subst q_t1; exact S364
  clear S364
  have S366 : Go p e below s₁ (entryFrame m #[(.int a), (.long b), (.int d), (.int e0x), (.int f)] maxLocals) T363 (mkF m 472 #[.val (.int a), .val (.long b), .second, .val (.int d), .val (.int e0x), .val (.int f), .val (.int s0), .val (.int s1), .val (.int s2), .val (.int s3), .val (.ref b81), .val (.ref b100), .val (.ref b160), .val (.ref b222), .val (.ref b271), .val (.ref b309), .val (.int line), .val (.int lo), .val (.int hi), .unset, .unset, .unset, .unset, .unset] [(.int (2 : Int32)), (.int hi), (.int lo), (.ref b271), (.ref b222), (.ref b100), (.long (t0 + t1))]) := fun t kt => S365 t (by
    refine XS.ladd X363.here hx rfl (hb hby at_460) rfl ?_
    show Steps p.tables e below (T363.setTop (mkF m 461 #[.val (.int a), .val (.long b), .second, .val (.int d), .val (.int e0x), .val (.int f), .val (.int s0), .val (.int s1), .val (.int s2), .val (.int s3), .val (.ref b81), .val (.ref b100), .val (.ref b160), .val (.ref b222), .val (.ref b271), .val (.ref b309), .val (.int line), .val (.int lo), .val (.int hi), .unset, .unset, .unset, .unset, .unset] [(.long (t0 + t1))])) _
    refine XS.aload X363.here hx rfl (hb hby at_461) rfl rfl ?_
    show Steps p.tables e below (T363.setTop (mkF m 463 #[.val (.int a), .val (.long b), .second, .val (.int d), .val (.int e0x), .val (.int f), .val (.int s0), .val (.int s1), .val (.int s2), .val (.int s3), .val (.ref b81), .val (.ref b100), .val (.ref b160), .val (.ref b222), .val (.ref b271), .val (.ref b309), .val (.int line), .val (.int lo), .val (.int hi), .unset, .unset, .unset, .unset, .unset] [(.ref b100), (.long (t0 + t1))])) _
    refine XS.aload X363.here hx rfl (hb hby at_463) rfl rfl ?_
    show Steps p.tables e below (T363.setTop (mkF m 465 #[.val (.int a), .val (.long b), .second, .val (.int d), .val (.int e0x), .val (.int f), .val (.int s0), .val (.int s1), .val (.int s2), .val (.int s3), .val (.ref b81), .val (.ref b100), .val (.ref b160), .val (.ref b222), .val (.ref b271), .val (.ref b309), .val (.int line), .val (.int lo), .val (.int hi), .unset, .unset, .unset, .unset, .unset] [(.ref b222), (.ref b100), (.long (t0 + t1))])) _
    refine XS.aload X363.here hx rfl (hb hby at_465) rfl rfl ?_
    show Steps p.tables e below (T363.setTop (mkF m 467 #[.val (.int a), .val (.long b), .second, .val (.int d), .val (.int e0x), .val (.int f), .val (.int s0), .val (.int s1), .val (.int s2), .val (.int s3), .val (.ref b81), .val (.ref b100), .val (.ref b160), .val (.ref b222), .val (.ref b271), .val (.ref b309), .val (.int line), .val (.int lo), .val (.int hi), .unset, .unset, .unset, .unset, .unset] [(.ref b271), (.ref b222), (.ref b100), (.long (t0 + t1))])) _
    refine XS.iload X363.here hx rfl (hb hby at_467) rfl ?_
    show Steps p.tables e below (T363.setTop (mkF m 469 #[.val (.int a), .val (.long b), .second, .val (.int d), .val (.int e0x), .val (.int f), .val (.int s0), .val (.int s1), .val (.int s2), .val (.int s3), .val (.ref b81), .val (.ref b100), .val (.ref b160), .val (.ref b222), .val (.ref b271), .val (.ref b309), .val (.int line), .val (.int lo), .val (.int hi), .unset, .unset, .unset, .unset, .unset] [(.int lo), (.ref b271), (.ref b222), (.ref b100), (.long (t0 + t1))])) _
    refine XS.iload X363.here hx rfl (hb hby at_469) rfl ?_
    show Steps p.tables e below (T363.setTop (mkF m 471 #[.val (.int a), .val (.long b), .second, .val (.int d), .val (.int e0x), .val (.int f), .val (.int s0), .val (.int s1), .val (.int s2), .val (.int s3), .val (.ref b81), .val (.ref b100), .val (.ref b160), .val (.ref b222), .val (.ref b271), .val (.ref b309), .val (.int line), .val (.int lo), .val (.int hi), .unset, .unset, .unset, .unset, .unset] [(.int hi), (.int lo), (.ref b271), (.ref b222), (.ref b100), (.long (t0 + t1))])) _
    refine XS.iconst X363.here hx rfl (hb hby at_471) ?_
    show Steps p.tables e below (T363.setTop (mkF m 472 #[.val (.int a), .val (.long b), .second, .val (.int d), .val (.int e0x), .val (.int f), .val (.int s0), .val (.int s1), .val (.int s2), .val (.int s3), .val (.ref b81), .val (.ref b100), .val (.ref b160), .val (.ref b222), .val (.ref b271), .val (.ref b309), .val (.int line), .val (.int lo), .val (.int hi), .unset, .unset, .unset, .unset, .unset] [(.int (2 : Int32)), (.int hi), (.int lo), (.ref b271), (.ref b222), (.ref b100), (.long (t0 + t1))])) _
    exact kt)
  clear S365
  obtain ⟨v367, T367, L367, X367, hQ367, st367⟩ := own_outS (Jvm.LawKit.callS X363 hx (y := (⟨"com/example/blindroute/blindroute/lp/SparseLinesDotPinLaw", "term", "([J[I[JIII)J"⟩ : MethodName)) hown (mvT hZ (hw _ (List.mem_of_getElem? (i := 8) rfl))) (mvT hZ (hw _ (List.mem_of_getElem? (i := 9) rfl))) (mvT hZ (hw _ (List.mem_of_getElem? (i := 4) rfl))) (mvT hZ (hw _ (List.mem_of_getElem? (i := 10) rfl))) (by decide) (backOf (W := 2) (rm_term l Z a0 hw [] b100 b222 b271 lo hi (2 : Int32) [l0, l1, l2, l3, l4, l5, l6, l7] [p0, p1, p2, p3, p4, p5, p6, p7] [c0, c1, c2, c3] k100 k222 k271 h346 n0 (Nat.le_trans (Nat.le_trans (Nat.le_trans (Nat.le_trans (Nat.le_trans (Nat.le_trans (Nat.le_trans (Nat.le_trans (Nat.le_trans (Nat.le_trans (Nat.le_trans (Nat.le_trans (Nat.le_trans (Nat.le_trans (Nat.le_trans (Nat.le_trans (Nat.le_trans (Nat.le_trans (Nat.le_trans (Nat.le_trans (Nat.le_trans (Nat.le_trans (Nat.le_trans (Nat.le_trans (Nat.le_trans (Nat.le_trans (Nat.le_trans (Nat.le_trans (Nat.le_trans (Nat.le_trans (Nat.le_trans (Nat.le_trans (Nat.le_trans (Nat.le_trans (Nat.le_trans (Nat.le_trans (Nat.le_trans (Nat.le_trans (Nat.le_trans (Nat.le_trans (Nat.le_trans (Nat.le_trans Z0 E81.1) (Keep.of_wr W85).1) (Keep.of_wr W89).1) (Keep.of_wr W93).1) (Keep.of_wr W97).1) E100.1) (Keep.of_wr W108).1) (Keep.of_wr W115).1) (Keep.of_wr W122).1) (Keep.of_wr W129).1) (Keep.of_wr W136).1) (Keep.of_wr W143).1) (Keep.of_wr W150).1) (Keep.of_wr W157).1) E160.1) (Keep.of_wr W170).1) (Keep.of_wr W177).1) (Keep.of_wr W184).1) (Keep.of_wr W191).1) (Keep.of_wr W198).1) (Keep.of_wr W205).1) (Keep.of_wr W212).1) (Keep.of_wr W219).1) E222.1) (Keep.of_wr W233).1) (Keep.of_wr W238).1) (Keep.of_wr W243).1) (Keep.of_wr W248).1) (Keep.of_wr W253).1) (Keep.of_wr W258).1) (Keep.of_wr W263).1) (Keep.of_wr W268).1) E271.1) (Keep.of_wr W285).1) (Keep.of_wr W292).1) (Keep.of_wr W299).1) (Keep.of_wr W306).1) E309.1) (Keep.of_wr W325).1) (Keep.of_wr W332).1) (Keep.of_wr W339).1) (Keep.of_wr W346).1) f356 rfl f357 rfl f358 rfl hps (by decide)) hZ (hw _ (List.mem_of_getElem? (i := 10) rfl)) (hw _ (List.mem_of_getElem? (i := 4) rfl)) (by decide) (by decide)) (g := (mkF m 472 #[.val (.int a), .val (.long b), .second, .val (.int d), .val (.int e0x), .val (.int f), .val (.int s0), .val (.int s1), .val (.int s2), .val (.int s3), .val (.ref b81), .val (.ref b100), .val (.ref b160), .val (.ref b222), .val (.ref b271), .val (.ref b309), .val (.int line), .val (.int lo), .val (.int hi), .unset, .unset, .unset, .unset, .unset] [(.int (2 : Int32)), (.int hi), (.int lo), (.ref b271), (.ref b222), (.ref b100), (.long (t0 + t1))])) rfl (by rw [hml]; rfl) (argsL := [(.ref b100), (.ref b222), (.ref b271), (.int lo), (.int hi), (.int (2 : Int32))]) (rest := [(.long (t0 + t1))]) (lenOf pd___J_I_JIII_J rfl) rfl (by show 2 * 0 + _ ≤ _; exact Nat.le_of_eq rfl) (hb hby at_472) (fun _ _ => ⟨rfl, e363, (by decide : 6 + 0 ≤ _), (by decide : 36 + 0 ≤ _)⟩))
  obtain ⟨rfl, N367q, e367⟩ := hQ367
  have N367 := Fr.app N363 N367q
  have S368 : Go p e below s₁ (entryFrame m #[(.int a), (.long b), (.int d), (.int e0x), (.int f)] maxLocals) T367 (mkF m 475 #[.val (.int a), .val (.long b), .second, .val (.int d), .val (.int e0x), .val (.int f), .val (.int s0), .val (.int s1), .val (.int s2), .val (.int s3), .val (.ref b81), .val (.ref b100), .val (.ref b160), .val (.ref b222), .val (.ref b271), .val (.ref b309), .val (.int line), .val (.int lo), .val (.int hi), .unset, .unset, .unset, .unset, .unset] [(.long (own_t (fun q => ([l0, l1, l2, l3, l4, l5, l6, l7].getD q.toNatClampNeg (0 : Int64)) * ([c0, c1, c2, c3].getD ([p0, p1, p2, p3, p4, p5, p6, p7].getD q.toNatClampNeg (0 : Int32)).toNatClampNeg (0 : Int64))) lo hi (2 : Int32))), (.long (t0 + t1))]) := fun t kt => S366 t (st367 t kt)
  clear S366 st367 X363 e363
  obtain ⟨t2, q_t2⟩ : ∃ z : Int64, z = (own_t (fun q => ([l0, l1, l2, l3, l4, l5, l6, l7].getD q.toNatClampNeg (0 : Int64)) * ([c0, c1, c2, c3].getD ([p0, p1, p2, p3, p4, p5, p6, p7].getD q.toNatClampNeg (0 : Int32)).toNatClampNeg (0 : Int64))) lo hi (2 : Int32)) := ⟨_, rfl⟩
  have S369 : Go p e below s₁ (entryFrame m #[(.int a), (.long b), (.int d), (.int e0x), (.int f)] maxLocals) T367 (mkF m 475 #[.val (.int a), .val (.long b), .second, .val (.int d), .val (.int e0x), .val (.int f), .val (.int s0), .val (.int s1), .val (.int s2), .val (.int s3), .val (.ref b81), .val (.ref b100), .val (.ref b160), .val (.ref b222), .val (.ref b271), .val (.ref b309), .val (.int line), .val (.int lo), .val (.int hi), .unset, .unset, .unset, .unset, .unset] [(.long t2), (.long (t0 + t1))]) := by subst q_t2; exact S368
  clear S368
  have S370 : Go p e below s₁ (entryFrame m #[(.int a), (.long b), (.int d), (.int e0x), (.int f)] maxLocals) T367 (mkF m 487 #[.val (.int a), .val (.long b), .second, .val (.int d), .val (.int e0x), .val (.int f), .val (.int s0), .val (.int s1), .val (.int s2), .val (.int s3), .val (.ref b81), .val (.ref b100), .val (.ref b160), .val (.ref b222), .val (.ref b271), .val (.ref b309), .val (.int line), .val (.int lo), .val (.int hi), .unset, .unset, .unset, .unset, .unset] [(.int (3 : Int32)), (.int hi), (.int lo), (.ref b271), (.ref b222), (.ref b100), (.long ((t0 + t1) + t2))]) := fun t kt => S369 t (by
    refine XS.ladd X367.here hx rfl (hb hby at_475) rfl ?_
    show Steps p.tables e below (T367.setTop (mkF m 476 #[.val (.int a), .val (.long b), .second, .val (.int d), .val (.int e0x), .val (.int f), .val (.int s0), .val (.int s1), .val (.int s2), .val (.int s3), .val (.ref b81), .val (.ref b100), .val (.ref b160), .val (.ref b222), .val (.ref b271), .val (.ref b309), .val (.int line), .val (.int lo), .val (.int hi), .unset, .unset, .unset, .unset, .unset] [(.long ((t0 + t1) + t2))])) _
    refine XS.aload X367.here hx rfl (hb hby at_476) rfl rfl ?_
    show Steps p.tables e below (T367.setTop (mkF m 478 #[.val (.int a), .val (.long b), .second, .val (.int d), .val (.int e0x), .val (.int f), .val (.int s0), .val (.int s1), .val (.int s2), .val (.int s3), .val (.ref b81), .val (.ref b100), .val (.ref b160), .val (.ref b222), .val (.ref b271), .val (.ref b309), .val (.int line), .val (.int lo), .val (.int hi), .unset, .unset, .unset, .unset, .unset] [(.ref b100), (.long ((t0 + t1) + t2))])) _
    refine XS.aload X367.here hx rfl (hb hby at_478) rfl rfl ?_
    show Steps p.tables e below (T367.setTop (mkF m 480 #[.val (.int a), .val (.long b), .second, .val (.int d), .val (.int e0x), .val (.int f), .val (.int s0), .val (.int s1), .val (.int s2), .val (.int s3), .val (.ref b81), .val (.ref b100), .val (.ref b160), .val (.ref b222), .val (.ref b271), .val (.ref b309), .val (.int line), .val (.int lo), .val (.int hi), .unset, .unset, .unset, .unset, .unset] [(.ref b222), (.ref b100), (.long ((t0 + t1) + t2))])) _
    refine XS.aload X367.here hx rfl (hb hby at_480) rfl rfl ?_
    show Steps p.tables e below (T367.setTop (mkF m 482 #[.val (.int a), .val (.long b), .second, .val (.int d), .val (.int e0x), .val (.int f), .val (.int s0), .val (.int s1), .val (.int s2), .val (.int s3), .val (.ref b81), .val (.ref b100), .val (.ref b160), .val (.ref b222), .val (.ref b271), .val (.ref b309), .val (.int line), .val (.int lo), .val (.int hi), .unset, .unset, .unset, .unset, .unset] [(.ref b271), (.ref b222), (.ref b100), (.long ((t0 + t1) + t2))])) _
    refine XS.iload X367.here hx rfl (hb hby at_482) rfl ?_
    show Steps p.tables e below (T367.setTop (mkF m 484 #[.val (.int a), .val (.long b), .second, .val (.int d), .val (.int e0x), .val (.int f), .val (.int s0), .val (.int s1), .val (.int s2), .val (.int s3), .val (.ref b81), .val (.ref b100), .val (.ref b160), .val (.ref b222), .val (.ref b271), .val (.ref b309), .val (.int line), .val (.int lo), .val (.int hi), .unset, .unset, .unset, .unset, .unset] [(.int lo), (.ref b271), (.ref b222), (.ref b100), (.long ((t0 + t1) + t2))])) _
    refine XS.iload X367.here hx rfl (hb hby at_484) rfl ?_
    show Steps p.tables e below (T367.setTop (mkF m 486 #[.val (.int a), .val (.long b), .second, .val (.int d), .val (.int e0x), .val (.int f), .val (.int s0), .val (.int s1), .val (.int s2), .val (.int s3), .val (.ref b81), .val (.ref b100), .val (.ref b160), .val (.ref b222), .val (.ref b271), .val (.ref b309), .val (.int line), .val (.int lo), .val (.int hi), .unset, .unset, .unset, .unset, .unset] [(.int hi), (.int lo), (.ref b271), (.ref b222), (.ref b100), (.long ((t0 + t1) + t2))])) _
    refine XS.iconst X367.here hx rfl (hb hby at_486) ?_
    show Steps p.tables e below (T367.setTop (mkF m 487 #[.val (.int a), .val (.long b), .second, .val (.int d), .val (.int e0x), .val (.int f), .val (.int s0), .val (.int s1), .val (.int s2), .val (.int s3), .val (.ref b81), .val (.ref b100), .val (.ref b160), .val (.ref b222), .val (.ref b271), .val (.ref b309), .val (.int line), .val (.int lo), .val (.int hi), .unset, .unset, .unset, .unset, .unset] [(.int (3 : Int32)), (.int hi), (.int lo), (.ref b271), (.ref b222), (.ref b100), (.long ((t0 + t1) + t2))])) _
    exact kt)
  clear S369
  obtain ⟨v371, T371, L371, X371, hQ371, st371⟩ := own_outS (Jvm.LawKit.callS X367 hx (y := (⟨"com/example/blindroute/blindroute/lp/SparseLinesDotPinLaw", "term", "([J[I[JIII)J"⟩ : MethodName)) hown (mvT hZ (hw _ (List.mem_of_getElem? (i := 8) rfl))) (mvT hZ (hw _ (List.mem_of_getElem? (i := 9) rfl))) (mvT hZ (hw _ (List.mem_of_getElem? (i := 4) rfl))) (mvT hZ (hw _ (List.mem_of_getElem? (i := 10) rfl))) (by decide) (backOf (W := 2) (rm_term l Z a0 hw [] b100 b222 b271 lo hi (3 : Int32) [l0, l1, l2, l3, l4, l5, l6, l7] [p0, p1, p2, p3, p4, p5, p6, p7] [c0, c1, c2, c3] k100 k222 k271 h346 n0 (Nat.le_trans (Nat.le_trans (Nat.le_trans (Nat.le_trans (Nat.le_trans (Nat.le_trans (Nat.le_trans (Nat.le_trans (Nat.le_trans (Nat.le_trans (Nat.le_trans (Nat.le_trans (Nat.le_trans (Nat.le_trans (Nat.le_trans (Nat.le_trans (Nat.le_trans (Nat.le_trans (Nat.le_trans (Nat.le_trans (Nat.le_trans (Nat.le_trans (Nat.le_trans (Nat.le_trans (Nat.le_trans (Nat.le_trans (Nat.le_trans (Nat.le_trans (Nat.le_trans (Nat.le_trans (Nat.le_trans (Nat.le_trans (Nat.le_trans (Nat.le_trans (Nat.le_trans (Nat.le_trans (Nat.le_trans (Nat.le_trans (Nat.le_trans (Nat.le_trans (Nat.le_trans (Nat.le_trans Z0 E81.1) (Keep.of_wr W85).1) (Keep.of_wr W89).1) (Keep.of_wr W93).1) (Keep.of_wr W97).1) E100.1) (Keep.of_wr W108).1) (Keep.of_wr W115).1) (Keep.of_wr W122).1) (Keep.of_wr W129).1) (Keep.of_wr W136).1) (Keep.of_wr W143).1) (Keep.of_wr W150).1) (Keep.of_wr W157).1) E160.1) (Keep.of_wr W170).1) (Keep.of_wr W177).1) (Keep.of_wr W184).1) (Keep.of_wr W191).1) (Keep.of_wr W198).1) (Keep.of_wr W205).1) (Keep.of_wr W212).1) (Keep.of_wr W219).1) E222.1) (Keep.of_wr W233).1) (Keep.of_wr W238).1) (Keep.of_wr W243).1) (Keep.of_wr W248).1) (Keep.of_wr W253).1) (Keep.of_wr W258).1) (Keep.of_wr W263).1) (Keep.of_wr W268).1) E271.1) (Keep.of_wr W285).1) (Keep.of_wr W292).1) (Keep.of_wr W299).1) (Keep.of_wr W306).1) E309.1) (Keep.of_wr W325).1) (Keep.of_wr W332).1) (Keep.of_wr W339).1) (Keep.of_wr W346).1) f356 rfl f357 rfl f358 rfl hps (by decide)) hZ (hw _ (List.mem_of_getElem? (i := 10) rfl)) (hw _ (List.mem_of_getElem? (i := 4) rfl)) (by decide) (by decide)) (g := (mkF m 487 #[.val (.int a), .val (.long b), .second, .val (.int d), .val (.int e0x), .val (.int f), .val (.int s0), .val (.int s1), .val (.int s2), .val (.int s3), .val (.ref b81), .val (.ref b100), .val (.ref b160), .val (.ref b222), .val (.ref b271), .val (.ref b309), .val (.int line), .val (.int lo), .val (.int hi), .unset, .unset, .unset, .unset, .unset] [(.int (3 : Int32)), (.int hi), (.int lo), (.ref b271), (.ref b222), (.ref b100), (.long ((t0 + t1) + t2))])) rfl (by rw [hml]; rfl) (argsL := [(.ref b100), (.ref b222), (.ref b271), (.int lo), (.int hi), (.int (3 : Int32))]) (rest := [(.long ((t0 + t1) + t2))]) (lenOf pd___J_I_JIII_J rfl) rfl (by show 2 * 0 + _ ≤ _; exact Nat.le_of_eq rfl) (hb hby at_487) (fun _ _ => ⟨rfl, e367, (by decide : 6 + 0 ≤ _), (by decide : 36 + 0 ≤ _)⟩))
  obtain ⟨rfl, N371q, e371⟩ := hQ371
  have N371 := Fr.app N367 N371q
  have S372 : Go p e below s₁ (entryFrame m #[(.int a), (.long b), (.int d), (.int e0x), (.int f)] maxLocals) T371 (mkF m 490 #[.val (.int a), .val (.long b), .second, .val (.int d), .val (.int e0x), .val (.int f), .val (.int s0), .val (.int s1), .val (.int s2), .val (.int s3), .val (.ref b81), .val (.ref b100), .val (.ref b160), .val (.ref b222), .val (.ref b271), .val (.ref b309), .val (.int line), .val (.int lo), .val (.int hi), .unset, .unset, .unset, .unset, .unset] [(.long (own_t (fun q => ([l0, l1, l2, l3, l4, l5, l6, l7].getD q.toNatClampNeg (0 : Int64)) * ([c0, c1, c2, c3].getD ([p0, p1, p2, p3, p4, p5, p6, p7].getD q.toNatClampNeg (0 : Int32)).toNatClampNeg (0 : Int64))) lo hi (3 : Int32))), (.long ((t0 + t1) + t2))]) := fun t kt => S370 t (st371 t kt)
  clear S370 st371 X367 e367
  obtain ⟨t3, q_t3⟩ : ∃ z : Int64, z = (own_t (fun q => ([l0, l1, l2, l3, l4, l5, l6, l7].getD q.toNatClampNeg (0 : Int64)) * ([c0, c1, c2, c3].getD ([p0, p1, p2, p3, p4, p5, p6, p7].getD q.toNatClampNeg (0 : Int32)).toNatClampNeg (0 : Int64))) lo hi (3 : Int32)) := ⟨_, rfl⟩
  have S373 : Go p e below s₁ (entryFrame m #[(.int a), (.long b), (.int d), (.int e0x), (.int f)] maxLocals) T371 (mkF m 490 #[.val (.int a), .val (.long b), .second, .val (.int d), .val (.int e0x), .val (.int f), .val (.int s0), .val (.int s1), .val (.int s2), .val (.int s3), .val (.ref b81), .val (.ref b100), .val (.ref b160), .val (.ref b222), .val (.ref b271), .val (.ref b309), .val (.int line), .val (.int lo), .val (.int hi), .unset, .unset, .unset, .unset, .unset] [(.long t3), (.long ((t0 + t1) + t2))]) := by subst q_t3; exact S372
  clear S372
  have S374 : Go p e below s₁ (entryFrame m #[(.int a), (.long b), (.int d), (.int e0x), (.int f)] maxLocals) T371 (mkF m 502 #[.val (.int a), .val (.long b), .second, .val (.int d), .val (.int e0x), .val (.int f), .val (.int s0), .val (.int s1), .val (.int s2), .val (.int s3), .val (.ref b81), .val (.ref b100), .val (.ref b160), .val (.ref b222), .val (.ref b271), .val (.ref b309), .val (.int line), .val (.int lo), .val (.int hi), .unset, .unset, .unset, .unset, .unset] [(.int (4 : Int32)), (.int hi), (.int lo), (.ref b271), (.ref b222), (.ref b100), (.long (((t0 + t1) + t2) + t3))]) := fun t kt => S373 t (by
    refine XS.ladd X371.here hx rfl (hb hby at_490) rfl ?_
    show Steps p.tables e below (T371.setTop (mkF m 491 #[.val (.int a), .val (.long b), .second, .val (.int d), .val (.int e0x), .val (.int f), .val (.int s0), .val (.int s1), .val (.int s2), .val (.int s3), .val (.ref b81), .val (.ref b100), .val (.ref b160), .val (.ref b222), .val (.ref b271), .val (.ref b309), .val (.int line), .val (.int lo), .val (.int hi), .unset, .unset, .unset, .unset, .unset] [(.long (((t0 + t1) + t2) + t3))])) _
    refine XS.aload X371.here hx rfl (hb hby at_491) rfl rfl ?_
    show Steps p.tables e below (T371.setTop (mkF m 493 #[.val (.int a), .val (.long b), .second, .val (.int d), .val (.int e0x), .val (.int f), .val (.int s0), .val (.int s1), .val (.int s2), .val (.int s3), .val (.ref b81), .val (.ref b100), .val (.ref b160), .val (.ref b222), .val (.ref b271), .val (.ref b309), .val (.int line), .val (.int lo), .val (.int hi), .unset, .unset, .unset, .unset, .unset] [(.ref b100), (.long (((t0 + t1) + t2) + t3))])) _
    refine XS.aload X371.here hx rfl (hb hby at_493) rfl rfl ?_
    show Steps p.tables e below (T371.setTop (mkF m 495 #[.val (.int a), .val (.long b), .second, .val (.int d), .val (.int e0x), .val (.int f), .val (.int s0), .val (.int s1), .val (.int s2), .val (.int s3), .val (.ref b81), .val (.ref b100), .val (.ref b160), .val (.ref b222), .val (.ref b271), .val (.ref b309), .val (.int line), .val (.int lo), .val (.int hi), .unset, .unset, .unset, .unset, .unset] [(.ref b222), (.ref b100), (.long (((t0 + t1) + t2) + t3))])) _
    refine XS.aload X371.here hx rfl (hb hby at_495) rfl rfl ?_
    show Steps p.tables e below (T371.setTop (mkF m 497 #[.val (.int a), .val (.long b), .second, .val (.int d), .val (.int e0x), .val (.int f), .val (.int s0), .val (.int s1), .val (.int s2), .val (.int s3), .val (.ref b81), .val (.ref b100), .val (.ref b160), .val (.ref b222), .val (.ref b271), .val (.ref b309), .val (.int line), .val (.int lo), .val (.int hi), .unset, .unset, .unset, .unset, .unset] [(.ref b271), (.ref b222), (.ref b100), (.long (((t0 + t1) + t2) + t3))])) _
    refine XS.iload X371.here hx rfl (hb hby at_497) rfl ?_
    show Steps p.tables e below (T371.setTop (mkF m 499 #[.val (.int a), .val (.long b), .second, .val (.int d), .val (.int e0x), .val (.int f), .val (.int s0), .val (.int s1), .val (.int s2), .val (.int s3), .val (.ref b81), .val (.ref b100), .val (.ref b160), .val (.ref b222), .val (.ref b271), .val (.ref b309), .val (.int line), .val (.int lo), .val (.int hi), .unset, .unset, .unset, .unset, .unset] [(.int lo), (.ref b271), (.ref b222), (.ref b100), (.long (((t0 + t1) + t2) + t3))])) _
    refine XS.iload X371.here hx rfl (hb hby at_499) rfl ?_
    show Steps p.tables e below (T371.setTop (mkF m 501 #[.val (.int a), .val (.long b), .second, .val (.int d), .val (.int e0x), .val (.int f), .val (.int s0), .val (.int s1), .val (.int s2), .val (.int s3), .val (.ref b81), .val (.ref b100), .val (.ref b160), .val (.ref b222), .val (.ref b271), .val (.ref b309), .val (.int line), .val (.int lo), .val (.int hi), .unset, .unset, .unset, .unset, .unset] [(.int hi), (.int lo), (.ref b271), (.ref b222), (.ref b100), (.long (((t0 + t1) + t2) + t3))])) _
    refine XS.iconst X371.here hx rfl (hb hby at_501) ?_
    show Steps p.tables e below (T371.setTop (mkF m 502 #[.val (.int a), .val (.long b), .second, .val (.int d), .val (.int e0x), .val (.int f), .val (.int s0), .val (.int s1), .val (.int s2), .val (.int s3), .val (.ref b81), .val (.ref b100), .val (.ref b160), .val (.ref b222), .val (.ref b271), .val (.ref b309), .val (.int line), .val (.int lo), .val (.int hi), .unset, .unset, .unset, .unset, .unset] [(.int (4 : Int32)), (.int hi), (.int lo), (.ref b271), (.ref b222), (.ref b100), (.long (((t0 + t1) + t2) + t3))])) _
    exact kt)
  clear S373
  obtain ⟨v375, T375, L375, X375, hQ375, st375⟩ := own_outS (Jvm.LawKit.callS X371 hx (y := (⟨"com/example/blindroute/blindroute/lp/SparseLinesDotPinLaw", "term", "([J[I[JIII)J"⟩ : MethodName)) hown (mvT hZ (hw _ (List.mem_of_getElem? (i := 8) rfl))) (mvT hZ (hw _ (List.mem_of_getElem? (i := 9) rfl))) (mvT hZ (hw _ (List.mem_of_getElem? (i := 4) rfl))) (mvT hZ (hw _ (List.mem_of_getElem? (i := 10) rfl))) (by decide) (backOf (W := 2) (rm_term l Z a0 hw [] b100 b222 b271 lo hi (4 : Int32) [l0, l1, l2, l3, l4, l5, l6, l7] [p0, p1, p2, p3, p4, p5, p6, p7] [c0, c1, c2, c3] k100 k222 k271 h346 n0 (Nat.le_trans (Nat.le_trans (Nat.le_trans (Nat.le_trans (Nat.le_trans (Nat.le_trans (Nat.le_trans (Nat.le_trans (Nat.le_trans (Nat.le_trans (Nat.le_trans (Nat.le_trans (Nat.le_trans (Nat.le_trans (Nat.le_trans (Nat.le_trans (Nat.le_trans (Nat.le_trans (Nat.le_trans (Nat.le_trans (Nat.le_trans (Nat.le_trans (Nat.le_trans (Nat.le_trans (Nat.le_trans (Nat.le_trans (Nat.le_trans (Nat.le_trans (Nat.le_trans (Nat.le_trans (Nat.le_trans (Nat.le_trans (Nat.le_trans (Nat.le_trans (Nat.le_trans (Nat.le_trans (Nat.le_trans (Nat.le_trans (Nat.le_trans (Nat.le_trans (Nat.le_trans (Nat.le_trans Z0 E81.1) (Keep.of_wr W85).1) (Keep.of_wr W89).1) (Keep.of_wr W93).1) (Keep.of_wr W97).1) E100.1) (Keep.of_wr W108).1) (Keep.of_wr W115).1) (Keep.of_wr W122).1) (Keep.of_wr W129).1) (Keep.of_wr W136).1) (Keep.of_wr W143).1) (Keep.of_wr W150).1) (Keep.of_wr W157).1) E160.1) (Keep.of_wr W170).1) (Keep.of_wr W177).1) (Keep.of_wr W184).1) (Keep.of_wr W191).1) (Keep.of_wr W198).1) (Keep.of_wr W205).1) (Keep.of_wr W212).1) (Keep.of_wr W219).1) E222.1) (Keep.of_wr W233).1) (Keep.of_wr W238).1) (Keep.of_wr W243).1) (Keep.of_wr W248).1) (Keep.of_wr W253).1) (Keep.of_wr W258).1) (Keep.of_wr W263).1) (Keep.of_wr W268).1) E271.1) (Keep.of_wr W285).1) (Keep.of_wr W292).1) (Keep.of_wr W299).1) (Keep.of_wr W306).1) E309.1) (Keep.of_wr W325).1) (Keep.of_wr W332).1) (Keep.of_wr W339).1) (Keep.of_wr W346).1) f356 rfl f357 rfl f358 rfl hps (by decide)) hZ (hw _ (List.mem_of_getElem? (i := 10) rfl)) (hw _ (List.mem_of_getElem? (i := 4) rfl)) (by decide) (by decide)) (g := (mkF m 502 #[.val (.int a), .val (.long b), .second, .val (.int d), .val (.int e0x), .val (.int f), .val (.int s0), .val (.int s1), .val (.int s2), .val (.int s3), .val (.ref b81), .val (.ref b100), .val (.ref b160), .val (.ref b222), .val (.ref b271), .val (.ref b309), .val (.int line), .val (.int lo), .val (.int hi), .unset, .unset, .unset, .unset, .unset] [(.int (4 : Int32)), (.int hi), (.int lo), (.ref b271), (.ref b222), (.ref b100), (.long (((t0 + t1) + t2) + t3))])) rfl (by rw [hml]; rfl) (argsL := [(.ref b100), (.ref b222), (.ref b271), (.int lo), (.int hi), (.int (4 : Int32))]) (rest := [(.long (((t0 + t1) + t2) + t3))]) (lenOf pd___J_I_JIII_J rfl) rfl (by show 2 * 0 + _ ≤ _; exact Nat.le_of_eq rfl) (hb hby at_502) (fun _ _ => ⟨rfl, e371, (by decide : 6 + 0 ≤ _), (by decide : 36 + 0 ≤ _)⟩))
  obtain ⟨rfl, N375q, e375⟩ := hQ375
  have N375 := Fr.app N371 N375q
  have S376 : Go p e below s₁ (entryFrame m #[(.int a), (.long b), (.int d), (.int e0x), (.int f)] maxLocals) T375 (mkF m 505 #[.val (.int a), .val (.long b), .second, .val (.int d), .val (.int e0x), .val (.int f), .val (.int s0), .val (.int s1), .val (.int s2), .val (.int s3), .val (.ref b81), .val (.ref b100), .val (.ref b160), .val (.ref b222), .val (.ref b271), .val (.ref b309), .val (.int line), .val (.int lo), .val (.int hi), .unset, .unset, .unset, .unset, .unset] [(.long (own_t (fun q => ([l0, l1, l2, l3, l4, l5, l6, l7].getD q.toNatClampNeg (0 : Int64)) * ([c0, c1, c2, c3].getD ([p0, p1, p2, p3, p4, p5, p6, p7].getD q.toNatClampNeg (0 : Int32)).toNatClampNeg (0 : Int64))) lo hi (4 : Int32))), (.long (((t0 + t1) + t2) + t3))]) := fun t kt => S374 t (st375 t kt)
  clear S374 st375 X371 e371
  obtain ⟨t4, q_t4⟩ : ∃ z : Int64, z = (own_t (fun q => ([l0, l1, l2, l3, l4, l5, l6, l7].getD q.toNatClampNeg (0 : Int64)) * ([c0, c1, c2, c3].getD ([p0, p1, p2, p3, p4, p5, p6, p7].getD q.toNatClampNeg (0 : Int32)).toNatClampNeg (0 : Int64))) lo hi (4 : Int32)) := ⟨_, rfl⟩
  have S377 : Go p e below s₁ (entryFrame m #[(.int a), (.long b), (.int d), (.int e0x), (.int f)] maxLocals) T375 (mkF m 505 #[.val (.int a), .val (.long b), .second, .val (.int d), .val (.int e0x), .val (.int f), .val (.int s0), .val (.int s1), .val (.int s2), .val (.int s3), .val (.ref b81), .val (.ref b100), .val (.ref b160), .val (.ref b222), .val (.ref b271), .val (.ref b309), .val (.int line), .val (.int lo), .val (.int hi), .unset, .unset, .unset, .unset, .unset] [(.long t4), (.long (((t0 + t1) + t2) + t3))]) := by subst q_t4; exact S376
  clear S376
  have S378 : Go p e below s₁ (entryFrame m #[(.int a), (.long b), (.int d), (.int e0x), (.int f)] maxLocals) T375 (mkF m 517 #[.val (.int a), .val (.long b), .second, .val (.int d), .val (.int e0x), .val (.int f), .val (.int s0), .val (.int s1), .val (.int s2), .val (.int s3), .val (.ref b81), .val (.ref b100), .val (.ref b160), .val (.ref b222), .val (.ref b271), .val (.ref b309), .val (.int line), .val (.int lo), .val (.int hi), .unset, .unset, .unset, .unset, .unset] [(.int (5 : Int32)), (.int hi), (.int lo), (.ref b271), (.ref b222), (.ref b100), (.long ((((t0 + t1) + t2) + t3) + t4))]) := fun t kt => S377 t (by
    refine XS.ladd X375.here hx rfl (hb hby at_505) rfl ?_
    show Steps p.tables e below (T375.setTop (mkF m 506 #[.val (.int a), .val (.long b), .second, .val (.int d), .val (.int e0x), .val (.int f), .val (.int s0), .val (.int s1), .val (.int s2), .val (.int s3), .val (.ref b81), .val (.ref b100), .val (.ref b160), .val (.ref b222), .val (.ref b271), .val (.ref b309), .val (.int line), .val (.int lo), .val (.int hi), .unset, .unset, .unset, .unset, .unset] [(.long ((((t0 + t1) + t2) + t3) + t4))])) _
    refine XS.aload X375.here hx rfl (hb hby at_506) rfl rfl ?_
    show Steps p.tables e below (T375.setTop (mkF m 508 #[.val (.int a), .val (.long b), .second, .val (.int d), .val (.int e0x), .val (.int f), .val (.int s0), .val (.int s1), .val (.int s2), .val (.int s3), .val (.ref b81), .val (.ref b100), .val (.ref b160), .val (.ref b222), .val (.ref b271), .val (.ref b309), .val (.int line), .val (.int lo), .val (.int hi), .unset, .unset, .unset, .unset, .unset] [(.ref b100), (.long ((((t0 + t1) + t2) + t3) + t4))])) _
    refine XS.aload X375.here hx rfl (hb hby at_508) rfl rfl ?_
    show Steps p.tables e below (T375.setTop (mkF m 510 #[.val (.int a), .val (.long b), .second, .val (.int d), .val (.int e0x), .val (.int f), .val (.int s0), .val (.int s1), .val (.int s2), .val (.int s3), .val (.ref b81), .val (.ref b100), .val (.ref b160), .val (.ref b222), .val (.ref b271), .val (.ref b309), .val (.int line), .val (.int lo), .val (.int hi), .unset, .unset, .unset, .unset, .unset] [(.ref b222), (.ref b100), (.long ((((t0 + t1) + t2) + t3) + t4))])) _
    refine XS.aload X375.here hx rfl (hb hby at_510) rfl rfl ?_
    show Steps p.tables e below (T375.setTop (mkF m 512 #[.val (.int a), .val (.long b), .second, .val (.int d), .val (.int e0x), .val (.int f), .val (.int s0), .val (.int s1), .val (.int s2), .val (.int s3), .val (.ref b81), .val (.ref b100), .val (.ref b160), .val (.ref b222), .val (.ref b271), .val (.ref b309), .val (.int line), .val (.int lo), .val (.int hi), .unset, .unset, .unset, .unset, .unset] [(.ref b271), (.ref b222), (.ref b100), (.long ((((t0 + t1) + t2) + t3) + t4))])) _
    refine XS.iload X375.here hx rfl (hb hby at_512) rfl ?_
    show Steps p.tables e below (T375.setTop (mkF m 514 #[.val (.int a), .val (.long b), .second, .val (.int d), .val (.int e0x), .val (.int f), .val (.int s0), .val (.int s1), .val (.int s2), .val (.int s3), .val (.ref b81), .val (.ref b100), .val (.ref b160), .val (.ref b222), .val (.ref b271), .val (.ref b309), .val (.int line), .val (.int lo), .val (.int hi), .unset, .unset, .unset, .unset, .unset] [(.int lo), (.ref b271), (.ref b222), (.ref b100), (.long ((((t0 + t1) + t2) + t3) + t4))])) _
    refine XS.iload X375.here hx rfl (hb hby at_514) rfl ?_
    show Steps p.tables e below (T375.setTop (mkF m 516 #[.val (.int a), .val (.long b), .second, .val (.int d), .val (.int e0x), .val (.int f), .val (.int s0), .val (.int s1), .val (.int s2), .val (.int s3), .val (.ref b81), .val (.ref b100), .val (.ref b160), .val (.ref b222), .val (.ref b271), .val (.ref b309), .val (.int line), .val (.int lo), .val (.int hi), .unset, .unset, .unset, .unset, .unset] [(.int hi), (.int lo), (.ref b271), (.ref b222), (.ref b100), (.long ((((t0 + t1) + t2) + t3) + t4))])) _
    refine XS.iconst X375.here hx rfl (hb hby at_516) ?_
    show Steps p.tables e below (T375.setTop (mkF m 517 #[.val (.int a), .val (.long b), .second, .val (.int d), .val (.int e0x), .val (.int f), .val (.int s0), .val (.int s1), .val (.int s2), .val (.int s3), .val (.ref b81), .val (.ref b100), .val (.ref b160), .val (.ref b222), .val (.ref b271), .val (.ref b309), .val (.int line), .val (.int lo), .val (.int hi), .unset, .unset, .unset, .unset, .unset] [(.int (5 : Int32)), (.int hi), (.int lo), (.ref b271), (.ref b222), (.ref b100), (.long ((((t0 + t1) + t2) + t3) + t4))])) _
    exact kt)
  clear S377
  obtain ⟨v379, T379, L379, X379, hQ379, st379⟩ := own_outS (Jvm.LawKit.callS X375 hx (y := (⟨"com/example/blindroute/blindroute/lp/SparseLinesDotPinLaw", "term", "([J[I[JIII)J"⟩ : MethodName)) hown (mvT hZ (hw _ (List.mem_of_getElem? (i := 8) rfl))) (mvT hZ (hw _ (List.mem_of_getElem? (i := 9) rfl))) (mvT hZ (hw _ (List.mem_of_getElem? (i := 4) rfl))) (mvT hZ (hw _ (List.mem_of_getElem? (i := 10) rfl))) (by decide) (backOf (W := 2) (rm_term l Z a0 hw [] b100 b222 b271 lo hi (5 : Int32) [l0, l1, l2, l3, l4, l5, l6, l7] [p0, p1, p2, p3, p4, p5, p6, p7] [c0, c1, c2, c3] k100 k222 k271 h346 n0 (Nat.le_trans (Nat.le_trans (Nat.le_trans (Nat.le_trans (Nat.le_trans (Nat.le_trans (Nat.le_trans (Nat.le_trans (Nat.le_trans (Nat.le_trans (Nat.le_trans (Nat.le_trans (Nat.le_trans (Nat.le_trans (Nat.le_trans (Nat.le_trans (Nat.le_trans (Nat.le_trans (Nat.le_trans (Nat.le_trans (Nat.le_trans (Nat.le_trans (Nat.le_trans (Nat.le_trans (Nat.le_trans (Nat.le_trans (Nat.le_trans (Nat.le_trans (Nat.le_trans (Nat.le_trans (Nat.le_trans (Nat.le_trans (Nat.le_trans (Nat.le_trans (Nat.le_trans (Nat.le_trans (Nat.le_trans (Nat.le_trans (Nat.le_trans (Nat.le_trans (Nat.le_trans (Nat.le_trans Z0 E81.1) (Keep.of_wr W85).1) (Keep.of_wr W89).1) (Keep.of_wr W93).1) (Keep.of_wr W97).1) E100.1) (Keep.of_wr W108).1) (Keep.of_wr W115).1) (Keep.of_wr W122).1) (Keep.of_wr W129).1) (Keep.of_wr W136).1) (Keep.of_wr W143).1) (Keep.of_wr W150).1) (Keep.of_wr W157).1) E160.1) (Keep.of_wr W170).1) (Keep.of_wr W177).1) (Keep.of_wr W184).1) (Keep.of_wr W191).1) (Keep.of_wr W198).1) (Keep.of_wr W205).1) (Keep.of_wr W212).1) (Keep.of_wr W219).1) E222.1) (Keep.of_wr W233).1) (Keep.of_wr W238).1) (Keep.of_wr W243).1) (Keep.of_wr W248).1) (Keep.of_wr W253).1) (Keep.of_wr W258).1) (Keep.of_wr W263).1) (Keep.of_wr W268).1) E271.1) (Keep.of_wr W285).1) (Keep.of_wr W292).1) (Keep.of_wr W299).1) (Keep.of_wr W306).1) E309.1) (Keep.of_wr W325).1) (Keep.of_wr W332).1) (Keep.of_wr W339).1) (Keep.of_wr W346).1) f356 rfl f357 rfl f358 rfl hps (by decide)) hZ (hw _ (List.mem_of_getElem? (i := 10) rfl)) (hw _ (List.mem_of_getElem? (i := 4) rfl)) (by decide) (by decide)) (g := (mkF m 517 #[.val (.int a), .val (.long b), .second, .val (.int d), .val (.int e0x), .val (.int f), .val (.int s0), .val (.int s1), .val (.int s2), .val (.int s3), .val (.ref b81), .val (.ref b100), .val (.ref b160), .val (.ref b222), .val (.ref b271), .val (.ref b309), .val (.int line), .val (.int lo), .val (.int hi), .unset, .unset, .unset, .unset, .unset] [(.int (5 : Int32)), (.int hi), (.int lo), (.ref b271), (.ref b222), (.ref b100), (.long ((((t0 + t1) + t2) + t3) + t4))])) rfl (by rw [hml]; rfl) (argsL := [(.ref b100), (.ref b222), (.ref b271), (.int lo), (.int hi), (.int (5 : Int32))]) (rest := [(.long ((((t0 + t1) + t2) + t3) + t4))]) (lenOf pd___J_I_JIII_J rfl) rfl (by show 2 * 0 + _ ≤ _; exact Nat.le_of_eq rfl) (hb hby at_517) (fun _ _ => ⟨rfl, e375, (by decide : 6 + 0 ≤ _), (by decide : 36 + 0 ≤ _)⟩))
  obtain ⟨rfl, N379q, e379⟩ := hQ379
  have N379 := Fr.app N375 N379q
  have S380 : Go p e below s₁ (entryFrame m #[(.int a), (.long b), (.int d), (.int e0x), (.int f)] maxLocals) T379 (mkF m 520 #[.val (.int a), .val (.long b), .second, .val (.int d), .val (.int e0x), .val (.int f), .val (.int s0), .val (.int s1), .val (.int s2), .val (.int s3), .val (.ref b81), .val (.ref b100), .val (.ref b160), .val (.ref b222), .val (.ref b271), .val (.ref b309), .val (.int line), .val (.int lo), .val (.int hi), .unset, .unset, .unset, .unset, .unset] [(.long (own_t (fun q => ([l0, l1, l2, l3, l4, l5, l6, l7].getD q.toNatClampNeg (0 : Int64)) * ([c0, c1, c2, c3].getD ([p0, p1, p2, p3, p4, p5, p6, p7].getD q.toNatClampNeg (0 : Int32)).toNatClampNeg (0 : Int64))) lo hi (5 : Int32))), (.long ((((t0 + t1) + t2) + t3) + t4))]) := fun t kt => S378 t (st379 t kt)
  clear S378 st379 X375 e375
  obtain ⟨t5, q_t5⟩ : ∃ z : Int64, z = (own_t (fun q => ([l0, l1, l2, l3, l4, l5, l6, l7].getD q.toNatClampNeg (0 : Int64)) * ([c0, c1, c2, c3].getD ([p0, p1, p2, p3, p4, p5, p6, p7].getD q.toNatClampNeg (0 : Int32)).toNatClampNeg (0 : Int64))) lo hi (5 : Int32)) := ⟨_, rfl⟩
  have S381 : Go p e below s₁ (entryFrame m #[(.int a), (.long b), (.int d), (.int e0x), (.int f)] maxLocals) T379 (mkF m 520 #[.val (.int a), .val (.long b), .second, .val (.int d), .val (.int e0x), .val (.int f), .val (.int s0), .val (.int s1), .val (.int s2), .val (.int s3), .val (.ref b81), .val (.ref b100), .val (.ref b160), .val (.ref b222), .val (.ref b271), .val (.ref b309), .val (.int line), .val (.int lo), .val (.int hi), .unset, .unset, .unset, .unset, .unset] [(.long t5), (.long ((((t0 + t1) + t2) + t3) + t4))]) := by subst q_t5; exact S380
  clear S380
  have S382 : Go p e below s₁ (entryFrame m #[(.int a), (.long b), (.int d), (.int e0x), (.int f)] maxLocals) T379 (mkF m 533 #[.val (.int a), .val (.long b), .second, .val (.int d), .val (.int e0x), .val (.int f), .val (.int s0), .val (.int s1), .val (.int s2), .val (.int s3), .val (.ref b81), .val (.ref b100), .val (.ref b160), .val (.ref b222), .val (.ref b271), .val (.ref b309), .val (.int line), .val (.int lo), .val (.int hi), .unset, .unset, .unset, .unset, .unset] [(.int (6 : Int32)), (.int hi), (.int lo), (.ref b271), (.ref b222), (.ref b100), (.long (((((t0 + t1) + t2) + t3) + t4) + t5))]) := fun t kt => S381 t (by
    refine XS.ladd X379.here hx rfl (hb hby at_520) rfl ?_
    show Steps p.tables e below (T379.setTop (mkF m 521 #[.val (.int a), .val (.long b), .second, .val (.int d), .val (.int e0x), .val (.int f), .val (.int s0), .val (.int s1), .val (.int s2), .val (.int s3), .val (.ref b81), .val (.ref b100), .val (.ref b160), .val (.ref b222), .val (.ref b271), .val (.ref b309), .val (.int line), .val (.int lo), .val (.int hi), .unset, .unset, .unset, .unset, .unset] [(.long (((((t0 + t1) + t2) + t3) + t4) + t5))])) _
    refine XS.aload X379.here hx rfl (hb hby at_521) rfl rfl ?_
    show Steps p.tables e below (T379.setTop (mkF m 523 #[.val (.int a), .val (.long b), .second, .val (.int d), .val (.int e0x), .val (.int f), .val (.int s0), .val (.int s1), .val (.int s2), .val (.int s3), .val (.ref b81), .val (.ref b100), .val (.ref b160), .val (.ref b222), .val (.ref b271), .val (.ref b309), .val (.int line), .val (.int lo), .val (.int hi), .unset, .unset, .unset, .unset, .unset] [(.ref b100), (.long (((((t0 + t1) + t2) + t3) + t4) + t5))])) _
    refine XS.aload X379.here hx rfl (hb hby at_523) rfl rfl ?_
    show Steps p.tables e below (T379.setTop (mkF m 525 #[.val (.int a), .val (.long b), .second, .val (.int d), .val (.int e0x), .val (.int f), .val (.int s0), .val (.int s1), .val (.int s2), .val (.int s3), .val (.ref b81), .val (.ref b100), .val (.ref b160), .val (.ref b222), .val (.ref b271), .val (.ref b309), .val (.int line), .val (.int lo), .val (.int hi), .unset, .unset, .unset, .unset, .unset] [(.ref b222), (.ref b100), (.long (((((t0 + t1) + t2) + t3) + t4) + t5))])) _
    refine XS.aload X379.here hx rfl (hb hby at_525) rfl rfl ?_
    show Steps p.tables e below (T379.setTop (mkF m 527 #[.val (.int a), .val (.long b), .second, .val (.int d), .val (.int e0x), .val (.int f), .val (.int s0), .val (.int s1), .val (.int s2), .val (.int s3), .val (.ref b81), .val (.ref b100), .val (.ref b160), .val (.ref b222), .val (.ref b271), .val (.ref b309), .val (.int line), .val (.int lo), .val (.int hi), .unset, .unset, .unset, .unset, .unset] [(.ref b271), (.ref b222), (.ref b100), (.long (((((t0 + t1) + t2) + t3) + t4) + t5))])) _
    refine XS.iload X379.here hx rfl (hb hby at_527) rfl ?_
    show Steps p.tables e below (T379.setTop (mkF m 529 #[.val (.int a), .val (.long b), .second, .val (.int d), .val (.int e0x), .val (.int f), .val (.int s0), .val (.int s1), .val (.int s2), .val (.int s3), .val (.ref b81), .val (.ref b100), .val (.ref b160), .val (.ref b222), .val (.ref b271), .val (.ref b309), .val (.int line), .val (.int lo), .val (.int hi), .unset, .unset, .unset, .unset, .unset] [(.int lo), (.ref b271), (.ref b222), (.ref b100), (.long (((((t0 + t1) + t2) + t3) + t4) + t5))])) _
    refine XS.iload X379.here hx rfl (hb hby at_529) rfl ?_
    show Steps p.tables e below (T379.setTop (mkF m 531 #[.val (.int a), .val (.long b), .second, .val (.int d), .val (.int e0x), .val (.int f), .val (.int s0), .val (.int s1), .val (.int s2), .val (.int s3), .val (.ref b81), .val (.ref b100), .val (.ref b160), .val (.ref b222), .val (.ref b271), .val (.ref b309), .val (.int line), .val (.int lo), .val (.int hi), .unset, .unset, .unset, .unset, .unset] [(.int hi), (.int lo), (.ref b271), (.ref b222), (.ref b100), (.long (((((t0 + t1) + t2) + t3) + t4) + t5))])) _
    refine XS.bipush X379.here hx rfl (hb hby at_531) ?_
    show Steps p.tables e below (T379.setTop (mkF m 533 #[.val (.int a), .val (.long b), .second, .val (.int d), .val (.int e0x), .val (.int f), .val (.int s0), .val (.int s1), .val (.int s2), .val (.int s3), .val (.ref b81), .val (.ref b100), .val (.ref b160), .val (.ref b222), .val (.ref b271), .val (.ref b309), .val (.int line), .val (.int lo), .val (.int hi), .unset, .unset, .unset, .unset, .unset] [(.int (6 : Int32)), (.int hi), (.int lo), (.ref b271), (.ref b222), (.ref b100), (.long (((((t0 + t1) + t2) + t3) + t4) + t5))])) _
    exact kt)
  clear S381
  obtain ⟨v383, T383, L383, X383, hQ383, st383⟩ := own_outS (Jvm.LawKit.callS X379 hx (y := (⟨"com/example/blindroute/blindroute/lp/SparseLinesDotPinLaw", "term", "([J[I[JIII)J"⟩ : MethodName)) hown (mvT hZ (hw _ (List.mem_of_getElem? (i := 8) rfl))) (mvT hZ (hw _ (List.mem_of_getElem? (i := 9) rfl))) (mvT hZ (hw _ (List.mem_of_getElem? (i := 4) rfl))) (mvT hZ (hw _ (List.mem_of_getElem? (i := 10) rfl))) (by decide) (backOf (W := 2) (rm_term l Z a0 hw [] b100 b222 b271 lo hi (6 : Int32) [l0, l1, l2, l3, l4, l5, l6, l7] [p0, p1, p2, p3, p4, p5, p6, p7] [c0, c1, c2, c3] k100 k222 k271 h346 n0 (Nat.le_trans (Nat.le_trans (Nat.le_trans (Nat.le_trans (Nat.le_trans (Nat.le_trans (Nat.le_trans (Nat.le_trans (Nat.le_trans (Nat.le_trans (Nat.le_trans (Nat.le_trans (Nat.le_trans (Nat.le_trans (Nat.le_trans (Nat.le_trans (Nat.le_trans (Nat.le_trans (Nat.le_trans (Nat.le_trans (Nat.le_trans (Nat.le_trans (Nat.le_trans (Nat.le_trans (Nat.le_trans (Nat.le_trans (Nat.le_trans (Nat.le_trans (Nat.le_trans (Nat.le_trans (Nat.le_trans (Nat.le_trans (Nat.le_trans (Nat.le_trans (Nat.le_trans (Nat.le_trans (Nat.le_trans (Nat.le_trans (Nat.le_trans (Nat.le_trans (Nat.le_trans (Nat.le_trans Z0 E81.1) (Keep.of_wr W85).1) (Keep.of_wr W89).1) (Keep.of_wr W93).1) (Keep.of_wr W97).1) E100.1) (Keep.of_wr W108).1) (Keep.of_wr W115).1) (Keep.of_wr W122).1) (Keep.of_wr W129).1) (Keep.of_wr W136).1) (Keep.of_wr W143).1) (Keep.of_wr W150).1) (Keep.of_wr W157).1) E160.1) (Keep.of_wr W170).1) (Keep.of_wr W177).1) (Keep.of_wr W184).1) (Keep.of_wr W191).1) (Keep.of_wr W198).1) (Keep.of_wr W205).1) (Keep.of_wr W212).1) (Keep.of_wr W219).1) E222.1) (Keep.of_wr W233).1) (Keep.of_wr W238).1) (Keep.of_wr W243).1) (Keep.of_wr W248).1) (Keep.of_wr W253).1) (Keep.of_wr W258).1) (Keep.of_wr W263).1) (Keep.of_wr W268).1) E271.1) (Keep.of_wr W285).1) (Keep.of_wr W292).1) (Keep.of_wr W299).1) (Keep.of_wr W306).1) E309.1) (Keep.of_wr W325).1) (Keep.of_wr W332).1) (Keep.of_wr W339).1) (Keep.of_wr W346).1) f356 rfl f357 rfl f358 rfl hps (by decide)) hZ (hw _ (List.mem_of_getElem? (i := 10) rfl)) (hw _ (List.mem_of_getElem? (i := 4) rfl)) (by decide) (by decide)) (g := (mkF m 533 #[.val (.int a), .val (.long b), .second, .val (.int d), .val (.int e0x), .val (.int f), .val (.int s0), .val (.int s1), .val (.int s2), .val (.int s3), .val (.ref b81), .val (.ref b100), .val (.ref b160), .val (.ref b222), .val (.ref b271), .val (.ref b309), .val (.int line), .val (.int lo), .val (.int hi), .unset, .unset, .unset, .unset, .unset] [(.int (6 : Int32)), (.int hi), (.int lo), (.ref b271), (.ref b222), (.ref b100), (.long (((((t0 + t1) + t2) + t3) + t4) + t5))])) rfl (by rw [hml]; rfl) (argsL := [(.ref b100), (.ref b222), (.ref b271), (.int lo), (.int hi), (.int (6 : Int32))]) (rest := [(.long (((((t0 + t1) + t2) + t3) + t4) + t5))]) (lenOf pd___J_I_JIII_J rfl) rfl (by show 2 * 0 + _ ≤ _; exact Nat.le_of_eq rfl) (hb hby at_533) (fun _ _ => ⟨rfl, e379, (by decide : 6 + 0 ≤ _), (by decide : 36 + 0 ≤ _)⟩))
  obtain ⟨rfl, N383q, e383⟩ := hQ383
  have N383 := Fr.app N379 N383q
  have S384 : Go p e below s₁ (entryFrame m #[(.int a), (.long b), (.int d), (.int e0x), (.int f)] maxLocals) T383 (mkF m 536 #[.val (.int a), .val (.long b), .second, .val (.int d), .val (.int e0x), .val (.int f), .val (.int s0), .val (.int s1), .val (.int s2), .val (.int s3), .val (.ref b81), .val (.ref b100), .val (.ref b160), .val (.ref b222), .val (.ref b271), .val (.ref b309), .val (.int line), .val (.int lo), .val (.int hi), .unset, .unset, .unset, .unset, .unset] [(.long (own_t (fun q => ([l0, l1, l2, l3, l4, l5, l6, l7].getD q.toNatClampNeg (0 : Int64)) * ([c0, c1, c2, c3].getD ([p0, p1, p2, p3, p4, p5, p6, p7].getD q.toNatClampNeg (0 : Int32)).toNatClampNeg (0 : Int64))) lo hi (6 : Int32))), (.long (((((t0 + t1) + t2) + t3) + t4) + t5))]) := fun t kt => S382 t (st383 t kt)
  clear S382 st383 X379 e379
  obtain ⟨t6, q_t6⟩ : ∃ z : Int64, z = (own_t (fun q => ([l0, l1, l2, l3, l4, l5, l6, l7].getD q.toNatClampNeg (0 : Int64)) * ([c0, c1, c2, c3].getD ([p0, p1, p2, p3, p4, p5, p6, p7].getD q.toNatClampNeg (0 : Int32)).toNatClampNeg (0 : Int64))) lo hi (6 : Int32)) := ⟨_, rfl⟩
  have S385 : Go p e below s₁ (entryFrame m #[(.int a), (.long b), (.int d), (.int e0x), (.int f)] maxLocals) T383 (mkF m 536 #[.val (.int a), .val (.long b), .second, .val (.int d), .val (.int e0x), .val (.int f), .val (.int s0), .val (.int s1), .val (.int s2), .val (.int s3), .val (.ref b81), .val (.ref b100), .val (.ref b160), .val (.ref b222), .val (.ref b271), .val (.ref b309), .val (.int line), .val (.int lo), .val (.int hi), .unset, .unset, .unset, .unset, .unset] [(.long t6), (.long (((((t0 + t1) + t2) + t3) + t4) + t5))]) := by subst q_t6; exact S384
  clear S384
  have S386 : Go p e below s₁ (entryFrame m #[(.int a), (.long b), (.int d), (.int e0x), (.int f)] maxLocals) T383 (mkF m 549 #[.val (.int a), .val (.long b), .second, .val (.int d), .val (.int e0x), .val (.int f), .val (.int s0), .val (.int s1), .val (.int s2), .val (.int s3), .val (.ref b81), .val (.ref b100), .val (.ref b160), .val (.ref b222), .val (.ref b271), .val (.ref b309), .val (.int line), .val (.int lo), .val (.int hi), .unset, .unset, .unset, .unset, .unset] [(.int (7 : Int32)), (.int hi), (.int lo), (.ref b271), (.ref b222), (.ref b100), (.long ((((((t0 + t1) + t2) + t3) + t4) + t5) + t6))]) := fun t kt => S385 t (by
    refine XS.ladd X383.here hx rfl (hb hby at_536) rfl ?_
    show Steps p.tables e below (T383.setTop (mkF m 537 #[.val (.int a), .val (.long b), .second, .val (.int d), .val (.int e0x), .val (.int f), .val (.int s0), .val (.int s1), .val (.int s2), .val (.int s3), .val (.ref b81), .val (.ref b100), .val (.ref b160), .val (.ref b222), .val (.ref b271), .val (.ref b309), .val (.int line), .val (.int lo), .val (.int hi), .unset, .unset, .unset, .unset, .unset] [(.long ((((((t0 + t1) + t2) + t3) + t4) + t5) + t6))])) _
    refine XS.aload X383.here hx rfl (hb hby at_537) rfl rfl ?_
    show Steps p.tables e below (T383.setTop (mkF m 539 #[.val (.int a), .val (.long b), .second, .val (.int d), .val (.int e0x), .val (.int f), .val (.int s0), .val (.int s1), .val (.int s2), .val (.int s3), .val (.ref b81), .val (.ref b100), .val (.ref b160), .val (.ref b222), .val (.ref b271), .val (.ref b309), .val (.int line), .val (.int lo), .val (.int hi), .unset, .unset, .unset, .unset, .unset] [(.ref b100), (.long ((((((t0 + t1) + t2) + t3) + t4) + t5) + t6))])) _
    refine XS.aload X383.here hx rfl (hb hby at_539) rfl rfl ?_
    show Steps p.tables e below (T383.setTop (mkF m 541 #[.val (.int a), .val (.long b), .second, .val (.int d), .val (.int e0x), .val (.int f), .val (.int s0), .val (.int s1), .val (.int s2), .val (.int s3), .val (.ref b81), .val (.ref b100), .val (.ref b160), .val (.ref b222), .val (.ref b271), .val (.ref b309), .val (.int line), .val (.int lo), .val (.int hi), .unset, .unset, .unset, .unset, .unset] [(.ref b222), (.ref b100), (.long ((((((t0 + t1) + t2) + t3) + t4) + t5) + t6))])) _
    refine XS.aload X383.here hx rfl (hb hby at_541) rfl rfl ?_
    show Steps p.tables e below (T383.setTop (mkF m 543 #[.val (.int a), .val (.long b), .second, .val (.int d), .val (.int e0x), .val (.int f), .val (.int s0), .val (.int s1), .val (.int s2), .val (.int s3), .val (.ref b81), .val (.ref b100), .val (.ref b160), .val (.ref b222), .val (.ref b271), .val (.ref b309), .val (.int line), .val (.int lo), .val (.int hi), .unset, .unset, .unset, .unset, .unset] [(.ref b271), (.ref b222), (.ref b100), (.long ((((((t0 + t1) + t2) + t3) + t4) + t5) + t6))])) _
    refine XS.iload X383.here hx rfl (hb hby at_543) rfl ?_
    show Steps p.tables e below (T383.setTop (mkF m 545 #[.val (.int a), .val (.long b), .second, .val (.int d), .val (.int e0x), .val (.int f), .val (.int s0), .val (.int s1), .val (.int s2), .val (.int s3), .val (.ref b81), .val (.ref b100), .val (.ref b160), .val (.ref b222), .val (.ref b271), .val (.ref b309), .val (.int line), .val (.int lo), .val (.int hi), .unset, .unset, .unset, .unset, .unset] [(.int lo), (.ref b271), (.ref b222), (.ref b100), (.long ((((((t0 + t1) + t2) + t3) + t4) + t5) + t6))])) _
    refine XS.iload X383.here hx rfl (hb hby at_545) rfl ?_
    show Steps p.tables e below (T383.setTop (mkF m 547 #[.val (.int a), .val (.long b), .second, .val (.int d), .val (.int e0x), .val (.int f), .val (.int s0), .val (.int s1), .val (.int s2), .val (.int s3), .val (.ref b81), .val (.ref b100), .val (.ref b160), .val (.ref b222), .val (.ref b271), .val (.ref b309), .val (.int line), .val (.int lo), .val (.int hi), .unset, .unset, .unset, .unset, .unset] [(.int hi), (.int lo), (.ref b271), (.ref b222), (.ref b100), (.long ((((((t0 + t1) + t2) + t3) + t4) + t5) + t6))])) _
    refine XS.bipush X383.here hx rfl (hb hby at_547) ?_
    show Steps p.tables e below (T383.setTop (mkF m 549 #[.val (.int a), .val (.long b), .second, .val (.int d), .val (.int e0x), .val (.int f), .val (.int s0), .val (.int s1), .val (.int s2), .val (.int s3), .val (.ref b81), .val (.ref b100), .val (.ref b160), .val (.ref b222), .val (.ref b271), .val (.ref b309), .val (.int line), .val (.int lo), .val (.int hi), .unset, .unset, .unset, .unset, .unset] [(.int (7 : Int32)), (.int hi), (.int lo), (.ref b271), (.ref b222), (.ref b100), (.long ((((((t0 + t1) + t2) + t3) + t4) + t5) + t6))])) _
    exact kt)
  clear S385
  obtain ⟨v387, T387, L387, X387, hQ387, st387⟩ := own_outS (Jvm.LawKit.callS X383 hx (y := (⟨"com/example/blindroute/blindroute/lp/SparseLinesDotPinLaw", "term", "([J[I[JIII)J"⟩ : MethodName)) hown (mvT hZ (hw _ (List.mem_of_getElem? (i := 8) rfl))) (mvT hZ (hw _ (List.mem_of_getElem? (i := 9) rfl))) (mvT hZ (hw _ (List.mem_of_getElem? (i := 4) rfl))) (mvT hZ (hw _ (List.mem_of_getElem? (i := 10) rfl))) (by decide) (backOf (W := 2) (rm_term l Z a0 hw [] b100 b222 b271 lo hi (7 : Int32) [l0, l1, l2, l3, l4, l5, l6, l7] [p0, p1, p2, p3, p4, p5, p6, p7] [c0, c1, c2, c3] k100 k222 k271 h346 n0 (Nat.le_trans (Nat.le_trans (Nat.le_trans (Nat.le_trans (Nat.le_trans (Nat.le_trans (Nat.le_trans (Nat.le_trans (Nat.le_trans (Nat.le_trans (Nat.le_trans (Nat.le_trans (Nat.le_trans (Nat.le_trans (Nat.le_trans (Nat.le_trans (Nat.le_trans (Nat.le_trans (Nat.le_trans (Nat.le_trans (Nat.le_trans (Nat.le_trans (Nat.le_trans (Nat.le_trans (Nat.le_trans (Nat.le_trans (Nat.le_trans (Nat.le_trans (Nat.le_trans (Nat.le_trans (Nat.le_trans (Nat.le_trans (Nat.le_trans (Nat.le_trans (Nat.le_trans (Nat.le_trans (Nat.le_trans (Nat.le_trans (Nat.le_trans (Nat.le_trans (Nat.le_trans (Nat.le_trans Z0 E81.1) (Keep.of_wr W85).1) (Keep.of_wr W89).1) (Keep.of_wr W93).1) (Keep.of_wr W97).1) E100.1) (Keep.of_wr W108).1) (Keep.of_wr W115).1) (Keep.of_wr W122).1) (Keep.of_wr W129).1) (Keep.of_wr W136).1) (Keep.of_wr W143).1) (Keep.of_wr W150).1) (Keep.of_wr W157).1) E160.1) (Keep.of_wr W170).1) (Keep.of_wr W177).1) (Keep.of_wr W184).1) (Keep.of_wr W191).1) (Keep.of_wr W198).1) (Keep.of_wr W205).1) (Keep.of_wr W212).1) (Keep.of_wr W219).1) E222.1) (Keep.of_wr W233).1) (Keep.of_wr W238).1) (Keep.of_wr W243).1) (Keep.of_wr W248).1) (Keep.of_wr W253).1) (Keep.of_wr W258).1) (Keep.of_wr W263).1) (Keep.of_wr W268).1) E271.1) (Keep.of_wr W285).1) (Keep.of_wr W292).1) (Keep.of_wr W299).1) (Keep.of_wr W306).1) E309.1) (Keep.of_wr W325).1) (Keep.of_wr W332).1) (Keep.of_wr W339).1) (Keep.of_wr W346).1) f356 rfl f357 rfl f358 rfl hps (by decide)) hZ (hw _ (List.mem_of_getElem? (i := 10) rfl)) (hw _ (List.mem_of_getElem? (i := 4) rfl)) (by decide) (by decide)) (g := (mkF m 549 #[.val (.int a), .val (.long b), .second, .val (.int d), .val (.int e0x), .val (.int f), .val (.int s0), .val (.int s1), .val (.int s2), .val (.int s3), .val (.ref b81), .val (.ref b100), .val (.ref b160), .val (.ref b222), .val (.ref b271), .val (.ref b309), .val (.int line), .val (.int lo), .val (.int hi), .unset, .unset, .unset, .unset, .unset] [(.int (7 : Int32)), (.int hi), (.int lo), (.ref b271), (.ref b222), (.ref b100), (.long ((((((t0 + t1) + t2) + t3) + t4) + t5) + t6))])) rfl (by rw [hml]; rfl) (argsL := [(.ref b100), (.ref b222), (.ref b271), (.int lo), (.int hi), (.int (7 : Int32))]) (rest := [(.long ((((((t0 + t1) + t2) + t3) + t4) + t5) + t6))]) (lenOf pd___J_I_JIII_J rfl) rfl (by show 2 * 0 + _ ≤ _; exact Nat.le_of_eq rfl) (hb hby at_549) (fun _ _ => ⟨rfl, e383, (by decide : 6 + 0 ≤ _), (by decide : 36 + 0 ≤ _)⟩))
  obtain ⟨rfl, N387q, e387⟩ := hQ387
  have N387 := Fr.app N383 N387q
  have S388 : Go p e below s₁ (entryFrame m #[(.int a), (.long b), (.int d), (.int e0x), (.int f)] maxLocals) T387 (mkF m 552 #[.val (.int a), .val (.long b), .second, .val (.int d), .val (.int e0x), .val (.int f), .val (.int s0), .val (.int s1), .val (.int s2), .val (.int s3), .val (.ref b81), .val (.ref b100), .val (.ref b160), .val (.ref b222), .val (.ref b271), .val (.ref b309), .val (.int line), .val (.int lo), .val (.int hi), .unset, .unset, .unset, .unset, .unset] [(.long (own_t (fun q => ([l0, l1, l2, l3, l4, l5, l6, l7].getD q.toNatClampNeg (0 : Int64)) * ([c0, c1, c2, c3].getD ([p0, p1, p2, p3, p4, p5, p6, p7].getD q.toNatClampNeg (0 : Int32)).toNatClampNeg (0 : Int64))) lo hi (7 : Int32))), (.long ((((((t0 + t1) + t2) + t3) + t4) + t5) + t6))]) := fun t kt => S386 t (st387 t kt)
  clear S386 st387 X383 e383
  obtain ⟨t7, q_t7⟩ : ∃ z : Int64, z = (own_t (fun q => ([l0, l1, l2, l3, l4, l5, l6, l7].getD q.toNatClampNeg (0 : Int64)) * ([c0, c1, c2, c3].getD ([p0, p1, p2, p3, p4, p5, p6, p7].getD q.toNatClampNeg (0 : Int32)).toNatClampNeg (0 : Int64))) lo hi (7 : Int32)) := ⟨_, rfl⟩
  have S389 : Go p e below s₁ (entryFrame m #[(.int a), (.long b), (.int d), (.int e0x), (.int f)] maxLocals) T387 (mkF m 552 #[.val (.int a), .val (.long b), .second, .val (.int d), .val (.int e0x), .val (.int f), .val (.int s0), .val (.int s1), .val (.int s2), .val (.int s3), .val (.ref b81), .val (.ref b100), .val (.ref b160), .val (.ref b222), .val (.ref b271), .val (.ref b309), .val (.int line), .val (.int lo), .val (.int hi), .unset, .unset, .unset, .unset, .unset] [(.long t7), (.long ((((((t0 + t1) + t2) + t3) + t4) + t5) + t6))]) := by subst q_t7; exact S388
  clear S388
  have S390 : Go p e below s₁ (entryFrame m #[(.int a), (.long b), (.int d), (.int e0x), (.int f)] maxLocals) T387 (mkF m 555 #[.val (.int a), .val (.long b), .second, .val (.int d), .val (.int e0x), .val (.int f), .val (.int s0), .val (.int s1), .val (.int s2), .val (.int s3), .val (.ref b81), .val (.ref b100), .val (.ref b160), .val (.ref b222), .val (.ref b271), .val (.ref b309), .val (.int line), .val (.int lo), .val (.int hi), .val (.long (((((((t0 + t1) + t2) + t3) + t4) + t5) + t6) + t7)), .second, .unset, .unset, .unset] []) := fun t kt => S389 t (by
    refine XS.ladd X387.here hx rfl (hb hby at_552) rfl ?_
    show Steps p.tables e below (T387.setTop (mkF m 553 #[.val (.int a), .val (.long b), .second, .val (.int d), .val (.int e0x), .val (.int f), .val (.int s0), .val (.int s1), .val (.int s2), .val (.int s3), .val (.ref b81), .val (.ref b100), .val (.ref b160), .val (.ref b222), .val (.ref b271), .val (.ref b309), .val (.int line), .val (.int lo), .val (.int hi), .unset, .unset, .unset, .unset, .unset] [(.long (((((((t0 + t1) + t2) + t3) + t4) + t5) + t6) + t7))])) _
    refine XS.lstore X387.here hx rfl (hb hby at_553) rfl (l' := #[.val (.int a), .val (.long b), .second, .val (.int d), .val (.int e0x), .val (.int f), .val (.int s0), .val (.int s1), .val (.int s2), .val (.int s3), .val (.ref b81), .val (.ref b100), .val (.ref b160), .val (.ref b222), .val (.ref b271), .val (.ref b309), .val (.int line), .val (.int lo), .val (.int hi), .val (.long (((((((t0 + t1) + t2) + t3) + t4) + t5) + t6) + t7)), .second, .unset, .unset, .unset]) rfl ?_
    show Steps p.tables e below (T387.setTop (mkF m 555 #[.val (.int a), .val (.long b), .second, .val (.int d), .val (.int e0x), .val (.int f), .val (.int s0), .val (.int s1), .val (.int s2), .val (.int s3), .val (.ref b81), .val (.ref b100), .val (.ref b160), .val (.ref b222), .val (.ref b271), .val (.ref b309), .val (.int line), .val (.int lo), .val (.int hi), .val (.long (((((((t0 + t1) + t2) + t3) + t4) + t5) + t6) + t7)), .second, .unset, .unset, .unset] [])) _
    exact kt)
  clear S389
  obtain ⟨ref, q_ref⟩ : ∃ z : Int64, z = (((((((t0 + t1) + t2) + t3) + t4) + t5) + t6) + t7) := ⟨_, rfl⟩
  have S391 : Go p e below s₁ (entryFrame m #[(.int a), (.long b), (.int d), (.int e0x), (.int f)] maxLocals) T387 (mkF m 555 #[.val (.int a), .val (.long b), .second, .val (.int d), .val (.int e0x), .val (.int f), .val (.int s0), .val (.int s1), .val (.int s2), .val (.int s3), .val (.ref b81), .val (.ref b100), .val (.ref b160), .val (.ref b222), .val (.ref b271), .val (.ref b309), .val (.int line), .val (.int lo), .val (.int hi), .val (.long ref), .second, .unset, .unset, .unset] []) := by subst q_ref; exact S390
  clear S390
  obtain ⟨T392, h392, X392, e392, E392, A392, D392, -, st392⟩ := newO X387 hx hZ hown (hw _ (List.mem_of_getElem? (i := 11) rfl)) (hw _ (List.mem_of_getElem? (i := 12) rfl)) (hw _ (List.mem_of_getElem? (i := 13) rfl)) e387 (g := (mkF m 555 #[.val (.int a), .val (.long b), .second, .val (.int d), .val (.int e0x), .val (.int f), .val (.int s0), .val (.int s1), .val (.int s2), .val (.int s3), .val (.ref b81), .val (.ref b100), .val (.ref b160), .val (.ref b222), .val (.ref b271), .val (.ref b309), .val (.int line), .val (.int lo), .val (.int hi), .val (.long ref), .second, .unset, .unset, .unset] [])) rfl (hb hby at_555) (by decide) (by decide)
  obtain ⟨o1, g392⟩ : ∃ z, z = h346.size := ⟨_, rfl⟩
  rw [← g392] at A392 D392 st392
  have ne393 : b81 ≠ o1 := by rw [g392]; exact Nat.ne_of_lt f351.lt
  have ne394 : b100 ≠ o1 := by rw [g392]; exact Nat.ne_of_lt f356.lt
  have f395 := (((((f314.ext E309).other W325 ne315).other W332 ne315).other W339 ne315).other W346 ne315)
  have ne396 : b160 ≠ o1 := by rw [g392]; exact Nat.ne_of_lt f395.lt
  have ne397 : b222 ≠ o1 := by rw [g392]; exact Nat.ne_of_lt f357.lt
  have ne398 : b271 ≠ o1 := by rw [g392]; exact Nat.ne_of_lt f358.lt
  have ne399 : b309 ≠ o1 := by rw [g392]; exact Nat.ne_of_lt V346.lt
  have g_o1 : n0 ≤ o1 := Nat.le_trans (Nat.le_trans (Nat.le_trans (Nat.le_trans (Nat.le_trans (Nat.le_trans (Nat.le_trans (Nat.le_trans (Nat.le_trans (Nat.le_trans (Nat.le_trans (Nat.le_trans (Nat.le_trans (Nat.le_trans (Nat.le_trans (Nat.le_trans (Nat.le_trans (Nat.le_trans (Nat.le_trans (Nat.le_trans (Nat.le_trans (Nat.le_trans (Nat.le_trans (Nat.le_trans (Nat.le_trans (Nat.le_trans (Nat.le_trans (Nat.le_trans (Nat.le_trans (Nat.le_trans (Nat.le_trans (Nat.le_trans (Nat.le_trans (Nat.le_trans (Nat.le_trans (Nat.le_trans (Nat.le_trans (Nat.le_trans (Nat.le_trans (Nat.le_trans (Nat.le_trans (Nat.le_trans (Nat.le_trans Z0 E81.1) (Keep.of_wr W85).1) (Keep.of_wr W89).1) (Keep.of_wr W93).1) (Keep.of_wr W97).1) E100.1) (Keep.of_wr W108).1) (Keep.of_wr W115).1) (Keep.of_wr W122).1) (Keep.of_wr W129).1) (Keep.of_wr W136).1) (Keep.of_wr W143).1) (Keep.of_wr W150).1) (Keep.of_wr W157).1) E160.1) (Keep.of_wr W170).1) (Keep.of_wr W177).1) (Keep.of_wr W184).1) (Keep.of_wr W191).1) (Keep.of_wr W198).1) (Keep.of_wr W205).1) (Keep.of_wr W212).1) (Keep.of_wr W219).1) E222.1) (Keep.of_wr W233).1) (Keep.of_wr W238).1) (Keep.of_wr W243).1) (Keep.of_wr W248).1) (Keep.of_wr W253).1) (Keep.of_wr W258).1) (Keep.of_wr W263).1) (Keep.of_wr W268).1) E271.1) (Keep.of_wr W285).1) (Keep.of_wr W292).1) (Keep.of_wr W299).1) (Keep.of_wr W306).1) E309.1) (Keep.of_wr W325).1) (Keep.of_wr W332).1) (Keep.of_wr W339).1) (Keep.of_wr W346).1) (Nat.le_of_eq g392.symm)
  have F_start_o1 : Fld Z h392 o1 "com/example/blindroute/blindroute/lp/SparseLines" "start" "[I" .null := D392 (Or.inr (hw _ (List.mem_of_getElem? (i := 21) rfl))) (ty := (.array .int)) (by decide)
  have F_positions_o1 : Fld Z h392 o1 "com/example/blindroute/blindroute/lp/SparseLines" "positions" "[I" .null := D392 (Or.inr (hw _ (List.mem_of_getElem? (i := 23) rfl))) (ty := (.array .int)) (by decide)
  have F_values_o1 : Fld Z h392 o1 "com/example/blindroute/blindroute/lp/SparseLines" "values" "[D" .null := D392 (Or.inr (hw _ (List.mem_of_getElem? (i := 25) rfl))) (ty := (.array .double)) (by decide)
  have S400 : Go p e below s₁ (entryFrame m #[(.int a), (.long b), (.int d), (.int e0x), (.int f)] maxLocals) T392 (mkF m 558 #[.val (.int a), .val (.long b), .second, .val (.int d), .val (.int e0x), .val (.int f), .val (.int s0), .val (.int s1), .val (.int s2), .val (.int s3), .val (.ref b81), .val (.ref b100), .val (.ref b160), .val (.ref b222), .val (.ref b271), .val (.ref b309), .val (.int line), .val (.int lo), .val (.int hi), .val (.long ref), .second, .unset, .unset, .unset] [(.ref o1)]) := fun t kt => S391 t (st392 t kt)
  clear S391 st392 X387 e387
  have S401 : Go p e below s₁ (entryFrame m #[(.int a), (.long b), (.int d), (.int e0x), (.int f)] maxLocals) T392 (mkF m 565 #[.val (.int a), .val (.long b), .second, .val (.int d), .val (.int e0x), .val (.int f), .val (.int s0), .val (.int s1), .val (.int s2), .val (.int s3), .val (.ref b81), .val (.ref b100), .val (.ref b160), .val (.ref b222), .val (.ref b271), .val (.ref b309), .val (.int line), .val (.int lo), .val (.int hi), .val (.long ref), .second, .unset, .unset, .unset] [(.ref b160), (.ref b222), (.ref b81), (.ref o1), (.ref o1)]) := fun t kt => S400 t (by
    refine XS.dup X392.here hx rfl (hb hby at_558) rfl rfl ?_
    show Steps p.tables e below (T392.setTop (mkF m 559 #[.val (.int a), .val (.long b), .second, .val (.int d), .val (.int e0x), .val (.int f), .val (.int s0), .val (.int s1), .val (.int s2), .val (.int s3), .val (.ref b81), .val (.ref b100), .val (.ref b160), .val (.ref b222), .val (.ref b271), .val (.ref b309), .val (.int line), .val (.int lo), .val (.int hi), .val (.long ref), .second, .unset, .unset, .unset] [(.ref o1), (.ref o1)])) _
    refine XS.aload X392.here hx rfl (hb hby at_559) rfl rfl ?_
    show Steps p.tables e below (T392.setTop (mkF m 561 #[.val (.int a), .val (.long b), .second, .val (.int d), .val (.int e0x), .val (.int f), .val (.int s0), .val (.int s1), .val (.int s2), .val (.int s3), .val (.ref b81), .val (.ref b100), .val (.ref b160), .val (.ref b222), .val (.ref b271), .val (.ref b309), .val (.int line), .val (.int lo), .val (.int hi), .val (.long ref), .second, .unset, .unset, .unset] [(.ref b81), (.ref o1), (.ref o1)])) _
    refine XS.aload X392.here hx rfl (hb hby at_561) rfl rfl ?_
    show Steps p.tables e below (T392.setTop (mkF m 563 #[.val (.int a), .val (.long b), .second, .val (.int d), .val (.int e0x), .val (.int f), .val (.int s0), .val (.int s1), .val (.int s2), .val (.int s3), .val (.ref b81), .val (.ref b100), .val (.ref b160), .val (.ref b222), .val (.ref b271), .val (.ref b309), .val (.int line), .val (.int lo), .val (.int hi), .val (.long ref), .second, .unset, .unset, .unset] [(.ref b222), (.ref b81), (.ref o1), (.ref o1)])) _
    refine XS.aload X392.here hx rfl (hb hby at_563) rfl rfl ?_
    show Steps p.tables e below (T392.setTop (mkF m 565 #[.val (.int a), .val (.long b), .second, .val (.int d), .val (.int e0x), .val (.int f), .val (.int s0), .val (.int s1), .val (.int s2), .val (.int s3), .val (.ref b81), .val (.ref b100), .val (.ref b160), .val (.ref b222), .val (.ref b271), .val (.ref b309), .val (.int line), .val (.int lo), .val (.int hi), .val (.long ref), .second, .unset, .unset, .unset] [(.ref b160), (.ref b222), (.ref b81), (.ref o1), (.ref o1)])) _
    exact kt)
  clear S400
  obtain ⟨v402, T402, L402, X402, hQ402, st402⟩ := own_outV (X392.specialBack hx (y := (⟨"com/example/blindroute/blindroute/lp/SparseLines", "<init>", "([I[I[D)V"⟩ : MethodName)) rfl hown (mvT hZ (hw _ (List.mem_of_getElem? (i := 14) rfl))) (mvT hZ (hw _ (List.mem_of_getElem? (i := 15) rfl))) (mvT hZ (hw _ (List.mem_of_getElem? (i := 16) rfl))) (by decide) (backOf (W := 1) (rm_init l Z a0 hw [] o1 b81 b222 b160 h392 n0 (Nat.le_trans (Nat.le_trans (Nat.le_trans (Nat.le_trans (Nat.le_trans (Nat.le_trans (Nat.le_trans (Nat.le_trans (Nat.le_trans (Nat.le_trans (Nat.le_trans (Nat.le_trans (Nat.le_trans (Nat.le_trans (Nat.le_trans (Nat.le_trans (Nat.le_trans (Nat.le_trans (Nat.le_trans (Nat.le_trans (Nat.le_trans (Nat.le_trans (Nat.le_trans (Nat.le_trans (Nat.le_trans (Nat.le_trans (Nat.le_trans (Nat.le_trans (Nat.le_trans (Nat.le_trans (Nat.le_trans (Nat.le_trans (Nat.le_trans (Nat.le_trans (Nat.le_trans (Nat.le_trans (Nat.le_trans (Nat.le_trans (Nat.le_trans (Nat.le_trans (Nat.le_trans (Nat.le_trans (Nat.le_trans Z0 E81.1) (Keep.of_wr W85).1) (Keep.of_wr W89).1) (Keep.of_wr W93).1) (Keep.of_wr W97).1) E100.1) (Keep.of_wr W108).1) (Keep.of_wr W115).1) (Keep.of_wr W122).1) (Keep.of_wr W129).1) (Keep.of_wr W136).1) (Keep.of_wr W143).1) (Keep.of_wr W150).1) (Keep.of_wr W157).1) E160.1) (Keep.of_wr W170).1) (Keep.of_wr W177).1) (Keep.of_wr W184).1) (Keep.of_wr W191).1) (Keep.of_wr W198).1) (Keep.of_wr W205).1) (Keep.of_wr W212).1) (Keep.of_wr W219).1) E222.1) (Keep.of_wr W233).1) (Keep.of_wr W238).1) (Keep.of_wr W243).1) (Keep.of_wr W248).1) (Keep.of_wr W253).1) (Keep.of_wr W258).1) (Keep.of_wr W263).1) (Keep.of_wr W268).1) E271.1) (Keep.of_wr W285).1) (Keep.of_wr W292).1) (Keep.of_wr W299).1) (Keep.of_wr W306).1) E309.1) (Keep.of_wr W325).1) (Keep.of_wr W332).1) (Keep.of_wr W339).1) (Keep.of_wr W346).1) E392.1) A392 F_start_o1 F_positions_o1 F_values_o1 g_o1) hZ (hw _ (List.mem_of_getElem? (i := 16) rfl)) (hw _ (List.mem_of_getElem? (i := 13) rfl)) (by decide) (by decide)) (g := (mkF m 565 #[.val (.int a), .val (.long b), .second, .val (.int d), .val (.int e0x), .val (.int f), .val (.int s0), .val (.int s1), .val (.int s2), .val (.int s3), .val (.ref b81), .val (.ref b100), .val (.ref b160), .val (.ref b222), .val (.ref b271), .val (.ref b309), .val (.int line), .val (.int lo), .val (.int hi), .val (.long ref), .second, .unset, .unset, .unset] [(.ref b160), (.ref b222), (.ref b81), (.ref o1), (.ref o1)])) rfl (by rw [hml]; rfl) (Steps.refl _) (a := o1) (argsL := [(.ref b81), (.ref b222), (.ref b160)]) (rest := [(.ref o1)]) (lenOf pd___I_I_D_V rfl) rfl (by show 2 * 0 + _ ≤ _; exact Nat.le_of_eq rfl) (hb hby at_565) (fun _ _ => ⟨rfl, e392, (by decide : 7 + 0 ≤ _), (by decide : 39 + 0 ≤ _)⟩))
  obtain ⟨rfl, N402q, K402, Ex402, Fa402, Fb402, Fc402⟩ := hQ402
  have N402 := Fr.app N387 N402q
  have S403 : Go p e below s₁ (entryFrame m #[(.int a), (.long b), (.int d), (.int e0x), (.int f)] maxLocals) T402 (mkF m 568 #[.val (.int a), .val (.long b), .second, .val (.int d), .val (.int e0x), .val (.int f), .val (.int s0), .val (.int s1), .val (.int s2), .val (.int s3), .val (.ref b81), .val (.ref b100), .val (.ref b160), .val (.ref b222), .val (.ref b271), .val (.ref b309), .val (.int line), .val (.int lo), .val (.int hi), .val (.long ref), .second, .unset, .unset, .unset] [(.ref o1)]) := fun t kt => S401 t (st402 t kt)
  clear S401 st402 X392 e392
  have S404 : Go p e below s₁ (entryFrame m #[(.int a), (.long b), (.int d), (.int e0x), (.int f)] maxLocals) T402 (mkF m 576 #[.val (.int a), .val (.long b), .second, .val (.int d), .val (.int e0x), .val (.int f), .val (.int s0), .val (.int s1), .val (.int s2), .val (.int s3), .val (.ref b81), .val (.ref b100), .val (.ref b160), .val (.ref b222), .val (.ref b271), .val (.ref b309), .val (.int line), .val (.int lo), .val (.int hi), .val (.long ref), .second, .val (.ref o1), .unset, .unset] [(.ref b309), (.int line), (.ref o1)]) := fun t kt => S403 t (by
    refine XS.astore X402.here hx rfl (hb hby at_568) rfl rfl (l' := #[.val (.int a), .val (.long b), .second, .val (.int d), .val (.int e0x), .val (.int f), .val (.int s0), .val (.int s1), .val (.int s2), .val (.int s3), .val (.ref b81), .val (.ref b100), .val (.ref b160), .val (.ref b222), .val (.ref b271), .val (.ref b309), .val (.int line), .val (.int lo), .val (.int hi), .val (.long ref), .second, .val (.ref o1), .unset, .unset]) rfl ?_
    show Steps p.tables e below (T402.setTop (mkF m 570 #[.val (.int a), .val (.long b), .second, .val (.int d), .val (.int e0x), .val (.int f), .val (.int s0), .val (.int s1), .val (.int s2), .val (.int s3), .val (.ref b81), .val (.ref b100), .val (.ref b160), .val (.ref b222), .val (.ref b271), .val (.ref b309), .val (.int line), .val (.int lo), .val (.int hi), .val (.long ref), .second, .val (.ref o1), .unset, .unset] [])) _
    refine XS.aload X402.here hx rfl (hb hby at_570) rfl rfl ?_
    show Steps p.tables e below (T402.setTop (mkF m 572 #[.val (.int a), .val (.long b), .second, .val (.int d), .val (.int e0x), .val (.int f), .val (.int s0), .val (.int s1), .val (.int s2), .val (.int s3), .val (.ref b81), .val (.ref b100), .val (.ref b160), .val (.ref b222), .val (.ref b271), .val (.ref b309), .val (.int line), .val (.int lo), .val (.int hi), .val (.long ref), .second, .val (.ref o1), .unset, .unset] [(.ref o1)])) _
    refine XS.iload X402.here hx rfl (hb hby at_572) rfl ?_
    show Steps p.tables e below (T402.setTop (mkF m 574 #[.val (.int a), .val (.long b), .second, .val (.int d), .val (.int e0x), .val (.int f), .val (.int s0), .val (.int s1), .val (.int s2), .val (.int s3), .val (.ref b81), .val (.ref b100), .val (.ref b160), .val (.ref b222), .val (.ref b271), .val (.ref b309), .val (.int line), .val (.int lo), .val (.int hi), .val (.long ref), .second, .val (.ref o1), .unset, .unset] [(.int line), (.ref o1)])) _
    refine XS.aload X402.here hx rfl (hb hby at_574) rfl rfl ?_
    show Steps p.tables e below (T402.setTop (mkF m 576 #[.val (.int a), .val (.long b), .second, .val (.int d), .val (.int e0x), .val (.int f), .val (.int s0), .val (.int s1), .val (.int s2), .val (.int s3), .val (.ref b81), .val (.ref b100), .val (.ref b160), .val (.ref b222), .val (.ref b271), .val (.ref b309), .val (.int line), .val (.int lo), .val (.int hi), .val (.long ref), .second, .val (.ref o1), .unset, .unset] [(.ref b309), (.int line), (.ref o1)])) _
    exact kt)
  clear S403
  have f405 := ((f351.ext E392).keep K402 (ninS ne393 nin0))
  have f406 := ((f357.ext E392).keep K402 (ninS ne397 nin0))
  have f407 := ((f395.ext E392).keep K402 (ninS ne396 nin0))
  have f408 := ((V346.ext E392).keep K402 (ninS ne399 nin0))
  obtain ⟨cq409, kq409, q409a, q409b, q409c⟩ := isOf hZ rfl Ex402
  obtain ⟨v409, T409, L409, X409, hQ409, st409⟩ := own_outV (X402.virtualBack hx (y := (⟨"com/example/blindroute/blindroute/lp/SparseLines", "dot", "(I[D)D"⟩ : MethodName)) (z := (⟨"com/example/blindroute/blindroute/lp/SparseLines", "dot", "(I[D)D"⟩ : MethodName)) hown (mvT hZ (hw _ (List.mem_of_getElem? (i := 26) rfl))) (mvT hZ (hw _ (List.mem_of_getElem? (i := 27) rfl))) (notFace_of_selects (args := #[]) (mvT hZ (hw _ (List.mem_of_getElem? (i := 29) rfl)))) (mvT hZ (hw _ (List.mem_of_getElem? (i := 29) rfl))) (mvT hZ (hw _ (List.mem_of_getElem? (i := 28) rfl))) (by decide) (backOf (W := 0) (rm_dot l Z a0 hw [] o1 line b309 b81 b222 b160 k81 k222 k160 k309 [.int s0, .int s1, .int s2, .int s3] [l0, l1, l2, l3, l4, l5, l6, l7] [p0, p1, p2, p3, p4, p5, p6, p7] [c0, c1, c2, c3] lo hi T402.heap n0 (Nat.le_trans (Nat.le_trans (Nat.le_trans (Nat.le_trans (Nat.le_trans (Nat.le_trans (Nat.le_trans (Nat.le_trans (Nat.le_trans (Nat.le_trans (Nat.le_trans (Nat.le_trans (Nat.le_trans (Nat.le_trans (Nat.le_trans (Nat.le_trans (Nat.le_trans (Nat.le_trans (Nat.le_trans (Nat.le_trans (Nat.le_trans (Nat.le_trans (Nat.le_trans (Nat.le_trans (Nat.le_trans (Nat.le_trans (Nat.le_trans (Nat.le_trans (Nat.le_trans (Nat.le_trans (Nat.le_trans (Nat.le_trans (Nat.le_trans (Nat.le_trans (Nat.le_trans (Nat.le_trans (Nat.le_trans (Nat.le_trans (Nat.le_trans (Nat.le_trans (Nat.le_trans (Nat.le_trans (Nat.le_trans (Nat.le_trans Z0 E81.1) (Keep.of_wr W85).1) (Keep.of_wr W89).1) (Keep.of_wr W93).1) (Keep.of_wr W97).1) E100.1) (Keep.of_wr W108).1) (Keep.of_wr W115).1) (Keep.of_wr W122).1) (Keep.of_wr W129).1) (Keep.of_wr W136).1) (Keep.of_wr W143).1) (Keep.of_wr W150).1) (Keep.of_wr W157).1) E160.1) (Keep.of_wr W170).1) (Keep.of_wr W177).1) (Keep.of_wr W184).1) (Keep.of_wr W191).1) (Keep.of_wr W198).1) (Keep.of_wr W205).1) (Keep.of_wr W212).1) (Keep.of_wr W219).1) E222.1) (Keep.of_wr W233).1) (Keep.of_wr W238).1) (Keep.of_wr W243).1) (Keep.of_wr W248).1) (Keep.of_wr W253).1) (Keep.of_wr W258).1) (Keep.of_wr W263).1) (Keep.of_wr W268).1) E271.1) (Keep.of_wr W285).1) (Keep.of_wr W292).1) (Keep.of_wr W299).1) (Keep.of_wr W306).1) E309.1) (Keep.of_wr W325).1) (Keep.of_wr W332).1) (Keep.of_wr W339).1) (Keep.of_wr W346).1) E392.1) K402.1) Fa402 Fb402 Fc402 f405 f406 f407 f408 rfl rfl rfl hps hlv hlc i0 i1 at0 at1 hlo hhi hh8) hZ (hw _ (List.mem_of_getElem? (i := 30) rfl)) (hw _ (List.mem_of_getElem? (i := 13) rfl)) (by decide) (by decide)) q409a q409c (g := (mkF m 576 #[.val (.int a), .val (.long b), .second, .val (.int d), .val (.int e0x), .val (.int f), .val (.int s0), .val (.int s1), .val (.int s2), .val (.int s3), .val (.ref b81), .val (.ref b100), .val (.ref b160), .val (.ref b222), .val (.ref b271), .val (.ref b309), .val (.int line), .val (.int lo), .val (.int hi), .val (.long ref), .second, .val (.ref o1), .unset, .unset] [(.ref b309), (.int line), (.ref o1)])) rfl (by rw [hml]; rfl) (Steps.refl _) (argsL := [(.int line), (.ref b309)]) (rest := []) (lenOf pd__I_D_D rfl) rfl (by show 2 * 0 + _ ≤ _; exact Nat.le_of_eq rfl) (hb hby at_576) (fun _ _ => ⟨rfl, rfl, (by decide : 7 + 0 ≤ _), (by decide : 39 + 0 ≤ _)⟩))
  obtain ⟨r, rfl, hr, N409q, e409⟩ := hQ409
  have N409 := Fr.app N402 N409q
  have S410 : Go p e below s₁ (entryFrame m #[(.int a), (.long b), (.int d), (.int e0x), (.int f)] maxLocals) T409 (mkF m 579 #[.val (.int a), .val (.long b), .second, .val (.int d), .val (.int e0x), .val (.int f), .val (.int s0), .val (.int s1), .val (.int s2), .val (.int s3), .val (.ref b81), .val (.ref b100), .val (.ref b160), .val (.ref b222), .val (.ref b271), .val (.ref b309), .val (.int line), .val (.int lo), .val (.int hi), .val (.long ref), .second, .val (.ref o1), .unset, .unset] [(.double r)]) := fun t kt => S404 t (st409 t kt)
  clear S404 st409 X402
  have hcmp := own_fin2 [l0, l1, l2, l3, l4, l5, l6, l7] [p0, p1, p2, p3, p4, p5, p6, p7] [c0, c1, c2, c3] hlv hlc lo hi hlo hlh hhi hh8 hr ref (by rw [q_ref, q_t0, q_t1, q_t2, q_t3, q_t4, q_t5, q_t6, q_t7])
  have S411 : Go p e below s₁ (entryFrame m #[(.int a), (.long b), (.int d), (.int e0x), (.int f)] maxLocals) T409 (mkF m 587 #[.val (.int a), .val (.long b), .second, .val (.int d), .val (.int e0x), .val (.int f), .val (.int s0), .val (.int s1), .val (.int s2), .val (.int s3), .val (.ref b81), .val (.ref b100), .val (.ref b160), .val (.ref b222), .val (.ref b271), .val (.ref b309), .val (.int line), .val (.int lo), .val (.int hi), .val (.long ref), .second, .val (.ref o1), .val (.double r), .second] [(.int (FP.cmpInt (-1) (FP.dcmp r (FP.l2d ref))))]) := fun t kt => S410 t (by
    refine XS.dstore X409.here hx rfl (hb hby at_579) rfl (l' := #[.val (.int a), .val (.long b), .second, .val (.int d), .val (.int e0x), .val (.int f), .val (.int s0), .val (.int s1), .val (.int s2), .val (.int s3), .val (.ref b81), .val (.ref b100), .val (.ref b160), .val (.ref b222), .val (.ref b271), .val (.ref b309), .val (.int line), .val (.int lo), .val (.int hi), .val (.long ref), .second, .val (.ref o1), .val (.double r), .second]) rfl ?_
    show Steps p.tables e below (T409.setTop (mkF m 581 #[.val (.int a), .val (.long b), .second, .val (.int d), .val (.int e0x), .val (.int f), .val (.int s0), .val (.int s1), .val (.int s2), .val (.int s3), .val (.ref b81), .val (.ref b100), .val (.ref b160), .val (.ref b222), .val (.ref b271), .val (.ref b309), .val (.int line), .val (.int lo), .val (.int hi), .val (.long ref), .second, .val (.ref o1), .val (.double r), .second] [])) _
    refine XS.dload X409.here hx rfl (hb hby at_581) rfl ?_
    show Steps p.tables e below (T409.setTop (mkF m 583 #[.val (.int a), .val (.long b), .second, .val (.int d), .val (.int e0x), .val (.int f), .val (.int s0), .val (.int s1), .val (.int s2), .val (.int s3), .val (.ref b81), .val (.ref b100), .val (.ref b160), .val (.ref b222), .val (.ref b271), .val (.ref b309), .val (.int line), .val (.int lo), .val (.int hi), .val (.long ref), .second, .val (.ref o1), .val (.double r), .second] [(.double r)])) _
    refine XS.lload X409.here hx rfl (hb hby at_583) rfl ?_
    show Steps p.tables e below (T409.setTop (mkF m 585 #[.val (.int a), .val (.long b), .second, .val (.int d), .val (.int e0x), .val (.int f), .val (.int s0), .val (.int s1), .val (.int s2), .val (.int s3), .val (.ref b81), .val (.ref b100), .val (.ref b160), .val (.ref b222), .val (.ref b271), .val (.ref b309), .val (.int line), .val (.int lo), .val (.int hi), .val (.long ref), .second, .val (.ref o1), .val (.double r), .second] [(.long ref), (.double r)])) _
    refine XS.l2dS X409.here hx rfl (hb hby at_585) rfl rfl ?_
    show Steps p.tables e below (T409.setTop (mkF m 586 #[.val (.int a), .val (.long b), .second, .val (.int d), .val (.int e0x), .val (.int f), .val (.int s0), .val (.int s1), .val (.int s2), .val (.int s3), .val (.ref b81), .val (.ref b100), .val (.ref b160), .val (.ref b222), .val (.ref b271), .val (.ref b309), .val (.int line), .val (.int lo), .val (.int hi), .val (.long ref), .second, .val (.ref o1), .val (.double r), .second] [(.double (FP.l2d ref)), (.double r)])) _
    refine XS.dcmpS X409.here hx rfl (hb hby at_586) rfl (cmpV_l _) ?_
    show Steps p.tables e below (T409.setTop (mkF m 587 #[.val (.int a), .val (.long b), .second, .val (.int d), .val (.int e0x), .val (.int f), .val (.int s0), .val (.int s1), .val (.int s2), .val (.int s3), .val (.ref b81), .val (.ref b100), .val (.ref b160), .val (.ref b222), .val (.ref b271), .val (.ref b309), .val (.int line), .val (.int lo), .val (.int hi), .val (.long ref), .second, .val (.ref o1), .val (.double r), .second] [(.int (FP.cmpInt (-1) (FP.dcmp r (FP.l2d ref))))])) _
    exact kt)
  clear S410
  have S412 : Go p e below s₁ (entryFrame m #[(.int a), (.long b), (.int d), (.int e0x), (.int f)] maxLocals) T409 (mkF m 595 #[.val (.int a), .val (.long b), .second, .val (.int d), .val (.int e0x), .val (.int f), .val (.int s0), .val (.int s1), .val (.int s2), .val (.int s3), .val (.ref b81), .val (.ref b100), .val (.ref b160), .val (.ref b222), .val (.ref b271), .val (.ref b309), .val (.int line), .val (.int lo), .val (.int hi), .val (.long ref), .second, .val (.ref o1), .val (.double r), .second] [(.int (1 : Int32))]) := fun t kt => S411 t (by
    refine XS.ifNo X409.here hx rfl (hb hby at_587) rfl ((if0 _ _).trans (teq (show (FP.cmpInt (-1) (FP.dcmp r (FP.l2d ref))) = (0 : Int32) from (by rw [hcmp]; rfl))).2) ?_
    show Steps p.tables e below (T409.setTop (mkF m 590 #[.val (.int a), .val (.long b), .second, .val (.int d), .val (.int e0x), .val (.int f), .val (.int s0), .val (.int s1), .val (.int s2), .val (.int s3), .val (.ref b81), .val (.ref b100), .val (.ref b160), .val (.ref b222), .val (.ref b271), .val (.ref b309), .val (.int line), .val (.int lo), .val (.int hi), .val (.long ref), .second, .val (.ref o1), .val (.double r), .second] [])) _
    refine XS.iconst X409.here hx rfl (hb hby at_590) ?_
    show Steps p.tables e below (T409.setTop (mkF m 591 #[.val (.int a), .val (.long b), .second, .val (.int d), .val (.int e0x), .val (.int f), .val (.int s0), .val (.int s1), .val (.int s2), .val (.int s3), .val (.ref b81), .val (.ref b100), .val (.ref b160), .val (.ref b222), .val (.ref b271), .val (.ref b309), .val (.int line), .val (.int lo), .val (.int hi), .val (.long ref), .second, .val (.ref o1), .val (.double r), .second] [(.int (1 : Int32))])) _
    refine XS.goto X409.here hx rfl (pc0 := 591) (pc' := 595) rfl (hb hby at_591) (by decide) (by decide) ?_
    show Steps p.tables e below (T409.setTop (mkF m 595 #[.val (.int a), .val (.long b), .second, .val (.int d), .val (.int e0x), .val (.int f), .val (.int s0), .val (.int s1), .val (.int s2), .val (.int s3), .val (.ref b81), .val (.ref b100), .val (.ref b160), .val (.ref b222), .val (.ref b271), .val (.ref b309), .val (.int line), .val (.int lo), .val (.int hi), .val (.long ref), .second, .val (.ref o1), .val (.double r), .second] [(.int (1 : Int32))])) _
    exact kt)
  clear S411
  obtain ⟨fs, hr, hrun, hended, hW, hsame⟩ := X409.leave (v := some (.int (1 : Int32))) (fun h => by first | rfl | (rw [Bd.returns] at h; cases h))
  refine ⟨_, _, S412 _ ?_, hrun, hended, _, _, rfl, ?_, ⟨_, rfl⟩, hW, hsame.mono (by decide) (by decide)⟩
  · exact retN X409 hx (t := .boolean) Bd.returns (by simp) (hb hby at_595) hr
  · show Q_law Z a b d e0x f h0 n0 _ T409.heap _
    rw [e409]
    exact ⟨rfl, N409⟩
set_option maxRecDepth 65536 in
set_option maxHeartbeats 40000000 in
theorem comes_1 {Post : Tables → Env → Array Value → State → Outcome → State → Prop} (hpost : ∀ tb e args s v u, (limb_1_1.after args s (.returned v) u = true ∧ limb_1_2.after args s (.returned v) u = true ∧ True) → FrameEnd s (.returned v) u (Jvm.fieldLocs frame_1_writes args s ++ Jvm.arrayLocs frame_1_arrays args s ++ Jvm.staticLocs frame_1_statics s) 24 192 → Post tb e args s (.returned v) u) :
    ArmFor flags0 classFile x code maxLocals ret World_1 tables_1 room_1 Calls_1 rest_1 Pre_1 Post := by
  intro l hfl _ _ p e ha hc hk s m args below hf hA hF happ hP
  obtain ⟨hcalls, hrest, hpre⟩ := hP
  obtain ⟨-, -, -, hnamed, -, -, -, hat⟩ := (Spec.applies_iff hf).mp happ
  obtain ⟨hg, hn⟩ := and_e (Cond.before_iff.mp (show (Jvm.Cond.and given_1 narrow_1).before args s = true from hpre))
  obtain ⟨hcount, r0⟩ := and_e hg
  obtain ⟨v0, r1⟩ := and_e r0
  obtain ⟨v1, r2⟩ := and_e r1
  obtain ⟨v2, r3⟩ := and_e r2
  obtain ⟨v3, r4⟩ := and_e r3
  obtain ⟨w0, w1, w2, w3, w4, rfl⟩ : ∃ w0 w1 w2 w3 w4 : Value, args = #[w0, w1, w2, w3, w4] := by
    have hs : args.size = 5 := by simpa [Cond.value, given_1] using hcount
    obtain ⟨L⟩ := args
    match L, hs with
    | [w0, w1, w2, w3, w4], _ => exact ⟨w0, w1, w2, w3, w4, rfl⟩
  have hw := fun d (hd : d ∈ tables_1) => atoms_spec (ws := Jvm.Cond.code x code maxLocals ret :: tables_1) hat d (List.mem_cons_of_mem _ hd)
  have hfit : Fit s := fun {y c} hc i hi => by
    obtain ⟨ha, rfl⟩ := Array.getElem?_eq_some_iff.mp hc
    have q := List.all_eq_true.mp ((Array.all_eq_true_iff_forall_mem.mp hF) _ (Array.getElem_mem ha)) i (List.mem_range.mpr hi)
    simpa [Array.getElem?_eq_getElem hi] using q
  obtain ⟨i0, ei0⟩ := is_v v0
  obtain rfl : w0 = (.int i0) := Option.some.inj ei0
  obtain ⟨i1, ei1⟩ := isL_v v1
  obtain rfl : w1 = (.long i1) := Option.some.inj ei1
  obtain ⟨i2, ei2⟩ := is_v v2
  obtain rfl : w2 = (.int i2) := Option.some.inj ei2
  obtain ⟨i3, ei3⟩ := is_v v3
  obtain rfl : w3 = (.int i3) := Option.some.inj ei3
  obtain ⟨i4, ei4⟩ := is_v r4
  obtain rfl : w4 = (.int i4) := Option.some.inj ei4
  obtain ⟨n, o, h1, h2, h3, _, L, rfl, ⟨rfl, N⟩, hq⟩ := rm_law l s _ hw tables_1 i0 i1 i2 i3 i4 s.heap s.heap.size (Nat.le_refl _)  p e ha hc hk s m _ below hf ((Spec.applies_iff_loose hf).mp happ).1 ⟨rfl, State.Warmed39.refl s, rfl⟩ trivial
  refine ⟨n, _, h1, h2, h3, hpost _ _ _ _ _ _ ⟨Cond.after_iff.mpr rfl, Cond.after_iff.mpr (eq_i res_at (Term.int_eval (1)) rfl), trivial⟩ ⟨hq.1, hq.2.1, (hq.2.2.sift fun y hy => Or.inr (N y hy)).mono (by decide) (by decide)⟩⟩
theorem main_1_1 : Claimed_1_1 := comes_1 fun _ _ _ _ _ _ h hF => ⟨h.1, hF⟩
theorem main_1_2 : Claimed_1_2 := comes_1 fun _ _ _ _ _ _ h hF => ⟨h.2.1, hF⟩
end Jvm.Pilot.@@N@@
namespace Jvm.Pilot.@@N@@
open Jvm Jvm.ClassFile Sem Op Lib Jvm.Free Jvm.Stand Jvm.Pilot.@@N@@.Jvm.D
/-! MADE BY PROGRAM (witnessworld.py) out of the Statement's table words and the real class files: 11 classes; the members and pool entries that the words name. The judged class is class 1, her method 3. -/
namespace start1
open Jvm.ClassFile
def u (s : String) : CpInfo := .utf8 (stringToUtf16 s)
/-- a pool by its gaps: so many unusable entries, then the entry; so many at the end -/
def gap : Nat → List CpInfo → List CpInfo
  | 0, r => r
  | n + 1, r => .unusable :: gap n r
def poolList (es : List (Nat × CpInfo)) (last : Nat) : List CpInfo := es.foldr (fun e r => gap e.1 (e.2 :: r)) (gap last [])
def pool (es : List (Nat × CpInfo)) (last : Nat) : Array CpInfo := ⟨poolList es last⟩
def fileOf (pool : Array CpInfo) (this : Nat) (attrs : Array Attribute := #[]) (ms : Array MethodInfo := #[]) (fl : Nat := 33) (sup : Nat := 0) (ifs : Array Nat := #[]) (fds : Array FieldInfo := #[]) : ClassFile where
  minorVersion := 0
  majorVersion := 65
  constantPool := pool
  accessFlags := fl
  thisClass := this
  superClass := sup
  interfaces := ifs
  fields := fds
  methods := ms
  attributes := attrs
def plain (name : String) (sup : Option ClassId) : Class where
  name := name
  kind := .ordinary
  loader := none
  accessFlags := 33
  super := sup
  interfaces := #[]
  cf := none
  fields := #[]
  methods := #[]
  instanceTypes := #[]
  staticTypes := #[]
  resolved := #[]
  callSites := []
  init := .initialized
  statics := none
  mirror := none

def pool0 : Array CpInfo := pool [(5, u "<init>"), (0, u "()V"), (1, .class_ 10), (1, u "java/lang/Object")] 113

def k0c0 : Code := { maxStack := 0, maxLocals := 1, code := object_method_1_code, exceptionTable := #[], attributes := #[] }
def k0m0 : Method := { name := "<init>", desc := "()V", sig := { parameters := [], returnType := none }, accessFlags := 1, code := some k0c0 }
/-- java/lang/Object -/
def k0 : Class := { plain "java/lang/Object" none with
  accessFlags := 33
  interfaces := #[]
  cf := some (fileOf pool0 8 #[] #[{ accessFlags := 1, nameIndex := 5, descriptorIndex := 6, attributes := #[] }] 33 0 #[] #[])
  fields := #[]
  methods := #[k0m0]
  instanceTypes := #[]
  staticTypes := #[]
  resolved := Array.replicate 124 none
  statics := none }

def pool1 : Array CpInfo := pool [(2, .class_ 4), (1, u "java/lang/Object"), (0, u "<init>"), (0, u "()V"), (0, .methodref 8 9), (0, .class_ 10), (0, .nameAndType 11 12), (0, u "com/example/blindroute/blindroute/lp/SparseLinesDotPinLaw"), (0, u "byteAt"), (0, u "(JI)J"), (0, .integer 2147483647), (0, .methodref 8 15), (0, .nameAndType 16 17), (0, u "term"), (0, u "([J[I[JIII)J"), (0, .class_ 19), (0, u "com/example/blindroute/blindroute/lp/SparseLines"), (0, .methodref 18 21), (0, .nameAndType 5 22), (0, u "([I[I[D)V"), (0, .methodref 18 24), (0, .nameAndType 25 26), (0, u "dot"), (0, u "(I[D)D"), (3, u "law"), (0, u "(IJIII)Z")] 8

def k1m0 : Method := { name := "<init>", desc := "()V", sig := { parameters := [], returnType := none }, accessFlags := 1, code := none }
def k1c1 : Code := { maxStack := 4, maxLocals := 3, code := method_2_code, exceptionTable := #[], attributes := #[] }
def k1m1 : Method := { name := "byteAt", desc := "(JI)J", sig := { parameters := [.long, .int], returnType := some .long }, accessFlags := 10, code := some k1c1 }
def k1c2 : Code := { maxStack := 5, maxLocals := 6, code := method_3_code, exceptionTable := #[], attributes := #[] }
def k1m2 : Method := { name := "term", desc := "([J[I[JIII)J", sig := { parameters := [(.array .long), (.array .int), (.array .long), .int, .int, .int], returnType := some .long }, accessFlags := 10, code := some k1c2 }
def k1c3 : Code := { maxStack := 8, maxLocals := 24, code := code, exceptionTable := #[], attributes := #[] }
def k1m3 : Method := { name := "law", desc := "(IJIII)Z", sig := { parameters := [.int, .long, .int, .int, .int], returnType := some .boolean }, accessFlags := 9, code := some k1c3 }
/-- com/example/blindroute/blindroute/lp/SparseLinesDotPinLaw -/
def k1 : Class := { plain "com/example/blindroute/blindroute/lp/SparseLinesDotPinLaw" (some 0) with
  accessFlags := 49
  interfaces := #[]
  cf := some (fileOf pool1 8 #[] #[{ accessFlags := 1, nameIndex := 5, descriptorIndex := 6, attributes := #[] }, { accessFlags := 10, nameIndex := 11, descriptorIndex := 12, attributes := #[] }, { accessFlags := 10, nameIndex := 16, descriptorIndex := 17, attributes := #[] }, { accessFlags := 9, nameIndex := 30, descriptorIndex := 31, attributes := #[] }] 49 2 #[] #[])
  fields := #[]
  methods := #[k1m0, k1m1, k1m2, k1m3]
  instanceTypes := #[]
  staticTypes := #[]
  resolved := Array.replicate 40 none
  statics := none }

def pool2 : Array CpInfo := pool [(1, .methodref 2 3), (0, .class_ 4), (0, .nameAndType 5 6), (0, u "java/lang/Object"), (0, u "<init>"), (0, u "()V"), (0, .fieldref 8 9), (0, .class_ 10), (0, .nameAndType 11 12), (0, u "com/example/blindroute/blindroute/lp/SparseLines"), (0, u "start"), (0, u "[I"), (0, .fieldref 8 14), (0, .nameAndType 15 12), (0, u "positions"), (0, .fieldref 8 17), (0, .nameAndType 18 19), (0, u "values"), (0, u "[D"), (0, u "([I[I[D)V"), (8, u "dot"), (0, u "(I[D)D")] 3

def k2c0 : Code := { maxStack := 2, maxLocals := 4, code := prog_32_method_1_code, exceptionTable := #[], attributes := #[] }
def k2m0 : Method := { name := "<init>", desc := "([I[I[D)V", sig := { parameters := [(.array .int), (.array .int), (.array .double)], returnType := none }, accessFlags := 0, code := some k2c0 }
def k2c1 : Code := { maxStack := 7, maxLocals := 7, code := prog_32_method_6_code, exceptionTable := #[], attributes := #[] }
def k2m1 : Method := { name := "dot", desc := "(I[D)D", sig := { parameters := [.int, (.array .double)], returnType := some .double }, accessFlags := 0, code := some k2c1 }
/-- com/example/blindroute/blindroute/lp/SparseLines -/
def k2 : Class := { plain "com/example/blindroute/blindroute/lp/SparseLines" (some 0) with
  accessFlags := 48
  interfaces := #[]
  cf := some (fileOf pool2 8 #[] #[{ accessFlags := 0, nameIndex := 5, descriptorIndex := 20, attributes := #[] }, { accessFlags := 0, nameIndex := 29, descriptorIndex := 30, attributes := #[] }] 48 2 #[] #[{ accessFlags := 18, nameIndex := 11, descriptorIndex := 12, attributes := #[] }, { accessFlags := 18, nameIndex := 15, descriptorIndex := 12, attributes := #[] }, { accessFlags := 18, nameIndex := 18, descriptorIndex := 19, attributes := #[] }])
  fields := #[{ name := "start", type := (.array .int), accessFlags := 18, slot := 0, constantValue := 0 }, { name := "positions", type := (.array .int), accessFlags := 18, slot := 1, constantValue := 0 }, { name := "values", type := (.array .double), accessFlags := 18, slot := 2, constantValue := 0 }]
  methods := #[k2m0, k2m1]
  instanceTypes := #[(.array .int), (.array .int), (.array .double)]
  staticTypes := #[]
  resolved := Array.replicate 34 none
  statics := none }

def pool3 : Array CpInfo := pool [(1, u "java/lang/Cloneable"), (0, .class_ 1), (0, u "java/lang/Object"), (0, .class_ 3)] 3

/-- java/lang/Cloneable -/
def k3 : Class := { plain "java/lang/Cloneable" (some 0) with
  accessFlags := 1537
  interfaces := #[]
  cf := some (fileOf pool3 2 #[] #[] 1537 4 #[] #[])
  fields := #[]
  methods := #[]
  instanceTypes := #[]
  staticTypes := #[]
  resolved := Array.replicate 8 none
  statics := none }

def pool4 : Array CpInfo := pool [(1, u "java/io/Serializable"), (0, .class_ 1), (0, u "java/lang/Object"), (0, .class_ 3)] 3

/-- java/io/Serializable -/
def k4 : Class := { plain "java/io/Serializable" (some 0) with
  accessFlags := 1537
  interfaces := #[]
  cf := some (fileOf pool4 2 #[] #[] 1537 4 #[] #[])
  fields := #[]
  methods := #[]
  instanceTypes := #[]
  staticTypes := #[]
  resolved := Array.replicate 8 none
  statics := none }

/-- the primitive byte -/
def k5 : Class := { plain "byte" none with kind := .primitive 'B', accessFlags := 0x411 }
/-- [B -/
def k6 : Class := { plain "[B" (some 0) with kind := .array 5 .byte, interfaces := #[3, 4], accessFlags := 1041 }

/-- the primitive int -/
def k7 : Class := { plain "int" none with kind := .primitive 'I', accessFlags := 0x411 }
/-- [I -/
def k8 : Class := { plain "[I" (some 0) with kind := .array 7 .int, interfaces := #[3, 4], accessFlags := 1041 }

/-- the primitive long -/
def k9 : Class := { plain "long" none with kind := .primitive 'J', accessFlags := 0x411 }
/-- [J -/
def k10 : Class := { plain "[J" (some 0) with kind := .array 9 .long, interfaces := #[3, 4], accessFlags := 1041 }

def k11 : Class := { plain "double" none with kind := .primitive 'D', accessFlags := 0x411 }
def k12 : Class := { plain "[D" (some 0) with kind := .array 11 .double, interfaces := #[3, 4], accessFlags := 1041 }
def heap : Heap := #[]
def classes : Array Class := #[k0, k1, k2, k3, k4, k5, k6, k7, k8, k9, k10, k11, k12]
def interned : List (Array UInt16 × Addr) := []
def slotsUsed : Nat := 0
def theMethod : MethodId := ⟨1, 3⟩
def args0 : Array Value := #[.int 5, .long 3, .int 4, .int 2, .int 1]
def aboutOver (below : List Frame) : State where
  vm := { classes := classes, interned := interned.toArray }
  heap := heap
  slotsUsed := slotsUsed
  threads := #[{ frames := .invoking theMethod args0 :: below }]
def below0 : List Frame := [.native { method := ⟨0, 0⟩, args := #[] }]
def about1 : State := aboutOver below0
def p0 : Program := .bare "" "" ""
def e0 : Env := launch0.env 0 0 0
theorem w_frames : about1.frames = Frame.invoking theMethod args0 :: below0 := rfl
set_option maxRecDepth 65536 in
theorem w_args : argsFit about1.vm theMethod args0 = true := by decide +kernel
set_option maxRecDepth 65536 in
theorem w_heap : heapFits about1 = true := by decide +kernel
set_option maxRecDepth 65536 in
theorem w_runnable : about1.curStatus? = some .runnable := by decide +kernel
set_option maxRecDepth 65536 in
theorem w_alone : about1.alone = true := by decide +kernel
set_option maxRecDepth 65536 in
theorem w_named : about1.methodNamed? x = some theMethod := by decide +kernel
set_option maxRecDepth 65536 in
theorem w_hears : about1.hears theMethod below0 = true := by decide +kernel
set_option maxRecDepth 65536 in
theorem w_ripe : about1.ripe theMethod args0 below0 = true := by decide +kernel
theorem w_running : about1.status = .running := rfl
set_option maxRecDepth 65536 in
theorem w_room : about1.hasRoom e0.platform room_1 = true :=
  launch0.hasRoom_least _ room_1 (by decide +kernel) (by decide +kernel) (by decide +kernel) (by decide +kernel) (by decide +kernel) (by decide +kernel)
theorem allAtoms_all (ts : List Jvm.Cond) (a : Array Jvm.Value) (st : Jvm.State) : (allAtoms ts).before a st = ts.all (fun c => c.before a st) := by
  induction ts with
  | nil => rfl
  | cons c t ih =>
    show (Jvm.Cond.and c (allAtoms t)).before a st = _
    rw [Jvm.Cond.before_and, ih, List.all_cons]
def words1 : List Jvm.Cond := Jvm.Cond.code x code maxLocals ret :: tables_1
/-- a 'code' word, met by the world's own term for the bytes: nothing is compared byte by byte -/
theorem code_word {y : MethodName} {bytes : ByteArray} {mx : Nat} {rt : Option FieldType} {a : Array Value} {s : State} {m : MethodId} {meth : Method} {c : Code} (h1 : s.methodNamed? y = some m) (h2 : s.vm.method? m = some meth) (h3 : meth.code = some c) (h4 : c.code = bytes)
    (h5 : (c.maxLocals == mx && c.exceptionTable.isEmpty && decide (c.maxStack ≤ mostOperands) && decide (meth.sig.returnType = rt) && !meth.locks && decide (parseMethodDescriptor y.desc = some meth.sig)) = true) : (Jvm.Cond.code y bytes mx rt).before a s = true := by
  simp only [Bool.and_eq_true, beq_iff_eq, Bool.not_eq_true', decide_eq_true_eq] at h5
  obtain ⟨⟨⟨⟨⟨g1, g2⟩, g3⟩, g4⟩, g5⟩, g6⟩ := h5
  simp [Cond.before, Cond.holds, Cond.value, h1, h2, h3, h4, g1, g2, g3, g4, g5, g6]
def isCode : Jvm.Cond → Bool
  | .code _ _ _ _ => true
  | _ => false
theorem all_split {L : List Jvm.Cond} {P : Jvm.Cond → Bool} (h1 : L.all (fun c => isCode c || P c) = true) (h2 : ∀ c ∈ L.filter isCode, P c = true) : L.all P = true := by
  refine List.all_eq_true.mpr fun c hc => ?_
  have h := List.all_eq_true.mp h1 c hc
  rcases Bool.eq_false_or_eq_true (isCode c) with hi | hi
  · exact h2 c (List.mem_filter.mpr ⟨hc, hi⟩)
  · simpa [hi] using h
set_option maxRecDepth 65536 in
theorem w_c0 : (Jvm.Cond.code x code maxLocals ret).before args0 about1 = true := code_word (m := ⟨1, 3⟩) (meth := k1m3) (c := k1c3) (by decide +kernel) rfl rfl rfl (by decide +kernel)
set_option maxRecDepth 65536 in
theorem w_c1 : (Jvm.Cond.code ({ cls := "com/example/blindroute/blindroute/lp/SparseLinesDotPinLaw", name := "byteAt", desc := "(JI)J" } : Jvm.MethodName) method_2_code (3 : Nat) (Option.some Jvm.ClassFile.FieldType.long)).before args0 about1 = true := code_word (m := ⟨1, 1⟩) (meth := k1m1) (c := k1c1) (by decide +kernel) rfl rfl rfl (by decide +kernel)
set_option maxRecDepth 65536 in
theorem w_c2 : (Jvm.Cond.code ({ cls := "com/example/blindroute/blindroute/lp/SparseLinesDotPinLaw", name := "term", desc := "([J[I[JIII)J" } : Jvm.MethodName) method_3_code (6 : Nat) (Option.some Jvm.ClassFile.FieldType.long)).before args0 about1 = true := code_word (m := ⟨1, 2⟩) (meth := k1m2) (c := k1c2) (by decide +kernel) rfl rfl rfl (by decide +kernel)
set_option maxRecDepth 65536 in
theorem w_c3 : (Jvm.Cond.code ({ cls := "com/example/blindroute/blindroute/lp/SparseLines", name := "<init>", desc := "([I[I[D)V" } : Jvm.MethodName) prog_32_method_1_code (4 : Nat) (Option.none : Option Jvm.ClassFile.FieldType)).before args0 about1 = true := code_word (m := ⟨2, 0⟩) (meth := k2m0) (c := k2c0) (by decide +kernel) rfl rfl rfl (by decide +kernel)
set_option maxRecDepth 65536 in
theorem w_c4 : (Jvm.Cond.code ({ cls := "java/lang/Object", name := "<init>", desc := "()V" } : Jvm.MethodName) object_method_1_code (1 : Nat) (Option.none : Option Jvm.ClassFile.FieldType)).before args0 about1 = true := code_word (m := ⟨0, 0⟩) (meth := k0m0) (c := k0c0) (by decide +kernel) rfl rfl rfl (by decide +kernel)
set_option maxRecDepth 65536 in
theorem w_c5 : (Jvm.Cond.code ({ cls := "com/example/blindroute/blindroute/lp/SparseLines", name := "dot", desc := "(I[D)D" } : Jvm.MethodName) prog_32_method_6_code (7 : Nat) (Option.some Jvm.ClassFile.FieldType.double)).before args0 about1 = true := code_word (m := ⟨2, 1⟩) (meth := k2m1) (c := k2c1) (by decide +kernel) rfl rfl rfl (by decide +kernel)
def codes1 : List Jvm.Cond := [Jvm.Cond.code x code maxLocals ret, Jvm.Cond.code ({ cls := "com/example/blindroute/blindroute/lp/SparseLinesDotPinLaw", name := "byteAt", desc := "(JI)J" } : Jvm.MethodName) method_2_code (3 : Nat) (Option.some Jvm.ClassFile.FieldType.long), Jvm.Cond.code ({ cls := "com/example/blindroute/blindroute/lp/SparseLinesDotPinLaw", name := "term", desc := "([J[I[JIII)J" } : Jvm.MethodName) method_3_code (6 : Nat) (Option.some Jvm.ClassFile.FieldType.long), Jvm.Cond.code ({ cls := "com/example/blindroute/blindroute/lp/SparseLines", name := "<init>", desc := "([I[I[D)V" } : Jvm.MethodName) prog_32_method_1_code (4 : Nat) (Option.none : Option Jvm.ClassFile.FieldType), Jvm.Cond.code ({ cls := "java/lang/Object", name := "<init>", desc := "()V" } : Jvm.MethodName) object_method_1_code (1 : Nat) (Option.none : Option Jvm.ClassFile.FieldType), Jvm.Cond.code ({ cls := "com/example/blindroute/blindroute/lp/SparseLines", name := "dot", desc := "(I[D)D" } : Jvm.MethodName) prog_32_method_6_code (7 : Nat) (Option.some Jvm.ClassFile.FieldType.double)]
set_option maxRecDepth 65536 in
theorem codes_eq : words1.filter isCode = codes1 := rfl
theorem w_codes : ∀ c ∈ words1.filter isCode, c.before args0 about1 = true := by
  rw [codes_eq]
  intro c hc
  simp only [codes1, List.mem_cons, List.not_mem_nil, or_false] at hc
  rcases hc with rfl | rfl | rfl | rfl | rfl | rfl
  · exact w_c0
  · exact w_c1
  · exact w_c2
  · exact w_c3
  · exact w_c4
  · exact w_c5
set_option maxRecDepth 65536 in
theorem w_t1 : (words1.take 24).all (fun c => isCode c || c.before args0 about1) = true := by decide +kernel
set_option maxRecDepth 65536 in
theorem w_t2 : (words1.drop 24).all (fun c => isCode c || c.before args0 about1) = true := by decide +kernel
theorem w_tables : (allAtoms (Jvm.Cond.code x code maxLocals ret :: tables_1)).before args0 about1 = true := by
  rw [allAtoms_all]
  show words1.all (fun c => c.before args0 about1) = true
  refine all_split ?_ w_codes
  rw [← List.take_append_drop 24 words1, List.all_append, w_t1, w_t2]
  rfl
set_option maxRecDepth 65536 in
theorem w_case : (Jvm.Cond.and given_1 narrow_1).before args0 about1 = true := by decide +kernel
theorem w_applies : (headSpec (Jvm.Cond.code x code maxLocals ret :: tables_1) room_1).applies x e0.platform about1 = true :=
  (Spec.applies_iff w_frames).mpr ⟨w_running, w_runnable, w_alone, w_named, w_hears, w_ripe, w_room, w_tables⟩
theorem atStart : AtStart classFile x code maxLocals ret World_1 tables_1 room_1 Calls_1 rest_1 Pre_1 launch0 p0 e0 about1 theMethod args0 below0 :=
  ⟨lists_1, trivial, launch0.admits_env _ _ _, launch0.least_env, fairChoices_fair.cas, fairChoices_fair.clock, w_frames, w_args, w_heap, w_applies, trivial, trivial, w_case⟩
end start1
theorem witness_1 : WitnessClaimed_1 := ⟨start1.p0, start1.e0, start1.about1, start1.theMethod, start1.args0, start1.below0, start1.atStart⟩
end Jvm.Pilot.@@N@@
