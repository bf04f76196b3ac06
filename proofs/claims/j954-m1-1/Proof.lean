import JvmDerived
import JvmDerived.Pilot.@@N@@Statement
import JvmDerived.Pilot.@@N@@Code
set_option linter.unusedVariables false
set_option linter.unusedSimpArgs false
namespace Jvm.RoadKit
open Sem ClassFile Op Lib Jvm.Stand Jvm.Free Jvm.LawKit
section New
variable {p : Program} {l : Launch} {e : Env} {R : Room} {s : State} {m : MethodId} {args : Array Value} {below : List Frame} {meth : Method} {c : Code} {T : State} {locs : List Loc} {cells slots : Nat}
theorem retI (X : Stand p l e R s m args below meth c T locs cells slots) (hx : p.tables.exec = Jvm.exec) {pc : Nat} {Ls : Array Slot} {z : Int32} {rest : List Value} (hret : meth.sig.returnType = some .int) (hd : decode c.code pc = .ok (.ireturn, 1)) {fs : List Frame}
    (hl : ∀ (f : JFrame) (acts : List Action), f.method = m → f.locked = none → f.entered = [] → (doReturn e (T.setTop f) acts (some (.int z))).1 = T.setFrames fs) : Steps p.tables e below (T.setTop (mkF m pc Ls (.int z :: rest))) (T.setFrames fs) := by
  have hm' : T.vm.method? m = some meth := X.method'
  have hn : narrow .int (.int z) = .int z := rfl
  show Steps p.tables e below (T.setTop { method := m, pc := pc, locals := Ls, stack := _ :: rest, locked := none }) _
  jvm_step X.here [X.here.top, hx, hd, hm', hret, hn]
  first | (intro acts; rw [hl _ acts rfl rfl rfl]) | rw [hl _ _ rfl rfl rfl]
  exact Steps.refl _
end New
end Jvm.RoadKit
/- laws to paste: Road.lenW, Road.empW, pair_says, chr8_lo8, narrow_ch, shr0, shr1 (cut by pick.py; bodies as the Statement names them) -/
namespace Jvm.Pilot.@@N@@
namespace StrChars
open Jvm Sem ClassFile Op Lib Jvm.Stand Jvm.Free.XT Jvm.Free.ALB Jvm.Free.JM Jvm.Free
open Jvm.Lib.Cold (StaticIs)
/-- the byte that i2b leaves of a char -/
def lo8 (x : Int32) : Int32 := x.toInt8.toInt32
def U16 : String := "java/lang/StringUTF16"
namespace Cmp5
def yN : MethodName := ⟨"java/lang/StringUTF16", "compress", "([CI[BII)I"⟩
abbrev yB : ByteArray := jdk_52_method_21_code
end Cmp5
namespace Cmp3
def yN : MethodName := ⟨"java/lang/StringUTF16", "compress", "([CII)[B"⟩
abbrev yB : ByteArray := jdk_52_method_16_code
end Cmp3
namespace CodL
def yN : MethodName := ⟨"java/lang/StringUTF16", "coderFromArrayLen", "([BI)B"⟩
abbrev yB : ByteArray := jdk_52_method_15_code
end CodL
namespace New4
def yN : MethodName := ⟨"java/lang/String", "<init>", "([CIILjava/lang/Void;)V"⟩
abbrev yB : ByteArray := jdk_42_method_149_code
end New4
namespace New1
def yN : MethodName := ⟨"java/lang/String", "<init>", "([C)V"⟩
abbrev yB : ByteArray := jdk_42_method_3_code
end New1
/-- the byte, read back as charAt reads it, is the char -/
theorem lo8_mask {x : Int32} (h0 : ¬ x < 0) (h1 : ¬ 255 < x) : lo8 x &&& 255 = x := by
  have t : ∀ k : Fin 256, lo8 (Int32.ofNat k.val) &&& 255 = Int32.ofNat k.val := by decide +kernel
  rw [Int32.lt_iff_toInt_lt] at h0 h1
  have e0 : (0 : Int32).toInt = 0 := rfl
  have e1 : (255 : Int32).toInt = 255 := rfl
  obtain ⟨k, hk⟩ : ∃ k : Nat, x.toInt = k := ⟨x.toInt.toNat, by omega⟩
  have hx : x = Int32.ofNat k := Int32.toInt_inj.mp (by rw [hk, Int32.toInt_ofNat_small (by omega)])
  rw [hx]
  exact t ⟨k, by omega⟩
end StrChars
namespace StrChars.Road
open Jvm Sem ClassFile Op Lib Jvm.Stand Jvm.Free Jvm.Free.XT
open Jvm.Lib.Cold (StaticIs)
abbrev ST : String := "java/lang/String"
/-- every table word that New1's law asks, flat -/
abbrev words : List Jvm.Cond := [.code New1.yN New1.yB 2 none, .initialized ST, .methodLink ST 27 New4.yN, .instanceMethod New4.yN,
  .code New4.yN New4.yB 6 none, .fieldLink ST 38 ST "COMPACT_STRINGS" "Z", .laysFinal ST ST "value" "[B", .fieldLink ST 9 ST "value" "[B", .laysFinal ST ST "coder" "B", .fieldLink ST 15 ST "coder" "B",
  .methodLink ST 1 Lib.objectInit, .instanceMethod Lib.objectInit, .code Lib.objectInit ⟨#[0xb1]⟩ 1 none, .methodLink ST 177 Cmp3.yN, .static Cmp3.yN, .methodLink ST 47 CodL.yN, .static CodL.yN,
  .code Cmp3.yN Cmp3.yB 6 (some (.array .byte)), .initialized U16, .arrayClass .byte, .methodLink U16 115 Cmp5.yN, .static Cmp5.yN, .code Cmp5.yN Cmp5.yB 7 (some .int), .code CodL.yN CodL.yB 2 (some .byte)]
end StrChars.Road
namespace StrChars
open Jvm Sem ClassFile Op Lib Jvm.Stand Jvm.Free.XT Jvm.Free.ALB Jvm.Free.JM Jvm.Free
open Jvm.Lib.Cold (StaticIs)
def hi8 (x : Int32) : Int32 := lo8 (x >>> ((8 : Int32) &&& 31))
/-- what StringUTF16.getChar makes of two bytes -/
def pairCh (u v : Int32) : Int32 := (((u &&& 255) <<< ((0 : Int32) &&& 31)) ||| ((v &&& 255) <<< ((8 : Int32) &&& 31))).toUInt32.toUInt16.toUInt32.toInt32
theorem shr0 (c : Int32) : c >>> ((0 : Int32) &&& 31) = c := by
  have e : ((0 : Int32) &&& 31) = 0 := by decide
  rw [e]
  apply Int32.toBitVec_inj.mp
  rw [Int32.toBitVec_shiftRight]
  have e1 : ((0 : Int32).toBitVec.smod 32) = 0#32 := by decide
  rw [e1, BitVec.sshiftRight_eq']
  exact BitVec.sshiftRight_zero
theorem lo8_and (x : Int32) : (lo8 x &&& 255).toBitVec.toNat = x.toBitVec.toNat % 256 := by
  have h : (lo8 x).toBitVec = (x.toBitVec.signExtend 8).signExtend 32 := by rw [lo8, Int8.toBitVec_toInt32, Int32.toBitVec_toInt8]
  rw [Int32.toBitVec_and, BitVec.toNat_and, h]
  have e : ((x.toBitVec.signExtend 8).signExtend 32).toNat % 256 = x.toBitVec.toNat % 256 := by
    rw [BitVec.toNat_signExtend]
    have hlt := x.toBitVec.isLt
    simp only [BitVec.toNat_setWidth, BitVec.toNat_signExtend]
    split <;> split <;> omega
  rw [← e]
  exact Nat.and_two_pow_sub_one_eq_mod _ 8
theorem pair_says {c : Int32} (h0 : ¬ c < 0) (h1 : ¬ 65535 < c) : pairCh (lo8 c) (hi8 c) = c := by
  rw [Int32.lt_iff_toInt_lt] at h0 h1
  have e0 : (0 : Int32).toInt = 0 := rfl
  have e1 : (65535 : Int32).toInt = 65535 := rfl
  have hc : c.toInt = c.toBitVec.toNat := by
    have := c.toBitVec.isLt
    have e : c.toInt = c.toBitVec.toInt := rfl
    rw [e] at h0 h1
    rw [e]
    rw [BitVec.toInt_eq_toNat_cond] at h0 h1 ⊢
    split at h0 <;> split <;> omega
  have hn : c.toBitVec.toNat < 65536 := by omega
  have a1 := lo8_and c
  have a2 : (hi8 c &&& 255).toBitVec.toNat = c.toBitVec.toNat / 256 := by
    rw [hi8, lo8_and]
    have e : ((8 : Int32) &&& 31) = 8 := by decide
    rw [e, Int32.toBitVec_shiftRight]
    have e2 : ((8 : Int32).toBitVec.smod 32) = 8#32 := by decide
    rw [e2, BitVec.sshiftRight_eq', BitVec.toNat_sshiftRight_of_msb_false (by rw [BitVec.msb_eq_false_iff_two_mul_lt]; omega)]
    show c.toBitVec.toNat >>> 8 % 256 = _
    rw [Nat.shiftRight_eq_div_pow]
    omega
  unfold pairCh
  apply Int32.toBitVec_inj.mp
  apply BitVec.eq_of_toNat_eq
  have f0 : ((0 : Int32) &&& 31) = 0 := by decide
  have f8 : ((8 : Int32) &&& 31) = 8 := by decide
  rw [f0, f8]
  have g : (((lo8 c &&& 255) <<< (0 : Int32)) ||| ((hi8 c &&& 255) <<< (8 : Int32))).toBitVec.toNat = c.toBitVec.toNat := by
    rw [Int32.toBitVec_or, Int32.toBitVec_shiftLeft, Int32.toBitVec_shiftLeft]
    have s0 : ((0 : Int32).toBitVec.smod 32) = 0#32 := by decide
    have s8 : ((8 : Int32).toBitVec.smod 32) = 8#32 := by decide
    rw [s0, s8, BitVec.toNat_or]
    simp only [BitVec.shiftLeft_eq', BitVec.toNat_shiftLeft, a1, a2]
    show (c.toBitVec.toNat % 256) <<< 0 % 2 ^ 32 ||| (c.toBitVec.toNat / 256) <<< 8 % 2 ^ 32 = _
    rw [Nat.shiftLeft_zero, Nat.mod_eq_of_lt (show c.toBitVec.toNat % 256 < 2 ^ 32 by omega), Nat.mod_eq_of_lt (show (c.toBitVec.toNat / 256) <<< 8 < 2 ^ 32 by rw [Nat.shiftLeft_eq]; omega), Nat.or_comm, ← Nat.shiftLeft_add_eq_or_of_lt (by omega), Nat.shiftLeft_eq]
    omega
  show BitVec.toNat (((((lo8 c &&& 255) <<< (0 : Int32)) ||| ((hi8 c &&& 255) <<< (8 : Int32))).toBitVec.setWidth 16).setWidth 32) = _
  rw [BitVec.toNat_setWidth, BitVec.toNat_setWidth, g]
  omega
end StrChars
namespace StrChars
open Jvm Sem ClassFile Op Lib Jvm.Stand Jvm.Free.XT Jvm.Free.ALB Jvm.Free.JM Jvm.Free
open Jvm.Lib.Cold (StaticIs)
theorem shr1 {n : Nat} (h : 2 * n < 2 ^ 31) : Int32.ofNat (2 * n) >>> ((1 : Int32) &&& 31) = Int32.ofNat n := by
  have e : ((1 : Int32) &&& 31) = 1 := by decide
  rw [e]
  apply Int32.toBitVec_inj.mp
  rw [Int32.toBitVec_shiftRight]
  have e1 : ((1 : Int32).toBitVec.smod 32) = 1#32 := by decide
  have hm : (BitVec.ofNat 32 (2 * n)).toNat = 2 * n := by rw [BitVec.toNat_ofNat, Nat.mod_eq_of_lt (by omega)]
  rw [e1, BitVec.sshiftRight_eq']
  apply BitVec.eq_of_toNat_eq
  show ((BitVec.ofNat 32 (2 * n)).sshiftRight 1).toNat = (BitVec.ofNat 32 n).toNat
  rw [BitVec.toNat_sshiftRight_of_msb_false (by rw [BitVec.msb_eq_false_iff_two_mul_lt, hm]; omega), hm, BitVec.toNat_ofNat, Nat.shiftRight_eq_div_pow]
  omega
/-- charAt's cast of a byte read back -/
def chr8 (u : Int32) : Int32 := (u &&& 255).toUInt32.toUInt16.toUInt32.toInt32
theorem chr8_lo8 {c : Int32} (h0 : ¬ c < 0) (h1 : ¬ 255 < c) : chr8 (lo8 c) = c := by
  have t : ∀ k : Fin 256, (Int32.ofNat k.val).toUInt32.toUInt16.toUInt32.toInt32 = Int32.ofNat k.val := by decide +kernel
  unfold chr8
  rw [lo8_mask h0 h1]
  rw [Int32.lt_iff_toInt_lt] at h0 h1
  have e0 : (0 : Int32).toInt = 0 := rfl
  have e1 : (255 : Int32).toInt = 255 := rfl
  obtain ⟨k, hk⟩ : ∃ k : Nat, c.toInt = k := ⟨c.toInt.toNat, by omega⟩
  have hx : c = Int32.ofNat k := Int32.toInt_inj.mp (by rw [hk, Int32.toInt_ofNat_small (by omega)])
  rw [hx]
  exact t ⟨k, by omega⟩
theorem narrow_ch {c : Int32} (h0 : ¬ c < 0) (h1 : ¬ 65535 < c) : narrow .char (.int c) = .int c := by
  have q : narrow .char (.int (pairCh (lo8 c) (hi8 c))) = .int (pairCh (lo8 c) (hi8 c)) := narrow_c _
  rwa [pair_says h0 h1] at q
/-- the array's cell V codes the n chars f 0 .. f (n - 1) by the coder cd, as the JDK does: coder 1 just where some char is above 255 -/
def Cod (cd : Int32) (n : Nat) (f : Nat → Int32) (V : Cell) : Prop := (cd = 0 ∧ V.slots.size = n ∧ ∀ j, j < n → V.slots[j]? = some (.int (lo8 (f j))) ∧ ¬ 255 < f j) ∨ (cd = 1 ∧ V.slots.size = 2 * n ∧ (∀ j, j < n → V.slots[2 * j]? = some (.int (lo8 (f j))) ∧ V.slots[2 * j + 1]? = some (.int (hi8 (f j)))) ∧ ∃ j, j < n ∧ 255 < f j)
theorem Cod.cd {cd : Int32} {n : Nat} {f : Nat → Int32} {V : Cell} (h : Cod cd n f V) : cd = 0 ∨ cd = 1 := h.imp (fun q => q.1) fun q => q.1
theorem Cod.len {cd : Int32} {n : Nat} {f : Nat → Int32} {V : Cell} (h : Cod cd n f V) (hs : V.slots.size < 2 ^ 31) : Int32.ofNat V.slots.size >>> (cd &&& 31) = Int32.ofNat n := by
  rcases h with ⟨rfl, h, -⟩ | ⟨rfl, h, -⟩
  · rw [shr0, h]
  · rw [h, shr1 (by omega)]
/-- **x is a String of the n chars f 0 .. f (n - 1)**, Latin-1 or UTF-16; its array at t has the cell V -/
def Txt (x t : Addr) (V : Cell) (cd : Int32) (n : Nat) (f : Nat → Int32) (U : State) : Prop := Exact "java/lang/String" x U ∧ Has x "java/lang/String" "value" "[B" (.ref t) U ∧ Has x "java/lang/String" "coder" "B" (.int cd) U ∧ XT.Arr .byte t V U ∧ Cod cd n f V ∧ ∀ j, j < n → ¬ f j < 0 ∧ ¬ 65535 < f j
theorem Txt.mv {x t : Addr} {V : Cell} {cd : Int32} {n : Nat} {f : Nat → Int32} {U U' : State} (h : Txt x t V cd n f U) (hal : U.vm.Alike U'.vm) (hh : U'.heap = U.heap) : Txt x t V cd n f U' := ⟨h.1.mv hal hh, h.2.1.mv hal hh, h.2.2.1.mv hal hh, h.2.2.2.1.mv hal hh, h.2.2.2.2⟩
namespace Cdr
def yN : MethodName := ⟨"java/lang/String", "coder", "()B"⟩
abbrev yB : ByteArray := jdk_42_method_152_code
theorem d0 : decode yB 0 = .ok (.getstatic 38, 3) := by decide +kernel
theorem d3 : decode yB 3 = .ok (.ifCond (.eq) 10, 3) := by decide +kernel
theorem d6 : decode yB 6 = .ok (.aload_n 0, 1) := by decide +kernel
theorem d7 : decode yB 7 = .ok (.getfield 15, 3) := by decide +kernel
theorem d10 : decode yB 10 = .ok (.goto 4, 3) := by decide +kernel
theorem d14 : decode yB 14 = .ok (.ireturn, 1) := by decide +kernel
def site : List Cond := [.fieldLink "java/lang/String" 38 "java/lang/String" "COMPACT_STRINGS" "Z", .fieldLink "java/lang/String" 15 "java/lang/String" "coder" "B"]
def tab : Cond := tabOf yN yB 1 (some .byte) site
def P (x : Addr) (cd z : Int32) (args : Array Value) (s : State) : Prop := args = #[.ref x] ∧ Has x "java/lang/String" "coder" "B" (.int cd) s ∧ (cd = 0 ∨ cd = 1) ∧ StaticIs s "java/lang/String" "COMPACT_STRINGS" "Z" (.int z) ∧ ¬ z = 0
def E (cd : Int32) (r : Option Value) (s u : State) : Prop := XT.PureE (some (.int cd)) r s u
theorem law (l : Launch) (x : Addr) (cd z : Int32) : Law l yN 1 0 0 0 yB 1 (some .byte) site (P x cd z) (E cd) [] 0 0 := by
  refine Law.of_walk (plainFor_of_name (by decide +kernel)) (by decide +kernel) (by decide +kernel) (by decide) (fun _ _ h => by rw [h.1]; rfl) (fun _ U U' hal hh h => ⟨h.1, h.2.1.mv hal hh, h.2.2.1, h.2.2.2.1.there hal hh, h.2.2.2.2⟩) (fun r U U' V V' h1 hal h2 h => XT.PureE.mv r U U' V V' h1 hal h2 h) ?_
  intro p e s m args below meth c s₁ X0 hexec hbytes hml hret hlk hnm hown hh0 W hP
  obtain ⟨rfl, hx, hc, s1, hz⟩ := hP
  have c1 : Steps p.tables e below (s₁.setTop (entryFrame m #[.ref x] 1)) (s₁.setTop (mkF m 0 #[.val (.ref x)] [])) := entry rfl
  obtain ⟨T2, X2, q2, st2⟩ := X0.sget hexec hown (wk W (.fieldLink "java/lang/String" 38 "java/lang/String" "COMPACT_STRINGS" "Z")) s1 (fun _ _ h => by rw [hh0]; exact h) (g := (mkF m 0 #[.val (.ref x)] [])) rfl (hb hbytes d0)
  have hh2 := q2.trans hh0
  have c3 : Steps p.tables e below (s₁.setTop (entryFrame m #[.ref x] 1)) (T2.setTop (mkF m 7 #[.val (.ref x)] [.ref x])) := (c1.trans (st2 _ (Steps.refl _))).trans (by
    refine XS.ifNo X2.here hexec rfl (hb hbytes d3) rfl (i0_eq_f hz) ?_
    refine XS.aloadN X2.here hexec rfl (hb hbytes d6) rfl rfl ?_
    exact Steps.refl _)
  obtain ⟨T4, X4, q4, st4⟩ := X2.hget hexec hown (wk W (.fieldLink "java/lang/String" 15 "java/lang/String" "coder" "B")) (hx.mv X2.warmed.alike hh2) (g := (mkF m 7 #[.val (.ref x)] [.ref x])) rfl (rest := []) rfl (hb hbytes d7)
  have c5 : Steps p.tables e below (s₁.setTop (entryFrame m #[.ref x] 1)) (T4.setTop (mkF m 14 #[.val (.ref x)] [.int cd])) := (c3.trans (st4 _ (Steps.refl _))).trans (by
    refine XS.goto X4.here hexec rfl (pc0 := 10) rfl (hb hbytes d10) (by decide) rfl ?_
    exact Steps.refl _)
  exact ⟨T4, some (.int cd), _, _, _, X4, rfl, rfl, rfl, (fun h => by cases h), ⟨rfl, q4.trans hh2⟩, fun fs hl => c5.trans (X4.ireturnOut hexec hret (by rcases hc with rfl | rfl <;> rfl) (Or.inr (Or.inr (Or.inl rfl))) (hb hbytes d14) hl)⟩
end Cdr
namespace Len
def yN : MethodName := ⟨"java/lang/String", "length", "()I"⟩
abbrev yB : ByteArray := jdk_42_method_54_code
theorem d0 : decode yB 0 = .ok (.aload_n 0, 1) := by decide +kernel
theorem d1 : decode yB 1 = .ok (.getfield 9, 3) := by decide +kernel
theorem d4 : decode yB 4 = .ok (.arraylength, 1) := by decide +kernel
theorem d5 : decode yB 5 = .ok (.aload_n 0, 1) := by decide +kernel
theorem d6 : decode yB 6 = .ok (.invokevirtual 335, 3) := by decide +kernel
theorem d9 : decode yB 9 = .ok (.ishr, 1) := by decide +kernel
theorem d10 : decode yB 10 = .ok (.ireturn, 1) := by decide +kernel
def site : List Cond := [.fieldLink "java/lang/String" 9 "java/lang/String" "value" "[B", Cdr.tab] ++ virtW "java/lang/String" 335 "java/lang/String" Cdr.yN Cdr.yN
def tab : Cond := tabOf yN yB 1 (some .int) site
def P (x t : Addr) (V : Cell) (cd : Int32) (n : Nat) (f : Nat → Int32) (z : Int32) (args : Array Value) (s : State) : Prop := args = #[.ref x] ∧ Txt x t V cd n f s ∧ StaticIs s "java/lang/String" "COMPACT_STRINGS" "Z" (.int z) ∧ ¬ z = 0
def E (n : Nat) (r : Option Value) (s u : State) : Prop := XT.PureE (some (.int (Int32.ofNat n))) r s u
/-- length() of a String of n chars, in either coding -/
theorem law (l : Launch) (x t : Addr) (V : Cell) (cd : Int32) (n : Nat) (f : Nat → Int32) (z : Int32) : Law l yN 1 0 1 13 yB 1 (some .int) site (P x t V cd n f z) (E n) [] 0 0 := by
  refine Law.of_walk (plainFor_of_name (by decide +kernel)) (by decide +kernel) (by decide +kernel) (by decide) (fun _ _ h => by rw [h.1]; rfl) (fun _ U U' hal hh h => ⟨h.1, h.2.1.mv hal hh, h.2.2.1.there hal hh, h.2.2.2⟩) (fun r U U' V V' h1 hal h2 h => XT.PureE.mv r U U' V V' h1 hal h2 h) ?_
  intro p e s m args below meth c s₁ X0 hexec hbytes hml hret hlk hnm hown hh0 W hP
  obtain ⟨rfl, hx, s1, hz⟩ := hP
  have v31 := hx.2.2.2.1.2.2.2
  have c1 : Steps p.tables e below (s₁.setTop (entryFrame m #[.ref x] 1)) (s₁.setTop (mkF m 1 #[.val (.ref x)] [.ref x])) := Steps.trans (entry rfl) (by
    show Steps p.tables e below (s₁.setTop (mkF m 0 #[.val (.ref x)] [])) _
    refine XS.aloadN X0.here hexec rfl (hb hbytes d0) rfl rfl ?_
    exact Steps.refl _)
  obtain ⟨T2, X2, q2, st2⟩ := X0.hget hexec hown (wk W (.fieldLink "java/lang/String" 9 "java/lang/String" "value" "[B")) (hx.mv X0.warmed.alike hh0).2.1 (g := (mkF m 1 #[.val (.ref x)] [.ref x])) rfl (rest := []) rfl (hb hbytes d1)
  have hh2 := q2.trans hh0
  have hx2 := hx.mv X2.warmed.alike hh2
  have c3 : Steps p.tables e below (s₁.setTop (entryFrame m #[.ref x] 1)) (T2.setTop (mkF m 6 #[.val (.ref x)] [.ref x, .int (Int32.ofNat V.slots.size)])) := (c1.trans (st2 _ (Steps.refl _))).trans (by
    refine X2.alen hexec hx2.2.2.2.1 rfl rfl (hb hbytes d4) ?_
    refine XS.aloadN X2.here hexec rfl (hb hbytes d5) rfl rfl ?_
    exact Steps.refl _)
  obtain ⟨v4, T4, X4, E4, g4⟩ := X2.callV hexec (Cdr.law l x cd z) hown (wks W (virtW "java/lang/String" 335 "java/lang/String" Cdr.yN Cdr.yN)) rfl (by decide) (wk W Cdr.tab) (W := 1) (Nat.le_of_ble_eq_true rfl) (Nat.le_of_ble_eq_true rfl) (Nat.le_refl _) (Nat.le_refl _) (hx2.1.fc X2.warmed.alike) hx2.1.is (g := (mkF m 6 #[.val (.ref x)] [.ref x, .int (Int32.ofNat V.slots.size)])) rfl (by rw [hml]; rfl) c3 (argsL := []) (rest := [.int (Int32.ofNat V.slots.size)]) rfl rfl (by show 2 * 0 + (1 + 0) ≤ _; decide) (hb hbytes d6) (⟨rfl, hx2.2.2.1, hx.2.2.2.2.1.cd, s1.there X2.warmed.alike hh2, hz⟩)
  obtain ⟨rfl, q4⟩ := E4
  have c5 : Steps p.tables e below (s₁.setTop (entryFrame m #[.ref x] 1)) (T4.setTop (mkF m 10 #[.val (.ref x)] [.int (Int32.ofNat V.slots.size >>> (cd &&& 31))])) := Steps.trans g4 (by
    refine ishr X4.here hexec rfl (hb hbytes d9) rfl ?_
    exact Steps.refl _)
  rw [hx.2.2.2.2.1.len v31] at c5
  exact ⟨T4, some (.int (Int32.ofNat n)), _, _, _, X4, rfl, rfl, rfl, (fun h => by cases h), ⟨rfl, q4.trans hh2⟩, fun fs hl => c5.trans (X4.ireturnOut hexec hret rfl (Or.inl rfl) (hb hbytes d10) hl)⟩
theorem pays {l : Launch} {R : Room} {p : Program} {e : Env} {below : List Frame} {s : State} {sargs : Array Value} {len W : Nat} (x t : Addr) (V : Cell) (cd : Int32) (n : Nat) (f : Nat → Int32) (z : Int32) (htab : tab.before sargs s = true) (hfr : 2 ≤ R.frames) (hlo : W + 25 ≤ R.locals) :
    Back l R p e below s sargs yN len W (fun A₁ a₁ => A₁.cells + 0 ≤ R.cells ∧ A₁.slots + 0 ≤ R.slots ∧ P x t V cd n f z a₁ A₁.U) (fun A₁ _ v₁ B₁ => E n v₁ A₁.U B₁.U ∧ B₁.locs = A₁.locs ++ [] ∧ B₁.cells = A₁.cells + 0 ∧ B₁.slots = A₁.slots + 0) :=
  (law l x t V cd n f z).pays htab hfr (by omega)
end Len
end StrChars
namespace StrChars.Road
open Jvm Sem ClassFile Op Lib Jvm.Stand Jvm.Free Jvm.Free.XT
open Jvm.Lib.Cold (StaticIs)
theorem consq {a : Array Value} {s : State} {c : Jvm.Cond} {L : List Jvm.Cond} (h0 : c.before a s = true) (h : ∀ w ∈ L, w.before a s = true) : ∀ w ∈ c :: L, w.before a s = true := fun w hw => (List.mem_cons.mp hw).elim (fun e => e ▸ h0) (h w)
/-- the words of String.length(), either coding -/
abbrev wordsLen : List Jvm.Cond := [.code Len.yN Len.yB 1 (some .int), .initialized ST, .fieldLink ST 9 ST "value" "[B", .fieldLink ST 38 ST "COMPACT_STRINGS" "Z", .fieldLink ST 15 ST "coder" "B", .code Cdr.yN Cdr.yB 1 (some .byte), .methodLink ST 335 Cdr.yN, .declares Cdr.yN, .selects ST Cdr.yN Cdr.yN, .instanceMethod Cdr.yN]
theorem tabLen_of {a : Array Value} {s : State} (h : ∀ w ∈ wordsLen, w.before a s = true) : Len.tab.before a s = true := by
  have hc : Cdr.tab.before a s = true := unparts (wk h (.code Cdr.yN Cdr.yB 1 (some .byte))) (wks h (.initialized Cdr.yN.cls :: Cdr.site))
  have q := consq hc h
  exact unparts (wk q (.code Len.yN Len.yB 1 (some .int))) (wks q (.initialized Len.yN.cls :: Len.site))
theorem movedLen {Z s : State} {a0 args : Array Value} (hZ : Z.Warmed39 s.vm) (hw : ∀ d ∈ wordsLen, d.before a0 Z = true) : ∀ d ∈ wordsLen, d.before args s = true := fun d hd => by
  have q := hw d hd
  have t : ∀ d ∈ wordsLen, d = .arrayClass .byte ∨ (d.onTables && d.keepsFace) = true := by decide +kernel
  rcases t d hd with rfl | t
  · exact RoadKit.mvA hZ q
  · exact RoadKit.mv hZ q t
/-- the bytes of the chars cs, low before high -/
def wideBytes : List Int32 → List Value
  | [] => []
  | c :: cs => .int (lo8 c) :: .int (hi8 c) :: wideBytes cs
theorem wide_lo (d : Value) : ∀ (cs : List Int32) (j : Nat), j < cs.length → (wideBytes cs).getD (2 * j) d = .int (lo8 (cs.getD j 0))
  | [], j, h => absurd h (Nat.not_lt_zero j)
  | c :: cs, 0, _ => rfl
  | c :: cs, j + 1, h => by
    have q := wide_lo d cs j (by simpa using h)
    rw [show 2 * (j + 1) = 2 * j + 1 + 1 from by omega]
    simpa [wideBytes] using q
theorem wide_hi (d : Value) : ∀ (cs : List Int32) (j : Nat), j < cs.length → (wideBytes cs).getD (2 * j + 1) d = .int (hi8 (cs.getD j 0))
  | [], j, h => absurd h (Nat.not_lt_zero j)
  | c :: cs, 0, _ => rfl
  | c :: cs, j + 1, h => by
    have q := wide_hi d cs j (by simpa using h)
    rw [show 2 * (j + 1) + 1 = 2 * j + 1 + 1 + 1 from by omega]
    simpa [wideBytes] using q
theorem low_at (d : Value) (cs : List Int32) (j : Nat) (h : j < cs.length) : (cs.map fun c => Value.int (lo8 c)).getD j d = .int (lo8 (cs.getD j 0)) := by
  simp [List.getD_eq_getElem?_getD, h]
/-- an array of N2 bytes vs codes the chars cs by the coder cd -/
def CodA (cs : List Int32) (cd N2 : Int32) (vs : List Value) : Prop := (cd = 0 ∧ N2 = Int32.ofNat cs.length ∧ vs = (cs.map fun c => Value.int (lo8 c)) ∧ ∀ c ∈ cs, ¬ 255 < c) ∨ (cd = 1 ∧ N2 = Int32.ofNat (2 * cs.length) ∧ vs = wideBytes cs ∧ ∃ c ∈ cs, 255 < c)
theorem CodA.cod {cs : List Int32} {cd N2 : Int32} {vs : List Value} {V : Cell} (h : CodA cs cd N2 vs) (hn : 2 * cs.length < 2 ^ 31) (hs : V.slots.size = N2.toNatClampNeg) (hv : RoadKit.Has V vs (.int 0)) : Cod cd cs.length (fun j => cs.getD j 0) V := by
  rcases h with ⟨rfl, rfl, rfl, h⟩ | ⟨rfl, rfl, rfl, c, hc, hw⟩
  · rw [n32 (by omega)] at hs
    exact Or.inl ⟨rfl, hs, fun j hj => ⟨by rw [hv j (by omega), low_at _ _ _ hj], by
      have e : cs.getD j 0 = cs[j] := by simp [List.getD_eq_getElem?_getD, hj]
      show ¬ 255 < cs.getD j 0
      rw [e]; exact h _ (List.getElem_mem _)⟩⟩
  · rw [n32 (by omega)] at hs
    obtain ⟨j, hj, rfl⟩ := List.getElem_of_mem hc
    exact Or.inr ⟨rfl, hs, fun j hj => ⟨by rw [hv _ (by omega), wide_lo _ _ _ hj], by rw [hv _ (by omega), wide_hi _ _ _ hj]⟩, j, hj, by
      have e : cs.getD j 0 = cs[j] := by simp [List.getD_eq_getElem?_getD, hj]
      show 255 < cs.getD j 0
      rw [e]; exact hw⟩
/-- an object of exactly java/lang/String, its two fields found: as the laws ask it -/
theorem strObj {Z U : State} {a0 : Array Value} {kI : Nat} (wi : (Jvm.Cond.instantiable ST kI).before a0 Z = true) (al : Z.vm.Alike U.vm) {x : Addr} {v0 c0 : Value} (E : RoadKit.Exa Z U.heap x ST) (V : RoadKit.Fld Z U.heap x ST "value" "[B" v0) (C : RoadKit.Fld Z U.heap x ST "coder" "B" c0) :
    ∃ (D : Cell) (fV fC : Field), Blank ST x D U ∧ Found ST "value" "[B" fV U ∧ Found ST "coder" "B" fC U ∧ D.slots[fV.slot]? = some v0 ∧ D.slots[fC.slot]? = some c0 ∧ RoadKit.slotOf Z ST "value" "[B" = fV.slot ∧ RoadKit.slotOf Z ST "coder" "B" = fC.slot := by
  obtain ⟨D, cfV, kV, iV, fV, hD, gV, stV, knV, obV, asV, slV⟩ := V
  obtain ⟨D', cfC, kC, iC, fC, hD', gC, stC, -, -, asC, slC⟩ := C
  cases hD.symm.trans hD'
  obtain ⟨D2, kD, e1, e2, e3, e4, e5⟩ := E
  cases hD.symm.trans e1
  obtain ⟨c2, k2, i1, i2, i3, -⟩ := Cond.instantiable_spec wi
  cases e2.symm.trans i1
  cases e3.symm.trans i2
  obtain ⟨kU, u1, u2⟩ := al.2.2 _ _ e3
  exact ⟨D, fV, fC, ⟨hD, ⟨knV, fun q hq => by rw [hq] at obV; cases obV⟩, by rw [al.findClass]; exact e2, kU, u1, by rw [u2]; exact i3, by rw [u2]; exact e5 i3⟩, ⟨SBG.found_only al ⟨cfV, kV, iV, gV⟩, stV⟩, ⟨SBG.found_only al ⟨cfC, kC, iC, gC⟩, stC⟩, slV, slC, by simp [RoadKit.slotOf, gV], by simp [RoadKit.slotOf, gC]⟩
theorem sta_is {Z U : State} (al : Z.vm.Alike U.vm) {C n d : String} {v : Value} (S : RoadKit.Sta Z U.heap C n d v) : StaticIs U C n d v := by
  obtain ⟨cfS, iS, kS, fS, st, cS, t1, t2, t3, t4, t5, t6, t7⟩ := S
  exact StaticIs.there (s := { Z with heap := U.heap }) ⟨cfS, iS, kS, fS, st, cS, t1, t2, t3, t4, t5, (fun q => by rw [q] at t6; cases t6), t7⟩ al rfl
/-- **length() OF SUCH A STRING** -/
theorem lenW {p : Program} {l : Launch} {e : Env} {R : Room} {s : State} {args : Array Value} {below : List Frame} {len W : Nat} {Z : State} {a0 : Array Value} {h : Heap} (hZ : Z.Warmed39 s.vm) (hw : ∀ d ∈ wordsLen, d.before a0 Z = true) {kI : Nat} (wi : (Jvm.Cond.instantiable ST kI).before a0 Z = true)
    {x t : Addr} {kb : ClassId} {cs : List Int32} {cd N2 z : Int32} {vs : List Value} (E : RoadKit.Exa Z h x ST) (V : RoadKit.Fld Z h x ST "value" "[B" (.ref t)) (C : RoadKit.Fld Z h x ST "coder" "B" (.int cd)) (K : RoadKit.Arv Z h t kb .byte N2 vs (.int 0)) (hc : CodA cs cd N2 vs) (hb : ∀ c ∈ cs, ¬ c < 0 ∧ ¬ (65535 : Int32) < c)
    (S : RoadKit.Sta Z h ST "COMPACT_STRINGS" "Z" (.int z)) (hz : ¬ z = 0) (l2 : cs.length ≤ 4000) (hfr : 2 ≤ R.frames) (hlo : W + 25 ≤ R.locals) :
    Back l R p e below s args (⟨"java/lang/String", "length", "()I"⟩ : MethodName) len W (fun P a => a = #[.ref x] ∧ P.U.heap = h ∧ P.cells + 0 ≤ R.cells ∧ P.slots + 0 ≤ R.slots)
      (fun P _ v B => ∃ L, (v = some (.int (Int32.ofNat cs.length)) ∧ L = [] ∧ B.U.heap = h) ∧ B.locs = P.locs ++ L ∧ B.cells = P.cells + 0 ∧ B.slots = P.slots + 0) := by
  obtain ⟨A, K1, K2, K3, K4, K5, K6⟩ := K
  have hcod := hc.cod (by omega) K3 K5
  intro m meth c P g ig mk a X hg hsize hdg hW hn hp'
  obtain ⟨rfl, rfl, r1, r2⟩ := hp'
  have al : Z.vm.Alike P.U.vm := hZ.alike.trans X.warmed.alike
  obtain ⟨D, fV, fC, hB, F1, F2, g1, g2, -, -⟩ := strObj wi al E V C
  have hx : Txt x t A cd cs.length (fun j => cs.getD j 0) P.U := ⟨⟨_, hB.2.2.1, D, hB.1, rfl, by cases q : D.vm <;> first | rfl | exact absurd q (hB.2.1.2 _)⟩, Has.of hB F1 g1, Has.of hB F2 g2, ⟨K1.1, State.isArrayOf_alike al K1.2.1, K1.2.2, by rcases hcod with ⟨-, q, -⟩ | ⟨-, q, -⟩ <;> omega⟩, hcod, fun j hj => by
    have e : cs.getD j 0 = cs[j] := by simp [List.getD_eq_getElem?_getD, hj]
    show ¬ cs.getD j 0 < 0 ∧ ¬ 65535 < cs.getD j 0
    rw [e]; exact hb _ (List.getElem_mem _)⟩
  obtain ⟨v, B, X', ⟨⟨hv, hh⟩, hl, hk, hs⟩, st⟩ := Len.pays x t A cd cs.length (fun j => cs.getD j 0) z (tabLen_of (movedLen hZ hw)) hfr hlo m meth c P g ig mk _ X hg hsize hdg hW hn ⟨r1, r2, rfl, hx, sta_is al S, hz⟩
  exact ⟨v, B, X', ⟨[], ⟨hv, rfl, hh⟩, hl, hk, hs⟩, st⟩
end StrChars.Road
namespace StrChars
open Jvm Sem ClassFile Op Lib Jvm.Stand Jvm.Free.XT Jvm.Free.ALB Jvm.Free.JM Jvm.Free
open Jvm.Lib.Cold (StaticIs)
namespace Emp
def yN : MethodName := ⟨"java/lang/String", "isEmpty", "()Z"⟩
abbrev yB : ByteArray := jdk_42_method_55_code
theorem d0 : decode yB 0 = .ok (.aload_n 0, 1) := by decide +kernel
theorem d1 : decode yB 1 = .ok (.getfield 9, 3) := by decide +kernel
theorem d4 : decode yB 4 = .ok (.arraylength, 1) := by decide +kernel
theorem d5 : decode yB 5 = .ok (.ifCond (.ne) 7, 3) := by decide +kernel
theorem d8 : decode yB 8 = .ok (.iconst 1, 1) := by decide +kernel
theorem d9 : decode yB 9 = .ok (.goto 4, 3) := by decide +kernel
theorem d12 : decode yB 12 = .ok (.iconst 0, 1) := by decide +kernel
theorem d13 : decode yB 13 = .ok (.ireturn, 1) := by decide +kernel
def site : List Cond := [.fieldLink "java/lang/String" 9 "java/lang/String" "value" "[B"]
def tab : Cond := tabOf yN yB 1 (some .boolean) site
def P (x t : Addr) (V : Cell) (cd : Int32) (n : Nat) (f : Nat → Int32) (args : Array Value) (s : State) : Prop := args = #[.ref x] ∧ Txt x t V cd n f s
def E (n : Nat) (r : Option Value) (s u : State) : Prop := XT.PureE (some (.int (if n = 0 then 1 else 0))) r s u
/-- isEmpty() of a String of n chars -/
theorem law (l : Launch) (x t : Addr) (V : Cell) (cd : Int32) (n : Nat) (f : Nat → Int32) : Law l yN 1 0 0 0 yB 1 (some .boolean) site (P x t V cd n f) (E n) [] 0 0 := by
  refine Law.of_walk (plainFor_of_name (by decide +kernel)) (by decide +kernel) (by decide +kernel) (by decide) (fun _ _ h => by rw [h.1]; rfl) (fun _ U U' hal hh h => ⟨h.1, h.2.mv hal hh⟩) (fun r U U' V V' h1 hal h2 h => XT.PureE.mv r U U' V V' h1 hal h2 h) ?_
  intro p e s m args below meth c s₁ X0 hexec hbytes hml hret hlk hnm hown hh0 W hP
  obtain ⟨rfl, hx⟩ := hP
  have v31 := hx.2.2.2.1.2.2.2
  have c1 : Steps p.tables e below (s₁.setTop (entryFrame m #[.ref x] 1)) (s₁.setTop (mkF m 1 #[.val (.ref x)] [.ref x])) := Steps.trans (entry rfl) (by
    show Steps p.tables e below (s₁.setTop (mkF m 0 #[.val (.ref x)] [])) _
    refine XS.aloadN X0.here hexec rfl (hb hbytes d0) rfl rfl ?_
    exact Steps.refl _)
  obtain ⟨T2, X2, q2, st2⟩ := X0.hget hexec hown (wk W (.fieldLink "java/lang/String" 9 "java/lang/String" "value" "[B")) (hx.mv X0.warmed.alike hh0).2.1 (g := (mkF m 1 #[.val (.ref x)] [.ref x])) rfl (rest := []) rfl (hb hbytes d1)
  have hh2 := q2.trans hh0
  have hx2 := hx.mv X2.warmed.alike hh2
  have c3 : Steps p.tables e below (s₁.setTop (entryFrame m #[.ref x] 1)) (T2.setTop (mkF m 5 #[.val (.ref x)] [.int (Int32.ofNat V.slots.size)])) := (c1.trans (st2 _ (Steps.refl _))).trans (by
    refine X2.alen hexec hx2.2.2.2.1 rfl rfl (hb hbytes d4) ?_
    exact Steps.refl _)
  have hz : V.slots.size = 0 ↔ n = 0 := by
    rcases hx.2.2.2.2.1 with ⟨-, q, -⟩ | ⟨-, q, -⟩ <;> omega
  by_cases h0 : n = 0
  · have c4 : Steps p.tables e below (s₁.setTop (entryFrame m #[.ref x] 1)) (T2.setTop (mkF m 13 #[.val (.ref x)] [.int 1])) := c3.trans (by
      refine XS.ifNo X2.here hexec rfl (hb hbytes d5) rfl (i0_ne_f (by rw [hz.mpr h0]; rfl)) ?_
      refine iconstV X2.here hexec rfl 1 (hb hbytes d8) (by decide) ?_
      refine XS.goto X2.here hexec rfl (pc0 := 9) rfl (hb hbytes d9) (by decide) rfl ?_
      exact Steps.refl _)
    exact ⟨T2, some (.int 1), _, _, _, X2, rfl, rfl, rfl, (fun h => by cases h), ⟨by rw [if_pos h0], hh2⟩, fun fs hl => c4.trans (X2.ireturnOut hexec hret rfl (Or.inr (Or.inl rfl)) (hb hbytes d13) hl)⟩
  · have c4 : Steps p.tables e below (s₁.setTop (entryFrame m #[.ref x] 1)) (T2.setTop (mkF m 13 #[.val (.ref x)] [.int 0])) := c3.trans (by
      refine XS.ifYes X2.here hexec rfl (pc0 := 5) rfl (hb hbytes d5) rfl (i0_ne_t (nz32 v31 (by omega))) (by decide) rfl ?_
      refine iconstV X2.here hexec rfl 0 (hb hbytes d12) (by decide) ?_
      exact Steps.refl _)
    exact ⟨T2, some (.int 0), _, _, _, X2, rfl, rfl, rfl, (fun h => by cases h), ⟨by rw [if_neg h0], hh2⟩, fun fs hl => c4.trans (X2.ireturnOut hexec hret rfl (Or.inr (Or.inl rfl)) (hb hbytes d13) hl)⟩
theorem pays {l : Launch} {R : Room} {p : Program} {e : Env} {below : List Frame} {s : State} {sargs : Array Value} {len W : Nat} (x t : Addr) (V : Cell) (cd : Int32) (n : Nat) (f : Nat → Int32) (htab : tab.before sargs s = true) (hfr : 1 ≤ R.frames) (hlo : W + 12 ≤ R.locals) :
    Back l R p e below s sargs yN len W (fun A₁ a₁ => A₁.cells + 0 ≤ R.cells ∧ A₁.slots + 0 ≤ R.slots ∧ P x t V cd n f a₁ A₁.U) (fun A₁ _ v₁ B₁ => E n v₁ A₁.U B₁.U ∧ B₁.locs = A₁.locs ++ [] ∧ B₁.cells = A₁.cells + 0 ∧ B₁.slots = A₁.slots + 0) :=
  (law l x t V cd n f).pays htab hfr (by omega)
end Emp
end StrChars
namespace StrChars.Road
open Jvm Sem ClassFile Op Lib Jvm.Stand Jvm.Free Jvm.Free.XT
open Jvm.Lib.Cold (StaticIs)
/-- the words of String.isEmpty() -/
abbrev wordsEmp : List Jvm.Cond := [.code Emp.yN Emp.yB 1 (some .boolean), .initialized ST, .fieldLink ST 9 ST "value" "[B"]
theorem tabEmp_of {a : Array Value} {s : State} (h : ∀ w ∈ wordsEmp, w.before a s = true) : Emp.tab.before a s = true := unparts (wk h (.code Emp.yN Emp.yB 1 (some .boolean))) (wks h (.initialized Emp.yN.cls :: Emp.site))
theorem movedEmp {Z s : State} {a0 args : Array Value} (hZ : Z.Warmed39 s.vm) (hw : ∀ d ∈ wordsEmp, d.before a0 Z = true) : ∀ d ∈ wordsEmp, d.before args s = true := fun d hd => by
  have t : ∀ d ∈ wordsEmp, (d.onTables && d.keepsFace) = true := by decide +kernel
  exact RoadKit.mv hZ (hw d hd) (t d hd)
/-- the road's facts of a String, as the laws ask it -/
theorem txt_of {Z U : State} {a0 : Array Value} {kI : Nat} (wi : (Jvm.Cond.instantiable ST kI).before a0 Z = true) (al : Z.vm.Alike U.vm) {x t : Addr} {kb : ClassId} {cs : List Int32} {cd N2 : Int32} {vs : List Value} (E : RoadKit.Exa Z U.heap x ST) (V : RoadKit.Fld Z U.heap x ST "value" "[B" (.ref t)) (C : RoadKit.Fld Z U.heap x ST "coder" "B" (.int cd)) (K : RoadKit.Arv Z U.heap t kb .byte N2 vs (.int 0)) (hc : CodA cs cd N2 vs) (hb : ∀ c ∈ cs, ¬ c < 0 ∧ ¬ (65535 : Int32) < c) (l2 : cs.length ≤ 4000) :
    ∃ A, Txt x t A cd cs.length (fun j => cs.getD j 0) U := by
  obtain ⟨A, K1, K2, K3, K4, K5, K6⟩ := K
  have hcod := hc.cod (by omega) K3 K5
  obtain ⟨D, fV, fC, hB, F1, F2, g1, g2, -, -⟩ := strObj wi al E V C
  exact ⟨A, ⟨_, hB.2.2.1, D, hB.1, rfl, by cases q : D.vm <;> first | rfl | exact absurd q (hB.2.1.2 _)⟩, Has.of hB F1 g1, Has.of hB F2 g2, ⟨K1.1, State.isArrayOf_alike al K1.2.1, K1.2.2, by rcases hcod with ⟨-, q, -⟩ | ⟨-, q, -⟩ <;> omega⟩, hcod, fun j hj => by
    have e : cs.getD j 0 = cs[j] := by simp [List.getD_eq_getElem?_getD, hj]
    show ¬ cs.getD j 0 < 0 ∧ ¬ 65535 < cs.getD j 0
    rw [e]; exact hb _ (List.getElem_mem _)⟩
/-- **isEmpty() OF SUCH A STRING** -/
theorem empW {p : Program} {l : Launch} {e : Env} {R : Room} {s : State} {args : Array Value} {below : List Frame} {len W : Nat} {Z : State} {a0 : Array Value} {h : Heap} (hZ : Z.Warmed39 s.vm) (hw : ∀ d ∈ wordsEmp, d.before a0 Z = true) {kI : Nat} (wi : (Jvm.Cond.instantiable ST kI).before a0 Z = true)
    {x t : Addr} {kb : ClassId} {cs : List Int32} {cd N2 : Int32} {vs : List Value} (E : RoadKit.Exa Z h x ST) (V : RoadKit.Fld Z h x ST "value" "[B" (.ref t)) (C : RoadKit.Fld Z h x ST "coder" "B" (.int cd)) (K : RoadKit.Arv Z h t kb .byte N2 vs (.int 0)) (hc : CodA cs cd N2 vs) (hb : ∀ c ∈ cs, ¬ c < 0 ∧ ¬ (65535 : Int32) < c) (l2 : cs.length ≤ 4000) (hfr : 1 ≤ R.frames) (hlo : W + 12 ≤ R.locals) :
    Back l R p e below s args (⟨"java/lang/String", "isEmpty", "()Z"⟩ : MethodName) len W (fun P a => a = #[.ref x] ∧ P.U.heap = h ∧ P.cells + 0 ≤ R.cells ∧ P.slots + 0 ≤ R.slots)
      (fun P _ v B => ∃ L, (v = some (.int (if cs.length = 0 then 1 else 0)) ∧ L = [] ∧ B.U.heap = h) ∧ B.locs = P.locs ++ L ∧ B.cells = P.cells + 0 ∧ B.slots = P.slots + 0) := by
  intro m meth c P g ig mk a X hg hsize hdg hW hn hp'
  obtain ⟨rfl, rfl, r1, r2⟩ := hp'
  have al : Z.vm.Alike P.U.vm := hZ.alike.trans X.warmed.alike
  obtain ⟨A, hx⟩ := txt_of wi al E V C K hc hb l2
  obtain ⟨v, B, X', ⟨⟨hv, hh⟩, hl, hk, hs⟩, st⟩ := Emp.pays x t A cd cs.length (fun j => cs.getD j 0) (tabEmp_of (movedEmp hZ hw)) hfr hlo m meth c P g ig mk _ X hg hsize hdg hW hn ⟨r1, r2, rfl, hx⟩
  exact ⟨v, B, X', ⟨[], ⟨hv, rfl, hh⟩, hl, hk, hs⟩, st⟩
end StrChars.Road
end Jvm.Pilot.@@N@@
namespace Jvm.Pilot.@@N@@
open Jvm Jvm.ClassFile Sem Op Lib Jvm.Free Jvm.Stand Jvm.LawKit Jvm.RoadKit Bundle Jvm.Free.Fl Jvm.Pilot.@@N@@.Jvm.D
abbrev vU : Slot := .unset
abbrev vI (x : Int32) : Slot := .val (.int x)
abbrev vJ (x : Int64) : Slot := .val (.long x)
abbrev vD (x : UInt64) : Slot := .val (.double x)
abbrev vR (x : Addr) : Slot := .val (.ref x)
/-- a step's goal -/
abbrev Sp (p : Program) (e : Env) (below : List Frame) (T : State) (g : JFrame) (t : State) : Prop := Steps p.tables e below (T.setTop g) t
theorem own_h {a0 : Array Value} {Z : State} (hw : ∀ d ∈ tables_1, d.before a0 Z = true) (i : Nat) {d : Jvm.Cond} (h : tables_1[i]? = some d) : d.before a0 Z = true := hw d (List.mem_of_getElem? h)
/-- the run comes from the frame g0 (over T0) to the frame g (over T) -/
abbrev Go (p : Program) (e : Env) (below : List Frame) (T0 : State) (g0 : JFrame) (T : State) (g : JFrame) : Prop :=
  ∀ t, Steps p.tables e below (T.setTop g) t → Steps p.tables e below (T0.setTop g0) t
theorem own_neArr {Z : State} {h : Heap} {x y : Addr} {k k' : ClassId} {t t' : FieldType} {n n' : Int32} {vs vs' : List Value} {d d' : Value} (A : Arv Z h x k t n vs d) (B : Arv Z h y k' t' n' vs' d') (ht : t ≠ t') : x ≠ y := by
  rintro rfl
  obtain ⟨c1, A1, -⟩ := A
  obtain ⟨c2, B1, -⟩ := B
  have e := Option.some.inj (A1.1.symm.trans B1.1)
  subst e
  obtain ⟨-, k1, hk1, p1, q1⟩ := A1.2.1
  obtain ⟨-, k2, hk2, p2, q2⟩ := B1.2.1
  cases hk1.symm.trans hk2
  rw [q1] at q2
  cases q2
  exact ht rfl
theorem own_neStr {Z : State} {a0 : Array Value} {h : Heap} {x y : Addr} {C : String} {k : ClassId} {t : FieldType} {n : Int32} {vs : List Value} {d : Value} {sl : Nat} (E : Exa Z h x C) (B : Arv Z h y k t n vs d) (wi : (Jvm.Cond.instantiable C sl).before a0 Z = true) : x ≠ y := by
  rintro rfl
  obtain ⟨c1, k1, e1, e2, e3, -⟩ := E
  obtain ⟨c2, B1, -⟩ := B
  have e := Option.some.inj (e1.symm.trans B1.1)
  subst e
  obtain ⟨-, k2, hk2, p2, q2⟩ := B1.2.1
  obtain ⟨c3, k3, h1, h2, h3, -⟩ := Jvm.Cond.instantiable_spec wi
  cases e2.symm.trans h1
  cases e3.symm.trans h2
  cases e3.symm.trans hk2
  rw [q2] at h3
  cases h3
theorem own_selp {Z s : State} {a0 args : Array Value} {y : MethodName} {k : Nat} (hZ : Z.Warmed39 s.vm) (wi : (Jvm.Cond.instantiable y.cls k).before a0 Z = true) (wp : (Jvm.Cond.privateMethod y).before a0 Z = true) (wm : (Jvm.Cond.instanceMethod y).before a0 Z = true) (hy : y.cls ≠ "java/lang/invoke/MethodHandle" ∧ y.cls ≠ "java/lang/invoke/VarHandle") : (Jvm.Cond.selects y.cls y y).before args s = true := by
  have hi : (Jvm.Cond.instantiable y.cls k).before args s = true := mvT hZ wi
  obtain ⟨c, kk, h1, h2, h3, h4, -⟩ := Jvm.Cond.instantiable_spec hi
  exact selects_self_of_private h1 h2 (by simp only [Bool.or_eq_false_iff] at h4; exact h4.1) (Cond.privateMethod_at (mvP hZ wp (args := #[]))) (mvT hZ wm) hy
/-- a call's outcome, its point opened -/
theorem own_outV {p : Program} {l : Launch} {e : Env} {R : Room} {s : State} {m : MethodId} {args : Array Value} {below : List Frame} {meth : Method} {c : Code} {s₀ : State} {locs : List Loc} {cells slots : Nat} {Q : Option Value → Heap → List Loc → Prop} {kc ks : Nat} {g' : Option Value → JFrame}
    (H : ∃ (v : Option Value) (vm₁ : Vm) (B : Pt), s.WarmedH vm₁ ∧ Stand p l e R s m args below meth c B.U B.locs B.cells B.slots ∧ (∃ L, Q v B.U.heap L ∧ B.locs = locs ++ L ∧ B.cells = cells + kc ∧ B.slots = slots + ks) ∧ Steps p.tables e below s₀ (B.U.setTop (g' v))) :
    ∃ (v : Option Value) (T' : State) (L : List Loc), Stand p l e R s m args below meth c T' (locs ++ L) (cells + kc) (slots + ks) ∧ Q v T'.heap L ∧ ∀ t, Steps p.tables e below (T'.setTop (g' v)) t → Steps p.tables e below s₀ t := by
  obtain ⟨v, vm, ⟨T', L', k', n'⟩, -, X, ⟨L, hQ, e1, e2, e3⟩, st⟩ := H
  subst e1 e2 e3
  exact ⟨v, T', L, X, hQ, fun t k => st.trans k⟩
theorem own_outS {p : Program} {l : Launch} {e : Env} {R : Room} {s : State} {m : MethodId} {args : Array Value} {below : List Frame} {meth : Method} {c : Code} {s₀ : State} {locs : List Loc} {cells slots : Nat} {Q : Option Value → Heap → List Loc → Prop} {kc ks : Nat} {g' : Option Value → JFrame}
    (H : ∃ (v : Option Value) (vm₁ : Vm) (B : Pt), s.WarmedH vm₁ ∧ Stand p l e R s m args below meth c B.U B.locs B.cells B.slots ∧ (∃ L, Q v B.U.heap L ∧ B.locs = locs ++ L ∧ B.cells = cells + kc ∧ B.slots = slots + ks) ∧ ∀ t, Steps p.tables e below (B.U.setTop (g' v)) t → Steps p.tables e below s₀ t) :
    ∃ (v : Option Value) (T' : State) (L : List Loc), Stand p l e R s m args below meth c T' (locs ++ L) (cells + kc) (slots + ks) ∧ Q v T'.heap L ∧ ∀ t, Steps p.tables e below (T'.setTop (g' v)) t → Steps p.tables e below s₀ t := by
  obtain ⟨v, vm, ⟨T', L', k', n'⟩, -, X, ⟨L, hQ, e1, e2, e3⟩, st⟩ := H
  subst e1 e2 e3
  exact ⟨v, T', L, X, hQ, st⟩
theorem d1_0 : decode jdk_42_method_3_code 0 = .ok (.aload_n 0, 1) := by decide +kernel
theorem d1_1 : decode jdk_42_method_3_code 1 = .ok (.aload_n 1, 1) := by decide +kernel
theorem d1_2 : decode jdk_42_method_3_code 2 = .ok (.iconst 0, 1) := by decide +kernel
theorem d1_3 : decode jdk_42_method_3_code 3 = .ok (.aload_n 1, 1) := by decide +kernel
theorem d1_4 : decode jdk_42_method_3_code 4 = .ok (.arraylength, 1) := by decide +kernel
theorem d1_5 : decode jdk_42_method_3_code 5 = .ok (.aconst_null, 1) := by decide +kernel
theorem d1_6 : decode jdk_42_method_3_code 6 = .ok (.invokespecial 27, 3) := by decide +kernel
theorem d1_9 : decode jdk_42_method_3_code 9 = .ok (.return_, 1) := by decide +kernel
theorem d2_0 : decode jdk_42_method_149_code 0 = .ok (.aload_n 0, 1) := by decide +kernel
theorem d2_1 : decode jdk_42_method_149_code 1 = .ok (.invokespecial 1, 3) := by decide +kernel
theorem d2_4 : decode jdk_42_method_149_code 4 = .ok (.iload_n 3, 1) := by decide +kernel
theorem d2_5 : decode jdk_42_method_149_code 5 = .ok (.ifCond .ne 22, 3) := by decide +kernel
theorem d2_27 : decode jdk_42_method_149_code 27 = .ok (.getstatic 38, 3) := by decide +kernel
theorem d2_30 : decode jdk_42_method_149_code 30 = .ok (.ifCond .eq 28, 3) := by decide +kernel
theorem d2_33 : decode jdk_42_method_149_code 33 = .ok (.aload_n 1, 1) := by decide +kernel
theorem d2_34 : decode jdk_42_method_149_code 34 = .ok (.iload_n 2, 1) := by decide +kernel
theorem d2_35 : decode jdk_42_method_149_code 35 = .ok (.iload_n 3, 1) := by decide +kernel
theorem d2_36 : decode jdk_42_method_149_code 36 = .ok (.invokestatic 177, 3) := by decide +kernel
theorem d2_39 : decode jdk_42_method_149_code 39 = .ok (.astore 5, 2) := by decide +kernel
theorem d2_41 : decode jdk_42_method_149_code 41 = .ok (.aload_n 0, 1) := by decide +kernel
theorem d2_42 : decode jdk_42_method_149_code 42 = .ok (.aload 5, 2) := by decide +kernel
theorem d2_44 : decode jdk_42_method_149_code 44 = .ok (.iload_n 3, 1) := by decide +kernel
theorem d2_45 : decode jdk_42_method_149_code 45 = .ok (.invokestatic 47, 3) := by decide +kernel
theorem d2_48 : decode jdk_42_method_149_code 48 = .ok (.putfield 15, 3) := by decide +kernel
theorem d2_51 : decode jdk_42_method_149_code 51 = .ok (.aload_n 0, 1) := by decide +kernel
theorem d2_52 : decode jdk_42_method_149_code 52 = .ok (.aload 5, 2) := by decide +kernel
theorem d2_54 : decode jdk_42_method_149_code 54 = .ok (.putfield 9, 3) := by decide +kernel
theorem d2_57 : decode jdk_42_method_149_code 57 = .ok (.return_, 1) := by decide +kernel
theorem d4_0 : decode jdk_52_method_16_code 0 = .ok (.iload_n 2, 1) := by decide +kernel
theorem d4_1 : decode jdk_52_method_16_code 1 = .ok (.newarray .byte, 2) := by decide +kernel
theorem d4_3 : decode jdk_52_method_16_code 3 = .ok (.astore_n 3, 1) := by decide +kernel
theorem d4_4 : decode jdk_52_method_16_code 4 = .ok (.aload_n 0, 1) := by decide +kernel
theorem d4_5 : decode jdk_52_method_16_code 5 = .ok (.iload_n 1, 1) := by decide +kernel
theorem d4_6 : decode jdk_52_method_16_code 6 = .ok (.aload_n 3, 1) := by decide +kernel
theorem d4_7 : decode jdk_52_method_16_code 7 = .ok (.iconst 0, 1) := by decide +kernel
theorem d4_8 : decode jdk_52_method_16_code 8 = .ok (.iload_n 2, 1) := by decide +kernel
theorem d4_9 : decode jdk_52_method_16_code 9 = .ok (.invokestatic 115, 3) := by decide +kernel
theorem d4_12 : decode jdk_52_method_16_code 12 = .ok (.istore 4, 2) := by decide +kernel
theorem d4_14 : decode jdk_52_method_16_code 14 = .ok (.iload 4, 2) := by decide +kernel
theorem d4_16 : decode jdk_52_method_16_code 16 = .ok (.iload_n 2, 1) := by decide +kernel
theorem d4_17 : decode jdk_52_method_16_code 17 = .ok (.if_icmp .eq 40, 3) := by decide +kernel
theorem d4_20 : decode jdk_52_method_16_code 20 = .ok (.aload_n 0, 1) := by decide +kernel
theorem d4_21 : decode jdk_52_method_16_code 21 = .ok (.iload_n 1, 1) := by decide +kernel
theorem d4_22 : decode jdk_52_method_16_code 22 = .ok (.iload_n 2, 1) := by decide +kernel
theorem d4_23 : decode jdk_52_method_16_code 23 = .ok (.invokestatic 119, 3) := by decide +kernel
theorem d4_26 : decode jdk_52_method_16_code 26 = .ok (.astore 5, 2) := by decide +kernel
theorem d4_28 : decode jdk_52_method_16_code 28 = .ok (.aload 5, 2) := by decide +kernel
theorem d4_30 : decode jdk_52_method_16_code 30 = .ok (.iload 4, 2) := by decide +kernel
theorem d4_32 : decode jdk_52_method_16_code 32 = .ok (.invokestatic 71, 3) := by decide +kernel
theorem d4_35 : decode jdk_52_method_16_code 35 = .ok (.sipush 255, 3) := by decide +kernel
theorem d4_38 : decode jdk_52_method_16_code 38 = .ok (.if_icmp .gt 16, 3) := by decide +kernel
theorem d4_54 : decode jdk_52_method_16_code 54 = .ok (.aload 5, 2) := by decide +kernel
theorem d4_56 : decode jdk_52_method_16_code 56 = .ok (.areturn, 1) := by decide +kernel
theorem d4_57 : decode jdk_52_method_16_code 57 = .ok (.aload_n 3, 1) := by decide +kernel
theorem d4_58 : decode jdk_52_method_16_code 58 = .ok (.areturn, 1) := by decide +kernel
theorem d5_0 : decode jdk_52_method_21_code 0 = .ok (.iconst 0, 1) := by decide +kernel
theorem d5_1 : decode jdk_52_method_21_code 1 = .ok (.istore 5, 2) := by decide +kernel
theorem d5_3 : decode jdk_52_method_21_code 3 = .ok (.iload 5, 2) := by decide +kernel
theorem d5_5 : decode jdk_52_method_21_code 5 = .ok (.iload 4, 2) := by decide +kernel
theorem d5_7 : decode jdk_52_method_21_code 7 = .ok (.if_icmp .ge 37, 3) := by decide +kernel
theorem d5_10 : decode jdk_52_method_21_code 10 = .ok (.aload_n 0, 1) := by decide +kernel
theorem d5_11 : decode jdk_52_method_21_code 11 = .ok (.iload_n 1, 1) := by decide +kernel
theorem d5_12 : decode jdk_52_method_21_code 12 = .ok (.caload, 1) := by decide +kernel
theorem d5_13 : decode jdk_52_method_21_code 13 = .ok (.istore 6, 2) := by decide +kernel
theorem d5_15 : decode jdk_52_method_21_code 15 = .ok (.iload 6, 2) := by decide +kernel
theorem d5_17 : decode jdk_52_method_21_code 17 = .ok (.sipush 255, 3) := by decide +kernel
theorem d5_20 : decode jdk_52_method_21_code 20 = .ok (.if_icmp .le 6, 3) := by decide +kernel
theorem d5_23 : decode jdk_52_method_21_code 23 = .ok (.iload 5, 2) := by decide +kernel
theorem d5_25 : decode jdk_52_method_21_code 25 = .ok (.ireturn, 1) := by decide +kernel
theorem d5_26 : decode jdk_52_method_21_code 26 = .ok (.aload_n 2, 1) := by decide +kernel
theorem d5_27 : decode jdk_52_method_21_code 27 = .ok (.iload_n 3, 1) := by decide +kernel
theorem d5_28 : decode jdk_52_method_21_code 28 = .ok (.iload 6, 2) := by decide +kernel
theorem d5_30 : decode jdk_52_method_21_code 30 = .ok (.i2b, 1) := by decide +kernel
theorem d5_31 : decode jdk_52_method_21_code 31 = .ok (.bastore, 1) := by decide +kernel
theorem d5_32 : decode jdk_52_method_21_code 32 = .ok (.iinc 1 1, 3) := by decide +kernel
theorem d5_35 : decode jdk_52_method_21_code 35 = .ok (.iinc 3 1, 3) := by decide +kernel
theorem d5_38 : decode jdk_52_method_21_code 38 = .ok (.iinc 5 1, 3) := by decide +kernel
theorem d5_41 : decode jdk_52_method_21_code 41 = .ok (.goto (-38), 3) := by decide +kernel
theorem d5_44 : decode jdk_52_method_21_code 44 = .ok (.iload 4, 2) := by decide +kernel
theorem d5_46 : decode jdk_52_method_21_code 46 = .ok (.ireturn, 1) := by decide +kernel
theorem d6_0 : decode jdk_52_method_15_code 0 = .ok (.iload_n 1, 1) := by decide +kernel
theorem d6_1 : decode jdk_52_method_15_code 1 = .ok (.aload_n 0, 1) := by decide +kernel
theorem d6_2 : decode jdk_52_method_15_code 2 = .ok (.arraylength, 1) := by decide +kernel
theorem d6_3 : decode jdk_52_method_15_code 3 = .ok (.isub, 1) := by decide +kernel
theorem d6_4 : decode jdk_52_method_15_code 4 = .ok (.bipush 31, 2) := by decide +kernel
theorem d6_6 : decode jdk_52_method_15_code 6 = .ok (.iushr, 1) := by decide +kernel
theorem d6_7 : decode jdk_52_method_15_code 7 = .ok (.i2b, 1) := by decide +kernel
theorem d6_8 : decode jdk_52_method_15_code 8 = .ok (.ireturn, 1) := by decide +kernel
theorem d7_0 : decode jdk_42_method_139_code 0 = .ok (.getstatic 38, 3) := by decide +kernel
theorem d7_3 : decode jdk_42_method_139_code 3 = .ok (.ifCond .eq 23, 3) := by decide +kernel
theorem d7_6 : decode jdk_42_method_139_code 6 = .ok (.iload_n 0, 1) := by decide +kernel
theorem d7_7 : decode jdk_42_method_139_code 7 = .ok (.invokestatic 1015, 3) := by decide +kernel
theorem d7_10 : decode jdk_42_method_139_code 10 = .ok (.ifCond .eq 16, 3) := by decide +kernel
theorem d7_13 : decode jdk_42_method_139_code 13 = .ok (.new 10, 3) := by decide +kernel
theorem d7_16 : decode jdk_42_method_139_code 16 = .ok (.dup, 1) := by decide +kernel
theorem d7_17 : decode jdk_42_method_139_code 17 = .ok (.iload_n 0, 1) := by decide +kernel
theorem d7_18 : decode jdk_42_method_139_code 18 = .ok (.invokestatic 1018, 3) := by decide +kernel
theorem d7_21 : decode jdk_42_method_139_code 21 = .ok (.iconst 0, 1) := by decide +kernel
theorem d7_22 : decode jdk_42_method_139_code 22 = .ok (.invokespecial 209, 3) := by decide +kernel
theorem d7_25 : decode jdk_42_method_139_code 25 = .ok (.areturn, 1) := by decide +kernel
theorem d7_26 : decode jdk_42_method_139_code 26 = .ok (.new 10, 3) := by decide +kernel
theorem d7_29 : decode jdk_42_method_139_code 29 = .ok (.dup, 1) := by decide +kernel
theorem d7_30 : decode jdk_42_method_139_code 30 = .ok (.iload_n 0, 1) := by decide +kernel
theorem d7_31 : decode jdk_42_method_139_code 31 = .ok (.invokestatic 1021, 3) := by decide +kernel
theorem d7_34 : decode jdk_42_method_139_code 34 = .ok (.iconst 1, 1) := by decide +kernel
theorem d7_35 : decode jdk_42_method_139_code 35 = .ok (.invokespecial 209, 3) := by decide +kernel
theorem d7_38 : decode jdk_42_method_139_code 38 = .ok (.areturn, 1) := by decide +kernel
theorem d8_0 : decode jdk_43_method_3_code 0 = .ok (.iload_n 0, 1) := by decide +kernel
theorem d8_1 : decode jdk_43_method_3_code 1 = .ok (.sipush 255, 3) := by decide +kernel
theorem d8_4 : decode jdk_43_method_3_code 4 = .ok (.if_icmp .gt 7, 3) := by decide +kernel
theorem d8_7 : decode jdk_43_method_3_code 7 = .ok (.iconst 1, 1) := by decide +kernel
theorem d8_8 : decode jdk_43_method_3_code 8 = .ok (.goto 4, 3) := by decide +kernel
theorem d8_11 : decode jdk_43_method_3_code 11 = .ok (.iconst 0, 1) := by decide +kernel
theorem d8_12 : decode jdk_43_method_3_code 12 = .ok (.ireturn, 1) := by decide +kernel
theorem d9_0 : decode jdk_43_method_46_code 0 = .ok (.iconst 1, 1) := by decide +kernel
theorem d9_1 : decode jdk_43_method_46_code 1 = .ok (.newarray .byte, 2) := by decide +kernel
theorem d9_3 : decode jdk_43_method_46_code 3 = .ok (.dup, 1) := by decide +kernel
theorem d9_4 : decode jdk_43_method_46_code 4 = .ok (.iconst 0, 1) := by decide +kernel
theorem d9_5 : decode jdk_43_method_46_code 5 = .ok (.iload_n 0, 1) := by decide +kernel
theorem d9_6 : decode jdk_43_method_46_code 6 = .ok (.i2b, 1) := by decide +kernel
theorem d9_7 : decode jdk_43_method_46_code 7 = .ok (.bastore, 1) := by decide +kernel
theorem d9_8 : decode jdk_43_method_46_code 8 = .ok (.areturn, 1) := by decide +kernel
theorem d10_0 : decode jdk_42_method_151_code 0 = .ok (.aload_n 0, 1) := by decide +kernel
theorem d10_1 : decode jdk_42_method_151_code 1 = .ok (.invokespecial 1, 3) := by decide +kernel
theorem d10_4 : decode jdk_42_method_151_code 4 = .ok (.aload_n 0, 1) := by decide +kernel
theorem d10_5 : decode jdk_42_method_151_code 5 = .ok (.aload_n 1, 1) := by decide +kernel
theorem d10_6 : decode jdk_42_method_151_code 6 = .ok (.putfield 9, 3) := by decide +kernel
theorem d10_9 : decode jdk_42_method_151_code 9 = .ok (.aload_n 0, 1) := by decide +kernel
theorem d10_10 : decode jdk_42_method_151_code 10 = .ok (.iload_n 2, 1) := by decide +kernel
theorem d10_11 : decode jdk_42_method_151_code 11 = .ok (.putfield 15, 3) := by decide +kernel
theorem d10_14 : decode jdk_42_method_151_code 14 = .ok (.return_, 1) := by decide +kernel
theorem d11_0 : decode prog_12_method_3_code 0 = .ok (.aload_n 0, 1) := by decide +kernel
theorem d11_1 : decode prog_12_method_3_code 1 = .ok (.ifnull 10, 3) := by decide +kernel
theorem d11_4 : decode prog_12_method_3_code 4 = .ok (.aload_n 0, 1) := by decide +kernel
theorem d11_5 : decode prog_12_method_3_code 5 = .ok (.invokevirtual 80, 3) := by decide +kernel
theorem d11_8 : decode prog_12_method_3_code 8 = .ok (.ifCond .eq 19, 3) := by decide +kernel
theorem d11_27 : decode prog_12_method_3_code 27 = .ok (.aload_n 0, 1) := by decide +kernel
theorem d11_28 : decode prog_12_method_3_code 28 = .ok (.areturn, 1) := by decide +kernel
theorem d15_0 : decode jdk_42_method_56_code 0 = .ok (.aload_n 0, 1) := by decide +kernel
theorem d15_1 : decode jdk_42_method_56_code 1 = .ok (.invokevirtual 492, 3) := by decide +kernel
theorem d15_4 : decode jdk_42_method_56_code 4 = .ok (.ifCond .eq 12, 3) := by decide +kernel
theorem d15_7 : decode jdk_42_method_56_code 7 = .ok (.aload_n 0, 1) := by decide +kernel
theorem d15_8 : decode jdk_42_method_56_code 8 = .ok (.getfield 9, 3) := by decide +kernel
theorem d15_11 : decode jdk_42_method_56_code 11 = .ok (.iload_n 1, 1) := by decide +kernel
theorem d15_12 : decode jdk_42_method_56_code 12 = .ok (.invokestatic 495, 3) := by decide +kernel
theorem d15_15 : decode jdk_42_method_56_code 15 = .ok (.ireturn, 1) := by decide +kernel
theorem d15_16 : decode jdk_42_method_56_code 16 = .ok (.aload_n 0, 1) := by decide +kernel
theorem d15_17 : decode jdk_42_method_56_code 17 = .ok (.getfield 9, 3) := by decide +kernel
theorem d15_20 : decode jdk_42_method_56_code 20 = .ok (.iload_n 1, 1) := by decide +kernel
theorem d15_21 : decode jdk_42_method_56_code 21 = .ok (.invokestatic 498, 3) := by decide +kernel
theorem d15_24 : decode jdk_42_method_56_code 24 = .ok (.ireturn, 1) := by decide +kernel
theorem d16_0 : decode jdk_42_method_154_code 0 = .ok (.getstatic 38, 3) := by decide +kernel
theorem d16_3 : decode jdk_42_method_154_code 3 = .ok (.ifCond .eq 14, 3) := by decide +kernel
theorem d16_6 : decode jdk_42_method_154_code 6 = .ok (.aload_n 0, 1) := by decide +kernel
theorem d16_7 : decode jdk_42_method_154_code 7 = .ok (.getfield 15, 3) := by decide +kernel
theorem d16_10 : decode jdk_42_method_154_code 10 = .ok (.ifCond .ne 7, 3) := by decide +kernel
theorem d16_13 : decode jdk_42_method_154_code 13 = .ok (.iconst 1, 1) := by decide +kernel
theorem d16_14 : decode jdk_42_method_154_code 14 = .ok (.goto 4, 3) := by decide +kernel
theorem d16_17 : decode jdk_42_method_154_code 17 = .ok (.iconst 0, 1) := by decide +kernel
theorem d16_18 : decode jdk_42_method_154_code 18 = .ok (.ireturn, 1) := by decide +kernel
theorem d17_0 : decode jdk_43_method_2_code 0 = .ok (.iload_n 1, 1) := by decide +kernel
theorem d17_1 : decode jdk_43_method_2_code 1 = .ok (.aload_n 0, 1) := by decide +kernel
theorem d17_2 : decode jdk_43_method_2_code 2 = .ok (.arraylength, 1) := by decide +kernel
theorem d17_3 : decode jdk_43_method_2_code 3 = .ok (.invokestatic 9, 3) := by decide +kernel
theorem d17_6 : decode jdk_43_method_2_code 6 = .ok (.aload_n 0, 1) := by decide +kernel
theorem d17_7 : decode jdk_43_method_2_code 7 = .ok (.iload_n 1, 1) := by decide +kernel
theorem d17_8 : decode jdk_43_method_2_code 8 = .ok (.baload, 1) := by decide +kernel
theorem d17_9 : decode jdk_43_method_2_code 9 = .ok (.sipush 255, 3) := by decide +kernel
theorem d17_12 : decode jdk_43_method_2_code 12 = .ok (.iand, 1) := by decide +kernel
theorem d17_13 : decode jdk_43_method_2_code 13 = .ok (.i2c, 1) := by decide +kernel
theorem d17_14 : decode jdk_43_method_2_code 14 = .ok (.ireturn, 1) := by decide +kernel
theorem d18_0 : decode jdk_42_method_155_code 0 = .ok (.iload_n 0, 1) := by decide +kernel
theorem d18_1 : decode jdk_42_method_155_code 1 = .ok (.iload_n 1, 1) := by decide +kernel
theorem d18_2 : decode jdk_42_method_155_code 2 = .ok (.getstatic 1053, 3) := by decide +kernel
theorem d18_5 : decode jdk_42_method_155_code 5 = .ok (.invokestatic 1059, 3) := by decide +kernel
theorem d18_8 : decode jdk_42_method_155_code 8 = .ok (.pop, 1) := by decide +kernel
theorem d18_9 : decode jdk_42_method_155_code 9 = .ok (.return_, 1) := by decide +kernel
theorem d19_0 : decode jdk_41_method_11_code 0 = .ok (.iload_n 0, 1) := by decide +kernel
theorem d19_1 : decode jdk_41_method_11_code 1 = .ok (.ifCond .lt 8, 3) := by decide +kernel
theorem d19_4 : decode jdk_41_method_11_code 4 = .ok (.iload_n 0, 1) := by decide +kernel
theorem d19_5 : decode jdk_41_method_11_code 5 = .ok (.iload_n 1, 1) := by decide +kernel
theorem d19_6 : decode jdk_41_method_11_code 6 = .ok (.if_icmp .lt 10, 3) := by decide +kernel
theorem d19_16 : decode jdk_41_method_11_code 16 = .ok (.iload_n 0, 1) := by decide +kernel
theorem d19_17 : decode jdk_41_method_11_code 17 = .ok (.ireturn, 1) := by decide +kernel
theorem d20_0 : decode jdk_52_method_14_code 0 = .ok (.iload_n 2, 1) := by decide +kernel
theorem d20_1 : decode jdk_52_method_14_code 1 = .ok (.invokestatic 107, 3) := by decide +kernel
theorem d20_4 : decode jdk_52_method_14_code 4 = .ok (.astore_n 3, 1) := by decide +kernel
theorem d20_5 : decode jdk_52_method_14_code 5 = .ok (.iconst 0, 1) := by decide +kernel
theorem d20_6 : decode jdk_52_method_14_code 6 = .ok (.istore 4, 2) := by decide +kernel
theorem d20_8 : decode jdk_52_method_14_code 8 = .ok (.iload 4, 2) := by decide +kernel
theorem d20_10 : decode jdk_52_method_14_code 10 = .ok (.iload_n 2, 1) := by decide +kernel
theorem d20_11 : decode jdk_52_method_14_code 11 = .ok (.if_icmp .ge 21, 3) := by decide +kernel
theorem d20_14 : decode jdk_52_method_14_code 14 = .ok (.aload_n 3, 1) := by decide +kernel
theorem d20_15 : decode jdk_52_method_14_code 15 = .ok (.iload 4, 2) := by decide +kernel
theorem d20_17 : decode jdk_52_method_14_code 17 = .ok (.aload_n 0, 1) := by decide +kernel
theorem d20_18 : decode jdk_52_method_14_code 18 = .ok (.iload_n 1, 1) := by decide +kernel
theorem d20_19 : decode jdk_52_method_14_code 19 = .ok (.caload, 1) := by decide +kernel
theorem d20_20 : decode jdk_52_method_14_code 20 = .ok (.invokestatic 111, 3) := by decide +kernel
theorem d20_23 : decode jdk_52_method_14_code 23 = .ok (.iinc 1 1, 3) := by decide +kernel
theorem d20_26 : decode jdk_52_method_14_code 26 = .ok (.iinc 4 1, 3) := by decide +kernel
theorem d20_29 : decode jdk_52_method_14_code 29 = .ok (.goto (-21), 3) := by decide +kernel
theorem d20_32 : decode jdk_52_method_14_code 32 = .ok (.aload_n 3, 1) := by decide +kernel
theorem d20_33 : decode jdk_52_method_14_code 33 = .ok (.areturn, 1) := by decide +kernel
theorem d21_0 : decode jdk_52_method_2_code 0 = .ok (.iload_n 0, 1) := by decide +kernel
theorem d21_1 : decode jdk_52_method_2_code 1 = .ok (.invokestatic 11, 3) := by decide +kernel
theorem d21_4 : decode jdk_52_method_2_code 4 = .ok (.newarray .byte, 2) := by decide +kernel
theorem d21_6 : decode jdk_52_method_2_code 6 = .ok (.areturn, 1) := by decide +kernel
theorem d22_0 : decode jdk_52_method_3_code 0 = .ok (.iload_n 0, 1) := by decide +kernel
theorem d22_1 : decode jdk_52_method_3_code 1 = .ok (.ifCond .ge 11, 3) := by decide +kernel
theorem d22_12 : decode jdk_52_method_3_code 12 = .ok (.iload_n 0, 1) := by decide +kernel
theorem d22_13 : decode jdk_52_method_3_code 13 = .ok (.ldc 20, 2) := by decide +kernel
theorem d22_15 : decode jdk_52_method_3_code 15 = .ok (.if_icmp .lt 40, 3) := by decide +kernel
theorem d22_55 : decode jdk_52_method_3_code 55 = .ok (.iload_n 0, 1) := by decide +kernel
theorem d22_56 : decode jdk_52_method_3_code 56 = .ok (.iconst 1, 1) := by decide +kernel
theorem d22_57 : decode jdk_52_method_3_code 57 = .ok (.ishl, 1) := by decide +kernel
theorem d22_58 : decode jdk_52_method_3_code 58 = .ok (.ireturn, 1) := by decide +kernel
theorem d23_0 : decode jdk_52_method_4_code 0 = .ok (.getstatic 44, 3) := by decide +kernel
theorem d23_3 : decode jdk_52_method_4_code 3 = .ok (.ifCond .ne 25, 3) := by decide +kernel
theorem d23_28 : decode jdk_52_method_4_code 28 = .ok (.iload_n 1, 1) := by decide +kernel
theorem d23_29 : decode jdk_52_method_4_code 29 = .ok (.iconst 1, 1) := by decide +kernel
theorem d23_30 : decode jdk_52_method_4_code 30 = .ok (.ishl, 1) := by decide +kernel
theorem d23_31 : decode jdk_52_method_4_code 31 = .ok (.istore_n 1, 1) := by decide +kernel
theorem d23_32 : decode jdk_52_method_4_code 32 = .ok (.aload_n 0, 1) := by decide +kernel
theorem d23_33 : decode jdk_52_method_4_code 33 = .ok (.iload_n 1, 1) := by decide +kernel
theorem d23_34 : decode jdk_52_method_4_code 34 = .ok (.iinc 1 1, 3) := by decide +kernel
theorem d23_37 : decode jdk_52_method_4_code 37 = .ok (.iload_n 2, 1) := by decide +kernel
theorem d23_38 : decode jdk_52_method_4_code 38 = .ok (.getstatic 59, 3) := by decide +kernel
theorem d23_41 : decode jdk_52_method_4_code 41 = .ok (.ishr, 1) := by decide +kernel
theorem d23_42 : decode jdk_52_method_4_code 42 = .ok (.i2b, 1) := by decide +kernel
theorem d23_43 : decode jdk_52_method_4_code 43 = .ok (.bastore, 1) := by decide +kernel
theorem d23_44 : decode jdk_52_method_4_code 44 = .ok (.aload_n 0, 1) := by decide +kernel
theorem d23_45 : decode jdk_52_method_4_code 45 = .ok (.iload_n 1, 1) := by decide +kernel
theorem d23_46 : decode jdk_52_method_4_code 46 = .ok (.iload_n 2, 1) := by decide +kernel
theorem d23_47 : decode jdk_52_method_4_code 47 = .ok (.getstatic 63, 3) := by decide +kernel
theorem d23_50 : decode jdk_52_method_4_code 50 = .ok (.ishr, 1) := by decide +kernel
theorem d23_51 : decode jdk_52_method_4_code 51 = .ok (.i2b, 1) := by decide +kernel
theorem d23_52 : decode jdk_52_method_4_code 52 = .ok (.bastore, 1) := by decide +kernel
theorem d23_53 : decode jdk_52_method_4_code 53 = .ok (.return_, 1) := by decide +kernel
theorem d24_0 : decode jdk_52_method_5_code 0 = .ok (.getstatic 44, 3) := by decide +kernel
theorem d24_3 : decode jdk_52_method_5_code 3 = .ok (.ifCond .ne 25, 3) := by decide +kernel
theorem d24_28 : decode jdk_52_method_5_code 28 = .ok (.iload_n 1, 1) := by decide +kernel
theorem d24_29 : decode jdk_52_method_5_code 29 = .ok (.iconst 1, 1) := by decide +kernel
theorem d24_30 : decode jdk_52_method_5_code 30 = .ok (.ishl, 1) := by decide +kernel
theorem d24_31 : decode jdk_52_method_5_code 31 = .ok (.istore_n 1, 1) := by decide +kernel
theorem d24_32 : decode jdk_52_method_5_code 32 = .ok (.aload_n 0, 1) := by decide +kernel
theorem d24_33 : decode jdk_52_method_5_code 33 = .ok (.iload_n 1, 1) := by decide +kernel
theorem d24_34 : decode jdk_52_method_5_code 34 = .ok (.iinc 1 1, 3) := by decide +kernel
theorem d24_37 : decode jdk_52_method_5_code 37 = .ok (.baload, 1) := by decide +kernel
theorem d24_38 : decode jdk_52_method_5_code 38 = .ok (.sipush 255, 3) := by decide +kernel
theorem d24_41 : decode jdk_52_method_5_code 41 = .ok (.iand, 1) := by decide +kernel
theorem d24_42 : decode jdk_52_method_5_code 42 = .ok (.getstatic 59, 3) := by decide +kernel
theorem d24_45 : decode jdk_52_method_5_code 45 = .ok (.ishl, 1) := by decide +kernel
theorem d24_46 : decode jdk_52_method_5_code 46 = .ok (.aload_n 0, 1) := by decide +kernel
theorem d24_47 : decode jdk_52_method_5_code 47 = .ok (.iload_n 1, 1) := by decide +kernel
theorem d24_48 : decode jdk_52_method_5_code 48 = .ok (.baload, 1) := by decide +kernel
theorem d24_49 : decode jdk_52_method_5_code 49 = .ok (.sipush 255, 3) := by decide +kernel
theorem d24_52 : decode jdk_52_method_5_code 52 = .ok (.iand, 1) := by decide +kernel
theorem d24_53 : decode jdk_52_method_5_code 53 = .ok (.getstatic 63, 3) := by decide +kernel
theorem d24_56 : decode jdk_52_method_5_code 56 = .ok (.ishl, 1) := by decide +kernel
theorem d24_57 : decode jdk_52_method_5_code 57 = .ok (.ior, 1) := by decide +kernel
theorem d24_58 : decode jdk_52_method_5_code 58 = .ok (.i2c, 1) := by decide +kernel
theorem d24_59 : decode jdk_52_method_5_code 59 = .ok (.ireturn, 1) := by decide +kernel
theorem d25_0 : decode jdk_52_method_24_code 0 = .ok (.iconst 2, 1) := by decide +kernel
theorem d25_1 : decode jdk_52_method_24_code 1 = .ok (.newarray .byte, 2) := by decide +kernel
theorem d25_3 : decode jdk_52_method_24_code 3 = .ok (.astore_n 1, 1) := by decide +kernel
theorem d25_4 : decode jdk_52_method_24_code 4 = .ok (.aload_n 1, 1) := by decide +kernel
theorem d25_5 : decode jdk_52_method_24_code 5 = .ok (.iconst 0, 1) := by decide +kernel
theorem d25_6 : decode jdk_52_method_24_code 6 = .ok (.iload_n 0, 1) := by decide +kernel
theorem d25_7 : decode jdk_52_method_24_code 7 = .ok (.invokestatic 111, 3) := by decide +kernel
theorem d25_10 : decode jdk_52_method_24_code 10 = .ok (.aload_n 1, 1) := by decide +kernel
theorem d25_11 : decode jdk_52_method_24_code 11 = .ok (.areturn, 1) := by decide +kernel
theorem d26_0 : decode jdk_52_method_83_code 0 = .ok (.iload_n 1, 1) := by decide +kernel
theorem d26_1 : decode jdk_52_method_83_code 1 = .ok (.aload_n 0, 1) := by decide +kernel
theorem d26_2 : decode jdk_52_method_83_code 2 = .ok (.invokestatic 67, 3) := by decide +kernel
theorem d26_5 : decode jdk_52_method_83_code 5 = .ok (.aload_n 0, 1) := by decide +kernel
theorem d26_6 : decode jdk_52_method_83_code 6 = .ok (.iload_n 1, 1) := by decide +kernel
theorem d26_7 : decode jdk_52_method_83_code 7 = .ok (.invokestatic 71, 3) := by decide +kernel
theorem d26_10 : decode jdk_52_method_83_code 10 = .ok (.ireturn, 1) := by decide +kernel
theorem d27_0 : decode jdk_52_method_91_code 0 = .ok (.iload_n 0, 1) := by decide +kernel
theorem d27_1 : decode jdk_52_method_91_code 1 = .ok (.aload_n 1, 1) := by decide +kernel
theorem d27_2 : decode jdk_52_method_91_code 2 = .ok (.invokestatic 48, 3) := by decide +kernel
theorem d27_5 : decode jdk_52_method_91_code 5 = .ok (.invokestatic 414, 3) := by decide +kernel
theorem d27_8 : decode jdk_52_method_91_code 8 = .ok (.return_, 1) := by decide +kernel
theorem d28_0 : decode jdk_52_method_6_code 0 = .ok (.aload_n 0, 1) := by decide +kernel
theorem d28_1 : decode jdk_52_method_6_code 1 = .ok (.arraylength, 1) := by decide +kernel
theorem d28_2 : decode jdk_52_method_6_code 2 = .ok (.iconst 1, 1) := by decide +kernel
theorem d28_3 : decode jdk_52_method_6_code 3 = .ok (.ishr, 1) := by decide +kernel
theorem d28_4 : decode jdk_52_method_6_code 4 = .ok (.ireturn, 1) := by decide +kernel
theorem pd__IILjava_util_function_BiFunction__I : parseMethodDescriptor "(IILjava/util/function/BiFunction;)I" = some ⟨[.int, .int, (.object "java/util/function/BiFunction")], some .int⟩ := by decide +kernel
theorem pd___B_I : parseMethodDescriptor "([B)I" = some ⟨[(.array .byte)], some .int⟩ := by decide +kernel
theorem pd__II_V : parseMethodDescriptor "(II)V" = some ⟨[.int, .int], none⟩ := by decide +kernel
theorem pd__I_B_V : parseMethodDescriptor "(I[B)V" = some ⟨[.int, (.array .byte)], none⟩ := by decide +kernel
theorem pd___BI_C : parseMethodDescriptor "([BI)C" = some ⟨[(.array .byte), .int], some .char⟩ := by decide +kernel
theorem pd___Z : parseMethodDescriptor "()Z" = some ⟨[], some .boolean⟩ := by decide +kernel
theorem pd__I_I : parseMethodDescriptor "(I)I" = some ⟨[.int], some .int⟩ := by decide +kernel
theorem pd__I__B : parseMethodDescriptor "(I)[B" = some ⟨[.int], some (.array .byte)⟩ := by decide +kernel
theorem pd___BII_V : parseMethodDescriptor "([BII)V" = some ⟨[(.array .byte), .int, .int], none⟩ := by decide +kernel
theorem pd___CI_BII_I : parseMethodDescriptor "([CI[BII)I" = some ⟨[(.array .char), .int, (.array .byte), .int, .int], some .int⟩ := by decide +kernel
theorem pd___CII__B : parseMethodDescriptor "([CII)[B" = some ⟨[(.array .char), .int, .int], some (.array .byte)⟩ := by decide +kernel
theorem pd___BI_B : parseMethodDescriptor "([BI)B" = some ⟨[(.array .byte), .int], some .byte⟩ := by decide +kernel
theorem pd___CIILjava_lang_Void__V : parseMethodDescriptor "([CIILjava/lang/Void;)V" = some ⟨[(.array .char), .int, .int, (.object "java/lang/Void")], none⟩ := by decide +kernel
theorem pd__C_Z : parseMethodDescriptor "(C)Z" = some ⟨[.char], some .boolean⟩ := by decide +kernel
theorem pd__C__B : parseMethodDescriptor "(C)[B" = some ⟨[.char], some (.array .byte)⟩ := by decide +kernel
theorem pd___BB_V : parseMethodDescriptor "([BB)V" = some ⟨[(.array .byte), .byte], none⟩ := by decide +kernel
theorem pd___C_V : parseMethodDescriptor "([C)V" = some ⟨[(.array .char)], none⟩ := by decide +kernel
theorem pd__C_Ljava_lang_String_ : parseMethodDescriptor "(C)Ljava/lang/String;" = some ⟨[.char], some (.object "java/lang/String")⟩ := by decide +kernel
theorem pd__Ljava_lang_String_Ljava_lang_String__Ljava_lang_String_ : parseMethodDescriptor "(Ljava/lang/String;Ljava/lang/String;)Ljava/lang/String;" = some ⟨[(.object "java/lang/String"), (.object "java/lang/String")], some (.object "java/lang/String")⟩ := by decide +kernel
theorem pd___I : parseMethodDescriptor "()I" = some ⟨[], some .int⟩ := by decide +kernel
theorem pd__I_C : parseMethodDescriptor "(I)C" = some ⟨[.int], some .char⟩ := by decide +kernel
theorem own_wS : ∀ d ∈ Bundle.stringAtoms, d ∈ tables_1 := by decide +kernel
theorem own_wLen : ∀ d ∈ StrChars.Road.wordsLen, d ∈ tables_1 := by decide +kernel
theorem own_wEmp : ∀ d ∈ StrChars.Road.wordsEmp, d ∈ tables_1 := by decide +kernel
def own_St (Z : State) : Prop := (∃ z : Int32, Sta Z Z.heap "java/lang/String" "COMPACT_STRINGS" "Z" (.int z) ∧ ¬ z = 0) ∧ (∃ v : Value, Sta Z Z.heap "jdk/internal/util/Preconditions" "SIOOBE_FORMATTER" "Ljava/util/function/BiFunction;" v ∧ v.isRef = true) ∧ Sta Z Z.heap "java/lang/StringUTF16" "$assertionsDisabled" "Z" (.int 1) ∧ Sta Z Z.heap "java/lang/StringUTF16" "HI_BYTE_SHIFT" "I" (.int 0) ∧ Sta Z Z.heap "java/lang/StringUTF16" "LO_BYTE_SHIFT" "I" (.int 8)
theorem own_sta {C n d : String} {k : Int32} {args : Array Value} {s : State} (h : (Jvm.Cond.eq (.static C n d) (.int k)).before args s = true) (hi : (Jvm.Cond.initializedFor C n d).before args s = true) : Sta s s.heap C n d (.int k) := by
  have h := Cond.before_iff.mp h
  obtain ⟨x, y, ha, hb, k1, k2⟩ := cmp_v (Or.inl h)
  have hy : y = .int k := by
    have q : (Term.int k).eval args s none [] s = some (.int k) := rfl
    exact Option.some.inj (hb.symm.trans q)
  subst hy
  obtain ⟨z, rfl⟩ := k2
  have q := (Cond.eq_ints ha hb).symm.trans h
  have e : z = k := of_decide_eq_true (Option.some.inj q)
  subst e
  exact Sta.start ha (Or.inl hi)
theorem own_ss {args : Array Value} {s : State} (hsets : ∀ d ∈ jdkStatics_1, d.before args s = true) : own_St s := by
  obtain ⟨i, e1⟩ := is_v (Cond.before_iff.mp (hsets _ (List.mem_of_getElem? (i := 1) rfl)))
  obtain ⟨v, e2, r2⟩ := isR_v (Cond.before_iff.mp (hsets _ (List.mem_of_getElem? (i := 8) rfl)))
  have n5 := not_v (Cond.before_iff.mp (hsets _ (List.mem_of_getElem? (i := 2) rfl)))
  exact ⟨⟨i, Sta.start e1 (Or.inl (hsets _ (List.mem_of_getElem? (i := 0) rfl))), gotF (Cond.eq_ints e1 (Term.int_eval (0))) n5⟩, ⟨v, Sta.start e2 (Or.inl (hsets _ (List.mem_of_getElem? (i := 7) rfl))), r2⟩,
    own_sta (hsets _ (List.mem_of_getElem? (i := 12) rfl)) (hsets _ (List.mem_of_getElem? (i := 11) rfl)), own_sta (hsets _ (List.mem_of_getElem? (i := 15) rfl)) (hsets _ (List.mem_of_getElem? (i := 14) rfl)), own_sta (hsets _ (List.mem_of_getElem? (i := 18) rfl)) (hsets _ (List.mem_of_getElem? (i := 17) rfl))⟩
abbrev own_Ch (z : Int32) : Prop := ¬ z < 0 ∧ ¬ (65535 : Int32) < z
theorem own_nc {z : Int32} (h : own_Ch z) : nar .char z = z := Value.int.inj (StrChars.narrow_ch h.1 h.2)
theorem own_nc2 {z : Int32} (h : own_Ch z) : z.toUInt32.toUInt16.toUInt32.toInt32 = z := own_nc h
theorem own_lo (z : Int32) : z.toInt8.toInt32.toInt8.toInt32 = StrChars.lo8 z := by
  show z.toInt8.toInt32.toInt8.toInt32 = z.toInt8.toInt32
  rw [Int8.toInt8_toInt32]
theorem own_chr (x : Int32) : own_Ch (x.toUInt32.toUInt16.toUInt32.toInt32) := by
  have h := fits_nar_char x
  simp only [fits, Bool.and_eq_true, decide_eq_true_eq] at h
  have h1 : (0 : Int32) ≤ x.toUInt32.toUInt16.toUInt32.toInt32 := h.1
  have h2 : x.toUInt32.toUInt16.toUInt32.toInt32 ≤ (65535 : Int32) := h.2
  exact ⟨fun q => absurd h1 (Int32.not_le.mpr q), fun q => absurd h2 (Int32.not_le.mpr q)⟩
theorem own_shr0 (z : Int32) : z >>> ((0 : Int32) &&& 31) = z := StrChars.shr0 z
theorem own_pair {z : Int32} (h : own_Ch z) : (((StrChars.lo8 z &&& 255) <<< ((0 : Int32) &&& 31)) ||| ((StrChars.hi8 z &&& 255) <<< ((8 : Int32) &&& 31))).toUInt32.toUInt16.toUInt32.toInt32 = z := StrChars.pair_says h.1 h.2
theorem own_and3 (x : Int32) : 0 ≤ (x &&& 3).toInt ∧ (x &&& 3).toInt ≤ 3 := by
  have h : (x &&& 3).toBitVec.toNat ≤ 3 := by
    rw [Int32.toBitVec_and, BitVec.toNat_and]; exact Nat.and_le_right
  have e : (x &&& 3).toInt = (x &&& 3).toBitVec.toInt := rfl
  rw [e, BitVec.toInt_eq_toNat_cond, if_pos (by omega)]
  omega
theorem own_ln (x : Int32) : (x &&& 3) + 1 = 1 ∨ (x &&& 3) + 1 = 2 ∨ (x &&& 3) + 1 = 3 ∨ (x &&& 3) + 1 = 4 := by
  have h := own_and3 x
  generalize x &&& 3 = y at h
  have q : y = 0 ∨ y = 1 ∨ y = 2 ∨ y = 3 := by
    have e : ∀ z : Int32, y.toInt = z.toInt → y = z := fun z q => Int32.toInt_inj.mp q
    have e0 : (0 : Int32).toInt = 0 := rfl
    have e1 : (1 : Int32).toInt = 1 := rfl
    have e2 : (2 : Int32).toInt = 2 := rfl
    have e3 : (3 : Int32).toInt = 3 := rfl
    rcases (by omega : y.toInt = 0 ∨ y.toInt = 1 ∨ y.toInt = 2 ∨ y.toInt = 3) with w | w | w | w
    · exact Or.inl (e _ (by omega))
    · exact Or.inr (Or.inl (e _ (by omega)))
    · exact Or.inr (Or.inr (Or.inl (e _ (by omega))))
    · exact Or.inr (Or.inr (Or.inr (e _ (by omega))))
  rcases q with rfl | rfl | rfl | rfl <;> decide
theorem own_mem {cs : List Int32} {P : Int32 → Prop} {j : Nat} (h : ∀ z ∈ cs, P z) (hj : j < cs.length) : P (cs.getD j 0) := by
  rw [List.getD_eq_getElem?_getD, List.getElem?_eq_getElem hj]
  exact h _ (List.getElem_mem hj)
theorem own_memL {cs : List Int32} {j : Nat} (h : ∀ z ∈ cs, ¬ (255 : Int32) < z) (hj : j < cs.length) : ¬ (255 : Int32) < cs.getD j 0 := own_mem (P := fun z => ¬ (255 : Int32) < z) h hj
theorem own_toI {j : Nat} (h : j < 2000) : (Int32.ofNat j).toInt = j := Int32.toInt_ofNat_of_lt (by omega)
theorem own_clamp {j : Nat} (h : j < 2000) : (Int32.ofNat j).toNatClampNeg = j := by
  show (Int32.ofNat j).toInt.toNat = j
  rw [own_toI h]; rfl
theorem own_ix {i : Int32} {j : Nat} (hi : i = Int32.ofNat j) (hj : j < 1000) : ¬ i < 0 ∧ i.toInt = j ∧ i.toNatClampNeg = j := by
  subst hi
  refine ⟨?_, own_toI (by omega), own_clamp (by omega)⟩
  rw [Int32.lt_iff_toInt_lt, own_toI (by omega)]
  show ¬ (j : Int) < 0
  omega
theorem own_iL {i n : Int32} {j : Nat} {cs : List Int32} (hi : i = Int32.ofNat j) (hn : n = Int32.ofNat cs.length) (hj : j < cs.length) (hl : cs.length < 1000) : i < n := by
  subst hi hn
  rw [Int32.lt_iff_toInt_lt, own_toI (by omega), own_toI (by omega)]
  omega
theorem own_atL {i ch : Int32} {j : Nat} {cs : List Int32} {vs : List Value} (hi : i = Int32.ofNat j) (hv : vs = cs.map fun z => Value.int (StrChars.lo8 z)) (hj : j < cs.length) (hl : cs.length < 1000) (hq : cs.getD j 0 = ch) : vs.getD i.toNatClampNeg (.int (0 : Int32)) = .int (StrChars.lo8 ch) := by
  subst hi hv hq
  rw [own_clamp (by omega)]
  exact StrChars.Road.low_at _ _ _ hj
theorem own_shl : ∀ j : Fin 1000, Int32.ofNat j.val <<< ((1 : Int32) &&& 31) = Int32.ofNat (2 * j.val) := by decide +kernel
theorem own_shl' {i : Int32} {j : Nat} (hi : i = Int32.ofNat j) (hj : j < 1000) : i <<< ((1 : Int32) &&& 31) = Int32.ofNat (2 * j) := by subst hi; exact own_shl ⟨j, hj⟩
theorem own_suc {j : Nat} (h : j < 1999) : Int32.ofNat j + (1 : Int32) = Int32.ofNat (j + 1) := by
  show Int32.ofNat j + Int32.ofNat 1 = Int32.ofNat (j + 1)
  exact (Int32.ofNat_add j 1).symm
theorem own_rng {j k : Nat} (h : j < k) (hk : k ≤ 2000) (hk2 : j < 1999) : ¬ Int32.ofNat j < 0 ∧ (k < 2000 → Int32.ofNat j < Int32.ofNat k) := by
  refine ⟨?_, fun q => ?_⟩
  · rw [Int32.lt_iff_toInt_lt, own_toI (by omega)]
    show ¬ (j : Int) < 0
    omega
  · rw [Int32.lt_iff_toInt_lt, own_toI (by omega), own_toI q]
    omega
theorem own_iU0 {i n : Int32} {j : Nat} {cs : List Int32} (hi : i = Int32.ofNat j) (hn : n = Int32.ofNat (2 * cs.length)) (hj : j < cs.length) (hl : cs.length < 1000) : ¬ (i <<< ((1 : Int32) &&& 31)) < 0 ∧ (i <<< ((1 : Int32) &&& 31)) < n := by
  rw [own_shl' hi (by omega), hn]
  have q := own_rng (show 2 * j < 2 * cs.length by omega) (by omega) (by omega)
  exact ⟨q.1, q.2 (by omega)⟩
theorem own_iU1 {i n : Int32} {j : Nat} {cs : List Int32} (hi : i = Int32.ofNat j) (hn : n = Int32.ofNat (2 * cs.length)) (hj : j < cs.length) (hl : cs.length < 1000) : ¬ ((i <<< ((1 : Int32) &&& 31)) + (1 : Int32)) < 0 ∧ ((i <<< ((1 : Int32) &&& 31)) + (1 : Int32)) < n := by
  rw [own_shl' hi (by omega), hn, own_suc (by omega)]
  have q := own_rng (show 2 * j + 1 < 2 * cs.length by omega) (by omega) (by omega)
  exact ⟨q.1, q.2 (by omega)⟩
theorem own_atU0 {i ch : Int32} {j : Nat} {cs : List Int32} {vs : List Value} (hi : i = Int32.ofNat j) (hv : vs = StrChars.Road.wideBytes cs) (hj : j < cs.length) (hl : cs.length < 1000) (hq : cs.getD j 0 = ch) : vs.getD (i <<< ((1 : Int32) &&& 31)).toNatClampNeg (.int (0 : Int32)) = .int (StrChars.lo8 ch) := by
  rw [own_shl' hi (by omega), own_clamp (by omega), hv, ← hq]
  exact StrChars.Road.wide_lo _ _ _ hj
theorem own_atU1 {i ch : Int32} {j : Nat} {cs : List Int32} {vs : List Value} (hi : i = Int32.ofNat j) (hv : vs = StrChars.Road.wideBytes cs) (hj : j < cs.length) (hl : cs.length < 1000) (hq : cs.getD j 0 = ch) : vs.getD ((i <<< ((1 : Int32) &&& 31)) + (1 : Int32)).toNatClampNeg (.int (0 : Int32)) = .int (StrChars.hi8 ch) := by
  rw [own_shl' hi (by omega), own_suc (by omega), own_clamp (by omega), hv, ← hq]
  exact StrChars.Road.wide_hi _ _ _ hj
theorem own_iU {i n : Int32} {j : Nat} {cs : List Int32} (hi : i = Int32.ofNat j) (hn : n = Int32.ofNat (2 * cs.length)) (hj : j < cs.length) (hl : cs.length < 1000) : i < (n >>> ((1 : Int32) &&& 31)) := by
  subst hi hn
  rw [StrChars.shr1 (by omega)]
  exact (own_rng hj (by omega) (by omega)).2 (by omega)
abbrev eF_pci (m : MethodId) (x0 : Int32) (x1 : Int32) (x2 : Addr) : JFrame := entryFrame m #[(.int x0), (.int x1), (.ref x2)] 3
theorem ef_pci (m : MethodId) (x0 : Int32) (x1 : Int32) (x2 : Addr) : entryFrame m #[(.int x0), (.int x1), (.ref x2)] 3 = mkF m 0 #[.val (.int x0), .val (.int x1), .val (.ref x2)] [] := by first | (simp [entryFrame, mkF, argsToLocals, Value.category]; done) | rfl
theorem pn_pci : plainName "jdk/internal/util/Preconditions" = true := by first | (simp [plainName, overriddenIn]; done) | decide +kernel
def Q_pci (Z : State) (i : Int32) (h0 : Heap) (n0 : Nat) (v : Option Value) (h : Heap) (L : List Loc) : Prop := v = some (.int i) ∧ Fr n0 L ∧ h = h0
set_option maxRecDepth 65536 in
set_option maxHeartbeats 40000000 in
theorem rm_pci (l : Launch) (Z : State) (a0 : Array Value) (hw : ∀ d ∈ tables_1, d.before a0 Z = true) (ws : List Jvm.Cond) (i : Int32) (n : Int32) (f : Addr) (h0 : Heap) (n0 : Nat) (Z0 : n0 ≤ h0.size) (h1 : ¬ i < 0) (h2 : i < n) :
    MetFree l (⟨"jdk/internal/util/Preconditions", "checkIndex", "(IILjava/util/function/BiFunction;)I"⟩ : MethodName) (head1 (Jvm.Cond.code (⟨"jdk/internal/util/Preconditions", "checkIndex", "(IILjava/util/function/BiFunction;)I"⟩ : MethodName) jdk_41_method_11_code 3 (some .int) :: ws) ({ frames := 0, cells := 0, slots := 0, locals := 0 } : Room)) (fun aa U => aa = #[(.int i), (.int n), (.ref f)] ∧ Z.Warmed39 U.vm ∧ U.heap = h0) (fun _ _ _ _ _ => True) (fun _ U o U' => ∃ v L, o = .returned v ∧ Q_pci Z i h0 n0 v U'.heap L ∧ FrameEnd U o U' L ({ frames := 0, cells := 0, slots := 0, locals := 0 } : Room).cells ({ frames := 0, cells := 0, slots := 0, locals := 0 } : Room).slots) := by
  refine MetFree.of_bodySF (plainFor_of_name pn_pci) hisR ?_
  intro p e s m args below meth c s₁ Bd hml0 hP hK
  obtain ⟨rfl, hZ, hh⟩ := hP
  have hx := Bd.exec
  have hby := Bd.bytes
  have hml : c.maxLocals = 3 := hml0
  have hown : s.vm.findClass "jdk/internal/util/Preconditions" = some m.cls := findClass_of_methodNamed Bd.named
  have hnm := (name_of_methodNamed Bd.named Bd.method).1
  have X0 : Stand p l e ({ frames := 0, cells := 0, slots := 0, locals := 0 } : Room) s m #[(.int i), (.int n), (.ref f)] below meth c s₁ [] 0 0 := Stand.of_body Bd
  have e0 : s₁.heap = h0 := by rw [← hh, Bd.state]; rfl
  have N0 := Fr.nil n0
  have S0 : Go p e below s₁ (eF_pci m i n f) s₁ (mkF m 0 #[vI i, vI n, vR f] []) := fun t k => castTop (ef_pci m i n f) k
  have S1 : Go p e below s₁ (eF_pci m i n f) s₁ (mkF m 1 #[vI i, vI n, vR f] [(.int i)]) := fun t kt => S0 t (by
    refine XS.iloadN X0.here hx rfl (hb hby d19_0) rfl ?_
    show Sp p e below s₁ (mkF m 1 #[vI i, vI n, vR f] [(.int i)]) _
    exact kt)
  clear S0
  have S2 : Go p e below s₁ (eF_pci m i n f) s₁ (mkF m 6 #[vI i, vI n, vR f] [(.int n), (.int i)]) := fun t kt => S1 t (by
    refine XS.ifNo X0.here hx rfl (hb hby d19_1) rfl ((if0 _ _).trans (flt (show ¬ (i < (0 : Int32)) from h1)).1) ?_
    show Sp p e below s₁ (mkF m 4 #[vI i, vI n, vR f] []) _
    refine XS.iloadN X0.here hx rfl (hb hby d19_4) rfl ?_
    show Sp p e below s₁ (mkF m 5 #[vI i, vI n, vR f] [(.int i)]) _
    refine XS.iloadN X0.here hx rfl (hb hby d19_5) rfl ?_
    show Sp p e below s₁ (mkF m 6 #[vI i, vI n, vR f] [(.int n), (.int i)]) _
    exact kt)
  clear S1
  have S3 : Go p e below s₁ (eF_pci m i n f) s₁ (mkF m 17 #[vI i, vI n, vR f] [(.int i)]) := fun t kt => S2 t (by
    refine XS.icmpYes X0.here hx rfl (pc0 := 6) (pc' := 16) rfl (hb hby d19_6) rfl (tlt (show i < n from h2)).1 (by decide) (by decide) ?_
    show Sp p e below s₁ (mkF m 16 #[vI i, vI n, vR f] []) _
    refine XS.iloadN X0.here hx rfl (hb hby d19_16) rfl ?_
    show Sp p e below s₁ (mkF m 17 #[vI i, vI n, vR f] [(.int i)]) _
    exact kt)
  clear S2
  obtain ⟨fs, hr, hrun, hended, hW, hsame⟩ := X0.leave (v := some (.int i)) (fun h => by first | rfl | (rw [Bd.returns] at h; cases h))
  refine ⟨_, _, S3 _ ?_, hrun, hended, _, _, rfl, ?_, ⟨_, rfl⟩, hW, hsame.mono (by decide) (by decide)⟩
  · exact retI X0 hx Bd.returns (hb hby d19_17) hr
  · show Q_pci Z i h0 n0 _ s₁.heap _
    rw [e0]
    exact ⟨rfl, N0, rfl⟩
abbrev eF_pciN (m : MethodId) (x0 : Int32) (x1 : Int32) : JFrame := entryFrame m #[(.int x0), (.int x1), .null] 3
theorem ef_pciN (m : MethodId) (x0 : Int32) (x1 : Int32) : entryFrame m #[(.int x0), (.int x1), .null] 3 = mkF m 0 #[.val (.int x0), .val (.int x1), .val .null] [] := by first | (simp [entryFrame, mkF, argsToLocals, Value.category]; done) | rfl
theorem pn_pciN : plainName "jdk/internal/util/Preconditions" = true := by first | (simp [plainName, overriddenIn]; done) | decide +kernel
def Q_pciN (Z : State) (i : Int32) (h0 : Heap) (n0 : Nat) (v : Option Value) (h : Heap) (L : List Loc) : Prop := v = some (.int i) ∧ Fr n0 L ∧ h = h0
set_option maxRecDepth 65536 in
set_option maxHeartbeats 40000000 in
theorem rm_pciN (l : Launch) (Z : State) (a0 : Array Value) (hw : ∀ d ∈ tables_1, d.before a0 Z = true) (ws : List Jvm.Cond) (i : Int32) (n : Int32) (h0 : Heap) (n0 : Nat) (Z0 : n0 ≤ h0.size) (h1 : ¬ i < 0) (h2 : i < n) :
    MetFree l (⟨"jdk/internal/util/Preconditions", "checkIndex", "(IILjava/util/function/BiFunction;)I"⟩ : MethodName) (head1 (Jvm.Cond.code (⟨"jdk/internal/util/Preconditions", "checkIndex", "(IILjava/util/function/BiFunction;)I"⟩ : MethodName) jdk_41_method_11_code 3 (some .int) :: ws) ({ frames := 0, cells := 0, slots := 0, locals := 0 } : Room)) (fun aa U => aa = #[(.int i), (.int n), .null] ∧ Z.Warmed39 U.vm ∧ U.heap = h0) (fun _ _ _ _ _ => True) (fun _ U o U' => ∃ v L, o = .returned v ∧ Q_pciN Z i h0 n0 v U'.heap L ∧ FrameEnd U o U' L ({ frames := 0, cells := 0, slots := 0, locals := 0 } : Room).cells ({ frames := 0, cells := 0, slots := 0, locals := 0 } : Room).slots) := by
  refine MetFree.of_bodySF (plainFor_of_name pn_pciN) hisR ?_
  intro p e s m args below meth c s₁ Bd hml0 hP hK
  obtain ⟨rfl, hZ, hh⟩ := hP
  have hx := Bd.exec
  have hby := Bd.bytes
  have hml : c.maxLocals = 3 := hml0
  have hown : s.vm.findClass "jdk/internal/util/Preconditions" = some m.cls := findClass_of_methodNamed Bd.named
  have hnm := (name_of_methodNamed Bd.named Bd.method).1
  have X0 : Stand p l e ({ frames := 0, cells := 0, slots := 0, locals := 0 } : Room) s m #[(.int i), (.int n), .null] below meth c s₁ [] 0 0 := Stand.of_body Bd
  have e0 : s₁.heap = h0 := by rw [← hh, Bd.state]; rfl
  have N0 := Fr.nil n0
  have S0 : Go p e below s₁ (eF_pciN m i n) s₁ (mkF m 0 #[vI i, vI n, .val .null] []) := fun t k => castTop (ef_pciN m i n) k
  have S4 : Go p e below s₁ (eF_pciN m i n) s₁ (mkF m 1 #[vI i, vI n, .val .null] [(.int i)]) := fun t kt => S0 t (by
    refine XS.iloadN X0.here hx rfl (hb hby d19_0) rfl ?_
    show Sp p e below s₁ (mkF m 1 #[vI i, vI n, .val .null] [(.int i)]) _
    exact kt)
  clear S0
  have S5 : Go p e below s₁ (eF_pciN m i n) s₁ (mkF m 6 #[vI i, vI n, .val .null] [(.int n), (.int i)]) := fun t kt => S4 t (by
    refine XS.ifNo X0.here hx rfl (hb hby d19_1) rfl ((if0 _ _).trans (flt (show ¬ (i < (0 : Int32)) from h1)).1) ?_
    show Sp p e below s₁ (mkF m 4 #[vI i, vI n, .val .null] []) _
    refine XS.iloadN X0.here hx rfl (hb hby d19_4) rfl ?_
    show Sp p e below s₁ (mkF m 5 #[vI i, vI n, .val .null] [(.int i)]) _
    refine XS.iloadN X0.here hx rfl (hb hby d19_5) rfl ?_
    show Sp p e below s₁ (mkF m 6 #[vI i, vI n, .val .null] [(.int n), (.int i)]) _
    exact kt)
  clear S4
  have S6 : Go p e below s₁ (eF_pciN m i n) s₁ (mkF m 17 #[vI i, vI n, .val .null] [(.int i)]) := fun t kt => S5 t (by
    refine XS.icmpYes X0.here hx rfl (pc0 := 6) (pc' := 16) rfl (hb hby d19_6) rfl (tlt (show i < n from h2)).1 (by decide) (by decide) ?_
    show Sp p e below s₁ (mkF m 16 #[vI i, vI n, .val .null] []) _
    refine XS.iloadN X0.here hx rfl (hb hby d19_16) rfl ?_
    show Sp p e below s₁ (mkF m 17 #[vI i, vI n, .val .null] [(.int i)]) _
    exact kt)
  clear S5
  obtain ⟨fs, hr, hrun, hended, hW, hsame⟩ := X0.leave (v := some (.int i)) (fun h => by first | rfl | (rw [Bd.returns] at h; cases h))
  refine ⟨_, _, S6 _ ?_, hrun, hended, _, _, rfl, ?_, ⟨_, rfl⟩, hW, hsame.mono (by decide) (by decide)⟩
  · exact retI X0 hx Bd.returns (hb hby d19_17) hr
  · show Q_pciN Z i h0 n0 _ s₁.heap _
    rw [e0]
    exact ⟨rfl, N0, rfl⟩
abbrev eF_ci (m : MethodId) (x0 : Int32) (x1 : Int32) : JFrame := entryFrame m #[(.int x0), (.int x1)] 2
theorem ef_ci (m : MethodId) (x0 : Int32) (x1 : Int32) : entryFrame m #[(.int x0), (.int x1)] 2 = mkF m 0 #[.val (.int x0), .val (.int x1)] [] := by first | (simp [entryFrame, mkF, argsToLocals, Value.category]; done) | rfl
theorem pn_ci : plainName "java/lang/String" = true := by first | (simp [plainName, overriddenIn]; done) | decide +kernel
def Q_ci (Z : State)  (h0 : Heap) (n0 : Nat) (v : Option Value) (h : Heap) (L : List Loc) : Prop := v = none ∧ Fr n0 L ∧ h = h0
set_option maxRecDepth 65536 in
set_option maxHeartbeats 40000000 in
theorem rm_ci (l : Launch) (Z : State) (a0 : Array Value) (hw : ∀ d ∈ tables_1, d.before a0 Z = true) (ws : List Jvm.Cond) (i : Int32) (n : Int32) (h0 : Heap) (n0 : Nat) (Z0 : n0 ≤ h0.size) (SS : own_St Z) (O0 : Old Z n0 h0) (h1 : ¬ i < 0) (h2 : i < n) :
    MetFree l (⟨"java/lang/String", "checkIndex", "(II)V"⟩ : MethodName) (head1 (Jvm.Cond.code (⟨"java/lang/String", "checkIndex", "(II)V"⟩ : MethodName) jdk_42_method_155_code 2 none :: ws) ({ frames := 1, cells := 0, slots := 0, locals := 14 } : Room)) (fun aa U => aa = #[(.int i), (.int n)] ∧ Z.Warmed39 U.vm ∧ U.heap = h0) (fun _ _ _ _ _ => True) (fun _ U o U' => ∃ v L, o = .returned v ∧ Q_ci Z  h0 n0 v U'.heap L ∧ FrameEnd U o U' L ({ frames := 1, cells := 0, slots := 0, locals := 14 } : Room).cells ({ frames := 1, cells := 0, slots := 0, locals := 14 } : Room).slots) := by
  refine MetFree.of_bodySF (plainFor_of_name pn_ci) hisR ?_
  intro p e s m args below meth c s₁ Bd hml0 hP hK
  obtain ⟨rfl, hZ, hh⟩ := hP
  have hx := Bd.exec
  have hby := Bd.bytes
  have hml : c.maxLocals = 2 := hml0
  have hown : s.vm.findClass "java/lang/String" = some m.cls := findClass_of_methodNamed Bd.named
  have hnm := (name_of_methodNamed Bd.named Bd.method).1
  have X0 : Stand p l e ({ frames := 1, cells := 0, slots := 0, locals := 14 } : Room) s m #[(.int i), (.int n)] below meth c s₁ [] 0 0 := Stand.of_body Bd
  have e0 : s₁.heap = h0 := by rw [← hh, Bd.state]; rfl
  have N0 := Fr.nil n0
  have S0 : Go p e below s₁ (eF_ci m i n) s₁ (mkF m 0 #[vI i, vI n] []) := fun t k => castTop (ef_ci m i n) k
  obtain ⟨⟨cz, S_cs, hcz⟩, ⟨fm, S_fm, hfm⟩, S_ad, S_hi, S_lo⟩ := id SS
  rcases ref_cases hfm with rfl | ⟨fa, rfl⟩
  · have S7 : Go p e below s₁ (eF_ci m i n) s₁ (mkF m 2 #[vI i, vI n] [(.int n), (.int i)]) := fun t kt => S0 t (by
      refine XS.iloadN X0.here hx rfl (hb hby d18_0) rfl ?_
      show Sp p e below s₁ (mkF m 1 #[vI i, vI n] [(.int i)]) _
      refine XS.iloadN X0.here hx rfl (hb hby d18_1) rfl ?_
      show Sp p e below s₁ (mkF m 2 #[vI i, vI n] [(.int n), (.int i)]) _
      exact kt)
    clear S0
    obtain ⟨T8, X8, e8, st8⟩ := getS2 X0 hx hZ hown (host := "") (Or.inl (own_h hw 80 rfl)) Via.refl e0 (S_fm.ext O0.2) (g := (mkF m 2 #[vI i, vI n] [(.int n), (.int i)])) rfl (hb hby d18_2)
    have S9 : Go p e below s₁ (eF_ci m i n) T8 (mkF m 5 #[vI i, vI n] [.null, (.int n), (.int i)]) := fun t kt => S7 t (st8 t kt)
    clear S7 st8 X0 e0
    obtain ⟨v10, T10, L10, X10, hQ10, st10⟩ := own_outS (Jvm.LawKit.callS X8 hx (y := (⟨"jdk/internal/util/Preconditions", "checkIndex", "(IILjava/util/function/BiFunction;)I"⟩ : MethodName)) hown (mvT hZ (own_h hw 82 rfl)) (mvT hZ (own_h hw 83 rfl)) (mvT hZ (own_h hw 81 rfl)) (mvT hZ (own_h hw 84 rfl)) (by decide) (backOf (W := 0) (rm_pciN l Z a0 hw [] i n h0 n0 Z0 h1 h2) hZ (own_h hw 84 rfl) (own_h hw 81 rfl) (by decide) (by decide)) (g := (mkF m 5 #[vI i, vI n] [.null, (.int n), (.int i)])) rfl (by rw [hml]; rfl) (argsL := [(.int i), (.int n), .null]) (rest := []) (lenOf pd__IILjava_util_function_BiFunction__I rfl) rfl (by show 2 * 0 + _ ≤ _; exact Nat.le_of_eq rfl) (hb hby d18_5) (fun _ _ => ⟨rfl, e8, (by decide : 0 + 0 ≤ _), (by decide : 0 + 0 ≤ _)⟩))
    obtain ⟨rfl, N10q, e10⟩ := hQ10
    have N10 := Fr.app N0 N10q
    have S11 : Go p e below s₁ (eF_ci m i n) T10 (mkF m 8 #[vI i, vI n] [(.int i)]) := fun t kt => S9 t (st10 t kt)
    clear S9 st10 X8 e8
    have S12 : Go p e below s₁ (eF_ci m i n) T10 (mkF m 9 #[vI i, vI n] []) := fun t kt => S11 t (by
      refine XS.pop X10.here hx rfl (hb hby d18_8) rfl rfl ?_
      show Sp p e below T10 (mkF m 9 #[vI i, vI n] []) _
      exact kt)
    clear S11
    obtain ⟨fs, hr, hrun, hended, hW, hsame⟩ := X10.leave (v := none) (fun h => by first | rfl | (rw [Bd.returns] at h; cases h))
    refine ⟨_, _, S12 _ ?_, hrun, hended, _, _, rfl, ?_, ⟨_, rfl⟩, hW, hsame.mono (by decide) (by decide)⟩
    · exact X10.returnOut hx Bd.returns (hb hby d18_9) hr
    · show Q_ci Z  h0 n0 _ T10.heap _
      rw [e10]
      exact ⟨rfl, N10, rfl⟩
  · have S13 : Go p e below s₁ (eF_ci m i n) s₁ (mkF m 2 #[vI i, vI n] [(.int n), (.int i)]) := fun t kt => S0 t (by
      refine XS.iloadN X0.here hx rfl (hb hby d18_0) rfl ?_
      show Sp p e below s₁ (mkF m 1 #[vI i, vI n] [(.int i)]) _
      refine XS.iloadN X0.here hx rfl (hb hby d18_1) rfl ?_
      show Sp p e below s₁ (mkF m 2 #[vI i, vI n] [(.int n), (.int i)]) _
      exact kt)
    clear S0
    obtain ⟨T14, X14, e14, st14⟩ := getS2 X0 hx hZ hown (host := "") (Or.inl (own_h hw 80 rfl)) Via.refl e0 (S_fm.ext O0.2) (g := (mkF m 2 #[vI i, vI n] [(.int n), (.int i)])) rfl (hb hby d18_2)
    have S15 : Go p e below s₁ (eF_ci m i n) T14 (mkF m 5 #[vI i, vI n] [(.ref fa), (.int n), (.int i)]) := fun t kt => S13 t (st14 t kt)
    clear S13 st14 X0 e0
    obtain ⟨v16, T16, L16, X16, hQ16, st16⟩ := own_outS (Jvm.LawKit.callS X14 hx (y := (⟨"jdk/internal/util/Preconditions", "checkIndex", "(IILjava/util/function/BiFunction;)I"⟩ : MethodName)) hown (mvT hZ (own_h hw 82 rfl)) (mvT hZ (own_h hw 83 rfl)) (mvT hZ (own_h hw 81 rfl)) (mvT hZ (own_h hw 84 rfl)) (by decide) (backOf (W := 0) (rm_pci l Z a0 hw [] i n fa h0 n0 Z0 h1 h2) hZ (own_h hw 84 rfl) (own_h hw 81 rfl) (by decide) (by decide)) (g := (mkF m 5 #[vI i, vI n] [(.ref fa), (.int n), (.int i)])) rfl (by rw [hml]; rfl) (argsL := [(.int i), (.int n), (.ref fa)]) (rest := []) (lenOf pd__IILjava_util_function_BiFunction__I rfl) rfl (by show 2 * 0 + _ ≤ _; exact Nat.le_of_eq rfl) (hb hby d18_5) (fun _ _ => ⟨rfl, e14, (by decide : 0 + 0 ≤ _), (by decide : 0 + 0 ≤ _)⟩))
    obtain ⟨rfl, N16q, e16⟩ := hQ16
    have N16 := Fr.app N0 N16q
    have S17 : Go p e below s₁ (eF_ci m i n) T16 (mkF m 8 #[vI i, vI n] [(.int i)]) := fun t kt => S15 t (st16 t kt)
    clear S15 st16 X14 e14
    have S18 : Go p e below s₁ (eF_ci m i n) T16 (mkF m 9 #[vI i, vI n] []) := fun t kt => S17 t (by
      refine XS.pop X16.here hx rfl (hb hby d18_8) rfl rfl ?_
      show Sp p e below T16 (mkF m 9 #[vI i, vI n] []) _
      exact kt)
    clear S17
    obtain ⟨fs, hr, hrun, hended, hW, hsame⟩ := X16.leave (v := none) (fun h => by first | rfl | (rw [Bd.returns] at h; cases h))
    refine ⟨_, _, S18 _ ?_, hrun, hended, _, _, rfl, ?_, ⟨_, rfl⟩, hW, hsame.mono (by decide) (by decide)⟩
    · exact X16.returnOut hx Bd.returns (hb hby d18_9) hr
    · show Q_ci Z  h0 n0 _ T16.heap _
      rw [e16]
      exact ⟨rfl, N16, rfl⟩
abbrev eF_ulen (m : MethodId) (x0 : Addr) : JFrame := entryFrame m #[(.ref x0)] 1
theorem ef_ulen (m : MethodId) (x0 : Addr) : entryFrame m #[(.ref x0)] 1 = mkF m 0 #[.val (.ref x0)] [] := by first | (simp [entryFrame, mkF, argsToLocals, Value.category]; done) | rfl
theorem pn_ulen : plainName "java/lang/StringUTF16" = true := by first | (simp [plainName, overriddenIn]; done) | decide +kernel
def Q_ulen (Z : State) (n : Int32) (h0 : Heap) (n0 : Nat) (v : Option Value) (h : Heap) (L : List Loc) : Prop := v = some (.int (n >>> ((1 : Int32) &&& 31))) ∧ Fr n0 L ∧ h = h0
set_option maxRecDepth 65536 in
set_option maxHeartbeats 40000000 in
theorem rm_ulen (l : Launch) (Z : State) (a0 : Array Value) (hw : ∀ d ∈ tables_1, d.before a0 Z = true) (ws : List Jvm.Cond) (b : Addr) (k : ClassId) (n : Int32) (vs : List Value) (h0 : Heap) (n0 : Nat) (Z0 : n0 ≤ h0.size) (V0 : Arv Z h0 b k .byte n vs (.int (0 : Int32))) :
    MetFree l (⟨"java/lang/StringUTF16", "length", "([B)I"⟩ : MethodName) (head1 (Jvm.Cond.code (⟨"java/lang/StringUTF16", "length", "([B)I"⟩ : MethodName) jdk_52_method_6_code 1 (some .int) :: ws) ({ frames := 0, cells := 0, slots := 0, locals := 0 } : Room)) (fun aa U => aa = #[(.ref b)] ∧ Z.Warmed39 U.vm ∧ U.heap = h0) (fun _ _ _ _ _ => True) (fun _ U o U' => ∃ v L, o = .returned v ∧ Q_ulen Z n h0 n0 v U'.heap L ∧ FrameEnd U o U' L ({ frames := 0, cells := 0, slots := 0, locals := 0 } : Room).cells ({ frames := 0, cells := 0, slots := 0, locals := 0 } : Room).slots) := by
  refine MetFree.of_bodySF (plainFor_of_name pn_ulen) hisR ?_
  intro p e s m args below meth c s₁ Bd hml0 hP hK
  obtain ⟨rfl, hZ, hh⟩ := hP
  have hx := Bd.exec
  have hby := Bd.bytes
  have hml : c.maxLocals = 1 := hml0
  have hown : s.vm.findClass "java/lang/StringUTF16" = some m.cls := findClass_of_methodNamed Bd.named
  have hnm := (name_of_methodNamed Bd.named Bd.method).1
  have X0 : Stand p l e ({ frames := 0, cells := 0, slots := 0, locals := 0 } : Room) s m #[(.ref b)] below meth c s₁ [] 0 0 := Stand.of_body Bd
  have e0 : s₁.heap = h0 := by rw [← hh, Bd.state]; rfl
  have N0 := Fr.nil n0
  have S0 : Go p e below s₁ (eF_ulen m b) s₁ (mkF m 0 #[vR b] []) := fun t k => castTop (ef_ulen m b) k
  have S19 : Go p e below s₁ (eF_ulen m b) s₁ (mkF m 1 #[vR b] [(.ref b)]) := fun t kt => S0 t (by
    refine XS.aloadN X0.here hx rfl (hb hby d28_0) rfl rfl ?_
    show Sp p e below s₁ (mkF m 1 #[vR b] [(.ref b)]) _
    exact kt)
  clear S0
  obtain ⟨co20, Ao20, qo20, So20, No20, Ho20, Go20⟩ := id V0
  have S21 : Go p e below s₁ (eF_ulen m b) s₁ (mkF m 4 #[vR b] [(.int (n >>> ((1 : Int32) &&& 31)))]) := fun t kt => S19 t (by
    refine X0.arraylength hx (by rw [e0]; exact Ao20.1) (State.isArrayOf_alike hZ.alike Ao20.2.1) (g := (mkF m 1 #[vR b] [(.ref b)])) rfl rfl (hb hby d28_1) _ ?_
    rw [len_of So20 No20]
    show Sp p e below s₁ (mkF m 2 #[vR b] [(.int n)]) _
    refine XS.iconst X0.here hx rfl (hb hby d28_2) ?_
    show Sp p e below s₁ (mkF m 3 #[vR b] [(.int (1 : Int32)), (.int n)]) _
    refine XS.ishr X0.here hx rfl (hb hby d28_3) rfl ?_
    show Sp p e below s₁ (mkF m 4 #[vR b] [(.int (n >>> ((1 : Int32) &&& 31)))]) _
    exact kt)
  clear S19
  obtain ⟨fs, hr, hrun, hended, hW, hsame⟩ := X0.leave (v := some (.int (n >>> ((1 : Int32) &&& 31)))) (fun h => by first | rfl | (rw [Bd.returns] at h; cases h))
  refine ⟨_, _, S21 _ ?_, hrun, hended, _, _, rfl, ?_, ⟨_, rfl⟩, hW, hsame.mono (by decide) (by decide)⟩
  · exact retI X0 hx Bd.returns (hb hby d28_4) hr
  · show Q_ulen Z n h0 n0 _ s₁.heap _
    rw [e0]
    exact ⟨rfl, N0, rfl⟩
abbrev eF_uci (m : MethodId) (x0 : Int32) (x1 : Addr) : JFrame := entryFrame m #[(.int x0), (.ref x1)] 2
theorem ef_uci (m : MethodId) (x0 : Int32) (x1 : Addr) : entryFrame m #[(.int x0), (.ref x1)] 2 = mkF m 0 #[.val (.int x0), .val (.ref x1)] [] := by first | (simp [entryFrame, mkF, argsToLocals, Value.category]; done) | rfl
theorem pn_uci : plainName "java/lang/StringUTF16" = true := by first | (simp [plainName, overriddenIn]; done) | decide +kernel
def Q_uci (Z : State)  (h0 : Heap) (n0 : Nat) (v : Option Value) (h : Heap) (L : List Loc) : Prop := v = none ∧ Fr n0 L ∧ h = h0
set_option maxRecDepth 65536 in
set_option maxHeartbeats 40000000 in
theorem rm_uci (l : Launch) (Z : State) (a0 : Array Value) (hw : ∀ d ∈ tables_1, d.before a0 Z = true) (ws : List Jvm.Cond) (i : Int32) (b : Addr) (k : ClassId) (n : Int32) (vs : List Value) (h0 : Heap) (n0 : Nat) (Z0 : n0 ≤ h0.size) (SS : own_St Z) (O0 : Old Z n0 h0)(V0 : Arv Z h0 b k .byte n vs (.int (0 : Int32))) (h1 : ¬ i < 0) (h2 : i < (n >>> ((1 : Int32) &&& 31))) :
    MetFree l (⟨"java/lang/StringUTF16", "checkIndex", "(I[B)V"⟩ : MethodName) (head1 (Jvm.Cond.code (⟨"java/lang/StringUTF16", "checkIndex", "(I[B)V"⟩ : MethodName) jdk_52_method_91_code 2 none :: ws) ({ frames := 2, cells := 0, slots := 0, locals := 27 } : Room)) (fun aa U => aa = #[(.int i), (.ref b)] ∧ Z.Warmed39 U.vm ∧ U.heap = h0) (fun _ _ _ _ _ => True) (fun _ U o U' => ∃ v L, o = .returned v ∧ Q_uci Z  h0 n0 v U'.heap L ∧ FrameEnd U o U' L ({ frames := 2, cells := 0, slots := 0, locals := 27 } : Room).cells ({ frames := 2, cells := 0, slots := 0, locals := 27 } : Room).slots) := by
  refine MetFree.of_bodySF (plainFor_of_name pn_uci) hisR ?_
  intro p e s m args below meth c s₁ Bd hml0 hP hK
  obtain ⟨rfl, hZ, hh⟩ := hP
  have hx := Bd.exec
  have hby := Bd.bytes
  have hml : c.maxLocals = 2 := hml0
  have hown : s.vm.findClass "java/lang/StringUTF16" = some m.cls := findClass_of_methodNamed Bd.named
  have hnm := (name_of_methodNamed Bd.named Bd.method).1
  have X0 : Stand p l e ({ frames := 2, cells := 0, slots := 0, locals := 27 } : Room) s m #[(.int i), (.ref b)] below meth c s₁ [] 0 0 := Stand.of_body Bd
  have e0 : s₁.heap = h0 := by rw [← hh, Bd.state]; rfl
  have N0 := Fr.nil n0
  have S0 : Go p e below s₁ (eF_uci m i b) s₁ (mkF m 0 #[vI i, vR b] []) := fun t k => castTop (ef_uci m i b) k
  obtain ⟨⟨cz, S_cs, hcz⟩, ⟨fm, S_fm, hfm⟩, S_ad, S_hi, S_lo⟩ := id SS
  have S22 : Go p e below s₁ (eF_uci m i b) s₁ (mkF m 2 #[vI i, vR b] [(.ref b), (.int i)]) := fun t kt => S0 t (by
    refine XS.iloadN X0.here hx rfl (hb hby d27_0) rfl ?_
    show Sp p e below s₁ (mkF m 1 #[vI i, vR b] [(.int i)]) _
    refine XS.aloadN X0.here hx rfl (hb hby d27_1) rfl rfl ?_
    show Sp p e below s₁ (mkF m 2 #[vI i, vR b] [(.ref b), (.int i)]) _
    exact kt)
  clear S0
  obtain ⟨v23, T23, L23, X23, hQ23, st23⟩ := own_outS (Jvm.LawKit.callS X0 hx (y := (⟨"java/lang/StringUTF16", "length", "([B)I"⟩ : MethodName)) hown (mvT hZ (own_h hw 116 rfl)) (mvT hZ (own_h hw 117 rfl)) (mvT hZ (own_h hw 18 rfl)) (mvT hZ (own_h hw 118 rfl)) (by decide) (backOf (W := 1) (rm_ulen l Z a0 hw [] b k n vs h0 n0 Z0 V0) hZ (own_h hw 118 rfl) (own_h hw 18 rfl) (by decide) (by decide)) (g := (mkF m 2 #[vI i, vR b] [(.ref b), (.int i)])) rfl (by rw [hml]; rfl) (argsL := [(.ref b)]) (rest := [(.int i)]) (lenOf pd___B_I rfl) rfl (by show 2 * 0 + _ ≤ _; exact Nat.le_of_eq rfl) (hb hby d27_2) (fun _ _ => ⟨rfl, e0, (by decide : 0 + 0 ≤ _), (by decide : 0 + 0 ≤ _)⟩))
  obtain ⟨rfl, N23q, e23⟩ := hQ23
  have N23 := Fr.app N0 N23q
  have S24 : Go p e below s₁ (eF_uci m i b) T23 (mkF m 5 #[vI i, vR b] [(.int (n >>> ((1 : Int32) &&& 31))), (.int i)]) := fun t kt => S22 t (st23 t kt)
  clear S22 st23 X0 e0
  obtain ⟨v25, T25, L25, X25, hQ25, st25⟩ := own_outS (Jvm.LawKit.callS X23 hx (y := (⟨"java/lang/String", "checkIndex", "(II)V"⟩ : MethodName)) hown (mvT hZ (own_h hw 119 rfl)) (mvT hZ (own_h hw 78 rfl)) (mvT hZ (own_h hw 4 rfl)) (mvT hZ (own_h hw 79 rfl)) (by decide) (backOf (W := 0) (rm_ci l Z a0 hw [] i (n >>> ((1 : Int32) &&& 31)) h0 n0 Z0 SS O0 h1 h2) hZ (own_h hw 79 rfl) (own_h hw 4 rfl) (by decide) (by decide)) (g := (mkF m 5 #[vI i, vR b] [(.int (n >>> ((1 : Int32) &&& 31))), (.int i)])) rfl (by rw [hml]; rfl) (argsL := [(.int i), (.int (n >>> ((1 : Int32) &&& 31)))]) (rest := []) (lenOf pd__II_V rfl) rfl (by show 2 * 0 + _ ≤ _; exact Nat.le_of_eq rfl) (hb hby d27_5) (fun _ _ => ⟨rfl, e23, (by decide : 0 + 0 ≤ _), (by decide : 0 + 0 ≤ _)⟩))
  obtain ⟨rfl, N25q, e25⟩ := hQ25
  have N25 := Fr.app N23 N25q
  have S26 : Go p e below s₁ (eF_uci m i b) T25 (mkF m 8 #[vI i, vR b] []) := fun t kt => S24 t (st25 t kt)
  clear S24 st25 X23 e23
  obtain ⟨fs, hr, hrun, hended, hW, hsame⟩ := X25.leave (v := none) (fun h => by first | rfl | (rw [Bd.returns] at h; cases h))
  refine ⟨_, _, S26 _ ?_, hrun, hended, _, _, rfl, ?_, ⟨_, rfl⟩, hW, hsame.mono (by decide) (by decide)⟩
  · exact X25.returnOut hx Bd.returns (hb hby d27_8) hr
  · show Q_uci Z  h0 n0 _ T25.heap _
    rw [e25]
    exact ⟨rfl, N25, rfl⟩
abbrev eF_gch (m : MethodId) (x0 : Addr) (x1 : Int32) : JFrame := entryFrame m #[(.ref x0), (.int x1)] 2
theorem ef_gch (m : MethodId) (x0 : Addr) (x1 : Int32) : entryFrame m #[(.ref x0), (.int x1)] 2 = mkF m 0 #[.val (.ref x0), .val (.int x1)] [] := by first | (simp [entryFrame, mkF, argsToLocals, Value.category]; done) | rfl
theorem pn_gch : plainName "java/lang/StringUTF16" = true := by first | (simp [plainName, overriddenIn]; done) | decide +kernel
def Q_gch (Z : State) (ch : Int32) (h0 : Heap) (n0 : Nat) (v : Option Value) (h : Heap) (L : List Loc) : Prop := v = some (.int ch) ∧ Fr n0 L ∧ h = h0
set_option maxRecDepth 65536 in
set_option maxHeartbeats 40000000 in
theorem rm_gch (l : Launch) (Z : State) (a0 : Array Value) (hw : ∀ d ∈ tables_1, d.before a0 Z = true) (ws : List Jvm.Cond) (b : Addr) (i : Int32) (k : ClassId) (n : Int32) (vs : List Value) (ch : Int32) (h0 : Heap) (n0 : Nat) (Z0 : n0 ≤ h0.size) (SS : own_St Z) (O0 : Old Z n0 h0)(V0 : Arv Z h0 b k .byte n vs (.int (0 : Int32)))(in0 : ¬ (i <<< ((1 : Int32) &&& 31)) < 0 ∧ (i <<< ((1 : Int32) &&& 31)) < n) (in1 : ¬ ((i <<< ((1 : Int32) &&& 31)) + (1 : Int32)) < 0 ∧ ((i <<< ((1 : Int32) &&& 31)) + (1 : Int32)) < n) (at0 : vs.getD (i <<< ((1 : Int32) &&& 31)).toNatClampNeg (.int (0 : Int32)) = .int (StrChars.lo8 ch)) (at1 : vs.getD ((i <<< ((1 : Int32) &&& 31)) + (1 : Int32)).toNatClampNeg (.int (0 : Int32)) = .int (StrChars.hi8 ch)) (hc : own_Ch ch) :
    MetFree l (⟨"java/lang/StringUTF16", "getChar", "([BI)C"⟩ : MethodName) (head1 (Jvm.Cond.code (⟨"java/lang/StringUTF16", "getChar", "([BI)C"⟩ : MethodName) jdk_52_method_5_code 2 (some .char) :: ws) ({ frames := 0, cells := 0, slots := 0, locals := 0 } : Room)) (fun aa U => aa = #[(.ref b), (.int i)] ∧ Z.Warmed39 U.vm ∧ U.heap = h0) (fun _ _ _ _ _ => True) (fun _ U o U' => ∃ v L, o = .returned v ∧ Q_gch Z ch h0 n0 v U'.heap L ∧ FrameEnd U o U' L ({ frames := 0, cells := 0, slots := 0, locals := 0 } : Room).cells ({ frames := 0, cells := 0, slots := 0, locals := 0 } : Room).slots) := by
  refine MetFree.of_bodySF (plainFor_of_name pn_gch) hisR ?_
  intro p e s m args below meth c s₁ Bd hml0 hP hK
  obtain ⟨rfl, hZ, hh⟩ := hP
  have hx := Bd.exec
  have hby := Bd.bytes
  have hml : c.maxLocals = 2 := hml0
  have hown : s.vm.findClass "java/lang/StringUTF16" = some m.cls := findClass_of_methodNamed Bd.named
  have hnm := (name_of_methodNamed Bd.named Bd.method).1
  have X0 : Stand p l e ({ frames := 0, cells := 0, slots := 0, locals := 0 } : Room) s m #[(.ref b), (.int i)] below meth c s₁ [] 0 0 := Stand.of_body Bd
  have e0 : s₁.heap = h0 := by rw [← hh, Bd.state]; rfl
  have N0 := Fr.nil n0
  have S0 : Go p e below s₁ (eF_gch m b i) s₁ (mkF m 0 #[vR b, vI i] []) := fun t k => castTop (ef_gch m b i) k
  obtain ⟨⟨cz, S_cs, hcz⟩, ⟨fm, S_fm, hfm⟩, S_ad, S_hi, S_lo⟩ := id SS
  obtain ⟨T27, X27, e27, st27⟩ := getS2 X0 hx hZ hown (host := "") (Or.inl (own_h hw 101 rfl)) Via.refl e0 (S_ad.ext O0.2) (g := (mkF m 0 #[vR b, vI i] [])) rfl (hb hby d24_0)
  have S28 : Go p e below s₁ (eF_gch m b i) T27 (mkF m 3 #[vR b, vI i] [(.int (1 : Int32))]) := fun t kt => S0 t (st27 t kt)
  clear S0 st27 X0 e0
  have S29 : Go p e below s₁ (eF_gch m b i) T27 (mkF m 37 #[vR b, vI ((i <<< ((1 : Int32) &&& 31)) + (1 : Int32))] [(.int (i <<< ((1 : Int32) &&& 31))), (.ref b)]) := fun t kt => S28 t (by
    refine XS.ifYes X27.here hx rfl (pc0 := 3) (pc' := 28) rfl (hb hby d24_3) rfl ((if0 _ _).trans (feq (show ¬ ((1 : Int32) = (0 : Int32)) from (by decide))).2) (by decide) (by decide) ?_
    show Sp p e below T27 (mkF m 28 #[vR b, vI i] []) _
    refine XS.iloadN X27.here hx rfl (hb hby d24_28) rfl ?_
    show Sp p e below T27 (mkF m 29 #[vR b, vI i] [(.int i)]) _
    refine XS.iconst X27.here hx rfl (hb hby d24_29) ?_
    show Sp p e below T27 (mkF m 30 #[vR b, vI i] [(.int (1 : Int32)), (.int i)]) _
    refine XS.ishl X27.here hx rfl (hb hby d24_30) rfl ?_
    show Sp p e below T27 (mkF m 31 #[vR b, vI i] [(.int (i <<< ((1 : Int32) &&& 31)))]) _
    refine XS.istoreN X27.here hx rfl (hb hby d24_31) rfl (l' := #[vR b, vI (i <<< ((1 : Int32) &&& 31))]) rfl ?_
    show Sp p e below T27 (mkF m 32 #[vR b, vI (i <<< ((1 : Int32) &&& 31))] []) _
    refine XS.aloadN X27.here hx rfl (hb hby d24_32) rfl rfl ?_
    show Sp p e below T27 (mkF m 33 #[vR b, vI (i <<< ((1 : Int32) &&& 31))] [(.ref b)]) _
    refine XS.iloadN X27.here hx rfl (hb hby d24_33) rfl ?_
    show Sp p e below T27 (mkF m 34 #[vR b, vI (i <<< ((1 : Int32) &&& 31))] [(.int (i <<< ((1 : Int32) &&& 31))), (.ref b)]) _
    refine XS.iinc X27.here hx rfl (hb hby d24_34) rfl (l' := #[vR b, vI ((i <<< ((1 : Int32) &&& 31)) + (1 : Int32))]) rfl ?_
    show Sp p e below T27 (mkF m 37 #[vR b, vI ((i <<< ((1 : Int32) &&& 31)) + (1 : Int32))] [(.int (i <<< ((1 : Int32) &&& 31))), (.ref b)]) _
    exact kt)
  clear S28
  obtain ⟨co30, Ao30, qo30, So30, No30, Ho30, Go30⟩ := id V0
  have hino30 : ¬ ((i <<< ((1 : Int32) &&& 31)) < 0 ∨ co30.slots.size ≤ ((i <<< ((1 : Int32) &&& 31))).toNatClampNeg) := inb_of So30 in0
  have hato30 : co30.slots[((i <<< ((1 : Int32) &&& 31))).toNatClampNeg]? = some (.int (StrChars.lo8 ch)) := Has.at Ho30 hino30 at0
  have S31 : Go p e below s₁ (eF_gch m b i) T27 (mkF m 42 #[vR b, vI ((i <<< ((1 : Int32) &&& 31)) + (1 : Int32))] [(.int ((StrChars.lo8 ch) &&& (255 : Int32)))]) := fun t kt => S29 t (by
    refine X27.baloadBytes hx (j := (i <<< ((1 : Int32) &&& 31))) (v := (.int (StrChars.lo8 ch))) (by rw [e27]; exact Ao30.1) (State.isArrayOf_alike hZ.alike Ao30.2.1) Ao30.2.2 hino30 hato30 (g := (mkF m 37 #[vR b, vI ((i <<< ((1 : Int32) &&& 31)) + (1 : Int32))] [(.int (i <<< ((1 : Int32) &&& 31))), (.ref b)])) rfl rfl (hb hby d24_37) _ ?_
    show Sp p e below T27 (mkF m 38 #[vR b, vI ((i <<< ((1 : Int32) &&& 31)) + (1 : Int32))] [(.int (StrChars.lo8 ch))]) _
    refine XS.sipush X27.here hx rfl (hb hby d24_38) ?_
    show Sp p e below T27 (mkF m 41 #[vR b, vI ((i <<< ((1 : Int32) &&& 31)) + (1 : Int32))] [(.int (255 : Int32)), (.int (StrChars.lo8 ch))]) _
    refine XS.iand X27.here hx rfl (hb hby d24_41) rfl ?_
    show Sp p e below T27 (mkF m 42 #[vR b, vI ((i <<< ((1 : Int32) &&& 31)) + (1 : Int32))] [(.int ((StrChars.lo8 ch) &&& (255 : Int32)))]) _
    exact kt)
  clear S29
  obtain ⟨T32, X32, e32, st32⟩ := getS2 X27 hx hZ hown (host := "") (Or.inl (own_h hw 102 rfl)) Via.refl e27 (S_hi.ext O0.2) (g := (mkF m 42 #[vR b, vI ((i <<< ((1 : Int32) &&& 31)) + (1 : Int32))] [(.int ((StrChars.lo8 ch) &&& (255 : Int32)))])) rfl (hb hby d24_42)
  have S33 : Go p e below s₁ (eF_gch m b i) T32 (mkF m 45 #[vR b, vI ((i <<< ((1 : Int32) &&& 31)) + (1 : Int32))] [(.int (0 : Int32)), (.int ((StrChars.lo8 ch) &&& (255 : Int32)))]) := fun t kt => S31 t (st32 t kt)
  clear S31 st32 X27 e27
  have S34 : Go p e below s₁ (eF_gch m b i) T32 (mkF m 48 #[vR b, vI ((i <<< ((1 : Int32) &&& 31)) + (1 : Int32))] [(.int ((i <<< ((1 : Int32) &&& 31)) + (1 : Int32))), (.ref b), (.int (((StrChars.lo8 ch) &&& (255 : Int32)) <<< ((0 : Int32) &&& 31)))]) := fun t kt => S33 t (by
    refine XS.ishl X32.here hx rfl (hb hby d24_45) rfl ?_
    show Sp p e below T32 (mkF m 46 #[vR b, vI ((i <<< ((1 : Int32) &&& 31)) + (1 : Int32))] [(.int (((StrChars.lo8 ch) &&& (255 : Int32)) <<< ((0 : Int32) &&& 31)))]) _
    refine XS.aloadN X32.here hx rfl (hb hby d24_46) rfl rfl ?_
    show Sp p e below T32 (mkF m 47 #[vR b, vI ((i <<< ((1 : Int32) &&& 31)) + (1 : Int32))] [(.ref b), (.int (((StrChars.lo8 ch) &&& (255 : Int32)) <<< ((0 : Int32) &&& 31)))]) _
    refine XS.iloadN X32.here hx rfl (hb hby d24_47) rfl ?_
    show Sp p e below T32 (mkF m 48 #[vR b, vI ((i <<< ((1 : Int32) &&& 31)) + (1 : Int32))] [(.int ((i <<< ((1 : Int32) &&& 31)) + (1 : Int32))), (.ref b), (.int (((StrChars.lo8 ch) &&& (255 : Int32)) <<< ((0 : Int32) &&& 31)))]) _
    exact kt)
  clear S33
  obtain ⟨co35, Ao35, qo35, So35, No35, Ho35, Go35⟩ := id V0
  have hino35 : ¬ (((i <<< ((1 : Int32) &&& 31)) + (1 : Int32)) < 0 ∨ co35.slots.size ≤ (((i <<< ((1 : Int32) &&& 31)) + (1 : Int32))).toNatClampNeg) := inb_of So35 in1
  have hato35 : co35.slots[(((i <<< ((1 : Int32) &&& 31)) + (1 : Int32))).toNatClampNeg]? = some (.int (StrChars.hi8 ch)) := Has.at Ho35 hino35 at1
  have S36 : Go p e below s₁ (eF_gch m b i) T32 (mkF m 53 #[vR b, vI ((i <<< ((1 : Int32) &&& 31)) + (1 : Int32))] [(.int ((StrChars.hi8 ch) &&& (255 : Int32))), (.int (((StrChars.lo8 ch) &&& (255 : Int32)) <<< ((0 : Int32) &&& 31)))]) := fun t kt => S34 t (by
    refine X32.baloadBytes hx (j := ((i <<< ((1 : Int32) &&& 31)) + (1 : Int32))) (v := (.int (StrChars.hi8 ch))) (by rw [e32]; exact Ao35.1) (State.isArrayOf_alike hZ.alike Ao35.2.1) Ao35.2.2 hino35 hato35 (g := (mkF m 48 #[vR b, vI ((i <<< ((1 : Int32) &&& 31)) + (1 : Int32))] [(.int ((i <<< ((1 : Int32) &&& 31)) + (1 : Int32))), (.ref b), (.int (((StrChars.lo8 ch) &&& (255 : Int32)) <<< ((0 : Int32) &&& 31)))])) rfl rfl (hb hby d24_48) _ ?_
    show Sp p e below T32 (mkF m 49 #[vR b, vI ((i <<< ((1 : Int32) &&& 31)) + (1 : Int32))] [(.int (StrChars.hi8 ch)), (.int (((StrChars.lo8 ch) &&& (255 : Int32)) <<< ((0 : Int32) &&& 31)))]) _
    refine XS.sipush X32.here hx rfl (hb hby d24_49) ?_
    show Sp p e below T32 (mkF m 52 #[vR b, vI ((i <<< ((1 : Int32) &&& 31)) + (1 : Int32))] [(.int (255 : Int32)), (.int (StrChars.hi8 ch)), (.int (((StrChars.lo8 ch) &&& (255 : Int32)) <<< ((0 : Int32) &&& 31)))]) _
    refine XS.iand X32.here hx rfl (hb hby d24_52) rfl ?_
    show Sp p e below T32 (mkF m 53 #[vR b, vI ((i <<< ((1 : Int32) &&& 31)) + (1 : Int32))] [(.int ((StrChars.hi8 ch) &&& (255 : Int32))), (.int (((StrChars.lo8 ch) &&& (255 : Int32)) <<< ((0 : Int32) &&& 31)))]) _
    exact kt)
  clear S34
  obtain ⟨T37, X37, e37, st37⟩ := getS2 X32 hx hZ hown (host := "") (Or.inl (own_h hw 103 rfl)) Via.refl e32 (S_lo.ext O0.2) (g := (mkF m 53 #[vR b, vI ((i <<< ((1 : Int32) &&& 31)) + (1 : Int32))] [(.int ((StrChars.hi8 ch) &&& (255 : Int32))), (.int (((StrChars.lo8 ch) &&& (255 : Int32)) <<< ((0 : Int32) &&& 31)))])) rfl (hb hby d24_53)
  have S38 : Go p e below s₁ (eF_gch m b i) T37 (mkF m 56 #[vR b, vI ((i <<< ((1 : Int32) &&& 31)) + (1 : Int32))] [(.int (8 : Int32)), (.int ((StrChars.hi8 ch) &&& (255 : Int32))), (.int (((StrChars.lo8 ch) &&& (255 : Int32)) <<< ((0 : Int32) &&& 31)))]) := fun t kt => S36 t (st37 t kt)
  clear S36 st37 X32 e32
  have S39 : Go p e below s₁ (eF_gch m b i) T37 (mkF m 59 #[vR b, vI ((i <<< ((1 : Int32) &&& 31)) + (1 : Int32))] [(.int (((((StrChars.lo8 ch) &&& (255 : Int32)) <<< ((0 : Int32) &&& 31)) ||| (((StrChars.hi8 ch) &&& (255 : Int32)) <<< ((8 : Int32) &&& 31))).toUInt32.toUInt16.toUInt32.toInt32))]) := fun t kt => S38 t (by
    refine XS.ishl X37.here hx rfl (hb hby d24_56) rfl ?_
    show Sp p e below T37 (mkF m 57 #[vR b, vI ((i <<< ((1 : Int32) &&& 31)) + (1 : Int32))] [(.int (((StrChars.hi8 ch) &&& (255 : Int32)) <<< ((8 : Int32) &&& 31))), (.int (((StrChars.lo8 ch) &&& (255 : Int32)) <<< ((0 : Int32) &&& 31)))]) _
    refine XS.ior X37.here hx rfl (hb hby d24_57) rfl ?_
    show Sp p e below T37 (mkF m 58 #[vR b, vI ((i <<< ((1 : Int32) &&& 31)) + (1 : Int32))] [(.int ((((StrChars.lo8 ch) &&& (255 : Int32)) <<< ((0 : Int32) &&& 31)) ||| (((StrChars.hi8 ch) &&& (255 : Int32)) <<< ((8 : Int32) &&& 31))))]) _
    refine XS.i2c X37.here hx rfl (hb hby d24_58) rfl ?_
    show Sp p e below T37 (mkF m 59 #[vR b, vI ((i <<< ((1 : Int32) &&& 31)) + (1 : Int32))] [(.int (((((StrChars.lo8 ch) &&& (255 : Int32)) <<< ((0 : Int32) &&& 31)) ||| (((StrChars.hi8 ch) &&& (255 : Int32)) <<< ((8 : Int32) &&& 31))).toUInt32.toUInt16.toUInt32.toInt32))]) _
    exact kt)
  clear S38
  have q41 : (((((StrChars.lo8 ch) &&& (255 : Int32)) <<< ((0 : Int32) &&& 31)) ||| (((StrChars.hi8 ch) &&& (255 : Int32)) <<< ((8 : Int32) &&& 31))).toUInt32.toUInt16.toUInt32.toInt32) = ch := own_pair hc
  have S40 : Go p e below s₁ (eF_gch m b i) T37 (mkF m 59 #[vR b, vI ((i <<< ((1 : Int32) &&& 31)) + (1 : Int32))] [(.int ch)]) := by have h := S39; rw [q41] at h; exact h
  clear S39
  obtain ⟨fs, hr, hrun, hended, hW, hsame⟩ := X37.leave (v := some (.int (nar .char ch))) (fun h => by first | rfl | (rw [Bd.returns] at h; cases h))
  refine ⟨_, _, S40 _ ?_, hrun, hended, _, _, rfl, ?_, ⟨_, rfl⟩, hW, hsame.mono (by decide) (by decide)⟩
  · exact retN X37 hx (t := .char) Bd.returns (by simp) (hb hby d24_59) hr
  · show Q_gch Z ch h0 n0 _ T37.heap _
    rw [e37]
    exact ⟨by rw [own_nc hc], N0, rfl⟩
abbrev eF_pch (m : MethodId) (x0 : Addr) (x1 : Int32) (x2 : Int32) : JFrame := entryFrame m #[(.ref x0), (.int x1), (.int x2)] 3
theorem ef_pch (m : MethodId) (x0 : Addr) (x1 : Int32) (x2 : Int32) : entryFrame m #[(.ref x0), (.int x1), (.int x2)] 3 = mkF m 0 #[.val (.ref x0), .val (.int x1), .val (.int x2)] [] := by first | (simp [entryFrame, mkF, argsToLocals, Value.category]; done) | rfl
theorem pn_pch : plainName "java/lang/StringUTF16" = true := by first | (simp [plainName, overriddenIn]; done) | decide +kernel
def Q_pch (Z : State) (b : Addr) (ch : Int32) (k : ClassId) (n : Int32) (vs : List Value) (j : Nat) (h0 : Heap) (n0 : Nat) (v : Option Value) (h : Heap) (L : List Loc) : Prop := v = none ∧ Fr n0 L ∧ Keep h0 h [b] ∧ Arv Z h b k .byte n ((vs.set j (.int (StrChars.lo8 ch))).set (j + 1) (.int (StrChars.hi8 ch))) (.int (0 : Int32))
set_option maxRecDepth 65536 in
set_option maxHeartbeats 40000000 in
theorem rm_pch (l : Launch) (Z : State) (a0 : Array Value) (hw : ∀ d ∈ tables_1, d.before a0 Z = true) (ws : List Jvm.Cond) (b : Addr) (i : Int32) (ch : Int32) (k : ClassId) (n : Int32) (vs : List Value) (j : Nat) (h0 : Heap) (n0 : Nat) (Z0 : n0 ≤ h0.size) (SS : own_St Z) (O0 : Old Z n0 h0)(V0 : Arv Z h0 b k .byte n vs (.int (0 : Int32)))(in0 : ¬ (i <<< ((1 : Int32) &&& 31)) < 0 ∧ (i <<< ((1 : Int32) &&& 31)) < n) (in1 : ¬ ((i <<< ((1 : Int32) &&& 31)) + (1 : Int32)) < 0 ∧ ((i <<< ((1 : Int32) &&& 31)) + (1 : Int32)) < n) (j0 : (i <<< ((1 : Int32) &&& 31)).toNatClampNeg = j) (j1 : ((i <<< ((1 : Int32) &&& 31)) + (1 : Int32)).toNatClampNeg = j + 1) (jl : j + 1 < vs.length) (g_b : n0 ≤ b) :
    MetFree l (⟨"java/lang/StringUTF16", "putChar", "([BII)V"⟩ : MethodName) (head1 (Jvm.Cond.code (⟨"java/lang/StringUTF16", "putChar", "([BII)V"⟩ : MethodName) jdk_52_method_4_code 3 none :: ws) ({ frames := 0, cells := 0, slots := 0, locals := 0 } : Room)) (fun aa U => aa = #[(.ref b), (.int i), (.int ch)] ∧ Z.Warmed39 U.vm ∧ U.heap = h0) (fun _ _ _ _ _ => True) (fun _ U o U' => ∃ v L, o = .returned v ∧ Q_pch Z b ch k n vs j h0 n0 v U'.heap L ∧ FrameEnd U o U' L ({ frames := 0, cells := 0, slots := 0, locals := 0 } : Room).cells ({ frames := 0, cells := 0, slots := 0, locals := 0 } : Room).slots) := by
  refine MetFree.of_bodySF (plainFor_of_name pn_pch) hisR ?_
  intro p e s m args below meth c s₁ Bd hml0 hP hK
  obtain ⟨rfl, hZ, hh⟩ := hP
  have hx := Bd.exec
  have hby := Bd.bytes
  have hml : c.maxLocals = 3 := hml0
  have hown : s.vm.findClass "java/lang/StringUTF16" = some m.cls := findClass_of_methodNamed Bd.named
  have hnm := (name_of_methodNamed Bd.named Bd.method).1
  have X0 : Stand p l e ({ frames := 0, cells := 0, slots := 0, locals := 0 } : Room) s m #[(.ref b), (.int i), (.int ch)] below meth c s₁ [] 0 0 := Stand.of_body Bd
  have e0 : s₁.heap = h0 := by rw [← hh, Bd.state]; rfl
  have N0 := Fr.nil n0
  have S0 : Go p e below s₁ (eF_pch m b i ch) s₁ (mkF m 0 #[vR b, vI i, vI ch] []) := fun t k => castTop (ef_pch m b i ch) k
  obtain ⟨⟨cz, S_cs, hcz⟩, ⟨fm, S_fm, hfm⟩, S_ad, S_hi, S_lo⟩ := id SS
  obtain ⟨T42, X42, e42, st42⟩ := getS2 X0 hx hZ hown (host := "") (Or.inl (own_h hw 101 rfl)) Via.refl e0 (S_ad.ext O0.2) (g := (mkF m 0 #[vR b, vI i, vI ch] [])) rfl (hb hby d23_0)
  have S43 : Go p e below s₁ (eF_pch m b i ch) T42 (mkF m 3 #[vR b, vI i, vI ch] [(.int (1 : Int32))]) := fun t kt => S0 t (st42 t kt)
  clear S0 st42 X0 e0
  have S44 : Go p e below s₁ (eF_pch m b i ch) T42 (mkF m 38 #[vR b, vI ((i <<< ((1 : Int32) &&& 31)) + (1 : Int32)), vI ch] [(.int ch), (.int (i <<< ((1 : Int32) &&& 31))), (.ref b)]) := fun t kt => S43 t (by
    refine XS.ifYes X42.here hx rfl (pc0 := 3) (pc' := 28) rfl (hb hby d23_3) rfl ((if0 _ _).trans (feq (show ¬ ((1 : Int32) = (0 : Int32)) from (by decide))).2) (by decide) (by decide) ?_
    show Sp p e below T42 (mkF m 28 #[vR b, vI i, vI ch] []) _
    refine XS.iloadN X42.here hx rfl (hb hby d23_28) rfl ?_
    show Sp p e below T42 (mkF m 29 #[vR b, vI i, vI ch] [(.int i)]) _
    refine XS.iconst X42.here hx rfl (hb hby d23_29) ?_
    show Sp p e below T42 (mkF m 30 #[vR b, vI i, vI ch] [(.int (1 : Int32)), (.int i)]) _
    refine XS.ishl X42.here hx rfl (hb hby d23_30) rfl ?_
    show Sp p e below T42 (mkF m 31 #[vR b, vI i, vI ch] [(.int (i <<< ((1 : Int32) &&& 31)))]) _
    refine XS.istoreN X42.here hx rfl (hb hby d23_31) rfl (l' := #[vR b, vI (i <<< ((1 : Int32) &&& 31)), vI ch]) rfl ?_
    show Sp p e below T42 (mkF m 32 #[vR b, vI (i <<< ((1 : Int32) &&& 31)), vI ch] []) _
    refine XS.aloadN X42.here hx rfl (hb hby d23_32) rfl rfl ?_
    show Sp p e below T42 (mkF m 33 #[vR b, vI (i <<< ((1 : Int32) &&& 31)), vI ch] [(.ref b)]) _
    refine XS.iloadN X42.here hx rfl (hb hby d23_33) rfl ?_
    show Sp p e below T42 (mkF m 34 #[vR b, vI (i <<< ((1 : Int32) &&& 31)), vI ch] [(.int (i <<< ((1 : Int32) &&& 31))), (.ref b)]) _
    refine XS.iinc X42.here hx rfl (hb hby d23_34) rfl (l' := #[vR b, vI ((i <<< ((1 : Int32) &&& 31)) + (1 : Int32)), vI ch]) rfl ?_
    show Sp p e below T42 (mkF m 37 #[vR b, vI ((i <<< ((1 : Int32) &&& 31)) + (1 : Int32)), vI ch] [(.int (i <<< ((1 : Int32) &&& 31))), (.ref b)]) _
    refine XS.iloadN X42.here hx rfl (hb hby d23_37) rfl ?_
    show Sp p e below T42 (mkF m 38 #[vR b, vI ((i <<< ((1 : Int32) &&& 31)) + (1 : Int32)), vI ch] [(.int ch), (.int (i <<< ((1 : Int32) &&& 31))), (.ref b)]) _
    exact kt)
  clear S43
  obtain ⟨T45, X45, e45, st45⟩ := getS2 X42 hx hZ hown (host := "") (Or.inl (own_h hw 102 rfl)) Via.refl e42 (S_hi.ext O0.2) (g := (mkF m 38 #[vR b, vI ((i <<< ((1 : Int32) &&& 31)) + (1 : Int32)), vI ch] [(.int ch), (.int (i <<< ((1 : Int32) &&& 31))), (.ref b)])) rfl (hb hby d23_38)
  have S46 : Go p e below s₁ (eF_pch m b i ch) T45 (mkF m 41 #[vR b, vI ((i <<< ((1 : Int32) &&& 31)) + (1 : Int32)), vI ch] [(.int (0 : Int32)), (.int ch), (.int (i <<< ((1 : Int32) &&& 31))), (.ref b)]) := fun t kt => S44 t (st45 t kt)
  clear S44 st45 X42 e42
  have S47 : Go p e below s₁ (eF_pch m b i ch) T45 (mkF m 43 #[vR b, vI ((i <<< ((1 : Int32) &&& 31)) + (1 : Int32)), vI ch] [(.int ((ch >>> ((0 : Int32) &&& 31)).toInt8.toInt32)), (.int (i <<< ((1 : Int32) &&& 31))), (.ref b)]) := fun t kt => S46 t (by
    refine XS.ishr X45.here hx rfl (hb hby d23_41) rfl ?_
    show Sp p e below T45 (mkF m 42 #[vR b, vI ((i <<< ((1 : Int32) &&& 31)) + (1 : Int32)), vI ch] [(.int (ch >>> ((0 : Int32) &&& 31))), (.int (i <<< ((1 : Int32) &&& 31))), (.ref b)]) _
    refine XS.i2b X45.here hx rfl (hb hby d23_42) rfl ?_
    show Sp p e below T45 (mkF m 43 #[vR b, vI ((i <<< ((1 : Int32) &&& 31)) + (1 : Int32)), vI ch] [(.int ((ch >>> ((0 : Int32) &&& 31)).toInt8.toInt32)), (.int (i <<< ((1 : Int32) &&& 31))), (.ref b)]) _
    exact kt)
  clear S46
  obtain ⟨co48, Ao48, qo48, So48, No48, Ho48, Go48⟩ := id V0
  have hino48 : ¬ ((i <<< ((1 : Int32) &&& 31)) < 0 ∨ co48.slots.size ≤ ((i <<< ((1 : Int32) &&& 31))).toNatClampNeg) := inb_of So48 in0
  obtain ⟨T49, h49, X49, e49, W49, st49⟩ := stB X45 hx hZ e45 Ao48 (j := (i <<< ((1 : Int32) &&& 31))) hino48 (g := (mkF m 43 #[vR b, vI ((i <<< ((1 : Int32) &&& 31)) + (1 : Int32)), vI ch] [(.int ((ch >>> ((0 : Int32) &&& 31)).toInt8.toInt32)), (.int (i <<< ((1 : Int32) &&& 31))), (.ref b)])) rfl rfl (hb hby d23_43)
  have N49 := Fr.snoc X49 N0 g_b
  have K49 : Keep h0 h49 [b] := (Keep.refl h0 [b]).wr W49 (Or.inl (by simp))
  have V49 : Arv Z h49 b k .byte n (vs.set j (.int (StrChars.lo8 ch))) (.int (0 : Int32)) := by rw [← (show vs.set j (.int ((ch >>> ((0 : Int32) &&& 31)).toInt8.toInt32).toInt8.toInt32) = vs.set j (.int (StrChars.lo8 ch)) by rw [own_shr0, own_lo])]; exact Arv.set Ao48 qo48 So48 No48 Ho48 Go48 (fits_nar_byte _) W49 j j0 (by omega)
  have S50 : Go p e below s₁ (eF_pch m b i ch) T49 (mkF m 44 #[vR b, vI ((i <<< ((1 : Int32) &&& 31)) + (1 : Int32)), vI ch] []) := fun t kt => S47 t (st49 t kt)
  clear S47 st49 X45 e45
  have S51 : Go p e below s₁ (eF_pch m b i ch) T49 (mkF m 47 #[vR b, vI ((i <<< ((1 : Int32) &&& 31)) + (1 : Int32)), vI ch] [(.int ch), (.int ((i <<< ((1 : Int32) &&& 31)) + (1 : Int32))), (.ref b)]) := fun t kt => S50 t (by
    refine XS.aloadN X49.here hx rfl (hb hby d23_44) rfl rfl ?_
    show Sp p e below T49 (mkF m 45 #[vR b, vI ((i <<< ((1 : Int32) &&& 31)) + (1 : Int32)), vI ch] [(.ref b)]) _
    refine XS.iloadN X49.here hx rfl (hb hby d23_45) rfl ?_
    show Sp p e below T49 (mkF m 46 #[vR b, vI ((i <<< ((1 : Int32) &&& 31)) + (1 : Int32)), vI ch] [(.int ((i <<< ((1 : Int32) &&& 31)) + (1 : Int32))), (.ref b)]) _
    refine XS.iloadN X49.here hx rfl (hb hby d23_46) rfl ?_
    show Sp p e below T49 (mkF m 47 #[vR b, vI ((i <<< ((1 : Int32) &&& 31)) + (1 : Int32)), vI ch] [(.int ch), (.int ((i <<< ((1 : Int32) &&& 31)) + (1 : Int32))), (.ref b)]) _
    exact kt)
  clear S50
  have f52 := (O0.wr W49 g_b)
  obtain ⟨T53, X53, e53, st53⟩ := getS2 X49 hx hZ hown (host := "") (Or.inl (own_h hw 103 rfl)) Via.refl e49 (S_lo.ext f52.2) (g := (mkF m 47 #[vR b, vI ((i <<< ((1 : Int32) &&& 31)) + (1 : Int32)), vI ch] [(.int ch), (.int ((i <<< ((1 : Int32) &&& 31)) + (1 : Int32))), (.ref b)])) rfl (hb hby d23_47)
  have S54 : Go p e below s₁ (eF_pch m b i ch) T53 (mkF m 50 #[vR b, vI ((i <<< ((1 : Int32) &&& 31)) + (1 : Int32)), vI ch] [(.int (8 : Int32)), (.int ch), (.int ((i <<< ((1 : Int32) &&& 31)) + (1 : Int32))), (.ref b)]) := fun t kt => S51 t (st53 t kt)
  clear S51 st53 X49 e49
  have S55 : Go p e below s₁ (eF_pch m b i ch) T53 (mkF m 52 #[vR b, vI ((i <<< ((1 : Int32) &&& 31)) + (1 : Int32)), vI ch] [(.int ((ch >>> ((8 : Int32) &&& 31)).toInt8.toInt32)), (.int ((i <<< ((1 : Int32) &&& 31)) + (1 : Int32))), (.ref b)]) := fun t kt => S54 t (by
    refine XS.ishr X53.here hx rfl (hb hby d23_50) rfl ?_
    show Sp p e below T53 (mkF m 51 #[vR b, vI ((i <<< ((1 : Int32) &&& 31)) + (1 : Int32)), vI ch] [(.int (ch >>> ((8 : Int32) &&& 31))), (.int ((i <<< ((1 : Int32) &&& 31)) + (1 : Int32))), (.ref b)]) _
    refine XS.i2b X53.here hx rfl (hb hby d23_51) rfl ?_
    show Sp p e below T53 (mkF m 52 #[vR b, vI ((i <<< ((1 : Int32) &&& 31)) + (1 : Int32)), vI ch] [(.int ((ch >>> ((8 : Int32) &&& 31)).toInt8.toInt32)), (.int ((i <<< ((1 : Int32) &&& 31)) + (1 : Int32))), (.ref b)]) _
    exact kt)
  clear S54
  obtain ⟨co56, Ao56, qo56, So56, No56, Ho56, Go56⟩ := id V49
  have hino56 : ¬ (((i <<< ((1 : Int32) &&& 31)) + (1 : Int32)) < 0 ∨ co56.slots.size ≤ (((i <<< ((1 : Int32) &&& 31)) + (1 : Int32))).toNatClampNeg) := inb_of So56 in1
  obtain ⟨T57, h57, X57, e57, W57, st57⟩ := stB X53 hx hZ e53 Ao56 (j := ((i <<< ((1 : Int32) &&& 31)) + (1 : Int32))) hino56 (g := (mkF m 52 #[vR b, vI ((i <<< ((1 : Int32) &&& 31)) + (1 : Int32)), vI ch] [(.int ((ch >>> ((8 : Int32) &&& 31)).toInt8.toInt32)), (.int ((i <<< ((1 : Int32) &&& 31)) + (1 : Int32))), (.ref b)])) rfl rfl (hb hby d23_52)
  have N57 := Fr.snoc X57 N49 g_b
  have K57 : Keep h0 h57 [b] := K49.wr W57 (Or.inl (by simp))
  have V57 : Arv Z h57 b k .byte n ((vs.set j (.int (StrChars.lo8 ch))).set (j + 1) (.int (StrChars.hi8 ch))) (.int (0 : Int32)) := by rw [← (show (vs.set j (.int (StrChars.lo8 ch))).set (j + 1) (.int ((ch >>> ((8 : Int32) &&& 31)).toInt8.toInt32).toInt8.toInt32) = (vs.set j (.int (StrChars.lo8 ch))).set (j + 1) (.int (StrChars.hi8 ch)) by rw [own_lo]; rfl)]; exact Arv.set Ao56 qo56 So56 No56 Ho56 Go56 (fits_nar_byte _) W57 (j + 1) j1 (by rw [List.length_set]; exact jl)
  have S58 : Go p e below s₁ (eF_pch m b i ch) T57 (mkF m 53 #[vR b, vI ((i <<< ((1 : Int32) &&& 31)) + (1 : Int32)), vI ch] []) := fun t kt => S55 t (st57 t kt)
  clear S55 st57 X53 e53
  obtain ⟨fs, hr, hrun, hended, hW, hsame⟩ := X57.leave (v := none) (fun h => by first | rfl | (rw [Bd.returns] at h; cases h))
  refine ⟨_, _, S58 _ ?_, hrun, hended, _, _, rfl, ?_, ⟨_, rfl⟩, hW, hsame.mono (by decide) (by decide)⟩
  · exact X57.returnOut hx Bd.returns (hb hby d23_53) hr
  · show Q_pch Z b ch k n vs j h0 n0 _ T57.heap _
    rw [e57]
    exact ⟨rfl, N57, K57, V57⟩
abbrev eF_uch (m : MethodId) (x0 : Addr) (x1 : Int32) : JFrame := entryFrame m #[(.ref x0), (.int x1)] 2
theorem ef_uch (m : MethodId) (x0 : Addr) (x1 : Int32) : entryFrame m #[(.ref x0), (.int x1)] 2 = mkF m 0 #[.val (.ref x0), .val (.int x1)] [] := by first | (simp [entryFrame, mkF, argsToLocals, Value.category]; done) | rfl
theorem pn_uch : plainName "java/lang/StringUTF16" = true := by first | (simp [plainName, overriddenIn]; done) | decide +kernel
def Q_uch (Z : State) (ch : Int32) (h0 : Heap) (n0 : Nat) (v : Option Value) (h : Heap) (L : List Loc) : Prop := v = some (.int ch) ∧ Fr n0 L ∧ h = h0
set_option maxRecDepth 65536 in
set_option maxHeartbeats 40000000 in
theorem rm_uch (l : Launch) (Z : State) (a0 : Array Value) (hw : ∀ d ∈ tables_1, d.before a0 Z = true) (ws : List Jvm.Cond) (b : Addr) (i : Int32) (k : ClassId) (n : Int32) (vs : List Value) (ch : Int32) (h0 : Heap) (n0 : Nat) (Z0 : n0 ≤ h0.size) (SS : own_St Z) (O0 : Old Z n0 h0)(V0 : Arv Z h0 b k .byte n vs (.int (0 : Int32)))(in0 : ¬ (i <<< ((1 : Int32) &&& 31)) < 0 ∧ (i <<< ((1 : Int32) &&& 31)) < n) (in1 : ¬ ((i <<< ((1 : Int32) &&& 31)) + (1 : Int32)) < 0 ∧ ((i <<< ((1 : Int32) &&& 31)) + (1 : Int32)) < n) (at0 : vs.getD (i <<< ((1 : Int32) &&& 31)).toNatClampNeg (.int (0 : Int32)) = .int (StrChars.lo8 ch)) (at1 : vs.getD ((i <<< ((1 : Int32) &&& 31)) + (1 : Int32)).toNatClampNeg (.int (0 : Int32)) = .int (StrChars.hi8 ch)) (hc : own_Ch ch) (h1 : ¬ i < 0) (h2 : i < (n >>> ((1 : Int32) &&& 31))) :
    MetFree l (⟨"java/lang/StringUTF16", "charAt", "([BI)C"⟩ : MethodName) (head1 (Jvm.Cond.code (⟨"java/lang/StringUTF16", "charAt", "([BI)C"⟩ : MethodName) jdk_52_method_83_code 2 (some .char) :: ws) ({ frames := 3, cells := 0, slots := 0, locals := 40 } : Room)) (fun aa U => aa = #[(.ref b), (.int i)] ∧ Z.Warmed39 U.vm ∧ U.heap = h0) (fun _ _ _ _ _ => True) (fun _ U o U' => ∃ v L, o = .returned v ∧ Q_uch Z ch h0 n0 v U'.heap L ∧ FrameEnd U o U' L ({ frames := 3, cells := 0, slots := 0, locals := 40 } : Room).cells ({ frames := 3, cells := 0, slots := 0, locals := 40 } : Room).slots) := by
  refine MetFree.of_bodySF (plainFor_of_name pn_uch) hisR ?_
  intro p e s m args below meth c s₁ Bd hml0 hP hK
  obtain ⟨rfl, hZ, hh⟩ := hP
  have hx := Bd.exec
  have hby := Bd.bytes
  have hml : c.maxLocals = 2 := hml0
  have hown : s.vm.findClass "java/lang/StringUTF16" = some m.cls := findClass_of_methodNamed Bd.named
  have hnm := (name_of_methodNamed Bd.named Bd.method).1
  have X0 : Stand p l e ({ frames := 3, cells := 0, slots := 0, locals := 40 } : Room) s m #[(.ref b), (.int i)] below meth c s₁ [] 0 0 := Stand.of_body Bd
  have e0 : s₁.heap = h0 := by rw [← hh, Bd.state]; rfl
  have N0 := Fr.nil n0
  have S0 : Go p e below s₁ (eF_uch m b i) s₁ (mkF m 0 #[vR b, vI i] []) := fun t k => castTop (ef_uch m b i) k
  obtain ⟨⟨cz, S_cs, hcz⟩, ⟨fm, S_fm, hfm⟩, S_ad, S_hi, S_lo⟩ := id SS
  have S59 : Go p e below s₁ (eF_uch m b i) s₁ (mkF m 2 #[vR b, vI i] [(.ref b), (.int i)]) := fun t kt => S0 t (by
    refine XS.iloadN X0.here hx rfl (hb hby d26_0) rfl ?_
    show Sp p e below s₁ (mkF m 1 #[vR b, vI i] [(.int i)]) _
    refine XS.aloadN X0.here hx rfl (hb hby d26_1) rfl rfl ?_
    show Sp p e below s₁ (mkF m 2 #[vR b, vI i] [(.ref b), (.int i)]) _
    exact kt)
  clear S0
  obtain ⟨v60, T60, L60, X60, hQ60, st60⟩ := own_outS (Jvm.LawKit.callS X0 hx (y := (⟨"java/lang/StringUTF16", "checkIndex", "(I[B)V"⟩ : MethodName)) hown (mvT hZ (own_h hw 113 rfl)) (mvT hZ (own_h hw 114 rfl)) (mvT hZ (own_h hw 18 rfl)) (mvT hZ (own_h hw 115 rfl)) (by decide) (backOf (W := 0) (rm_uci l Z a0 hw [] i b k n vs h0 n0 Z0 SS O0 V0 h1 h2) hZ (own_h hw 115 rfl) (own_h hw 18 rfl) (by decide) (by decide)) (g := (mkF m 2 #[vR b, vI i] [(.ref b), (.int i)])) rfl (by rw [hml]; rfl) (argsL := [(.int i), (.ref b)]) (rest := []) (lenOf pd__I_B_V rfl) rfl (by show 2 * 0 + _ ≤ _; exact Nat.le_of_eq rfl) (hb hby d26_2) (fun _ _ => ⟨rfl, e0, (by decide : 0 + 0 ≤ _), (by decide : 0 + 0 ≤ _)⟩))
  obtain ⟨rfl, N60q, e60⟩ := hQ60
  have N60 := Fr.app N0 N60q
  have S61 : Go p e below s₁ (eF_uch m b i) T60 (mkF m 5 #[vR b, vI i] []) := fun t kt => S59 t (st60 t kt)
  clear S59 st60 X0 e0
  have S62 : Go p e below s₁ (eF_uch m b i) T60 (mkF m 7 #[vR b, vI i] [(.int i), (.ref b)]) := fun t kt => S61 t (by
    refine XS.aloadN X60.here hx rfl (hb hby d26_5) rfl rfl ?_
    show Sp p e below T60 (mkF m 6 #[vR b, vI i] [(.ref b)]) _
    refine XS.iloadN X60.here hx rfl (hb hby d26_6) rfl ?_
    show Sp p e below T60 (mkF m 7 #[vR b, vI i] [(.int i), (.ref b)]) _
    exact kt)
  clear S61
  obtain ⟨v63, T63, L63, X63, hQ63, st63⟩ := own_outS (Jvm.LawKit.callS X60 hx (y := (⟨"java/lang/StringUTF16", "getChar", "([BI)C"⟩ : MethodName)) hown (mvT hZ (own_h hw 104 rfl)) (mvT hZ (own_h hw 105 rfl)) (mvT hZ (own_h hw 18 rfl)) (mvT hZ (own_h hw 106 rfl)) (by decide) (backOf (W := 0) (rm_gch l Z a0 hw [] b i k n vs ch h0 n0 Z0 SS O0 V0 in0 in1 at0 at1 hc) hZ (own_h hw 106 rfl) (own_h hw 18 rfl) (by decide) (by decide)) (g := (mkF m 7 #[vR b, vI i] [(.int i), (.ref b)])) rfl (by rw [hml]; rfl) (argsL := [(.ref b), (.int i)]) (rest := []) (lenOf pd___BI_C rfl) rfl (by show 2 * 0 + _ ≤ _; exact Nat.le_of_eq rfl) (hb hby d26_7) (fun _ _ => ⟨rfl, e60, (by decide : 0 + 0 ≤ _), (by decide : 0 + 0 ≤ _)⟩))
  obtain ⟨rfl, N63q, e63⟩ := hQ63
  have N63 := Fr.app N60 N63q
  have S64 : Go p e below s₁ (eF_uch m b i) T63 (mkF m 10 #[vR b, vI i] [(.int ch)]) := fun t kt => S62 t (st63 t kt)
  clear S62 st63 X60 e60
  obtain ⟨fs, hr, hrun, hended, hW, hsame⟩ := X63.leave (v := some (.int (nar .char ch))) (fun h => by first | rfl | (rw [Bd.returns] at h; cases h))
  refine ⟨_, _, S64 _ ?_, hrun, hended, _, _, rfl, ?_, ⟨_, rfl⟩, hW, hsame.mono (by decide) (by decide)⟩
  · exact retN X63 hx (t := .char) Bd.returns (by simp) (hb hby d26_10) hr
  · show Q_uch Z ch h0 n0 _ T63.heap _
    rw [e63]
    exact ⟨by rw [own_nc hc], N63, rfl⟩
abbrev eF_lch (m : MethodId) (x0 : Addr) (x1 : Int32) : JFrame := entryFrame m #[(.ref x0), (.int x1)] 2
theorem ef_lch (m : MethodId) (x0 : Addr) (x1 : Int32) : entryFrame m #[(.ref x0), (.int x1)] 2 = mkF m 0 #[.val (.ref x0), .val (.int x1)] [] := by first | (simp [entryFrame, mkF, argsToLocals, Value.category]; done) | rfl
theorem pn_lch : plainName "java/lang/StringLatin1" = true := by first | (simp [plainName, overriddenIn]; done) | decide +kernel
def Q_lch (Z : State) (ch : Int32) (h0 : Heap) (n0 : Nat) (v : Option Value) (h : Heap) (L : List Loc) : Prop := v = some (.int ch) ∧ Fr n0 L ∧ h = h0
set_option maxRecDepth 65536 in
set_option maxHeartbeats 40000000 in
theorem rm_lch (l : Launch) (Z : State) (a0 : Array Value) (hw : ∀ d ∈ tables_1, d.before a0 Z = true) (ws : List Jvm.Cond) (b : Addr) (i : Int32) (k : ClassId) (n : Int32) (vs : List Value) (ch : Int32) (h0 : Heap) (n0 : Nat) (Z0 : n0 ≤ h0.size) (SS : own_St Z) (O0 : Old Z n0 h0)(V0 : Arv Z h0 b k .byte n vs (.int (0 : Int32))) (h1 : ¬ i < 0) (h2 : i < n) (at0 : vs.getD i.toNatClampNeg (.int (0 : Int32)) = .int (StrChars.lo8 ch)) (hc : own_Ch ch) (hc2 : ¬ (255 : Int32) < ch) :
    MetFree l (⟨"java/lang/StringLatin1", "charAt", "([BI)C"⟩ : MethodName) (head1 (Jvm.Cond.code (⟨"java/lang/StringLatin1", "charAt", "([BI)C"⟩ : MethodName) jdk_43_method_2_code 2 (some .char) :: ws) ({ frames := 2, cells := 0, slots := 0, locals := 27 } : Room)) (fun aa U => aa = #[(.ref b), (.int i)] ∧ Z.Warmed39 U.vm ∧ U.heap = h0) (fun _ _ _ _ _ => True) (fun _ U o U' => ∃ v L, o = .returned v ∧ Q_lch Z ch h0 n0 v U'.heap L ∧ FrameEnd U o U' L ({ frames := 2, cells := 0, slots := 0, locals := 27 } : Room).cells ({ frames := 2, cells := 0, slots := 0, locals := 27 } : Room).slots) := by
  refine MetFree.of_bodySF (plainFor_of_name pn_lch) hisR ?_
  intro p e s m args below meth c s₁ Bd hml0 hP hK
  obtain ⟨rfl, hZ, hh⟩ := hP
  have hx := Bd.exec
  have hby := Bd.bytes
  have hml : c.maxLocals = 2 := hml0
  have hown : s.vm.findClass "java/lang/StringLatin1" = some m.cls := findClass_of_methodNamed Bd.named
  have hnm := (name_of_methodNamed Bd.named Bd.method).1
  have X0 : Stand p l e ({ frames := 2, cells := 0, slots := 0, locals := 27 } : Room) s m #[(.ref b), (.int i)] below meth c s₁ [] 0 0 := Stand.of_body Bd
  have e0 : s₁.heap = h0 := by rw [← hh, Bd.state]; rfl
  have N0 := Fr.nil n0
  have S0 : Go p e below s₁ (eF_lch m b i) s₁ (mkF m 0 #[vR b, vI i] []) := fun t k => castTop (ef_lch m b i) k
  obtain ⟨⟨cz, S_cs, hcz⟩, ⟨fm, S_fm, hfm⟩, S_ad, S_hi, S_lo⟩ := id SS
  have S65 : Go p e below s₁ (eF_lch m b i) s₁ (mkF m 2 #[vR b, vI i] [(.ref b), (.int i)]) := fun t kt => S0 t (by
    refine XS.iloadN X0.here hx rfl (hb hby d17_0) rfl ?_
    show Sp p e below s₁ (mkF m 1 #[vR b, vI i] [(.int i)]) _
    refine XS.aloadN X0.here hx rfl (hb hby d17_1) rfl rfl ?_
    show Sp p e below s₁ (mkF m 2 #[vR b, vI i] [(.ref b), (.int i)]) _
    exact kt)
  clear S0
  obtain ⟨co66, Ao66, qo66, So66, No66, Ho66, Go66⟩ := id V0
  have S67 : Go p e below s₁ (eF_lch m b i) s₁ (mkF m 3 #[vR b, vI i] [(.int n), (.int i)]) := fun t kt => S65 t (by
    refine X0.arraylength hx (by rw [e0]; exact Ao66.1) (State.isArrayOf_alike hZ.alike Ao66.2.1) (g := (mkF m 2 #[vR b, vI i] [(.ref b), (.int i)])) rfl rfl (hb hby d17_2) _ ?_
    rw [len_of So66 No66]
    show Sp p e below s₁ (mkF m 3 #[vR b, vI i] [(.int n), (.int i)]) _
    exact kt)
  clear S65
  obtain ⟨v68, T68, L68, X68, hQ68, st68⟩ := own_outS (Jvm.LawKit.callS X0 hx (y := (⟨"java/lang/String", "checkIndex", "(II)V"⟩ : MethodName)) hown (mvT hZ (own_h hw 77 rfl)) (mvT hZ (own_h hw 78 rfl)) (mvT hZ (own_h hw 4 rfl)) (mvT hZ (own_h hw 79 rfl)) (by decide) (backOf (W := 0) (rm_ci l Z a0 hw [] i n h0 n0 Z0 SS O0 h1 h2) hZ (own_h hw 79 rfl) (own_h hw 4 rfl) (by decide) (by decide)) (g := (mkF m 3 #[vR b, vI i] [(.int n), (.int i)])) rfl (by rw [hml]; rfl) (argsL := [(.int i), (.int n)]) (rest := []) (lenOf pd__II_V rfl) rfl (by show 2 * 0 + _ ≤ _; exact Nat.le_of_eq rfl) (hb hby d17_3) (fun _ _ => ⟨rfl, e0, (by decide : 0 + 0 ≤ _), (by decide : 0 + 0 ≤ _)⟩))
  obtain ⟨rfl, N68q, e68⟩ := hQ68
  have N68 := Fr.app N0 N68q
  have S69 : Go p e below s₁ (eF_lch m b i) T68 (mkF m 6 #[vR b, vI i] []) := fun t kt => S67 t (st68 t kt)
  clear S67 st68 X0 e0
  have S70 : Go p e below s₁ (eF_lch m b i) T68 (mkF m 8 #[vR b, vI i] [(.int i), (.ref b)]) := fun t kt => S69 t (by
    refine XS.aloadN X68.here hx rfl (hb hby d17_6) rfl rfl ?_
    show Sp p e below T68 (mkF m 7 #[vR b, vI i] [(.ref b)]) _
    refine XS.iloadN X68.here hx rfl (hb hby d17_7) rfl ?_
    show Sp p e below T68 (mkF m 8 #[vR b, vI i] [(.int i), (.ref b)]) _
    exact kt)
  clear S69
  obtain ⟨co71, Ao71, qo71, So71, No71, Ho71, Go71⟩ := id V0
  have hino71 : ¬ (i < 0 ∨ co71.slots.size ≤ (i).toNatClampNeg) := inb_of So71 ⟨h1, h2⟩
  have hato71 : co71.slots[(i).toNatClampNeg]? = some (.int (StrChars.lo8 ch)) := Has.at Ho71 hino71 at0
  have S72 : Go p e below s₁ (eF_lch m b i) T68 (mkF m 14 #[vR b, vI i] [(.int (((StrChars.lo8 ch) &&& (255 : Int32)).toUInt32.toUInt16.toUInt32.toInt32))]) := fun t kt => S70 t (by
    refine X68.baloadBytes hx (j := i) (v := (.int (StrChars.lo8 ch))) (by rw [e68]; exact Ao71.1) (State.isArrayOf_alike hZ.alike Ao71.2.1) Ao71.2.2 hino71 hato71 (g := (mkF m 8 #[vR b, vI i] [(.int i), (.ref b)])) rfl rfl (hb hby d17_8) _ ?_
    show Sp p e below T68 (mkF m 9 #[vR b, vI i] [(.int (StrChars.lo8 ch))]) _
    refine XS.sipush X68.here hx rfl (hb hby d17_9) ?_
    show Sp p e below T68 (mkF m 12 #[vR b, vI i] [(.int (255 : Int32)), (.int (StrChars.lo8 ch))]) _
    refine XS.iand X68.here hx rfl (hb hby d17_12) rfl ?_
    show Sp p e below T68 (mkF m 13 #[vR b, vI i] [(.int ((StrChars.lo8 ch) &&& (255 : Int32)))]) _
    refine XS.i2c X68.here hx rfl (hb hby d17_13) rfl ?_
    show Sp p e below T68 (mkF m 14 #[vR b, vI i] [(.int (((StrChars.lo8 ch) &&& (255 : Int32)).toUInt32.toUInt16.toUInt32.toInt32))]) _
    exact kt)
  clear S70
  have q74 : (((StrChars.lo8 ch) &&& (255 : Int32)).toUInt32.toUInt16.toUInt32.toInt32) = ch := StrChars.chr8_lo8 hc.1 hc2
  have S73 : Go p e below s₁ (eF_lch m b i) T68 (mkF m 14 #[vR b, vI i] [(.int ch)]) := by have h := S72; rw [q74] at h; exact h
  clear S72
  obtain ⟨fs, hr, hrun, hended, hW, hsame⟩ := X68.leave (v := some (.int (nar .char ch))) (fun h => by first | rfl | (rw [Bd.returns] at h; cases h))
  refine ⟨_, _, S73 _ ?_, hrun, hended, _, _, rfl, ?_, ⟨_, rfl⟩, hW, hsame.mono (by decide) (by decide)⟩
  · exact retN X68 hx (t := .char) Bd.returns (by simp) (hb hby d17_14) hr
  · show Q_lch Z ch h0 n0 _ T68.heap _
    rw [e68]
    exact ⟨by rw [own_nc hc], N68, rfl⟩
abbrev eF_il0 (m : MethodId) (x0 : Addr) : JFrame := entryFrame m #[(.ref x0)] 1
theorem ef_il0 (m : MethodId) (x0 : Addr) : entryFrame m #[(.ref x0)] 1 = mkF m 0 #[.val (.ref x0)] [] := by first | (simp [entryFrame, mkF, argsToLocals, Value.category]; done) | rfl
theorem pn_il0 : plainName "java/lang/String" = true := by first | (simp [plainName, overriddenIn]; done) | decide +kernel
def Q_il0 (Z : State)  (h0 : Heap) (n0 : Nat) (v : Option Value) (h : Heap) (L : List Loc) : Prop := v = some (.int (1 : Int32)) ∧ Fr n0 L ∧ h = h0
set_option maxRecDepth 65536 in
set_option maxHeartbeats 40000000 in
theorem rm_il0 (l : Launch) (Z : State) (a0 : Array Value) (hw : ∀ d ∈ tables_1, d.before a0 Z = true) (ws : List Jvm.Cond) (a : Addr) (h0 : Heap) (n0 : Nat) (Z0 : n0 ≤ h0.size) (SS : own_St Z) (O0 : Old Z n0 h0) (F0 : Fld Z h0 a "java/lang/String" "coder" "B" (.int (0 : Int32))) :
    MetFree l (⟨"java/lang/String", "isLatin1", "()Z"⟩ : MethodName) (head1 (Jvm.Cond.code (⟨"java/lang/String", "isLatin1", "()Z"⟩ : MethodName) jdk_42_method_154_code 1 (some .boolean) :: ws) ({ frames := 0, cells := 0, slots := 0, locals := 0 } : Room)) (fun aa U => aa = #[(.ref a)] ∧ Z.Warmed39 U.vm ∧ U.heap = h0) (fun _ _ _ _ _ => True) (fun _ U o U' => ∃ v L, o = .returned v ∧ Q_il0 Z  h0 n0 v U'.heap L ∧ FrameEnd U o U' L ({ frames := 0, cells := 0, slots := 0, locals := 0 } : Room).cells ({ frames := 0, cells := 0, slots := 0, locals := 0 } : Room).slots) := by
  refine MetFree.of_bodySF (plainFor_of_name pn_il0) hisR ?_
  intro p e s m args below meth c s₁ Bd hml0 hP hK
  obtain ⟨rfl, hZ, hh⟩ := hP
  have hx := Bd.exec
  have hby := Bd.bytes
  have hml : c.maxLocals = 1 := hml0
  have hown : s.vm.findClass "java/lang/String" = some m.cls := findClass_of_methodNamed Bd.named
  have hnm := (name_of_methodNamed Bd.named Bd.method).1
  have X0 : Stand p l e ({ frames := 0, cells := 0, slots := 0, locals := 0 } : Room) s m #[(.ref a)] below meth c s₁ [] 0 0 := Stand.of_body Bd
  have e0 : s₁.heap = h0 := by rw [← hh, Bd.state]; rfl
  have N0 := Fr.nil n0
  have S0 : Go p e below s₁ (eF_il0 m a) s₁ (mkF m 0 #[vR a] []) := fun t k => castTop (ef_il0 m a) k
  obtain ⟨⟨cz, S_cs, hcz⟩, ⟨fm, S_fm, hfm⟩, S_ad, S_hi, S_lo⟩ := id SS
  obtain ⟨T75, X75, e75, st75⟩ := getS2 X0 hx hZ hown (host := "") (Or.inl (own_h hw 15 rfl)) Via.refl e0 (S_cs.ext O0.2) (g := (mkF m 0 #[vR a] [])) rfl (hb hby d16_0)
  have S76 : Go p e below s₁ (eF_il0 m a) T75 (mkF m 3 #[vR a] [(.int cz)]) := fun t kt => S0 t (st75 t kt)
  clear S0 st75 X0 e0
  have S77 : Go p e below s₁ (eF_il0 m a) T75 (mkF m 7 #[vR a] [(.ref a)]) := fun t kt => S76 t (by
    refine XS.ifNo X75.here hx rfl (hb hby d16_3) rfl ((if0 _ _).trans (feq (show ¬ (cz = (0 : Int32)) from hcz)).1) ?_
    show Sp p e below T75 (mkF m 6 #[vR a] []) _
    refine XS.aloadN X75.here hx rfl (hb hby d16_6) rfl rfl ?_
    show Sp p e below T75 (mkF m 7 #[vR a] [(.ref a)]) _
    exact kt)
  clear S76
  obtain ⟨T78, X78, e78, st78⟩ := getF X75 hx hZ hown (host := "") (Or.inl (own_h hw 27 rfl)) Via.refl e75 F0 (g := (mkF m 7 #[vR a] [(.ref a)])) rfl rfl (hb hby d16_7)
  have S79 : Go p e below s₁ (eF_il0 m a) T78 (mkF m 10 #[vR a] [(.int (0 : Int32))]) := fun t kt => S77 t (st78 t kt)
  clear S77 st78 X75 e75
  have S80 : Go p e below s₁ (eF_il0 m a) T78 (mkF m 18 #[vR a] [(.int (1 : Int32))]) := fun t kt => S79 t (by
    refine XS.ifNo X78.here hx rfl (hb hby d16_10) rfl ((if0 _ _).trans (teq (show (0 : Int32) = (0 : Int32) from (by decide))).2) ?_
    show Sp p e below T78 (mkF m 13 #[vR a] []) _
    refine XS.iconst X78.here hx rfl (hb hby d16_13) ?_
    show Sp p e below T78 (mkF m 14 #[vR a] [(.int (1 : Int32))]) _
    refine XS.goto X78.here hx rfl (pc0 := 14) (pc' := 18) rfl (hb hby d16_14) (by decide) (by decide) ?_
    show Sp p e below T78 (mkF m 18 #[vR a] [(.int (1 : Int32))]) _
    exact kt)
  clear S79
  obtain ⟨fs, hr, hrun, hended, hW, hsame⟩ := X78.leave (v := some (.int (1 : Int32))) (fun h => by first | rfl | (rw [Bd.returns] at h; cases h))
  refine ⟨_, _, S80 _ ?_, hrun, hended, _, _, rfl, ?_, ⟨_, rfl⟩, hW, hsame.mono (by decide) (by decide)⟩
  · exact retN X78 hx (t := .boolean) Bd.returns (by simp) (hb hby d16_18) hr
  · show Q_il0 Z  h0 n0 _ T78.heap _
    rw [e78]
    exact ⟨rfl, N0, rfl⟩
abbrev eF_il1 (m : MethodId) (x0 : Addr) : JFrame := entryFrame m #[(.ref x0)] 1
theorem ef_il1 (m : MethodId) (x0 : Addr) : entryFrame m #[(.ref x0)] 1 = mkF m 0 #[.val (.ref x0)] [] := by first | (simp [entryFrame, mkF, argsToLocals, Value.category]; done) | rfl
theorem pn_il1 : plainName "java/lang/String" = true := by first | (simp [plainName, overriddenIn]; done) | decide +kernel
def Q_il1 (Z : State)  (h0 : Heap) (n0 : Nat) (v : Option Value) (h : Heap) (L : List Loc) : Prop := v = some (.int (0 : Int32)) ∧ Fr n0 L ∧ h = h0
set_option maxRecDepth 65536 in
set_option maxHeartbeats 40000000 in
theorem rm_il1 (l : Launch) (Z : State) (a0 : Array Value) (hw : ∀ d ∈ tables_1, d.before a0 Z = true) (ws : List Jvm.Cond) (a : Addr) (h0 : Heap) (n0 : Nat) (Z0 : n0 ≤ h0.size) (SS : own_St Z) (O0 : Old Z n0 h0) (F0 : Fld Z h0 a "java/lang/String" "coder" "B" (.int (1 : Int32))) :
    MetFree l (⟨"java/lang/String", "isLatin1", "()Z"⟩ : MethodName) (head1 (Jvm.Cond.code (⟨"java/lang/String", "isLatin1", "()Z"⟩ : MethodName) jdk_42_method_154_code 1 (some .boolean) :: ws) ({ frames := 0, cells := 0, slots := 0, locals := 0 } : Room)) (fun aa U => aa = #[(.ref a)] ∧ Z.Warmed39 U.vm ∧ U.heap = h0) (fun _ _ _ _ _ => True) (fun _ U o U' => ∃ v L, o = .returned v ∧ Q_il1 Z  h0 n0 v U'.heap L ∧ FrameEnd U o U' L ({ frames := 0, cells := 0, slots := 0, locals := 0 } : Room).cells ({ frames := 0, cells := 0, slots := 0, locals := 0 } : Room).slots) := by
  refine MetFree.of_bodySF (plainFor_of_name pn_il1) hisR ?_
  intro p e s m args below meth c s₁ Bd hml0 hP hK
  obtain ⟨rfl, hZ, hh⟩ := hP
  have hx := Bd.exec
  have hby := Bd.bytes
  have hml : c.maxLocals = 1 := hml0
  have hown : s.vm.findClass "java/lang/String" = some m.cls := findClass_of_methodNamed Bd.named
  have hnm := (name_of_methodNamed Bd.named Bd.method).1
  have X0 : Stand p l e ({ frames := 0, cells := 0, slots := 0, locals := 0 } : Room) s m #[(.ref a)] below meth c s₁ [] 0 0 := Stand.of_body Bd
  have e0 : s₁.heap = h0 := by rw [← hh, Bd.state]; rfl
  have N0 := Fr.nil n0
  have S0 : Go p e below s₁ (eF_il1 m a) s₁ (mkF m 0 #[vR a] []) := fun t k => castTop (ef_il1 m a) k
  obtain ⟨⟨cz, S_cs, hcz⟩, ⟨fm, S_fm, hfm⟩, S_ad, S_hi, S_lo⟩ := id SS
  obtain ⟨T81, X81, e81, st81⟩ := getS2 X0 hx hZ hown (host := "") (Or.inl (own_h hw 15 rfl)) Via.refl e0 (S_cs.ext O0.2) (g := (mkF m 0 #[vR a] [])) rfl (hb hby d16_0)
  have S82 : Go p e below s₁ (eF_il1 m a) T81 (mkF m 3 #[vR a] [(.int cz)]) := fun t kt => S0 t (st81 t kt)
  clear S0 st81 X0 e0
  have S83 : Go p e below s₁ (eF_il1 m a) T81 (mkF m 7 #[vR a] [(.ref a)]) := fun t kt => S82 t (by
    refine XS.ifNo X81.here hx rfl (hb hby d16_3) rfl ((if0 _ _).trans (feq (show ¬ (cz = (0 : Int32)) from hcz)).1) ?_
    show Sp p e below T81 (mkF m 6 #[vR a] []) _
    refine XS.aloadN X81.here hx rfl (hb hby d16_6) rfl rfl ?_
    show Sp p e below T81 (mkF m 7 #[vR a] [(.ref a)]) _
    exact kt)
  clear S82
  obtain ⟨T84, X84, e84, st84⟩ := getF X81 hx hZ hown (host := "") (Or.inl (own_h hw 27 rfl)) Via.refl e81 F0 (g := (mkF m 7 #[vR a] [(.ref a)])) rfl rfl (hb hby d16_7)
  have S85 : Go p e below s₁ (eF_il1 m a) T84 (mkF m 10 #[vR a] [(.int (1 : Int32))]) := fun t kt => S83 t (st84 t kt)
  clear S83 st84 X81 e81
  have S86 : Go p e below s₁ (eF_il1 m a) T84 (mkF m 18 #[vR a] [(.int (0 : Int32))]) := fun t kt => S85 t (by
    refine XS.ifYes X84.here hx rfl (pc0 := 10) (pc' := 17) rfl (hb hby d16_10) rfl ((if0 _ _).trans (feq (show ¬ ((1 : Int32) = (0 : Int32)) from (by decide))).2) (by decide) (by decide) ?_
    show Sp p e below T84 (mkF m 17 #[vR a] []) _
    refine XS.iconst X84.here hx rfl (hb hby d16_17) ?_
    show Sp p e below T84 (mkF m 18 #[vR a] [(.int (0 : Int32))]) _
    exact kt)
  clear S85
  obtain ⟨fs, hr, hrun, hended, hW, hsame⟩ := X84.leave (v := some (.int (0 : Int32))) (fun h => by first | rfl | (rw [Bd.returns] at h; cases h))
  refine ⟨_, _, S86 _ ?_, hrun, hended, _, _, rfl, ?_, ⟨_, rfl⟩, hW, hsame.mono (by decide) (by decide)⟩
  · exact retN X84 hx (t := .boolean) Bd.returns (by simp) (hb hby d16_18) hr
  · show Q_il1 Z  h0 n0 _ T84.heap _
    rw [e84]
    exact ⟨rfl, N0, rfl⟩
abbrev eF_cha (m : MethodId) (x0 : Addr) (x1 : Int32) : JFrame := entryFrame m #[(.ref x0), (.int x1)] 2
theorem ef_cha (m : MethodId) (x0 : Addr) (x1 : Int32) : entryFrame m #[(.ref x0), (.int x1)] 2 = mkF m 0 #[.val (.ref x0), .val (.int x1)] [] := by first | (simp [entryFrame, mkF, argsToLocals, Value.category]; done) | rfl
theorem pn_cha : plainName "java/lang/String" = true := by first | (simp [plainName, overriddenIn]; done) | decide +kernel
def Q_cha (Z : State) (cs : List Int32) (j : Nat) (h0 : Heap) (n0 : Nat) (v : Option Value) (h : Heap) (L : List Loc) : Prop := v = some (.int (cs.getD j 0)) ∧ Fr n0 L ∧ h = h0
set_option maxRecDepth 65536 in
set_option maxHeartbeats 40000000 in
theorem rm_cha (l : Launch) (Z : State) (a0 : Array Value) (hw : ∀ d ∈ tables_1, d.before a0 Z = true) (ws : List Jvm.Cond) (a : Addr) (i : Int32) (b : Addr) (k : ClassId) (n : Int32) (vs : List Value) (cd : Int32) (cs : List Int32) (j : Nat) (h0 : Heap) (n0 : Nat) (Z0 : n0 ≤ h0.size) (SS : own_St Z) (O0 : Old Z n0 h0)(E0 : Exa Z h0 a "java/lang/String") (F1 : Fld Z h0 a "java/lang/String" "coder" "B" (.int cd)) (F2 : Fld Z h0 a "java/lang/String" "value" "[B" (.ref b)) (V0 : Arv Z h0 b k .byte n vs (.int (0 : Int32))) (hcd : StrChars.Road.CodA cs cd n vs) (hb0 : ∀ z ∈ cs, own_Ch z) (hl : cs.length < 1000) (hj : j < cs.length) (hi : i = Int32.ofNat j) :
    MetFree l (⟨"java/lang/String", "charAt", "(I)C"⟩ : MethodName) (head1 (Jvm.Cond.code (⟨"java/lang/String", "charAt", "(I)C"⟩ : MethodName) jdk_42_method_56_code 2 (some .char) :: ws) ({ frames := 4, cells := 0, slots := 0, locals := 53 } : Room)) (fun aa U => aa = #[(.ref a), (.int i)] ∧ Z.Warmed39 U.vm ∧ U.heap = h0) (fun _ _ _ _ _ => True) (fun _ U o U' => ∃ v L, o = .returned v ∧ Q_cha Z cs j h0 n0 v U'.heap L ∧ FrameEnd U o U' L ({ frames := 4, cells := 0, slots := 0, locals := 53 } : Room).cells ({ frames := 4, cells := 0, slots := 0, locals := 53 } : Room).slots) := by
  refine MetFree.of_bodySF (plainFor_of_name pn_cha) hisR ?_
  intro p e s m args below meth c s₁ Bd hml0 hP hK
  obtain ⟨rfl, hZ, hh⟩ := hP
  have hx := Bd.exec
  have hby := Bd.bytes
  have hml : c.maxLocals = 2 := hml0
  have hown : s.vm.findClass "java/lang/String" = some m.cls := findClass_of_methodNamed Bd.named
  have hnm := (name_of_methodNamed Bd.named Bd.method).1
  have X0 : Stand p l e ({ frames := 4, cells := 0, slots := 0, locals := 53 } : Room) s m #[(.ref a), (.int i)] below meth c s₁ [] 0 0 := Stand.of_body Bd
  have e0 : s₁.heap = h0 := by rw [← hh, Bd.state]; rfl
  have N0 := Fr.nil n0
  have S0 : Go p e below s₁ (eF_cha m a i) s₁ (mkF m 0 #[vR a, vI i] []) := fun t k => castTop (ef_cha m a i) k
  obtain ⟨⟨cz, S_cs, hcz⟩, ⟨fm, S_fm, hfm⟩, S_ad, S_hi, S_lo⟩ := id SS
  have hch : own_Ch (cs.getD j 0) := own_mem (P := own_Ch) hb0 hj
  obtain ⟨i1, i2, i3⟩ := own_ix hi (show j < 1000 by omega)
  generalize hq : cs.getD j 0 = ch at hch
  rcases id hcd with ⟨rfl, hn, hv, hlt⟩ | ⟨rfl, hn, hv, -⟩
  · have S87 : Go p e below s₁ (eF_cha m a i) s₁ (mkF m 1 #[vR a, vI i] [(.ref a)]) := fun t kt => S0 t (by
      refine XS.aloadN X0.here hx rfl (hb hby d15_0) rfl rfl ?_
      show Sp p e below s₁ (mkF m 1 #[vR a, vI i] [(.ref a)]) _
      exact kt)
    clear S0
    obtain ⟨cq88, kq88, q88a, q88b, q88c⟩ := isOf hZ e0 E0
    obtain ⟨v88, T88, L88, X88, hQ88, st88⟩ := own_outV (X0.virtualBack hx (y := (⟨"java/lang/String", "isLatin1", "()Z"⟩ : MethodName)) (z := (⟨"java/lang/String", "isLatin1", "()Z"⟩ : MethodName)) hown (mvT hZ (own_h hw 69 rfl)) (mvT hZ (own_h hw 70 rfl)) (notFace_of_selects (args := #[]) (mvT hZ (own_h hw 72 rfl))) (mvT hZ (own_h hw 72 rfl)) (mvT hZ (own_h hw 71 rfl)) (by decide) (backOf (W := 0) (rm_il0 l Z a0 hw [] a h0 n0 Z0 SS O0 F1) hZ (own_h hw 73 rfl) (own_h hw 4 rfl) (by decide) (by decide)) q88a q88c (g := (mkF m 1 #[vR a, vI i] [(.ref a)])) rfl (by rw [hml]; rfl) (Steps.refl _) (argsL := []) (rest := []) (lenOf pd___Z rfl) rfl (by show 2 * 0 + _ ≤ _; exact Nat.le_of_eq rfl) (hb hby d15_1) (fun _ _ => ⟨rfl, e0, (by decide : 0 + 0 ≤ _), (by decide : 0 + 0 ≤ _)⟩))
    obtain ⟨rfl, N88q, e88⟩ := hQ88
    have N88 := Fr.app N0 N88q
    have S89 : Go p e below s₁ (eF_cha m a i) T88 (mkF m 4 #[vR a, vI i] [(.int (1 : Int32))]) := fun t kt => S87 t (st88 t kt)
    clear S87 st88 X0 e0
    have S90 : Go p e below s₁ (eF_cha m a i) T88 (mkF m 8 #[vR a, vI i] [(.ref a)]) := fun t kt => S89 t (by
      refine XS.ifNo X88.here hx rfl (hb hby d15_4) rfl ((if0 _ _).trans (feq (show ¬ ((1 : Int32) = (0 : Int32)) from (by decide))).1) ?_
      show Sp p e below T88 (mkF m 7 #[vR a, vI i] []) _
      refine XS.aloadN X88.here hx rfl (hb hby d15_7) rfl rfl ?_
      show Sp p e below T88 (mkF m 8 #[vR a, vI i] [(.ref a)]) _
      exact kt)
    clear S89
    obtain ⟨T91, X91, e91, st91⟩ := getF X88 hx hZ hown (host := "") (Or.inl (own_h hw 29 rfl)) Via.refl e88 F2 (g := (mkF m 8 #[vR a, vI i] [(.ref a)])) rfl rfl (hb hby d15_8)
    have S92 : Go p e below s₁ (eF_cha m a i) T91 (mkF m 11 #[vR a, vI i] [(.ref b)]) := fun t kt => S90 t (st91 t kt)
    clear S90 st91 X88 e88
    have S93 : Go p e below s₁ (eF_cha m a i) T91 (mkF m 12 #[vR a, vI i] [(.int i), (.ref b)]) := fun t kt => S92 t (by
      refine XS.iloadN X91.here hx rfl (hb hby d15_11) rfl ?_
      show Sp p e below T91 (mkF m 12 #[vR a, vI i] [(.int i), (.ref b)]) _
      exact kt)
    clear S92
    obtain ⟨v94, T94, L94, X94, hQ94, st94⟩ := own_outS (Jvm.LawKit.callS X91 hx (y := (⟨"java/lang/StringLatin1", "charAt", "([BI)C"⟩ : MethodName)) hown (mvT hZ (own_h hw 74 rfl)) (mvT hZ (own_h hw 75 rfl)) (mvT hZ (own_h hw 36 rfl)) (mvT hZ (own_h hw 76 rfl)) (by decide) (backOf (W := 0) (rm_lch l Z a0 hw [] b i k n vs ch h0 n0 Z0 SS O0 V0 i1 (own_iL hi hn hj hl) (own_atL hi hv hj hl hq) hch (by rw [← hq]; exact own_memL hlt hj)) hZ (own_h hw 76 rfl) (own_h hw 36 rfl) (by decide) (by decide)) (g := (mkF m 12 #[vR a, vI i] [(.int i), (.ref b)])) rfl (by rw [hml]; rfl) (argsL := [(.ref b), (.int i)]) (rest := []) (lenOf pd___BI_C rfl) rfl (by show 2 * 0 + _ ≤ _; exact Nat.le_of_eq rfl) (hb hby d15_12) (fun _ _ => ⟨rfl, e91, (by decide : 0 + 0 ≤ _), (by decide : 0 + 0 ≤ _)⟩))
    obtain ⟨rfl, N94q, e94⟩ := hQ94
    have N94 := Fr.app N88 N94q
    have S95 : Go p e below s₁ (eF_cha m a i) T94 (mkF m 15 #[vR a, vI i] [(.int ch)]) := fun t kt => S93 t (st94 t kt)
    clear S93 st94 X91 e91
    obtain ⟨fs, hr, hrun, hended, hW, hsame⟩ := X94.leave (v := some (.int (nar .char ch))) (fun h => by first | rfl | (rw [Bd.returns] at h; cases h))
    refine ⟨_, _, S95 _ ?_, hrun, hended, _, _, rfl, ?_, ⟨_, rfl⟩, hW, hsame.mono (by decide) (by decide)⟩
    · exact retN X94 hx (t := .char) Bd.returns (by simp) (hb hby d15_15) hr
    · show Q_cha Z cs j h0 n0 _ T94.heap _
      rw [e94]
      exact ⟨by rw [hq, own_nc hch], N94, rfl⟩
  · have S96 : Go p e below s₁ (eF_cha m a i) s₁ (mkF m 1 #[vR a, vI i] [(.ref a)]) := fun t kt => S0 t (by
      refine XS.aloadN X0.here hx rfl (hb hby d15_0) rfl rfl ?_
      show Sp p e below s₁ (mkF m 1 #[vR a, vI i] [(.ref a)]) _
      exact kt)
    clear S0
    obtain ⟨cq97, kq97, q97a, q97b, q97c⟩ := isOf hZ e0 E0
    obtain ⟨v97, T97, L97, X97, hQ97, st97⟩ := own_outV (X0.virtualBack hx (y := (⟨"java/lang/String", "isLatin1", "()Z"⟩ : MethodName)) (z := (⟨"java/lang/String", "isLatin1", "()Z"⟩ : MethodName)) hown (mvT hZ (own_h hw 69 rfl)) (mvT hZ (own_h hw 70 rfl)) (notFace_of_selects (args := #[]) (mvT hZ (own_h hw 72 rfl))) (mvT hZ (own_h hw 72 rfl)) (mvT hZ (own_h hw 71 rfl)) (by decide) (backOf (W := 0) (rm_il1 l Z a0 hw [] a h0 n0 Z0 SS O0 F1) hZ (own_h hw 73 rfl) (own_h hw 4 rfl) (by decide) (by decide)) q97a q97c (g := (mkF m 1 #[vR a, vI i] [(.ref a)])) rfl (by rw [hml]; rfl) (Steps.refl _) (argsL := []) (rest := []) (lenOf pd___Z rfl) rfl (by show 2 * 0 + _ ≤ _; exact Nat.le_of_eq rfl) (hb hby d15_1) (fun _ _ => ⟨rfl, e0, (by decide : 0 + 0 ≤ _), (by decide : 0 + 0 ≤ _)⟩))
    obtain ⟨rfl, N97q, e97⟩ := hQ97
    have N97 := Fr.app N0 N97q
    have S98 : Go p e below s₁ (eF_cha m a i) T97 (mkF m 4 #[vR a, vI i] [(.int (0 : Int32))]) := fun t kt => S96 t (st97 t kt)
    clear S96 st97 X0 e0
    have S99 : Go p e below s₁ (eF_cha m a i) T97 (mkF m 17 #[vR a, vI i] [(.ref a)]) := fun t kt => S98 t (by
      refine XS.ifYes X97.here hx rfl (pc0 := 4) (pc' := 16) rfl (hb hby d15_4) rfl ((if0 _ _).trans (teq (show (0 : Int32) = (0 : Int32) from (by decide))).1) (by decide) (by decide) ?_
      show Sp p e below T97 (mkF m 16 #[vR a, vI i] []) _
      refine XS.aloadN X97.here hx rfl (hb hby d15_16) rfl rfl ?_
      show Sp p e below T97 (mkF m 17 #[vR a, vI i] [(.ref a)]) _
      exact kt)
    clear S98
    obtain ⟨T100, X100, e100, st100⟩ := getF X97 hx hZ hown (host := "") (Or.inl (own_h hw 29 rfl)) Via.refl e97 F2 (g := (mkF m 17 #[vR a, vI i] [(.ref a)])) rfl rfl (hb hby d15_17)
    have S101 : Go p e below s₁ (eF_cha m a i) T100 (mkF m 20 #[vR a, vI i] [(.ref b)]) := fun t kt => S99 t (st100 t kt)
    clear S99 st100 X97 e97
    have S102 : Go p e below s₁ (eF_cha m a i) T100 (mkF m 21 #[vR a, vI i] [(.int i), (.ref b)]) := fun t kt => S101 t (by
      refine XS.iloadN X100.here hx rfl (hb hby d15_20) rfl ?_
      show Sp p e below T100 (mkF m 21 #[vR a, vI i] [(.int i), (.ref b)]) _
      exact kt)
    clear S101
    obtain ⟨v103, T103, L103, X103, hQ103, st103⟩ := own_outS (Jvm.LawKit.callS X100 hx (y := (⟨"java/lang/StringUTF16", "charAt", "([BI)C"⟩ : MethodName)) hown (mvT hZ (own_h hw 110 rfl)) (mvT hZ (own_h hw 111 rfl)) (mvT hZ (own_h hw 18 rfl)) (mvT hZ (own_h hw 112 rfl)) (by decide) (backOf (W := 0) (rm_uch l Z a0 hw [] b i k n vs ch h0 n0 Z0 SS O0 V0 (own_iU0 hi hn hj hl) (own_iU1 hi hn hj hl) (own_atU0 hi hv hj hl hq) (own_atU1 hi hv hj hl hq) hch i1 (own_iU hi hn hj hl)) hZ (own_h hw 112 rfl) (own_h hw 18 rfl) (by decide) (by decide)) (g := (mkF m 21 #[vR a, vI i] [(.int i), (.ref b)])) rfl (by rw [hml]; rfl) (argsL := [(.ref b), (.int i)]) (rest := []) (lenOf pd___BI_C rfl) rfl (by show 2 * 0 + _ ≤ _; exact Nat.le_of_eq rfl) (hb hby d15_21) (fun _ _ => ⟨rfl, e100, (by decide : 0 + 0 ≤ _), (by decide : 0 + 0 ≤ _)⟩))
    obtain ⟨rfl, N103q, e103⟩ := hQ103
    have N103 := Fr.app N97 N103q
    have S104 : Go p e below s₁ (eF_cha m a i) T103 (mkF m 24 #[vR a, vI i] [(.int ch)]) := fun t kt => S102 t (st103 t kt)
    clear S102 st103 X100 e100
    obtain ⟨fs, hr, hrun, hended, hW, hsame⟩ := X103.leave (v := some (.int (nar .char ch))) (fun h => by first | rfl | (rw [Bd.returns] at h; cases h))
    refine ⟨_, _, S104 _ ?_, hrun, hended, _, _, rfl, ?_, ⟨_, rfl⟩, hW, hsame.mono (by decide) (by decide)⟩
    · exact retN X103 hx (t := .char) Bd.returns (by simp) (hb hby d15_24) hr
    · show Q_cha Z cs j h0 n0 _ T103.heap _
      rw [e103]
      exact ⟨by rw [hq, own_nc hch], N103, rfl⟩
abbrev eF_cfl (m : MethodId) (x0 : Addr) (x1 : Int32) : JFrame := entryFrame m #[(.ref x0), (.int x1)] 2
theorem ef_cfl (m : MethodId) (x0 : Addr) (x1 : Int32) : entryFrame m #[(.ref x0), (.int x1)] 2 = mkF m 0 #[.val (.ref x0), .val (.int x1)] [] := by first | (simp [entryFrame, mkF, argsToLocals, Value.category]; done) | rfl
theorem pn_cfl : plainName "java/lang/StringUTF16" = true := by first | (simp [plainName, overriddenIn]; done) | decide +kernel
def Q_cfl (Z : State) (r : Int32) (h0 : Heap) (n0 : Nat) (v : Option Value) (h : Heap) (L : List Loc) : Prop := v = some (.int r) ∧ Fr n0 L ∧ h = h0
set_option maxRecDepth 65536 in
set_option maxHeartbeats 40000000 in
theorem rm_cfl (l : Launch) (Z : State) (a0 : Array Value) (hw : ∀ d ∈ tables_1, d.before a0 Z = true) (ws : List Jvm.Cond) (b : Addr) (N1 : Int32) (k : ClassId) (n : Int32) (vs : List Value) (r : Int32) (h0 : Heap) (n0 : Nat) (Z0 : n0 ≤ h0.size) (V0 : Arv Z h0 b k .byte n vs (.int (0 : Int32))) (hr : ((((N1 - n).toUInt32 >>> ((31 : Int32) &&& 31).toUInt32).toInt32).toInt8.toInt32) = r) (hr2 : nar .byte r = r) :
    MetFree l (⟨"java/lang/StringUTF16", "coderFromArrayLen", "([BI)B"⟩ : MethodName) (head1 (Jvm.Cond.code (⟨"java/lang/StringUTF16", "coderFromArrayLen", "([BI)B"⟩ : MethodName) jdk_52_method_15_code 2 (some .byte) :: ws) ({ frames := 0, cells := 0, slots := 0, locals := 0 } : Room)) (fun aa U => aa = #[(.ref b), (.int N1)] ∧ Z.Warmed39 U.vm ∧ U.heap = h0) (fun _ _ _ _ _ => True) (fun _ U o U' => ∃ v L, o = .returned v ∧ Q_cfl Z r h0 n0 v U'.heap L ∧ FrameEnd U o U' L ({ frames := 0, cells := 0, slots := 0, locals := 0 } : Room).cells ({ frames := 0, cells := 0, slots := 0, locals := 0 } : Room).slots) := by
  refine MetFree.of_bodySF (plainFor_of_name pn_cfl) hisR ?_
  intro p e s m args below meth c s₁ Bd hml0 hP hK
  obtain ⟨rfl, hZ, hh⟩ := hP
  have hx := Bd.exec
  have hby := Bd.bytes
  have hml : c.maxLocals = 2 := hml0
  have hown : s.vm.findClass "java/lang/StringUTF16" = some m.cls := findClass_of_methodNamed Bd.named
  have hnm := (name_of_methodNamed Bd.named Bd.method).1
  have X0 : Stand p l e ({ frames := 0, cells := 0, slots := 0, locals := 0 } : Room) s m #[(.ref b), (.int N1)] below meth c s₁ [] 0 0 := Stand.of_body Bd
  have e0 : s₁.heap = h0 := by rw [← hh, Bd.state]; rfl
  have N0 := Fr.nil n0
  have S0 : Go p e below s₁ (eF_cfl m b N1) s₁ (mkF m 0 #[vR b, vI N1] []) := fun t k => castTop (ef_cfl m b N1) k
  have S105 : Go p e below s₁ (eF_cfl m b N1) s₁ (mkF m 2 #[vR b, vI N1] [(.ref b), (.int N1)]) := fun t kt => S0 t (by
    refine XS.iloadN X0.here hx rfl (hb hby d6_0) rfl ?_
    show Sp p e below s₁ (mkF m 1 #[vR b, vI N1] [(.int N1)]) _
    refine XS.aloadN X0.here hx rfl (hb hby d6_1) rfl rfl ?_
    show Sp p e below s₁ (mkF m 2 #[vR b, vI N1] [(.ref b), (.int N1)]) _
    exact kt)
  clear S0
  obtain ⟨co106, Ao106, qo106, So106, No106, Ho106, Go106⟩ := id V0
  have S107 : Go p e below s₁ (eF_cfl m b N1) s₁ (mkF m 8 #[vR b, vI N1] [(.int ((((N1 - n).toUInt32 >>> ((31 : Int32) &&& 31).toUInt32).toInt32).toInt8.toInt32))]) := fun t kt => S105 t (by
    refine X0.arraylength hx (by rw [e0]; exact Ao106.1) (State.isArrayOf_alike hZ.alike Ao106.2.1) (g := (mkF m 2 #[vR b, vI N1] [(.ref b), (.int N1)])) rfl rfl (hb hby d6_2) _ ?_
    rw [len_of So106 No106]
    show Sp p e below s₁ (mkF m 3 #[vR b, vI N1] [(.int n), (.int N1)]) _
    refine XS.isub X0.here hx rfl (hb hby d6_3) rfl ?_
    show Sp p e below s₁ (mkF m 4 #[vR b, vI N1] [(.int (N1 - n))]) _
    refine XS.bipush X0.here hx rfl (hb hby d6_4) ?_
    show Sp p e below s₁ (mkF m 6 #[vR b, vI N1] [(.int (31 : Int32)), (.int (N1 - n))]) _
    refine XS.iushr X0.here hx rfl (hb hby d6_6) rfl ?_
    show Sp p e below s₁ (mkF m 7 #[vR b, vI N1] [(.int (((N1 - n).toUInt32 >>> ((31 : Int32) &&& 31).toUInt32).toInt32))]) _
    refine XS.i2b X0.here hx rfl (hb hby d6_7) rfl ?_
    show Sp p e below s₁ (mkF m 8 #[vR b, vI N1] [(.int ((((N1 - n).toUInt32 >>> ((31 : Int32) &&& 31).toUInt32).toInt32).toInt8.toInt32))]) _
    exact kt)
  clear S105
  have q109 : ((((N1 - n).toUInt32 >>> ((31 : Int32) &&& 31).toUInt32).toInt32).toInt8.toInt32) = r := hr
  have S108 : Go p e below s₁ (eF_cfl m b N1) s₁ (mkF m 8 #[vR b, vI N1] [(.int r)]) := by have h := S107; rw [q109] at h; exact h
  clear S107
  obtain ⟨fs, hr, hrun, hended, hW, hsame⟩ := X0.leave (v := some (.int (nar .byte r))) (fun h => by first | rfl | (rw [Bd.returns] at h; cases h))
  refine ⟨_, _, S108 _ ?_, hrun, hended, _, _, rfl, ?_, ⟨_, rfl⟩, hW, hsame.mono (by decide) (by decide)⟩
  · exact retN X0 hx (t := .byte) Bd.returns (by simp) (hb hby d6_8) hr
  · show Q_cfl Z r h0 n0 _ s₁.heap _
    rw [e0]
    exact ⟨by rw [hr2], N0, rfl⟩
abbrev eF_nbl1 (m : MethodId) (x0 : Int32) : JFrame := entryFrame m #[(.int x0)] 1
theorem ef_nbl1 (m : MethodId) (x0 : Int32) : entryFrame m #[(.int x0)] 1 = mkF m 0 #[.val (.int x0)] [] := by first | (simp [entryFrame, mkF, argsToLocals, Value.category]; done) | rfl
theorem pn_nbl1 : plainName "java/lang/StringUTF16" = true := by first | (simp [plainName, overriddenIn]; done) | decide +kernel
def Q_nbl1 (Z : State)  (h0 : Heap) (n0 : Nat) (v : Option Value) (h : Heap) (L : List Loc) : Prop := v = some (.int (2 : Int32)) ∧ Fr n0 L ∧ h = h0
set_option maxRecDepth 65536 in
set_option maxHeartbeats 40000000 in
theorem rm_nbl1 (l : Launch) (Z : State) (a0 : Array Value) (hw : ∀ d ∈ tables_1, d.before a0 Z = true) (ws : List Jvm.Cond)  (h0 : Heap) (n0 : Nat) (Z0 : n0 ≤ h0.size)  :
    MetFree l (⟨"java/lang/StringUTF16", "newBytesLength", "(I)I"⟩ : MethodName) (head1 (Jvm.Cond.code (⟨"java/lang/StringUTF16", "newBytesLength", "(I)I"⟩ : MethodName) jdk_52_method_3_code 1 (some .int) :: ws) ({ frames := 0, cells := 0, slots := 0, locals := 0 } : Room)) (fun aa U => aa = #[(.int (1 : Int32))] ∧ Z.Warmed39 U.vm ∧ U.heap = h0) (fun _ _ _ _ _ => True) (fun _ U o U' => ∃ v L, o = .returned v ∧ Q_nbl1 Z  h0 n0 v U'.heap L ∧ FrameEnd U o U' L ({ frames := 0, cells := 0, slots := 0, locals := 0 } : Room).cells ({ frames := 0, cells := 0, slots := 0, locals := 0 } : Room).slots) := by
  refine MetFree.of_bodySF (plainFor_of_name pn_nbl1) hisR ?_
  intro p e s m args below meth c s₁ Bd hml0 hP hK
  obtain ⟨rfl, hZ, hh⟩ := hP
  have hx := Bd.exec
  have hby := Bd.bytes
  have hml : c.maxLocals = 1 := hml0
  have hown : s.vm.findClass "java/lang/StringUTF16" = some m.cls := findClass_of_methodNamed Bd.named
  have hnm := (name_of_methodNamed Bd.named Bd.method).1
  have X0 : Stand p l e ({ frames := 0, cells := 0, slots := 0, locals := 0 } : Room) s m #[(.int (1 : Int32))] below meth c s₁ [] 0 0 := Stand.of_body Bd
  have e0 : s₁.heap = h0 := by rw [← hh, Bd.state]; rfl
  have N0 := Fr.nil n0
  have S0 : Go p e below s₁ (eF_nbl1 m (1 : Int32)) s₁ (mkF m 0 #[vI (1 : Int32)] []) := fun t k => castTop (ef_nbl1 m (1 : Int32)) k
  have S110 : Go p e below s₁ (eF_nbl1 m (1 : Int32)) s₁ (mkF m 58 #[vI (1 : Int32)] [(.int ((1 : Int32) <<< ((1 : Int32) &&& 31)))]) := fun t kt => S0 t (by
    refine XS.iloadN X0.here hx rfl (hb hby d22_0) rfl ?_
    show Sp p e below s₁ (mkF m 1 #[vI (1 : Int32)] [(.int (1 : Int32))]) _
    refine XS.ifYes X0.here hx rfl (pc0 := 1) (pc' := 12) rfl (hb hby d22_1) rfl ((if0 _ _).trans (flt (show ¬ ((1 : Int32) < (0 : Int32)) from (by decide))).2.1) (by decide) (by decide) ?_
    show Sp p e below s₁ (mkF m 12 #[vI (1 : Int32)] []) _
    refine XS.iloadN X0.here hx rfl (hb hby d22_12) rfl ?_
    show Sp p e below s₁ (mkF m 13 #[vI (1 : Int32)] [(.int (1 : Int32))]) _
    refine X0.ldcInt hx hown (mvT hZ (own_h hw 97 rfl)) (g := (mkF m 13 #[vI (1 : Int32)] [(.int (1 : Int32))])) rfl (hb hby d22_13) _ ?_
    show Sp p e below s₁ (mkF m 15 #[vI (1 : Int32)] [(.int (1073741823 : Int32)), (.int (1 : Int32))]) _
    refine XS.icmpYes X0.here hx rfl (pc0 := 15) (pc' := 55) rfl (hb hby d22_15) rfl (tlt (show (1 : Int32) < (1073741823 : Int32) from (by decide))).1 (by decide) (by decide) ?_
    show Sp p e below s₁ (mkF m 55 #[vI (1 : Int32)] []) _
    refine XS.iloadN X0.here hx rfl (hb hby d22_55) rfl ?_
    show Sp p e below s₁ (mkF m 56 #[vI (1 : Int32)] [(.int (1 : Int32))]) _
    refine XS.iconst X0.here hx rfl (hb hby d22_56) ?_
    show Sp p e below s₁ (mkF m 57 #[vI (1 : Int32)] [(.int (1 : Int32)), (.int (1 : Int32))]) _
    refine XS.ishl X0.here hx rfl (hb hby d22_57) rfl ?_
    show Sp p e below s₁ (mkF m 58 #[vI (1 : Int32)] [(.int ((1 : Int32) <<< ((1 : Int32) &&& 31)))]) _
    exact kt)
  clear S0
  have q112 : ((1 : Int32) <<< ((1 : Int32) &&& 31)) = (2 : Int32) := by decide
  have S111 : Go p e below s₁ (eF_nbl1 m (1 : Int32)) s₁ (mkF m 58 #[vI (1 : Int32)] [(.int (2 : Int32))]) := by have h := S110; rw [q112] at h; exact h
  clear S110
  obtain ⟨fs, hr, hrun, hended, hW, hsame⟩ := X0.leave (v := some (.int (2 : Int32))) (fun h => by first | rfl | (rw [Bd.returns] at h; cases h))
  refine ⟨_, _, S111 _ ?_, hrun, hended, _, _, rfl, ?_, ⟨_, rfl⟩, hW, hsame.mono (by decide) (by decide)⟩
  · exact retI X0 hx Bd.returns (hb hby d22_58) hr
  · show Q_nbl1 Z  h0 n0 _ s₁.heap _
    rw [e0]
    exact ⟨rfl, N0, rfl⟩
abbrev eF_nbf1 (m : MethodId) (x0 : Int32) : JFrame := entryFrame m #[(.int x0)] 1
theorem ef_nbf1 (m : MethodId) (x0 : Int32) : entryFrame m #[(.int x0)] 1 = mkF m 0 #[.val (.int x0)] [] := by first | (simp [entryFrame, mkF, argsToLocals, Value.category]; done) | rfl
theorem pn_nbf1 : plainName "java/lang/StringUTF16" = true := by first | (simp [plainName, overriddenIn]; done) | decide +kernel
def Q_nbf1 (Z : State)  (h0 : Heap) (n0 : Nat) (v : Option Value) (h : Heap) (L : List Loc) : Prop := ∃ t kb, v = some (.ref t) ∧ Fr n0 L ∧ Keep h0 h [] ∧ h0.size ≤ t ∧ Arv Z h t kb .byte (2 : Int32) [(.int (0 : Int32)), (.int (0 : Int32))] (.int (0 : Int32))
set_option maxRecDepth 65536 in
set_option maxHeartbeats 40000000 in
theorem rm_nbf1 (l : Launch) (Z : State) (a0 : Array Value) (hw : ∀ d ∈ tables_1, d.before a0 Z = true) (ws : List Jvm.Cond)  (h0 : Heap) (n0 : Nat) (Z0 : n0 ≤ h0.size)  :
    MetFree l (⟨"java/lang/StringUTF16", "newBytesFor", "(I)[B"⟩ : MethodName) (head1 (Jvm.Cond.code (⟨"java/lang/StringUTF16", "newBytesFor", "(I)[B"⟩ : MethodName) jdk_52_method_2_code 1 (some (.array .byte)) :: ws) ({ frames := 1, cells := 1, slots := 2, locals := 12 } : Room)) (fun aa U => aa = #[(.int (1 : Int32))] ∧ Z.Warmed39 U.vm ∧ U.heap = h0) (fun _ _ _ _ _ => True) (fun _ U o U' => ∃ v L, o = .returned v ∧ Q_nbf1 Z  h0 n0 v U'.heap L ∧ FrameEnd U o U' L ({ frames := 1, cells := 1, slots := 2, locals := 12 } : Room).cells ({ frames := 1, cells := 1, slots := 2, locals := 12 } : Room).slots) := by
  refine MetFree.of_bodySF (plainFor_of_name pn_nbf1) hisR ?_
  intro p e s m args below meth c s₁ Bd hml0 hP hK
  obtain ⟨rfl, hZ, hh⟩ := hP
  have hx := Bd.exec
  have hby := Bd.bytes
  have hml : c.maxLocals = 1 := hml0
  have hown : s.vm.findClass "java/lang/StringUTF16" = some m.cls := findClass_of_methodNamed Bd.named
  have hnm := (name_of_methodNamed Bd.named Bd.method).1
  have X0 : Stand p l e ({ frames := 1, cells := 1, slots := 2, locals := 12 } : Room) s m #[(.int (1 : Int32))] below meth c s₁ [] 0 0 := Stand.of_body Bd
  have e0 : s₁.heap = h0 := by rw [← hh, Bd.state]; rfl
  have N0 := Fr.nil n0
  have S0 : Go p e below s₁ (eF_nbf1 m (1 : Int32)) s₁ (mkF m 0 #[vI (1 : Int32)] []) := fun t k => castTop (ef_nbf1 m (1 : Int32)) k
  have S113 : Go p e below s₁ (eF_nbf1 m (1 : Int32)) s₁ (mkF m 1 #[vI (1 : Int32)] [(.int (1 : Int32))]) := fun t kt => S0 t (by
    refine XS.iloadN X0.here hx rfl (hb hby d21_0) rfl ?_
    show Sp p e below s₁ (mkF m 1 #[vI (1 : Int32)] [(.int (1 : Int32))]) _
    exact kt)
  clear S0
  obtain ⟨v114, T114, L114, X114, hQ114, st114⟩ := own_outS (Jvm.LawKit.callS X0 hx (y := (⟨"java/lang/StringUTF16", "newBytesLength", "(I)I"⟩ : MethodName)) hown (mvT hZ (own_h hw 94 rfl)) (mvT hZ (own_h hw 95 rfl)) (mvT hZ (own_h hw 18 rfl)) (mvT hZ (own_h hw 96 rfl)) (by decide) (backOf (W := 0) (rm_nbl1 l Z a0 hw [] h0 n0 Z0) hZ (own_h hw 96 rfl) (own_h hw 18 rfl) (by decide) (by decide)) (g := (mkF m 1 #[vI (1 : Int32)] [(.int (1 : Int32))])) rfl (by rw [hml]; rfl) (argsL := [(.int (1 : Int32))]) (rest := []) (lenOf pd__I_I rfl) rfl (by show 2 * 0 + _ ≤ _; exact Nat.le_of_eq rfl) (hb hby d21_1) (fun _ _ => ⟨rfl, e0, (by decide : 0 + 0 ≤ _), (by decide : 0 + 0 ≤ _)⟩))
  obtain ⟨rfl, N114q, e114⟩ := hQ114
  have N114 := Fr.app N0 N114q
  have S115 : Go p e below s₁ (eF_nbf1 m (1 : Int32)) T114 (mkF m 4 #[vI (1 : Int32)] [(.int (2 : Int32))]) := fun t kt => S113 t (st114 t kt)
  clear S113 st114 X0 e0
  obtain ⟨T116, h116, k116, X116, e116, E116, A116, st116⟩ := newP X114 hx hZ (own_h hw 20 rfl) e114 (g := (mkF m 4 #[vI (1 : Int32)] [(.int (2 : Int32))])) rfl (hb hby d21_4) rfl (by decide) (cap := 2) (by decide) (by decide) (by decide) (by decide)
  obtain ⟨t1, g116⟩ : ∃ z, z = h0.size := ⟨_, rfl⟩
  rw [← g116] at A116 st116
  have g_t1 : n0 ≤ t1 := Nat.le_trans Z0 (Nat.le_of_eq g116.symm)
  have sz_t1 : h0.size ≤ t1 := Nat.le_trans (Keep.refl h0 []).1 (Nat.le_of_eq g116.symm)
  have K116 : Keep h0 h116 [] := (Keep.refl h0 []).ext E116
  have V116 : Arv Z h116 t1 k116 .byte (2 : Int32) [(.int (0 : Int32)), (.int (0 : Int32))] (.int (0 : Int32)) := (Arv.new A116 (by decide)).pad (pad_rep [] _ 2)
  have S117 : Go p e below s₁ (eF_nbf1 m (1 : Int32)) T116 (mkF m 6 #[vI (1 : Int32)] [(.ref t1)]) := fun t kt => S115 t (st116 t kt)
  clear S115 st116 X114 e114
  obtain ⟨fs, hr, hrun, hended, hW, hsame⟩ := X116.leave (v := some (.ref t1)) (fun h => by first | rfl | (rw [Bd.returns] at h; cases h))
  refine ⟨_, _, S117 _ ?_, hrun, hended, _, _, rfl, ?_, ⟨_, rfl⟩, hW, hsame.mono (by decide) (by decide)⟩
  · exact retOut X116 hx Bd.returns rfl (Or.inr (Or.inr (Or.inr (Or.inr ⟨rfl, rfl, rfl⟩)))) (hb hby d21_6) hr
  · show Q_nbf1 Z  h0 n0 _ T116.heap _
    rw [e116]
    exact ⟨t1, _, rfl, N114, K116, sz_t1, V116⟩
abbrev eF_tob1 (m : MethodId) (x0 : Addr) (x1 : Int32) (x2 : Int32) : JFrame := entryFrame m #[(.ref x0), (.int x1), (.int x2)] 5
theorem ef_tob1 (m : MethodId) (x0 : Addr) (x1 : Int32) (x2 : Int32) : entryFrame m #[(.ref x0), (.int x1), (.int x2)] 5 = mkF m 0 #[.val (.ref x0), .val (.int x1), .val (.int x2), .unset, .unset] [] := by first | (simp [entryFrame, mkF, argsToLocals, Value.category]; done) | rfl
theorem pn_tob1 : plainName "java/lang/StringUTF16" = true := by first | (simp [plainName, overriddenIn]; done) | decide +kernel
def Q_tob1 (Z : State) (c0 : Int32) (h0 : Heap) (n0 : Nat) (v : Option Value) (h : Heap) (L : List Loc) : Prop := ∃ t kb, v = some (.ref t) ∧ Fr n0 L ∧ Keep h0 h [] ∧ h0.size ≤ t ∧ Arv Z h t kb .byte (2 : Int32) [(.int (StrChars.lo8 c0)), (.int (StrChars.hi8 c0))] (.int (0 : Int32))
set_option maxRecDepth 65536 in
set_option maxHeartbeats 40000000 in
theorem rm_tob1 (l : Launch) (Z : State) (a0 : Array Value) (hw : ∀ d ∈ tables_1, d.before a0 Z = true) (ws : List Jvm.Cond) (a : Addr) (ka : ClassId) (c0 : Int32) (h0 : Heap) (n0 : Nat) (Z0 : n0 ≤ h0.size) (SS : own_St Z) (O0 : Old Z n0 h0)(Va : Arv Z h0 a ka .char (1 : Int32) [(.int c0)] (.int (0 : Int32))) :
    MetFree l (⟨"java/lang/StringUTF16", "toBytes", "([CII)[B"⟩ : MethodName) (head1 (Jvm.Cond.code (⟨"java/lang/StringUTF16", "toBytes", "([CII)[B"⟩ : MethodName) jdk_52_method_14_code 5 (some (.array .byte)) :: ws) ({ frames := 2, cells := 1, slots := 2, locals := 24 } : Room)) (fun aa U => aa = #[(.ref a), (.int (0 : Int32)), (.int (1 : Int32))] ∧ Z.Warmed39 U.vm ∧ U.heap = h0) (fun _ _ _ _ _ => True) (fun _ U o U' => ∃ v L, o = .returned v ∧ Q_tob1 Z c0 h0 n0 v U'.heap L ∧ FrameEnd U o U' L ({ frames := 2, cells := 1, slots := 2, locals := 24 } : Room).cells ({ frames := 2, cells := 1, slots := 2, locals := 24 } : Room).slots) := by
  refine MetFree.of_bodySF (plainFor_of_name pn_tob1) hisR ?_
  intro p e s m args below meth c s₁ Bd hml0 hP hK
  obtain ⟨rfl, hZ, hh⟩ := hP
  have hx := Bd.exec
  have hby := Bd.bytes
  have hml : c.maxLocals = 5 := hml0
  have hown : s.vm.findClass "java/lang/StringUTF16" = some m.cls := findClass_of_methodNamed Bd.named
  have hnm := (name_of_methodNamed Bd.named Bd.method).1
  have X0 : Stand p l e ({ frames := 2, cells := 1, slots := 2, locals := 24 } : Room) s m #[(.ref a), (.int (0 : Int32)), (.int (1 : Int32))] below meth c s₁ [] 0 0 := Stand.of_body Bd
  have e0 : s₁.heap = h0 := by rw [← hh, Bd.state]; rfl
  have N0 := Fr.nil n0
  have S0 : Go p e below s₁ (eF_tob1 m a (0 : Int32) (1 : Int32)) s₁ (mkF m 0 #[vR a, vI (0 : Int32), vI (1 : Int32), vU, vU] []) := fun t k => castTop (ef_tob1 m a (0 : Int32) (1 : Int32)) k
  obtain ⟨⟨cz, S_cs, hcz⟩, ⟨fm, S_fm, hfm⟩, S_ad, S_hi, S_lo⟩ := id SS
  have S118 : Go p e below s₁ (eF_tob1 m a (0 : Int32) (1 : Int32)) s₁ (mkF m 1 #[vR a, vI (0 : Int32), vI (1 : Int32), vU, vU] [(.int (1 : Int32))]) := fun t kt => S0 t (by
    refine XS.iloadN X0.here hx rfl (hb hby d20_0) rfl ?_
    show Sp p e below s₁ (mkF m 1 #[vR a, vI (0 : Int32), vI (1 : Int32), vU, vU] [(.int (1 : Int32))]) _
    exact kt)
  clear S0
  obtain ⟨v119, T119, L119, X119, hQ119, st119⟩ := own_outS (Jvm.LawKit.callS X0 hx (y := (⟨"java/lang/StringUTF16", "newBytesFor", "(I)[B"⟩ : MethodName)) hown (mvT hZ (own_h hw 91 rfl)) (mvT hZ (own_h hw 92 rfl)) (mvT hZ (own_h hw 18 rfl)) (mvT hZ (own_h hw 93 rfl)) (by decide) (backOf (W := 0) (rm_nbf1 l Z a0 hw [] h0 n0 Z0) hZ (own_h hw 93 rfl) (own_h hw 18 rfl) (by decide) (by decide)) (g := (mkF m 1 #[vR a, vI (0 : Int32), vI (1 : Int32), vU, vU] [(.int (1 : Int32))])) rfl (by rw [hml]; rfl) (argsL := [(.int (1 : Int32))]) (rest := []) (lenOf pd__I__B rfl) rfl (by show 2 * 0 + _ ≤ _; exact Nat.le_of_eq rfl) (hb hby d20_1) (fun _ _ => ⟨rfl, e0, (by decide : 0 + 1 ≤ _), (by decide : 0 + 2 ≤ _)⟩))
  obtain ⟨t1, kb119, rfl, N119q, K119, sz119, V119⟩ := hQ119
  have N119 := Fr.app N0 N119q
  have KK119 : Keep h0 T119.heap [] := (Keep.refl h0 []).trans K119 all0
  have sz_t1 : h0.size ≤ t1 := Nat.le_trans (Keep.refl h0 []).1 sz119
  have g_t1 : n0 ≤ t1 := Nat.le_trans Z0 sz119
  have S120 : Go p e below s₁ (eF_tob1 m a (0 : Int32) (1 : Int32)) T119 (mkF m 4 #[vR a, vI (0 : Int32), vI (1 : Int32), vU, vU] [(.ref t1)]) := fun t kt => S118 t (st119 t kt)
  clear S118 st119 X0 e0
  have S121 : Go p e below s₁ (eF_tob1 m a (0 : Int32) (1 : Int32)) T119 (mkF m 19 #[vR a, vI (0 : Int32), vI (1 : Int32), vR t1, vI (0 : Int32)] [(.int (0 : Int32)), (.ref a), (.int (0 : Int32)), (.ref t1)]) := fun t kt => S120 t (by
    refine XS.astoreN X119.here hx rfl (hb hby d20_4) rfl rfl (l' := #[vR a, vI (0 : Int32), vI (1 : Int32), vR t1, vU]) rfl ?_
    show Sp p e below T119 (mkF m 5 #[vR a, vI (0 : Int32), vI (1 : Int32), vR t1, vU] []) _
    refine XS.iconst X119.here hx rfl (hb hby d20_5) ?_
    show Sp p e below T119 (mkF m 6 #[vR a, vI (0 : Int32), vI (1 : Int32), vR t1, vU] [(.int (0 : Int32))]) _
    refine XS.istore X119.here hx rfl (hb hby d20_6) rfl (l' := #[vR a, vI (0 : Int32), vI (1 : Int32), vR t1, vI (0 : Int32)]) rfl ?_
    show Sp p e below T119 (mkF m 8 #[vR a, vI (0 : Int32), vI (1 : Int32), vR t1, vI (0 : Int32)] []) _
    refine XS.iload X119.here hx rfl (hb hby d20_8) rfl ?_
    show Sp p e below T119 (mkF m 10 #[vR a, vI (0 : Int32), vI (1 : Int32), vR t1, vI (0 : Int32)] [(.int (0 : Int32))]) _
    refine XS.iloadN X119.here hx rfl (hb hby d20_10) rfl ?_
    show Sp p e below T119 (mkF m 11 #[vR a, vI (0 : Int32), vI (1 : Int32), vR t1, vI (0 : Int32)] [(.int (1 : Int32)), (.int (0 : Int32))]) _
    refine XS.icmpNo X119.here hx rfl (hb hby d20_11) rfl (tlt (show (0 : Int32) < (1 : Int32) from (by decide))).2.1 ?_
    show Sp p e below T119 (mkF m 14 #[vR a, vI (0 : Int32), vI (1 : Int32), vR t1, vI (0 : Int32)] []) _
    refine XS.aloadN X119.here hx rfl (hb hby d20_14) rfl rfl ?_
    show Sp p e below T119 (mkF m 15 #[vR a, vI (0 : Int32), vI (1 : Int32), vR t1, vI (0 : Int32)] [(.ref t1)]) _
    refine XS.iload X119.here hx rfl (hb hby d20_15) rfl ?_
    show Sp p e below T119 (mkF m 17 #[vR a, vI (0 : Int32), vI (1 : Int32), vR t1, vI (0 : Int32)] [(.int (0 : Int32)), (.ref t1)]) _
    refine XS.aloadN X119.here hx rfl (hb hby d20_17) rfl rfl ?_
    show Sp p e below T119 (mkF m 18 #[vR a, vI (0 : Int32), vI (1 : Int32), vR t1, vI (0 : Int32)] [(.ref a), (.int (0 : Int32)), (.ref t1)]) _
    refine XS.iloadN X119.here hx rfl (hb hby d20_18) rfl ?_
    show Sp p e below T119 (mkF m 19 #[vR a, vI (0 : Int32), vI (1 : Int32), vR t1, vI (0 : Int32)] [(.int (0 : Int32)), (.ref a), (.int (0 : Int32)), (.ref t1)]) _
    exact kt)
  clear S120
  have f122 := (Va.keep K119 nin0)
  obtain ⟨co123, Ao123, qo123, So123, No123, Ho123, Go123⟩ := id f122
  have hino123 : ¬ ((0 : Int32) < 0 ∨ co123.slots.size ≤ ((0 : Int32)).toNatClampNeg) := inb_of So123 ⟨by decide, by decide⟩
  have hato123 : co123.slots[((0 : Int32)).toNatClampNeg]? = some (.int c0) := Has.at Ho123 hino123 rfl
  have S124 : Go p e below s₁ (eF_tob1 m a (0 : Int32) (1 : Int32)) T119 (mkF m 20 #[vR a, vI (0 : Int32), vI (1 : Int32), vR t1, vI (0 : Int32)] [(.int c0), (.int (0 : Int32)), (.ref t1)]) := fun t kt => S121 t (by
    refine X119.caload hx (j := (0 : Int32)) (v := (.int c0)) Ao123.1 (State.isArrayOf_alike hZ.alike Ao123.2.1) Ao123.2.2 hino123 hato123 (g := (mkF m 19 #[vR a, vI (0 : Int32), vI (1 : Int32), vR t1, vI (0 : Int32)] [(.int (0 : Int32)), (.ref a), (.int (0 : Int32)), (.ref t1)])) rfl rfl (hb hby d20_19) _ ?_
    show Sp p e below T119 (mkF m 20 #[vR a, vI (0 : Int32), vI (1 : Int32), vR t1, vI (0 : Int32)] [(.int c0), (.int (0 : Int32)), (.ref t1)]) _
    exact kt)
  clear S121
  have f125 := (O0.keep K119 all0)
  obtain ⟨v126, T126, L126, X126, hQ126, st126⟩ := own_outS (Jvm.LawKit.callS X119 hx (y := (⟨"java/lang/StringUTF16", "putChar", "([BII)V"⟩ : MethodName)) hown (mvT hZ (own_h hw 98 rfl)) (mvT hZ (own_h hw 99 rfl)) (mvT hZ (own_h hw 18 rfl)) (mvT hZ (own_h hw 100 rfl)) (by decide) (backOf (W := 0) (rm_pch l Z a0 hw [] t1 (0 : Int32) c0 kb119 (2 : Int32) [(.int (0 : Int32)), (.int (0 : Int32))] 0 T119.heap n0 (Nat.le_trans Z0 K119.1) SS f125 V119 (by decide) (by decide) (by decide) (by decide) (Nat.le_of_ble_eq_true rfl) g_t1) hZ (own_h hw 100 rfl) (own_h hw 18 rfl) (by decide) (by decide)) (g := (mkF m 20 #[vR a, vI (0 : Int32), vI (1 : Int32), vR t1, vI (0 : Int32)] [(.int c0), (.int (0 : Int32)), (.ref t1)])) rfl (by rw [hml]; rfl) (argsL := [(.ref t1), (.int (0 : Int32)), (.int c0)]) (rest := []) (lenOf pd___BII_V rfl) rfl (by show 2 * 0 + _ ≤ _; exact Nat.le_of_eq rfl) (hb hby d20_20) (fun _ _ => ⟨rfl, rfl, (by decide : 1 + 0 ≤ _), (by decide : 2 + 0 ≤ _)⟩))
  obtain ⟨rfl, N126q, K126, V126⟩ := hQ126
  have N126 := Fr.app N119 N126q
  have KK126 : Keep h0 T126.heap [] := KK119.trans K126 (allS (Or.inr sz_t1) all0)
  have S127 : Go p e below s₁ (eF_tob1 m a (0 : Int32) (1 : Int32)) T126 (mkF m 23 #[vR a, vI (0 : Int32), vI (1 : Int32), vR t1, vI (0 : Int32)] []) := fun t kt => S124 t (st126 t kt)
  clear S124 st126 X119
  have S128 : Go p e below s₁ (eF_tob1 m a (0 : Int32) (1 : Int32)) T126 (mkF m 11 #[vR a, vI ((0 : Int32) + (1 : Int32)), vI (1 : Int32), vR t1, vI ((0 : Int32) + (1 : Int32))] [(.int (1 : Int32)), (.int ((0 : Int32) + (1 : Int32)))]) := fun t kt => S127 t (by
    refine XS.iinc X126.here hx rfl (hb hby d20_23) rfl (l' := #[vR a, vI ((0 : Int32) + (1 : Int32)), vI (1 : Int32), vR t1, vI (0 : Int32)]) rfl ?_
    show Sp p e below T126 (mkF m 26 #[vR a, vI ((0 : Int32) + (1 : Int32)), vI (1 : Int32), vR t1, vI (0 : Int32)] []) _
    refine XS.iinc X126.here hx rfl (hb hby d20_26) rfl (l' := #[vR a, vI ((0 : Int32) + (1 : Int32)), vI (1 : Int32), vR t1, vI ((0 : Int32) + (1 : Int32))]) rfl ?_
    show Sp p e below T126 (mkF m 29 #[vR a, vI ((0 : Int32) + (1 : Int32)), vI (1 : Int32), vR t1, vI ((0 : Int32) + (1 : Int32))] []) _
    refine XS.goto X126.here hx rfl (pc0 := 29) (pc' := 8) rfl (hb hby d20_29) (by decide) (by decide) ?_
    show Sp p e below T126 (mkF m 8 #[vR a, vI ((0 : Int32) + (1 : Int32)), vI (1 : Int32), vR t1, vI ((0 : Int32) + (1 : Int32))] []) _
    refine XS.iload X126.here hx rfl (hb hby d20_8) rfl ?_
    show Sp p e below T126 (mkF m 10 #[vR a, vI ((0 : Int32) + (1 : Int32)), vI (1 : Int32), vR t1, vI ((0 : Int32) + (1 : Int32))] [(.int ((0 : Int32) + (1 : Int32)))]) _
    refine XS.iloadN X126.here hx rfl (hb hby d20_10) rfl ?_
    show Sp p e below T126 (mkF m 11 #[vR a, vI ((0 : Int32) + (1 : Int32)), vI (1 : Int32), vR t1, vI ((0 : Int32) + (1 : Int32))] [(.int (1 : Int32)), (.int ((0 : Int32) + (1 : Int32)))]) _
    exact kt)
  clear S127
  have q130 : ((0 : Int32) + (1 : Int32)) = (1 : Int32) := by decide
  have S129 : Go p e below s₁ (eF_tob1 m a (0 : Int32) (1 : Int32)) T126 (mkF m 11 #[vR a, vI (1 : Int32), vI (1 : Int32), vR t1, vI (1 : Int32)] [(.int (1 : Int32)), (.int (1 : Int32))]) := by have h := S128; rw [q130] at h; exact h
  clear S128
  have S131 : Go p e below s₁ (eF_tob1 m a (0 : Int32) (1 : Int32)) T126 (mkF m 33 #[vR a, vI (1 : Int32), vI (1 : Int32), vR t1, vI (1 : Int32)] [(.ref t1)]) := fun t kt => S129 t (by
    refine XS.icmpYes X126.here hx rfl (pc0 := 11) (pc' := 32) rfl (hb hby d20_11) rfl (flt (show ¬ ((1 : Int32) < (1 : Int32)) from (by decide))).2.1 (by decide) (by decide) ?_
    show Sp p e below T126 (mkF m 32 #[vR a, vI (1 : Int32), vI (1 : Int32), vR t1, vI (1 : Int32)] []) _
    refine XS.aloadN X126.here hx rfl (hb hby d20_32) rfl rfl ?_
    show Sp p e below T126 (mkF m 33 #[vR a, vI (1 : Int32), vI (1 : Int32), vR t1, vI (1 : Int32)] [(.ref t1)]) _
    exact kt)
  clear S129
  obtain ⟨fs, hr, hrun, hended, hW, hsame⟩ := X126.leave (v := some (.ref t1)) (fun h => by first | rfl | (rw [Bd.returns] at h; cases h))
  refine ⟨_, _, S131 _ ?_, hrun, hended, _, _, rfl, ?_, ⟨_, rfl⟩, hW, hsame.mono (by decide) (by decide)⟩
  · exact retOut X126 hx Bd.returns rfl (Or.inr (Or.inr (Or.inr (Or.inr ⟨rfl, rfl, rfl⟩)))) (hb hby d20_33) hr
  · show Q_tob1 Z c0 h0 n0 _ T126.heap _
    exact ⟨t1, _, rfl, N126, KK126, sz_t1, V126⟩
abbrev eF_cmp1 (m : MethodId) (x0 : Addr) (x1 : Int32) (x2 : Addr) (x3 : Int32) (x4 : Int32) : JFrame := entryFrame m #[(.ref x0), (.int x1), (.ref x2), (.int x3), (.int x4)] 7
theorem ef_cmp1 (m : MethodId) (x0 : Addr) (x1 : Int32) (x2 : Addr) (x3 : Int32) (x4 : Int32) : entryFrame m #[(.ref x0), (.int x1), (.ref x2), (.int x3), (.int x4)] 7 = mkF m 0 #[.val (.ref x0), .val (.int x1), .val (.ref x2), .val (.int x3), .val (.int x4), .unset, .unset] [] := by first | (simp [entryFrame, mkF, argsToLocals, Value.category]; done) | rfl
theorem pn_cmp1 : plainName "java/lang/StringUTF16" = true := by first | (simp [plainName, overriddenIn]; done) | decide +kernel
def Q_cmp1 (Z : State) (b : Addr) (kb : ClassId) (c0 : Int32) (h0 : Heap) (n0 : Nat) (v : Option Value) (h : Heap) (L : List Loc) : Prop := ∃ r : Int32, v = some (.int r) ∧ Fr n0 L ∧ Keep h0 h [b] ∧ ((r = (1 : Int32) ∧ (¬ (255 : Int32) < c0 ∧ True) ∧ Arv Z h b kb .byte (1 : Int32) [(.int (StrChars.lo8 c0))] (.int (0 : Int32))) ∨ (r = (0 : Int32) ∧ (255 : Int32) < c0))
set_option maxRecDepth 65536 in
set_option maxHeartbeats 40000000 in
theorem rm_cmp1 (l : Launch) (Z : State) (a0 : Array Value) (hw : ∀ d ∈ tables_1, d.before a0 Z = true) (ws : List Jvm.Cond) (a : Addr) (b : Addr) (ka : ClassId) (kb : ClassId) (c0 : Int32) (h0 : Heap) (n0 : Nat) (Z0 : n0 ≤ h0.size) (Va : Arv Z h0 a ka .char (1 : Int32) [(.int c0)] (.int (0 : Int32))) (Vb : Arv Z h0 b kb .byte (1 : Int32) [(.int (0 : Int32))] (.int (0 : Int32))) (hab : a ≠ b) (g_b : n0 ≤ b) :
    MetFree l (⟨"java/lang/StringUTF16", "compress", "([CI[BII)I"⟩ : MethodName) (head1 (Jvm.Cond.code (⟨"java/lang/StringUTF16", "compress", "([CI[BII)I"⟩ : MethodName) jdk_52_method_21_code 7 (some .int) :: ws) ({ frames := 0, cells := 0, slots := 0, locals := 0 } : Room)) (fun aa U => aa = #[(.ref a), (.int (0 : Int32)), (.ref b), (.int (0 : Int32)), (.int (1 : Int32))] ∧ Z.Warmed39 U.vm ∧ U.heap = h0) (fun _ _ _ _ _ => True) (fun _ U o U' => ∃ v L, o = .returned v ∧ Q_cmp1 Z b kb c0 h0 n0 v U'.heap L ∧ FrameEnd U o U' L ({ frames := 0, cells := 0, slots := 0, locals := 0 } : Room).cells ({ frames := 0, cells := 0, slots := 0, locals := 0 } : Room).slots) := by
  refine MetFree.of_bodySF (plainFor_of_name pn_cmp1) hisR ?_
  intro p e s m args below meth c s₁ Bd hml0 hP hK
  obtain ⟨rfl, hZ, hh⟩ := hP
  have hx := Bd.exec
  have hby := Bd.bytes
  have hml : c.maxLocals = 7 := hml0
  have hown : s.vm.findClass "java/lang/StringUTF16" = some m.cls := findClass_of_methodNamed Bd.named
  have hnm := (name_of_methodNamed Bd.named Bd.method).1
  have X0 : Stand p l e ({ frames := 0, cells := 0, slots := 0, locals := 0 } : Room) s m #[(.ref a), (.int (0 : Int32)), (.ref b), (.int (0 : Int32)), (.int (1 : Int32))] below meth c s₁ [] 0 0 := Stand.of_body Bd
  have e0 : s₁.heap = h0 := by rw [← hh, Bd.state]; rfl
  have N0 := Fr.nil n0
  have S0 : Go p e below s₁ (eF_cmp1 m a (0 : Int32) b (0 : Int32) (1 : Int32)) s₁ (mkF m 0 #[vR a, vI (0 : Int32), vR b, vI (0 : Int32), vI (1 : Int32), vU, vU] []) := fun t k => castTop (ef_cmp1 m a (0 : Int32) b (0 : Int32) (1 : Int32)) k
  have S132 : Go p e below s₁ (eF_cmp1 m a (0 : Int32) b (0 : Int32) (1 : Int32)) s₁ (mkF m 12 #[vR a, vI (0 : Int32), vR b, vI (0 : Int32), vI (1 : Int32), vI (0 : Int32), vU] [(.int (0 : Int32)), (.ref a)]) := fun t kt => S0 t (by
    refine XS.iconst X0.here hx rfl (hb hby d5_0) ?_
    show Sp p e below s₁ (mkF m 1 #[vR a, vI (0 : Int32), vR b, vI (0 : Int32), vI (1 : Int32), vU, vU] [(.int (0 : Int32))]) _
    refine XS.istore X0.here hx rfl (hb hby d5_1) rfl (l' := #[vR a, vI (0 : Int32), vR b, vI (0 : Int32), vI (1 : Int32), vI (0 : Int32), vU]) rfl ?_
    show Sp p e below s₁ (mkF m 3 #[vR a, vI (0 : Int32), vR b, vI (0 : Int32), vI (1 : Int32), vI (0 : Int32), vU] []) _
    refine XS.iload X0.here hx rfl (hb hby d5_3) rfl ?_
    show Sp p e below s₁ (mkF m 5 #[vR a, vI (0 : Int32), vR b, vI (0 : Int32), vI (1 : Int32), vI (0 : Int32), vU] [(.int (0 : Int32))]) _
    refine XS.iload X0.here hx rfl (hb hby d5_5) rfl ?_
    show Sp p e below s₁ (mkF m 7 #[vR a, vI (0 : Int32), vR b, vI (0 : Int32), vI (1 : Int32), vI (0 : Int32), vU] [(.int (1 : Int32)), (.int (0 : Int32))]) _
    refine XS.icmpNo X0.here hx rfl (hb hby d5_7) rfl (tlt (show (0 : Int32) < (1 : Int32) from (by decide))).2.1 ?_
    show Sp p e below s₁ (mkF m 10 #[vR a, vI (0 : Int32), vR b, vI (0 : Int32), vI (1 : Int32), vI (0 : Int32), vU] []) _
    refine XS.aloadN X0.here hx rfl (hb hby d5_10) rfl rfl ?_
    show Sp p e below s₁ (mkF m 11 #[vR a, vI (0 : Int32), vR b, vI (0 : Int32), vI (1 : Int32), vI (0 : Int32), vU] [(.ref a)]) _
    refine XS.iloadN X0.here hx rfl (hb hby d5_11) rfl ?_
    show Sp p e below s₁ (mkF m 12 #[vR a, vI (0 : Int32), vR b, vI (0 : Int32), vI (1 : Int32), vI (0 : Int32), vU] [(.int (0 : Int32)), (.ref a)]) _
    exact kt)
  clear S0
  obtain ⟨co133, Ao133, qo133, So133, No133, Ho133, Go133⟩ := id Va
  have hino133 : ¬ ((0 : Int32) < 0 ∨ co133.slots.size ≤ ((0 : Int32)).toNatClampNeg) := inb_of So133 ⟨by decide, by decide⟩
  have hato133 : co133.slots[((0 : Int32)).toNatClampNeg]? = some (.int c0) := Has.at Ho133 hino133 rfl
  have S134 : Go p e below s₁ (eF_cmp1 m a (0 : Int32) b (0 : Int32) (1 : Int32)) s₁ (mkF m 20 #[vR a, vI (0 : Int32), vR b, vI (0 : Int32), vI (1 : Int32), vI (0 : Int32), vI c0] [(.int (255 : Int32)), (.int c0)]) := fun t kt => S132 t (by
    refine X0.caload hx (j := (0 : Int32)) (v := (.int c0)) (by rw [e0]; exact Ao133.1) (State.isArrayOf_alike hZ.alike Ao133.2.1) Ao133.2.2 hino133 hato133 (g := (mkF m 12 #[vR a, vI (0 : Int32), vR b, vI (0 : Int32), vI (1 : Int32), vI (0 : Int32), vU] [(.int (0 : Int32)), (.ref a)])) rfl rfl (hb hby d5_12) _ ?_
    show Sp p e below s₁ (mkF m 13 #[vR a, vI (0 : Int32), vR b, vI (0 : Int32), vI (1 : Int32), vI (0 : Int32), vU] [(.int c0)]) _
    refine XS.istore X0.here hx rfl (hb hby d5_13) rfl (l' := #[vR a, vI (0 : Int32), vR b, vI (0 : Int32), vI (1 : Int32), vI (0 : Int32), vI c0]) rfl ?_
    show Sp p e below s₁ (mkF m 15 #[vR a, vI (0 : Int32), vR b, vI (0 : Int32), vI (1 : Int32), vI (0 : Int32), vI c0] []) _
    refine XS.iload X0.here hx rfl (hb hby d5_15) rfl ?_
    show Sp p e below s₁ (mkF m 17 #[vR a, vI (0 : Int32), vR b, vI (0 : Int32), vI (1 : Int32), vI (0 : Int32), vI c0] [(.int c0)]) _
    refine XS.sipush X0.here hx rfl (hb hby d5_17) ?_
    show Sp p e below s₁ (mkF m 20 #[vR a, vI (0 : Int32), vR b, vI (0 : Int32), vI (1 : Int32), vI (0 : Int32), vI c0] [(.int (255 : Int32)), (.int c0)]) _
    exact kt)
  clear S132
  by_cases hq0 : (255 : Int32) < c0
  · have S135 : Go p e below s₁ (eF_cmp1 m a (0 : Int32) b (0 : Int32) (1 : Int32)) s₁ (mkF m 25 #[vR a, vI (0 : Int32), vR b, vI (0 : Int32), vI (1 : Int32), vI (0 : Int32), vI c0] [(.int (0 : Int32))]) := fun t kt => S134 t (by
      refine XS.icmpNo X0.here hx rfl (hb hby d5_20) rfl (tlt (show (255 : Int32) < c0 from hq0)).2.2.2 ?_
      show Sp p e below s₁ (mkF m 23 #[vR a, vI (0 : Int32), vR b, vI (0 : Int32), vI (1 : Int32), vI (0 : Int32), vI c0] []) _
      refine XS.iload X0.here hx rfl (hb hby d5_23) rfl ?_
      show Sp p e below s₁ (mkF m 25 #[vR a, vI (0 : Int32), vR b, vI (0 : Int32), vI (1 : Int32), vI (0 : Int32), vI c0] [(.int (0 : Int32))]) _
      exact kt)
    clear S134
    obtain ⟨fs, hr, hrun, hended, hW, hsame⟩ := X0.leave (v := some (.int (0 : Int32))) (fun h => by first | rfl | (rw [Bd.returns] at h; cases h))
    refine ⟨_, _, S135 _ ?_, hrun, hended, _, _, rfl, ?_, ⟨_, rfl⟩, hW, hsame.mono (by decide) (by decide)⟩
    · exact retI X0 hx Bd.returns (hb hby d5_25) hr
    · show Q_cmp1 Z b kb c0 h0 n0 _ s₁.heap _
      rw [e0]
      exact ⟨_, rfl, N0, (Keep.refl h0 [b]), Or.inr (⟨rfl, hq0⟩)⟩
  · have S136 : Go p e below s₁ (eF_cmp1 m a (0 : Int32) b (0 : Int32) (1 : Int32)) s₁ (mkF m 31 #[vR a, vI (0 : Int32), vR b, vI (0 : Int32), vI (1 : Int32), vI (0 : Int32), vI c0] [(.int (c0.toInt8.toInt32)), (.int (0 : Int32)), (.ref b)]) := fun t kt => S134 t (by
      refine XS.icmpYes X0.here hx rfl (pc0 := 20) (pc' := 26) rfl (hb hby d5_20) rfl (flt (show ¬ ((255 : Int32) < c0) from hq0)).2.2.2 (by decide) (by decide) ?_
      show Sp p e below s₁ (mkF m 26 #[vR a, vI (0 : Int32), vR b, vI (0 : Int32), vI (1 : Int32), vI (0 : Int32), vI c0] []) _
      refine XS.aloadN X0.here hx rfl (hb hby d5_26) rfl rfl ?_
      show Sp p e below s₁ (mkF m 27 #[vR a, vI (0 : Int32), vR b, vI (0 : Int32), vI (1 : Int32), vI (0 : Int32), vI c0] [(.ref b)]) _
      refine XS.iloadN X0.here hx rfl (hb hby d5_27) rfl ?_
      show Sp p e below s₁ (mkF m 28 #[vR a, vI (0 : Int32), vR b, vI (0 : Int32), vI (1 : Int32), vI (0 : Int32), vI c0] [(.int (0 : Int32)), (.ref b)]) _
      refine XS.iload X0.here hx rfl (hb hby d5_28) rfl ?_
      show Sp p e below s₁ (mkF m 30 #[vR a, vI (0 : Int32), vR b, vI (0 : Int32), vI (1 : Int32), vI (0 : Int32), vI c0] [(.int c0), (.int (0 : Int32)), (.ref b)]) _
      refine XS.i2b X0.here hx rfl (hb hby d5_30) rfl ?_
      show Sp p e below s₁ (mkF m 31 #[vR a, vI (0 : Int32), vR b, vI (0 : Int32), vI (1 : Int32), vI (0 : Int32), vI c0] [(.int (c0.toInt8.toInt32)), (.int (0 : Int32)), (.ref b)]) _
      exact kt)
    clear S134
    obtain ⟨co137, Ao137, qo137, So137, No137, Ho137, Go137⟩ := id Vb
    have hino137 : ¬ ((0 : Int32) < 0 ∨ co137.slots.size ≤ ((0 : Int32)).toNatClampNeg) := inb_of So137 ⟨by decide, by decide⟩
    obtain ⟨T138, h138, X138, e138, W138, st138⟩ := stB X0 hx hZ e0 Ao137 (j := (0 : Int32)) hino137 (g := (mkF m 31 #[vR a, vI (0 : Int32), vR b, vI (0 : Int32), vI (1 : Int32), vI (0 : Int32), vI c0] [(.int (c0.toInt8.toInt32)), (.int (0 : Int32)), (.ref b)])) rfl rfl (hb hby d5_31)
    have N138 := Fr.snoc X138 N0 g_b
    have K138 : Keep h0 h138 [b] := (Keep.refl h0 [b]).wr W138 (Or.inl (by simp))
    have V138 : Arv Z h138 b kb .byte (1 : Int32) [(.int ((c0.toInt8.toInt32).toInt8.toInt32))] (.int (0 : Int32)) := Arv.set Ao137 qo137 So137 No137 Ho137 Go137 (fits_nar_byte _) W138 0 rfl (Nat.le_of_ble_eq_true rfl)
    rw [own_lo c0] at V138
    have S139 : Go p e below s₁ (eF_cmp1 m a (0 : Int32) b (0 : Int32) (1 : Int32)) T138 (mkF m 32 #[vR a, vI (0 : Int32), vR b, vI (0 : Int32), vI (1 : Int32), vI (0 : Int32), vI c0] []) := fun t kt => S136 t (st138 t kt)
    clear S136 st138 X0 e0
    have S140 : Go p e below s₁ (eF_cmp1 m a (0 : Int32) b (0 : Int32) (1 : Int32)) T138 (mkF m 3 #[vR a, vI ((0 : Int32) + (1 : Int32)), vR b, vI ((0 : Int32) + (1 : Int32)), vI (1 : Int32), vI ((0 : Int32) + (1 : Int32)), vI c0] []) := fun t kt => S139 t (by
      refine XS.iinc X138.here hx rfl (hb hby d5_32) rfl (l' := #[vR a, vI ((0 : Int32) + (1 : Int32)), vR b, vI (0 : Int32), vI (1 : Int32), vI (0 : Int32), vI c0]) rfl ?_
      show Sp p e below T138 (mkF m 35 #[vR a, vI ((0 : Int32) + (1 : Int32)), vR b, vI (0 : Int32), vI (1 : Int32), vI (0 : Int32), vI c0] []) _
      refine XS.iinc X138.here hx rfl (hb hby d5_35) rfl (l' := #[vR a, vI ((0 : Int32) + (1 : Int32)), vR b, vI ((0 : Int32) + (1 : Int32)), vI (1 : Int32), vI (0 : Int32), vI c0]) rfl ?_
      show Sp p e below T138 (mkF m 38 #[vR a, vI ((0 : Int32) + (1 : Int32)), vR b, vI ((0 : Int32) + (1 : Int32)), vI (1 : Int32), vI (0 : Int32), vI c0] []) _
      refine XS.iinc X138.here hx rfl (hb hby d5_38) rfl (l' := #[vR a, vI ((0 : Int32) + (1 : Int32)), vR b, vI ((0 : Int32) + (1 : Int32)), vI (1 : Int32), vI ((0 : Int32) + (1 : Int32)), vI c0]) rfl ?_
      show Sp p e below T138 (mkF m 41 #[vR a, vI ((0 : Int32) + (1 : Int32)), vR b, vI ((0 : Int32) + (1 : Int32)), vI (1 : Int32), vI ((0 : Int32) + (1 : Int32)), vI c0] []) _
      refine XS.goto X138.here hx rfl (pc0 := 41) (pc' := 3) rfl (hb hby d5_41) (by decide) (by decide) ?_
      show Sp p e below T138 (mkF m 3 #[vR a, vI ((0 : Int32) + (1 : Int32)), vR b, vI ((0 : Int32) + (1 : Int32)), vI (1 : Int32), vI ((0 : Int32) + (1 : Int32)), vI c0] []) _
      exact kt)
    clear S139
    have q142 : ((0 : Int32) + (1 : Int32)) = (1 : Int32) := by decide
    have S141 : Go p e below s₁ (eF_cmp1 m a (0 : Int32) b (0 : Int32) (1 : Int32)) T138 (mkF m 3 #[vR a, vI (1 : Int32), vR b, vI (1 : Int32), vI (1 : Int32), vI (1 : Int32), vI c0] []) := by have h := S140; rw [q142] at h; exact h
    clear S140
    have S143 : Go p e below s₁ (eF_cmp1 m a (0 : Int32) b (0 : Int32) (1 : Int32)) T138 (mkF m 46 #[vR a, vI (1 : Int32), vR b, vI (1 : Int32), vI (1 : Int32), vI (1 : Int32), vI c0] [(.int (1 : Int32))]) := fun t kt => S141 t (by
      refine XS.iload X138.here hx rfl (hb hby d5_3) rfl ?_
      show Sp p e below T138 (mkF m 5 #[vR a, vI (1 : Int32), vR b, vI (1 : Int32), vI (1 : Int32), vI (1 : Int32), vI c0] [(.int (1 : Int32))]) _
      refine XS.iload X138.here hx rfl (hb hby d5_5) rfl ?_
      show Sp p e below T138 (mkF m 7 #[vR a, vI (1 : Int32), vR b, vI (1 : Int32), vI (1 : Int32), vI (1 : Int32), vI c0] [(.int (1 : Int32)), (.int (1 : Int32))]) _
      refine XS.icmpYes X138.here hx rfl (pc0 := 7) (pc' := 44) rfl (hb hby d5_7) rfl (flt (show ¬ ((1 : Int32) < (1 : Int32)) from (by decide))).2.1 (by decide) (by decide) ?_
      show Sp p e below T138 (mkF m 44 #[vR a, vI (1 : Int32), vR b, vI (1 : Int32), vI (1 : Int32), vI (1 : Int32), vI c0] []) _
      refine XS.iload X138.here hx rfl (hb hby d5_44) rfl ?_
      show Sp p e below T138 (mkF m 46 #[vR a, vI (1 : Int32), vR b, vI (1 : Int32), vI (1 : Int32), vI (1 : Int32), vI c0] [(.int (1 : Int32))]) _
      exact kt)
    clear S141
    obtain ⟨fs, hr, hrun, hended, hW, hsame⟩ := X138.leave (v := some (.int (1 : Int32))) (fun h => by first | rfl | (rw [Bd.returns] at h; cases h))
    refine ⟨_, _, S143 _ ?_, hrun, hended, _, _, rfl, ?_, ⟨_, rfl⟩, hW, hsame.mono (by decide) (by decide)⟩
    · exact retI X138 hx Bd.returns (hb hby d5_46) hr
    · show Q_cmp1 Z b kb c0 h0 n0 _ T138.heap _
      rw [e138]
      exact ⟨_, rfl, N138, K138, Or.inl ⟨rfl, ⟨hq0, trivial⟩, V138⟩⟩
abbrev eF_com1 (m : MethodId) (x0 : Addr) (x1 : Int32) (x2 : Int32) : JFrame := entryFrame m #[(.ref x0), (.int x1), (.int x2)] 6
theorem ef_com1 (m : MethodId) (x0 : Addr) (x1 : Int32) (x2 : Int32) : entryFrame m #[(.ref x0), (.int x1), (.int x2)] 6 = mkF m 0 #[.val (.ref x0), .val (.int x1), .val (.int x2), .unset, .unset, .unset] [] := by first | (simp [entryFrame, mkF, argsToLocals, Value.category]; done) | rfl
theorem pn_com1 : plainName "java/lang/StringUTF16" = true := by first | (simp [plainName, overriddenIn]; done) | decide +kernel
def Q_com1 (Z : State) (c0 : Int32) (h0 : Heap) (n0 : Nat) (v : Option Value) (h : Heap) (L : List Loc) : Prop := ∃ t kb n vs cd, v = some (.ref t) ∧ Fr n0 L ∧ Keep h0 h [] ∧ h0.size ≤ t ∧ Arv Z h t kb .byte n vs (.int (0 : Int32)) ∧ StrChars.Road.CodA [c0] cd n vs ∧ ((cd = 0 ∧ n = (1 : Int32)) ∨ (cd = 1 ∧ n = (2 : Int32)))
set_option maxRecDepth 65536 in
set_option maxHeartbeats 40000000 in
theorem rm_com1 (l : Launch) (Z : State) (a0 : Array Value) (hw : ∀ d ∈ tables_1, d.before a0 Z = true) (ws : List Jvm.Cond) (a : Addr) (ka : ClassId) (c0 : Int32) (h0 : Heap) (n0 : Nat) (Z0 : n0 ≤ h0.size) (SS : own_St Z) (O0 : Old Z n0 h0)(Va : Arv Z h0 a ka .char (1 : Int32) [(.int c0)] (.int (0 : Int32)))(hc0 : own_Ch c0) :
    MetFree l (⟨"java/lang/StringUTF16", "compress", "([CII)[B"⟩ : MethodName) (head1 (Jvm.Cond.code (⟨"java/lang/StringUTF16", "compress", "([CII)[B"⟩ : MethodName) jdk_52_method_16_code 6 (some (.array .byte)) :: ws) ({ frames := 3, cells := 2, slots := 3, locals := 40 } : Room)) (fun aa U => aa = #[(.ref a), (.int (0 : Int32)), (.int (1 : Int32))] ∧ Z.Warmed39 U.vm ∧ U.heap = h0) (fun _ _ _ _ _ => True) (fun _ U o U' => ∃ v L, o = .returned v ∧ Q_com1 Z c0 h0 n0 v U'.heap L ∧ FrameEnd U o U' L ({ frames := 3, cells := 2, slots := 3, locals := 40 } : Room).cells ({ frames := 3, cells := 2, slots := 3, locals := 40 } : Room).slots) := by
  refine MetFree.of_bodySF (plainFor_of_name pn_com1) hisR ?_
  intro p e s m args below meth c s₁ Bd hml0 hP hK
  obtain ⟨rfl, hZ, hh⟩ := hP
  have hx := Bd.exec
  have hby := Bd.bytes
  have hml : c.maxLocals = 6 := hml0
  have hown : s.vm.findClass "java/lang/StringUTF16" = some m.cls := findClass_of_methodNamed Bd.named
  have hnm := (name_of_methodNamed Bd.named Bd.method).1
  have X0 : Stand p l e ({ frames := 3, cells := 2, slots := 3, locals := 40 } : Room) s m #[(.ref a), (.int (0 : Int32)), (.int (1 : Int32))] below meth c s₁ [] 0 0 := Stand.of_body Bd
  have e0 : s₁.heap = h0 := by rw [← hh, Bd.state]; rfl
  have N0 := Fr.nil n0
  have S0 : Go p e below s₁ (eF_com1 m a (0 : Int32) (1 : Int32)) s₁ (mkF m 0 #[vR a, vI (0 : Int32), vI (1 : Int32), vU, vU, vU] []) := fun t k => castTop (ef_com1 m a (0 : Int32) (1 : Int32)) k
  obtain ⟨⟨cz, S_cs, hcz⟩, ⟨fm, S_fm, hfm⟩, S_ad, S_hi, S_lo⟩ := id SS
  have S144 : Go p e below s₁ (eF_com1 m a (0 : Int32) (1 : Int32)) s₁ (mkF m 1 #[vR a, vI (0 : Int32), vI (1 : Int32), vU, vU, vU] [(.int (1 : Int32))]) := fun t kt => S0 t (by
    refine XS.iloadN X0.here hx rfl (hb hby d4_0) rfl ?_
    show Sp p e below s₁ (mkF m 1 #[vR a, vI (0 : Int32), vI (1 : Int32), vU, vU, vU] [(.int (1 : Int32))]) _
    exact kt)
  clear S0
  obtain ⟨T145, h145, k145, X145, e145, E145, A145, st145⟩ := newP X0 hx hZ (own_h hw 20 rfl) e0 (g := (mkF m 1 #[vR a, vI (0 : Int32), vI (1 : Int32), vU, vU, vU] [(.int (1 : Int32))])) rfl (hb hby d4_1) rfl (by decide) (cap := 1) (by decide) (by decide) (by decide) (by decide)
  obtain ⟨b1, g145⟩ : ∃ z, z = h0.size := ⟨_, rfl⟩
  rw [← g145] at A145 st145
  have ne146 : a ≠ b1 := by rw [g145]; exact Nat.ne_of_lt Va.lt
  have g_b1 : n0 ≤ b1 := Nat.le_trans Z0 (Nat.le_of_eq g145.symm)
  have sz_b1 : h0.size ≤ b1 := Nat.le_trans (Keep.refl h0 []).1 (Nat.le_of_eq g145.symm)
  have K145 : Keep h0 h145 [] := (Keep.refl h0 []).ext E145
  have V145 : Arv Z h145 b1 k145 .byte (1 : Int32) [(.int (0 : Int32))] (.int (0 : Int32)) := (Arv.new A145 (by decide)).pad (pad_rep [] _ 1)
  have S147 : Go p e below s₁ (eF_com1 m a (0 : Int32) (1 : Int32)) T145 (mkF m 3 #[vR a, vI (0 : Int32), vI (1 : Int32), vU, vU, vU] [(.ref b1)]) := fun t kt => S144 t (st145 t kt)
  clear S144 st145 X0 e0
  have S148 : Go p e below s₁ (eF_com1 m a (0 : Int32) (1 : Int32)) T145 (mkF m 9 #[vR a, vI (0 : Int32), vI (1 : Int32), vR b1, vU, vU] [(.int (1 : Int32)), (.int (0 : Int32)), (.ref b1), (.int (0 : Int32)), (.ref a)]) := fun t kt => S147 t (by
    refine XS.astoreN X145.here hx rfl (hb hby d4_3) rfl rfl (l' := #[vR a, vI (0 : Int32), vI (1 : Int32), vR b1, vU, vU]) rfl ?_
    show Sp p e below T145 (mkF m 4 #[vR a, vI (0 : Int32), vI (1 : Int32), vR b1, vU, vU] []) _
    refine XS.aloadN X145.here hx rfl (hb hby d4_4) rfl rfl ?_
    show Sp p e below T145 (mkF m 5 #[vR a, vI (0 : Int32), vI (1 : Int32), vR b1, vU, vU] [(.ref a)]) _
    refine XS.iloadN X145.here hx rfl (hb hby d4_5) rfl ?_
    show Sp p e below T145 (mkF m 6 #[vR a, vI (0 : Int32), vI (1 : Int32), vR b1, vU, vU] [(.int (0 : Int32)), (.ref a)]) _
    refine XS.aloadN X145.here hx rfl (hb hby d4_6) rfl rfl ?_
    show Sp p e below T145 (mkF m 7 #[vR a, vI (0 : Int32), vI (1 : Int32), vR b1, vU, vU] [(.ref b1), (.int (0 : Int32)), (.ref a)]) _
    refine XS.iconst X145.here hx rfl (hb hby d4_7) ?_
    show Sp p e below T145 (mkF m 8 #[vR a, vI (0 : Int32), vI (1 : Int32), vR b1, vU, vU] [(.int (0 : Int32)), (.ref b1), (.int (0 : Int32)), (.ref a)]) _
    refine XS.iloadN X145.here hx rfl (hb hby d4_8) rfl ?_
    show Sp p e below T145 (mkF m 9 #[vR a, vI (0 : Int32), vI (1 : Int32), vR b1, vU, vU] [(.int (1 : Int32)), (.int (0 : Int32)), (.ref b1), (.int (0 : Int32)), (.ref a)]) _
    exact kt)
  clear S147
  have f149 := (Va.ext E145)
  obtain ⟨v150, T150, L150, X150, hQ150, st150⟩ := own_outS (Jvm.LawKit.callS X145 hx (y := (⟨"java/lang/StringUTF16", "compress", "([CI[BII)I"⟩ : MethodName)) hown (mvT hZ (own_h hw 21 rfl)) (mvT hZ (own_h hw 22 rfl)) (mvT hZ (own_h hw 18 rfl)) (mvT hZ (own_h hw 23 rfl)) (by decide) (backOf (W := 0) (rm_cmp1 l Z a0 hw [] a b1 ka k145 c0 h145 n0 (Nat.le_trans Z0 E145.1) f149 V145 ne146 g_b1) hZ (own_h hw 23 rfl) (own_h hw 18 rfl) (by decide) (by decide)) (g := (mkF m 9 #[vR a, vI (0 : Int32), vI (1 : Int32), vR b1, vU, vU] [(.int (1 : Int32)), (.int (0 : Int32)), (.ref b1), (.int (0 : Int32)), (.ref a)])) rfl (by rw [hml]; rfl) (argsL := [(.ref a), (.int (0 : Int32)), (.ref b1), (.int (0 : Int32)), (.int (1 : Int32))]) (rest := []) (lenOf pd___CI_BII_I rfl) rfl (by show 2 * 0 + _ ≤ _; exact Nat.le_of_eq rfl) (hb hby d4_9) (fun _ _ => ⟨rfl, e145, (by decide : 1 + 0 ≤ _), (by decide : 1 + 0 ≤ _)⟩))
  obtain ⟨r, rfl, N150q, K150, hor⟩ := hQ150
  have N150 := Fr.app N0 N150q
  have KK150 : Keep h0 T150.heap [] := K145.trans K150 (allS (Or.inr sz_b1) all0)
  have S151 : Go p e below s₁ (eF_com1 m a (0 : Int32) (1 : Int32)) T150 (mkF m 12 #[vR a, vI (0 : Int32), vI (1 : Int32), vR b1, vU, vU] [(.int r)]) := fun t kt => S148 t (st150 t kt)
  clear S148 st150 X145 e145
  rcases hor with ⟨rfl, hall, Vl⟩ | ⟨rfl, hk⟩
  · have S152 : Go p e below s₁ (eF_com1 m a (0 : Int32) (1 : Int32)) T150 (mkF m 58 #[vR a, vI (0 : Int32), vI (1 : Int32), vR b1, vI (1 : Int32), vU] [(.ref b1)]) := fun t kt => S151 t (by
      refine XS.istore X150.here hx rfl (hb hby d4_12) rfl (l' := #[vR a, vI (0 : Int32), vI (1 : Int32), vR b1, vI (1 : Int32), vU]) rfl ?_
      show Sp p e below T150 (mkF m 14 #[vR a, vI (0 : Int32), vI (1 : Int32), vR b1, vI (1 : Int32), vU] []) _
      refine XS.iload X150.here hx rfl (hb hby d4_14) rfl ?_
      show Sp p e below T150 (mkF m 16 #[vR a, vI (0 : Int32), vI (1 : Int32), vR b1, vI (1 : Int32), vU] [(.int (1 : Int32))]) _
      refine XS.iloadN X150.here hx rfl (hb hby d4_16) rfl ?_
      show Sp p e below T150 (mkF m 17 #[vR a, vI (0 : Int32), vI (1 : Int32), vR b1, vI (1 : Int32), vU] [(.int (1 : Int32)), (.int (1 : Int32))]) _
      refine XS.icmpYes X150.here hx rfl (pc0 := 17) (pc' := 57) rfl (hb hby d4_17) rfl (teq (show (1 : Int32) = (1 : Int32) from (by decide))).1 (by decide) (by decide) ?_
      show Sp p e below T150 (mkF m 57 #[vR a, vI (0 : Int32), vI (1 : Int32), vR b1, vI (1 : Int32), vU] []) _
      refine XS.aloadN X150.here hx rfl (hb hby d4_57) rfl rfl ?_
      show Sp p e below T150 (mkF m 58 #[vR a, vI (0 : Int32), vI (1 : Int32), vR b1, vI (1 : Int32), vU] [(.ref b1)]) _
      exact kt)
    clear S151
    obtain ⟨fs, hr, hrun, hended, hW, hsame⟩ := X150.leave (v := some (.ref b1)) (fun h => by first | rfl | (rw [Bd.returns] at h; cases h))
    refine ⟨_, _, S152 _ ?_, hrun, hended, _, _, rfl, ?_, ⟨_, rfl⟩, hW, hsame.mono (by decide) (by decide)⟩
    · exact retOut X150 hx Bd.returns rfl (Or.inr (Or.inr (Or.inr (Or.inr ⟨rfl, rfl, rfl⟩)))) (hb hby d4_58) hr
    · show Q_com1 Z c0 h0 n0 _ T150.heap _
      exact ⟨b1, _, _, _, (0 : Int32), rfl, N150, KK150, sz_b1, Vl, Or.inl ⟨rfl, rfl, rfl, (fun z hz => by simp only [List.mem_cons, List.not_mem_nil, or_false] at hz; rw [hz]; exact hall.1)⟩, Or.inl ⟨rfl, rfl⟩⟩
  · have S153 : Go p e below s₁ (eF_com1 m a (0 : Int32) (1 : Int32)) T150 (mkF m 23 #[vR a, vI (0 : Int32), vI (1 : Int32), vR b1, vI (0 : Int32), vU] [(.int (1 : Int32)), (.int (0 : Int32)), (.ref a)]) := fun t kt => S151 t (by
      refine XS.istore X150.here hx rfl (hb hby d4_12) rfl (l' := #[vR a, vI (0 : Int32), vI (1 : Int32), vR b1, vI (0 : Int32), vU]) rfl ?_
      show Sp p e below T150 (mkF m 14 #[vR a, vI (0 : Int32), vI (1 : Int32), vR b1, vI (0 : Int32), vU] []) _
      refine XS.iload X150.here hx rfl (hb hby d4_14) rfl ?_
      show Sp p e below T150 (mkF m 16 #[vR a, vI (0 : Int32), vI (1 : Int32), vR b1, vI (0 : Int32), vU] [(.int (0 : Int32))]) _
      refine XS.iloadN X150.here hx rfl (hb hby d4_16) rfl ?_
      show Sp p e below T150 (mkF m 17 #[vR a, vI (0 : Int32), vI (1 : Int32), vR b1, vI (0 : Int32), vU] [(.int (1 : Int32)), (.int (0 : Int32))]) _
      refine XS.icmpNo X150.here hx rfl (hb hby d4_17) rfl (feq (show ¬ ((0 : Int32) = (1 : Int32)) from (by decide))).1 ?_
      show Sp p e below T150 (mkF m 20 #[vR a, vI (0 : Int32), vI (1 : Int32), vR b1, vI (0 : Int32), vU] []) _
      refine XS.aloadN X150.here hx rfl (hb hby d4_20) rfl rfl ?_
      show Sp p e below T150 (mkF m 21 #[vR a, vI (0 : Int32), vI (1 : Int32), vR b1, vI (0 : Int32), vU] [(.ref a)]) _
      refine XS.iloadN X150.here hx rfl (hb hby d4_21) rfl ?_
      show Sp p e below T150 (mkF m 22 #[vR a, vI (0 : Int32), vI (1 : Int32), vR b1, vI (0 : Int32), vU] [(.int (0 : Int32)), (.ref a)]) _
      refine XS.iloadN X150.here hx rfl (hb hby d4_22) rfl ?_
      show Sp p e below T150 (mkF m 23 #[vR a, vI (0 : Int32), vI (1 : Int32), vR b1, vI (0 : Int32), vU] [(.int (1 : Int32)), (.int (0 : Int32)), (.ref a)]) _
      exact kt)
    clear S151
    have f154 := ((O0.ext E145).keep K150 (allS g_b1 all0))
    have f155 := (f149.keep K150 (ninS ne146 nin0))
    obtain ⟨v156, T156, L156, X156, hQ156, st156⟩ := own_outS (Jvm.LawKit.callS X150 hx (y := (⟨"java/lang/StringUTF16", "toBytes", "([CII)[B"⟩ : MethodName)) hown (mvT hZ (own_h hw 88 rfl)) (mvT hZ (own_h hw 89 rfl)) (mvT hZ (own_h hw 18 rfl)) (mvT hZ (own_h hw 90 rfl)) (by decide) (backOf (W := 0) (rm_tob1 l Z a0 hw [] a ka c0 T150.heap n0 (Nat.le_trans (Nat.le_trans Z0 E145.1) K150.1) SS f154 f155) hZ (own_h hw 90 rfl) (own_h hw 18 rfl) (by decide) (by decide)) (g := (mkF m 23 #[vR a, vI (0 : Int32), vI (1 : Int32), vR b1, vI (0 : Int32), vU] [(.int (1 : Int32)), (.int (0 : Int32)), (.ref a)])) rfl (by rw [hml]; rfl) (argsL := [(.ref a), (.int (0 : Int32)), (.int (1 : Int32))]) (rest := []) (lenOf pd___CII__B rfl) rfl (by show 2 * 0 + _ ≤ _; exact Nat.le_of_eq rfl) (hb hby d4_23) (fun _ _ => ⟨rfl, rfl, (by decide : 1 + 1 ≤ _), (by decide : 1 + 2 ≤ _)⟩))
    obtain ⟨t1, kb156, rfl, N156q, K156, sz156, V156⟩ := hQ156
    have N156 := Fr.app N150 N156q
    have KK156 : Keep h0 T156.heap [] := KK150.trans K156 all0
    have sz_t1 : h0.size ≤ t1 := Nat.le_trans KK150.1 sz156
    have g_t1 : n0 ≤ t1 := Nat.le_trans (Nat.le_trans (Nat.le_trans Z0 E145.1) K150.1) sz156
    have S157 : Go p e below s₁ (eF_com1 m a (0 : Int32) (1 : Int32)) T156 (mkF m 26 #[vR a, vI (0 : Int32), vI (1 : Int32), vR b1, vI (0 : Int32), vU] [(.ref t1)]) := fun t kt => S153 t (st156 t kt)
    clear S153 st156 X150
    have S158 : Go p e below s₁ (eF_com1 m a (0 : Int32) (1 : Int32)) T156 (mkF m 32 #[vR a, vI (0 : Int32), vI (1 : Int32), vR b1, vI (0 : Int32), vR t1] [(.int (0 : Int32)), (.ref t1)]) := fun t kt => S157 t (by
      refine XS.astore X156.here hx rfl (hb hby d4_26) rfl rfl (l' := #[vR a, vI (0 : Int32), vI (1 : Int32), vR b1, vI (0 : Int32), vR t1]) rfl ?_
      show Sp p e below T156 (mkF m 28 #[vR a, vI (0 : Int32), vI (1 : Int32), vR b1, vI (0 : Int32), vR t1] []) _
      refine XS.aload X156.here hx rfl (hb hby d4_28) rfl rfl ?_
      show Sp p e below T156 (mkF m 30 #[vR a, vI (0 : Int32), vI (1 : Int32), vR b1, vI (0 : Int32), vR t1] [(.ref t1)]) _
      refine XS.iload X156.here hx rfl (hb hby d4_30) rfl ?_
      show Sp p e below T156 (mkF m 32 #[vR a, vI (0 : Int32), vI (1 : Int32), vR b1, vI (0 : Int32), vR t1] [(.int (0 : Int32)), (.ref t1)]) _
      exact kt)
    clear S157
    have f159 := (f154.keep K156 all0)
    obtain ⟨v160, T160, L160, X160, hQ160, st160⟩ := own_outS (Jvm.LawKit.callS X156 hx (y := (⟨"java/lang/StringUTF16", "getChar", "([BI)C"⟩ : MethodName)) hown (mvT hZ (own_h hw 104 rfl)) (mvT hZ (own_h hw 105 rfl)) (mvT hZ (own_h hw 18 rfl)) (mvT hZ (own_h hw 106 rfl)) (by decide) (backOf (W := 0) (rm_gch l Z a0 hw [] t1 (0 : Int32) kb156 (2 : Int32) [(.int (StrChars.lo8 c0)), (.int (StrChars.hi8 c0))] c0 T156.heap n0 (Nat.le_trans (Nat.le_trans (Nat.le_trans Z0 E145.1) K150.1) K156.1) SS f159 V156 (by decide) (by decide) (by rw [show ((0 : Int32) <<< ((1 : Int32) &&& 31)).toNatClampNeg = 0 from by decide]; rfl) (by rw [show (((0 : Int32) <<< ((1 : Int32) &&& 31)) + (1 : Int32)).toNatClampNeg = 1 from by decide]; rfl) hc0) hZ (own_h hw 106 rfl) (own_h hw 18 rfl) (by decide) (by decide)) (g := (mkF m 32 #[vR a, vI (0 : Int32), vI (1 : Int32), vR b1, vI (0 : Int32), vR t1] [(.int (0 : Int32)), (.ref t1)])) rfl (by rw [hml]; rfl) (argsL := [(.ref t1), (.int (0 : Int32))]) (rest := []) (lenOf pd___BI_C rfl) rfl (by show 2 * 0 + _ ≤ _; exact Nat.le_of_eq rfl) (hb hby d4_32) (fun _ _ => ⟨rfl, rfl, (by decide : 2 + 0 ≤ _), (by decide : 3 + 0 ≤ _)⟩))
    obtain ⟨rfl, N160q, e160⟩ := hQ160
    have N160 := Fr.app N156 N160q
    have S161 : Go p e below s₁ (eF_com1 m a (0 : Int32) (1 : Int32)) T160 (mkF m 35 #[vR a, vI (0 : Int32), vI (1 : Int32), vR b1, vI (0 : Int32), vR t1] [(.int c0)]) := fun t kt => S158 t (st160 t kt)
    clear S158 st160 X156
    have S162 : Go p e below s₁ (eF_com1 m a (0 : Int32) (1 : Int32)) T160 (mkF m 38 #[vR a, vI (0 : Int32), vI (1 : Int32), vR b1, vI (0 : Int32), vR t1] [(.int (255 : Int32)), (.int c0)]) := fun t kt => S161 t (by
      refine XS.sipush X160.here hx rfl (hb hby d4_35) ?_
      show Sp p e below T160 (mkF m 38 #[vR a, vI (0 : Int32), vI (1 : Int32), vR b1, vI (0 : Int32), vR t1] [(.int (255 : Int32)), (.int c0)]) _
      exact kt)
    clear S161
    have S163 : Go p e below s₁ (eF_com1 m a (0 : Int32) (1 : Int32)) T160 (mkF m 56 #[vR a, vI (0 : Int32), vI (1 : Int32), vR b1, vI (0 : Int32), vR t1] [(.ref t1)]) := fun t kt => S162 t (by
      refine XS.icmpYes X160.here hx rfl (pc0 := 38) (pc' := 54) rfl (hb hby d4_38) rfl (tlt (show (255 : Int32) < c0 from hk)).2.2.1 (by decide) (by decide) ?_
      show Sp p e below T160 (mkF m 54 #[vR a, vI (0 : Int32), vI (1 : Int32), vR b1, vI (0 : Int32), vR t1] []) _
      refine XS.aload X160.here hx rfl (hb hby d4_54) rfl rfl ?_
      show Sp p e below T160 (mkF m 56 #[vR a, vI (0 : Int32), vI (1 : Int32), vR b1, vI (0 : Int32), vR t1] [(.ref t1)]) _
      exact kt)
    clear S162
    obtain ⟨fs, hr, hrun, hended, hW, hsame⟩ := X160.leave (v := some (.ref t1)) (fun h => by first | rfl | (rw [Bd.returns] at h; cases h))
    refine ⟨_, _, S163 _ ?_, hrun, hended, _, _, rfl, ?_, ⟨_, rfl⟩, hW, hsame.mono (by decide) (by decide)⟩
    · exact retOut X160 hx Bd.returns rfl (Or.inr (Or.inr (Or.inr (Or.inr ⟨rfl, rfl, rfl⟩)))) (hb hby d4_56) hr
    · show Q_com1 Z c0 h0 n0 _ T160.heap _
      rw [e160]
      exact ⟨t1, _, _, _, (1 : Int32), rfl, N160, KK156, sz_t1, V156, Or.inr ⟨rfl, rfl, rfl, ⟨c0, by simp, hk⟩⟩, Or.inr ⟨rfl, rfl⟩⟩
abbrev eF_ini1 (m : MethodId) (x0 : Addr) (x1 : Addr) (x2 : Int32) (x3 : Int32) : JFrame := entryFrame m #[(.ref x0), (.ref x1), (.int x2), (.int x3), .null] 6
theorem ef_ini1 (m : MethodId) (x0 : Addr) (x1 : Addr) (x2 : Int32) (x3 : Int32) : entryFrame m #[(.ref x0), (.ref x1), (.int x2), (.int x3), .null] 6 = mkF m 0 #[.val (.ref x0), .val (.ref x1), .val (.int x2), .val (.int x3), .val .null, .unset] [] := by first | (simp [entryFrame, mkF, argsToLocals, Value.category]; done) | rfl
theorem pn_ini1 : plainName "java/lang/String" = true := by first | (simp [plainName, overriddenIn]; done) | decide +kernel
def Q_ini1 (Z : State) (x : Addr) (c0 : Int32) (h0 : Heap) (n0 : Nat) (v : Option Value) (h : Heap) (L : List Loc) : Prop := v = none ∧ Fr n0 L ∧ Keep h0 h [x] ∧ ∃ t kb n vs cd, h0.size ≤ t ∧ Exa Z h x "java/lang/String" ∧ Fld Z h x "java/lang/String" "coder" "B" (.int cd) ∧ Fld Z h x "java/lang/String" "value" "[B" (.ref t) ∧ Arv Z h t kb .byte n vs (.int (0 : Int32)) ∧ StrChars.Road.CodA [c0] cd n vs
set_option maxRecDepth 65536 in
set_option maxHeartbeats 40000000 in
theorem rm_ini1 (l : Launch) (Z : State) (a0 : Array Value) (hw : ∀ d ∈ tables_1, d.before a0 Z = true) (ws : List Jvm.Cond) (x : Addr) (a : Addr) (ka : ClassId) (c0 : Int32) (h0 : Heap) (n0 : Nat) (Z0 : n0 ≤ h0.size) (SS : own_St Z) (O0 : Old Z n0 h0)(Va : Arv Z h0 a ka .char (1 : Int32) [(.int c0)] (.int (0 : Int32)))(hc0 : own_Ch c0)(E0 : Exa Z h0 x "java/lang/String") (F1 : Fld Z h0 x "java/lang/String" "coder" "B" (.int (0 : Int32))) (F2 : Fld Z h0 x "java/lang/String" "value" "[B" .null) (hxa : x ≠ a) (g_x : n0 ≤ x) :
    MetFree l (⟨"java/lang/String", "<init>", "([CIILjava/lang/Void;)V"⟩ : MethodName) (head1 (Jvm.Cond.code (⟨"java/lang/String", "<init>", "([CIILjava/lang/Void;)V"⟩ : MethodName) jdk_42_method_149_code 6 none :: ws) ({ frames := 4, cells := 2, slots := 3, locals := 57 } : Room)) (fun aa U => aa = #[(.ref x), (.ref a), (.int (0 : Int32)), (.int (1 : Int32)), .null] ∧ Z.Warmed39 U.vm ∧ U.heap = h0) (fun _ _ _ _ _ => True) (fun _ U o U' => ∃ v L, o = .returned v ∧ Q_ini1 Z x c0 h0 n0 v U'.heap L ∧ FrameEnd U o U' L ({ frames := 4, cells := 2, slots := 3, locals := 57 } : Room).cells ({ frames := 4, cells := 2, slots := 3, locals := 57 } : Room).slots) := by
  refine MetFree.of_bodySF (plainFor_of_name pn_ini1) hisR ?_
  intro p e s m args below meth c s₁ Bd hml0 hP hK
  obtain ⟨rfl, hZ, hh⟩ := hP
  have hx := Bd.exec
  have hby := Bd.bytes
  have hml : c.maxLocals = 6 := hml0
  have hown : s.vm.findClass "java/lang/String" = some m.cls := findClass_of_methodNamed Bd.named
  have hnm := (name_of_methodNamed Bd.named Bd.method).1
  have X0 : Stand p l e ({ frames := 4, cells := 2, slots := 3, locals := 57 } : Room) s m #[(.ref x), (.ref a), (.int (0 : Int32)), (.int (1 : Int32)), .null] below meth c s₁ [] 0 0 := Stand.of_body Bd
  have e0 : s₁.heap = h0 := by rw [← hh, Bd.state]; rfl
  have N0 := Fr.nil n0
  have S0 : Go p e below s₁ (eF_ini1 m x a (0 : Int32) (1 : Int32)) s₁ (mkF m 0 #[vR x, vR a, vI (0 : Int32), vI (1 : Int32), .val .null, vU] []) := fun t k => castTop (ef_ini1 m x a (0 : Int32) (1 : Int32)) k
  obtain ⟨⟨cz, S_cs, hcz⟩, ⟨fm, S_fm, hfm⟩, S_ad, S_hi, S_lo⟩ := id SS
  have S164 : Go p e below s₁ (eF_ini1 m x a (0 : Int32) (1 : Int32)) s₁ (mkF m 1 #[vR x, vR a, vI (0 : Int32), vI (1 : Int32), .val .null, vU] [(.ref x)]) := fun t kt => S0 t (by
    refine XS.aloadN X0.here hx rfl (hb hby d2_0) rfl rfl ?_
    show Sp p e below s₁ (mkF m 1 #[vR x, vR a, vI (0 : Int32), vI (1 : Int32), .val .null, vU] [(.ref x)]) _
    exact kt)
  clear S0
  obtain ⟨T165, X165, e165, st165⟩ := initO X0 hx hZ hown (own_h hw 12 rfl) (own_h hw 13 rfl) (own_h hw 14 rfl) e0 (g := (mkF m 1 #[vR x, vR a, vI (0 : Int32), vI (1 : Int32), .val .null, vU] [(.ref x)])) rfl (by rw [hml]; rfl) rfl (hb hby d2_1) (by decide) (W := 0) (by show 2 * 0 + _ ≤ _; exact Nat.le_of_eq rfl) (by decide)
  have S166 : Go p e below s₁ (eF_ini1 m x a (0 : Int32) (1 : Int32)) T165 (mkF m 4 #[vR x, vR a, vI (0 : Int32), vI (1 : Int32), .val .null, vU] []) := fun t kt => S164 t (st165 t kt)
  clear S164 st165 X0 e0
  have S167 : Go p e below s₁ (eF_ini1 m x a (0 : Int32) (1 : Int32)) T165 (mkF m 27 #[vR x, vR a, vI (0 : Int32), vI (1 : Int32), .val .null, vU] []) := fun t kt => S166 t (by
    refine XS.iloadN X165.here hx rfl (hb hby d2_4) rfl ?_
    show Sp p e below T165 (mkF m 5 #[vR x, vR a, vI (0 : Int32), vI (1 : Int32), .val .null, vU] [(.int (1 : Int32))]) _
    refine XS.ifYes X165.here hx rfl (pc0 := 5) (pc' := 27) rfl (hb hby d2_5) rfl ((if0 _ _).trans (feq (show ¬ ((1 : Int32) = (0 : Int32)) from (by decide))).2) (by decide) (by decide) ?_
    show Sp p e below T165 (mkF m 27 #[vR x, vR a, vI (0 : Int32), vI (1 : Int32), .val .null, vU] []) _
    exact kt)
  clear S166
  obtain ⟨T168, X168, e168, st168⟩ := getS2 X165 hx hZ hown (host := "") (Or.inl (own_h hw 15 rfl)) Via.refl e165 (S_cs.ext O0.2) (g := (mkF m 27 #[vR x, vR a, vI (0 : Int32), vI (1 : Int32), .val .null, vU] [])) rfl (hb hby d2_27)
  have S169 : Go p e below s₁ (eF_ini1 m x a (0 : Int32) (1 : Int32)) T168 (mkF m 30 #[vR x, vR a, vI (0 : Int32), vI (1 : Int32), .val .null, vU] [(.int cz)]) := fun t kt => S167 t (st168 t kt)
  clear S167 st168 X165 e165
  have S170 : Go p e below s₁ (eF_ini1 m x a (0 : Int32) (1 : Int32)) T168 (mkF m 36 #[vR x, vR a, vI (0 : Int32), vI (1 : Int32), .val .null, vU] [(.int (1 : Int32)), (.int (0 : Int32)), (.ref a)]) := fun t kt => S169 t (by
    refine XS.ifNo X168.here hx rfl (hb hby d2_30) rfl ((if0 _ _).trans (feq (show ¬ (cz = (0 : Int32)) from hcz)).1) ?_
    show Sp p e below T168 (mkF m 33 #[vR x, vR a, vI (0 : Int32), vI (1 : Int32), .val .null, vU] []) _
    refine XS.aloadN X168.here hx rfl (hb hby d2_33) rfl rfl ?_
    show Sp p e below T168 (mkF m 34 #[vR x, vR a, vI (0 : Int32), vI (1 : Int32), .val .null, vU] [(.ref a)]) _
    refine XS.iloadN X168.here hx rfl (hb hby d2_34) rfl ?_
    show Sp p e below T168 (mkF m 35 #[vR x, vR a, vI (0 : Int32), vI (1 : Int32), .val .null, vU] [(.int (0 : Int32)), (.ref a)]) _
    refine XS.iloadN X168.here hx rfl (hb hby d2_35) rfl ?_
    show Sp p e below T168 (mkF m 36 #[vR x, vR a, vI (0 : Int32), vI (1 : Int32), .val .null, vU] [(.int (1 : Int32)), (.int (0 : Int32)), (.ref a)]) _
    exact kt)
  clear S169
  obtain ⟨v171, T171, L171, X171, hQ171, st171⟩ := own_outS (Jvm.LawKit.callS X168 hx (y := (⟨"java/lang/StringUTF16", "compress", "([CII)[B"⟩ : MethodName)) hown (mvT hZ (own_h hw 16 rfl)) (mvT hZ (own_h hw 17 rfl)) (mvT hZ (own_h hw 18 rfl)) (mvT hZ (own_h hw 19 rfl)) (by decide) (backOf (W := 0) (rm_com1 l Z a0 hw [] a ka c0 h0 n0 Z0 SS O0 Va hc0) hZ (own_h hw 19 rfl) (own_h hw 18 rfl) (by decide) (by decide)) (g := (mkF m 36 #[vR x, vR a, vI (0 : Int32), vI (1 : Int32), .val .null, vU] [(.int (1 : Int32)), (.int (0 : Int32)), (.ref a)])) rfl (by rw [hml]; rfl) (argsL := [(.ref a), (.int (0 : Int32)), (.int (1 : Int32))]) (rest := []) (lenOf pd___CII__B rfl) rfl (by show 2 * 0 + _ ≤ _; exact Nat.le_of_eq rfl) (hb hby d2_36) (fun _ _ => ⟨rfl, e168, (by decide : 0 + 2 ≤ _), (by decide : 0 + 3 ≤ _)⟩))
  obtain ⟨t1, kb171, n, vs, cd, rfl, N171q, K171, sz171, V171, hcod, hdn⟩ := hQ171
  have N171 := Fr.app N0 N171q
  have KK171 : Keep h0 T171.heap [x] := (Keep.refl h0 [x]).trans K171 all0
  have sz_t1 : h0.size ≤ t1 := Nat.le_trans (Keep.refl h0 [x]).1 sz171
  have g_t1 : n0 ≤ t1 := Nat.le_trans Z0 sz171
  have S172 : Go p e below s₁ (eF_ini1 m x a (0 : Int32) (1 : Int32)) T171 (mkF m 39 #[vR x, vR a, vI (0 : Int32), vI (1 : Int32), .val .null, vU] [(.ref t1)]) := fun t kt => S170 t (st171 t kt)
  clear S170 st171 X168 e168
  have S173 : Go p e below s₁ (eF_ini1 m x a (0 : Int32) (1 : Int32)) T171 (mkF m 45 #[vR x, vR a, vI (0 : Int32), vI (1 : Int32), .val .null, vR t1] [(.int (1 : Int32)), (.ref t1), (.ref x)]) := fun t kt => S172 t (by
    refine XS.astore X171.here hx rfl (hb hby d2_39) rfl rfl (l' := #[vR x, vR a, vI (0 : Int32), vI (1 : Int32), .val .null, vR t1]) rfl ?_
    show Sp p e below T171 (mkF m 41 #[vR x, vR a, vI (0 : Int32), vI (1 : Int32), .val .null, vR t1] []) _
    refine XS.aloadN X171.here hx rfl (hb hby d2_41) rfl rfl ?_
    show Sp p e below T171 (mkF m 42 #[vR x, vR a, vI (0 : Int32), vI (1 : Int32), .val .null, vR t1] [(.ref x)]) _
    refine XS.aload X171.here hx rfl (hb hby d2_42) rfl rfl ?_
    show Sp p e below T171 (mkF m 44 #[vR x, vR a, vI (0 : Int32), vI (1 : Int32), .val .null, vR t1] [(.ref t1), (.ref x)]) _
    refine XS.iloadN X171.here hx rfl (hb hby d2_44) rfl ?_
    show Sp p e below T171 (mkF m 45 #[vR x, vR a, vI (0 : Int32), vI (1 : Int32), .val .null, vR t1] [(.int (1 : Int32)), (.ref t1), (.ref x)]) _
    exact kt)
  clear S172
  have hr1 : (((((1 : Int32) - n).toUInt32 >>> ((31 : Int32) &&& 31).toUInt32).toInt32).toInt8.toInt32) = cd := by rcases hdn with ⟨rfl, rfl⟩ | ⟨rfl, rfl⟩ <;> decide
  have hr2 : nar .byte cd = cd := by rcases hdn with ⟨rfl, rfl⟩ | ⟨rfl, rfl⟩ <;> decide
  obtain ⟨v174, T174, L174, X174, hQ174, st174⟩ := own_outS (Jvm.LawKit.callS X171 hx (y := (⟨"java/lang/StringUTF16", "coderFromArrayLen", "([BI)B"⟩ : MethodName)) hown (mvT hZ (own_h hw 24 rfl)) (mvT hZ (own_h hw 25 rfl)) (mvT hZ (own_h hw 18 rfl)) (mvT hZ (own_h hw 26 rfl)) (by decide) (backOf (W := 1) (rm_cfl l Z a0 hw [] t1 (1 : Int32) kb171 n vs cd T171.heap n0 (Nat.le_trans Z0 K171.1) V171 hr1 hr2) hZ (own_h hw 26 rfl) (own_h hw 18 rfl) (by decide) (by decide)) (g := (mkF m 45 #[vR x, vR a, vI (0 : Int32), vI (1 : Int32), .val .null, vR t1] [(.int (1 : Int32)), (.ref t1), (.ref x)])) rfl (by rw [hml]; rfl) (argsL := [(.ref t1), (.int (1 : Int32))]) (rest := [(.ref x)]) (lenOf pd___BI_B rfl) rfl (by show 2 * 0 + _ ≤ _; exact Nat.le_of_eq rfl) (hb hby d2_45) (fun _ _ => ⟨rfl, rfl, (by decide : 2 + 0 ≤ _), (by decide : 3 + 0 ≤ _)⟩))
  obtain ⟨rfl, N174q, e174⟩ := hQ174
  have N174 := Fr.app N171 N174q
  have S175 : Go p e below s₁ (eF_ini1 m x a (0 : Int32) (1 : Int32)) T174 (mkF m 48 #[vR x, vR a, vI (0 : Int32), vI (1 : Int32), .val .null, vR t1] [(.int cd), (.ref x)]) := fun t kt => S173 t (st174 t kt)
  clear S173 st174 X171
  have f176 := (F1.keep K171 nin0)
  have f177 := (E0.keep K171)
  obtain ⟨T178, h178, X178, e178, W178, st178⟩ := putFN X174 hx hZ hown (own_h hw 27 rfl) Via.refl e174 f176 f177 (Or.inr ⟨(own_h hw 28 rfl), rfl, hnm⟩) (own_h hw 3 rfl) (ty := .byte) (v' := .int (cd.toInt8.toInt32)) (by decide) rfl (fits_nar_byte _) (g := (mkF m 48 #[vR x, vR a, vI (0 : Int32), vI (1 : Int32), .val .null, vR t1] [(.int cd), (.ref x)])) rfl rfl (hb hby d2_48)
  rw [show (cd.toInt8.toInt32) = cd from hr2] at W178
  have N178 := Fr.snoc X178 N174 g_x
  have K178 : Keep h0 h178 [x] := KK171.wr W178 (Or.inl (by simp))
  have Fw178 := f176.same W178
  have S179 : Go p e below s₁ (eF_ini1 m x a (0 : Int32) (1 : Int32)) T178 (mkF m 51 #[vR x, vR a, vI (0 : Int32), vI (1 : Int32), .val .null, vR t1] []) := fun t kt => S175 t (st178 t kt)
  clear S175 st178 X174 e174
  have S180 : Go p e below s₁ (eF_ini1 m x a (0 : Int32) (1 : Int32)) T178 (mkF m 54 #[vR x, vR a, vI (0 : Int32), vI (1 : Int32), .val .null, vR t1] [(.ref t1), (.ref x)]) := fun t kt => S179 t (by
    refine XS.aloadN X178.here hx rfl (hb hby d2_51) rfl rfl ?_
    show Sp p e below T178 (mkF m 52 #[vR x, vR a, vI (0 : Int32), vI (1 : Int32), .val .null, vR t1] [(.ref x)]) _
    refine XS.aload X178.here hx rfl (hb hby d2_52) rfl rfl ?_
    show Sp p e below T178 (mkF m 54 #[vR x, vR a, vI (0 : Int32), vI (1 : Int32), .val .null, vR t1] [(.ref t1), (.ref x)]) _
    exact kt)
  clear S179
  have f181 := ((F2.keep K171 nin0).other W178 (Or.inr (slot_ne (C := "java/lang/String") (Or.inr (own_h hw 30 rfl)) (Or.inr (own_h hw 28 rfl)) (by decide) (t := (.array .byte)) (t' := .byte) (by decide) (by decide))))
  have f182 := (f177.wr W178)
  obtain ⟨T183, h183, X183, e183, W183, st183⟩ := putF X178 hx hZ hown (host := "") (Or.inl (own_h hw 29 rfl)) Via.refl e178 f181 f182 (Or.inr ⟨(own_h hw 30 rfl), rfl, hnm⟩) (own_h hw 3 rfl) (ty := (.array .byte)) (by decide) rfl rfl (g := (mkF m 54 #[vR x, vR a, vI (0 : Int32), vI (1 : Int32), .val .null, vR t1] [(.ref t1), (.ref x)])) rfl rfl (hb hby d2_54)
  have N183 := Fr.snoc X183 N178 g_x
  have K183 : Keep h0 h183 [x] := K178.wr W183 (Or.inl (by simp))
  have Fw183 := f181.same W183
  have S184 : Go p e below s₁ (eF_ini1 m x a (0 : Int32) (1 : Int32)) T183 (mkF m 57 #[vR x, vR a, vI (0 : Int32), vI (1 : Int32), .val .null, vR t1] []) := fun t kt => S180 t (st183 t kt)
  clear S180 st183 X178 e178
  have f185 := (f182.wr W183)
  have f186 := (Fw178.other W183 (Or.inr (slot_ne (C := "java/lang/String") (Or.inr (own_h hw 28 rfl)) (Or.inr (own_h hw 30 rfl)) (by decide) (t := .byte) (t' := (.array .byte)) (by decide) (by decide))))
  have ne187 : x ≠ t1 := Nat.ne_of_lt (Nat.lt_of_lt_of_le (E0.lt) sz171)
  have f188 := ((V171.other W178 (Ne.symm ne187)).other W183 (Ne.symm ne187))
  obtain ⟨fs, hr, hrun, hended, hW, hsame⟩ := X183.leave (v := none) (fun h => by first | rfl | (rw [Bd.returns] at h; cases h))
  refine ⟨_, _, S184 _ ?_, hrun, hended, _, _, rfl, ?_, ⟨_, rfl⟩, hW, hsame.mono (by decide) (by decide)⟩
  · exact X183.returnOut hx Bd.returns (hb hby d2_57) hr
  · show Q_ini1 Z x c0 h0 n0 _ T183.heap _
    rw [e183]
    exact ⟨rfl, N183, K183, t1, _, _, _, cd, sz_t1, f185, f186, Fw183, f188, hcod⟩
abbrev eF_str1 (m : MethodId) (x0 : Addr) (x1 : Addr) : JFrame := entryFrame m #[(.ref x0), (.ref x1)] 2
theorem ef_str1 (m : MethodId) (x0 : Addr) (x1 : Addr) : entryFrame m #[(.ref x0), (.ref x1)] 2 = mkF m 0 #[.val (.ref x0), .val (.ref x1)] [] := by first | (simp [entryFrame, mkF, argsToLocals, Value.category]; done) | rfl
theorem pn_str1 : plainName "java/lang/String" = true := by first | (simp [plainName, overriddenIn]; done) | decide +kernel
def Q_str1 (Z : State) (x : Addr) (c0 : Int32) (h0 : Heap) (n0 : Nat) (v : Option Value) (h : Heap) (L : List Loc) : Prop := v = none ∧ Fr n0 L ∧ Keep h0 h [x] ∧ ∃ t kb n vs cd, h0.size ≤ t ∧ Exa Z h x "java/lang/String" ∧ Fld Z h x "java/lang/String" "coder" "B" (.int cd) ∧ Fld Z h x "java/lang/String" "value" "[B" (.ref t) ∧ Arv Z h t kb .byte n vs (.int (0 : Int32)) ∧ StrChars.Road.CodA [c0] cd n vs
set_option maxRecDepth 65536 in
set_option maxHeartbeats 40000000 in
theorem rm_str1 (l : Launch) (Z : State) (a0 : Array Value) (hw : ∀ d ∈ tables_1, d.before a0 Z = true) (ws : List Jvm.Cond) (x : Addr) (a : Addr) (ka : ClassId) (c0 : Int32) (h0 : Heap) (n0 : Nat) (Z0 : n0 ≤ h0.size) (SS : own_St Z) (O0 : Old Z n0 h0)(Va : Arv Z h0 a ka .char (1 : Int32) [(.int c0)] (.int (0 : Int32)))(hc0 : own_Ch c0)(E0 : Exa Z h0 x "java/lang/String") (F1 : Fld Z h0 x "java/lang/String" "coder" "B" (.int (0 : Int32))) (F2 : Fld Z h0 x "java/lang/String" "value" "[B" .null) (hxa : x ≠ a) (g_x : n0 ≤ x) :
    MetFree l (⟨"java/lang/String", "<init>", "([C)V"⟩ : MethodName) (head1 (Jvm.Cond.code (⟨"java/lang/String", "<init>", "([C)V"⟩ : MethodName) jdk_42_method_3_code 2 none :: ws) ({ frames := 5, cells := 2, slots := 3, locals := 74 } : Room)) (fun aa U => aa = #[(.ref x), (.ref a)] ∧ Z.Warmed39 U.vm ∧ U.heap = h0) (fun _ _ _ _ _ => True) (fun _ U o U' => ∃ v L, o = .returned v ∧ Q_str1 Z x c0 h0 n0 v U'.heap L ∧ FrameEnd U o U' L ({ frames := 5, cells := 2, slots := 3, locals := 74 } : Room).cells ({ frames := 5, cells := 2, slots := 3, locals := 74 } : Room).slots) := by
  refine MetFree.of_bodySF (plainFor_of_name pn_str1) hisR ?_
  intro p e s m args below meth c s₁ Bd hml0 hP hK
  obtain ⟨rfl, hZ, hh⟩ := hP
  have hx := Bd.exec
  have hby := Bd.bytes
  have hml : c.maxLocals = 2 := hml0
  have hown : s.vm.findClass "java/lang/String" = some m.cls := findClass_of_methodNamed Bd.named
  have hnm := (name_of_methodNamed Bd.named Bd.method).1
  have X0 : Stand p l e ({ frames := 5, cells := 2, slots := 3, locals := 74 } : Room) s m #[(.ref x), (.ref a)] below meth c s₁ [] 0 0 := Stand.of_body Bd
  have e0 : s₁.heap = h0 := by rw [← hh, Bd.state]; rfl
  have N0 := Fr.nil n0
  have S0 : Go p e below s₁ (eF_str1 m x a) s₁ (mkF m 0 #[vR x, vR a] []) := fun t k => castTop (ef_str1 m x a) k
  obtain ⟨⟨cz, S_cs, hcz⟩, ⟨fm, S_fm, hfm⟩, S_ad, S_hi, S_lo⟩ := id SS
  have S189 : Go p e below s₁ (eF_str1 m x a) s₁ (mkF m 4 #[vR x, vR a] [(.ref a), (.int (0 : Int32)), (.ref a), (.ref x)]) := fun t kt => S0 t (by
    refine XS.aloadN X0.here hx rfl (hb hby d1_0) rfl rfl ?_
    show Sp p e below s₁ (mkF m 1 #[vR x, vR a] [(.ref x)]) _
    refine XS.aloadN X0.here hx rfl (hb hby d1_1) rfl rfl ?_
    show Sp p e below s₁ (mkF m 2 #[vR x, vR a] [(.ref a), (.ref x)]) _
    refine XS.iconst X0.here hx rfl (hb hby d1_2) ?_
    show Sp p e below s₁ (mkF m 3 #[vR x, vR a] [(.int (0 : Int32)), (.ref a), (.ref x)]) _
    refine XS.aloadN X0.here hx rfl (hb hby d1_3) rfl rfl ?_
    show Sp p e below s₁ (mkF m 4 #[vR x, vR a] [(.ref a), (.int (0 : Int32)), (.ref a), (.ref x)]) _
    exact kt)
  clear S0
  obtain ⟨co190, Ao190, qo190, So190, No190, Ho190, Go190⟩ := id Va
  have S191 : Go p e below s₁ (eF_str1 m x a) s₁ (mkF m 6 #[vR x, vR a] [.null, (.int (1 : Int32)), (.int (0 : Int32)), (.ref a), (.ref x)]) := fun t kt => S189 t (by
    refine X0.arraylength hx (by rw [e0]; exact Ao190.1) (State.isArrayOf_alike hZ.alike Ao190.2.1) (g := (mkF m 4 #[vR x, vR a] [(.ref a), (.int (0 : Int32)), (.ref a), (.ref x)])) rfl rfl (hb hby d1_4) _ ?_
    rw [len_of So190 No190]
    show Sp p e below s₁ (mkF m 5 #[vR x, vR a] [(.int (1 : Int32)), (.int (0 : Int32)), (.ref a), (.ref x)]) _
    refine XS.aconstNull X0.here hx rfl (hb hby d1_5) ?_
    show Sp p e below s₁ (mkF m 6 #[vR x, vR a] [.null, (.int (1 : Int32)), (.int (0 : Int32)), (.ref a), (.ref x)]) _
    exact kt)
  clear S189
  obtain ⟨v192, T192, L192, X192, hQ192, st192⟩ := own_outV (X0.specialBack hx (y := (⟨"java/lang/String", "<init>", "([CIILjava/lang/Void;)V"⟩ : MethodName)) rfl hown (mvT hZ (own_h hw 8 rfl)) (mvT hZ (own_h hw 9 rfl)) (mvT hZ (own_h hw 11 rfl)) (by decide) (backOf (W := 0) (rm_ini1 l Z a0 hw [] x a ka c0 h0 n0 Z0 SS O0 Va hc0 E0 F1 F2 hxa g_x) hZ (own_h hw 11 rfl) (own_h hw 4 rfl) (by decide) (by decide)) (g := (mkF m 6 #[vR x, vR a] [.null, (.int (1 : Int32)), (.int (0 : Int32)), (.ref a), (.ref x)])) rfl (by rw [hml]; rfl) (Steps.refl _) (a := x) (argsL := [(.ref a), (.int (0 : Int32)), (.int (1 : Int32)), .null]) (rest := []) (lenOf pd___CIILjava_lang_Void__V rfl) rfl (by show 2 * 0 + _ ≤ _; exact Nat.le_of_eq rfl) (hb hby d1_6) (fun _ _ => ⟨rfl, e0, (by decide : 0 + 2 ≤ _), (by decide : 0 + 3 ≤ _)⟩))
  obtain ⟨rfl, N192q, K192, hrest⟩ := hQ192
  have N192 := Fr.app N0 N192q
  have KK192 : Keep h0 T192.heap [x] := (Keep.refl h0 [x]).trans K192 (allS (Or.inl (by simp)) all0)
  have S193 : Go p e below s₁ (eF_str1 m x a) T192 (mkF m 9 #[vR x, vR a] []) := fun t kt => S191 t (st192 t kt)
  clear S191 st192 X0 e0
  obtain ⟨fs, hr, hrun, hended, hW, hsame⟩ := X192.leave (v := none) (fun h => by first | rfl | (rw [Bd.returns] at h; cases h))
  refine ⟨_, _, S193 _ ?_, hrun, hended, _, _, rfl, ?_, ⟨_, rfl⟩, hW, hsame.mono (by decide) (by decide)⟩
  · exact X192.returnOut hx Bd.returns (hb hby d1_9) hr
  · show Q_str1 Z x c0 h0 n0 _ T192.heap _
    exact ⟨rfl, N192, KK192, hrest⟩
abbrev eF_nbl2 (m : MethodId) (x0 : Int32) : JFrame := entryFrame m #[(.int x0)] 1
theorem ef_nbl2 (m : MethodId) (x0 : Int32) : entryFrame m #[(.int x0)] 1 = mkF m 0 #[.val (.int x0)] [] := by first | (simp [entryFrame, mkF, argsToLocals, Value.category]; done) | rfl
theorem pn_nbl2 : plainName "java/lang/StringUTF16" = true := by first | (simp [plainName, overriddenIn]; done) | decide +kernel
def Q_nbl2 (Z : State)  (h0 : Heap) (n0 : Nat) (v : Option Value) (h : Heap) (L : List Loc) : Prop := v = some (.int (4 : Int32)) ∧ Fr n0 L ∧ h = h0
set_option maxRecDepth 65536 in
set_option maxHeartbeats 40000000 in
theorem rm_nbl2 (l : Launch) (Z : State) (a0 : Array Value) (hw : ∀ d ∈ tables_1, d.before a0 Z = true) (ws : List Jvm.Cond)  (h0 : Heap) (n0 : Nat) (Z0 : n0 ≤ h0.size)  :
    MetFree l (⟨"java/lang/StringUTF16", "newBytesLength", "(I)I"⟩ : MethodName) (head1 (Jvm.Cond.code (⟨"java/lang/StringUTF16", "newBytesLength", "(I)I"⟩ : MethodName) jdk_52_method_3_code 1 (some .int) :: ws) ({ frames := 0, cells := 0, slots := 0, locals := 0 } : Room)) (fun aa U => aa = #[(.int (2 : Int32))] ∧ Z.Warmed39 U.vm ∧ U.heap = h0) (fun _ _ _ _ _ => True) (fun _ U o U' => ∃ v L, o = .returned v ∧ Q_nbl2 Z  h0 n0 v U'.heap L ∧ FrameEnd U o U' L ({ frames := 0, cells := 0, slots := 0, locals := 0 } : Room).cells ({ frames := 0, cells := 0, slots := 0, locals := 0 } : Room).slots) := by
  refine MetFree.of_bodySF (plainFor_of_name pn_nbl2) hisR ?_
  intro p e s m args below meth c s₁ Bd hml0 hP hK
  obtain ⟨rfl, hZ, hh⟩ := hP
  have hx := Bd.exec
  have hby := Bd.bytes
  have hml : c.maxLocals = 1 := hml0
  have hown : s.vm.findClass "java/lang/StringUTF16" = some m.cls := findClass_of_methodNamed Bd.named
  have hnm := (name_of_methodNamed Bd.named Bd.method).1
  have X0 : Stand p l e ({ frames := 0, cells := 0, slots := 0, locals := 0 } : Room) s m #[(.int (2 : Int32))] below meth c s₁ [] 0 0 := Stand.of_body Bd
  have e0 : s₁.heap = h0 := by rw [← hh, Bd.state]; rfl
  have N0 := Fr.nil n0
  have S0 : Go p e below s₁ (eF_nbl2 m (2 : Int32)) s₁ (mkF m 0 #[vI (2 : Int32)] []) := fun t k => castTop (ef_nbl2 m (2 : Int32)) k
  have S194 : Go p e below s₁ (eF_nbl2 m (2 : Int32)) s₁ (mkF m 58 #[vI (2 : Int32)] [(.int ((2 : Int32) <<< ((1 : Int32) &&& 31)))]) := fun t kt => S0 t (by
    refine XS.iloadN X0.here hx rfl (hb hby d22_0) rfl ?_
    show Sp p e below s₁ (mkF m 1 #[vI (2 : Int32)] [(.int (2 : Int32))]) _
    refine XS.ifYes X0.here hx rfl (pc0 := 1) (pc' := 12) rfl (hb hby d22_1) rfl ((if0 _ _).trans (flt (show ¬ ((2 : Int32) < (0 : Int32)) from (by decide))).2.1) (by decide) (by decide) ?_
    show Sp p e below s₁ (mkF m 12 #[vI (2 : Int32)] []) _
    refine XS.iloadN X0.here hx rfl (hb hby d22_12) rfl ?_
    show Sp p e below s₁ (mkF m 13 #[vI (2 : Int32)] [(.int (2 : Int32))]) _
    refine X0.ldcInt hx hown (mvT hZ (own_h hw 97 rfl)) (g := (mkF m 13 #[vI (2 : Int32)] [(.int (2 : Int32))])) rfl (hb hby d22_13) _ ?_
    show Sp p e below s₁ (mkF m 15 #[vI (2 : Int32)] [(.int (1073741823 : Int32)), (.int (2 : Int32))]) _
    refine XS.icmpYes X0.here hx rfl (pc0 := 15) (pc' := 55) rfl (hb hby d22_15) rfl (tlt (show (2 : Int32) < (1073741823 : Int32) from (by decide))).1 (by decide) (by decide) ?_
    show Sp p e below s₁ (mkF m 55 #[vI (2 : Int32)] []) _
    refine XS.iloadN X0.here hx rfl (hb hby d22_55) rfl ?_
    show Sp p e below s₁ (mkF m 56 #[vI (2 : Int32)] [(.int (2 : Int32))]) _
    refine XS.iconst X0.here hx rfl (hb hby d22_56) ?_
    show Sp p e below s₁ (mkF m 57 #[vI (2 : Int32)] [(.int (1 : Int32)), (.int (2 : Int32))]) _
    refine XS.ishl X0.here hx rfl (hb hby d22_57) rfl ?_
    show Sp p e below s₁ (mkF m 58 #[vI (2 : Int32)] [(.int ((2 : Int32) <<< ((1 : Int32) &&& 31)))]) _
    exact kt)
  clear S0
  have q196 : ((2 : Int32) <<< ((1 : Int32) &&& 31)) = (4 : Int32) := by decide
  have S195 : Go p e below s₁ (eF_nbl2 m (2 : Int32)) s₁ (mkF m 58 #[vI (2 : Int32)] [(.int (4 : Int32))]) := by have h := S194; rw [q196] at h; exact h
  clear S194
  obtain ⟨fs, hr, hrun, hended, hW, hsame⟩ := X0.leave (v := some (.int (4 : Int32))) (fun h => by first | rfl | (rw [Bd.returns] at h; cases h))
  refine ⟨_, _, S195 _ ?_, hrun, hended, _, _, rfl, ?_, ⟨_, rfl⟩, hW, hsame.mono (by decide) (by decide)⟩
  · exact retI X0 hx Bd.returns (hb hby d22_58) hr
  · show Q_nbl2 Z  h0 n0 _ s₁.heap _
    rw [e0]
    exact ⟨rfl, N0, rfl⟩
abbrev eF_nbf2 (m : MethodId) (x0 : Int32) : JFrame := entryFrame m #[(.int x0)] 1
theorem ef_nbf2 (m : MethodId) (x0 : Int32) : entryFrame m #[(.int x0)] 1 = mkF m 0 #[.val (.int x0)] [] := by first | (simp [entryFrame, mkF, argsToLocals, Value.category]; done) | rfl
theorem pn_nbf2 : plainName "java/lang/StringUTF16" = true := by first | (simp [plainName, overriddenIn]; done) | decide +kernel
def Q_nbf2 (Z : State)  (h0 : Heap) (n0 : Nat) (v : Option Value) (h : Heap) (L : List Loc) : Prop := ∃ t kb, v = some (.ref t) ∧ Fr n0 L ∧ Keep h0 h [] ∧ h0.size ≤ t ∧ Arv Z h t kb .byte (4 : Int32) [(.int (0 : Int32)), (.int (0 : Int32)), (.int (0 : Int32)), (.int (0 : Int32))] (.int (0 : Int32))
set_option maxRecDepth 65536 in
set_option maxHeartbeats 40000000 in
theorem rm_nbf2 (l : Launch) (Z : State) (a0 : Array Value) (hw : ∀ d ∈ tables_1, d.before a0 Z = true) (ws : List Jvm.Cond)  (h0 : Heap) (n0 : Nat) (Z0 : n0 ≤ h0.size)  :
    MetFree l (⟨"java/lang/StringUTF16", "newBytesFor", "(I)[B"⟩ : MethodName) (head1 (Jvm.Cond.code (⟨"java/lang/StringUTF16", "newBytesFor", "(I)[B"⟩ : MethodName) jdk_52_method_2_code 1 (some (.array .byte)) :: ws) ({ frames := 1, cells := 1, slots := 4, locals := 12 } : Room)) (fun aa U => aa = #[(.int (2 : Int32))] ∧ Z.Warmed39 U.vm ∧ U.heap = h0) (fun _ _ _ _ _ => True) (fun _ U o U' => ∃ v L, o = .returned v ∧ Q_nbf2 Z  h0 n0 v U'.heap L ∧ FrameEnd U o U' L ({ frames := 1, cells := 1, slots := 4, locals := 12 } : Room).cells ({ frames := 1, cells := 1, slots := 4, locals := 12 } : Room).slots) := by
  refine MetFree.of_bodySF (plainFor_of_name pn_nbf2) hisR ?_
  intro p e s m args below meth c s₁ Bd hml0 hP hK
  obtain ⟨rfl, hZ, hh⟩ := hP
  have hx := Bd.exec
  have hby := Bd.bytes
  have hml : c.maxLocals = 1 := hml0
  have hown : s.vm.findClass "java/lang/StringUTF16" = some m.cls := findClass_of_methodNamed Bd.named
  have hnm := (name_of_methodNamed Bd.named Bd.method).1
  have X0 : Stand p l e ({ frames := 1, cells := 1, slots := 4, locals := 12 } : Room) s m #[(.int (2 : Int32))] below meth c s₁ [] 0 0 := Stand.of_body Bd
  have e0 : s₁.heap = h0 := by rw [← hh, Bd.state]; rfl
  have N0 := Fr.nil n0
  have S0 : Go p e below s₁ (eF_nbf2 m (2 : Int32)) s₁ (mkF m 0 #[vI (2 : Int32)] []) := fun t k => castTop (ef_nbf2 m (2 : Int32)) k
  have S197 : Go p e below s₁ (eF_nbf2 m (2 : Int32)) s₁ (mkF m 1 #[vI (2 : Int32)] [(.int (2 : Int32))]) := fun t kt => S0 t (by
    refine XS.iloadN X0.here hx rfl (hb hby d21_0) rfl ?_
    show Sp p e below s₁ (mkF m 1 #[vI (2 : Int32)] [(.int (2 : Int32))]) _
    exact kt)
  clear S0
  obtain ⟨v198, T198, L198, X198, hQ198, st198⟩ := own_outS (Jvm.LawKit.callS X0 hx (y := (⟨"java/lang/StringUTF16", "newBytesLength", "(I)I"⟩ : MethodName)) hown (mvT hZ (own_h hw 94 rfl)) (mvT hZ (own_h hw 95 rfl)) (mvT hZ (own_h hw 18 rfl)) (mvT hZ (own_h hw 96 rfl)) (by decide) (backOf (W := 0) (rm_nbl2 l Z a0 hw [] h0 n0 Z0) hZ (own_h hw 96 rfl) (own_h hw 18 rfl) (by decide) (by decide)) (g := (mkF m 1 #[vI (2 : Int32)] [(.int (2 : Int32))])) rfl (by rw [hml]; rfl) (argsL := [(.int (2 : Int32))]) (rest := []) (lenOf pd__I_I rfl) rfl (by show 2 * 0 + _ ≤ _; exact Nat.le_of_eq rfl) (hb hby d21_1) (fun _ _ => ⟨rfl, e0, (by decide : 0 + 0 ≤ _), (by decide : 0 + 0 ≤ _)⟩))
  obtain ⟨rfl, N198q, e198⟩ := hQ198
  have N198 := Fr.app N0 N198q
  have S199 : Go p e below s₁ (eF_nbf2 m (2 : Int32)) T198 (mkF m 4 #[vI (2 : Int32)] [(.int (4 : Int32))]) := fun t kt => S197 t (st198 t kt)
  clear S197 st198 X0 e0
  obtain ⟨T200, h200, k200, X200, e200, E200, A200, st200⟩ := newP X198 hx hZ (own_h hw 20 rfl) e198 (g := (mkF m 4 #[vI (2 : Int32)] [(.int (4 : Int32))])) rfl (hb hby d21_4) rfl (by decide) (cap := 4) (by decide) (by decide) (by decide) (by decide)
  obtain ⟨t1, g200⟩ : ∃ z, z = h0.size := ⟨_, rfl⟩
  rw [← g200] at A200 st200
  have g_t1 : n0 ≤ t1 := Nat.le_trans Z0 (Nat.le_of_eq g200.symm)
  have sz_t1 : h0.size ≤ t1 := Nat.le_trans (Keep.refl h0 []).1 (Nat.le_of_eq g200.symm)
  have K200 : Keep h0 h200 [] := (Keep.refl h0 []).ext E200
  have V200 : Arv Z h200 t1 k200 .byte (4 : Int32) [(.int (0 : Int32)), (.int (0 : Int32)), (.int (0 : Int32)), (.int (0 : Int32))] (.int (0 : Int32)) := (Arv.new A200 (by decide)).pad (pad_rep [] _ 4)
  have S201 : Go p e below s₁ (eF_nbf2 m (2 : Int32)) T200 (mkF m 6 #[vI (2 : Int32)] [(.ref t1)]) := fun t kt => S199 t (st200 t kt)
  clear S199 st200 X198 e198
  obtain ⟨fs, hr, hrun, hended, hW, hsame⟩ := X200.leave (v := some (.ref t1)) (fun h => by first | rfl | (rw [Bd.returns] at h; cases h))
  refine ⟨_, _, S201 _ ?_, hrun, hended, _, _, rfl, ?_, ⟨_, rfl⟩, hW, hsame.mono (by decide) (by decide)⟩
  · exact retOut X200 hx Bd.returns rfl (Or.inr (Or.inr (Or.inr (Or.inr ⟨rfl, rfl, rfl⟩)))) (hb hby d21_6) hr
  · show Q_nbf2 Z  h0 n0 _ T200.heap _
    rw [e200]
    exact ⟨t1, _, rfl, N198, K200, sz_t1, V200⟩
abbrev eF_tob2 (m : MethodId) (x0 : Addr) (x1 : Int32) (x2 : Int32) : JFrame := entryFrame m #[(.ref x0), (.int x1), (.int x2)] 5
theorem ef_tob2 (m : MethodId) (x0 : Addr) (x1 : Int32) (x2 : Int32) : entryFrame m #[(.ref x0), (.int x1), (.int x2)] 5 = mkF m 0 #[.val (.ref x0), .val (.int x1), .val (.int x2), .unset, .unset] [] := by first | (simp [entryFrame, mkF, argsToLocals, Value.category]; done) | rfl
theorem pn_tob2 : plainName "java/lang/StringUTF16" = true := by first | (simp [plainName, overriddenIn]; done) | decide +kernel
def Q_tob2 (Z : State) (c0 : Int32) (c1 : Int32) (h0 : Heap) (n0 : Nat) (v : Option Value) (h : Heap) (L : List Loc) : Prop := ∃ t kb, v = some (.ref t) ∧ Fr n0 L ∧ Keep h0 h [] ∧ h0.size ≤ t ∧ Arv Z h t kb .byte (4 : Int32) [(.int (StrChars.lo8 c0)), (.int (StrChars.hi8 c0)), (.int (StrChars.lo8 c1)), (.int (StrChars.hi8 c1))] (.int (0 : Int32))
set_option maxRecDepth 65536 in
set_option maxHeartbeats 40000000 in
theorem rm_tob2 (l : Launch) (Z : State) (a0 : Array Value) (hw : ∀ d ∈ tables_1, d.before a0 Z = true) (ws : List Jvm.Cond) (a : Addr) (ka : ClassId) (c0 : Int32) (c1 : Int32) (h0 : Heap) (n0 : Nat) (Z0 : n0 ≤ h0.size) (SS : own_St Z) (O0 : Old Z n0 h0)(Va : Arv Z h0 a ka .char (2 : Int32) [(.int c0), (.int c1)] (.int (0 : Int32))) :
    MetFree l (⟨"java/lang/StringUTF16", "toBytes", "([CII)[B"⟩ : MethodName) (head1 (Jvm.Cond.code (⟨"java/lang/StringUTF16", "toBytes", "([CII)[B"⟩ : MethodName) jdk_52_method_14_code 5 (some (.array .byte)) :: ws) ({ frames := 2, cells := 1, slots := 4, locals := 24 } : Room)) (fun aa U => aa = #[(.ref a), (.int (0 : Int32)), (.int (2 : Int32))] ∧ Z.Warmed39 U.vm ∧ U.heap = h0) (fun _ _ _ _ _ => True) (fun _ U o U' => ∃ v L, o = .returned v ∧ Q_tob2 Z c0 c1 h0 n0 v U'.heap L ∧ FrameEnd U o U' L ({ frames := 2, cells := 1, slots := 4, locals := 24 } : Room).cells ({ frames := 2, cells := 1, slots := 4, locals := 24 } : Room).slots) := by
  refine MetFree.of_bodySF (plainFor_of_name pn_tob2) hisR ?_
  intro p e s m args below meth c s₁ Bd hml0 hP hK
  obtain ⟨rfl, hZ, hh⟩ := hP
  have hx := Bd.exec
  have hby := Bd.bytes
  have hml : c.maxLocals = 5 := hml0
  have hown : s.vm.findClass "java/lang/StringUTF16" = some m.cls := findClass_of_methodNamed Bd.named
  have hnm := (name_of_methodNamed Bd.named Bd.method).1
  have X0 : Stand p l e ({ frames := 2, cells := 1, slots := 4, locals := 24 } : Room) s m #[(.ref a), (.int (0 : Int32)), (.int (2 : Int32))] below meth c s₁ [] 0 0 := Stand.of_body Bd
  have e0 : s₁.heap = h0 := by rw [← hh, Bd.state]; rfl
  have N0 := Fr.nil n0
  have S0 : Go p e below s₁ (eF_tob2 m a (0 : Int32) (2 : Int32)) s₁ (mkF m 0 #[vR a, vI (0 : Int32), vI (2 : Int32), vU, vU] []) := fun t k => castTop (ef_tob2 m a (0 : Int32) (2 : Int32)) k
  obtain ⟨⟨cz, S_cs, hcz⟩, ⟨fm, S_fm, hfm⟩, S_ad, S_hi, S_lo⟩ := id SS
  have S202 : Go p e below s₁ (eF_tob2 m a (0 : Int32) (2 : Int32)) s₁ (mkF m 1 #[vR a, vI (0 : Int32), vI (2 : Int32), vU, vU] [(.int (2 : Int32))]) := fun t kt => S0 t (by
    refine XS.iloadN X0.here hx rfl (hb hby d20_0) rfl ?_
    show Sp p e below s₁ (mkF m 1 #[vR a, vI (0 : Int32), vI (2 : Int32), vU, vU] [(.int (2 : Int32))]) _
    exact kt)
  clear S0
  obtain ⟨v203, T203, L203, X203, hQ203, st203⟩ := own_outS (Jvm.LawKit.callS X0 hx (y := (⟨"java/lang/StringUTF16", "newBytesFor", "(I)[B"⟩ : MethodName)) hown (mvT hZ (own_h hw 91 rfl)) (mvT hZ (own_h hw 92 rfl)) (mvT hZ (own_h hw 18 rfl)) (mvT hZ (own_h hw 93 rfl)) (by decide) (backOf (W := 0) (rm_nbf2 l Z a0 hw [] h0 n0 Z0) hZ (own_h hw 93 rfl) (own_h hw 18 rfl) (by decide) (by decide)) (g := (mkF m 1 #[vR a, vI (0 : Int32), vI (2 : Int32), vU, vU] [(.int (2 : Int32))])) rfl (by rw [hml]; rfl) (argsL := [(.int (2 : Int32))]) (rest := []) (lenOf pd__I__B rfl) rfl (by show 2 * 0 + _ ≤ _; exact Nat.le_of_eq rfl) (hb hby d20_1) (fun _ _ => ⟨rfl, e0, (by decide : 0 + 1 ≤ _), (by decide : 0 + 4 ≤ _)⟩))
  obtain ⟨t1, kb203, rfl, N203q, K203, sz203, V203⟩ := hQ203
  have N203 := Fr.app N0 N203q
  have KK203 : Keep h0 T203.heap [] := (Keep.refl h0 []).trans K203 all0
  have sz_t1 : h0.size ≤ t1 := Nat.le_trans (Keep.refl h0 []).1 sz203
  have g_t1 : n0 ≤ t1 := Nat.le_trans Z0 sz203
  have S204 : Go p e below s₁ (eF_tob2 m a (0 : Int32) (2 : Int32)) T203 (mkF m 4 #[vR a, vI (0 : Int32), vI (2 : Int32), vU, vU] [(.ref t1)]) := fun t kt => S202 t (st203 t kt)
  clear S202 st203 X0 e0
  have S205 : Go p e below s₁ (eF_tob2 m a (0 : Int32) (2 : Int32)) T203 (mkF m 19 #[vR a, vI (0 : Int32), vI (2 : Int32), vR t1, vI (0 : Int32)] [(.int (0 : Int32)), (.ref a), (.int (0 : Int32)), (.ref t1)]) := fun t kt => S204 t (by
    refine XS.astoreN X203.here hx rfl (hb hby d20_4) rfl rfl (l' := #[vR a, vI (0 : Int32), vI (2 : Int32), vR t1, vU]) rfl ?_
    show Sp p e below T203 (mkF m 5 #[vR a, vI (0 : Int32), vI (2 : Int32), vR t1, vU] []) _
    refine XS.iconst X203.here hx rfl (hb hby d20_5) ?_
    show Sp p e below T203 (mkF m 6 #[vR a, vI (0 : Int32), vI (2 : Int32), vR t1, vU] [(.int (0 : Int32))]) _
    refine XS.istore X203.here hx rfl (hb hby d20_6) rfl (l' := #[vR a, vI (0 : Int32), vI (2 : Int32), vR t1, vI (0 : Int32)]) rfl ?_
    show Sp p e below T203 (mkF m 8 #[vR a, vI (0 : Int32), vI (2 : Int32), vR t1, vI (0 : Int32)] []) _
    refine XS.iload X203.here hx rfl (hb hby d20_8) rfl ?_
    show Sp p e below T203 (mkF m 10 #[vR a, vI (0 : Int32), vI (2 : Int32), vR t1, vI (0 : Int32)] [(.int (0 : Int32))]) _
    refine XS.iloadN X203.here hx rfl (hb hby d20_10) rfl ?_
    show Sp p e below T203 (mkF m 11 #[vR a, vI (0 : Int32), vI (2 : Int32), vR t1, vI (0 : Int32)] [(.int (2 : Int32)), (.int (0 : Int32))]) _
    refine XS.icmpNo X203.here hx rfl (hb hby d20_11) rfl (tlt (show (0 : Int32) < (2 : Int32) from (by decide))).2.1 ?_
    show Sp p e below T203 (mkF m 14 #[vR a, vI (0 : Int32), vI (2 : Int32), vR t1, vI (0 : Int32)] []) _
    refine XS.aloadN X203.here hx rfl (hb hby d20_14) rfl rfl ?_
    show Sp p e below T203 (mkF m 15 #[vR a, vI (0 : Int32), vI (2 : Int32), vR t1, vI (0 : Int32)] [(.ref t1)]) _
    refine XS.iload X203.here hx rfl (hb hby d20_15) rfl ?_
    show Sp p e below T203 (mkF m 17 #[vR a, vI (0 : Int32), vI (2 : Int32), vR t1, vI (0 : Int32)] [(.int (0 : Int32)), (.ref t1)]) _
    refine XS.aloadN X203.here hx rfl (hb hby d20_17) rfl rfl ?_
    show Sp p e below T203 (mkF m 18 #[vR a, vI (0 : Int32), vI (2 : Int32), vR t1, vI (0 : Int32)] [(.ref a), (.int (0 : Int32)), (.ref t1)]) _
    refine XS.iloadN X203.here hx rfl (hb hby d20_18) rfl ?_
    show Sp p e below T203 (mkF m 19 #[vR a, vI (0 : Int32), vI (2 : Int32), vR t1, vI (0 : Int32)] [(.int (0 : Int32)), (.ref a), (.int (0 : Int32)), (.ref t1)]) _
    exact kt)
  clear S204
  have f206 := (Va.keep K203 nin0)
  obtain ⟨co207, Ao207, qo207, So207, No207, Ho207, Go207⟩ := id f206
  have hino207 : ¬ ((0 : Int32) < 0 ∨ co207.slots.size ≤ ((0 : Int32)).toNatClampNeg) := inb_of So207 ⟨by decide, by decide⟩
  have hato207 : co207.slots[((0 : Int32)).toNatClampNeg]? = some (.int c0) := Has.at Ho207 hino207 rfl
  have S208 : Go p e below s₁ (eF_tob2 m a (0 : Int32) (2 : Int32)) T203 (mkF m 20 #[vR a, vI (0 : Int32), vI (2 : Int32), vR t1, vI (0 : Int32)] [(.int c0), (.int (0 : Int32)), (.ref t1)]) := fun t kt => S205 t (by
    refine X203.caload hx (j := (0 : Int32)) (v := (.int c0)) Ao207.1 (State.isArrayOf_alike hZ.alike Ao207.2.1) Ao207.2.2 hino207 hato207 (g := (mkF m 19 #[vR a, vI (0 : Int32), vI (2 : Int32), vR t1, vI (0 : Int32)] [(.int (0 : Int32)), (.ref a), (.int (0 : Int32)), (.ref t1)])) rfl rfl (hb hby d20_19) _ ?_
    show Sp p e below T203 (mkF m 20 #[vR a, vI (0 : Int32), vI (2 : Int32), vR t1, vI (0 : Int32)] [(.int c0), (.int (0 : Int32)), (.ref t1)]) _
    exact kt)
  clear S205
  have f209 := (O0.keep K203 all0)
  obtain ⟨v210, T210, L210, X210, hQ210, st210⟩ := own_outS (Jvm.LawKit.callS X203 hx (y := (⟨"java/lang/StringUTF16", "putChar", "([BII)V"⟩ : MethodName)) hown (mvT hZ (own_h hw 98 rfl)) (mvT hZ (own_h hw 99 rfl)) (mvT hZ (own_h hw 18 rfl)) (mvT hZ (own_h hw 100 rfl)) (by decide) (backOf (W := 0) (rm_pch l Z a0 hw [] t1 (0 : Int32) c0 kb203 (4 : Int32) [(.int (0 : Int32)), (.int (0 : Int32)), (.int (0 : Int32)), (.int (0 : Int32))] 0 T203.heap n0 (Nat.le_trans Z0 K203.1) SS f209 V203 (by decide) (by decide) (by decide) (by decide) (Nat.le_of_ble_eq_true rfl) g_t1) hZ (own_h hw 100 rfl) (own_h hw 18 rfl) (by decide) (by decide)) (g := (mkF m 20 #[vR a, vI (0 : Int32), vI (2 : Int32), vR t1, vI (0 : Int32)] [(.int c0), (.int (0 : Int32)), (.ref t1)])) rfl (by rw [hml]; rfl) (argsL := [(.ref t1), (.int (0 : Int32)), (.int c0)]) (rest := []) (lenOf pd___BII_V rfl) rfl (by show 2 * 0 + _ ≤ _; exact Nat.le_of_eq rfl) (hb hby d20_20) (fun _ _ => ⟨rfl, rfl, (by decide : 1 + 0 ≤ _), (by decide : 4 + 0 ≤ _)⟩))
  obtain ⟨rfl, N210q, K210, V210⟩ := hQ210
  have N210 := Fr.app N203 N210q
  have KK210 : Keep h0 T210.heap [] := KK203.trans K210 (allS (Or.inr sz_t1) all0)
  have S211 : Go p e below s₁ (eF_tob2 m a (0 : Int32) (2 : Int32)) T210 (mkF m 23 #[vR a, vI (0 : Int32), vI (2 : Int32), vR t1, vI (0 : Int32)] []) := fun t kt => S208 t (st210 t kt)
  clear S208 st210 X203
  have S212 : Go p e below s₁ (eF_tob2 m a (0 : Int32) (2 : Int32)) T210 (mkF m 11 #[vR a, vI ((0 : Int32) + (1 : Int32)), vI (2 : Int32), vR t1, vI ((0 : Int32) + (1 : Int32))] [(.int (2 : Int32)), (.int ((0 : Int32) + (1 : Int32)))]) := fun t kt => S211 t (by
    refine XS.iinc X210.here hx rfl (hb hby d20_23) rfl (l' := #[vR a, vI ((0 : Int32) + (1 : Int32)), vI (2 : Int32), vR t1, vI (0 : Int32)]) rfl ?_
    show Sp p e below T210 (mkF m 26 #[vR a, vI ((0 : Int32) + (1 : Int32)), vI (2 : Int32), vR t1, vI (0 : Int32)] []) _
    refine XS.iinc X210.here hx rfl (hb hby d20_26) rfl (l' := #[vR a, vI ((0 : Int32) + (1 : Int32)), vI (2 : Int32), vR t1, vI ((0 : Int32) + (1 : Int32))]) rfl ?_
    show Sp p e below T210 (mkF m 29 #[vR a, vI ((0 : Int32) + (1 : Int32)), vI (2 : Int32), vR t1, vI ((0 : Int32) + (1 : Int32))] []) _
    refine XS.goto X210.here hx rfl (pc0 := 29) (pc' := 8) rfl (hb hby d20_29) (by decide) (by decide) ?_
    show Sp p e below T210 (mkF m 8 #[vR a, vI ((0 : Int32) + (1 : Int32)), vI (2 : Int32), vR t1, vI ((0 : Int32) + (1 : Int32))] []) _
    refine XS.iload X210.here hx rfl (hb hby d20_8) rfl ?_
    show Sp p e below T210 (mkF m 10 #[vR a, vI ((0 : Int32) + (1 : Int32)), vI (2 : Int32), vR t1, vI ((0 : Int32) + (1 : Int32))] [(.int ((0 : Int32) + (1 : Int32)))]) _
    refine XS.iloadN X210.here hx rfl (hb hby d20_10) rfl ?_
    show Sp p e below T210 (mkF m 11 #[vR a, vI ((0 : Int32) + (1 : Int32)), vI (2 : Int32), vR t1, vI ((0 : Int32) + (1 : Int32))] [(.int (2 : Int32)), (.int ((0 : Int32) + (1 : Int32)))]) _
    exact kt)
  clear S211
  have q214 : ((0 : Int32) + (1 : Int32)) = (1 : Int32) := by decide
  have S213 : Go p e below s₁ (eF_tob2 m a (0 : Int32) (2 : Int32)) T210 (mkF m 11 #[vR a, vI (1 : Int32), vI (2 : Int32), vR t1, vI (1 : Int32)] [(.int (2 : Int32)), (.int (1 : Int32))]) := by have h := S212; rw [q214] at h; exact h
  clear S212
  have S215 : Go p e below s₁ (eF_tob2 m a (0 : Int32) (2 : Int32)) T210 (mkF m 19 #[vR a, vI (1 : Int32), vI (2 : Int32), vR t1, vI (1 : Int32)] [(.int (1 : Int32)), (.ref a), (.int (1 : Int32)), (.ref t1)]) := fun t kt => S213 t (by
    refine XS.icmpNo X210.here hx rfl (hb hby d20_11) rfl (tlt (show (1 : Int32) < (2 : Int32) from (by decide))).2.1 ?_
    show Sp p e below T210 (mkF m 14 #[vR a, vI (1 : Int32), vI (2 : Int32), vR t1, vI (1 : Int32)] []) _
    refine XS.aloadN X210.here hx rfl (hb hby d20_14) rfl rfl ?_
    show Sp p e below T210 (mkF m 15 #[vR a, vI (1 : Int32), vI (2 : Int32), vR t1, vI (1 : Int32)] [(.ref t1)]) _
    refine XS.iload X210.here hx rfl (hb hby d20_15) rfl ?_
    show Sp p e below T210 (mkF m 17 #[vR a, vI (1 : Int32), vI (2 : Int32), vR t1, vI (1 : Int32)] [(.int (1 : Int32)), (.ref t1)]) _
    refine XS.aloadN X210.here hx rfl (hb hby d20_17) rfl rfl ?_
    show Sp p e below T210 (mkF m 18 #[vR a, vI (1 : Int32), vI (2 : Int32), vR t1, vI (1 : Int32)] [(.ref a), (.int (1 : Int32)), (.ref t1)]) _
    refine XS.iloadN X210.here hx rfl (hb hby d20_18) rfl ?_
    show Sp p e below T210 (mkF m 19 #[vR a, vI (1 : Int32), vI (2 : Int32), vR t1, vI (1 : Int32)] [(.int (1 : Int32)), (.ref a), (.int (1 : Int32)), (.ref t1)]) _
    exact kt)
  clear S213
  have ne216 : a ≠ t1 := Nat.ne_of_lt (Nat.lt_of_lt_of_le (Va.lt) sz203)
  have f217 := (f206.keep K210 (ninS ne216 nin0))
  obtain ⟨co218, Ao218, qo218, So218, No218, Ho218, Go218⟩ := id f217
  have hino218 : ¬ ((1 : Int32) < 0 ∨ co218.slots.size ≤ ((1 : Int32)).toNatClampNeg) := inb_of So218 ⟨by decide, by decide⟩
  have hato218 : co218.slots[((1 : Int32)).toNatClampNeg]? = some (.int c1) := Has.at Ho218 hino218 rfl
  have S219 : Go p e below s₁ (eF_tob2 m a (0 : Int32) (2 : Int32)) T210 (mkF m 20 #[vR a, vI (1 : Int32), vI (2 : Int32), vR t1, vI (1 : Int32)] [(.int c1), (.int (1 : Int32)), (.ref t1)]) := fun t kt => S215 t (by
    refine X210.caload hx (j := (1 : Int32)) (v := (.int c1)) Ao218.1 (State.isArrayOf_alike hZ.alike Ao218.2.1) Ao218.2.2 hino218 hato218 (g := (mkF m 19 #[vR a, vI (1 : Int32), vI (2 : Int32), vR t1, vI (1 : Int32)] [(.int (1 : Int32)), (.ref a), (.int (1 : Int32)), (.ref t1)])) rfl rfl (hb hby d20_19) _ ?_
    show Sp p e below T210 (mkF m 20 #[vR a, vI (1 : Int32), vI (2 : Int32), vR t1, vI (1 : Int32)] [(.int c1), (.int (1 : Int32)), (.ref t1)]) _
    exact kt)
  clear S215
  have f220 := (f209.keep K210 (allS g_t1 all0))
  obtain ⟨v221, T221, L221, X221, hQ221, st221⟩ := own_outS (Jvm.LawKit.callS X210 hx (y := (⟨"java/lang/StringUTF16", "putChar", "([BII)V"⟩ : MethodName)) hown (mvT hZ (own_h hw 98 rfl)) (mvT hZ (own_h hw 99 rfl)) (mvT hZ (own_h hw 18 rfl)) (mvT hZ (own_h hw 100 rfl)) (by decide) (backOf (W := 0) (rm_pch l Z a0 hw [] t1 (1 : Int32) c1 kb203 (4 : Int32) [(.int (StrChars.lo8 c0)), (.int (StrChars.hi8 c0)), (.int (0 : Int32)), (.int (0 : Int32))] 2 T210.heap n0 (Nat.le_trans (Nat.le_trans Z0 K203.1) K210.1) SS f220 V210 (by decide) (by decide) (by decide) (by decide) (Nat.le_of_ble_eq_true rfl) g_t1) hZ (own_h hw 100 rfl) (own_h hw 18 rfl) (by decide) (by decide)) (g := (mkF m 20 #[vR a, vI (1 : Int32), vI (2 : Int32), vR t1, vI (1 : Int32)] [(.int c1), (.int (1 : Int32)), (.ref t1)])) rfl (by rw [hml]; rfl) (argsL := [(.ref t1), (.int (1 : Int32)), (.int c1)]) (rest := []) (lenOf pd___BII_V rfl) rfl (by show 2 * 0 + _ ≤ _; exact Nat.le_of_eq rfl) (hb hby d20_20) (fun _ _ => ⟨rfl, rfl, (by decide : 1 + 0 ≤ _), (by decide : 4 + 0 ≤ _)⟩))
  obtain ⟨rfl, N221q, K221, V221⟩ := hQ221
  have N221 := Fr.app N210 N221q
  have KK221 : Keep h0 T221.heap [] := KK210.trans K221 (allS (Or.inr sz_t1) all0)
  have S222 : Go p e below s₁ (eF_tob2 m a (0 : Int32) (2 : Int32)) T221 (mkF m 23 #[vR a, vI (1 : Int32), vI (2 : Int32), vR t1, vI (1 : Int32)] []) := fun t kt => S219 t (st221 t kt)
  clear S219 st221 X210
  have S223 : Go p e below s₁ (eF_tob2 m a (0 : Int32) (2 : Int32)) T221 (mkF m 11 #[vR a, vI ((1 : Int32) + (1 : Int32)), vI (2 : Int32), vR t1, vI ((1 : Int32) + (1 : Int32))] [(.int (2 : Int32)), (.int ((1 : Int32) + (1 : Int32)))]) := fun t kt => S222 t (by
    refine XS.iinc X221.here hx rfl (hb hby d20_23) rfl (l' := #[vR a, vI ((1 : Int32) + (1 : Int32)), vI (2 : Int32), vR t1, vI (1 : Int32)]) rfl ?_
    show Sp p e below T221 (mkF m 26 #[vR a, vI ((1 : Int32) + (1 : Int32)), vI (2 : Int32), vR t1, vI (1 : Int32)] []) _
    refine XS.iinc X221.here hx rfl (hb hby d20_26) rfl (l' := #[vR a, vI ((1 : Int32) + (1 : Int32)), vI (2 : Int32), vR t1, vI ((1 : Int32) + (1 : Int32))]) rfl ?_
    show Sp p e below T221 (mkF m 29 #[vR a, vI ((1 : Int32) + (1 : Int32)), vI (2 : Int32), vR t1, vI ((1 : Int32) + (1 : Int32))] []) _
    refine XS.goto X221.here hx rfl (pc0 := 29) (pc' := 8) rfl (hb hby d20_29) (by decide) (by decide) ?_
    show Sp p e below T221 (mkF m 8 #[vR a, vI ((1 : Int32) + (1 : Int32)), vI (2 : Int32), vR t1, vI ((1 : Int32) + (1 : Int32))] []) _
    refine XS.iload X221.here hx rfl (hb hby d20_8) rfl ?_
    show Sp p e below T221 (mkF m 10 #[vR a, vI ((1 : Int32) + (1 : Int32)), vI (2 : Int32), vR t1, vI ((1 : Int32) + (1 : Int32))] [(.int ((1 : Int32) + (1 : Int32)))]) _
    refine XS.iloadN X221.here hx rfl (hb hby d20_10) rfl ?_
    show Sp p e below T221 (mkF m 11 #[vR a, vI ((1 : Int32) + (1 : Int32)), vI (2 : Int32), vR t1, vI ((1 : Int32) + (1 : Int32))] [(.int (2 : Int32)), (.int ((1 : Int32) + (1 : Int32)))]) _
    exact kt)
  clear S222
  have q225 : ((1 : Int32) + (1 : Int32)) = (2 : Int32) := by decide
  have S224 : Go p e below s₁ (eF_tob2 m a (0 : Int32) (2 : Int32)) T221 (mkF m 11 #[vR a, vI (2 : Int32), vI (2 : Int32), vR t1, vI (2 : Int32)] [(.int (2 : Int32)), (.int (2 : Int32))]) := by have h := S223; rw [q225] at h; exact h
  clear S223
  have S226 : Go p e below s₁ (eF_tob2 m a (0 : Int32) (2 : Int32)) T221 (mkF m 33 #[vR a, vI (2 : Int32), vI (2 : Int32), vR t1, vI (2 : Int32)] [(.ref t1)]) := fun t kt => S224 t (by
    refine XS.icmpYes X221.here hx rfl (pc0 := 11) (pc' := 32) rfl (hb hby d20_11) rfl (flt (show ¬ ((2 : Int32) < (2 : Int32)) from (by decide))).2.1 (by decide) (by decide) ?_
    show Sp p e below T221 (mkF m 32 #[vR a, vI (2 : Int32), vI (2 : Int32), vR t1, vI (2 : Int32)] []) _
    refine XS.aloadN X221.here hx rfl (hb hby d20_32) rfl rfl ?_
    show Sp p e below T221 (mkF m 33 #[vR a, vI (2 : Int32), vI (2 : Int32), vR t1, vI (2 : Int32)] [(.ref t1)]) _
    exact kt)
  clear S224
  obtain ⟨fs, hr, hrun, hended, hW, hsame⟩ := X221.leave (v := some (.ref t1)) (fun h => by first | rfl | (rw [Bd.returns] at h; cases h))
  refine ⟨_, _, S226 _ ?_, hrun, hended, _, _, rfl, ?_, ⟨_, rfl⟩, hW, hsame.mono (by decide) (by decide)⟩
  · exact retOut X221 hx Bd.returns rfl (Or.inr (Or.inr (Or.inr (Or.inr ⟨rfl, rfl, rfl⟩)))) (hb hby d20_33) hr
  · show Q_tob2 Z c0 c1 h0 n0 _ T221.heap _
    exact ⟨t1, _, rfl, N221, KK221, sz_t1, V221⟩
abbrev eF_cmp2 (m : MethodId) (x0 : Addr) (x1 : Int32) (x2 : Addr) (x3 : Int32) (x4 : Int32) : JFrame := entryFrame m #[(.ref x0), (.int x1), (.ref x2), (.int x3), (.int x4)] 7
theorem ef_cmp2 (m : MethodId) (x0 : Addr) (x1 : Int32) (x2 : Addr) (x3 : Int32) (x4 : Int32) : entryFrame m #[(.ref x0), (.int x1), (.ref x2), (.int x3), (.int x4)] 7 = mkF m 0 #[.val (.ref x0), .val (.int x1), .val (.ref x2), .val (.int x3), .val (.int x4), .unset, .unset] [] := by first | (simp [entryFrame, mkF, argsToLocals, Value.category]; done) | rfl
theorem pn_cmp2 : plainName "java/lang/StringUTF16" = true := by first | (simp [plainName, overriddenIn]; done) | decide +kernel
def Q_cmp2 (Z : State) (b : Addr) (kb : ClassId) (c0 : Int32) (c1 : Int32) (h0 : Heap) (n0 : Nat) (v : Option Value) (h : Heap) (L : List Loc) : Prop := ∃ r : Int32, v = some (.int r) ∧ Fr n0 L ∧ Keep h0 h [b] ∧ ((r = (2 : Int32) ∧ (¬ (255 : Int32) < c0 ∧ ¬ (255 : Int32) < c1 ∧ True) ∧ Arv Z h b kb .byte (2 : Int32) [(.int (StrChars.lo8 c0)), (.int (StrChars.lo8 c1))] (.int (0 : Int32))) ∨ (r = (0 : Int32) ∧ (255 : Int32) < c0) ∨ (r = (1 : Int32) ∧ (255 : Int32) < c1))
set_option maxRecDepth 65536 in
set_option maxHeartbeats 40000000 in
theorem rm_cmp2 (l : Launch) (Z : State) (a0 : Array Value) (hw : ∀ d ∈ tables_1, d.before a0 Z = true) (ws : List Jvm.Cond) (a : Addr) (b : Addr) (ka : ClassId) (kb : ClassId) (c0 : Int32) (c1 : Int32) (h0 : Heap) (n0 : Nat) (Z0 : n0 ≤ h0.size) (Va : Arv Z h0 a ka .char (2 : Int32) [(.int c0), (.int c1)] (.int (0 : Int32))) (Vb : Arv Z h0 b kb .byte (2 : Int32) [(.int (0 : Int32)), (.int (0 : Int32))] (.int (0 : Int32))) (hab : a ≠ b) (g_b : n0 ≤ b) :
    MetFree l (⟨"java/lang/StringUTF16", "compress", "([CI[BII)I"⟩ : MethodName) (head1 (Jvm.Cond.code (⟨"java/lang/StringUTF16", "compress", "([CI[BII)I"⟩ : MethodName) jdk_52_method_21_code 7 (some .int) :: ws) ({ frames := 0, cells := 0, slots := 0, locals := 0 } : Room)) (fun aa U => aa = #[(.ref a), (.int (0 : Int32)), (.ref b), (.int (0 : Int32)), (.int (2 : Int32))] ∧ Z.Warmed39 U.vm ∧ U.heap = h0) (fun _ _ _ _ _ => True) (fun _ U o U' => ∃ v L, o = .returned v ∧ Q_cmp2 Z b kb c0 c1 h0 n0 v U'.heap L ∧ FrameEnd U o U' L ({ frames := 0, cells := 0, slots := 0, locals := 0 } : Room).cells ({ frames := 0, cells := 0, slots := 0, locals := 0 } : Room).slots) := by
  refine MetFree.of_bodySF (plainFor_of_name pn_cmp2) hisR ?_
  intro p e s m args below meth c s₁ Bd hml0 hP hK
  obtain ⟨rfl, hZ, hh⟩ := hP
  have hx := Bd.exec
  have hby := Bd.bytes
  have hml : c.maxLocals = 7 := hml0
  have hown : s.vm.findClass "java/lang/StringUTF16" = some m.cls := findClass_of_methodNamed Bd.named
  have hnm := (name_of_methodNamed Bd.named Bd.method).1
  have X0 : Stand p l e ({ frames := 0, cells := 0, slots := 0, locals := 0 } : Room) s m #[(.ref a), (.int (0 : Int32)), (.ref b), (.int (0 : Int32)), (.int (2 : Int32))] below meth c s₁ [] 0 0 := Stand.of_body Bd
  have e0 : s₁.heap = h0 := by rw [← hh, Bd.state]; rfl
  have N0 := Fr.nil n0
  have S0 : Go p e below s₁ (eF_cmp2 m a (0 : Int32) b (0 : Int32) (2 : Int32)) s₁ (mkF m 0 #[vR a, vI (0 : Int32), vR b, vI (0 : Int32), vI (2 : Int32), vU, vU] []) := fun t k => castTop (ef_cmp2 m a (0 : Int32) b (0 : Int32) (2 : Int32)) k
  have S227 : Go p e below s₁ (eF_cmp2 m a (0 : Int32) b (0 : Int32) (2 : Int32)) s₁ (mkF m 12 #[vR a, vI (0 : Int32), vR b, vI (0 : Int32), vI (2 : Int32), vI (0 : Int32), vU] [(.int (0 : Int32)), (.ref a)]) := fun t kt => S0 t (by
    refine XS.iconst X0.here hx rfl (hb hby d5_0) ?_
    show Sp p e below s₁ (mkF m 1 #[vR a, vI (0 : Int32), vR b, vI (0 : Int32), vI (2 : Int32), vU, vU] [(.int (0 : Int32))]) _
    refine XS.istore X0.here hx rfl (hb hby d5_1) rfl (l' := #[vR a, vI (0 : Int32), vR b, vI (0 : Int32), vI (2 : Int32), vI (0 : Int32), vU]) rfl ?_
    show Sp p e below s₁ (mkF m 3 #[vR a, vI (0 : Int32), vR b, vI (0 : Int32), vI (2 : Int32), vI (0 : Int32), vU] []) _
    refine XS.iload X0.here hx rfl (hb hby d5_3) rfl ?_
    show Sp p e below s₁ (mkF m 5 #[vR a, vI (0 : Int32), vR b, vI (0 : Int32), vI (2 : Int32), vI (0 : Int32), vU] [(.int (0 : Int32))]) _
    refine XS.iload X0.here hx rfl (hb hby d5_5) rfl ?_
    show Sp p e below s₁ (mkF m 7 #[vR a, vI (0 : Int32), vR b, vI (0 : Int32), vI (2 : Int32), vI (0 : Int32), vU] [(.int (2 : Int32)), (.int (0 : Int32))]) _
    refine XS.icmpNo X0.here hx rfl (hb hby d5_7) rfl (tlt (show (0 : Int32) < (2 : Int32) from (by decide))).2.1 ?_
    show Sp p e below s₁ (mkF m 10 #[vR a, vI (0 : Int32), vR b, vI (0 : Int32), vI (2 : Int32), vI (0 : Int32), vU] []) _
    refine XS.aloadN X0.here hx rfl (hb hby d5_10) rfl rfl ?_
    show Sp p e below s₁ (mkF m 11 #[vR a, vI (0 : Int32), vR b, vI (0 : Int32), vI (2 : Int32), vI (0 : Int32), vU] [(.ref a)]) _
    refine XS.iloadN X0.here hx rfl (hb hby d5_11) rfl ?_
    show Sp p e below s₁ (mkF m 12 #[vR a, vI (0 : Int32), vR b, vI (0 : Int32), vI (2 : Int32), vI (0 : Int32), vU] [(.int (0 : Int32)), (.ref a)]) _
    exact kt)
  clear S0
  obtain ⟨co228, Ao228, qo228, So228, No228, Ho228, Go228⟩ := id Va
  have hino228 : ¬ ((0 : Int32) < 0 ∨ co228.slots.size ≤ ((0 : Int32)).toNatClampNeg) := inb_of So228 ⟨by decide, by decide⟩
  have hato228 : co228.slots[((0 : Int32)).toNatClampNeg]? = some (.int c0) := Has.at Ho228 hino228 rfl
  have S229 : Go p e below s₁ (eF_cmp2 m a (0 : Int32) b (0 : Int32) (2 : Int32)) s₁ (mkF m 20 #[vR a, vI (0 : Int32), vR b, vI (0 : Int32), vI (2 : Int32), vI (0 : Int32), vI c0] [(.int (255 : Int32)), (.int c0)]) := fun t kt => S227 t (by
    refine X0.caload hx (j := (0 : Int32)) (v := (.int c0)) (by rw [e0]; exact Ao228.1) (State.isArrayOf_alike hZ.alike Ao228.2.1) Ao228.2.2 hino228 hato228 (g := (mkF m 12 #[vR a, vI (0 : Int32), vR b, vI (0 : Int32), vI (2 : Int32), vI (0 : Int32), vU] [(.int (0 : Int32)), (.ref a)])) rfl rfl (hb hby d5_12) _ ?_
    show Sp p e below s₁ (mkF m 13 #[vR a, vI (0 : Int32), vR b, vI (0 : Int32), vI (2 : Int32), vI (0 : Int32), vU] [(.int c0)]) _
    refine XS.istore X0.here hx rfl (hb hby d5_13) rfl (l' := #[vR a, vI (0 : Int32), vR b, vI (0 : Int32), vI (2 : Int32), vI (0 : Int32), vI c0]) rfl ?_
    show Sp p e below s₁ (mkF m 15 #[vR a, vI (0 : Int32), vR b, vI (0 : Int32), vI (2 : Int32), vI (0 : Int32), vI c0] []) _
    refine XS.iload X0.here hx rfl (hb hby d5_15) rfl ?_
    show Sp p e below s₁ (mkF m 17 #[vR a, vI (0 : Int32), vR b, vI (0 : Int32), vI (2 : Int32), vI (0 : Int32), vI c0] [(.int c0)]) _
    refine XS.sipush X0.here hx rfl (hb hby d5_17) ?_
    show Sp p e below s₁ (mkF m 20 #[vR a, vI (0 : Int32), vR b, vI (0 : Int32), vI (2 : Int32), vI (0 : Int32), vI c0] [(.int (255 : Int32)), (.int c0)]) _
    exact kt)
  clear S227
  by_cases hq0 : (255 : Int32) < c0
  · have S230 : Go p e below s₁ (eF_cmp2 m a (0 : Int32) b (0 : Int32) (2 : Int32)) s₁ (mkF m 25 #[vR a, vI (0 : Int32), vR b, vI (0 : Int32), vI (2 : Int32), vI (0 : Int32), vI c0] [(.int (0 : Int32))]) := fun t kt => S229 t (by
      refine XS.icmpNo X0.here hx rfl (hb hby d5_20) rfl (tlt (show (255 : Int32) < c0 from hq0)).2.2.2 ?_
      show Sp p e below s₁ (mkF m 23 #[vR a, vI (0 : Int32), vR b, vI (0 : Int32), vI (2 : Int32), vI (0 : Int32), vI c0] []) _
      refine XS.iload X0.here hx rfl (hb hby d5_23) rfl ?_
      show Sp p e below s₁ (mkF m 25 #[vR a, vI (0 : Int32), vR b, vI (0 : Int32), vI (2 : Int32), vI (0 : Int32), vI c0] [(.int (0 : Int32))]) _
      exact kt)
    clear S229
    obtain ⟨fs, hr, hrun, hended, hW, hsame⟩ := X0.leave (v := some (.int (0 : Int32))) (fun h => by first | rfl | (rw [Bd.returns] at h; cases h))
    refine ⟨_, _, S230 _ ?_, hrun, hended, _, _, rfl, ?_, ⟨_, rfl⟩, hW, hsame.mono (by decide) (by decide)⟩
    · exact retI X0 hx Bd.returns (hb hby d5_25) hr
    · show Q_cmp2 Z b kb c0 c1 h0 n0 _ s₁.heap _
      rw [e0]
      exact ⟨_, rfl, N0, (Keep.refl h0 [b]), Or.inr (Or.inl ⟨rfl, hq0⟩)⟩
  · have S231 : Go p e below s₁ (eF_cmp2 m a (0 : Int32) b (0 : Int32) (2 : Int32)) s₁ (mkF m 31 #[vR a, vI (0 : Int32), vR b, vI (0 : Int32), vI (2 : Int32), vI (0 : Int32), vI c0] [(.int (c0.toInt8.toInt32)), (.int (0 : Int32)), (.ref b)]) := fun t kt => S229 t (by
      refine XS.icmpYes X0.here hx rfl (pc0 := 20) (pc' := 26) rfl (hb hby d5_20) rfl (flt (show ¬ ((255 : Int32) < c0) from hq0)).2.2.2 (by decide) (by decide) ?_
      show Sp p e below s₁ (mkF m 26 #[vR a, vI (0 : Int32), vR b, vI (0 : Int32), vI (2 : Int32), vI (0 : Int32), vI c0] []) _
      refine XS.aloadN X0.here hx rfl (hb hby d5_26) rfl rfl ?_
      show Sp p e below s₁ (mkF m 27 #[vR a, vI (0 : Int32), vR b, vI (0 : Int32), vI (2 : Int32), vI (0 : Int32), vI c0] [(.ref b)]) _
      refine XS.iloadN X0.here hx rfl (hb hby d5_27) rfl ?_
      show Sp p e below s₁ (mkF m 28 #[vR a, vI (0 : Int32), vR b, vI (0 : Int32), vI (2 : Int32), vI (0 : Int32), vI c0] [(.int (0 : Int32)), (.ref b)]) _
      refine XS.iload X0.here hx rfl (hb hby d5_28) rfl ?_
      show Sp p e below s₁ (mkF m 30 #[vR a, vI (0 : Int32), vR b, vI (0 : Int32), vI (2 : Int32), vI (0 : Int32), vI c0] [(.int c0), (.int (0 : Int32)), (.ref b)]) _
      refine XS.i2b X0.here hx rfl (hb hby d5_30) rfl ?_
      show Sp p e below s₁ (mkF m 31 #[vR a, vI (0 : Int32), vR b, vI (0 : Int32), vI (2 : Int32), vI (0 : Int32), vI c0] [(.int (c0.toInt8.toInt32)), (.int (0 : Int32)), (.ref b)]) _
      exact kt)
    clear S229
    obtain ⟨co232, Ao232, qo232, So232, No232, Ho232, Go232⟩ := id Vb
    have hino232 : ¬ ((0 : Int32) < 0 ∨ co232.slots.size ≤ ((0 : Int32)).toNatClampNeg) := inb_of So232 ⟨by decide, by decide⟩
    obtain ⟨T233, h233, X233, e233, W233, st233⟩ := stB X0 hx hZ e0 Ao232 (j := (0 : Int32)) hino232 (g := (mkF m 31 #[vR a, vI (0 : Int32), vR b, vI (0 : Int32), vI (2 : Int32), vI (0 : Int32), vI c0] [(.int (c0.toInt8.toInt32)), (.int (0 : Int32)), (.ref b)])) rfl rfl (hb hby d5_31)
    have N233 := Fr.snoc X233 N0 g_b
    have K233 : Keep h0 h233 [b] := (Keep.refl h0 [b]).wr W233 (Or.inl (by simp))
    have V233 : Arv Z h233 b kb .byte (2 : Int32) [(.int ((c0.toInt8.toInt32).toInt8.toInt32)), (.int (0 : Int32))] (.int (0 : Int32)) := Arv.set Ao232 qo232 So232 No232 Ho232 Go232 (fits_nar_byte _) W233 0 rfl (Nat.le_of_ble_eq_true rfl)
    rw [own_lo c0] at V233
    have S234 : Go p e below s₁ (eF_cmp2 m a (0 : Int32) b (0 : Int32) (2 : Int32)) T233 (mkF m 32 #[vR a, vI (0 : Int32), vR b, vI (0 : Int32), vI (2 : Int32), vI (0 : Int32), vI c0] []) := fun t kt => S231 t (st233 t kt)
    clear S231 st233 X0 e0
    have S235 : Go p e below s₁ (eF_cmp2 m a (0 : Int32) b (0 : Int32) (2 : Int32)) T233 (mkF m 3 #[vR a, vI ((0 : Int32) + (1 : Int32)), vR b, vI ((0 : Int32) + (1 : Int32)), vI (2 : Int32), vI ((0 : Int32) + (1 : Int32)), vI c0] []) := fun t kt => S234 t (by
      refine XS.iinc X233.here hx rfl (hb hby d5_32) rfl (l' := #[vR a, vI ((0 : Int32) + (1 : Int32)), vR b, vI (0 : Int32), vI (2 : Int32), vI (0 : Int32), vI c0]) rfl ?_
      show Sp p e below T233 (mkF m 35 #[vR a, vI ((0 : Int32) + (1 : Int32)), vR b, vI (0 : Int32), vI (2 : Int32), vI (0 : Int32), vI c0] []) _
      refine XS.iinc X233.here hx rfl (hb hby d5_35) rfl (l' := #[vR a, vI ((0 : Int32) + (1 : Int32)), vR b, vI ((0 : Int32) + (1 : Int32)), vI (2 : Int32), vI (0 : Int32), vI c0]) rfl ?_
      show Sp p e below T233 (mkF m 38 #[vR a, vI ((0 : Int32) + (1 : Int32)), vR b, vI ((0 : Int32) + (1 : Int32)), vI (2 : Int32), vI (0 : Int32), vI c0] []) _
      refine XS.iinc X233.here hx rfl (hb hby d5_38) rfl (l' := #[vR a, vI ((0 : Int32) + (1 : Int32)), vR b, vI ((0 : Int32) + (1 : Int32)), vI (2 : Int32), vI ((0 : Int32) + (1 : Int32)), vI c0]) rfl ?_
      show Sp p e below T233 (mkF m 41 #[vR a, vI ((0 : Int32) + (1 : Int32)), vR b, vI ((0 : Int32) + (1 : Int32)), vI (2 : Int32), vI ((0 : Int32) + (1 : Int32)), vI c0] []) _
      refine XS.goto X233.here hx rfl (pc0 := 41) (pc' := 3) rfl (hb hby d5_41) (by decide) (by decide) ?_
      show Sp p e below T233 (mkF m 3 #[vR a, vI ((0 : Int32) + (1 : Int32)), vR b, vI ((0 : Int32) + (1 : Int32)), vI (2 : Int32), vI ((0 : Int32) + (1 : Int32)), vI c0] []) _
      exact kt)
    clear S234
    have q237 : ((0 : Int32) + (1 : Int32)) = (1 : Int32) := by decide
    have S236 : Go p e below s₁ (eF_cmp2 m a (0 : Int32) b (0 : Int32) (2 : Int32)) T233 (mkF m 3 #[vR a, vI (1 : Int32), vR b, vI (1 : Int32), vI (2 : Int32), vI (1 : Int32), vI c0] []) := by have h := S235; rw [q237] at h; exact h
    clear S235
    have S238 : Go p e below s₁ (eF_cmp2 m a (0 : Int32) b (0 : Int32) (2 : Int32)) T233 (mkF m 12 #[vR a, vI (1 : Int32), vR b, vI (1 : Int32), vI (2 : Int32), vI (1 : Int32), vI c0] [(.int (1 : Int32)), (.ref a)]) := fun t kt => S236 t (by
      refine XS.iload X233.here hx rfl (hb hby d5_3) rfl ?_
      show Sp p e below T233 (mkF m 5 #[vR a, vI (1 : Int32), vR b, vI (1 : Int32), vI (2 : Int32), vI (1 : Int32), vI c0] [(.int (1 : Int32))]) _
      refine XS.iload X233.here hx rfl (hb hby d5_5) rfl ?_
      show Sp p e below T233 (mkF m 7 #[vR a, vI (1 : Int32), vR b, vI (1 : Int32), vI (2 : Int32), vI (1 : Int32), vI c0] [(.int (2 : Int32)), (.int (1 : Int32))]) _
      refine XS.icmpNo X233.here hx rfl (hb hby d5_7) rfl (tlt (show (1 : Int32) < (2 : Int32) from (by decide))).2.1 ?_
      show Sp p e below T233 (mkF m 10 #[vR a, vI (1 : Int32), vR b, vI (1 : Int32), vI (2 : Int32), vI (1 : Int32), vI c0] []) _
      refine XS.aloadN X233.here hx rfl (hb hby d5_10) rfl rfl ?_
      show Sp p e below T233 (mkF m 11 #[vR a, vI (1 : Int32), vR b, vI (1 : Int32), vI (2 : Int32), vI (1 : Int32), vI c0] [(.ref a)]) _
      refine XS.iloadN X233.here hx rfl (hb hby d5_11) rfl ?_
      show Sp p e below T233 (mkF m 12 #[vR a, vI (1 : Int32), vR b, vI (1 : Int32), vI (2 : Int32), vI (1 : Int32), vI c0] [(.int (1 : Int32)), (.ref a)]) _
      exact kt)
    clear S236
    have f239 := (Va.other W233 hab)
    obtain ⟨co240, Ao240, qo240, So240, No240, Ho240, Go240⟩ := id f239
    have hino240 : ¬ ((1 : Int32) < 0 ∨ co240.slots.size ≤ ((1 : Int32)).toNatClampNeg) := inb_of So240 ⟨by decide, by decide⟩
    have hato240 : co240.slots[((1 : Int32)).toNatClampNeg]? = some (.int c1) := Has.at Ho240 hino240 rfl
    have S241 : Go p e below s₁ (eF_cmp2 m a (0 : Int32) b (0 : Int32) (2 : Int32)) T233 (mkF m 20 #[vR a, vI (1 : Int32), vR b, vI (1 : Int32), vI (2 : Int32), vI (1 : Int32), vI c1] [(.int (255 : Int32)), (.int c1)]) := fun t kt => S238 t (by
      refine X233.caload hx (j := (1 : Int32)) (v := (.int c1)) (by rw [e233]; exact Ao240.1) (State.isArrayOf_alike hZ.alike Ao240.2.1) Ao240.2.2 hino240 hato240 (g := (mkF m 12 #[vR a, vI (1 : Int32), vR b, vI (1 : Int32), vI (2 : Int32), vI (1 : Int32), vI c0] [(.int (1 : Int32)), (.ref a)])) rfl rfl (hb hby d5_12) _ ?_
      show Sp p e below T233 (mkF m 13 #[vR a, vI (1 : Int32), vR b, vI (1 : Int32), vI (2 : Int32), vI (1 : Int32), vI c0] [(.int c1)]) _
      refine XS.istore X233.here hx rfl (hb hby d5_13) rfl (l' := #[vR a, vI (1 : Int32), vR b, vI (1 : Int32), vI (2 : Int32), vI (1 : Int32), vI c1]) rfl ?_
      show Sp p e below T233 (mkF m 15 #[vR a, vI (1 : Int32), vR b, vI (1 : Int32), vI (2 : Int32), vI (1 : Int32), vI c1] []) _
      refine XS.iload X233.here hx rfl (hb hby d5_15) rfl ?_
      show Sp p e below T233 (mkF m 17 #[vR a, vI (1 : Int32), vR b, vI (1 : Int32), vI (2 : Int32), vI (1 : Int32), vI c1] [(.int c1)]) _
      refine XS.sipush X233.here hx rfl (hb hby d5_17) ?_
      show Sp p e below T233 (mkF m 20 #[vR a, vI (1 : Int32), vR b, vI (1 : Int32), vI (2 : Int32), vI (1 : Int32), vI c1] [(.int (255 : Int32)), (.int c1)]) _
      exact kt)
    clear S238
    by_cases hq1 : (255 : Int32) < c1
    · have S242 : Go p e below s₁ (eF_cmp2 m a (0 : Int32) b (0 : Int32) (2 : Int32)) T233 (mkF m 25 #[vR a, vI (1 : Int32), vR b, vI (1 : Int32), vI (2 : Int32), vI (1 : Int32), vI c1] [(.int (1 : Int32))]) := fun t kt => S241 t (by
        refine XS.icmpNo X233.here hx rfl (hb hby d5_20) rfl (tlt (show (255 : Int32) < c1 from hq1)).2.2.2 ?_
        show Sp p e below T233 (mkF m 23 #[vR a, vI (1 : Int32), vR b, vI (1 : Int32), vI (2 : Int32), vI (1 : Int32), vI c1] []) _
        refine XS.iload X233.here hx rfl (hb hby d5_23) rfl ?_
        show Sp p e below T233 (mkF m 25 #[vR a, vI (1 : Int32), vR b, vI (1 : Int32), vI (2 : Int32), vI (1 : Int32), vI c1] [(.int (1 : Int32))]) _
        exact kt)
      clear S241
      obtain ⟨fs, hr, hrun, hended, hW, hsame⟩ := X233.leave (v := some (.int (1 : Int32))) (fun h => by first | rfl | (rw [Bd.returns] at h; cases h))
      refine ⟨_, _, S242 _ ?_, hrun, hended, _, _, rfl, ?_, ⟨_, rfl⟩, hW, hsame.mono (by decide) (by decide)⟩
      · exact retI X233 hx Bd.returns (hb hby d5_25) hr
      · show Q_cmp2 Z b kb c0 c1 h0 n0 _ T233.heap _
        rw [e233]
        exact ⟨_, rfl, N233, K233, Or.inr (Or.inr (⟨rfl, hq1⟩))⟩
    · have S243 : Go p e below s₁ (eF_cmp2 m a (0 : Int32) b (0 : Int32) (2 : Int32)) T233 (mkF m 31 #[vR a, vI (1 : Int32), vR b, vI (1 : Int32), vI (2 : Int32), vI (1 : Int32), vI c1] [(.int (c1.toInt8.toInt32)), (.int (1 : Int32)), (.ref b)]) := fun t kt => S241 t (by
        refine XS.icmpYes X233.here hx rfl (pc0 := 20) (pc' := 26) rfl (hb hby d5_20) rfl (flt (show ¬ ((255 : Int32) < c1) from hq1)).2.2.2 (by decide) (by decide) ?_
        show Sp p e below T233 (mkF m 26 #[vR a, vI (1 : Int32), vR b, vI (1 : Int32), vI (2 : Int32), vI (1 : Int32), vI c1] []) _
        refine XS.aloadN X233.here hx rfl (hb hby d5_26) rfl rfl ?_
        show Sp p e below T233 (mkF m 27 #[vR a, vI (1 : Int32), vR b, vI (1 : Int32), vI (2 : Int32), vI (1 : Int32), vI c1] [(.ref b)]) _
        refine XS.iloadN X233.here hx rfl (hb hby d5_27) rfl ?_
        show Sp p e below T233 (mkF m 28 #[vR a, vI (1 : Int32), vR b, vI (1 : Int32), vI (2 : Int32), vI (1 : Int32), vI c1] [(.int (1 : Int32)), (.ref b)]) _
        refine XS.iload X233.here hx rfl (hb hby d5_28) rfl ?_
        show Sp p e below T233 (mkF m 30 #[vR a, vI (1 : Int32), vR b, vI (1 : Int32), vI (2 : Int32), vI (1 : Int32), vI c1] [(.int c1), (.int (1 : Int32)), (.ref b)]) _
        refine XS.i2b X233.here hx rfl (hb hby d5_30) rfl ?_
        show Sp p e below T233 (mkF m 31 #[vR a, vI (1 : Int32), vR b, vI (1 : Int32), vI (2 : Int32), vI (1 : Int32), vI c1] [(.int (c1.toInt8.toInt32)), (.int (1 : Int32)), (.ref b)]) _
        exact kt)
      clear S241
      obtain ⟨co244, Ao244, qo244, So244, No244, Ho244, Go244⟩ := id V233
      have hino244 : ¬ ((1 : Int32) < 0 ∨ co244.slots.size ≤ ((1 : Int32)).toNatClampNeg) := inb_of So244 ⟨by decide, by decide⟩
      obtain ⟨T245, h245, X245, e245, W245, st245⟩ := stB X233 hx hZ e233 Ao244 (j := (1 : Int32)) hino244 (g := (mkF m 31 #[vR a, vI (1 : Int32), vR b, vI (1 : Int32), vI (2 : Int32), vI (1 : Int32), vI c1] [(.int (c1.toInt8.toInt32)), (.int (1 : Int32)), (.ref b)])) rfl rfl (hb hby d5_31)
      have N245 := Fr.snoc X245 N233 g_b
      have K245 : Keep h0 h245 [b] := K233.wr W245 (Or.inl (by simp))
      have V245 : Arv Z h245 b kb .byte (2 : Int32) [(.int (StrChars.lo8 c0)), (.int ((c1.toInt8.toInt32).toInt8.toInt32))] (.int (0 : Int32)) := Arv.set Ao244 qo244 So244 No244 Ho244 Go244 (fits_nar_byte _) W245 1 rfl (Nat.le_of_ble_eq_true rfl)
      rw [own_lo c1] at V245
      have S246 : Go p e below s₁ (eF_cmp2 m a (0 : Int32) b (0 : Int32) (2 : Int32)) T245 (mkF m 32 #[vR a, vI (1 : Int32), vR b, vI (1 : Int32), vI (2 : Int32), vI (1 : Int32), vI c1] []) := fun t kt => S243 t (st245 t kt)
      clear S243 st245 X233 e233
      have S247 : Go p e below s₁ (eF_cmp2 m a (0 : Int32) b (0 : Int32) (2 : Int32)) T245 (mkF m 3 #[vR a, vI ((1 : Int32) + (1 : Int32)), vR b, vI ((1 : Int32) + (1 : Int32)), vI (2 : Int32), vI ((1 : Int32) + (1 : Int32)), vI c1] []) := fun t kt => S246 t (by
        refine XS.iinc X245.here hx rfl (hb hby d5_32) rfl (l' := #[vR a, vI ((1 : Int32) + (1 : Int32)), vR b, vI (1 : Int32), vI (2 : Int32), vI (1 : Int32), vI c1]) rfl ?_
        show Sp p e below T245 (mkF m 35 #[vR a, vI ((1 : Int32) + (1 : Int32)), vR b, vI (1 : Int32), vI (2 : Int32), vI (1 : Int32), vI c1] []) _
        refine XS.iinc X245.here hx rfl (hb hby d5_35) rfl (l' := #[vR a, vI ((1 : Int32) + (1 : Int32)), vR b, vI ((1 : Int32) + (1 : Int32)), vI (2 : Int32), vI (1 : Int32), vI c1]) rfl ?_
        show Sp p e below T245 (mkF m 38 #[vR a, vI ((1 : Int32) + (1 : Int32)), vR b, vI ((1 : Int32) + (1 : Int32)), vI (2 : Int32), vI (1 : Int32), vI c1] []) _
        refine XS.iinc X245.here hx rfl (hb hby d5_38) rfl (l' := #[vR a, vI ((1 : Int32) + (1 : Int32)), vR b, vI ((1 : Int32) + (1 : Int32)), vI (2 : Int32), vI ((1 : Int32) + (1 : Int32)), vI c1]) rfl ?_
        show Sp p e below T245 (mkF m 41 #[vR a, vI ((1 : Int32) + (1 : Int32)), vR b, vI ((1 : Int32) + (1 : Int32)), vI (2 : Int32), vI ((1 : Int32) + (1 : Int32)), vI c1] []) _
        refine XS.goto X245.here hx rfl (pc0 := 41) (pc' := 3) rfl (hb hby d5_41) (by decide) (by decide) ?_
        show Sp p e below T245 (mkF m 3 #[vR a, vI ((1 : Int32) + (1 : Int32)), vR b, vI ((1 : Int32) + (1 : Int32)), vI (2 : Int32), vI ((1 : Int32) + (1 : Int32)), vI c1] []) _
        exact kt)
      clear S246
      have q249 : ((1 : Int32) + (1 : Int32)) = (2 : Int32) := by decide
      have S248 : Go p e below s₁ (eF_cmp2 m a (0 : Int32) b (0 : Int32) (2 : Int32)) T245 (mkF m 3 #[vR a, vI (2 : Int32), vR b, vI (2 : Int32), vI (2 : Int32), vI (2 : Int32), vI c1] []) := by have h := S247; rw [q249] at h; exact h
      clear S247
      have S250 : Go p e below s₁ (eF_cmp2 m a (0 : Int32) b (0 : Int32) (2 : Int32)) T245 (mkF m 46 #[vR a, vI (2 : Int32), vR b, vI (2 : Int32), vI (2 : Int32), vI (2 : Int32), vI c1] [(.int (2 : Int32))]) := fun t kt => S248 t (by
        refine XS.iload X245.here hx rfl (hb hby d5_3) rfl ?_
        show Sp p e below T245 (mkF m 5 #[vR a, vI (2 : Int32), vR b, vI (2 : Int32), vI (2 : Int32), vI (2 : Int32), vI c1] [(.int (2 : Int32))]) _
        refine XS.iload X245.here hx rfl (hb hby d5_5) rfl ?_
        show Sp p e below T245 (mkF m 7 #[vR a, vI (2 : Int32), vR b, vI (2 : Int32), vI (2 : Int32), vI (2 : Int32), vI c1] [(.int (2 : Int32)), (.int (2 : Int32))]) _
        refine XS.icmpYes X245.here hx rfl (pc0 := 7) (pc' := 44) rfl (hb hby d5_7) rfl (flt (show ¬ ((2 : Int32) < (2 : Int32)) from (by decide))).2.1 (by decide) (by decide) ?_
        show Sp p e below T245 (mkF m 44 #[vR a, vI (2 : Int32), vR b, vI (2 : Int32), vI (2 : Int32), vI (2 : Int32), vI c1] []) _
        refine XS.iload X245.here hx rfl (hb hby d5_44) rfl ?_
        show Sp p e below T245 (mkF m 46 #[vR a, vI (2 : Int32), vR b, vI (2 : Int32), vI (2 : Int32), vI (2 : Int32), vI c1] [(.int (2 : Int32))]) _
        exact kt)
      clear S248
      obtain ⟨fs, hr, hrun, hended, hW, hsame⟩ := X245.leave (v := some (.int (2 : Int32))) (fun h => by first | rfl | (rw [Bd.returns] at h; cases h))
      refine ⟨_, _, S250 _ ?_, hrun, hended, _, _, rfl, ?_, ⟨_, rfl⟩, hW, hsame.mono (by decide) (by decide)⟩
      · exact retI X245 hx Bd.returns (hb hby d5_46) hr
      · show Q_cmp2 Z b kb c0 c1 h0 n0 _ T245.heap _
        rw [e245]
        exact ⟨_, rfl, N245, K245, Or.inl ⟨rfl, ⟨hq0, hq1, trivial⟩, V245⟩⟩
abbrev eF_com2 (m : MethodId) (x0 : Addr) (x1 : Int32) (x2 : Int32) : JFrame := entryFrame m #[(.ref x0), (.int x1), (.int x2)] 6
theorem ef_com2 (m : MethodId) (x0 : Addr) (x1 : Int32) (x2 : Int32) : entryFrame m #[(.ref x0), (.int x1), (.int x2)] 6 = mkF m 0 #[.val (.ref x0), .val (.int x1), .val (.int x2), .unset, .unset, .unset] [] := by first | (simp [entryFrame, mkF, argsToLocals, Value.category]; done) | rfl
theorem pn_com2 : plainName "java/lang/StringUTF16" = true := by first | (simp [plainName, overriddenIn]; done) | decide +kernel
def Q_com2 (Z : State) (c0 : Int32) (c1 : Int32) (h0 : Heap) (n0 : Nat) (v : Option Value) (h : Heap) (L : List Loc) : Prop := ∃ t kb n vs cd, v = some (.ref t) ∧ Fr n0 L ∧ Keep h0 h [] ∧ h0.size ≤ t ∧ Arv Z h t kb .byte n vs (.int (0 : Int32)) ∧ StrChars.Road.CodA [c0, c1] cd n vs ∧ ((cd = 0 ∧ n = (2 : Int32)) ∨ (cd = 1 ∧ n = (4 : Int32)))
set_option maxRecDepth 65536 in
set_option maxHeartbeats 40000000 in
theorem rm_com2 (l : Launch) (Z : State) (a0 : Array Value) (hw : ∀ d ∈ tables_1, d.before a0 Z = true) (ws : List Jvm.Cond) (a : Addr) (ka : ClassId) (c0 : Int32) (c1 : Int32) (h0 : Heap) (n0 : Nat) (Z0 : n0 ≤ h0.size) (SS : own_St Z) (O0 : Old Z n0 h0)(Va : Arv Z h0 a ka .char (2 : Int32) [(.int c0), (.int c1)] (.int (0 : Int32)))(hc0 : own_Ch c0) (hc1 : own_Ch c1) :
    MetFree l (⟨"java/lang/StringUTF16", "compress", "([CII)[B"⟩ : MethodName) (head1 (Jvm.Cond.code (⟨"java/lang/StringUTF16", "compress", "([CII)[B"⟩ : MethodName) jdk_52_method_16_code 6 (some (.array .byte)) :: ws) ({ frames := 3, cells := 2, slots := 6, locals := 40 } : Room)) (fun aa U => aa = #[(.ref a), (.int (0 : Int32)), (.int (2 : Int32))] ∧ Z.Warmed39 U.vm ∧ U.heap = h0) (fun _ _ _ _ _ => True) (fun _ U o U' => ∃ v L, o = .returned v ∧ Q_com2 Z c0 c1 h0 n0 v U'.heap L ∧ FrameEnd U o U' L ({ frames := 3, cells := 2, slots := 6, locals := 40 } : Room).cells ({ frames := 3, cells := 2, slots := 6, locals := 40 } : Room).slots) := by
  refine MetFree.of_bodySF (plainFor_of_name pn_com2) hisR ?_
  intro p e s m args below meth c s₁ Bd hml0 hP hK
  obtain ⟨rfl, hZ, hh⟩ := hP
  have hx := Bd.exec
  have hby := Bd.bytes
  have hml : c.maxLocals = 6 := hml0
  have hown : s.vm.findClass "java/lang/StringUTF16" = some m.cls := findClass_of_methodNamed Bd.named
  have hnm := (name_of_methodNamed Bd.named Bd.method).1
  have X0 : Stand p l e ({ frames := 3, cells := 2, slots := 6, locals := 40 } : Room) s m #[(.ref a), (.int (0 : Int32)), (.int (2 : Int32))] below meth c s₁ [] 0 0 := Stand.of_body Bd
  have e0 : s₁.heap = h0 := by rw [← hh, Bd.state]; rfl
  have N0 := Fr.nil n0
  have S0 : Go p e below s₁ (eF_com2 m a (0 : Int32) (2 : Int32)) s₁ (mkF m 0 #[vR a, vI (0 : Int32), vI (2 : Int32), vU, vU, vU] []) := fun t k => castTop (ef_com2 m a (0 : Int32) (2 : Int32)) k
  obtain ⟨⟨cz, S_cs, hcz⟩, ⟨fm, S_fm, hfm⟩, S_ad, S_hi, S_lo⟩ := id SS
  have S251 : Go p e below s₁ (eF_com2 m a (0 : Int32) (2 : Int32)) s₁ (mkF m 1 #[vR a, vI (0 : Int32), vI (2 : Int32), vU, vU, vU] [(.int (2 : Int32))]) := fun t kt => S0 t (by
    refine XS.iloadN X0.here hx rfl (hb hby d4_0) rfl ?_
    show Sp p e below s₁ (mkF m 1 #[vR a, vI (0 : Int32), vI (2 : Int32), vU, vU, vU] [(.int (2 : Int32))]) _
    exact kt)
  clear S0
  obtain ⟨T252, h252, k252, X252, e252, E252, A252, st252⟩ := newP X0 hx hZ (own_h hw 20 rfl) e0 (g := (mkF m 1 #[vR a, vI (0 : Int32), vI (2 : Int32), vU, vU, vU] [(.int (2 : Int32))])) rfl (hb hby d4_1) rfl (by decide) (cap := 2) (by decide) (by decide) (by decide) (by decide)
  obtain ⟨b1, g252⟩ : ∃ z, z = h0.size := ⟨_, rfl⟩
  rw [← g252] at A252 st252
  have ne253 : a ≠ b1 := by rw [g252]; exact Nat.ne_of_lt Va.lt
  have g_b1 : n0 ≤ b1 := Nat.le_trans Z0 (Nat.le_of_eq g252.symm)
  have sz_b1 : h0.size ≤ b1 := Nat.le_trans (Keep.refl h0 []).1 (Nat.le_of_eq g252.symm)
  have K252 : Keep h0 h252 [] := (Keep.refl h0 []).ext E252
  have V252 : Arv Z h252 b1 k252 .byte (2 : Int32) [(.int (0 : Int32)), (.int (0 : Int32))] (.int (0 : Int32)) := (Arv.new A252 (by decide)).pad (pad_rep [] _ 2)
  have S254 : Go p e below s₁ (eF_com2 m a (0 : Int32) (2 : Int32)) T252 (mkF m 3 #[vR a, vI (0 : Int32), vI (2 : Int32), vU, vU, vU] [(.ref b1)]) := fun t kt => S251 t (st252 t kt)
  clear S251 st252 X0 e0
  have S255 : Go p e below s₁ (eF_com2 m a (0 : Int32) (2 : Int32)) T252 (mkF m 9 #[vR a, vI (0 : Int32), vI (2 : Int32), vR b1, vU, vU] [(.int (2 : Int32)), (.int (0 : Int32)), (.ref b1), (.int (0 : Int32)), (.ref a)]) := fun t kt => S254 t (by
    refine XS.astoreN X252.here hx rfl (hb hby d4_3) rfl rfl (l' := #[vR a, vI (0 : Int32), vI (2 : Int32), vR b1, vU, vU]) rfl ?_
    show Sp p e below T252 (mkF m 4 #[vR a, vI (0 : Int32), vI (2 : Int32), vR b1, vU, vU] []) _
    refine XS.aloadN X252.here hx rfl (hb hby d4_4) rfl rfl ?_
    show Sp p e below T252 (mkF m 5 #[vR a, vI (0 : Int32), vI (2 : Int32), vR b1, vU, vU] [(.ref a)]) _
    refine XS.iloadN X252.here hx rfl (hb hby d4_5) rfl ?_
    show Sp p e below T252 (mkF m 6 #[vR a, vI (0 : Int32), vI (2 : Int32), vR b1, vU, vU] [(.int (0 : Int32)), (.ref a)]) _
    refine XS.aloadN X252.here hx rfl (hb hby d4_6) rfl rfl ?_
    show Sp p e below T252 (mkF m 7 #[vR a, vI (0 : Int32), vI (2 : Int32), vR b1, vU, vU] [(.ref b1), (.int (0 : Int32)), (.ref a)]) _
    refine XS.iconst X252.here hx rfl (hb hby d4_7) ?_
    show Sp p e below T252 (mkF m 8 #[vR a, vI (0 : Int32), vI (2 : Int32), vR b1, vU, vU] [(.int (0 : Int32)), (.ref b1), (.int (0 : Int32)), (.ref a)]) _
    refine XS.iloadN X252.here hx rfl (hb hby d4_8) rfl ?_
    show Sp p e below T252 (mkF m 9 #[vR a, vI (0 : Int32), vI (2 : Int32), vR b1, vU, vU] [(.int (2 : Int32)), (.int (0 : Int32)), (.ref b1), (.int (0 : Int32)), (.ref a)]) _
    exact kt)
  clear S254
  have f256 := (Va.ext E252)
  obtain ⟨v257, T257, L257, X257, hQ257, st257⟩ := own_outS (Jvm.LawKit.callS X252 hx (y := (⟨"java/lang/StringUTF16", "compress", "([CI[BII)I"⟩ : MethodName)) hown (mvT hZ (own_h hw 21 rfl)) (mvT hZ (own_h hw 22 rfl)) (mvT hZ (own_h hw 18 rfl)) (mvT hZ (own_h hw 23 rfl)) (by decide) (backOf (W := 0) (rm_cmp2 l Z a0 hw [] a b1 ka k252 c0 c1 h252 n0 (Nat.le_trans Z0 E252.1) f256 V252 ne253 g_b1) hZ (own_h hw 23 rfl) (own_h hw 18 rfl) (by decide) (by decide)) (g := (mkF m 9 #[vR a, vI (0 : Int32), vI (2 : Int32), vR b1, vU, vU] [(.int (2 : Int32)), (.int (0 : Int32)), (.ref b1), (.int (0 : Int32)), (.ref a)])) rfl (by rw [hml]; rfl) (argsL := [(.ref a), (.int (0 : Int32)), (.ref b1), (.int (0 : Int32)), (.int (2 : Int32))]) (rest := []) (lenOf pd___CI_BII_I rfl) rfl (by show 2 * 0 + _ ≤ _; exact Nat.le_of_eq rfl) (hb hby d4_9) (fun _ _ => ⟨rfl, e252, (by decide : 1 + 0 ≤ _), (by decide : 2 + 0 ≤ _)⟩))
  obtain ⟨r, rfl, N257q, K257, hor⟩ := hQ257
  have N257 := Fr.app N0 N257q
  have KK257 : Keep h0 T257.heap [] := K252.trans K257 (allS (Or.inr sz_b1) all0)
  have S258 : Go p e below s₁ (eF_com2 m a (0 : Int32) (2 : Int32)) T257 (mkF m 12 #[vR a, vI (0 : Int32), vI (2 : Int32), vR b1, vU, vU] [(.int r)]) := fun t kt => S255 t (st257 t kt)
  clear S255 st257 X252 e252
  rcases hor with ⟨rfl, hall, Vl⟩ | ⟨rfl, hk⟩ | ⟨rfl, hk⟩
  · have S259 : Go p e below s₁ (eF_com2 m a (0 : Int32) (2 : Int32)) T257 (mkF m 58 #[vR a, vI (0 : Int32), vI (2 : Int32), vR b1, vI (2 : Int32), vU] [(.ref b1)]) := fun t kt => S258 t (by
      refine XS.istore X257.here hx rfl (hb hby d4_12) rfl (l' := #[vR a, vI (0 : Int32), vI (2 : Int32), vR b1, vI (2 : Int32), vU]) rfl ?_
      show Sp p e below T257 (mkF m 14 #[vR a, vI (0 : Int32), vI (2 : Int32), vR b1, vI (2 : Int32), vU] []) _
      refine XS.iload X257.here hx rfl (hb hby d4_14) rfl ?_
      show Sp p e below T257 (mkF m 16 #[vR a, vI (0 : Int32), vI (2 : Int32), vR b1, vI (2 : Int32), vU] [(.int (2 : Int32))]) _
      refine XS.iloadN X257.here hx rfl (hb hby d4_16) rfl ?_
      show Sp p e below T257 (mkF m 17 #[vR a, vI (0 : Int32), vI (2 : Int32), vR b1, vI (2 : Int32), vU] [(.int (2 : Int32)), (.int (2 : Int32))]) _
      refine XS.icmpYes X257.here hx rfl (pc0 := 17) (pc' := 57) rfl (hb hby d4_17) rfl (teq (show (2 : Int32) = (2 : Int32) from (by decide))).1 (by decide) (by decide) ?_
      show Sp p e below T257 (mkF m 57 #[vR a, vI (0 : Int32), vI (2 : Int32), vR b1, vI (2 : Int32), vU] []) _
      refine XS.aloadN X257.here hx rfl (hb hby d4_57) rfl rfl ?_
      show Sp p e below T257 (mkF m 58 #[vR a, vI (0 : Int32), vI (2 : Int32), vR b1, vI (2 : Int32), vU] [(.ref b1)]) _
      exact kt)
    clear S258
    obtain ⟨fs, hr, hrun, hended, hW, hsame⟩ := X257.leave (v := some (.ref b1)) (fun h => by first | rfl | (rw [Bd.returns] at h; cases h))
    refine ⟨_, _, S259 _ ?_, hrun, hended, _, _, rfl, ?_, ⟨_, rfl⟩, hW, hsame.mono (by decide) (by decide)⟩
    · exact retOut X257 hx Bd.returns rfl (Or.inr (Or.inr (Or.inr (Or.inr ⟨rfl, rfl, rfl⟩)))) (hb hby d4_58) hr
    · show Q_com2 Z c0 c1 h0 n0 _ T257.heap _
      exact ⟨b1, _, _, _, (0 : Int32), rfl, N257, KK257, sz_b1, Vl, Or.inl ⟨rfl, rfl, rfl, (fun z hz => by simp only [List.mem_cons, List.not_mem_nil, or_false] at hz; rcases hz with rfl | rfl <;> first | exact hall.1 | exact hall.2.1 | exact hall.2.2.1 | exact hall.2.2.2.1)⟩, Or.inl ⟨rfl, rfl⟩⟩
  · have S260 : Go p e below s₁ (eF_com2 m a (0 : Int32) (2 : Int32)) T257 (mkF m 23 #[vR a, vI (0 : Int32), vI (2 : Int32), vR b1, vI (0 : Int32), vU] [(.int (2 : Int32)), (.int (0 : Int32)), (.ref a)]) := fun t kt => S258 t (by
      refine XS.istore X257.here hx rfl (hb hby d4_12) rfl (l' := #[vR a, vI (0 : Int32), vI (2 : Int32), vR b1, vI (0 : Int32), vU]) rfl ?_
      show Sp p e below T257 (mkF m 14 #[vR a, vI (0 : Int32), vI (2 : Int32), vR b1, vI (0 : Int32), vU] []) _
      refine XS.iload X257.here hx rfl (hb hby d4_14) rfl ?_
      show Sp p e below T257 (mkF m 16 #[vR a, vI (0 : Int32), vI (2 : Int32), vR b1, vI (0 : Int32), vU] [(.int (0 : Int32))]) _
      refine XS.iloadN X257.here hx rfl (hb hby d4_16) rfl ?_
      show Sp p e below T257 (mkF m 17 #[vR a, vI (0 : Int32), vI (2 : Int32), vR b1, vI (0 : Int32), vU] [(.int (2 : Int32)), (.int (0 : Int32))]) _
      refine XS.icmpNo X257.here hx rfl (hb hby d4_17) rfl (feq (show ¬ ((0 : Int32) = (2 : Int32)) from (by decide))).1 ?_
      show Sp p e below T257 (mkF m 20 #[vR a, vI (0 : Int32), vI (2 : Int32), vR b1, vI (0 : Int32), vU] []) _
      refine XS.aloadN X257.here hx rfl (hb hby d4_20) rfl rfl ?_
      show Sp p e below T257 (mkF m 21 #[vR a, vI (0 : Int32), vI (2 : Int32), vR b1, vI (0 : Int32), vU] [(.ref a)]) _
      refine XS.iloadN X257.here hx rfl (hb hby d4_21) rfl ?_
      show Sp p e below T257 (mkF m 22 #[vR a, vI (0 : Int32), vI (2 : Int32), vR b1, vI (0 : Int32), vU] [(.int (0 : Int32)), (.ref a)]) _
      refine XS.iloadN X257.here hx rfl (hb hby d4_22) rfl ?_
      show Sp p e below T257 (mkF m 23 #[vR a, vI (0 : Int32), vI (2 : Int32), vR b1, vI (0 : Int32), vU] [(.int (2 : Int32)), (.int (0 : Int32)), (.ref a)]) _
      exact kt)
    clear S258
    have f261 := ((O0.ext E252).keep K257 (allS g_b1 all0))
    have f262 := (f256.keep K257 (ninS ne253 nin0))
    obtain ⟨v263, T263, L263, X263, hQ263, st263⟩ := own_outS (Jvm.LawKit.callS X257 hx (y := (⟨"java/lang/StringUTF16", "toBytes", "([CII)[B"⟩ : MethodName)) hown (mvT hZ (own_h hw 88 rfl)) (mvT hZ (own_h hw 89 rfl)) (mvT hZ (own_h hw 18 rfl)) (mvT hZ (own_h hw 90 rfl)) (by decide) (backOf (W := 0) (rm_tob2 l Z a0 hw [] a ka c0 c1 T257.heap n0 (Nat.le_trans (Nat.le_trans Z0 E252.1) K257.1) SS f261 f262) hZ (own_h hw 90 rfl) (own_h hw 18 rfl) (by decide) (by decide)) (g := (mkF m 23 #[vR a, vI (0 : Int32), vI (2 : Int32), vR b1, vI (0 : Int32), vU] [(.int (2 : Int32)), (.int (0 : Int32)), (.ref a)])) rfl (by rw [hml]; rfl) (argsL := [(.ref a), (.int (0 : Int32)), (.int (2 : Int32))]) (rest := []) (lenOf pd___CII__B rfl) rfl (by show 2 * 0 + _ ≤ _; exact Nat.le_of_eq rfl) (hb hby d4_23) (fun _ _ => ⟨rfl, rfl, (by decide : 1 + 1 ≤ _), (by decide : 2 + 4 ≤ _)⟩))
    obtain ⟨t1, kb263, rfl, N263q, K263, sz263, V263⟩ := hQ263
    have N263 := Fr.app N257 N263q
    have KK263 : Keep h0 T263.heap [] := KK257.trans K263 all0
    have sz_t1 : h0.size ≤ t1 := Nat.le_trans KK257.1 sz263
    have g_t1 : n0 ≤ t1 := Nat.le_trans (Nat.le_trans (Nat.le_trans Z0 E252.1) K257.1) sz263
    have S264 : Go p e below s₁ (eF_com2 m a (0 : Int32) (2 : Int32)) T263 (mkF m 26 #[vR a, vI (0 : Int32), vI (2 : Int32), vR b1, vI (0 : Int32), vU] [(.ref t1)]) := fun t kt => S260 t (st263 t kt)
    clear S260 st263 X257
    have S265 : Go p e below s₁ (eF_com2 m a (0 : Int32) (2 : Int32)) T263 (mkF m 32 #[vR a, vI (0 : Int32), vI (2 : Int32), vR b1, vI (0 : Int32), vR t1] [(.int (0 : Int32)), (.ref t1)]) := fun t kt => S264 t (by
      refine XS.astore X263.here hx rfl (hb hby d4_26) rfl rfl (l' := #[vR a, vI (0 : Int32), vI (2 : Int32), vR b1, vI (0 : Int32), vR t1]) rfl ?_
      show Sp p e below T263 (mkF m 28 #[vR a, vI (0 : Int32), vI (2 : Int32), vR b1, vI (0 : Int32), vR t1] []) _
      refine XS.aload X263.here hx rfl (hb hby d4_28) rfl rfl ?_
      show Sp p e below T263 (mkF m 30 #[vR a, vI (0 : Int32), vI (2 : Int32), vR b1, vI (0 : Int32), vR t1] [(.ref t1)]) _
      refine XS.iload X263.here hx rfl (hb hby d4_30) rfl ?_
      show Sp p e below T263 (mkF m 32 #[vR a, vI (0 : Int32), vI (2 : Int32), vR b1, vI (0 : Int32), vR t1] [(.int (0 : Int32)), (.ref t1)]) _
      exact kt)
    clear S264
    have f266 := (f261.keep K263 all0)
    obtain ⟨v267, T267, L267, X267, hQ267, st267⟩ := own_outS (Jvm.LawKit.callS X263 hx (y := (⟨"java/lang/StringUTF16", "getChar", "([BI)C"⟩ : MethodName)) hown (mvT hZ (own_h hw 104 rfl)) (mvT hZ (own_h hw 105 rfl)) (mvT hZ (own_h hw 18 rfl)) (mvT hZ (own_h hw 106 rfl)) (by decide) (backOf (W := 0) (rm_gch l Z a0 hw [] t1 (0 : Int32) kb263 (4 : Int32) [(.int (StrChars.lo8 c0)), (.int (StrChars.hi8 c0)), (.int (StrChars.lo8 c1)), (.int (StrChars.hi8 c1))] c0 T263.heap n0 (Nat.le_trans (Nat.le_trans (Nat.le_trans Z0 E252.1) K257.1) K263.1) SS f266 V263 (by decide) (by decide) (by rw [show ((0 : Int32) <<< ((1 : Int32) &&& 31)).toNatClampNeg = 0 from by decide]; rfl) (by rw [show (((0 : Int32) <<< ((1 : Int32) &&& 31)) + (1 : Int32)).toNatClampNeg = 1 from by decide]; rfl) hc0) hZ (own_h hw 106 rfl) (own_h hw 18 rfl) (by decide) (by decide)) (g := (mkF m 32 #[vR a, vI (0 : Int32), vI (2 : Int32), vR b1, vI (0 : Int32), vR t1] [(.int (0 : Int32)), (.ref t1)])) rfl (by rw [hml]; rfl) (argsL := [(.ref t1), (.int (0 : Int32))]) (rest := []) (lenOf pd___BI_C rfl) rfl (by show 2 * 0 + _ ≤ _; exact Nat.le_of_eq rfl) (hb hby d4_32) (fun _ _ => ⟨rfl, rfl, (by decide : 2 + 0 ≤ _), (by decide : 6 + 0 ≤ _)⟩))
    obtain ⟨rfl, N267q, e267⟩ := hQ267
    have N267 := Fr.app N263 N267q
    have S268 : Go p e below s₁ (eF_com2 m a (0 : Int32) (2 : Int32)) T267 (mkF m 35 #[vR a, vI (0 : Int32), vI (2 : Int32), vR b1, vI (0 : Int32), vR t1] [(.int c0)]) := fun t kt => S265 t (st267 t kt)
    clear S265 st267 X263
    have S269 : Go p e below s₁ (eF_com2 m a (0 : Int32) (2 : Int32)) T267 (mkF m 38 #[vR a, vI (0 : Int32), vI (2 : Int32), vR b1, vI (0 : Int32), vR t1] [(.int (255 : Int32)), (.int c0)]) := fun t kt => S268 t (by
      refine XS.sipush X267.here hx rfl (hb hby d4_35) ?_
      show Sp p e below T267 (mkF m 38 #[vR a, vI (0 : Int32), vI (2 : Int32), vR b1, vI (0 : Int32), vR t1] [(.int (255 : Int32)), (.int c0)]) _
      exact kt)
    clear S268
    have S270 : Go p e below s₁ (eF_com2 m a (0 : Int32) (2 : Int32)) T267 (mkF m 56 #[vR a, vI (0 : Int32), vI (2 : Int32), vR b1, vI (0 : Int32), vR t1] [(.ref t1)]) := fun t kt => S269 t (by
      refine XS.icmpYes X267.here hx rfl (pc0 := 38) (pc' := 54) rfl (hb hby d4_38) rfl (tlt (show (255 : Int32) < c0 from hk)).2.2.1 (by decide) (by decide) ?_
      show Sp p e below T267 (mkF m 54 #[vR a, vI (0 : Int32), vI (2 : Int32), vR b1, vI (0 : Int32), vR t1] []) _
      refine XS.aload X267.here hx rfl (hb hby d4_54) rfl rfl ?_
      show Sp p e below T267 (mkF m 56 #[vR a, vI (0 : Int32), vI (2 : Int32), vR b1, vI (0 : Int32), vR t1] [(.ref t1)]) _
      exact kt)
    clear S269
    obtain ⟨fs, hr, hrun, hended, hW, hsame⟩ := X267.leave (v := some (.ref t1)) (fun h => by first | rfl | (rw [Bd.returns] at h; cases h))
    refine ⟨_, _, S270 _ ?_, hrun, hended, _, _, rfl, ?_, ⟨_, rfl⟩, hW, hsame.mono (by decide) (by decide)⟩
    · exact retOut X267 hx Bd.returns rfl (Or.inr (Or.inr (Or.inr (Or.inr ⟨rfl, rfl, rfl⟩)))) (hb hby d4_56) hr
    · show Q_com2 Z c0 c1 h0 n0 _ T267.heap _
      rw [e267]
      exact ⟨t1, _, _, _, (1 : Int32), rfl, N267, KK263, sz_t1, V263, Or.inr ⟨rfl, rfl, rfl, ⟨c0, by simp, hk⟩⟩, Or.inr ⟨rfl, rfl⟩⟩
  · have S271 : Go p e below s₁ (eF_com2 m a (0 : Int32) (2 : Int32)) T257 (mkF m 23 #[vR a, vI (0 : Int32), vI (2 : Int32), vR b1, vI (1 : Int32), vU] [(.int (2 : Int32)), (.int (0 : Int32)), (.ref a)]) := fun t kt => S258 t (by
      refine XS.istore X257.here hx rfl (hb hby d4_12) rfl (l' := #[vR a, vI (0 : Int32), vI (2 : Int32), vR b1, vI (1 : Int32), vU]) rfl ?_
      show Sp p e below T257 (mkF m 14 #[vR a, vI (0 : Int32), vI (2 : Int32), vR b1, vI (1 : Int32), vU] []) _
      refine XS.iload X257.here hx rfl (hb hby d4_14) rfl ?_
      show Sp p e below T257 (mkF m 16 #[vR a, vI (0 : Int32), vI (2 : Int32), vR b1, vI (1 : Int32), vU] [(.int (1 : Int32))]) _
      refine XS.iloadN X257.here hx rfl (hb hby d4_16) rfl ?_
      show Sp p e below T257 (mkF m 17 #[vR a, vI (0 : Int32), vI (2 : Int32), vR b1, vI (1 : Int32), vU] [(.int (2 : Int32)), (.int (1 : Int32))]) _
      refine XS.icmpNo X257.here hx rfl (hb hby d4_17) rfl (feq (show ¬ ((1 : Int32) = (2 : Int32)) from (by decide))).1 ?_
      show Sp p e below T257 (mkF m 20 #[vR a, vI (0 : Int32), vI (2 : Int32), vR b1, vI (1 : Int32), vU] []) _
      refine XS.aloadN X257.here hx rfl (hb hby d4_20) rfl rfl ?_
      show Sp p e below T257 (mkF m 21 #[vR a, vI (0 : Int32), vI (2 : Int32), vR b1, vI (1 : Int32), vU] [(.ref a)]) _
      refine XS.iloadN X257.here hx rfl (hb hby d4_21) rfl ?_
      show Sp p e below T257 (mkF m 22 #[vR a, vI (0 : Int32), vI (2 : Int32), vR b1, vI (1 : Int32), vU] [(.int (0 : Int32)), (.ref a)]) _
      refine XS.iloadN X257.here hx rfl (hb hby d4_22) rfl ?_
      show Sp p e below T257 (mkF m 23 #[vR a, vI (0 : Int32), vI (2 : Int32), vR b1, vI (1 : Int32), vU] [(.int (2 : Int32)), (.int (0 : Int32)), (.ref a)]) _
      exact kt)
    clear S258
    have f272 := ((O0.ext E252).keep K257 (allS g_b1 all0))
    have f273 := (f256.keep K257 (ninS ne253 nin0))
    obtain ⟨v274, T274, L274, X274, hQ274, st274⟩ := own_outS (Jvm.LawKit.callS X257 hx (y := (⟨"java/lang/StringUTF16", "toBytes", "([CII)[B"⟩ : MethodName)) hown (mvT hZ (own_h hw 88 rfl)) (mvT hZ (own_h hw 89 rfl)) (mvT hZ (own_h hw 18 rfl)) (mvT hZ (own_h hw 90 rfl)) (by decide) (backOf (W := 0) (rm_tob2 l Z a0 hw [] a ka c0 c1 T257.heap n0 (Nat.le_trans (Nat.le_trans Z0 E252.1) K257.1) SS f272 f273) hZ (own_h hw 90 rfl) (own_h hw 18 rfl) (by decide) (by decide)) (g := (mkF m 23 #[vR a, vI (0 : Int32), vI (2 : Int32), vR b1, vI (1 : Int32), vU] [(.int (2 : Int32)), (.int (0 : Int32)), (.ref a)])) rfl (by rw [hml]; rfl) (argsL := [(.ref a), (.int (0 : Int32)), (.int (2 : Int32))]) (rest := []) (lenOf pd___CII__B rfl) rfl (by show 2 * 0 + _ ≤ _; exact Nat.le_of_eq rfl) (hb hby d4_23) (fun _ _ => ⟨rfl, rfl, (by decide : 1 + 1 ≤ _), (by decide : 2 + 4 ≤ _)⟩))
    obtain ⟨t1, kb274, rfl, N274q, K274, sz274, V274⟩ := hQ274
    have N274 := Fr.app N257 N274q
    have KK274 : Keep h0 T274.heap [] := KK257.trans K274 all0
    have sz_t1 : h0.size ≤ t1 := Nat.le_trans KK257.1 sz274
    have g_t1 : n0 ≤ t1 := Nat.le_trans (Nat.le_trans (Nat.le_trans Z0 E252.1) K257.1) sz274
    have S275 : Go p e below s₁ (eF_com2 m a (0 : Int32) (2 : Int32)) T274 (mkF m 26 #[vR a, vI (0 : Int32), vI (2 : Int32), vR b1, vI (1 : Int32), vU] [(.ref t1)]) := fun t kt => S271 t (st274 t kt)
    clear S271 st274 X257
    have S276 : Go p e below s₁ (eF_com2 m a (0 : Int32) (2 : Int32)) T274 (mkF m 32 #[vR a, vI (0 : Int32), vI (2 : Int32), vR b1, vI (1 : Int32), vR t1] [(.int (1 : Int32)), (.ref t1)]) := fun t kt => S275 t (by
      refine XS.astore X274.here hx rfl (hb hby d4_26) rfl rfl (l' := #[vR a, vI (0 : Int32), vI (2 : Int32), vR b1, vI (1 : Int32), vR t1]) rfl ?_
      show Sp p e below T274 (mkF m 28 #[vR a, vI (0 : Int32), vI (2 : Int32), vR b1, vI (1 : Int32), vR t1] []) _
      refine XS.aload X274.here hx rfl (hb hby d4_28) rfl rfl ?_
      show Sp p e below T274 (mkF m 30 #[vR a, vI (0 : Int32), vI (2 : Int32), vR b1, vI (1 : Int32), vR t1] [(.ref t1)]) _
      refine XS.iload X274.here hx rfl (hb hby d4_30) rfl ?_
      show Sp p e below T274 (mkF m 32 #[vR a, vI (0 : Int32), vI (2 : Int32), vR b1, vI (1 : Int32), vR t1] [(.int (1 : Int32)), (.ref t1)]) _
      exact kt)
    clear S275
    have f277 := (f272.keep K274 all0)
    obtain ⟨v278, T278, L278, X278, hQ278, st278⟩ := own_outS (Jvm.LawKit.callS X274 hx (y := (⟨"java/lang/StringUTF16", "getChar", "([BI)C"⟩ : MethodName)) hown (mvT hZ (own_h hw 104 rfl)) (mvT hZ (own_h hw 105 rfl)) (mvT hZ (own_h hw 18 rfl)) (mvT hZ (own_h hw 106 rfl)) (by decide) (backOf (W := 0) (rm_gch l Z a0 hw [] t1 (1 : Int32) kb274 (4 : Int32) [(.int (StrChars.lo8 c0)), (.int (StrChars.hi8 c0)), (.int (StrChars.lo8 c1)), (.int (StrChars.hi8 c1))] c1 T274.heap n0 (Nat.le_trans (Nat.le_trans (Nat.le_trans Z0 E252.1) K257.1) K274.1) SS f277 V274 (by decide) (by decide) (by rw [show ((1 : Int32) <<< ((1 : Int32) &&& 31)).toNatClampNeg = 2 from by decide]; rfl) (by rw [show (((1 : Int32) <<< ((1 : Int32) &&& 31)) + (1 : Int32)).toNatClampNeg = 3 from by decide]; rfl) hc1) hZ (own_h hw 106 rfl) (own_h hw 18 rfl) (by decide) (by decide)) (g := (mkF m 32 #[vR a, vI (0 : Int32), vI (2 : Int32), vR b1, vI (1 : Int32), vR t1] [(.int (1 : Int32)), (.ref t1)])) rfl (by rw [hml]; rfl) (argsL := [(.ref t1), (.int (1 : Int32))]) (rest := []) (lenOf pd___BI_C rfl) rfl (by show 2 * 0 + _ ≤ _; exact Nat.le_of_eq rfl) (hb hby d4_32) (fun _ _ => ⟨rfl, rfl, (by decide : 2 + 0 ≤ _), (by decide : 6 + 0 ≤ _)⟩))
    obtain ⟨rfl, N278q, e278⟩ := hQ278
    have N278 := Fr.app N274 N278q
    have S279 : Go p e below s₁ (eF_com2 m a (0 : Int32) (2 : Int32)) T278 (mkF m 35 #[vR a, vI (0 : Int32), vI (2 : Int32), vR b1, vI (1 : Int32), vR t1] [(.int c1)]) := fun t kt => S276 t (st278 t kt)
    clear S276 st278 X274
    have S280 : Go p e below s₁ (eF_com2 m a (0 : Int32) (2 : Int32)) T278 (mkF m 38 #[vR a, vI (0 : Int32), vI (2 : Int32), vR b1, vI (1 : Int32), vR t1] [(.int (255 : Int32)), (.int c1)]) := fun t kt => S279 t (by
      refine XS.sipush X278.here hx rfl (hb hby d4_35) ?_
      show Sp p e below T278 (mkF m 38 #[vR a, vI (0 : Int32), vI (2 : Int32), vR b1, vI (1 : Int32), vR t1] [(.int (255 : Int32)), (.int c1)]) _
      exact kt)
    clear S279
    have S281 : Go p e below s₁ (eF_com2 m a (0 : Int32) (2 : Int32)) T278 (mkF m 56 #[vR a, vI (0 : Int32), vI (2 : Int32), vR b1, vI (1 : Int32), vR t1] [(.ref t1)]) := fun t kt => S280 t (by
      refine XS.icmpYes X278.here hx rfl (pc0 := 38) (pc' := 54) rfl (hb hby d4_38) rfl (tlt (show (255 : Int32) < c1 from hk)).2.2.1 (by decide) (by decide) ?_
      show Sp p e below T278 (mkF m 54 #[vR a, vI (0 : Int32), vI (2 : Int32), vR b1, vI (1 : Int32), vR t1] []) _
      refine XS.aload X278.here hx rfl (hb hby d4_54) rfl rfl ?_
      show Sp p e below T278 (mkF m 56 #[vR a, vI (0 : Int32), vI (2 : Int32), vR b1, vI (1 : Int32), vR t1] [(.ref t1)]) _
      exact kt)
    clear S280
    obtain ⟨fs, hr, hrun, hended, hW, hsame⟩ := X278.leave (v := some (.ref t1)) (fun h => by first | rfl | (rw [Bd.returns] at h; cases h))
    refine ⟨_, _, S281 _ ?_, hrun, hended, _, _, rfl, ?_, ⟨_, rfl⟩, hW, hsame.mono (by decide) (by decide)⟩
    · exact retOut X278 hx Bd.returns rfl (Or.inr (Or.inr (Or.inr (Or.inr ⟨rfl, rfl, rfl⟩)))) (hb hby d4_56) hr
    · show Q_com2 Z c0 c1 h0 n0 _ T278.heap _
      rw [e278]
      exact ⟨t1, _, _, _, (1 : Int32), rfl, N278, KK274, sz_t1, V274, Or.inr ⟨rfl, rfl, rfl, ⟨c1, by simp, hk⟩⟩, Or.inr ⟨rfl, rfl⟩⟩
abbrev eF_ini2 (m : MethodId) (x0 : Addr) (x1 : Addr) (x2 : Int32) (x3 : Int32) : JFrame := entryFrame m #[(.ref x0), (.ref x1), (.int x2), (.int x3), .null] 6
theorem ef_ini2 (m : MethodId) (x0 : Addr) (x1 : Addr) (x2 : Int32) (x3 : Int32) : entryFrame m #[(.ref x0), (.ref x1), (.int x2), (.int x3), .null] 6 = mkF m 0 #[.val (.ref x0), .val (.ref x1), .val (.int x2), .val (.int x3), .val .null, .unset] [] := by first | (simp [entryFrame, mkF, argsToLocals, Value.category]; done) | rfl
theorem pn_ini2 : plainName "java/lang/String" = true := by first | (simp [plainName, overriddenIn]; done) | decide +kernel
def Q_ini2 (Z : State) (x : Addr) (c0 : Int32) (c1 : Int32) (h0 : Heap) (n0 : Nat) (v : Option Value) (h : Heap) (L : List Loc) : Prop := v = none ∧ Fr n0 L ∧ Keep h0 h [x] ∧ ∃ t kb n vs cd, h0.size ≤ t ∧ Exa Z h x "java/lang/String" ∧ Fld Z h x "java/lang/String" "coder" "B" (.int cd) ∧ Fld Z h x "java/lang/String" "value" "[B" (.ref t) ∧ Arv Z h t kb .byte n vs (.int (0 : Int32)) ∧ StrChars.Road.CodA [c0, c1] cd n vs
set_option maxRecDepth 65536 in
set_option maxHeartbeats 40000000 in
theorem rm_ini2 (l : Launch) (Z : State) (a0 : Array Value) (hw : ∀ d ∈ tables_1, d.before a0 Z = true) (ws : List Jvm.Cond) (x : Addr) (a : Addr) (ka : ClassId) (c0 : Int32) (c1 : Int32) (h0 : Heap) (n0 : Nat) (Z0 : n0 ≤ h0.size) (SS : own_St Z) (O0 : Old Z n0 h0)(Va : Arv Z h0 a ka .char (2 : Int32) [(.int c0), (.int c1)] (.int (0 : Int32)))(hc0 : own_Ch c0) (hc1 : own_Ch c1)(E0 : Exa Z h0 x "java/lang/String") (F1 : Fld Z h0 x "java/lang/String" "coder" "B" (.int (0 : Int32))) (F2 : Fld Z h0 x "java/lang/String" "value" "[B" .null) (hxa : x ≠ a) (g_x : n0 ≤ x) :
    MetFree l (⟨"java/lang/String", "<init>", "([CIILjava/lang/Void;)V"⟩ : MethodName) (head1 (Jvm.Cond.code (⟨"java/lang/String", "<init>", "([CIILjava/lang/Void;)V"⟩ : MethodName) jdk_42_method_149_code 6 none :: ws) ({ frames := 4, cells := 2, slots := 6, locals := 57 } : Room)) (fun aa U => aa = #[(.ref x), (.ref a), (.int (0 : Int32)), (.int (2 : Int32)), .null] ∧ Z.Warmed39 U.vm ∧ U.heap = h0) (fun _ _ _ _ _ => True) (fun _ U o U' => ∃ v L, o = .returned v ∧ Q_ini2 Z x c0 c1 h0 n0 v U'.heap L ∧ FrameEnd U o U' L ({ frames := 4, cells := 2, slots := 6, locals := 57 } : Room).cells ({ frames := 4, cells := 2, slots := 6, locals := 57 } : Room).slots) := by
  refine MetFree.of_bodySF (plainFor_of_name pn_ini2) hisR ?_
  intro p e s m args below meth c s₁ Bd hml0 hP hK
  obtain ⟨rfl, hZ, hh⟩ := hP
  have hx := Bd.exec
  have hby := Bd.bytes
  have hml : c.maxLocals = 6 := hml0
  have hown : s.vm.findClass "java/lang/String" = some m.cls := findClass_of_methodNamed Bd.named
  have hnm := (name_of_methodNamed Bd.named Bd.method).1
  have X0 : Stand p l e ({ frames := 4, cells := 2, slots := 6, locals := 57 } : Room) s m #[(.ref x), (.ref a), (.int (0 : Int32)), (.int (2 : Int32)), .null] below meth c s₁ [] 0 0 := Stand.of_body Bd
  have e0 : s₁.heap = h0 := by rw [← hh, Bd.state]; rfl
  have N0 := Fr.nil n0
  have S0 : Go p e below s₁ (eF_ini2 m x a (0 : Int32) (2 : Int32)) s₁ (mkF m 0 #[vR x, vR a, vI (0 : Int32), vI (2 : Int32), .val .null, vU] []) := fun t k => castTop (ef_ini2 m x a (0 : Int32) (2 : Int32)) k
  obtain ⟨⟨cz, S_cs, hcz⟩, ⟨fm, S_fm, hfm⟩, S_ad, S_hi, S_lo⟩ := id SS
  have S282 : Go p e below s₁ (eF_ini2 m x a (0 : Int32) (2 : Int32)) s₁ (mkF m 1 #[vR x, vR a, vI (0 : Int32), vI (2 : Int32), .val .null, vU] [(.ref x)]) := fun t kt => S0 t (by
    refine XS.aloadN X0.here hx rfl (hb hby d2_0) rfl rfl ?_
    show Sp p e below s₁ (mkF m 1 #[vR x, vR a, vI (0 : Int32), vI (2 : Int32), .val .null, vU] [(.ref x)]) _
    exact kt)
  clear S0
  obtain ⟨T283, X283, e283, st283⟩ := initO X0 hx hZ hown (own_h hw 12 rfl) (own_h hw 13 rfl) (own_h hw 14 rfl) e0 (g := (mkF m 1 #[vR x, vR a, vI (0 : Int32), vI (2 : Int32), .val .null, vU] [(.ref x)])) rfl (by rw [hml]; rfl) rfl (hb hby d2_1) (by decide) (W := 0) (by show 2 * 0 + _ ≤ _; exact Nat.le_of_eq rfl) (by decide)
  have S284 : Go p e below s₁ (eF_ini2 m x a (0 : Int32) (2 : Int32)) T283 (mkF m 4 #[vR x, vR a, vI (0 : Int32), vI (2 : Int32), .val .null, vU] []) := fun t kt => S282 t (st283 t kt)
  clear S282 st283 X0 e0
  have S285 : Go p e below s₁ (eF_ini2 m x a (0 : Int32) (2 : Int32)) T283 (mkF m 27 #[vR x, vR a, vI (0 : Int32), vI (2 : Int32), .val .null, vU] []) := fun t kt => S284 t (by
    refine XS.iloadN X283.here hx rfl (hb hby d2_4) rfl ?_
    show Sp p e below T283 (mkF m 5 #[vR x, vR a, vI (0 : Int32), vI (2 : Int32), .val .null, vU] [(.int (2 : Int32))]) _
    refine XS.ifYes X283.here hx rfl (pc0 := 5) (pc' := 27) rfl (hb hby d2_5) rfl ((if0 _ _).trans (feq (show ¬ ((2 : Int32) = (0 : Int32)) from (by decide))).2) (by decide) (by decide) ?_
    show Sp p e below T283 (mkF m 27 #[vR x, vR a, vI (0 : Int32), vI (2 : Int32), .val .null, vU] []) _
    exact kt)
  clear S284
  obtain ⟨T286, X286, e286, st286⟩ := getS2 X283 hx hZ hown (host := "") (Or.inl (own_h hw 15 rfl)) Via.refl e283 (S_cs.ext O0.2) (g := (mkF m 27 #[vR x, vR a, vI (0 : Int32), vI (2 : Int32), .val .null, vU] [])) rfl (hb hby d2_27)
  have S287 : Go p e below s₁ (eF_ini2 m x a (0 : Int32) (2 : Int32)) T286 (mkF m 30 #[vR x, vR a, vI (0 : Int32), vI (2 : Int32), .val .null, vU] [(.int cz)]) := fun t kt => S285 t (st286 t kt)
  clear S285 st286 X283 e283
  have S288 : Go p e below s₁ (eF_ini2 m x a (0 : Int32) (2 : Int32)) T286 (mkF m 36 #[vR x, vR a, vI (0 : Int32), vI (2 : Int32), .val .null, vU] [(.int (2 : Int32)), (.int (0 : Int32)), (.ref a)]) := fun t kt => S287 t (by
    refine XS.ifNo X286.here hx rfl (hb hby d2_30) rfl ((if0 _ _).trans (feq (show ¬ (cz = (0 : Int32)) from hcz)).1) ?_
    show Sp p e below T286 (mkF m 33 #[vR x, vR a, vI (0 : Int32), vI (2 : Int32), .val .null, vU] []) _
    refine XS.aloadN X286.here hx rfl (hb hby d2_33) rfl rfl ?_
    show Sp p e below T286 (mkF m 34 #[vR x, vR a, vI (0 : Int32), vI (2 : Int32), .val .null, vU] [(.ref a)]) _
    refine XS.iloadN X286.here hx rfl (hb hby d2_34) rfl ?_
    show Sp p e below T286 (mkF m 35 #[vR x, vR a, vI (0 : Int32), vI (2 : Int32), .val .null, vU] [(.int (0 : Int32)), (.ref a)]) _
    refine XS.iloadN X286.here hx rfl (hb hby d2_35) rfl ?_
    show Sp p e below T286 (mkF m 36 #[vR x, vR a, vI (0 : Int32), vI (2 : Int32), .val .null, vU] [(.int (2 : Int32)), (.int (0 : Int32)), (.ref a)]) _
    exact kt)
  clear S287
  obtain ⟨v289, T289, L289, X289, hQ289, st289⟩ := own_outS (Jvm.LawKit.callS X286 hx (y := (⟨"java/lang/StringUTF16", "compress", "([CII)[B"⟩ : MethodName)) hown (mvT hZ (own_h hw 16 rfl)) (mvT hZ (own_h hw 17 rfl)) (mvT hZ (own_h hw 18 rfl)) (mvT hZ (own_h hw 19 rfl)) (by decide) (backOf (W := 0) (rm_com2 l Z a0 hw [] a ka c0 c1 h0 n0 Z0 SS O0 Va hc0 hc1) hZ (own_h hw 19 rfl) (own_h hw 18 rfl) (by decide) (by decide)) (g := (mkF m 36 #[vR x, vR a, vI (0 : Int32), vI (2 : Int32), .val .null, vU] [(.int (2 : Int32)), (.int (0 : Int32)), (.ref a)])) rfl (by rw [hml]; rfl) (argsL := [(.ref a), (.int (0 : Int32)), (.int (2 : Int32))]) (rest := []) (lenOf pd___CII__B rfl) rfl (by show 2 * 0 + _ ≤ _; exact Nat.le_of_eq rfl) (hb hby d2_36) (fun _ _ => ⟨rfl, e286, (by decide : 0 + 2 ≤ _), (by decide : 0 + 6 ≤ _)⟩))
  obtain ⟨t1, kb289, n, vs, cd, rfl, N289q, K289, sz289, V289, hcod, hdn⟩ := hQ289
  have N289 := Fr.app N0 N289q
  have KK289 : Keep h0 T289.heap [x] := (Keep.refl h0 [x]).trans K289 all0
  have sz_t1 : h0.size ≤ t1 := Nat.le_trans (Keep.refl h0 [x]).1 sz289
  have g_t1 : n0 ≤ t1 := Nat.le_trans Z0 sz289
  have S290 : Go p e below s₁ (eF_ini2 m x a (0 : Int32) (2 : Int32)) T289 (mkF m 39 #[vR x, vR a, vI (0 : Int32), vI (2 : Int32), .val .null, vU] [(.ref t1)]) := fun t kt => S288 t (st289 t kt)
  clear S288 st289 X286 e286
  have S291 : Go p e below s₁ (eF_ini2 m x a (0 : Int32) (2 : Int32)) T289 (mkF m 45 #[vR x, vR a, vI (0 : Int32), vI (2 : Int32), .val .null, vR t1] [(.int (2 : Int32)), (.ref t1), (.ref x)]) := fun t kt => S290 t (by
    refine XS.astore X289.here hx rfl (hb hby d2_39) rfl rfl (l' := #[vR x, vR a, vI (0 : Int32), vI (2 : Int32), .val .null, vR t1]) rfl ?_
    show Sp p e below T289 (mkF m 41 #[vR x, vR a, vI (0 : Int32), vI (2 : Int32), .val .null, vR t1] []) _
    refine XS.aloadN X289.here hx rfl (hb hby d2_41) rfl rfl ?_
    show Sp p e below T289 (mkF m 42 #[vR x, vR a, vI (0 : Int32), vI (2 : Int32), .val .null, vR t1] [(.ref x)]) _
    refine XS.aload X289.here hx rfl (hb hby d2_42) rfl rfl ?_
    show Sp p e below T289 (mkF m 44 #[vR x, vR a, vI (0 : Int32), vI (2 : Int32), .val .null, vR t1] [(.ref t1), (.ref x)]) _
    refine XS.iloadN X289.here hx rfl (hb hby d2_44) rfl ?_
    show Sp p e below T289 (mkF m 45 #[vR x, vR a, vI (0 : Int32), vI (2 : Int32), .val .null, vR t1] [(.int (2 : Int32)), (.ref t1), (.ref x)]) _
    exact kt)
  clear S290
  have hr1 : (((((2 : Int32) - n).toUInt32 >>> ((31 : Int32) &&& 31).toUInt32).toInt32).toInt8.toInt32) = cd := by rcases hdn with ⟨rfl, rfl⟩ | ⟨rfl, rfl⟩ <;> decide
  have hr2 : nar .byte cd = cd := by rcases hdn with ⟨rfl, rfl⟩ | ⟨rfl, rfl⟩ <;> decide
  obtain ⟨v292, T292, L292, X292, hQ292, st292⟩ := own_outS (Jvm.LawKit.callS X289 hx (y := (⟨"java/lang/StringUTF16", "coderFromArrayLen", "([BI)B"⟩ : MethodName)) hown (mvT hZ (own_h hw 24 rfl)) (mvT hZ (own_h hw 25 rfl)) (mvT hZ (own_h hw 18 rfl)) (mvT hZ (own_h hw 26 rfl)) (by decide) (backOf (W := 1) (rm_cfl l Z a0 hw [] t1 (2 : Int32) kb289 n vs cd T289.heap n0 (Nat.le_trans Z0 K289.1) V289 hr1 hr2) hZ (own_h hw 26 rfl) (own_h hw 18 rfl) (by decide) (by decide)) (g := (mkF m 45 #[vR x, vR a, vI (0 : Int32), vI (2 : Int32), .val .null, vR t1] [(.int (2 : Int32)), (.ref t1), (.ref x)])) rfl (by rw [hml]; rfl) (argsL := [(.ref t1), (.int (2 : Int32))]) (rest := [(.ref x)]) (lenOf pd___BI_B rfl) rfl (by show 2 * 0 + _ ≤ _; exact Nat.le_of_eq rfl) (hb hby d2_45) (fun _ _ => ⟨rfl, rfl, (by decide : 2 + 0 ≤ _), (by decide : 6 + 0 ≤ _)⟩))
  obtain ⟨rfl, N292q, e292⟩ := hQ292
  have N292 := Fr.app N289 N292q
  have S293 : Go p e below s₁ (eF_ini2 m x a (0 : Int32) (2 : Int32)) T292 (mkF m 48 #[vR x, vR a, vI (0 : Int32), vI (2 : Int32), .val .null, vR t1] [(.int cd), (.ref x)]) := fun t kt => S291 t (st292 t kt)
  clear S291 st292 X289
  have f294 := (F1.keep K289 nin0)
  have f295 := (E0.keep K289)
  obtain ⟨T296, h296, X296, e296, W296, st296⟩ := putFN X292 hx hZ hown (own_h hw 27 rfl) Via.refl e292 f294 f295 (Or.inr ⟨(own_h hw 28 rfl), rfl, hnm⟩) (own_h hw 3 rfl) (ty := .byte) (v' := .int (cd.toInt8.toInt32)) (by decide) rfl (fits_nar_byte _) (g := (mkF m 48 #[vR x, vR a, vI (0 : Int32), vI (2 : Int32), .val .null, vR t1] [(.int cd), (.ref x)])) rfl rfl (hb hby d2_48)
  rw [show (cd.toInt8.toInt32) = cd from hr2] at W296
  have N296 := Fr.snoc X296 N292 g_x
  have K296 : Keep h0 h296 [x] := KK289.wr W296 (Or.inl (by simp))
  have Fw296 := f294.same W296
  have S297 : Go p e below s₁ (eF_ini2 m x a (0 : Int32) (2 : Int32)) T296 (mkF m 51 #[vR x, vR a, vI (0 : Int32), vI (2 : Int32), .val .null, vR t1] []) := fun t kt => S293 t (st296 t kt)
  clear S293 st296 X292 e292
  have S298 : Go p e below s₁ (eF_ini2 m x a (0 : Int32) (2 : Int32)) T296 (mkF m 54 #[vR x, vR a, vI (0 : Int32), vI (2 : Int32), .val .null, vR t1] [(.ref t1), (.ref x)]) := fun t kt => S297 t (by
    refine XS.aloadN X296.here hx rfl (hb hby d2_51) rfl rfl ?_
    show Sp p e below T296 (mkF m 52 #[vR x, vR a, vI (0 : Int32), vI (2 : Int32), .val .null, vR t1] [(.ref x)]) _
    refine XS.aload X296.here hx rfl (hb hby d2_52) rfl rfl ?_
    show Sp p e below T296 (mkF m 54 #[vR x, vR a, vI (0 : Int32), vI (2 : Int32), .val .null, vR t1] [(.ref t1), (.ref x)]) _
    exact kt)
  clear S297
  have f299 := ((F2.keep K289 nin0).other W296 (Or.inr (slot_ne (C := "java/lang/String") (Or.inr (own_h hw 30 rfl)) (Or.inr (own_h hw 28 rfl)) (by decide) (t := (.array .byte)) (t' := .byte) (by decide) (by decide))))
  have f300 := (f295.wr W296)
  obtain ⟨T301, h301, X301, e301, W301, st301⟩ := putF X296 hx hZ hown (host := "") (Or.inl (own_h hw 29 rfl)) Via.refl e296 f299 f300 (Or.inr ⟨(own_h hw 30 rfl), rfl, hnm⟩) (own_h hw 3 rfl) (ty := (.array .byte)) (by decide) rfl rfl (g := (mkF m 54 #[vR x, vR a, vI (0 : Int32), vI (2 : Int32), .val .null, vR t1] [(.ref t1), (.ref x)])) rfl rfl (hb hby d2_54)
  have N301 := Fr.snoc X301 N296 g_x
  have K301 : Keep h0 h301 [x] := K296.wr W301 (Or.inl (by simp))
  have Fw301 := f299.same W301
  have S302 : Go p e below s₁ (eF_ini2 m x a (0 : Int32) (2 : Int32)) T301 (mkF m 57 #[vR x, vR a, vI (0 : Int32), vI (2 : Int32), .val .null, vR t1] []) := fun t kt => S298 t (st301 t kt)
  clear S298 st301 X296 e296
  have f303 := (f300.wr W301)
  have f304 := (Fw296.other W301 (Or.inr (slot_ne (C := "java/lang/String") (Or.inr (own_h hw 28 rfl)) (Or.inr (own_h hw 30 rfl)) (by decide) (t := .byte) (t' := (.array .byte)) (by decide) (by decide))))
  have ne305 : x ≠ t1 := Nat.ne_of_lt (Nat.lt_of_lt_of_le (E0.lt) sz289)
  have f306 := ((V289.other W296 (Ne.symm ne305)).other W301 (Ne.symm ne305))
  obtain ⟨fs, hr, hrun, hended, hW, hsame⟩ := X301.leave (v := none) (fun h => by first | rfl | (rw [Bd.returns] at h; cases h))
  refine ⟨_, _, S302 _ ?_, hrun, hended, _, _, rfl, ?_, ⟨_, rfl⟩, hW, hsame.mono (by decide) (by decide)⟩
  · exact X301.returnOut hx Bd.returns (hb hby d2_57) hr
  · show Q_ini2 Z x c0 c1 h0 n0 _ T301.heap _
    rw [e301]
    exact ⟨rfl, N301, K301, t1, _, _, _, cd, sz_t1, f303, f304, Fw301, f306, hcod⟩
abbrev eF_str2 (m : MethodId) (x0 : Addr) (x1 : Addr) : JFrame := entryFrame m #[(.ref x0), (.ref x1)] 2
theorem ef_str2 (m : MethodId) (x0 : Addr) (x1 : Addr) : entryFrame m #[(.ref x0), (.ref x1)] 2 = mkF m 0 #[.val (.ref x0), .val (.ref x1)] [] := by first | (simp [entryFrame, mkF, argsToLocals, Value.category]; done) | rfl
theorem pn_str2 : plainName "java/lang/String" = true := by first | (simp [plainName, overriddenIn]; done) | decide +kernel
def Q_str2 (Z : State) (x : Addr) (c0 : Int32) (c1 : Int32) (h0 : Heap) (n0 : Nat) (v : Option Value) (h : Heap) (L : List Loc) : Prop := v = none ∧ Fr n0 L ∧ Keep h0 h [x] ∧ ∃ t kb n vs cd, h0.size ≤ t ∧ Exa Z h x "java/lang/String" ∧ Fld Z h x "java/lang/String" "coder" "B" (.int cd) ∧ Fld Z h x "java/lang/String" "value" "[B" (.ref t) ∧ Arv Z h t kb .byte n vs (.int (0 : Int32)) ∧ StrChars.Road.CodA [c0, c1] cd n vs
set_option maxRecDepth 65536 in
set_option maxHeartbeats 40000000 in
theorem rm_str2 (l : Launch) (Z : State) (a0 : Array Value) (hw : ∀ d ∈ tables_1, d.before a0 Z = true) (ws : List Jvm.Cond) (x : Addr) (a : Addr) (ka : ClassId) (c0 : Int32) (c1 : Int32) (h0 : Heap) (n0 : Nat) (Z0 : n0 ≤ h0.size) (SS : own_St Z) (O0 : Old Z n0 h0)(Va : Arv Z h0 a ka .char (2 : Int32) [(.int c0), (.int c1)] (.int (0 : Int32)))(hc0 : own_Ch c0) (hc1 : own_Ch c1)(E0 : Exa Z h0 x "java/lang/String") (F1 : Fld Z h0 x "java/lang/String" "coder" "B" (.int (0 : Int32))) (F2 : Fld Z h0 x "java/lang/String" "value" "[B" .null) (hxa : x ≠ a) (g_x : n0 ≤ x) :
    MetFree l (⟨"java/lang/String", "<init>", "([C)V"⟩ : MethodName) (head1 (Jvm.Cond.code (⟨"java/lang/String", "<init>", "([C)V"⟩ : MethodName) jdk_42_method_3_code 2 none :: ws) ({ frames := 5, cells := 2, slots := 6, locals := 74 } : Room)) (fun aa U => aa = #[(.ref x), (.ref a)] ∧ Z.Warmed39 U.vm ∧ U.heap = h0) (fun _ _ _ _ _ => True) (fun _ U o U' => ∃ v L, o = .returned v ∧ Q_str2 Z x c0 c1 h0 n0 v U'.heap L ∧ FrameEnd U o U' L ({ frames := 5, cells := 2, slots := 6, locals := 74 } : Room).cells ({ frames := 5, cells := 2, slots := 6, locals := 74 } : Room).slots) := by
  refine MetFree.of_bodySF (plainFor_of_name pn_str2) hisR ?_
  intro p e s m args below meth c s₁ Bd hml0 hP hK
  obtain ⟨rfl, hZ, hh⟩ := hP
  have hx := Bd.exec
  have hby := Bd.bytes
  have hml : c.maxLocals = 2 := hml0
  have hown : s.vm.findClass "java/lang/String" = some m.cls := findClass_of_methodNamed Bd.named
  have hnm := (name_of_methodNamed Bd.named Bd.method).1
  have X0 : Stand p l e ({ frames := 5, cells := 2, slots := 6, locals := 74 } : Room) s m #[(.ref x), (.ref a)] below meth c s₁ [] 0 0 := Stand.of_body Bd
  have e0 : s₁.heap = h0 := by rw [← hh, Bd.state]; rfl
  have N0 := Fr.nil n0
  have S0 : Go p e below s₁ (eF_str2 m x a) s₁ (mkF m 0 #[vR x, vR a] []) := fun t k => castTop (ef_str2 m x a) k
  obtain ⟨⟨cz, S_cs, hcz⟩, ⟨fm, S_fm, hfm⟩, S_ad, S_hi, S_lo⟩ := id SS
  have S307 : Go p e below s₁ (eF_str2 m x a) s₁ (mkF m 4 #[vR x, vR a] [(.ref a), (.int (0 : Int32)), (.ref a), (.ref x)]) := fun t kt => S0 t (by
    refine XS.aloadN X0.here hx rfl (hb hby d1_0) rfl rfl ?_
    show Sp p e below s₁ (mkF m 1 #[vR x, vR a] [(.ref x)]) _
    refine XS.aloadN X0.here hx rfl (hb hby d1_1) rfl rfl ?_
    show Sp p e below s₁ (mkF m 2 #[vR x, vR a] [(.ref a), (.ref x)]) _
    refine XS.iconst X0.here hx rfl (hb hby d1_2) ?_
    show Sp p e below s₁ (mkF m 3 #[vR x, vR a] [(.int (0 : Int32)), (.ref a), (.ref x)]) _
    refine XS.aloadN X0.here hx rfl (hb hby d1_3) rfl rfl ?_
    show Sp p e below s₁ (mkF m 4 #[vR x, vR a] [(.ref a), (.int (0 : Int32)), (.ref a), (.ref x)]) _
    exact kt)
  clear S0
  obtain ⟨co308, Ao308, qo308, So308, No308, Ho308, Go308⟩ := id Va
  have S309 : Go p e below s₁ (eF_str2 m x a) s₁ (mkF m 6 #[vR x, vR a] [.null, (.int (2 : Int32)), (.int (0 : Int32)), (.ref a), (.ref x)]) := fun t kt => S307 t (by
    refine X0.arraylength hx (by rw [e0]; exact Ao308.1) (State.isArrayOf_alike hZ.alike Ao308.2.1) (g := (mkF m 4 #[vR x, vR a] [(.ref a), (.int (0 : Int32)), (.ref a), (.ref x)])) rfl rfl (hb hby d1_4) _ ?_
    rw [len_of So308 No308]
    show Sp p e below s₁ (mkF m 5 #[vR x, vR a] [(.int (2 : Int32)), (.int (0 : Int32)), (.ref a), (.ref x)]) _
    refine XS.aconstNull X0.here hx rfl (hb hby d1_5) ?_
    show Sp p e below s₁ (mkF m 6 #[vR x, vR a] [.null, (.int (2 : Int32)), (.int (0 : Int32)), (.ref a), (.ref x)]) _
    exact kt)
  clear S307
  obtain ⟨v310, T310, L310, X310, hQ310, st310⟩ := own_outV (X0.specialBack hx (y := (⟨"java/lang/String", "<init>", "([CIILjava/lang/Void;)V"⟩ : MethodName)) rfl hown (mvT hZ (own_h hw 8 rfl)) (mvT hZ (own_h hw 9 rfl)) (mvT hZ (own_h hw 11 rfl)) (by decide) (backOf (W := 0) (rm_ini2 l Z a0 hw [] x a ka c0 c1 h0 n0 Z0 SS O0 Va hc0 hc1 E0 F1 F2 hxa g_x) hZ (own_h hw 11 rfl) (own_h hw 4 rfl) (by decide) (by decide)) (g := (mkF m 6 #[vR x, vR a] [.null, (.int (2 : Int32)), (.int (0 : Int32)), (.ref a), (.ref x)])) rfl (by rw [hml]; rfl) (Steps.refl _) (a := x) (argsL := [(.ref a), (.int (0 : Int32)), (.int (2 : Int32)), .null]) (rest := []) (lenOf pd___CIILjava_lang_Void__V rfl) rfl (by show 2 * 0 + _ ≤ _; exact Nat.le_of_eq rfl) (hb hby d1_6) (fun _ _ => ⟨rfl, e0, (by decide : 0 + 2 ≤ _), (by decide : 0 + 6 ≤ _)⟩))
  obtain ⟨rfl, N310q, K310, hrest⟩ := hQ310
  have N310 := Fr.app N0 N310q
  have KK310 : Keep h0 T310.heap [x] := (Keep.refl h0 [x]).trans K310 (allS (Or.inl (by simp)) all0)
  have S311 : Go p e below s₁ (eF_str2 m x a) T310 (mkF m 9 #[vR x, vR a] []) := fun t kt => S309 t (st310 t kt)
  clear S309 st310 X0 e0
  obtain ⟨fs, hr, hrun, hended, hW, hsame⟩ := X310.leave (v := none) (fun h => by first | rfl | (rw [Bd.returns] at h; cases h))
  refine ⟨_, _, S311 _ ?_, hrun, hended, _, _, rfl, ?_, ⟨_, rfl⟩, hW, hsame.mono (by decide) (by decide)⟩
  · exact X310.returnOut hx Bd.returns (hb hby d1_9) hr
  · show Q_str2 Z x c0 c1 h0 n0 _ T310.heap _
    exact ⟨rfl, N310, KK310, hrest⟩
abbrev eF_nbl3 (m : MethodId) (x0 : Int32) : JFrame := entryFrame m #[(.int x0)] 1
theorem ef_nbl3 (m : MethodId) (x0 : Int32) : entryFrame m #[(.int x0)] 1 = mkF m 0 #[.val (.int x0)] [] := by first | (simp [entryFrame, mkF, argsToLocals, Value.category]; done) | rfl
theorem pn_nbl3 : plainName "java/lang/StringUTF16" = true := by first | (simp [plainName, overriddenIn]; done) | decide +kernel
def Q_nbl3 (Z : State)  (h0 : Heap) (n0 : Nat) (v : Option Value) (h : Heap) (L : List Loc) : Prop := v = some (.int (6 : Int32)) ∧ Fr n0 L ∧ h = h0
set_option maxRecDepth 65536 in
set_option maxHeartbeats 40000000 in
theorem rm_nbl3 (l : Launch) (Z : State) (a0 : Array Value) (hw : ∀ d ∈ tables_1, d.before a0 Z = true) (ws : List Jvm.Cond)  (h0 : Heap) (n0 : Nat) (Z0 : n0 ≤ h0.size)  :
    MetFree l (⟨"java/lang/StringUTF16", "newBytesLength", "(I)I"⟩ : MethodName) (head1 (Jvm.Cond.code (⟨"java/lang/StringUTF16", "newBytesLength", "(I)I"⟩ : MethodName) jdk_52_method_3_code 1 (some .int) :: ws) ({ frames := 0, cells := 0, slots := 0, locals := 0 } : Room)) (fun aa U => aa = #[(.int (3 : Int32))] ∧ Z.Warmed39 U.vm ∧ U.heap = h0) (fun _ _ _ _ _ => True) (fun _ U o U' => ∃ v L, o = .returned v ∧ Q_nbl3 Z  h0 n0 v U'.heap L ∧ FrameEnd U o U' L ({ frames := 0, cells := 0, slots := 0, locals := 0 } : Room).cells ({ frames := 0, cells := 0, slots := 0, locals := 0 } : Room).slots) := by
  refine MetFree.of_bodySF (plainFor_of_name pn_nbl3) hisR ?_
  intro p e s m args below meth c s₁ Bd hml0 hP hK
  obtain ⟨rfl, hZ, hh⟩ := hP
  have hx := Bd.exec
  have hby := Bd.bytes
  have hml : c.maxLocals = 1 := hml0
  have hown : s.vm.findClass "java/lang/StringUTF16" = some m.cls := findClass_of_methodNamed Bd.named
  have hnm := (name_of_methodNamed Bd.named Bd.method).1
  have X0 : Stand p l e ({ frames := 0, cells := 0, slots := 0, locals := 0 } : Room) s m #[(.int (3 : Int32))] below meth c s₁ [] 0 0 := Stand.of_body Bd
  have e0 : s₁.heap = h0 := by rw [← hh, Bd.state]; rfl
  have N0 := Fr.nil n0
  have S0 : Go p e below s₁ (eF_nbl3 m (3 : Int32)) s₁ (mkF m 0 #[vI (3 : Int32)] []) := fun t k => castTop (ef_nbl3 m (3 : Int32)) k
  have S312 : Go p e below s₁ (eF_nbl3 m (3 : Int32)) s₁ (mkF m 58 #[vI (3 : Int32)] [(.int ((3 : Int32) <<< ((1 : Int32) &&& 31)))]) := fun t kt => S0 t (by
    refine XS.iloadN X0.here hx rfl (hb hby d22_0) rfl ?_
    show Sp p e below s₁ (mkF m 1 #[vI (3 : Int32)] [(.int (3 : Int32))]) _
    refine XS.ifYes X0.here hx rfl (pc0 := 1) (pc' := 12) rfl (hb hby d22_1) rfl ((if0 _ _).trans (flt (show ¬ ((3 : Int32) < (0 : Int32)) from (by decide))).2.1) (by decide) (by decide) ?_
    show Sp p e below s₁ (mkF m 12 #[vI (3 : Int32)] []) _
    refine XS.iloadN X0.here hx rfl (hb hby d22_12) rfl ?_
    show Sp p e below s₁ (mkF m 13 #[vI (3 : Int32)] [(.int (3 : Int32))]) _
    refine X0.ldcInt hx hown (mvT hZ (own_h hw 97 rfl)) (g := (mkF m 13 #[vI (3 : Int32)] [(.int (3 : Int32))])) rfl (hb hby d22_13) _ ?_
    show Sp p e below s₁ (mkF m 15 #[vI (3 : Int32)] [(.int (1073741823 : Int32)), (.int (3 : Int32))]) _
    refine XS.icmpYes X0.here hx rfl (pc0 := 15) (pc' := 55) rfl (hb hby d22_15) rfl (tlt (show (3 : Int32) < (1073741823 : Int32) from (by decide))).1 (by decide) (by decide) ?_
    show Sp p e below s₁ (mkF m 55 #[vI (3 : Int32)] []) _
    refine XS.iloadN X0.here hx rfl (hb hby d22_55) rfl ?_
    show Sp p e below s₁ (mkF m 56 #[vI (3 : Int32)] [(.int (3 : Int32))]) _
    refine XS.iconst X0.here hx rfl (hb hby d22_56) ?_
    show Sp p e below s₁ (mkF m 57 #[vI (3 : Int32)] [(.int (1 : Int32)), (.int (3 : Int32))]) _
    refine XS.ishl X0.here hx rfl (hb hby d22_57) rfl ?_
    show Sp p e below s₁ (mkF m 58 #[vI (3 : Int32)] [(.int ((3 : Int32) <<< ((1 : Int32) &&& 31)))]) _
    exact kt)
  clear S0
  have q314 : ((3 : Int32) <<< ((1 : Int32) &&& 31)) = (6 : Int32) := by decide
  have S313 : Go p e below s₁ (eF_nbl3 m (3 : Int32)) s₁ (mkF m 58 #[vI (3 : Int32)] [(.int (6 : Int32))]) := by have h := S312; rw [q314] at h; exact h
  clear S312
  obtain ⟨fs, hr, hrun, hended, hW, hsame⟩ := X0.leave (v := some (.int (6 : Int32))) (fun h => by first | rfl | (rw [Bd.returns] at h; cases h))
  refine ⟨_, _, S313 _ ?_, hrun, hended, _, _, rfl, ?_, ⟨_, rfl⟩, hW, hsame.mono (by decide) (by decide)⟩
  · exact retI X0 hx Bd.returns (hb hby d22_58) hr
  · show Q_nbl3 Z  h0 n0 _ s₁.heap _
    rw [e0]
    exact ⟨rfl, N0, rfl⟩
abbrev eF_nbf3 (m : MethodId) (x0 : Int32) : JFrame := entryFrame m #[(.int x0)] 1
theorem ef_nbf3 (m : MethodId) (x0 : Int32) : entryFrame m #[(.int x0)] 1 = mkF m 0 #[.val (.int x0)] [] := by first | (simp [entryFrame, mkF, argsToLocals, Value.category]; done) | rfl
theorem pn_nbf3 : plainName "java/lang/StringUTF16" = true := by first | (simp [plainName, overriddenIn]; done) | decide +kernel
def Q_nbf3 (Z : State)  (h0 : Heap) (n0 : Nat) (v : Option Value) (h : Heap) (L : List Loc) : Prop := ∃ t kb, v = some (.ref t) ∧ Fr n0 L ∧ Keep h0 h [] ∧ h0.size ≤ t ∧ Arv Z h t kb .byte (6 : Int32) [(.int (0 : Int32)), (.int (0 : Int32)), (.int (0 : Int32)), (.int (0 : Int32)), (.int (0 : Int32)), (.int (0 : Int32))] (.int (0 : Int32))
set_option maxRecDepth 65536 in
set_option maxHeartbeats 40000000 in
theorem rm_nbf3 (l : Launch) (Z : State) (a0 : Array Value) (hw : ∀ d ∈ tables_1, d.before a0 Z = true) (ws : List Jvm.Cond)  (h0 : Heap) (n0 : Nat) (Z0 : n0 ≤ h0.size)  :
    MetFree l (⟨"java/lang/StringUTF16", "newBytesFor", "(I)[B"⟩ : MethodName) (head1 (Jvm.Cond.code (⟨"java/lang/StringUTF16", "newBytesFor", "(I)[B"⟩ : MethodName) jdk_52_method_2_code 1 (some (.array .byte)) :: ws) ({ frames := 1, cells := 1, slots := 6, locals := 12 } : Room)) (fun aa U => aa = #[(.int (3 : Int32))] ∧ Z.Warmed39 U.vm ∧ U.heap = h0) (fun _ _ _ _ _ => True) (fun _ U o U' => ∃ v L, o = .returned v ∧ Q_nbf3 Z  h0 n0 v U'.heap L ∧ FrameEnd U o U' L ({ frames := 1, cells := 1, slots := 6, locals := 12 } : Room).cells ({ frames := 1, cells := 1, slots := 6, locals := 12 } : Room).slots) := by
  refine MetFree.of_bodySF (plainFor_of_name pn_nbf3) hisR ?_
  intro p e s m args below meth c s₁ Bd hml0 hP hK
  obtain ⟨rfl, hZ, hh⟩ := hP
  have hx := Bd.exec
  have hby := Bd.bytes
  have hml : c.maxLocals = 1 := hml0
  have hown : s.vm.findClass "java/lang/StringUTF16" = some m.cls := findClass_of_methodNamed Bd.named
  have hnm := (name_of_methodNamed Bd.named Bd.method).1
  have X0 : Stand p l e ({ frames := 1, cells := 1, slots := 6, locals := 12 } : Room) s m #[(.int (3 : Int32))] below meth c s₁ [] 0 0 := Stand.of_body Bd
  have e0 : s₁.heap = h0 := by rw [← hh, Bd.state]; rfl
  have N0 := Fr.nil n0
  have S0 : Go p e below s₁ (eF_nbf3 m (3 : Int32)) s₁ (mkF m 0 #[vI (3 : Int32)] []) := fun t k => castTop (ef_nbf3 m (3 : Int32)) k
  have S315 : Go p e below s₁ (eF_nbf3 m (3 : Int32)) s₁ (mkF m 1 #[vI (3 : Int32)] [(.int (3 : Int32))]) := fun t kt => S0 t (by
    refine XS.iloadN X0.here hx rfl (hb hby d21_0) rfl ?_
    show Sp p e below s₁ (mkF m 1 #[vI (3 : Int32)] [(.int (3 : Int32))]) _
    exact kt)
  clear S0
  obtain ⟨v316, T316, L316, X316, hQ316, st316⟩ := own_outS (Jvm.LawKit.callS X0 hx (y := (⟨"java/lang/StringUTF16", "newBytesLength", "(I)I"⟩ : MethodName)) hown (mvT hZ (own_h hw 94 rfl)) (mvT hZ (own_h hw 95 rfl)) (mvT hZ (own_h hw 18 rfl)) (mvT hZ (own_h hw 96 rfl)) (by decide) (backOf (W := 0) (rm_nbl3 l Z a0 hw [] h0 n0 Z0) hZ (own_h hw 96 rfl) (own_h hw 18 rfl) (by decide) (by decide)) (g := (mkF m 1 #[vI (3 : Int32)] [(.int (3 : Int32))])) rfl (by rw [hml]; rfl) (argsL := [(.int (3 : Int32))]) (rest := []) (lenOf pd__I_I rfl) rfl (by show 2 * 0 + _ ≤ _; exact Nat.le_of_eq rfl) (hb hby d21_1) (fun _ _ => ⟨rfl, e0, (by decide : 0 + 0 ≤ _), (by decide : 0 + 0 ≤ _)⟩))
  obtain ⟨rfl, N316q, e316⟩ := hQ316
  have N316 := Fr.app N0 N316q
  have S317 : Go p e below s₁ (eF_nbf3 m (3 : Int32)) T316 (mkF m 4 #[vI (3 : Int32)] [(.int (6 : Int32))]) := fun t kt => S315 t (st316 t kt)
  clear S315 st316 X0 e0
  obtain ⟨T318, h318, k318, X318, e318, E318, A318, st318⟩ := newP X316 hx hZ (own_h hw 20 rfl) e316 (g := (mkF m 4 #[vI (3 : Int32)] [(.int (6 : Int32))])) rfl (hb hby d21_4) rfl (by decide) (cap := 6) (by decide) (by decide) (by decide) (by decide)
  obtain ⟨t1, g318⟩ : ∃ z, z = h0.size := ⟨_, rfl⟩
  rw [← g318] at A318 st318
  have g_t1 : n0 ≤ t1 := Nat.le_trans Z0 (Nat.le_of_eq g318.symm)
  have sz_t1 : h0.size ≤ t1 := Nat.le_trans (Keep.refl h0 []).1 (Nat.le_of_eq g318.symm)
  have K318 : Keep h0 h318 [] := (Keep.refl h0 []).ext E318
  have V318 : Arv Z h318 t1 k318 .byte (6 : Int32) [(.int (0 : Int32)), (.int (0 : Int32)), (.int (0 : Int32)), (.int (0 : Int32)), (.int (0 : Int32)), (.int (0 : Int32))] (.int (0 : Int32)) := (Arv.new A318 (by decide)).pad (pad_rep [] _ 6)
  have S319 : Go p e below s₁ (eF_nbf3 m (3 : Int32)) T318 (mkF m 6 #[vI (3 : Int32)] [(.ref t1)]) := fun t kt => S317 t (st318 t kt)
  clear S317 st318 X316 e316
  obtain ⟨fs, hr, hrun, hended, hW, hsame⟩ := X318.leave (v := some (.ref t1)) (fun h => by first | rfl | (rw [Bd.returns] at h; cases h))
  refine ⟨_, _, S319 _ ?_, hrun, hended, _, _, rfl, ?_, ⟨_, rfl⟩, hW, hsame.mono (by decide) (by decide)⟩
  · exact retOut X318 hx Bd.returns rfl (Or.inr (Or.inr (Or.inr (Or.inr ⟨rfl, rfl, rfl⟩)))) (hb hby d21_6) hr
  · show Q_nbf3 Z  h0 n0 _ T318.heap _
    rw [e318]
    exact ⟨t1, _, rfl, N316, K318, sz_t1, V318⟩
abbrev eF_tob3 (m : MethodId) (x0 : Addr) (x1 : Int32) (x2 : Int32) : JFrame := entryFrame m #[(.ref x0), (.int x1), (.int x2)] 5
theorem ef_tob3 (m : MethodId) (x0 : Addr) (x1 : Int32) (x2 : Int32) : entryFrame m #[(.ref x0), (.int x1), (.int x2)] 5 = mkF m 0 #[.val (.ref x0), .val (.int x1), .val (.int x2), .unset, .unset] [] := by first | (simp [entryFrame, mkF, argsToLocals, Value.category]; done) | rfl
theorem pn_tob3 : plainName "java/lang/StringUTF16" = true := by first | (simp [plainName, overriddenIn]; done) | decide +kernel
def Q_tob3 (Z : State) (c0 : Int32) (c1 : Int32) (c2 : Int32) (h0 : Heap) (n0 : Nat) (v : Option Value) (h : Heap) (L : List Loc) : Prop := ∃ t kb, v = some (.ref t) ∧ Fr n0 L ∧ Keep h0 h [] ∧ h0.size ≤ t ∧ Arv Z h t kb .byte (6 : Int32) [(.int (StrChars.lo8 c0)), (.int (StrChars.hi8 c0)), (.int (StrChars.lo8 c1)), (.int (StrChars.hi8 c1)), (.int (StrChars.lo8 c2)), (.int (StrChars.hi8 c2))] (.int (0 : Int32))
set_option maxRecDepth 65536 in
set_option maxHeartbeats 40000000 in
theorem rm_tob3 (l : Launch) (Z : State) (a0 : Array Value) (hw : ∀ d ∈ tables_1, d.before a0 Z = true) (ws : List Jvm.Cond) (a : Addr) (ka : ClassId) (c0 : Int32) (c1 : Int32) (c2 : Int32) (h0 : Heap) (n0 : Nat) (Z0 : n0 ≤ h0.size) (SS : own_St Z) (O0 : Old Z n0 h0)(Va : Arv Z h0 a ka .char (3 : Int32) [(.int c0), (.int c1), (.int c2)] (.int (0 : Int32))) :
    MetFree l (⟨"java/lang/StringUTF16", "toBytes", "([CII)[B"⟩ : MethodName) (head1 (Jvm.Cond.code (⟨"java/lang/StringUTF16", "toBytes", "([CII)[B"⟩ : MethodName) jdk_52_method_14_code 5 (some (.array .byte)) :: ws) ({ frames := 2, cells := 1, slots := 6, locals := 24 } : Room)) (fun aa U => aa = #[(.ref a), (.int (0 : Int32)), (.int (3 : Int32))] ∧ Z.Warmed39 U.vm ∧ U.heap = h0) (fun _ _ _ _ _ => True) (fun _ U o U' => ∃ v L, o = .returned v ∧ Q_tob3 Z c0 c1 c2 h0 n0 v U'.heap L ∧ FrameEnd U o U' L ({ frames := 2, cells := 1, slots := 6, locals := 24 } : Room).cells ({ frames := 2, cells := 1, slots := 6, locals := 24 } : Room).slots) := by
  refine MetFree.of_bodySF (plainFor_of_name pn_tob3) hisR ?_
  intro p e s m args below meth c s₁ Bd hml0 hP hK
  obtain ⟨rfl, hZ, hh⟩ := hP
  have hx := Bd.exec
  have hby := Bd.bytes
  have hml : c.maxLocals = 5 := hml0
  have hown : s.vm.findClass "java/lang/StringUTF16" = some m.cls := findClass_of_methodNamed Bd.named
  have hnm := (name_of_methodNamed Bd.named Bd.method).1
  have X0 : Stand p l e ({ frames := 2, cells := 1, slots := 6, locals := 24 } : Room) s m #[(.ref a), (.int (0 : Int32)), (.int (3 : Int32))] below meth c s₁ [] 0 0 := Stand.of_body Bd
  have e0 : s₁.heap = h0 := by rw [← hh, Bd.state]; rfl
  have N0 := Fr.nil n0
  have S0 : Go p e below s₁ (eF_tob3 m a (0 : Int32) (3 : Int32)) s₁ (mkF m 0 #[vR a, vI (0 : Int32), vI (3 : Int32), vU, vU] []) := fun t k => castTop (ef_tob3 m a (0 : Int32) (3 : Int32)) k
  obtain ⟨⟨cz, S_cs, hcz⟩, ⟨fm, S_fm, hfm⟩, S_ad, S_hi, S_lo⟩ := id SS
  have S320 : Go p e below s₁ (eF_tob3 m a (0 : Int32) (3 : Int32)) s₁ (mkF m 1 #[vR a, vI (0 : Int32), vI (3 : Int32), vU, vU] [(.int (3 : Int32))]) := fun t kt => S0 t (by
    refine XS.iloadN X0.here hx rfl (hb hby d20_0) rfl ?_
    show Sp p e below s₁ (mkF m 1 #[vR a, vI (0 : Int32), vI (3 : Int32), vU, vU] [(.int (3 : Int32))]) _
    exact kt)
  clear S0
  obtain ⟨v321, T321, L321, X321, hQ321, st321⟩ := own_outS (Jvm.LawKit.callS X0 hx (y := (⟨"java/lang/StringUTF16", "newBytesFor", "(I)[B"⟩ : MethodName)) hown (mvT hZ (own_h hw 91 rfl)) (mvT hZ (own_h hw 92 rfl)) (mvT hZ (own_h hw 18 rfl)) (mvT hZ (own_h hw 93 rfl)) (by decide) (backOf (W := 0) (rm_nbf3 l Z a0 hw [] h0 n0 Z0) hZ (own_h hw 93 rfl) (own_h hw 18 rfl) (by decide) (by decide)) (g := (mkF m 1 #[vR a, vI (0 : Int32), vI (3 : Int32), vU, vU] [(.int (3 : Int32))])) rfl (by rw [hml]; rfl) (argsL := [(.int (3 : Int32))]) (rest := []) (lenOf pd__I__B rfl) rfl (by show 2 * 0 + _ ≤ _; exact Nat.le_of_eq rfl) (hb hby d20_1) (fun _ _ => ⟨rfl, e0, (by decide : 0 + 1 ≤ _), (by decide : 0 + 6 ≤ _)⟩))
  obtain ⟨t1, kb321, rfl, N321q, K321, sz321, V321⟩ := hQ321
  have N321 := Fr.app N0 N321q
  have KK321 : Keep h0 T321.heap [] := (Keep.refl h0 []).trans K321 all0
  have sz_t1 : h0.size ≤ t1 := Nat.le_trans (Keep.refl h0 []).1 sz321
  have g_t1 : n0 ≤ t1 := Nat.le_trans Z0 sz321
  have S322 : Go p e below s₁ (eF_tob3 m a (0 : Int32) (3 : Int32)) T321 (mkF m 4 #[vR a, vI (0 : Int32), vI (3 : Int32), vU, vU] [(.ref t1)]) := fun t kt => S320 t (st321 t kt)
  clear S320 st321 X0 e0
  have S323 : Go p e below s₁ (eF_tob3 m a (0 : Int32) (3 : Int32)) T321 (mkF m 19 #[vR a, vI (0 : Int32), vI (3 : Int32), vR t1, vI (0 : Int32)] [(.int (0 : Int32)), (.ref a), (.int (0 : Int32)), (.ref t1)]) := fun t kt => S322 t (by
    refine XS.astoreN X321.here hx rfl (hb hby d20_4) rfl rfl (l' := #[vR a, vI (0 : Int32), vI (3 : Int32), vR t1, vU]) rfl ?_
    show Sp p e below T321 (mkF m 5 #[vR a, vI (0 : Int32), vI (3 : Int32), vR t1, vU] []) _
    refine XS.iconst X321.here hx rfl (hb hby d20_5) ?_
    show Sp p e below T321 (mkF m 6 #[vR a, vI (0 : Int32), vI (3 : Int32), vR t1, vU] [(.int (0 : Int32))]) _
    refine XS.istore X321.here hx rfl (hb hby d20_6) rfl (l' := #[vR a, vI (0 : Int32), vI (3 : Int32), vR t1, vI (0 : Int32)]) rfl ?_
    show Sp p e below T321 (mkF m 8 #[vR a, vI (0 : Int32), vI (3 : Int32), vR t1, vI (0 : Int32)] []) _
    refine XS.iload X321.here hx rfl (hb hby d20_8) rfl ?_
    show Sp p e below T321 (mkF m 10 #[vR a, vI (0 : Int32), vI (3 : Int32), vR t1, vI (0 : Int32)] [(.int (0 : Int32))]) _
    refine XS.iloadN X321.here hx rfl (hb hby d20_10) rfl ?_
    show Sp p e below T321 (mkF m 11 #[vR a, vI (0 : Int32), vI (3 : Int32), vR t1, vI (0 : Int32)] [(.int (3 : Int32)), (.int (0 : Int32))]) _
    refine XS.icmpNo X321.here hx rfl (hb hby d20_11) rfl (tlt (show (0 : Int32) < (3 : Int32) from (by decide))).2.1 ?_
    show Sp p e below T321 (mkF m 14 #[vR a, vI (0 : Int32), vI (3 : Int32), vR t1, vI (0 : Int32)] []) _
    refine XS.aloadN X321.here hx rfl (hb hby d20_14) rfl rfl ?_
    show Sp p e below T321 (mkF m 15 #[vR a, vI (0 : Int32), vI (3 : Int32), vR t1, vI (0 : Int32)] [(.ref t1)]) _
    refine XS.iload X321.here hx rfl (hb hby d20_15) rfl ?_
    show Sp p e below T321 (mkF m 17 #[vR a, vI (0 : Int32), vI (3 : Int32), vR t1, vI (0 : Int32)] [(.int (0 : Int32)), (.ref t1)]) _
    refine XS.aloadN X321.here hx rfl (hb hby d20_17) rfl rfl ?_
    show Sp p e below T321 (mkF m 18 #[vR a, vI (0 : Int32), vI (3 : Int32), vR t1, vI (0 : Int32)] [(.ref a), (.int (0 : Int32)), (.ref t1)]) _
    refine XS.iloadN X321.here hx rfl (hb hby d20_18) rfl ?_
    show Sp p e below T321 (mkF m 19 #[vR a, vI (0 : Int32), vI (3 : Int32), vR t1, vI (0 : Int32)] [(.int (0 : Int32)), (.ref a), (.int (0 : Int32)), (.ref t1)]) _
    exact kt)
  clear S322
  have f324 := (Va.keep K321 nin0)
  obtain ⟨co325, Ao325, qo325, So325, No325, Ho325, Go325⟩ := id f324
  have hino325 : ¬ ((0 : Int32) < 0 ∨ co325.slots.size ≤ ((0 : Int32)).toNatClampNeg) := inb_of So325 ⟨by decide, by decide⟩
  have hato325 : co325.slots[((0 : Int32)).toNatClampNeg]? = some (.int c0) := Has.at Ho325 hino325 rfl
  have S326 : Go p e below s₁ (eF_tob3 m a (0 : Int32) (3 : Int32)) T321 (mkF m 20 #[vR a, vI (0 : Int32), vI (3 : Int32), vR t1, vI (0 : Int32)] [(.int c0), (.int (0 : Int32)), (.ref t1)]) := fun t kt => S323 t (by
    refine X321.caload hx (j := (0 : Int32)) (v := (.int c0)) Ao325.1 (State.isArrayOf_alike hZ.alike Ao325.2.1) Ao325.2.2 hino325 hato325 (g := (mkF m 19 #[vR a, vI (0 : Int32), vI (3 : Int32), vR t1, vI (0 : Int32)] [(.int (0 : Int32)), (.ref a), (.int (0 : Int32)), (.ref t1)])) rfl rfl (hb hby d20_19) _ ?_
    show Sp p e below T321 (mkF m 20 #[vR a, vI (0 : Int32), vI (3 : Int32), vR t1, vI (0 : Int32)] [(.int c0), (.int (0 : Int32)), (.ref t1)]) _
    exact kt)
  clear S323
  have f327 := (O0.keep K321 all0)
  obtain ⟨v328, T328, L328, X328, hQ328, st328⟩ := own_outS (Jvm.LawKit.callS X321 hx (y := (⟨"java/lang/StringUTF16", "putChar", "([BII)V"⟩ : MethodName)) hown (mvT hZ (own_h hw 98 rfl)) (mvT hZ (own_h hw 99 rfl)) (mvT hZ (own_h hw 18 rfl)) (mvT hZ (own_h hw 100 rfl)) (by decide) (backOf (W := 0) (rm_pch l Z a0 hw [] t1 (0 : Int32) c0 kb321 (6 : Int32) [(.int (0 : Int32)), (.int (0 : Int32)), (.int (0 : Int32)), (.int (0 : Int32)), (.int (0 : Int32)), (.int (0 : Int32))] 0 T321.heap n0 (Nat.le_trans Z0 K321.1) SS f327 V321 (by decide) (by decide) (by decide) (by decide) (Nat.le_of_ble_eq_true rfl) g_t1) hZ (own_h hw 100 rfl) (own_h hw 18 rfl) (by decide) (by decide)) (g := (mkF m 20 #[vR a, vI (0 : Int32), vI (3 : Int32), vR t1, vI (0 : Int32)] [(.int c0), (.int (0 : Int32)), (.ref t1)])) rfl (by rw [hml]; rfl) (argsL := [(.ref t1), (.int (0 : Int32)), (.int c0)]) (rest := []) (lenOf pd___BII_V rfl) rfl (by show 2 * 0 + _ ≤ _; exact Nat.le_of_eq rfl) (hb hby d20_20) (fun _ _ => ⟨rfl, rfl, (by decide : 1 + 0 ≤ _), (by decide : 6 + 0 ≤ _)⟩))
  obtain ⟨rfl, N328q, K328, V328⟩ := hQ328
  have N328 := Fr.app N321 N328q
  have KK328 : Keep h0 T328.heap [] := KK321.trans K328 (allS (Or.inr sz_t1) all0)
  have S329 : Go p e below s₁ (eF_tob3 m a (0 : Int32) (3 : Int32)) T328 (mkF m 23 #[vR a, vI (0 : Int32), vI (3 : Int32), vR t1, vI (0 : Int32)] []) := fun t kt => S326 t (st328 t kt)
  clear S326 st328 X321
  have S330 : Go p e below s₁ (eF_tob3 m a (0 : Int32) (3 : Int32)) T328 (mkF m 11 #[vR a, vI ((0 : Int32) + (1 : Int32)), vI (3 : Int32), vR t1, vI ((0 : Int32) + (1 : Int32))] [(.int (3 : Int32)), (.int ((0 : Int32) + (1 : Int32)))]) := fun t kt => S329 t (by
    refine XS.iinc X328.here hx rfl (hb hby d20_23) rfl (l' := #[vR a, vI ((0 : Int32) + (1 : Int32)), vI (3 : Int32), vR t1, vI (0 : Int32)]) rfl ?_
    show Sp p e below T328 (mkF m 26 #[vR a, vI ((0 : Int32) + (1 : Int32)), vI (3 : Int32), vR t1, vI (0 : Int32)] []) _
    refine XS.iinc X328.here hx rfl (hb hby d20_26) rfl (l' := #[vR a, vI ((0 : Int32) + (1 : Int32)), vI (3 : Int32), vR t1, vI ((0 : Int32) + (1 : Int32))]) rfl ?_
    show Sp p e below T328 (mkF m 29 #[vR a, vI ((0 : Int32) + (1 : Int32)), vI (3 : Int32), vR t1, vI ((0 : Int32) + (1 : Int32))] []) _
    refine XS.goto X328.here hx rfl (pc0 := 29) (pc' := 8) rfl (hb hby d20_29) (by decide) (by decide) ?_
    show Sp p e below T328 (mkF m 8 #[vR a, vI ((0 : Int32) + (1 : Int32)), vI (3 : Int32), vR t1, vI ((0 : Int32) + (1 : Int32))] []) _
    refine XS.iload X328.here hx rfl (hb hby d20_8) rfl ?_
    show Sp p e below T328 (mkF m 10 #[vR a, vI ((0 : Int32) + (1 : Int32)), vI (3 : Int32), vR t1, vI ((0 : Int32) + (1 : Int32))] [(.int ((0 : Int32) + (1 : Int32)))]) _
    refine XS.iloadN X328.here hx rfl (hb hby d20_10) rfl ?_
    show Sp p e below T328 (mkF m 11 #[vR a, vI ((0 : Int32) + (1 : Int32)), vI (3 : Int32), vR t1, vI ((0 : Int32) + (1 : Int32))] [(.int (3 : Int32)), (.int ((0 : Int32) + (1 : Int32)))]) _
    exact kt)
  clear S329
  have q332 : ((0 : Int32) + (1 : Int32)) = (1 : Int32) := by decide
  have S331 : Go p e below s₁ (eF_tob3 m a (0 : Int32) (3 : Int32)) T328 (mkF m 11 #[vR a, vI (1 : Int32), vI (3 : Int32), vR t1, vI (1 : Int32)] [(.int (3 : Int32)), (.int (1 : Int32))]) := by have h := S330; rw [q332] at h; exact h
  clear S330
  have S333 : Go p e below s₁ (eF_tob3 m a (0 : Int32) (3 : Int32)) T328 (mkF m 19 #[vR a, vI (1 : Int32), vI (3 : Int32), vR t1, vI (1 : Int32)] [(.int (1 : Int32)), (.ref a), (.int (1 : Int32)), (.ref t1)]) := fun t kt => S331 t (by
    refine XS.icmpNo X328.here hx rfl (hb hby d20_11) rfl (tlt (show (1 : Int32) < (3 : Int32) from (by decide))).2.1 ?_
    show Sp p e below T328 (mkF m 14 #[vR a, vI (1 : Int32), vI (3 : Int32), vR t1, vI (1 : Int32)] []) _
    refine XS.aloadN X328.here hx rfl (hb hby d20_14) rfl rfl ?_
    show Sp p e below T328 (mkF m 15 #[vR a, vI (1 : Int32), vI (3 : Int32), vR t1, vI (1 : Int32)] [(.ref t1)]) _
    refine XS.iload X328.here hx rfl (hb hby d20_15) rfl ?_
    show Sp p e below T328 (mkF m 17 #[vR a, vI (1 : Int32), vI (3 : Int32), vR t1, vI (1 : Int32)] [(.int (1 : Int32)), (.ref t1)]) _
    refine XS.aloadN X328.here hx rfl (hb hby d20_17) rfl rfl ?_
    show Sp p e below T328 (mkF m 18 #[vR a, vI (1 : Int32), vI (3 : Int32), vR t1, vI (1 : Int32)] [(.ref a), (.int (1 : Int32)), (.ref t1)]) _
    refine XS.iloadN X328.here hx rfl (hb hby d20_18) rfl ?_
    show Sp p e below T328 (mkF m 19 #[vR a, vI (1 : Int32), vI (3 : Int32), vR t1, vI (1 : Int32)] [(.int (1 : Int32)), (.ref a), (.int (1 : Int32)), (.ref t1)]) _
    exact kt)
  clear S331
  have ne334 : a ≠ t1 := Nat.ne_of_lt (Nat.lt_of_lt_of_le (Va.lt) sz321)
  have f335 := (f324.keep K328 (ninS ne334 nin0))
  obtain ⟨co336, Ao336, qo336, So336, No336, Ho336, Go336⟩ := id f335
  have hino336 : ¬ ((1 : Int32) < 0 ∨ co336.slots.size ≤ ((1 : Int32)).toNatClampNeg) := inb_of So336 ⟨by decide, by decide⟩
  have hato336 : co336.slots[((1 : Int32)).toNatClampNeg]? = some (.int c1) := Has.at Ho336 hino336 rfl
  have S337 : Go p e below s₁ (eF_tob3 m a (0 : Int32) (3 : Int32)) T328 (mkF m 20 #[vR a, vI (1 : Int32), vI (3 : Int32), vR t1, vI (1 : Int32)] [(.int c1), (.int (1 : Int32)), (.ref t1)]) := fun t kt => S333 t (by
    refine X328.caload hx (j := (1 : Int32)) (v := (.int c1)) Ao336.1 (State.isArrayOf_alike hZ.alike Ao336.2.1) Ao336.2.2 hino336 hato336 (g := (mkF m 19 #[vR a, vI (1 : Int32), vI (3 : Int32), vR t1, vI (1 : Int32)] [(.int (1 : Int32)), (.ref a), (.int (1 : Int32)), (.ref t1)])) rfl rfl (hb hby d20_19) _ ?_
    show Sp p e below T328 (mkF m 20 #[vR a, vI (1 : Int32), vI (3 : Int32), vR t1, vI (1 : Int32)] [(.int c1), (.int (1 : Int32)), (.ref t1)]) _
    exact kt)
  clear S333
  have f338 := (f327.keep K328 (allS g_t1 all0))
  obtain ⟨v339, T339, L339, X339, hQ339, st339⟩ := own_outS (Jvm.LawKit.callS X328 hx (y := (⟨"java/lang/StringUTF16", "putChar", "([BII)V"⟩ : MethodName)) hown (mvT hZ (own_h hw 98 rfl)) (mvT hZ (own_h hw 99 rfl)) (mvT hZ (own_h hw 18 rfl)) (mvT hZ (own_h hw 100 rfl)) (by decide) (backOf (W := 0) (rm_pch l Z a0 hw [] t1 (1 : Int32) c1 kb321 (6 : Int32) [(.int (StrChars.lo8 c0)), (.int (StrChars.hi8 c0)), (.int (0 : Int32)), (.int (0 : Int32)), (.int (0 : Int32)), (.int (0 : Int32))] 2 T328.heap n0 (Nat.le_trans (Nat.le_trans Z0 K321.1) K328.1) SS f338 V328 (by decide) (by decide) (by decide) (by decide) (Nat.le_of_ble_eq_true rfl) g_t1) hZ (own_h hw 100 rfl) (own_h hw 18 rfl) (by decide) (by decide)) (g := (mkF m 20 #[vR a, vI (1 : Int32), vI (3 : Int32), vR t1, vI (1 : Int32)] [(.int c1), (.int (1 : Int32)), (.ref t1)])) rfl (by rw [hml]; rfl) (argsL := [(.ref t1), (.int (1 : Int32)), (.int c1)]) (rest := []) (lenOf pd___BII_V rfl) rfl (by show 2 * 0 + _ ≤ _; exact Nat.le_of_eq rfl) (hb hby d20_20) (fun _ _ => ⟨rfl, rfl, (by decide : 1 + 0 ≤ _), (by decide : 6 + 0 ≤ _)⟩))
  obtain ⟨rfl, N339q, K339, V339⟩ := hQ339
  have N339 := Fr.app N328 N339q
  have KK339 : Keep h0 T339.heap [] := KK328.trans K339 (allS (Or.inr sz_t1) all0)
  have S340 : Go p e below s₁ (eF_tob3 m a (0 : Int32) (3 : Int32)) T339 (mkF m 23 #[vR a, vI (1 : Int32), vI (3 : Int32), vR t1, vI (1 : Int32)] []) := fun t kt => S337 t (st339 t kt)
  clear S337 st339 X328
  have S341 : Go p e below s₁ (eF_tob3 m a (0 : Int32) (3 : Int32)) T339 (mkF m 11 #[vR a, vI ((1 : Int32) + (1 : Int32)), vI (3 : Int32), vR t1, vI ((1 : Int32) + (1 : Int32))] [(.int (3 : Int32)), (.int ((1 : Int32) + (1 : Int32)))]) := fun t kt => S340 t (by
    refine XS.iinc X339.here hx rfl (hb hby d20_23) rfl (l' := #[vR a, vI ((1 : Int32) + (1 : Int32)), vI (3 : Int32), vR t1, vI (1 : Int32)]) rfl ?_
    show Sp p e below T339 (mkF m 26 #[vR a, vI ((1 : Int32) + (1 : Int32)), vI (3 : Int32), vR t1, vI (1 : Int32)] []) _
    refine XS.iinc X339.here hx rfl (hb hby d20_26) rfl (l' := #[vR a, vI ((1 : Int32) + (1 : Int32)), vI (3 : Int32), vR t1, vI ((1 : Int32) + (1 : Int32))]) rfl ?_
    show Sp p e below T339 (mkF m 29 #[vR a, vI ((1 : Int32) + (1 : Int32)), vI (3 : Int32), vR t1, vI ((1 : Int32) + (1 : Int32))] []) _
    refine XS.goto X339.here hx rfl (pc0 := 29) (pc' := 8) rfl (hb hby d20_29) (by decide) (by decide) ?_
    show Sp p e below T339 (mkF m 8 #[vR a, vI ((1 : Int32) + (1 : Int32)), vI (3 : Int32), vR t1, vI ((1 : Int32) + (1 : Int32))] []) _
    refine XS.iload X339.here hx rfl (hb hby d20_8) rfl ?_
    show Sp p e below T339 (mkF m 10 #[vR a, vI ((1 : Int32) + (1 : Int32)), vI (3 : Int32), vR t1, vI ((1 : Int32) + (1 : Int32))] [(.int ((1 : Int32) + (1 : Int32)))]) _
    refine XS.iloadN X339.here hx rfl (hb hby d20_10) rfl ?_
    show Sp p e below T339 (mkF m 11 #[vR a, vI ((1 : Int32) + (1 : Int32)), vI (3 : Int32), vR t1, vI ((1 : Int32) + (1 : Int32))] [(.int (3 : Int32)), (.int ((1 : Int32) + (1 : Int32)))]) _
    exact kt)
  clear S340
  have q343 : ((1 : Int32) + (1 : Int32)) = (2 : Int32) := by decide
  have S342 : Go p e below s₁ (eF_tob3 m a (0 : Int32) (3 : Int32)) T339 (mkF m 11 #[vR a, vI (2 : Int32), vI (3 : Int32), vR t1, vI (2 : Int32)] [(.int (3 : Int32)), (.int (2 : Int32))]) := by have h := S341; rw [q343] at h; exact h
  clear S341
  have S344 : Go p e below s₁ (eF_tob3 m a (0 : Int32) (3 : Int32)) T339 (mkF m 19 #[vR a, vI (2 : Int32), vI (3 : Int32), vR t1, vI (2 : Int32)] [(.int (2 : Int32)), (.ref a), (.int (2 : Int32)), (.ref t1)]) := fun t kt => S342 t (by
    refine XS.icmpNo X339.here hx rfl (hb hby d20_11) rfl (tlt (show (2 : Int32) < (3 : Int32) from (by decide))).2.1 ?_
    show Sp p e below T339 (mkF m 14 #[vR a, vI (2 : Int32), vI (3 : Int32), vR t1, vI (2 : Int32)] []) _
    refine XS.aloadN X339.here hx rfl (hb hby d20_14) rfl rfl ?_
    show Sp p e below T339 (mkF m 15 #[vR a, vI (2 : Int32), vI (3 : Int32), vR t1, vI (2 : Int32)] [(.ref t1)]) _
    refine XS.iload X339.here hx rfl (hb hby d20_15) rfl ?_
    show Sp p e below T339 (mkF m 17 #[vR a, vI (2 : Int32), vI (3 : Int32), vR t1, vI (2 : Int32)] [(.int (2 : Int32)), (.ref t1)]) _
    refine XS.aloadN X339.here hx rfl (hb hby d20_17) rfl rfl ?_
    show Sp p e below T339 (mkF m 18 #[vR a, vI (2 : Int32), vI (3 : Int32), vR t1, vI (2 : Int32)] [(.ref a), (.int (2 : Int32)), (.ref t1)]) _
    refine XS.iloadN X339.here hx rfl (hb hby d20_18) rfl ?_
    show Sp p e below T339 (mkF m 19 #[vR a, vI (2 : Int32), vI (3 : Int32), vR t1, vI (2 : Int32)] [(.int (2 : Int32)), (.ref a), (.int (2 : Int32)), (.ref t1)]) _
    exact kt)
  clear S342
  have f345 := (f335.keep K339 (ninS ne334 nin0))
  obtain ⟨co346, Ao346, qo346, So346, No346, Ho346, Go346⟩ := id f345
  have hino346 : ¬ ((2 : Int32) < 0 ∨ co346.slots.size ≤ ((2 : Int32)).toNatClampNeg) := inb_of So346 ⟨by decide, by decide⟩
  have hato346 : co346.slots[((2 : Int32)).toNatClampNeg]? = some (.int c2) := Has.at Ho346 hino346 rfl
  have S347 : Go p e below s₁ (eF_tob3 m a (0 : Int32) (3 : Int32)) T339 (mkF m 20 #[vR a, vI (2 : Int32), vI (3 : Int32), vR t1, vI (2 : Int32)] [(.int c2), (.int (2 : Int32)), (.ref t1)]) := fun t kt => S344 t (by
    refine X339.caload hx (j := (2 : Int32)) (v := (.int c2)) Ao346.1 (State.isArrayOf_alike hZ.alike Ao346.2.1) Ao346.2.2 hino346 hato346 (g := (mkF m 19 #[vR a, vI (2 : Int32), vI (3 : Int32), vR t1, vI (2 : Int32)] [(.int (2 : Int32)), (.ref a), (.int (2 : Int32)), (.ref t1)])) rfl rfl (hb hby d20_19) _ ?_
    show Sp p e below T339 (mkF m 20 #[vR a, vI (2 : Int32), vI (3 : Int32), vR t1, vI (2 : Int32)] [(.int c2), (.int (2 : Int32)), (.ref t1)]) _
    exact kt)
  clear S344
  have f348 := (f338.keep K339 (allS g_t1 all0))
  obtain ⟨v349, T349, L349, X349, hQ349, st349⟩ := own_outS (Jvm.LawKit.callS X339 hx (y := (⟨"java/lang/StringUTF16", "putChar", "([BII)V"⟩ : MethodName)) hown (mvT hZ (own_h hw 98 rfl)) (mvT hZ (own_h hw 99 rfl)) (mvT hZ (own_h hw 18 rfl)) (mvT hZ (own_h hw 100 rfl)) (by decide) (backOf (W := 0) (rm_pch l Z a0 hw [] t1 (2 : Int32) c2 kb321 (6 : Int32) [(.int (StrChars.lo8 c0)), (.int (StrChars.hi8 c0)), (.int (StrChars.lo8 c1)), (.int (StrChars.hi8 c1)), (.int (0 : Int32)), (.int (0 : Int32))] 4 T339.heap n0 (Nat.le_trans (Nat.le_trans (Nat.le_trans Z0 K321.1) K328.1) K339.1) SS f348 V339 (by decide) (by decide) (by decide) (by decide) (Nat.le_of_ble_eq_true rfl) g_t1) hZ (own_h hw 100 rfl) (own_h hw 18 rfl) (by decide) (by decide)) (g := (mkF m 20 #[vR a, vI (2 : Int32), vI (3 : Int32), vR t1, vI (2 : Int32)] [(.int c2), (.int (2 : Int32)), (.ref t1)])) rfl (by rw [hml]; rfl) (argsL := [(.ref t1), (.int (2 : Int32)), (.int c2)]) (rest := []) (lenOf pd___BII_V rfl) rfl (by show 2 * 0 + _ ≤ _; exact Nat.le_of_eq rfl) (hb hby d20_20) (fun _ _ => ⟨rfl, rfl, (by decide : 1 + 0 ≤ _), (by decide : 6 + 0 ≤ _)⟩))
  obtain ⟨rfl, N349q, K349, V349⟩ := hQ349
  have N349 := Fr.app N339 N349q
  have KK349 : Keep h0 T349.heap [] := KK339.trans K349 (allS (Or.inr sz_t1) all0)
  have S350 : Go p e below s₁ (eF_tob3 m a (0 : Int32) (3 : Int32)) T349 (mkF m 23 #[vR a, vI (2 : Int32), vI (3 : Int32), vR t1, vI (2 : Int32)] []) := fun t kt => S347 t (st349 t kt)
  clear S347 st349 X339
  have S351 : Go p e below s₁ (eF_tob3 m a (0 : Int32) (3 : Int32)) T349 (mkF m 11 #[vR a, vI ((2 : Int32) + (1 : Int32)), vI (3 : Int32), vR t1, vI ((2 : Int32) + (1 : Int32))] [(.int (3 : Int32)), (.int ((2 : Int32) + (1 : Int32)))]) := fun t kt => S350 t (by
    refine XS.iinc X349.here hx rfl (hb hby d20_23) rfl (l' := #[vR a, vI ((2 : Int32) + (1 : Int32)), vI (3 : Int32), vR t1, vI (2 : Int32)]) rfl ?_
    show Sp p e below T349 (mkF m 26 #[vR a, vI ((2 : Int32) + (1 : Int32)), vI (3 : Int32), vR t1, vI (2 : Int32)] []) _
    refine XS.iinc X349.here hx rfl (hb hby d20_26) rfl (l' := #[vR a, vI ((2 : Int32) + (1 : Int32)), vI (3 : Int32), vR t1, vI ((2 : Int32) + (1 : Int32))]) rfl ?_
    show Sp p e below T349 (mkF m 29 #[vR a, vI ((2 : Int32) + (1 : Int32)), vI (3 : Int32), vR t1, vI ((2 : Int32) + (1 : Int32))] []) _
    refine XS.goto X349.here hx rfl (pc0 := 29) (pc' := 8) rfl (hb hby d20_29) (by decide) (by decide) ?_
    show Sp p e below T349 (mkF m 8 #[vR a, vI ((2 : Int32) + (1 : Int32)), vI (3 : Int32), vR t1, vI ((2 : Int32) + (1 : Int32))] []) _
    refine XS.iload X349.here hx rfl (hb hby d20_8) rfl ?_
    show Sp p e below T349 (mkF m 10 #[vR a, vI ((2 : Int32) + (1 : Int32)), vI (3 : Int32), vR t1, vI ((2 : Int32) + (1 : Int32))] [(.int ((2 : Int32) + (1 : Int32)))]) _
    refine XS.iloadN X349.here hx rfl (hb hby d20_10) rfl ?_
    show Sp p e below T349 (mkF m 11 #[vR a, vI ((2 : Int32) + (1 : Int32)), vI (3 : Int32), vR t1, vI ((2 : Int32) + (1 : Int32))] [(.int (3 : Int32)), (.int ((2 : Int32) + (1 : Int32)))]) _
    exact kt)
  clear S350
  have q353 : ((2 : Int32) + (1 : Int32)) = (3 : Int32) := by decide
  have S352 : Go p e below s₁ (eF_tob3 m a (0 : Int32) (3 : Int32)) T349 (mkF m 11 #[vR a, vI (3 : Int32), vI (3 : Int32), vR t1, vI (3 : Int32)] [(.int (3 : Int32)), (.int (3 : Int32))]) := by have h := S351; rw [q353] at h; exact h
  clear S351
  have S354 : Go p e below s₁ (eF_tob3 m a (0 : Int32) (3 : Int32)) T349 (mkF m 33 #[vR a, vI (3 : Int32), vI (3 : Int32), vR t1, vI (3 : Int32)] [(.ref t1)]) := fun t kt => S352 t (by
    refine XS.icmpYes X349.here hx rfl (pc0 := 11) (pc' := 32) rfl (hb hby d20_11) rfl (flt (show ¬ ((3 : Int32) < (3 : Int32)) from (by decide))).2.1 (by decide) (by decide) ?_
    show Sp p e below T349 (mkF m 32 #[vR a, vI (3 : Int32), vI (3 : Int32), vR t1, vI (3 : Int32)] []) _
    refine XS.aloadN X349.here hx rfl (hb hby d20_32) rfl rfl ?_
    show Sp p e below T349 (mkF m 33 #[vR a, vI (3 : Int32), vI (3 : Int32), vR t1, vI (3 : Int32)] [(.ref t1)]) _
    exact kt)
  clear S352
  obtain ⟨fs, hr, hrun, hended, hW, hsame⟩ := X349.leave (v := some (.ref t1)) (fun h => by first | rfl | (rw [Bd.returns] at h; cases h))
  refine ⟨_, _, S354 _ ?_, hrun, hended, _, _, rfl, ?_, ⟨_, rfl⟩, hW, hsame.mono (by decide) (by decide)⟩
  · exact retOut X349 hx Bd.returns rfl (Or.inr (Or.inr (Or.inr (Or.inr ⟨rfl, rfl, rfl⟩)))) (hb hby d20_33) hr
  · show Q_tob3 Z c0 c1 c2 h0 n0 _ T349.heap _
    exact ⟨t1, _, rfl, N349, KK349, sz_t1, V349⟩
abbrev eF_cmp3 (m : MethodId) (x0 : Addr) (x1 : Int32) (x2 : Addr) (x3 : Int32) (x4 : Int32) : JFrame := entryFrame m #[(.ref x0), (.int x1), (.ref x2), (.int x3), (.int x4)] 7
theorem ef_cmp3 (m : MethodId) (x0 : Addr) (x1 : Int32) (x2 : Addr) (x3 : Int32) (x4 : Int32) : entryFrame m #[(.ref x0), (.int x1), (.ref x2), (.int x3), (.int x4)] 7 = mkF m 0 #[.val (.ref x0), .val (.int x1), .val (.ref x2), .val (.int x3), .val (.int x4), .unset, .unset] [] := by first | (simp [entryFrame, mkF, argsToLocals, Value.category]; done) | rfl
theorem pn_cmp3 : plainName "java/lang/StringUTF16" = true := by first | (simp [plainName, overriddenIn]; done) | decide +kernel
def Q_cmp3 (Z : State) (b : Addr) (kb : ClassId) (c0 : Int32) (c1 : Int32) (c2 : Int32) (h0 : Heap) (n0 : Nat) (v : Option Value) (h : Heap) (L : List Loc) : Prop := ∃ r : Int32, v = some (.int r) ∧ Fr n0 L ∧ Keep h0 h [b] ∧ ((r = (3 : Int32) ∧ (¬ (255 : Int32) < c0 ∧ ¬ (255 : Int32) < c1 ∧ ¬ (255 : Int32) < c2 ∧ True) ∧ Arv Z h b kb .byte (3 : Int32) [(.int (StrChars.lo8 c0)), (.int (StrChars.lo8 c1)), (.int (StrChars.lo8 c2))] (.int (0 : Int32))) ∨ (r = (0 : Int32) ∧ (255 : Int32) < c0) ∨ (r = (1 : Int32) ∧ (255 : Int32) < c1) ∨ (r = (2 : Int32) ∧ (255 : Int32) < c2))
set_option maxRecDepth 65536 in
set_option maxHeartbeats 40000000 in
theorem rm_cmp3 (l : Launch) (Z : State) (a0 : Array Value) (hw : ∀ d ∈ tables_1, d.before a0 Z = true) (ws : List Jvm.Cond) (a : Addr) (b : Addr) (ka : ClassId) (kb : ClassId) (c0 : Int32) (c1 : Int32) (c2 : Int32) (h0 : Heap) (n0 : Nat) (Z0 : n0 ≤ h0.size) (Va : Arv Z h0 a ka .char (3 : Int32) [(.int c0), (.int c1), (.int c2)] (.int (0 : Int32))) (Vb : Arv Z h0 b kb .byte (3 : Int32) [(.int (0 : Int32)), (.int (0 : Int32)), (.int (0 : Int32))] (.int (0 : Int32))) (hab : a ≠ b) (g_b : n0 ≤ b) :
    MetFree l (⟨"java/lang/StringUTF16", "compress", "([CI[BII)I"⟩ : MethodName) (head1 (Jvm.Cond.code (⟨"java/lang/StringUTF16", "compress", "([CI[BII)I"⟩ : MethodName) jdk_52_method_21_code 7 (some .int) :: ws) ({ frames := 0, cells := 0, slots := 0, locals := 0 } : Room)) (fun aa U => aa = #[(.ref a), (.int (0 : Int32)), (.ref b), (.int (0 : Int32)), (.int (3 : Int32))] ∧ Z.Warmed39 U.vm ∧ U.heap = h0) (fun _ _ _ _ _ => True) (fun _ U o U' => ∃ v L, o = .returned v ∧ Q_cmp3 Z b kb c0 c1 c2 h0 n0 v U'.heap L ∧ FrameEnd U o U' L ({ frames := 0, cells := 0, slots := 0, locals := 0 } : Room).cells ({ frames := 0, cells := 0, slots := 0, locals := 0 } : Room).slots) := by
  refine MetFree.of_bodySF (plainFor_of_name pn_cmp3) hisR ?_
  intro p e s m args below meth c s₁ Bd hml0 hP hK
  obtain ⟨rfl, hZ, hh⟩ := hP
  have hx := Bd.exec
  have hby := Bd.bytes
  have hml : c.maxLocals = 7 := hml0
  have hown : s.vm.findClass "java/lang/StringUTF16" = some m.cls := findClass_of_methodNamed Bd.named
  have hnm := (name_of_methodNamed Bd.named Bd.method).1
  have X0 : Stand p l e ({ frames := 0, cells := 0, slots := 0, locals := 0 } : Room) s m #[(.ref a), (.int (0 : Int32)), (.ref b), (.int (0 : Int32)), (.int (3 : Int32))] below meth c s₁ [] 0 0 := Stand.of_body Bd
  have e0 : s₁.heap = h0 := by rw [← hh, Bd.state]; rfl
  have N0 := Fr.nil n0
  have S0 : Go p e below s₁ (eF_cmp3 m a (0 : Int32) b (0 : Int32) (3 : Int32)) s₁ (mkF m 0 #[vR a, vI (0 : Int32), vR b, vI (0 : Int32), vI (3 : Int32), vU, vU] []) := fun t k => castTop (ef_cmp3 m a (0 : Int32) b (0 : Int32) (3 : Int32)) k
  have S355 : Go p e below s₁ (eF_cmp3 m a (0 : Int32) b (0 : Int32) (3 : Int32)) s₁ (mkF m 12 #[vR a, vI (0 : Int32), vR b, vI (0 : Int32), vI (3 : Int32), vI (0 : Int32), vU] [(.int (0 : Int32)), (.ref a)]) := fun t kt => S0 t (by
    refine XS.iconst X0.here hx rfl (hb hby d5_0) ?_
    show Sp p e below s₁ (mkF m 1 #[vR a, vI (0 : Int32), vR b, vI (0 : Int32), vI (3 : Int32), vU, vU] [(.int (0 : Int32))]) _
    refine XS.istore X0.here hx rfl (hb hby d5_1) rfl (l' := #[vR a, vI (0 : Int32), vR b, vI (0 : Int32), vI (3 : Int32), vI (0 : Int32), vU]) rfl ?_
    show Sp p e below s₁ (mkF m 3 #[vR a, vI (0 : Int32), vR b, vI (0 : Int32), vI (3 : Int32), vI (0 : Int32), vU] []) _
    refine XS.iload X0.here hx rfl (hb hby d5_3) rfl ?_
    show Sp p e below s₁ (mkF m 5 #[vR a, vI (0 : Int32), vR b, vI (0 : Int32), vI (3 : Int32), vI (0 : Int32), vU] [(.int (0 : Int32))]) _
    refine XS.iload X0.here hx rfl (hb hby d5_5) rfl ?_
    show Sp p e below s₁ (mkF m 7 #[vR a, vI (0 : Int32), vR b, vI (0 : Int32), vI (3 : Int32), vI (0 : Int32), vU] [(.int (3 : Int32)), (.int (0 : Int32))]) _
    refine XS.icmpNo X0.here hx rfl (hb hby d5_7) rfl (tlt (show (0 : Int32) < (3 : Int32) from (by decide))).2.1 ?_
    show Sp p e below s₁ (mkF m 10 #[vR a, vI (0 : Int32), vR b, vI (0 : Int32), vI (3 : Int32), vI (0 : Int32), vU] []) _
    refine XS.aloadN X0.here hx rfl (hb hby d5_10) rfl rfl ?_
    show Sp p e below s₁ (mkF m 11 #[vR a, vI (0 : Int32), vR b, vI (0 : Int32), vI (3 : Int32), vI (0 : Int32), vU] [(.ref a)]) _
    refine XS.iloadN X0.here hx rfl (hb hby d5_11) rfl ?_
    show Sp p e below s₁ (mkF m 12 #[vR a, vI (0 : Int32), vR b, vI (0 : Int32), vI (3 : Int32), vI (0 : Int32), vU] [(.int (0 : Int32)), (.ref a)]) _
    exact kt)
  clear S0
  obtain ⟨co356, Ao356, qo356, So356, No356, Ho356, Go356⟩ := id Va
  have hino356 : ¬ ((0 : Int32) < 0 ∨ co356.slots.size ≤ ((0 : Int32)).toNatClampNeg) := inb_of So356 ⟨by decide, by decide⟩
  have hato356 : co356.slots[((0 : Int32)).toNatClampNeg]? = some (.int c0) := Has.at Ho356 hino356 rfl
  have S357 : Go p e below s₁ (eF_cmp3 m a (0 : Int32) b (0 : Int32) (3 : Int32)) s₁ (mkF m 20 #[vR a, vI (0 : Int32), vR b, vI (0 : Int32), vI (3 : Int32), vI (0 : Int32), vI c0] [(.int (255 : Int32)), (.int c0)]) := fun t kt => S355 t (by
    refine X0.caload hx (j := (0 : Int32)) (v := (.int c0)) (by rw [e0]; exact Ao356.1) (State.isArrayOf_alike hZ.alike Ao356.2.1) Ao356.2.2 hino356 hato356 (g := (mkF m 12 #[vR a, vI (0 : Int32), vR b, vI (0 : Int32), vI (3 : Int32), vI (0 : Int32), vU] [(.int (0 : Int32)), (.ref a)])) rfl rfl (hb hby d5_12) _ ?_
    show Sp p e below s₁ (mkF m 13 #[vR a, vI (0 : Int32), vR b, vI (0 : Int32), vI (3 : Int32), vI (0 : Int32), vU] [(.int c0)]) _
    refine XS.istore X0.here hx rfl (hb hby d5_13) rfl (l' := #[vR a, vI (0 : Int32), vR b, vI (0 : Int32), vI (3 : Int32), vI (0 : Int32), vI c0]) rfl ?_
    show Sp p e below s₁ (mkF m 15 #[vR a, vI (0 : Int32), vR b, vI (0 : Int32), vI (3 : Int32), vI (0 : Int32), vI c0] []) _
    refine XS.iload X0.here hx rfl (hb hby d5_15) rfl ?_
    show Sp p e below s₁ (mkF m 17 #[vR a, vI (0 : Int32), vR b, vI (0 : Int32), vI (3 : Int32), vI (0 : Int32), vI c0] [(.int c0)]) _
    refine XS.sipush X0.here hx rfl (hb hby d5_17) ?_
    show Sp p e below s₁ (mkF m 20 #[vR a, vI (0 : Int32), vR b, vI (0 : Int32), vI (3 : Int32), vI (0 : Int32), vI c0] [(.int (255 : Int32)), (.int c0)]) _
    exact kt)
  clear S355
  by_cases hq0 : (255 : Int32) < c0
  · have S358 : Go p e below s₁ (eF_cmp3 m a (0 : Int32) b (0 : Int32) (3 : Int32)) s₁ (mkF m 25 #[vR a, vI (0 : Int32), vR b, vI (0 : Int32), vI (3 : Int32), vI (0 : Int32), vI c0] [(.int (0 : Int32))]) := fun t kt => S357 t (by
      refine XS.icmpNo X0.here hx rfl (hb hby d5_20) rfl (tlt (show (255 : Int32) < c0 from hq0)).2.2.2 ?_
      show Sp p e below s₁ (mkF m 23 #[vR a, vI (0 : Int32), vR b, vI (0 : Int32), vI (3 : Int32), vI (0 : Int32), vI c0] []) _
      refine XS.iload X0.here hx rfl (hb hby d5_23) rfl ?_
      show Sp p e below s₁ (mkF m 25 #[vR a, vI (0 : Int32), vR b, vI (0 : Int32), vI (3 : Int32), vI (0 : Int32), vI c0] [(.int (0 : Int32))]) _
      exact kt)
    clear S357
    obtain ⟨fs, hr, hrun, hended, hW, hsame⟩ := X0.leave (v := some (.int (0 : Int32))) (fun h => by first | rfl | (rw [Bd.returns] at h; cases h))
    refine ⟨_, _, S358 _ ?_, hrun, hended, _, _, rfl, ?_, ⟨_, rfl⟩, hW, hsame.mono (by decide) (by decide)⟩
    · exact retI X0 hx Bd.returns (hb hby d5_25) hr
    · show Q_cmp3 Z b kb c0 c1 c2 h0 n0 _ s₁.heap _
      rw [e0]
      exact ⟨_, rfl, N0, (Keep.refl h0 [b]), Or.inr (Or.inl ⟨rfl, hq0⟩)⟩
  · have S359 : Go p e below s₁ (eF_cmp3 m a (0 : Int32) b (0 : Int32) (3 : Int32)) s₁ (mkF m 31 #[vR a, vI (0 : Int32), vR b, vI (0 : Int32), vI (3 : Int32), vI (0 : Int32), vI c0] [(.int (c0.toInt8.toInt32)), (.int (0 : Int32)), (.ref b)]) := fun t kt => S357 t (by
      refine XS.icmpYes X0.here hx rfl (pc0 := 20) (pc' := 26) rfl (hb hby d5_20) rfl (flt (show ¬ ((255 : Int32) < c0) from hq0)).2.2.2 (by decide) (by decide) ?_
      show Sp p e below s₁ (mkF m 26 #[vR a, vI (0 : Int32), vR b, vI (0 : Int32), vI (3 : Int32), vI (0 : Int32), vI c0] []) _
      refine XS.aloadN X0.here hx rfl (hb hby d5_26) rfl rfl ?_
      show Sp p e below s₁ (mkF m 27 #[vR a, vI (0 : Int32), vR b, vI (0 : Int32), vI (3 : Int32), vI (0 : Int32), vI c0] [(.ref b)]) _
      refine XS.iloadN X0.here hx rfl (hb hby d5_27) rfl ?_
      show Sp p e below s₁ (mkF m 28 #[vR a, vI (0 : Int32), vR b, vI (0 : Int32), vI (3 : Int32), vI (0 : Int32), vI c0] [(.int (0 : Int32)), (.ref b)]) _
      refine XS.iload X0.here hx rfl (hb hby d5_28) rfl ?_
      show Sp p e below s₁ (mkF m 30 #[vR a, vI (0 : Int32), vR b, vI (0 : Int32), vI (3 : Int32), vI (0 : Int32), vI c0] [(.int c0), (.int (0 : Int32)), (.ref b)]) _
      refine XS.i2b X0.here hx rfl (hb hby d5_30) rfl ?_
      show Sp p e below s₁ (mkF m 31 #[vR a, vI (0 : Int32), vR b, vI (0 : Int32), vI (3 : Int32), vI (0 : Int32), vI c0] [(.int (c0.toInt8.toInt32)), (.int (0 : Int32)), (.ref b)]) _
      exact kt)
    clear S357
    obtain ⟨co360, Ao360, qo360, So360, No360, Ho360, Go360⟩ := id Vb
    have hino360 : ¬ ((0 : Int32) < 0 ∨ co360.slots.size ≤ ((0 : Int32)).toNatClampNeg) := inb_of So360 ⟨by decide, by decide⟩
    obtain ⟨T361, h361, X361, e361, W361, st361⟩ := stB X0 hx hZ e0 Ao360 (j := (0 : Int32)) hino360 (g := (mkF m 31 #[vR a, vI (0 : Int32), vR b, vI (0 : Int32), vI (3 : Int32), vI (0 : Int32), vI c0] [(.int (c0.toInt8.toInt32)), (.int (0 : Int32)), (.ref b)])) rfl rfl (hb hby d5_31)
    have N361 := Fr.snoc X361 N0 g_b
    have K361 : Keep h0 h361 [b] := (Keep.refl h0 [b]).wr W361 (Or.inl (by simp))
    have V361 : Arv Z h361 b kb .byte (3 : Int32) [(.int ((c0.toInt8.toInt32).toInt8.toInt32)), (.int (0 : Int32)), (.int (0 : Int32))] (.int (0 : Int32)) := Arv.set Ao360 qo360 So360 No360 Ho360 Go360 (fits_nar_byte _) W361 0 rfl (Nat.le_of_ble_eq_true rfl)
    rw [own_lo c0] at V361
    have S362 : Go p e below s₁ (eF_cmp3 m a (0 : Int32) b (0 : Int32) (3 : Int32)) T361 (mkF m 32 #[vR a, vI (0 : Int32), vR b, vI (0 : Int32), vI (3 : Int32), vI (0 : Int32), vI c0] []) := fun t kt => S359 t (st361 t kt)
    clear S359 st361 X0 e0
    have S363 : Go p e below s₁ (eF_cmp3 m a (0 : Int32) b (0 : Int32) (3 : Int32)) T361 (mkF m 3 #[vR a, vI ((0 : Int32) + (1 : Int32)), vR b, vI ((0 : Int32) + (1 : Int32)), vI (3 : Int32), vI ((0 : Int32) + (1 : Int32)), vI c0] []) := fun t kt => S362 t (by
      refine XS.iinc X361.here hx rfl (hb hby d5_32) rfl (l' := #[vR a, vI ((0 : Int32) + (1 : Int32)), vR b, vI (0 : Int32), vI (3 : Int32), vI (0 : Int32), vI c0]) rfl ?_
      show Sp p e below T361 (mkF m 35 #[vR a, vI ((0 : Int32) + (1 : Int32)), vR b, vI (0 : Int32), vI (3 : Int32), vI (0 : Int32), vI c0] []) _
      refine XS.iinc X361.here hx rfl (hb hby d5_35) rfl (l' := #[vR a, vI ((0 : Int32) + (1 : Int32)), vR b, vI ((0 : Int32) + (1 : Int32)), vI (3 : Int32), vI (0 : Int32), vI c0]) rfl ?_
      show Sp p e below T361 (mkF m 38 #[vR a, vI ((0 : Int32) + (1 : Int32)), vR b, vI ((0 : Int32) + (1 : Int32)), vI (3 : Int32), vI (0 : Int32), vI c0] []) _
      refine XS.iinc X361.here hx rfl (hb hby d5_38) rfl (l' := #[vR a, vI ((0 : Int32) + (1 : Int32)), vR b, vI ((0 : Int32) + (1 : Int32)), vI (3 : Int32), vI ((0 : Int32) + (1 : Int32)), vI c0]) rfl ?_
      show Sp p e below T361 (mkF m 41 #[vR a, vI ((0 : Int32) + (1 : Int32)), vR b, vI ((0 : Int32) + (1 : Int32)), vI (3 : Int32), vI ((0 : Int32) + (1 : Int32)), vI c0] []) _
      refine XS.goto X361.here hx rfl (pc0 := 41) (pc' := 3) rfl (hb hby d5_41) (by decide) (by decide) ?_
      show Sp p e below T361 (mkF m 3 #[vR a, vI ((0 : Int32) + (1 : Int32)), vR b, vI ((0 : Int32) + (1 : Int32)), vI (3 : Int32), vI ((0 : Int32) + (1 : Int32)), vI c0] []) _
      exact kt)
    clear S362
    have q365 : ((0 : Int32) + (1 : Int32)) = (1 : Int32) := by decide
    have S364 : Go p e below s₁ (eF_cmp3 m a (0 : Int32) b (0 : Int32) (3 : Int32)) T361 (mkF m 3 #[vR a, vI (1 : Int32), vR b, vI (1 : Int32), vI (3 : Int32), vI (1 : Int32), vI c0] []) := by have h := S363; rw [q365] at h; exact h
    clear S363
    have S366 : Go p e below s₁ (eF_cmp3 m a (0 : Int32) b (0 : Int32) (3 : Int32)) T361 (mkF m 12 #[vR a, vI (1 : Int32), vR b, vI (1 : Int32), vI (3 : Int32), vI (1 : Int32), vI c0] [(.int (1 : Int32)), (.ref a)]) := fun t kt => S364 t (by
      refine XS.iload X361.here hx rfl (hb hby d5_3) rfl ?_
      show Sp p e below T361 (mkF m 5 #[vR a, vI (1 : Int32), vR b, vI (1 : Int32), vI (3 : Int32), vI (1 : Int32), vI c0] [(.int (1 : Int32))]) _
      refine XS.iload X361.here hx rfl (hb hby d5_5) rfl ?_
      show Sp p e below T361 (mkF m 7 #[vR a, vI (1 : Int32), vR b, vI (1 : Int32), vI (3 : Int32), vI (1 : Int32), vI c0] [(.int (3 : Int32)), (.int (1 : Int32))]) _
      refine XS.icmpNo X361.here hx rfl (hb hby d5_7) rfl (tlt (show (1 : Int32) < (3 : Int32) from (by decide))).2.1 ?_
      show Sp p e below T361 (mkF m 10 #[vR a, vI (1 : Int32), vR b, vI (1 : Int32), vI (3 : Int32), vI (1 : Int32), vI c0] []) _
      refine XS.aloadN X361.here hx rfl (hb hby d5_10) rfl rfl ?_
      show Sp p e below T361 (mkF m 11 #[vR a, vI (1 : Int32), vR b, vI (1 : Int32), vI (3 : Int32), vI (1 : Int32), vI c0] [(.ref a)]) _
      refine XS.iloadN X361.here hx rfl (hb hby d5_11) rfl ?_
      show Sp p e below T361 (mkF m 12 #[vR a, vI (1 : Int32), vR b, vI (1 : Int32), vI (3 : Int32), vI (1 : Int32), vI c0] [(.int (1 : Int32)), (.ref a)]) _
      exact kt)
    clear S364
    have f367 := (Va.other W361 hab)
    obtain ⟨co368, Ao368, qo368, So368, No368, Ho368, Go368⟩ := id f367
    have hino368 : ¬ ((1 : Int32) < 0 ∨ co368.slots.size ≤ ((1 : Int32)).toNatClampNeg) := inb_of So368 ⟨by decide, by decide⟩
    have hato368 : co368.slots[((1 : Int32)).toNatClampNeg]? = some (.int c1) := Has.at Ho368 hino368 rfl
    have S369 : Go p e below s₁ (eF_cmp3 m a (0 : Int32) b (0 : Int32) (3 : Int32)) T361 (mkF m 20 #[vR a, vI (1 : Int32), vR b, vI (1 : Int32), vI (3 : Int32), vI (1 : Int32), vI c1] [(.int (255 : Int32)), (.int c1)]) := fun t kt => S366 t (by
      refine X361.caload hx (j := (1 : Int32)) (v := (.int c1)) (by rw [e361]; exact Ao368.1) (State.isArrayOf_alike hZ.alike Ao368.2.1) Ao368.2.2 hino368 hato368 (g := (mkF m 12 #[vR a, vI (1 : Int32), vR b, vI (1 : Int32), vI (3 : Int32), vI (1 : Int32), vI c0] [(.int (1 : Int32)), (.ref a)])) rfl rfl (hb hby d5_12) _ ?_
      show Sp p e below T361 (mkF m 13 #[vR a, vI (1 : Int32), vR b, vI (1 : Int32), vI (3 : Int32), vI (1 : Int32), vI c0] [(.int c1)]) _
      refine XS.istore X361.here hx rfl (hb hby d5_13) rfl (l' := #[vR a, vI (1 : Int32), vR b, vI (1 : Int32), vI (3 : Int32), vI (1 : Int32), vI c1]) rfl ?_
      show Sp p e below T361 (mkF m 15 #[vR a, vI (1 : Int32), vR b, vI (1 : Int32), vI (3 : Int32), vI (1 : Int32), vI c1] []) _
      refine XS.iload X361.here hx rfl (hb hby d5_15) rfl ?_
      show Sp p e below T361 (mkF m 17 #[vR a, vI (1 : Int32), vR b, vI (1 : Int32), vI (3 : Int32), vI (1 : Int32), vI c1] [(.int c1)]) _
      refine XS.sipush X361.here hx rfl (hb hby d5_17) ?_
      show Sp p e below T361 (mkF m 20 #[vR a, vI (1 : Int32), vR b, vI (1 : Int32), vI (3 : Int32), vI (1 : Int32), vI c1] [(.int (255 : Int32)), (.int c1)]) _
      exact kt)
    clear S366
    by_cases hq1 : (255 : Int32) < c1
    · have S370 : Go p e below s₁ (eF_cmp3 m a (0 : Int32) b (0 : Int32) (3 : Int32)) T361 (mkF m 25 #[vR a, vI (1 : Int32), vR b, vI (1 : Int32), vI (3 : Int32), vI (1 : Int32), vI c1] [(.int (1 : Int32))]) := fun t kt => S369 t (by
        refine XS.icmpNo X361.here hx rfl (hb hby d5_20) rfl (tlt (show (255 : Int32) < c1 from hq1)).2.2.2 ?_
        show Sp p e below T361 (mkF m 23 #[vR a, vI (1 : Int32), vR b, vI (1 : Int32), vI (3 : Int32), vI (1 : Int32), vI c1] []) _
        refine XS.iload X361.here hx rfl (hb hby d5_23) rfl ?_
        show Sp p e below T361 (mkF m 25 #[vR a, vI (1 : Int32), vR b, vI (1 : Int32), vI (3 : Int32), vI (1 : Int32), vI c1] [(.int (1 : Int32))]) _
        exact kt)
      clear S369
      obtain ⟨fs, hr, hrun, hended, hW, hsame⟩ := X361.leave (v := some (.int (1 : Int32))) (fun h => by first | rfl | (rw [Bd.returns] at h; cases h))
      refine ⟨_, _, S370 _ ?_, hrun, hended, _, _, rfl, ?_, ⟨_, rfl⟩, hW, hsame.mono (by decide) (by decide)⟩
      · exact retI X361 hx Bd.returns (hb hby d5_25) hr
      · show Q_cmp3 Z b kb c0 c1 c2 h0 n0 _ T361.heap _
        rw [e361]
        exact ⟨_, rfl, N361, K361, Or.inr (Or.inr (Or.inl ⟨rfl, hq1⟩))⟩
    · have S371 : Go p e below s₁ (eF_cmp3 m a (0 : Int32) b (0 : Int32) (3 : Int32)) T361 (mkF m 31 #[vR a, vI (1 : Int32), vR b, vI (1 : Int32), vI (3 : Int32), vI (1 : Int32), vI c1] [(.int (c1.toInt8.toInt32)), (.int (1 : Int32)), (.ref b)]) := fun t kt => S369 t (by
        refine XS.icmpYes X361.here hx rfl (pc0 := 20) (pc' := 26) rfl (hb hby d5_20) rfl (flt (show ¬ ((255 : Int32) < c1) from hq1)).2.2.2 (by decide) (by decide) ?_
        show Sp p e below T361 (mkF m 26 #[vR a, vI (1 : Int32), vR b, vI (1 : Int32), vI (3 : Int32), vI (1 : Int32), vI c1] []) _
        refine XS.aloadN X361.here hx rfl (hb hby d5_26) rfl rfl ?_
        show Sp p e below T361 (mkF m 27 #[vR a, vI (1 : Int32), vR b, vI (1 : Int32), vI (3 : Int32), vI (1 : Int32), vI c1] [(.ref b)]) _
        refine XS.iloadN X361.here hx rfl (hb hby d5_27) rfl ?_
        show Sp p e below T361 (mkF m 28 #[vR a, vI (1 : Int32), vR b, vI (1 : Int32), vI (3 : Int32), vI (1 : Int32), vI c1] [(.int (1 : Int32)), (.ref b)]) _
        refine XS.iload X361.here hx rfl (hb hby d5_28) rfl ?_
        show Sp p e below T361 (mkF m 30 #[vR a, vI (1 : Int32), vR b, vI (1 : Int32), vI (3 : Int32), vI (1 : Int32), vI c1] [(.int c1), (.int (1 : Int32)), (.ref b)]) _
        refine XS.i2b X361.here hx rfl (hb hby d5_30) rfl ?_
        show Sp p e below T361 (mkF m 31 #[vR a, vI (1 : Int32), vR b, vI (1 : Int32), vI (3 : Int32), vI (1 : Int32), vI c1] [(.int (c1.toInt8.toInt32)), (.int (1 : Int32)), (.ref b)]) _
        exact kt)
      clear S369
      obtain ⟨co372, Ao372, qo372, So372, No372, Ho372, Go372⟩ := id V361
      have hino372 : ¬ ((1 : Int32) < 0 ∨ co372.slots.size ≤ ((1 : Int32)).toNatClampNeg) := inb_of So372 ⟨by decide, by decide⟩
      obtain ⟨T373, h373, X373, e373, W373, st373⟩ := stB X361 hx hZ e361 Ao372 (j := (1 : Int32)) hino372 (g := (mkF m 31 #[vR a, vI (1 : Int32), vR b, vI (1 : Int32), vI (3 : Int32), vI (1 : Int32), vI c1] [(.int (c1.toInt8.toInt32)), (.int (1 : Int32)), (.ref b)])) rfl rfl (hb hby d5_31)
      have N373 := Fr.snoc X373 N361 g_b
      have K373 : Keep h0 h373 [b] := K361.wr W373 (Or.inl (by simp))
      have V373 : Arv Z h373 b kb .byte (3 : Int32) [(.int (StrChars.lo8 c0)), (.int ((c1.toInt8.toInt32).toInt8.toInt32)), (.int (0 : Int32))] (.int (0 : Int32)) := Arv.set Ao372 qo372 So372 No372 Ho372 Go372 (fits_nar_byte _) W373 1 rfl (Nat.le_of_ble_eq_true rfl)
      rw [own_lo c1] at V373
      have S374 : Go p e below s₁ (eF_cmp3 m a (0 : Int32) b (0 : Int32) (3 : Int32)) T373 (mkF m 32 #[vR a, vI (1 : Int32), vR b, vI (1 : Int32), vI (3 : Int32), vI (1 : Int32), vI c1] []) := fun t kt => S371 t (st373 t kt)
      clear S371 st373 X361 e361
      have S375 : Go p e below s₁ (eF_cmp3 m a (0 : Int32) b (0 : Int32) (3 : Int32)) T373 (mkF m 3 #[vR a, vI ((1 : Int32) + (1 : Int32)), vR b, vI ((1 : Int32) + (1 : Int32)), vI (3 : Int32), vI ((1 : Int32) + (1 : Int32)), vI c1] []) := fun t kt => S374 t (by
        refine XS.iinc X373.here hx rfl (hb hby d5_32) rfl (l' := #[vR a, vI ((1 : Int32) + (1 : Int32)), vR b, vI (1 : Int32), vI (3 : Int32), vI (1 : Int32), vI c1]) rfl ?_
        show Sp p e below T373 (mkF m 35 #[vR a, vI ((1 : Int32) + (1 : Int32)), vR b, vI (1 : Int32), vI (3 : Int32), vI (1 : Int32), vI c1] []) _
        refine XS.iinc X373.here hx rfl (hb hby d5_35) rfl (l' := #[vR a, vI ((1 : Int32) + (1 : Int32)), vR b, vI ((1 : Int32) + (1 : Int32)), vI (3 : Int32), vI (1 : Int32), vI c1]) rfl ?_
        show Sp p e below T373 (mkF m 38 #[vR a, vI ((1 : Int32) + (1 : Int32)), vR b, vI ((1 : Int32) + (1 : Int32)), vI (3 : Int32), vI (1 : Int32), vI c1] []) _
        refine XS.iinc X373.here hx rfl (hb hby d5_38) rfl (l' := #[vR a, vI ((1 : Int32) + (1 : Int32)), vR b, vI ((1 : Int32) + (1 : Int32)), vI (3 : Int32), vI ((1 : Int32) + (1 : Int32)), vI c1]) rfl ?_
        show Sp p e below T373 (mkF m 41 #[vR a, vI ((1 : Int32) + (1 : Int32)), vR b, vI ((1 : Int32) + (1 : Int32)), vI (3 : Int32), vI ((1 : Int32) + (1 : Int32)), vI c1] []) _
        refine XS.goto X373.here hx rfl (pc0 := 41) (pc' := 3) rfl (hb hby d5_41) (by decide) (by decide) ?_
        show Sp p e below T373 (mkF m 3 #[vR a, vI ((1 : Int32) + (1 : Int32)), vR b, vI ((1 : Int32) + (1 : Int32)), vI (3 : Int32), vI ((1 : Int32) + (1 : Int32)), vI c1] []) _
        exact kt)
      clear S374
      have q377 : ((1 : Int32) + (1 : Int32)) = (2 : Int32) := by decide
      have S376 : Go p e below s₁ (eF_cmp3 m a (0 : Int32) b (0 : Int32) (3 : Int32)) T373 (mkF m 3 #[vR a, vI (2 : Int32), vR b, vI (2 : Int32), vI (3 : Int32), vI (2 : Int32), vI c1] []) := by have h := S375; rw [q377] at h; exact h
      clear S375
      have S378 : Go p e below s₁ (eF_cmp3 m a (0 : Int32) b (0 : Int32) (3 : Int32)) T373 (mkF m 12 #[vR a, vI (2 : Int32), vR b, vI (2 : Int32), vI (3 : Int32), vI (2 : Int32), vI c1] [(.int (2 : Int32)), (.ref a)]) := fun t kt => S376 t (by
        refine XS.iload X373.here hx rfl (hb hby d5_3) rfl ?_
        show Sp p e below T373 (mkF m 5 #[vR a, vI (2 : Int32), vR b, vI (2 : Int32), vI (3 : Int32), vI (2 : Int32), vI c1] [(.int (2 : Int32))]) _
        refine XS.iload X373.here hx rfl (hb hby d5_5) rfl ?_
        show Sp p e below T373 (mkF m 7 #[vR a, vI (2 : Int32), vR b, vI (2 : Int32), vI (3 : Int32), vI (2 : Int32), vI c1] [(.int (3 : Int32)), (.int (2 : Int32))]) _
        refine XS.icmpNo X373.here hx rfl (hb hby d5_7) rfl (tlt (show (2 : Int32) < (3 : Int32) from (by decide))).2.1 ?_
        show Sp p e below T373 (mkF m 10 #[vR a, vI (2 : Int32), vR b, vI (2 : Int32), vI (3 : Int32), vI (2 : Int32), vI c1] []) _
        refine XS.aloadN X373.here hx rfl (hb hby d5_10) rfl rfl ?_
        show Sp p e below T373 (mkF m 11 #[vR a, vI (2 : Int32), vR b, vI (2 : Int32), vI (3 : Int32), vI (2 : Int32), vI c1] [(.ref a)]) _
        refine XS.iloadN X373.here hx rfl (hb hby d5_11) rfl ?_
        show Sp p e below T373 (mkF m 12 #[vR a, vI (2 : Int32), vR b, vI (2 : Int32), vI (3 : Int32), vI (2 : Int32), vI c1] [(.int (2 : Int32)), (.ref a)]) _
        exact kt)
      clear S376
      have f379 := (f367.other W373 hab)
      obtain ⟨co380, Ao380, qo380, So380, No380, Ho380, Go380⟩ := id f379
      have hino380 : ¬ ((2 : Int32) < 0 ∨ co380.slots.size ≤ ((2 : Int32)).toNatClampNeg) := inb_of So380 ⟨by decide, by decide⟩
      have hato380 : co380.slots[((2 : Int32)).toNatClampNeg]? = some (.int c2) := Has.at Ho380 hino380 rfl
      have S381 : Go p e below s₁ (eF_cmp3 m a (0 : Int32) b (0 : Int32) (3 : Int32)) T373 (mkF m 20 #[vR a, vI (2 : Int32), vR b, vI (2 : Int32), vI (3 : Int32), vI (2 : Int32), vI c2] [(.int (255 : Int32)), (.int c2)]) := fun t kt => S378 t (by
        refine X373.caload hx (j := (2 : Int32)) (v := (.int c2)) (by rw [e373]; exact Ao380.1) (State.isArrayOf_alike hZ.alike Ao380.2.1) Ao380.2.2 hino380 hato380 (g := (mkF m 12 #[vR a, vI (2 : Int32), vR b, vI (2 : Int32), vI (3 : Int32), vI (2 : Int32), vI c1] [(.int (2 : Int32)), (.ref a)])) rfl rfl (hb hby d5_12) _ ?_
        show Sp p e below T373 (mkF m 13 #[vR a, vI (2 : Int32), vR b, vI (2 : Int32), vI (3 : Int32), vI (2 : Int32), vI c1] [(.int c2)]) _
        refine XS.istore X373.here hx rfl (hb hby d5_13) rfl (l' := #[vR a, vI (2 : Int32), vR b, vI (2 : Int32), vI (3 : Int32), vI (2 : Int32), vI c2]) rfl ?_
        show Sp p e below T373 (mkF m 15 #[vR a, vI (2 : Int32), vR b, vI (2 : Int32), vI (3 : Int32), vI (2 : Int32), vI c2] []) _
        refine XS.iload X373.here hx rfl (hb hby d5_15) rfl ?_
        show Sp p e below T373 (mkF m 17 #[vR a, vI (2 : Int32), vR b, vI (2 : Int32), vI (3 : Int32), vI (2 : Int32), vI c2] [(.int c2)]) _
        refine XS.sipush X373.here hx rfl (hb hby d5_17) ?_
        show Sp p e below T373 (mkF m 20 #[vR a, vI (2 : Int32), vR b, vI (2 : Int32), vI (3 : Int32), vI (2 : Int32), vI c2] [(.int (255 : Int32)), (.int c2)]) _
        exact kt)
      clear S378
      by_cases hq2 : (255 : Int32) < c2
      · have S382 : Go p e below s₁ (eF_cmp3 m a (0 : Int32) b (0 : Int32) (3 : Int32)) T373 (mkF m 25 #[vR a, vI (2 : Int32), vR b, vI (2 : Int32), vI (3 : Int32), vI (2 : Int32), vI c2] [(.int (2 : Int32))]) := fun t kt => S381 t (by
          refine XS.icmpNo X373.here hx rfl (hb hby d5_20) rfl (tlt (show (255 : Int32) < c2 from hq2)).2.2.2 ?_
          show Sp p e below T373 (mkF m 23 #[vR a, vI (2 : Int32), vR b, vI (2 : Int32), vI (3 : Int32), vI (2 : Int32), vI c2] []) _
          refine XS.iload X373.here hx rfl (hb hby d5_23) rfl ?_
          show Sp p e below T373 (mkF m 25 #[vR a, vI (2 : Int32), vR b, vI (2 : Int32), vI (3 : Int32), vI (2 : Int32), vI c2] [(.int (2 : Int32))]) _
          exact kt)
        clear S381
        obtain ⟨fs, hr, hrun, hended, hW, hsame⟩ := X373.leave (v := some (.int (2 : Int32))) (fun h => by first | rfl | (rw [Bd.returns] at h; cases h))
        refine ⟨_, _, S382 _ ?_, hrun, hended, _, _, rfl, ?_, ⟨_, rfl⟩, hW, hsame.mono (by decide) (by decide)⟩
        · exact retI X373 hx Bd.returns (hb hby d5_25) hr
        · show Q_cmp3 Z b kb c0 c1 c2 h0 n0 _ T373.heap _
          rw [e373]
          exact ⟨_, rfl, N373, K373, Or.inr (Or.inr (Or.inr (⟨rfl, hq2⟩)))⟩
      · have S383 : Go p e below s₁ (eF_cmp3 m a (0 : Int32) b (0 : Int32) (3 : Int32)) T373 (mkF m 31 #[vR a, vI (2 : Int32), vR b, vI (2 : Int32), vI (3 : Int32), vI (2 : Int32), vI c2] [(.int (c2.toInt8.toInt32)), (.int (2 : Int32)), (.ref b)]) := fun t kt => S381 t (by
          refine XS.icmpYes X373.here hx rfl (pc0 := 20) (pc' := 26) rfl (hb hby d5_20) rfl (flt (show ¬ ((255 : Int32) < c2) from hq2)).2.2.2 (by decide) (by decide) ?_
          show Sp p e below T373 (mkF m 26 #[vR a, vI (2 : Int32), vR b, vI (2 : Int32), vI (3 : Int32), vI (2 : Int32), vI c2] []) _
          refine XS.aloadN X373.here hx rfl (hb hby d5_26) rfl rfl ?_
          show Sp p e below T373 (mkF m 27 #[vR a, vI (2 : Int32), vR b, vI (2 : Int32), vI (3 : Int32), vI (2 : Int32), vI c2] [(.ref b)]) _
          refine XS.iloadN X373.here hx rfl (hb hby d5_27) rfl ?_
          show Sp p e below T373 (mkF m 28 #[vR a, vI (2 : Int32), vR b, vI (2 : Int32), vI (3 : Int32), vI (2 : Int32), vI c2] [(.int (2 : Int32)), (.ref b)]) _
          refine XS.iload X373.here hx rfl (hb hby d5_28) rfl ?_
          show Sp p e below T373 (mkF m 30 #[vR a, vI (2 : Int32), vR b, vI (2 : Int32), vI (3 : Int32), vI (2 : Int32), vI c2] [(.int c2), (.int (2 : Int32)), (.ref b)]) _
          refine XS.i2b X373.here hx rfl (hb hby d5_30) rfl ?_
          show Sp p e below T373 (mkF m 31 #[vR a, vI (2 : Int32), vR b, vI (2 : Int32), vI (3 : Int32), vI (2 : Int32), vI c2] [(.int (c2.toInt8.toInt32)), (.int (2 : Int32)), (.ref b)]) _
          exact kt)
        clear S381
        obtain ⟨co384, Ao384, qo384, So384, No384, Ho384, Go384⟩ := id V373
        have hino384 : ¬ ((2 : Int32) < 0 ∨ co384.slots.size ≤ ((2 : Int32)).toNatClampNeg) := inb_of So384 ⟨by decide, by decide⟩
        obtain ⟨T385, h385, X385, e385, W385, st385⟩ := stB X373 hx hZ e373 Ao384 (j := (2 : Int32)) hino384 (g := (mkF m 31 #[vR a, vI (2 : Int32), vR b, vI (2 : Int32), vI (3 : Int32), vI (2 : Int32), vI c2] [(.int (c2.toInt8.toInt32)), (.int (2 : Int32)), (.ref b)])) rfl rfl (hb hby d5_31)
        have N385 := Fr.snoc X385 N373 g_b
        have K385 : Keep h0 h385 [b] := K373.wr W385 (Or.inl (by simp))
        have V385 : Arv Z h385 b kb .byte (3 : Int32) [(.int (StrChars.lo8 c0)), (.int (StrChars.lo8 c1)), (.int ((c2.toInt8.toInt32).toInt8.toInt32))] (.int (0 : Int32)) := Arv.set Ao384 qo384 So384 No384 Ho384 Go384 (fits_nar_byte _) W385 2 rfl (Nat.le_of_ble_eq_true rfl)
        rw [own_lo c2] at V385
        have S386 : Go p e below s₁ (eF_cmp3 m a (0 : Int32) b (0 : Int32) (3 : Int32)) T385 (mkF m 32 #[vR a, vI (2 : Int32), vR b, vI (2 : Int32), vI (3 : Int32), vI (2 : Int32), vI c2] []) := fun t kt => S383 t (st385 t kt)
        clear S383 st385 X373 e373
        have S387 : Go p e below s₁ (eF_cmp3 m a (0 : Int32) b (0 : Int32) (3 : Int32)) T385 (mkF m 3 #[vR a, vI ((2 : Int32) + (1 : Int32)), vR b, vI ((2 : Int32) + (1 : Int32)), vI (3 : Int32), vI ((2 : Int32) + (1 : Int32)), vI c2] []) := fun t kt => S386 t (by
          refine XS.iinc X385.here hx rfl (hb hby d5_32) rfl (l' := #[vR a, vI ((2 : Int32) + (1 : Int32)), vR b, vI (2 : Int32), vI (3 : Int32), vI (2 : Int32), vI c2]) rfl ?_
          show Sp p e below T385 (mkF m 35 #[vR a, vI ((2 : Int32) + (1 : Int32)), vR b, vI (2 : Int32), vI (3 : Int32), vI (2 : Int32), vI c2] []) _
          refine XS.iinc X385.here hx rfl (hb hby d5_35) rfl (l' := #[vR a, vI ((2 : Int32) + (1 : Int32)), vR b, vI ((2 : Int32) + (1 : Int32)), vI (3 : Int32), vI (2 : Int32), vI c2]) rfl ?_
          show Sp p e below T385 (mkF m 38 #[vR a, vI ((2 : Int32) + (1 : Int32)), vR b, vI ((2 : Int32) + (1 : Int32)), vI (3 : Int32), vI (2 : Int32), vI c2] []) _
          refine XS.iinc X385.here hx rfl (hb hby d5_38) rfl (l' := #[vR a, vI ((2 : Int32) + (1 : Int32)), vR b, vI ((2 : Int32) + (1 : Int32)), vI (3 : Int32), vI ((2 : Int32) + (1 : Int32)), vI c2]) rfl ?_
          show Sp p e below T385 (mkF m 41 #[vR a, vI ((2 : Int32) + (1 : Int32)), vR b, vI ((2 : Int32) + (1 : Int32)), vI (3 : Int32), vI ((2 : Int32) + (1 : Int32)), vI c2] []) _
          refine XS.goto X385.here hx rfl (pc0 := 41) (pc' := 3) rfl (hb hby d5_41) (by decide) (by decide) ?_
          show Sp p e below T385 (mkF m 3 #[vR a, vI ((2 : Int32) + (1 : Int32)), vR b, vI ((2 : Int32) + (1 : Int32)), vI (3 : Int32), vI ((2 : Int32) + (1 : Int32)), vI c2] []) _
          exact kt)
        clear S386
        have q389 : ((2 : Int32) + (1 : Int32)) = (3 : Int32) := by decide
        have S388 : Go p e below s₁ (eF_cmp3 m a (0 : Int32) b (0 : Int32) (3 : Int32)) T385 (mkF m 3 #[vR a, vI (3 : Int32), vR b, vI (3 : Int32), vI (3 : Int32), vI (3 : Int32), vI c2] []) := by have h := S387; rw [q389] at h; exact h
        clear S387
        have S390 : Go p e below s₁ (eF_cmp3 m a (0 : Int32) b (0 : Int32) (3 : Int32)) T385 (mkF m 46 #[vR a, vI (3 : Int32), vR b, vI (3 : Int32), vI (3 : Int32), vI (3 : Int32), vI c2] [(.int (3 : Int32))]) := fun t kt => S388 t (by
          refine XS.iload X385.here hx rfl (hb hby d5_3) rfl ?_
          show Sp p e below T385 (mkF m 5 #[vR a, vI (3 : Int32), vR b, vI (3 : Int32), vI (3 : Int32), vI (3 : Int32), vI c2] [(.int (3 : Int32))]) _
          refine XS.iload X385.here hx rfl (hb hby d5_5) rfl ?_
          show Sp p e below T385 (mkF m 7 #[vR a, vI (3 : Int32), vR b, vI (3 : Int32), vI (3 : Int32), vI (3 : Int32), vI c2] [(.int (3 : Int32)), (.int (3 : Int32))]) _
          refine XS.icmpYes X385.here hx rfl (pc0 := 7) (pc' := 44) rfl (hb hby d5_7) rfl (flt (show ¬ ((3 : Int32) < (3 : Int32)) from (by decide))).2.1 (by decide) (by decide) ?_
          show Sp p e below T385 (mkF m 44 #[vR a, vI (3 : Int32), vR b, vI (3 : Int32), vI (3 : Int32), vI (3 : Int32), vI c2] []) _
          refine XS.iload X385.here hx rfl (hb hby d5_44) rfl ?_
          show Sp p e below T385 (mkF m 46 #[vR a, vI (3 : Int32), vR b, vI (3 : Int32), vI (3 : Int32), vI (3 : Int32), vI c2] [(.int (3 : Int32))]) _
          exact kt)
        clear S388
        obtain ⟨fs, hr, hrun, hended, hW, hsame⟩ := X385.leave (v := some (.int (3 : Int32))) (fun h => by first | rfl | (rw [Bd.returns] at h; cases h))
        refine ⟨_, _, S390 _ ?_, hrun, hended, _, _, rfl, ?_, ⟨_, rfl⟩, hW, hsame.mono (by decide) (by decide)⟩
        · exact retI X385 hx Bd.returns (hb hby d5_46) hr
        · show Q_cmp3 Z b kb c0 c1 c2 h0 n0 _ T385.heap _
          rw [e385]
          exact ⟨_, rfl, N385, K385, Or.inl ⟨rfl, ⟨hq0, hq1, hq2, trivial⟩, V385⟩⟩
abbrev eF_com3 (m : MethodId) (x0 : Addr) (x1 : Int32) (x2 : Int32) : JFrame := entryFrame m #[(.ref x0), (.int x1), (.int x2)] 6
theorem ef_com3 (m : MethodId) (x0 : Addr) (x1 : Int32) (x2 : Int32) : entryFrame m #[(.ref x0), (.int x1), (.int x2)] 6 = mkF m 0 #[.val (.ref x0), .val (.int x1), .val (.int x2), .unset, .unset, .unset] [] := by first | (simp [entryFrame, mkF, argsToLocals, Value.category]; done) | rfl
theorem pn_com3 : plainName "java/lang/StringUTF16" = true := by first | (simp [plainName, overriddenIn]; done) | decide +kernel
def Q_com3 (Z : State) (c0 : Int32) (c1 : Int32) (c2 : Int32) (h0 : Heap) (n0 : Nat) (v : Option Value) (h : Heap) (L : List Loc) : Prop := ∃ t kb n vs cd, v = some (.ref t) ∧ Fr n0 L ∧ Keep h0 h [] ∧ h0.size ≤ t ∧ Arv Z h t kb .byte n vs (.int (0 : Int32)) ∧ StrChars.Road.CodA [c0, c1, c2] cd n vs ∧ ((cd = 0 ∧ n = (3 : Int32)) ∨ (cd = 1 ∧ n = (6 : Int32)))
set_option maxRecDepth 65536 in
set_option maxHeartbeats 40000000 in
theorem rm_com3 (l : Launch) (Z : State) (a0 : Array Value) (hw : ∀ d ∈ tables_1, d.before a0 Z = true) (ws : List Jvm.Cond) (a : Addr) (ka : ClassId) (c0 : Int32) (c1 : Int32) (c2 : Int32) (h0 : Heap) (n0 : Nat) (Z0 : n0 ≤ h0.size) (SS : own_St Z) (O0 : Old Z n0 h0)(Va : Arv Z h0 a ka .char (3 : Int32) [(.int c0), (.int c1), (.int c2)] (.int (0 : Int32)))(hc0 : own_Ch c0) (hc1 : own_Ch c1) (hc2 : own_Ch c2) :
    MetFree l (⟨"java/lang/StringUTF16", "compress", "([CII)[B"⟩ : MethodName) (head1 (Jvm.Cond.code (⟨"java/lang/StringUTF16", "compress", "([CII)[B"⟩ : MethodName) jdk_52_method_16_code 6 (some (.array .byte)) :: ws) ({ frames := 3, cells := 2, slots := 9, locals := 40 } : Room)) (fun aa U => aa = #[(.ref a), (.int (0 : Int32)), (.int (3 : Int32))] ∧ Z.Warmed39 U.vm ∧ U.heap = h0) (fun _ _ _ _ _ => True) (fun _ U o U' => ∃ v L, o = .returned v ∧ Q_com3 Z c0 c1 c2 h0 n0 v U'.heap L ∧ FrameEnd U o U' L ({ frames := 3, cells := 2, slots := 9, locals := 40 } : Room).cells ({ frames := 3, cells := 2, slots := 9, locals := 40 } : Room).slots) := by
  refine MetFree.of_bodySF (plainFor_of_name pn_com3) hisR ?_
  intro p e s m args below meth c s₁ Bd hml0 hP hK
  obtain ⟨rfl, hZ, hh⟩ := hP
  have hx := Bd.exec
  have hby := Bd.bytes
  have hml : c.maxLocals = 6 := hml0
  have hown : s.vm.findClass "java/lang/StringUTF16" = some m.cls := findClass_of_methodNamed Bd.named
  have hnm := (name_of_methodNamed Bd.named Bd.method).1
  have X0 : Stand p l e ({ frames := 3, cells := 2, slots := 9, locals := 40 } : Room) s m #[(.ref a), (.int (0 : Int32)), (.int (3 : Int32))] below meth c s₁ [] 0 0 := Stand.of_body Bd
  have e0 : s₁.heap = h0 := by rw [← hh, Bd.state]; rfl
  have N0 := Fr.nil n0
  have S0 : Go p e below s₁ (eF_com3 m a (0 : Int32) (3 : Int32)) s₁ (mkF m 0 #[vR a, vI (0 : Int32), vI (3 : Int32), vU, vU, vU] []) := fun t k => castTop (ef_com3 m a (0 : Int32) (3 : Int32)) k
  obtain ⟨⟨cz, S_cs, hcz⟩, ⟨fm, S_fm, hfm⟩, S_ad, S_hi, S_lo⟩ := id SS
  have S391 : Go p e below s₁ (eF_com3 m a (0 : Int32) (3 : Int32)) s₁ (mkF m 1 #[vR a, vI (0 : Int32), vI (3 : Int32), vU, vU, vU] [(.int (3 : Int32))]) := fun t kt => S0 t (by
    refine XS.iloadN X0.here hx rfl (hb hby d4_0) rfl ?_
    show Sp p e below s₁ (mkF m 1 #[vR a, vI (0 : Int32), vI (3 : Int32), vU, vU, vU] [(.int (3 : Int32))]) _
    exact kt)
  clear S0
  obtain ⟨T392, h392, k392, X392, e392, E392, A392, st392⟩ := newP X0 hx hZ (own_h hw 20 rfl) e0 (g := (mkF m 1 #[vR a, vI (0 : Int32), vI (3 : Int32), vU, vU, vU] [(.int (3 : Int32))])) rfl (hb hby d4_1) rfl (by decide) (cap := 3) (by decide) (by decide) (by decide) (by decide)
  obtain ⟨b1, g392⟩ : ∃ z, z = h0.size := ⟨_, rfl⟩
  rw [← g392] at A392 st392
  have ne393 : a ≠ b1 := by rw [g392]; exact Nat.ne_of_lt Va.lt
  have g_b1 : n0 ≤ b1 := Nat.le_trans Z0 (Nat.le_of_eq g392.symm)
  have sz_b1 : h0.size ≤ b1 := Nat.le_trans (Keep.refl h0 []).1 (Nat.le_of_eq g392.symm)
  have K392 : Keep h0 h392 [] := (Keep.refl h0 []).ext E392
  have V392 : Arv Z h392 b1 k392 .byte (3 : Int32) [(.int (0 : Int32)), (.int (0 : Int32)), (.int (0 : Int32))] (.int (0 : Int32)) := (Arv.new A392 (by decide)).pad (pad_rep [] _ 3)
  have S394 : Go p e below s₁ (eF_com3 m a (0 : Int32) (3 : Int32)) T392 (mkF m 3 #[vR a, vI (0 : Int32), vI (3 : Int32), vU, vU, vU] [(.ref b1)]) := fun t kt => S391 t (st392 t kt)
  clear S391 st392 X0 e0
  have S395 : Go p e below s₁ (eF_com3 m a (0 : Int32) (3 : Int32)) T392 (mkF m 9 #[vR a, vI (0 : Int32), vI (3 : Int32), vR b1, vU, vU] [(.int (3 : Int32)), (.int (0 : Int32)), (.ref b1), (.int (0 : Int32)), (.ref a)]) := fun t kt => S394 t (by
    refine XS.astoreN X392.here hx rfl (hb hby d4_3) rfl rfl (l' := #[vR a, vI (0 : Int32), vI (3 : Int32), vR b1, vU, vU]) rfl ?_
    show Sp p e below T392 (mkF m 4 #[vR a, vI (0 : Int32), vI (3 : Int32), vR b1, vU, vU] []) _
    refine XS.aloadN X392.here hx rfl (hb hby d4_4) rfl rfl ?_
    show Sp p e below T392 (mkF m 5 #[vR a, vI (0 : Int32), vI (3 : Int32), vR b1, vU, vU] [(.ref a)]) _
    refine XS.iloadN X392.here hx rfl (hb hby d4_5) rfl ?_
    show Sp p e below T392 (mkF m 6 #[vR a, vI (0 : Int32), vI (3 : Int32), vR b1, vU, vU] [(.int (0 : Int32)), (.ref a)]) _
    refine XS.aloadN X392.here hx rfl (hb hby d4_6) rfl rfl ?_
    show Sp p e below T392 (mkF m 7 #[vR a, vI (0 : Int32), vI (3 : Int32), vR b1, vU, vU] [(.ref b1), (.int (0 : Int32)), (.ref a)]) _
    refine XS.iconst X392.here hx rfl (hb hby d4_7) ?_
    show Sp p e below T392 (mkF m 8 #[vR a, vI (0 : Int32), vI (3 : Int32), vR b1, vU, vU] [(.int (0 : Int32)), (.ref b1), (.int (0 : Int32)), (.ref a)]) _
    refine XS.iloadN X392.here hx rfl (hb hby d4_8) rfl ?_
    show Sp p e below T392 (mkF m 9 #[vR a, vI (0 : Int32), vI (3 : Int32), vR b1, vU, vU] [(.int (3 : Int32)), (.int (0 : Int32)), (.ref b1), (.int (0 : Int32)), (.ref a)]) _
    exact kt)
  clear S394
  have f396 := (Va.ext E392)
  obtain ⟨v397, T397, L397, X397, hQ397, st397⟩ := own_outS (Jvm.LawKit.callS X392 hx (y := (⟨"java/lang/StringUTF16", "compress", "([CI[BII)I"⟩ : MethodName)) hown (mvT hZ (own_h hw 21 rfl)) (mvT hZ (own_h hw 22 rfl)) (mvT hZ (own_h hw 18 rfl)) (mvT hZ (own_h hw 23 rfl)) (by decide) (backOf (W := 0) (rm_cmp3 l Z a0 hw [] a b1 ka k392 c0 c1 c2 h392 n0 (Nat.le_trans Z0 E392.1) f396 V392 ne393 g_b1) hZ (own_h hw 23 rfl) (own_h hw 18 rfl) (by decide) (by decide)) (g := (mkF m 9 #[vR a, vI (0 : Int32), vI (3 : Int32), vR b1, vU, vU] [(.int (3 : Int32)), (.int (0 : Int32)), (.ref b1), (.int (0 : Int32)), (.ref a)])) rfl (by rw [hml]; rfl) (argsL := [(.ref a), (.int (0 : Int32)), (.ref b1), (.int (0 : Int32)), (.int (3 : Int32))]) (rest := []) (lenOf pd___CI_BII_I rfl) rfl (by show 2 * 0 + _ ≤ _; exact Nat.le_of_eq rfl) (hb hby d4_9) (fun _ _ => ⟨rfl, e392, (by decide : 1 + 0 ≤ _), (by decide : 3 + 0 ≤ _)⟩))
  obtain ⟨r, rfl, N397q, K397, hor⟩ := hQ397
  have N397 := Fr.app N0 N397q
  have KK397 : Keep h0 T397.heap [] := K392.trans K397 (allS (Or.inr sz_b1) all0)
  have S398 : Go p e below s₁ (eF_com3 m a (0 : Int32) (3 : Int32)) T397 (mkF m 12 #[vR a, vI (0 : Int32), vI (3 : Int32), vR b1, vU, vU] [(.int r)]) := fun t kt => S395 t (st397 t kt)
  clear S395 st397 X392 e392
  rcases hor with ⟨rfl, hall, Vl⟩ | ⟨rfl, hk⟩ | ⟨rfl, hk⟩ | ⟨rfl, hk⟩
  · have S399 : Go p e below s₁ (eF_com3 m a (0 : Int32) (3 : Int32)) T397 (mkF m 58 #[vR a, vI (0 : Int32), vI (3 : Int32), vR b1, vI (3 : Int32), vU] [(.ref b1)]) := fun t kt => S398 t (by
      refine XS.istore X397.here hx rfl (hb hby d4_12) rfl (l' := #[vR a, vI (0 : Int32), vI (3 : Int32), vR b1, vI (3 : Int32), vU]) rfl ?_
      show Sp p e below T397 (mkF m 14 #[vR a, vI (0 : Int32), vI (3 : Int32), vR b1, vI (3 : Int32), vU] []) _
      refine XS.iload X397.here hx rfl (hb hby d4_14) rfl ?_
      show Sp p e below T397 (mkF m 16 #[vR a, vI (0 : Int32), vI (3 : Int32), vR b1, vI (3 : Int32), vU] [(.int (3 : Int32))]) _
      refine XS.iloadN X397.here hx rfl (hb hby d4_16) rfl ?_
      show Sp p e below T397 (mkF m 17 #[vR a, vI (0 : Int32), vI (3 : Int32), vR b1, vI (3 : Int32), vU] [(.int (3 : Int32)), (.int (3 : Int32))]) _
      refine XS.icmpYes X397.here hx rfl (pc0 := 17) (pc' := 57) rfl (hb hby d4_17) rfl (teq (show (3 : Int32) = (3 : Int32) from (by decide))).1 (by decide) (by decide) ?_
      show Sp p e below T397 (mkF m 57 #[vR a, vI (0 : Int32), vI (3 : Int32), vR b1, vI (3 : Int32), vU] []) _
      refine XS.aloadN X397.here hx rfl (hb hby d4_57) rfl rfl ?_
      show Sp p e below T397 (mkF m 58 #[vR a, vI (0 : Int32), vI (3 : Int32), vR b1, vI (3 : Int32), vU] [(.ref b1)]) _
      exact kt)
    clear S398
    obtain ⟨fs, hr, hrun, hended, hW, hsame⟩ := X397.leave (v := some (.ref b1)) (fun h => by first | rfl | (rw [Bd.returns] at h; cases h))
    refine ⟨_, _, S399 _ ?_, hrun, hended, _, _, rfl, ?_, ⟨_, rfl⟩, hW, hsame.mono (by decide) (by decide)⟩
    · exact retOut X397 hx Bd.returns rfl (Or.inr (Or.inr (Or.inr (Or.inr ⟨rfl, rfl, rfl⟩)))) (hb hby d4_58) hr
    · show Q_com3 Z c0 c1 c2 h0 n0 _ T397.heap _
      exact ⟨b1, _, _, _, (0 : Int32), rfl, N397, KK397, sz_b1, Vl, Or.inl ⟨rfl, rfl, rfl, (fun z hz => by simp only [List.mem_cons, List.not_mem_nil, or_false] at hz; rcases hz with rfl | rfl | rfl <;> first | exact hall.1 | exact hall.2.1 | exact hall.2.2.1 | exact hall.2.2.2.1)⟩, Or.inl ⟨rfl, rfl⟩⟩
  · have S400 : Go p e below s₁ (eF_com3 m a (0 : Int32) (3 : Int32)) T397 (mkF m 23 #[vR a, vI (0 : Int32), vI (3 : Int32), vR b1, vI (0 : Int32), vU] [(.int (3 : Int32)), (.int (0 : Int32)), (.ref a)]) := fun t kt => S398 t (by
      refine XS.istore X397.here hx rfl (hb hby d4_12) rfl (l' := #[vR a, vI (0 : Int32), vI (3 : Int32), vR b1, vI (0 : Int32), vU]) rfl ?_
      show Sp p e below T397 (mkF m 14 #[vR a, vI (0 : Int32), vI (3 : Int32), vR b1, vI (0 : Int32), vU] []) _
      refine XS.iload X397.here hx rfl (hb hby d4_14) rfl ?_
      show Sp p e below T397 (mkF m 16 #[vR a, vI (0 : Int32), vI (3 : Int32), vR b1, vI (0 : Int32), vU] [(.int (0 : Int32))]) _
      refine XS.iloadN X397.here hx rfl (hb hby d4_16) rfl ?_
      show Sp p e below T397 (mkF m 17 #[vR a, vI (0 : Int32), vI (3 : Int32), vR b1, vI (0 : Int32), vU] [(.int (3 : Int32)), (.int (0 : Int32))]) _
      refine XS.icmpNo X397.here hx rfl (hb hby d4_17) rfl (feq (show ¬ ((0 : Int32) = (3 : Int32)) from (by decide))).1 ?_
      show Sp p e below T397 (mkF m 20 #[vR a, vI (0 : Int32), vI (3 : Int32), vR b1, vI (0 : Int32), vU] []) _
      refine XS.aloadN X397.here hx rfl (hb hby d4_20) rfl rfl ?_
      show Sp p e below T397 (mkF m 21 #[vR a, vI (0 : Int32), vI (3 : Int32), vR b1, vI (0 : Int32), vU] [(.ref a)]) _
      refine XS.iloadN X397.here hx rfl (hb hby d4_21) rfl ?_
      show Sp p e below T397 (mkF m 22 #[vR a, vI (0 : Int32), vI (3 : Int32), vR b1, vI (0 : Int32), vU] [(.int (0 : Int32)), (.ref a)]) _
      refine XS.iloadN X397.here hx rfl (hb hby d4_22) rfl ?_
      show Sp p e below T397 (mkF m 23 #[vR a, vI (0 : Int32), vI (3 : Int32), vR b1, vI (0 : Int32), vU] [(.int (3 : Int32)), (.int (0 : Int32)), (.ref a)]) _
      exact kt)
    clear S398
    have f401 := ((O0.ext E392).keep K397 (allS g_b1 all0))
    have f402 := (f396.keep K397 (ninS ne393 nin0))
    obtain ⟨v403, T403, L403, X403, hQ403, st403⟩ := own_outS (Jvm.LawKit.callS X397 hx (y := (⟨"java/lang/StringUTF16", "toBytes", "([CII)[B"⟩ : MethodName)) hown (mvT hZ (own_h hw 88 rfl)) (mvT hZ (own_h hw 89 rfl)) (mvT hZ (own_h hw 18 rfl)) (mvT hZ (own_h hw 90 rfl)) (by decide) (backOf (W := 0) (rm_tob3 l Z a0 hw [] a ka c0 c1 c2 T397.heap n0 (Nat.le_trans (Nat.le_trans Z0 E392.1) K397.1) SS f401 f402) hZ (own_h hw 90 rfl) (own_h hw 18 rfl) (by decide) (by decide)) (g := (mkF m 23 #[vR a, vI (0 : Int32), vI (3 : Int32), vR b1, vI (0 : Int32), vU] [(.int (3 : Int32)), (.int (0 : Int32)), (.ref a)])) rfl (by rw [hml]; rfl) (argsL := [(.ref a), (.int (0 : Int32)), (.int (3 : Int32))]) (rest := []) (lenOf pd___CII__B rfl) rfl (by show 2 * 0 + _ ≤ _; exact Nat.le_of_eq rfl) (hb hby d4_23) (fun _ _ => ⟨rfl, rfl, (by decide : 1 + 1 ≤ _), (by decide : 3 + 6 ≤ _)⟩))
    obtain ⟨t1, kb403, rfl, N403q, K403, sz403, V403⟩ := hQ403
    have N403 := Fr.app N397 N403q
    have KK403 : Keep h0 T403.heap [] := KK397.trans K403 all0
    have sz_t1 : h0.size ≤ t1 := Nat.le_trans KK397.1 sz403
    have g_t1 : n0 ≤ t1 := Nat.le_trans (Nat.le_trans (Nat.le_trans Z0 E392.1) K397.1) sz403
    have S404 : Go p e below s₁ (eF_com3 m a (0 : Int32) (3 : Int32)) T403 (mkF m 26 #[vR a, vI (0 : Int32), vI (3 : Int32), vR b1, vI (0 : Int32), vU] [(.ref t1)]) := fun t kt => S400 t (st403 t kt)
    clear S400 st403 X397
    have S405 : Go p e below s₁ (eF_com3 m a (0 : Int32) (3 : Int32)) T403 (mkF m 32 #[vR a, vI (0 : Int32), vI (3 : Int32), vR b1, vI (0 : Int32), vR t1] [(.int (0 : Int32)), (.ref t1)]) := fun t kt => S404 t (by
      refine XS.astore X403.here hx rfl (hb hby d4_26) rfl rfl (l' := #[vR a, vI (0 : Int32), vI (3 : Int32), vR b1, vI (0 : Int32), vR t1]) rfl ?_
      show Sp p e below T403 (mkF m 28 #[vR a, vI (0 : Int32), vI (3 : Int32), vR b1, vI (0 : Int32), vR t1] []) _
      refine XS.aload X403.here hx rfl (hb hby d4_28) rfl rfl ?_
      show Sp p e below T403 (mkF m 30 #[vR a, vI (0 : Int32), vI (3 : Int32), vR b1, vI (0 : Int32), vR t1] [(.ref t1)]) _
      refine XS.iload X403.here hx rfl (hb hby d4_30) rfl ?_
      show Sp p e below T403 (mkF m 32 #[vR a, vI (0 : Int32), vI (3 : Int32), vR b1, vI (0 : Int32), vR t1] [(.int (0 : Int32)), (.ref t1)]) _
      exact kt)
    clear S404
    have f406 := (f401.keep K403 all0)
    obtain ⟨v407, T407, L407, X407, hQ407, st407⟩ := own_outS (Jvm.LawKit.callS X403 hx (y := (⟨"java/lang/StringUTF16", "getChar", "([BI)C"⟩ : MethodName)) hown (mvT hZ (own_h hw 104 rfl)) (mvT hZ (own_h hw 105 rfl)) (mvT hZ (own_h hw 18 rfl)) (mvT hZ (own_h hw 106 rfl)) (by decide) (backOf (W := 0) (rm_gch l Z a0 hw [] t1 (0 : Int32) kb403 (6 : Int32) [(.int (StrChars.lo8 c0)), (.int (StrChars.hi8 c0)), (.int (StrChars.lo8 c1)), (.int (StrChars.hi8 c1)), (.int (StrChars.lo8 c2)), (.int (StrChars.hi8 c2))] c0 T403.heap n0 (Nat.le_trans (Nat.le_trans (Nat.le_trans Z0 E392.1) K397.1) K403.1) SS f406 V403 (by decide) (by decide) (by rw [show ((0 : Int32) <<< ((1 : Int32) &&& 31)).toNatClampNeg = 0 from by decide]; rfl) (by rw [show (((0 : Int32) <<< ((1 : Int32) &&& 31)) + (1 : Int32)).toNatClampNeg = 1 from by decide]; rfl) hc0) hZ (own_h hw 106 rfl) (own_h hw 18 rfl) (by decide) (by decide)) (g := (mkF m 32 #[vR a, vI (0 : Int32), vI (3 : Int32), vR b1, vI (0 : Int32), vR t1] [(.int (0 : Int32)), (.ref t1)])) rfl (by rw [hml]; rfl) (argsL := [(.ref t1), (.int (0 : Int32))]) (rest := []) (lenOf pd___BI_C rfl) rfl (by show 2 * 0 + _ ≤ _; exact Nat.le_of_eq rfl) (hb hby d4_32) (fun _ _ => ⟨rfl, rfl, (by decide : 2 + 0 ≤ _), (by decide : 9 + 0 ≤ _)⟩))
    obtain ⟨rfl, N407q, e407⟩ := hQ407
    have N407 := Fr.app N403 N407q
    have S408 : Go p e below s₁ (eF_com3 m a (0 : Int32) (3 : Int32)) T407 (mkF m 35 #[vR a, vI (0 : Int32), vI (3 : Int32), vR b1, vI (0 : Int32), vR t1] [(.int c0)]) := fun t kt => S405 t (st407 t kt)
    clear S405 st407 X403
    have S409 : Go p e below s₁ (eF_com3 m a (0 : Int32) (3 : Int32)) T407 (mkF m 38 #[vR a, vI (0 : Int32), vI (3 : Int32), vR b1, vI (0 : Int32), vR t1] [(.int (255 : Int32)), (.int c0)]) := fun t kt => S408 t (by
      refine XS.sipush X407.here hx rfl (hb hby d4_35) ?_
      show Sp p e below T407 (mkF m 38 #[vR a, vI (0 : Int32), vI (3 : Int32), vR b1, vI (0 : Int32), vR t1] [(.int (255 : Int32)), (.int c0)]) _
      exact kt)
    clear S408
    have S410 : Go p e below s₁ (eF_com3 m a (0 : Int32) (3 : Int32)) T407 (mkF m 56 #[vR a, vI (0 : Int32), vI (3 : Int32), vR b1, vI (0 : Int32), vR t1] [(.ref t1)]) := fun t kt => S409 t (by
      refine XS.icmpYes X407.here hx rfl (pc0 := 38) (pc' := 54) rfl (hb hby d4_38) rfl (tlt (show (255 : Int32) < c0 from hk)).2.2.1 (by decide) (by decide) ?_
      show Sp p e below T407 (mkF m 54 #[vR a, vI (0 : Int32), vI (3 : Int32), vR b1, vI (0 : Int32), vR t1] []) _
      refine XS.aload X407.here hx rfl (hb hby d4_54) rfl rfl ?_
      show Sp p e below T407 (mkF m 56 #[vR a, vI (0 : Int32), vI (3 : Int32), vR b1, vI (0 : Int32), vR t1] [(.ref t1)]) _
      exact kt)
    clear S409
    obtain ⟨fs, hr, hrun, hended, hW, hsame⟩ := X407.leave (v := some (.ref t1)) (fun h => by first | rfl | (rw [Bd.returns] at h; cases h))
    refine ⟨_, _, S410 _ ?_, hrun, hended, _, _, rfl, ?_, ⟨_, rfl⟩, hW, hsame.mono (by decide) (by decide)⟩
    · exact retOut X407 hx Bd.returns rfl (Or.inr (Or.inr (Or.inr (Or.inr ⟨rfl, rfl, rfl⟩)))) (hb hby d4_56) hr
    · show Q_com3 Z c0 c1 c2 h0 n0 _ T407.heap _
      rw [e407]
      exact ⟨t1, _, _, _, (1 : Int32), rfl, N407, KK403, sz_t1, V403, Or.inr ⟨rfl, rfl, rfl, ⟨c0, by simp, hk⟩⟩, Or.inr ⟨rfl, rfl⟩⟩
  · have S411 : Go p e below s₁ (eF_com3 m a (0 : Int32) (3 : Int32)) T397 (mkF m 23 #[vR a, vI (0 : Int32), vI (3 : Int32), vR b1, vI (1 : Int32), vU] [(.int (3 : Int32)), (.int (0 : Int32)), (.ref a)]) := fun t kt => S398 t (by
      refine XS.istore X397.here hx rfl (hb hby d4_12) rfl (l' := #[vR a, vI (0 : Int32), vI (3 : Int32), vR b1, vI (1 : Int32), vU]) rfl ?_
      show Sp p e below T397 (mkF m 14 #[vR a, vI (0 : Int32), vI (3 : Int32), vR b1, vI (1 : Int32), vU] []) _
      refine XS.iload X397.here hx rfl (hb hby d4_14) rfl ?_
      show Sp p e below T397 (mkF m 16 #[vR a, vI (0 : Int32), vI (3 : Int32), vR b1, vI (1 : Int32), vU] [(.int (1 : Int32))]) _
      refine XS.iloadN X397.here hx rfl (hb hby d4_16) rfl ?_
      show Sp p e below T397 (mkF m 17 #[vR a, vI (0 : Int32), vI (3 : Int32), vR b1, vI (1 : Int32), vU] [(.int (3 : Int32)), (.int (1 : Int32))]) _
      refine XS.icmpNo X397.here hx rfl (hb hby d4_17) rfl (feq (show ¬ ((1 : Int32) = (3 : Int32)) from (by decide))).1 ?_
      show Sp p e below T397 (mkF m 20 #[vR a, vI (0 : Int32), vI (3 : Int32), vR b1, vI (1 : Int32), vU] []) _
      refine XS.aloadN X397.here hx rfl (hb hby d4_20) rfl rfl ?_
      show Sp p e below T397 (mkF m 21 #[vR a, vI (0 : Int32), vI (3 : Int32), vR b1, vI (1 : Int32), vU] [(.ref a)]) _
      refine XS.iloadN X397.here hx rfl (hb hby d4_21) rfl ?_
      show Sp p e below T397 (mkF m 22 #[vR a, vI (0 : Int32), vI (3 : Int32), vR b1, vI (1 : Int32), vU] [(.int (0 : Int32)), (.ref a)]) _
      refine XS.iloadN X397.here hx rfl (hb hby d4_22) rfl ?_
      show Sp p e below T397 (mkF m 23 #[vR a, vI (0 : Int32), vI (3 : Int32), vR b1, vI (1 : Int32), vU] [(.int (3 : Int32)), (.int (0 : Int32)), (.ref a)]) _
      exact kt)
    clear S398
    have f412 := ((O0.ext E392).keep K397 (allS g_b1 all0))
    have f413 := (f396.keep K397 (ninS ne393 nin0))
    obtain ⟨v414, T414, L414, X414, hQ414, st414⟩ := own_outS (Jvm.LawKit.callS X397 hx (y := (⟨"java/lang/StringUTF16", "toBytes", "([CII)[B"⟩ : MethodName)) hown (mvT hZ (own_h hw 88 rfl)) (mvT hZ (own_h hw 89 rfl)) (mvT hZ (own_h hw 18 rfl)) (mvT hZ (own_h hw 90 rfl)) (by decide) (backOf (W := 0) (rm_tob3 l Z a0 hw [] a ka c0 c1 c2 T397.heap n0 (Nat.le_trans (Nat.le_trans Z0 E392.1) K397.1) SS f412 f413) hZ (own_h hw 90 rfl) (own_h hw 18 rfl) (by decide) (by decide)) (g := (mkF m 23 #[vR a, vI (0 : Int32), vI (3 : Int32), vR b1, vI (1 : Int32), vU] [(.int (3 : Int32)), (.int (0 : Int32)), (.ref a)])) rfl (by rw [hml]; rfl) (argsL := [(.ref a), (.int (0 : Int32)), (.int (3 : Int32))]) (rest := []) (lenOf pd___CII__B rfl) rfl (by show 2 * 0 + _ ≤ _; exact Nat.le_of_eq rfl) (hb hby d4_23) (fun _ _ => ⟨rfl, rfl, (by decide : 1 + 1 ≤ _), (by decide : 3 + 6 ≤ _)⟩))
    obtain ⟨t1, kb414, rfl, N414q, K414, sz414, V414⟩ := hQ414
    have N414 := Fr.app N397 N414q
    have KK414 : Keep h0 T414.heap [] := KK397.trans K414 all0
    have sz_t1 : h0.size ≤ t1 := Nat.le_trans KK397.1 sz414
    have g_t1 : n0 ≤ t1 := Nat.le_trans (Nat.le_trans (Nat.le_trans Z0 E392.1) K397.1) sz414
    have S415 : Go p e below s₁ (eF_com3 m a (0 : Int32) (3 : Int32)) T414 (mkF m 26 #[vR a, vI (0 : Int32), vI (3 : Int32), vR b1, vI (1 : Int32), vU] [(.ref t1)]) := fun t kt => S411 t (st414 t kt)
    clear S411 st414 X397
    have S416 : Go p e below s₁ (eF_com3 m a (0 : Int32) (3 : Int32)) T414 (mkF m 32 #[vR a, vI (0 : Int32), vI (3 : Int32), vR b1, vI (1 : Int32), vR t1] [(.int (1 : Int32)), (.ref t1)]) := fun t kt => S415 t (by
      refine XS.astore X414.here hx rfl (hb hby d4_26) rfl rfl (l' := #[vR a, vI (0 : Int32), vI (3 : Int32), vR b1, vI (1 : Int32), vR t1]) rfl ?_
      show Sp p e below T414 (mkF m 28 #[vR a, vI (0 : Int32), vI (3 : Int32), vR b1, vI (1 : Int32), vR t1] []) _
      refine XS.aload X414.here hx rfl (hb hby d4_28) rfl rfl ?_
      show Sp p e below T414 (mkF m 30 #[vR a, vI (0 : Int32), vI (3 : Int32), vR b1, vI (1 : Int32), vR t1] [(.ref t1)]) _
      refine XS.iload X414.here hx rfl (hb hby d4_30) rfl ?_
      show Sp p e below T414 (mkF m 32 #[vR a, vI (0 : Int32), vI (3 : Int32), vR b1, vI (1 : Int32), vR t1] [(.int (1 : Int32)), (.ref t1)]) _
      exact kt)
    clear S415
    have f417 := (f412.keep K414 all0)
    obtain ⟨v418, T418, L418, X418, hQ418, st418⟩ := own_outS (Jvm.LawKit.callS X414 hx (y := (⟨"java/lang/StringUTF16", "getChar", "([BI)C"⟩ : MethodName)) hown (mvT hZ (own_h hw 104 rfl)) (mvT hZ (own_h hw 105 rfl)) (mvT hZ (own_h hw 18 rfl)) (mvT hZ (own_h hw 106 rfl)) (by decide) (backOf (W := 0) (rm_gch l Z a0 hw [] t1 (1 : Int32) kb414 (6 : Int32) [(.int (StrChars.lo8 c0)), (.int (StrChars.hi8 c0)), (.int (StrChars.lo8 c1)), (.int (StrChars.hi8 c1)), (.int (StrChars.lo8 c2)), (.int (StrChars.hi8 c2))] c1 T414.heap n0 (Nat.le_trans (Nat.le_trans (Nat.le_trans Z0 E392.1) K397.1) K414.1) SS f417 V414 (by decide) (by decide) (by rw [show ((1 : Int32) <<< ((1 : Int32) &&& 31)).toNatClampNeg = 2 from by decide]; rfl) (by rw [show (((1 : Int32) <<< ((1 : Int32) &&& 31)) + (1 : Int32)).toNatClampNeg = 3 from by decide]; rfl) hc1) hZ (own_h hw 106 rfl) (own_h hw 18 rfl) (by decide) (by decide)) (g := (mkF m 32 #[vR a, vI (0 : Int32), vI (3 : Int32), vR b1, vI (1 : Int32), vR t1] [(.int (1 : Int32)), (.ref t1)])) rfl (by rw [hml]; rfl) (argsL := [(.ref t1), (.int (1 : Int32))]) (rest := []) (lenOf pd___BI_C rfl) rfl (by show 2 * 0 + _ ≤ _; exact Nat.le_of_eq rfl) (hb hby d4_32) (fun _ _ => ⟨rfl, rfl, (by decide : 2 + 0 ≤ _), (by decide : 9 + 0 ≤ _)⟩))
    obtain ⟨rfl, N418q, e418⟩ := hQ418
    have N418 := Fr.app N414 N418q
    have S419 : Go p e below s₁ (eF_com3 m a (0 : Int32) (3 : Int32)) T418 (mkF m 35 #[vR a, vI (0 : Int32), vI (3 : Int32), vR b1, vI (1 : Int32), vR t1] [(.int c1)]) := fun t kt => S416 t (st418 t kt)
    clear S416 st418 X414
    have S420 : Go p e below s₁ (eF_com3 m a (0 : Int32) (3 : Int32)) T418 (mkF m 38 #[vR a, vI (0 : Int32), vI (3 : Int32), vR b1, vI (1 : Int32), vR t1] [(.int (255 : Int32)), (.int c1)]) := fun t kt => S419 t (by
      refine XS.sipush X418.here hx rfl (hb hby d4_35) ?_
      show Sp p e below T418 (mkF m 38 #[vR a, vI (0 : Int32), vI (3 : Int32), vR b1, vI (1 : Int32), vR t1] [(.int (255 : Int32)), (.int c1)]) _
      exact kt)
    clear S419
    have S421 : Go p e below s₁ (eF_com3 m a (0 : Int32) (3 : Int32)) T418 (mkF m 56 #[vR a, vI (0 : Int32), vI (3 : Int32), vR b1, vI (1 : Int32), vR t1] [(.ref t1)]) := fun t kt => S420 t (by
      refine XS.icmpYes X418.here hx rfl (pc0 := 38) (pc' := 54) rfl (hb hby d4_38) rfl (tlt (show (255 : Int32) < c1 from hk)).2.2.1 (by decide) (by decide) ?_
      show Sp p e below T418 (mkF m 54 #[vR a, vI (0 : Int32), vI (3 : Int32), vR b1, vI (1 : Int32), vR t1] []) _
      refine XS.aload X418.here hx rfl (hb hby d4_54) rfl rfl ?_
      show Sp p e below T418 (mkF m 56 #[vR a, vI (0 : Int32), vI (3 : Int32), vR b1, vI (1 : Int32), vR t1] [(.ref t1)]) _
      exact kt)
    clear S420
    obtain ⟨fs, hr, hrun, hended, hW, hsame⟩ := X418.leave (v := some (.ref t1)) (fun h => by first | rfl | (rw [Bd.returns] at h; cases h))
    refine ⟨_, _, S421 _ ?_, hrun, hended, _, _, rfl, ?_, ⟨_, rfl⟩, hW, hsame.mono (by decide) (by decide)⟩
    · exact retOut X418 hx Bd.returns rfl (Or.inr (Or.inr (Or.inr (Or.inr ⟨rfl, rfl, rfl⟩)))) (hb hby d4_56) hr
    · show Q_com3 Z c0 c1 c2 h0 n0 _ T418.heap _
      rw [e418]
      exact ⟨t1, _, _, _, (1 : Int32), rfl, N418, KK414, sz_t1, V414, Or.inr ⟨rfl, rfl, rfl, ⟨c1, by simp, hk⟩⟩, Or.inr ⟨rfl, rfl⟩⟩
  · have S422 : Go p e below s₁ (eF_com3 m a (0 : Int32) (3 : Int32)) T397 (mkF m 23 #[vR a, vI (0 : Int32), vI (3 : Int32), vR b1, vI (2 : Int32), vU] [(.int (3 : Int32)), (.int (0 : Int32)), (.ref a)]) := fun t kt => S398 t (by
      refine XS.istore X397.here hx rfl (hb hby d4_12) rfl (l' := #[vR a, vI (0 : Int32), vI (3 : Int32), vR b1, vI (2 : Int32), vU]) rfl ?_
      show Sp p e below T397 (mkF m 14 #[vR a, vI (0 : Int32), vI (3 : Int32), vR b1, vI (2 : Int32), vU] []) _
      refine XS.iload X397.here hx rfl (hb hby d4_14) rfl ?_
      show Sp p e below T397 (mkF m 16 #[vR a, vI (0 : Int32), vI (3 : Int32), vR b1, vI (2 : Int32), vU] [(.int (2 : Int32))]) _
      refine XS.iloadN X397.here hx rfl (hb hby d4_16) rfl ?_
      show Sp p e below T397 (mkF m 17 #[vR a, vI (0 : Int32), vI (3 : Int32), vR b1, vI (2 : Int32), vU] [(.int (3 : Int32)), (.int (2 : Int32))]) _
      refine XS.icmpNo X397.here hx rfl (hb hby d4_17) rfl (feq (show ¬ ((2 : Int32) = (3 : Int32)) from (by decide))).1 ?_
      show Sp p e below T397 (mkF m 20 #[vR a, vI (0 : Int32), vI (3 : Int32), vR b1, vI (2 : Int32), vU] []) _
      refine XS.aloadN X397.here hx rfl (hb hby d4_20) rfl rfl ?_
      show Sp p e below T397 (mkF m 21 #[vR a, vI (0 : Int32), vI (3 : Int32), vR b1, vI (2 : Int32), vU] [(.ref a)]) _
      refine XS.iloadN X397.here hx rfl (hb hby d4_21) rfl ?_
      show Sp p e below T397 (mkF m 22 #[vR a, vI (0 : Int32), vI (3 : Int32), vR b1, vI (2 : Int32), vU] [(.int (0 : Int32)), (.ref a)]) _
      refine XS.iloadN X397.here hx rfl (hb hby d4_22) rfl ?_
      show Sp p e below T397 (mkF m 23 #[vR a, vI (0 : Int32), vI (3 : Int32), vR b1, vI (2 : Int32), vU] [(.int (3 : Int32)), (.int (0 : Int32)), (.ref a)]) _
      exact kt)
    clear S398
    have f423 := ((O0.ext E392).keep K397 (allS g_b1 all0))
    have f424 := (f396.keep K397 (ninS ne393 nin0))
    obtain ⟨v425, T425, L425, X425, hQ425, st425⟩ := own_outS (Jvm.LawKit.callS X397 hx (y := (⟨"java/lang/StringUTF16", "toBytes", "([CII)[B"⟩ : MethodName)) hown (mvT hZ (own_h hw 88 rfl)) (mvT hZ (own_h hw 89 rfl)) (mvT hZ (own_h hw 18 rfl)) (mvT hZ (own_h hw 90 rfl)) (by decide) (backOf (W := 0) (rm_tob3 l Z a0 hw [] a ka c0 c1 c2 T397.heap n0 (Nat.le_trans (Nat.le_trans Z0 E392.1) K397.1) SS f423 f424) hZ (own_h hw 90 rfl) (own_h hw 18 rfl) (by decide) (by decide)) (g := (mkF m 23 #[vR a, vI (0 : Int32), vI (3 : Int32), vR b1, vI (2 : Int32), vU] [(.int (3 : Int32)), (.int (0 : Int32)), (.ref a)])) rfl (by rw [hml]; rfl) (argsL := [(.ref a), (.int (0 : Int32)), (.int (3 : Int32))]) (rest := []) (lenOf pd___CII__B rfl) rfl (by show 2 * 0 + _ ≤ _; exact Nat.le_of_eq rfl) (hb hby d4_23) (fun _ _ => ⟨rfl, rfl, (by decide : 1 + 1 ≤ _), (by decide : 3 + 6 ≤ _)⟩))
    obtain ⟨t1, kb425, rfl, N425q, K425, sz425, V425⟩ := hQ425
    have N425 := Fr.app N397 N425q
    have KK425 : Keep h0 T425.heap [] := KK397.trans K425 all0
    have sz_t1 : h0.size ≤ t1 := Nat.le_trans KK397.1 sz425
    have g_t1 : n0 ≤ t1 := Nat.le_trans (Nat.le_trans (Nat.le_trans Z0 E392.1) K397.1) sz425
    have S426 : Go p e below s₁ (eF_com3 m a (0 : Int32) (3 : Int32)) T425 (mkF m 26 #[vR a, vI (0 : Int32), vI (3 : Int32), vR b1, vI (2 : Int32), vU] [(.ref t1)]) := fun t kt => S422 t (st425 t kt)
    clear S422 st425 X397
    have S427 : Go p e below s₁ (eF_com3 m a (0 : Int32) (3 : Int32)) T425 (mkF m 32 #[vR a, vI (0 : Int32), vI (3 : Int32), vR b1, vI (2 : Int32), vR t1] [(.int (2 : Int32)), (.ref t1)]) := fun t kt => S426 t (by
      refine XS.astore X425.here hx rfl (hb hby d4_26) rfl rfl (l' := #[vR a, vI (0 : Int32), vI (3 : Int32), vR b1, vI (2 : Int32), vR t1]) rfl ?_
      show Sp p e below T425 (mkF m 28 #[vR a, vI (0 : Int32), vI (3 : Int32), vR b1, vI (2 : Int32), vR t1] []) _
      refine XS.aload X425.here hx rfl (hb hby d4_28) rfl rfl ?_
      show Sp p e below T425 (mkF m 30 #[vR a, vI (0 : Int32), vI (3 : Int32), vR b1, vI (2 : Int32), vR t1] [(.ref t1)]) _
      refine XS.iload X425.here hx rfl (hb hby d4_30) rfl ?_
      show Sp p e below T425 (mkF m 32 #[vR a, vI (0 : Int32), vI (3 : Int32), vR b1, vI (2 : Int32), vR t1] [(.int (2 : Int32)), (.ref t1)]) _
      exact kt)
    clear S426
    have f428 := (f423.keep K425 all0)
    obtain ⟨v429, T429, L429, X429, hQ429, st429⟩ := own_outS (Jvm.LawKit.callS X425 hx (y := (⟨"java/lang/StringUTF16", "getChar", "([BI)C"⟩ : MethodName)) hown (mvT hZ (own_h hw 104 rfl)) (mvT hZ (own_h hw 105 rfl)) (mvT hZ (own_h hw 18 rfl)) (mvT hZ (own_h hw 106 rfl)) (by decide) (backOf (W := 0) (rm_gch l Z a0 hw [] t1 (2 : Int32) kb425 (6 : Int32) [(.int (StrChars.lo8 c0)), (.int (StrChars.hi8 c0)), (.int (StrChars.lo8 c1)), (.int (StrChars.hi8 c1)), (.int (StrChars.lo8 c2)), (.int (StrChars.hi8 c2))] c2 T425.heap n0 (Nat.le_trans (Nat.le_trans (Nat.le_trans Z0 E392.1) K397.1) K425.1) SS f428 V425 (by decide) (by decide) (by rw [show ((2 : Int32) <<< ((1 : Int32) &&& 31)).toNatClampNeg = 4 from by decide]; rfl) (by rw [show (((2 : Int32) <<< ((1 : Int32) &&& 31)) + (1 : Int32)).toNatClampNeg = 5 from by decide]; rfl) hc2) hZ (own_h hw 106 rfl) (own_h hw 18 rfl) (by decide) (by decide)) (g := (mkF m 32 #[vR a, vI (0 : Int32), vI (3 : Int32), vR b1, vI (2 : Int32), vR t1] [(.int (2 : Int32)), (.ref t1)])) rfl (by rw [hml]; rfl) (argsL := [(.ref t1), (.int (2 : Int32))]) (rest := []) (lenOf pd___BI_C rfl) rfl (by show 2 * 0 + _ ≤ _; exact Nat.le_of_eq rfl) (hb hby d4_32) (fun _ _ => ⟨rfl, rfl, (by decide : 2 + 0 ≤ _), (by decide : 9 + 0 ≤ _)⟩))
    obtain ⟨rfl, N429q, e429⟩ := hQ429
    have N429 := Fr.app N425 N429q
    have S430 : Go p e below s₁ (eF_com3 m a (0 : Int32) (3 : Int32)) T429 (mkF m 35 #[vR a, vI (0 : Int32), vI (3 : Int32), vR b1, vI (2 : Int32), vR t1] [(.int c2)]) := fun t kt => S427 t (st429 t kt)
    clear S427 st429 X425
    have S431 : Go p e below s₁ (eF_com3 m a (0 : Int32) (3 : Int32)) T429 (mkF m 38 #[vR a, vI (0 : Int32), vI (3 : Int32), vR b1, vI (2 : Int32), vR t1] [(.int (255 : Int32)), (.int c2)]) := fun t kt => S430 t (by
      refine XS.sipush X429.here hx rfl (hb hby d4_35) ?_
      show Sp p e below T429 (mkF m 38 #[vR a, vI (0 : Int32), vI (3 : Int32), vR b1, vI (2 : Int32), vR t1] [(.int (255 : Int32)), (.int c2)]) _
      exact kt)
    clear S430
    have S432 : Go p e below s₁ (eF_com3 m a (0 : Int32) (3 : Int32)) T429 (mkF m 56 #[vR a, vI (0 : Int32), vI (3 : Int32), vR b1, vI (2 : Int32), vR t1] [(.ref t1)]) := fun t kt => S431 t (by
      refine XS.icmpYes X429.here hx rfl (pc0 := 38) (pc' := 54) rfl (hb hby d4_38) rfl (tlt (show (255 : Int32) < c2 from hk)).2.2.1 (by decide) (by decide) ?_
      show Sp p e below T429 (mkF m 54 #[vR a, vI (0 : Int32), vI (3 : Int32), vR b1, vI (2 : Int32), vR t1] []) _
      refine XS.aload X429.here hx rfl (hb hby d4_54) rfl rfl ?_
      show Sp p e below T429 (mkF m 56 #[vR a, vI (0 : Int32), vI (3 : Int32), vR b1, vI (2 : Int32), vR t1] [(.ref t1)]) _
      exact kt)
    clear S431
    obtain ⟨fs, hr, hrun, hended, hW, hsame⟩ := X429.leave (v := some (.ref t1)) (fun h => by first | rfl | (rw [Bd.returns] at h; cases h))
    refine ⟨_, _, S432 _ ?_, hrun, hended, _, _, rfl, ?_, ⟨_, rfl⟩, hW, hsame.mono (by decide) (by decide)⟩
    · exact retOut X429 hx Bd.returns rfl (Or.inr (Or.inr (Or.inr (Or.inr ⟨rfl, rfl, rfl⟩)))) (hb hby d4_56) hr
    · show Q_com3 Z c0 c1 c2 h0 n0 _ T429.heap _
      rw [e429]
      exact ⟨t1, _, _, _, (1 : Int32), rfl, N429, KK425, sz_t1, V425, Or.inr ⟨rfl, rfl, rfl, ⟨c2, by simp, hk⟩⟩, Or.inr ⟨rfl, rfl⟩⟩
abbrev eF_ini3 (m : MethodId) (x0 : Addr) (x1 : Addr) (x2 : Int32) (x3 : Int32) : JFrame := entryFrame m #[(.ref x0), (.ref x1), (.int x2), (.int x3), .null] 6
theorem ef_ini3 (m : MethodId) (x0 : Addr) (x1 : Addr) (x2 : Int32) (x3 : Int32) : entryFrame m #[(.ref x0), (.ref x1), (.int x2), (.int x3), .null] 6 = mkF m 0 #[.val (.ref x0), .val (.ref x1), .val (.int x2), .val (.int x3), .val .null, .unset] [] := by first | (simp [entryFrame, mkF, argsToLocals, Value.category]; done) | rfl
theorem pn_ini3 : plainName "java/lang/String" = true := by first | (simp [plainName, overriddenIn]; done) | decide +kernel
def Q_ini3 (Z : State) (x : Addr) (c0 : Int32) (c1 : Int32) (c2 : Int32) (h0 : Heap) (n0 : Nat) (v : Option Value) (h : Heap) (L : List Loc) : Prop := v = none ∧ Fr n0 L ∧ Keep h0 h [x] ∧ ∃ t kb n vs cd, h0.size ≤ t ∧ Exa Z h x "java/lang/String" ∧ Fld Z h x "java/lang/String" "coder" "B" (.int cd) ∧ Fld Z h x "java/lang/String" "value" "[B" (.ref t) ∧ Arv Z h t kb .byte n vs (.int (0 : Int32)) ∧ StrChars.Road.CodA [c0, c1, c2] cd n vs
set_option maxRecDepth 65536 in
set_option maxHeartbeats 40000000 in
theorem rm_ini3 (l : Launch) (Z : State) (a0 : Array Value) (hw : ∀ d ∈ tables_1, d.before a0 Z = true) (ws : List Jvm.Cond) (x : Addr) (a : Addr) (ka : ClassId) (c0 : Int32) (c1 : Int32) (c2 : Int32) (h0 : Heap) (n0 : Nat) (Z0 : n0 ≤ h0.size) (SS : own_St Z) (O0 : Old Z n0 h0)(Va : Arv Z h0 a ka .char (3 : Int32) [(.int c0), (.int c1), (.int c2)] (.int (0 : Int32)))(hc0 : own_Ch c0) (hc1 : own_Ch c1) (hc2 : own_Ch c2)(E0 : Exa Z h0 x "java/lang/String") (F1 : Fld Z h0 x "java/lang/String" "coder" "B" (.int (0 : Int32))) (F2 : Fld Z h0 x "java/lang/String" "value" "[B" .null) (hxa : x ≠ a) (g_x : n0 ≤ x) :
    MetFree l (⟨"java/lang/String", "<init>", "([CIILjava/lang/Void;)V"⟩ : MethodName) (head1 (Jvm.Cond.code (⟨"java/lang/String", "<init>", "([CIILjava/lang/Void;)V"⟩ : MethodName) jdk_42_method_149_code 6 none :: ws) ({ frames := 4, cells := 2, slots := 9, locals := 57 } : Room)) (fun aa U => aa = #[(.ref x), (.ref a), (.int (0 : Int32)), (.int (3 : Int32)), .null] ∧ Z.Warmed39 U.vm ∧ U.heap = h0) (fun _ _ _ _ _ => True) (fun _ U o U' => ∃ v L, o = .returned v ∧ Q_ini3 Z x c0 c1 c2 h0 n0 v U'.heap L ∧ FrameEnd U o U' L ({ frames := 4, cells := 2, slots := 9, locals := 57 } : Room).cells ({ frames := 4, cells := 2, slots := 9, locals := 57 } : Room).slots) := by
  refine MetFree.of_bodySF (plainFor_of_name pn_ini3) hisR ?_
  intro p e s m args below meth c s₁ Bd hml0 hP hK
  obtain ⟨rfl, hZ, hh⟩ := hP
  have hx := Bd.exec
  have hby := Bd.bytes
  have hml : c.maxLocals = 6 := hml0
  have hown : s.vm.findClass "java/lang/String" = some m.cls := findClass_of_methodNamed Bd.named
  have hnm := (name_of_methodNamed Bd.named Bd.method).1
  have X0 : Stand p l e ({ frames := 4, cells := 2, slots := 9, locals := 57 } : Room) s m #[(.ref x), (.ref a), (.int (0 : Int32)), (.int (3 : Int32)), .null] below meth c s₁ [] 0 0 := Stand.of_body Bd
  have e0 : s₁.heap = h0 := by rw [← hh, Bd.state]; rfl
  have N0 := Fr.nil n0
  have S0 : Go p e below s₁ (eF_ini3 m x a (0 : Int32) (3 : Int32)) s₁ (mkF m 0 #[vR x, vR a, vI (0 : Int32), vI (3 : Int32), .val .null, vU] []) := fun t k => castTop (ef_ini3 m x a (0 : Int32) (3 : Int32)) k
  obtain ⟨⟨cz, S_cs, hcz⟩, ⟨fm, S_fm, hfm⟩, S_ad, S_hi, S_lo⟩ := id SS
  have S433 : Go p e below s₁ (eF_ini3 m x a (0 : Int32) (3 : Int32)) s₁ (mkF m 1 #[vR x, vR a, vI (0 : Int32), vI (3 : Int32), .val .null, vU] [(.ref x)]) := fun t kt => S0 t (by
    refine XS.aloadN X0.here hx rfl (hb hby d2_0) rfl rfl ?_
    show Sp p e below s₁ (mkF m 1 #[vR x, vR a, vI (0 : Int32), vI (3 : Int32), .val .null, vU] [(.ref x)]) _
    exact kt)
  clear S0
  obtain ⟨T434, X434, e434, st434⟩ := initO X0 hx hZ hown (own_h hw 12 rfl) (own_h hw 13 rfl) (own_h hw 14 rfl) e0 (g := (mkF m 1 #[vR x, vR a, vI (0 : Int32), vI (3 : Int32), .val .null, vU] [(.ref x)])) rfl (by rw [hml]; rfl) rfl (hb hby d2_1) (by decide) (W := 0) (by show 2 * 0 + _ ≤ _; exact Nat.le_of_eq rfl) (by decide)
  have S435 : Go p e below s₁ (eF_ini3 m x a (0 : Int32) (3 : Int32)) T434 (mkF m 4 #[vR x, vR a, vI (0 : Int32), vI (3 : Int32), .val .null, vU] []) := fun t kt => S433 t (st434 t kt)
  clear S433 st434 X0 e0
  have S436 : Go p e below s₁ (eF_ini3 m x a (0 : Int32) (3 : Int32)) T434 (mkF m 27 #[vR x, vR a, vI (0 : Int32), vI (3 : Int32), .val .null, vU] []) := fun t kt => S435 t (by
    refine XS.iloadN X434.here hx rfl (hb hby d2_4) rfl ?_
    show Sp p e below T434 (mkF m 5 #[vR x, vR a, vI (0 : Int32), vI (3 : Int32), .val .null, vU] [(.int (3 : Int32))]) _
    refine XS.ifYes X434.here hx rfl (pc0 := 5) (pc' := 27) rfl (hb hby d2_5) rfl ((if0 _ _).trans (feq (show ¬ ((3 : Int32) = (0 : Int32)) from (by decide))).2) (by decide) (by decide) ?_
    show Sp p e below T434 (mkF m 27 #[vR x, vR a, vI (0 : Int32), vI (3 : Int32), .val .null, vU] []) _
    exact kt)
  clear S435
  obtain ⟨T437, X437, e437, st437⟩ := getS2 X434 hx hZ hown (host := "") (Or.inl (own_h hw 15 rfl)) Via.refl e434 (S_cs.ext O0.2) (g := (mkF m 27 #[vR x, vR a, vI (0 : Int32), vI (3 : Int32), .val .null, vU] [])) rfl (hb hby d2_27)
  have S438 : Go p e below s₁ (eF_ini3 m x a (0 : Int32) (3 : Int32)) T437 (mkF m 30 #[vR x, vR a, vI (0 : Int32), vI (3 : Int32), .val .null, vU] [(.int cz)]) := fun t kt => S436 t (st437 t kt)
  clear S436 st437 X434 e434
  have S439 : Go p e below s₁ (eF_ini3 m x a (0 : Int32) (3 : Int32)) T437 (mkF m 36 #[vR x, vR a, vI (0 : Int32), vI (3 : Int32), .val .null, vU] [(.int (3 : Int32)), (.int (0 : Int32)), (.ref a)]) := fun t kt => S438 t (by
    refine XS.ifNo X437.here hx rfl (hb hby d2_30) rfl ((if0 _ _).trans (feq (show ¬ (cz = (0 : Int32)) from hcz)).1) ?_
    show Sp p e below T437 (mkF m 33 #[vR x, vR a, vI (0 : Int32), vI (3 : Int32), .val .null, vU] []) _
    refine XS.aloadN X437.here hx rfl (hb hby d2_33) rfl rfl ?_
    show Sp p e below T437 (mkF m 34 #[vR x, vR a, vI (0 : Int32), vI (3 : Int32), .val .null, vU] [(.ref a)]) _
    refine XS.iloadN X437.here hx rfl (hb hby d2_34) rfl ?_
    show Sp p e below T437 (mkF m 35 #[vR x, vR a, vI (0 : Int32), vI (3 : Int32), .val .null, vU] [(.int (0 : Int32)), (.ref a)]) _
    refine XS.iloadN X437.here hx rfl (hb hby d2_35) rfl ?_
    show Sp p e below T437 (mkF m 36 #[vR x, vR a, vI (0 : Int32), vI (3 : Int32), .val .null, vU] [(.int (3 : Int32)), (.int (0 : Int32)), (.ref a)]) _
    exact kt)
  clear S438
  obtain ⟨v440, T440, L440, X440, hQ440, st440⟩ := own_outS (Jvm.LawKit.callS X437 hx (y := (⟨"java/lang/StringUTF16", "compress", "([CII)[B"⟩ : MethodName)) hown (mvT hZ (own_h hw 16 rfl)) (mvT hZ (own_h hw 17 rfl)) (mvT hZ (own_h hw 18 rfl)) (mvT hZ (own_h hw 19 rfl)) (by decide) (backOf (W := 0) (rm_com3 l Z a0 hw [] a ka c0 c1 c2 h0 n0 Z0 SS O0 Va hc0 hc1 hc2) hZ (own_h hw 19 rfl) (own_h hw 18 rfl) (by decide) (by decide)) (g := (mkF m 36 #[vR x, vR a, vI (0 : Int32), vI (3 : Int32), .val .null, vU] [(.int (3 : Int32)), (.int (0 : Int32)), (.ref a)])) rfl (by rw [hml]; rfl) (argsL := [(.ref a), (.int (0 : Int32)), (.int (3 : Int32))]) (rest := []) (lenOf pd___CII__B rfl) rfl (by show 2 * 0 + _ ≤ _; exact Nat.le_of_eq rfl) (hb hby d2_36) (fun _ _ => ⟨rfl, e437, (by decide : 0 + 2 ≤ _), (by decide : 0 + 9 ≤ _)⟩))
  obtain ⟨t1, kb440, n, vs, cd, rfl, N440q, K440, sz440, V440, hcod, hdn⟩ := hQ440
  have N440 := Fr.app N0 N440q
  have KK440 : Keep h0 T440.heap [x] := (Keep.refl h0 [x]).trans K440 all0
  have sz_t1 : h0.size ≤ t1 := Nat.le_trans (Keep.refl h0 [x]).1 sz440
  have g_t1 : n0 ≤ t1 := Nat.le_trans Z0 sz440
  have S441 : Go p e below s₁ (eF_ini3 m x a (0 : Int32) (3 : Int32)) T440 (mkF m 39 #[vR x, vR a, vI (0 : Int32), vI (3 : Int32), .val .null, vU] [(.ref t1)]) := fun t kt => S439 t (st440 t kt)
  clear S439 st440 X437 e437
  have S442 : Go p e below s₁ (eF_ini3 m x a (0 : Int32) (3 : Int32)) T440 (mkF m 45 #[vR x, vR a, vI (0 : Int32), vI (3 : Int32), .val .null, vR t1] [(.int (3 : Int32)), (.ref t1), (.ref x)]) := fun t kt => S441 t (by
    refine XS.astore X440.here hx rfl (hb hby d2_39) rfl rfl (l' := #[vR x, vR a, vI (0 : Int32), vI (3 : Int32), .val .null, vR t1]) rfl ?_
    show Sp p e below T440 (mkF m 41 #[vR x, vR a, vI (0 : Int32), vI (3 : Int32), .val .null, vR t1] []) _
    refine XS.aloadN X440.here hx rfl (hb hby d2_41) rfl rfl ?_
    show Sp p e below T440 (mkF m 42 #[vR x, vR a, vI (0 : Int32), vI (3 : Int32), .val .null, vR t1] [(.ref x)]) _
    refine XS.aload X440.here hx rfl (hb hby d2_42) rfl rfl ?_
    show Sp p e below T440 (mkF m 44 #[vR x, vR a, vI (0 : Int32), vI (3 : Int32), .val .null, vR t1] [(.ref t1), (.ref x)]) _
    refine XS.iloadN X440.here hx rfl (hb hby d2_44) rfl ?_
    show Sp p e below T440 (mkF m 45 #[vR x, vR a, vI (0 : Int32), vI (3 : Int32), .val .null, vR t1] [(.int (3 : Int32)), (.ref t1), (.ref x)]) _
    exact kt)
  clear S441
  have hr1 : (((((3 : Int32) - n).toUInt32 >>> ((31 : Int32) &&& 31).toUInt32).toInt32).toInt8.toInt32) = cd := by rcases hdn with ⟨rfl, rfl⟩ | ⟨rfl, rfl⟩ <;> decide
  have hr2 : nar .byte cd = cd := by rcases hdn with ⟨rfl, rfl⟩ | ⟨rfl, rfl⟩ <;> decide
  obtain ⟨v443, T443, L443, X443, hQ443, st443⟩ := own_outS (Jvm.LawKit.callS X440 hx (y := (⟨"java/lang/StringUTF16", "coderFromArrayLen", "([BI)B"⟩ : MethodName)) hown (mvT hZ (own_h hw 24 rfl)) (mvT hZ (own_h hw 25 rfl)) (mvT hZ (own_h hw 18 rfl)) (mvT hZ (own_h hw 26 rfl)) (by decide) (backOf (W := 1) (rm_cfl l Z a0 hw [] t1 (3 : Int32) kb440 n vs cd T440.heap n0 (Nat.le_trans Z0 K440.1) V440 hr1 hr2) hZ (own_h hw 26 rfl) (own_h hw 18 rfl) (by decide) (by decide)) (g := (mkF m 45 #[vR x, vR a, vI (0 : Int32), vI (3 : Int32), .val .null, vR t1] [(.int (3 : Int32)), (.ref t1), (.ref x)])) rfl (by rw [hml]; rfl) (argsL := [(.ref t1), (.int (3 : Int32))]) (rest := [(.ref x)]) (lenOf pd___BI_B rfl) rfl (by show 2 * 0 + _ ≤ _; exact Nat.le_of_eq rfl) (hb hby d2_45) (fun _ _ => ⟨rfl, rfl, (by decide : 2 + 0 ≤ _), (by decide : 9 + 0 ≤ _)⟩))
  obtain ⟨rfl, N443q, e443⟩ := hQ443
  have N443 := Fr.app N440 N443q
  have S444 : Go p e below s₁ (eF_ini3 m x a (0 : Int32) (3 : Int32)) T443 (mkF m 48 #[vR x, vR a, vI (0 : Int32), vI (3 : Int32), .val .null, vR t1] [(.int cd), (.ref x)]) := fun t kt => S442 t (st443 t kt)
  clear S442 st443 X440
  have f445 := (F1.keep K440 nin0)
  have f446 := (E0.keep K440)
  obtain ⟨T447, h447, X447, e447, W447, st447⟩ := putFN X443 hx hZ hown (own_h hw 27 rfl) Via.refl e443 f445 f446 (Or.inr ⟨(own_h hw 28 rfl), rfl, hnm⟩) (own_h hw 3 rfl) (ty := .byte) (v' := .int (cd.toInt8.toInt32)) (by decide) rfl (fits_nar_byte _) (g := (mkF m 48 #[vR x, vR a, vI (0 : Int32), vI (3 : Int32), .val .null, vR t1] [(.int cd), (.ref x)])) rfl rfl (hb hby d2_48)
  rw [show (cd.toInt8.toInt32) = cd from hr2] at W447
  have N447 := Fr.snoc X447 N443 g_x
  have K447 : Keep h0 h447 [x] := KK440.wr W447 (Or.inl (by simp))
  have Fw447 := f445.same W447
  have S448 : Go p e below s₁ (eF_ini3 m x a (0 : Int32) (3 : Int32)) T447 (mkF m 51 #[vR x, vR a, vI (0 : Int32), vI (3 : Int32), .val .null, vR t1] []) := fun t kt => S444 t (st447 t kt)
  clear S444 st447 X443 e443
  have S449 : Go p e below s₁ (eF_ini3 m x a (0 : Int32) (3 : Int32)) T447 (mkF m 54 #[vR x, vR a, vI (0 : Int32), vI (3 : Int32), .val .null, vR t1] [(.ref t1), (.ref x)]) := fun t kt => S448 t (by
    refine XS.aloadN X447.here hx rfl (hb hby d2_51) rfl rfl ?_
    show Sp p e below T447 (mkF m 52 #[vR x, vR a, vI (0 : Int32), vI (3 : Int32), .val .null, vR t1] [(.ref x)]) _
    refine XS.aload X447.here hx rfl (hb hby d2_52) rfl rfl ?_
    show Sp p e below T447 (mkF m 54 #[vR x, vR a, vI (0 : Int32), vI (3 : Int32), .val .null, vR t1] [(.ref t1), (.ref x)]) _
    exact kt)
  clear S448
  have f450 := ((F2.keep K440 nin0).other W447 (Or.inr (slot_ne (C := "java/lang/String") (Or.inr (own_h hw 30 rfl)) (Or.inr (own_h hw 28 rfl)) (by decide) (t := (.array .byte)) (t' := .byte) (by decide) (by decide))))
  have f451 := (f446.wr W447)
  obtain ⟨T452, h452, X452, e452, W452, st452⟩ := putF X447 hx hZ hown (host := "") (Or.inl (own_h hw 29 rfl)) Via.refl e447 f450 f451 (Or.inr ⟨(own_h hw 30 rfl), rfl, hnm⟩) (own_h hw 3 rfl) (ty := (.array .byte)) (by decide) rfl rfl (g := (mkF m 54 #[vR x, vR a, vI (0 : Int32), vI (3 : Int32), .val .null, vR t1] [(.ref t1), (.ref x)])) rfl rfl (hb hby d2_54)
  have N452 := Fr.snoc X452 N447 g_x
  have K452 : Keep h0 h452 [x] := K447.wr W452 (Or.inl (by simp))
  have Fw452 := f450.same W452
  have S453 : Go p e below s₁ (eF_ini3 m x a (0 : Int32) (3 : Int32)) T452 (mkF m 57 #[vR x, vR a, vI (0 : Int32), vI (3 : Int32), .val .null, vR t1] []) := fun t kt => S449 t (st452 t kt)
  clear S449 st452 X447 e447
  have f454 := (f451.wr W452)
  have f455 := (Fw447.other W452 (Or.inr (slot_ne (C := "java/lang/String") (Or.inr (own_h hw 28 rfl)) (Or.inr (own_h hw 30 rfl)) (by decide) (t := .byte) (t' := (.array .byte)) (by decide) (by decide))))
  have ne456 : x ≠ t1 := Nat.ne_of_lt (Nat.lt_of_lt_of_le (E0.lt) sz440)
  have f457 := ((V440.other W447 (Ne.symm ne456)).other W452 (Ne.symm ne456))
  obtain ⟨fs, hr, hrun, hended, hW, hsame⟩ := X452.leave (v := none) (fun h => by first | rfl | (rw [Bd.returns] at h; cases h))
  refine ⟨_, _, S453 _ ?_, hrun, hended, _, _, rfl, ?_, ⟨_, rfl⟩, hW, hsame.mono (by decide) (by decide)⟩
  · exact X452.returnOut hx Bd.returns (hb hby d2_57) hr
  · show Q_ini3 Z x c0 c1 c2 h0 n0 _ T452.heap _
    rw [e452]
    exact ⟨rfl, N452, K452, t1, _, _, _, cd, sz_t1, f454, f455, Fw452, f457, hcod⟩
abbrev eF_str3 (m : MethodId) (x0 : Addr) (x1 : Addr) : JFrame := entryFrame m #[(.ref x0), (.ref x1)] 2
theorem ef_str3 (m : MethodId) (x0 : Addr) (x1 : Addr) : entryFrame m #[(.ref x0), (.ref x1)] 2 = mkF m 0 #[.val (.ref x0), .val (.ref x1)] [] := by first | (simp [entryFrame, mkF, argsToLocals, Value.category]; done) | rfl
theorem pn_str3 : plainName "java/lang/String" = true := by first | (simp [plainName, overriddenIn]; done) | decide +kernel
def Q_str3 (Z : State) (x : Addr) (c0 : Int32) (c1 : Int32) (c2 : Int32) (h0 : Heap) (n0 : Nat) (v : Option Value) (h : Heap) (L : List Loc) : Prop := v = none ∧ Fr n0 L ∧ Keep h0 h [x] ∧ ∃ t kb n vs cd, h0.size ≤ t ∧ Exa Z h x "java/lang/String" ∧ Fld Z h x "java/lang/String" "coder" "B" (.int cd) ∧ Fld Z h x "java/lang/String" "value" "[B" (.ref t) ∧ Arv Z h t kb .byte n vs (.int (0 : Int32)) ∧ StrChars.Road.CodA [c0, c1, c2] cd n vs
set_option maxRecDepth 65536 in
set_option maxHeartbeats 40000000 in
theorem rm_str3 (l : Launch) (Z : State) (a0 : Array Value) (hw : ∀ d ∈ tables_1, d.before a0 Z = true) (ws : List Jvm.Cond) (x : Addr) (a : Addr) (ka : ClassId) (c0 : Int32) (c1 : Int32) (c2 : Int32) (h0 : Heap) (n0 : Nat) (Z0 : n0 ≤ h0.size) (SS : own_St Z) (O0 : Old Z n0 h0)(Va : Arv Z h0 a ka .char (3 : Int32) [(.int c0), (.int c1), (.int c2)] (.int (0 : Int32)))(hc0 : own_Ch c0) (hc1 : own_Ch c1) (hc2 : own_Ch c2)(E0 : Exa Z h0 x "java/lang/String") (F1 : Fld Z h0 x "java/lang/String" "coder" "B" (.int (0 : Int32))) (F2 : Fld Z h0 x "java/lang/String" "value" "[B" .null) (hxa : x ≠ a) (g_x : n0 ≤ x) :
    MetFree l (⟨"java/lang/String", "<init>", "([C)V"⟩ : MethodName) (head1 (Jvm.Cond.code (⟨"java/lang/String", "<init>", "([C)V"⟩ : MethodName) jdk_42_method_3_code 2 none :: ws) ({ frames := 5, cells := 2, slots := 9, locals := 74 } : Room)) (fun aa U => aa = #[(.ref x), (.ref a)] ∧ Z.Warmed39 U.vm ∧ U.heap = h0) (fun _ _ _ _ _ => True) (fun _ U o U' => ∃ v L, o = .returned v ∧ Q_str3 Z x c0 c1 c2 h0 n0 v U'.heap L ∧ FrameEnd U o U' L ({ frames := 5, cells := 2, slots := 9, locals := 74 } : Room).cells ({ frames := 5, cells := 2, slots := 9, locals := 74 } : Room).slots) := by
  refine MetFree.of_bodySF (plainFor_of_name pn_str3) hisR ?_
  intro p e s m args below meth c s₁ Bd hml0 hP hK
  obtain ⟨rfl, hZ, hh⟩ := hP
  have hx := Bd.exec
  have hby := Bd.bytes
  have hml : c.maxLocals = 2 := hml0
  have hown : s.vm.findClass "java/lang/String" = some m.cls := findClass_of_methodNamed Bd.named
  have hnm := (name_of_methodNamed Bd.named Bd.method).1
  have X0 : Stand p l e ({ frames := 5, cells := 2, slots := 9, locals := 74 } : Room) s m #[(.ref x), (.ref a)] below meth c s₁ [] 0 0 := Stand.of_body Bd
  have e0 : s₁.heap = h0 := by rw [← hh, Bd.state]; rfl
  have N0 := Fr.nil n0
  have S0 : Go p e below s₁ (eF_str3 m x a) s₁ (mkF m 0 #[vR x, vR a] []) := fun t k => castTop (ef_str3 m x a) k
  obtain ⟨⟨cz, S_cs, hcz⟩, ⟨fm, S_fm, hfm⟩, S_ad, S_hi, S_lo⟩ := id SS
  have S458 : Go p e below s₁ (eF_str3 m x a) s₁ (mkF m 4 #[vR x, vR a] [(.ref a), (.int (0 : Int32)), (.ref a), (.ref x)]) := fun t kt => S0 t (by
    refine XS.aloadN X0.here hx rfl (hb hby d1_0) rfl rfl ?_
    show Sp p e below s₁ (mkF m 1 #[vR x, vR a] [(.ref x)]) _
    refine XS.aloadN X0.here hx rfl (hb hby d1_1) rfl rfl ?_
    show Sp p e below s₁ (mkF m 2 #[vR x, vR a] [(.ref a), (.ref x)]) _
    refine XS.iconst X0.here hx rfl (hb hby d1_2) ?_
    show Sp p e below s₁ (mkF m 3 #[vR x, vR a] [(.int (0 : Int32)), (.ref a), (.ref x)]) _
    refine XS.aloadN X0.here hx rfl (hb hby d1_3) rfl rfl ?_
    show Sp p e below s₁ (mkF m 4 #[vR x, vR a] [(.ref a), (.int (0 : Int32)), (.ref a), (.ref x)]) _
    exact kt)
  clear S0
  obtain ⟨co459, Ao459, qo459, So459, No459, Ho459, Go459⟩ := id Va
  have S460 : Go p e below s₁ (eF_str3 m x a) s₁ (mkF m 6 #[vR x, vR a] [.null, (.int (3 : Int32)), (.int (0 : Int32)), (.ref a), (.ref x)]) := fun t kt => S458 t (by
    refine X0.arraylength hx (by rw [e0]; exact Ao459.1) (State.isArrayOf_alike hZ.alike Ao459.2.1) (g := (mkF m 4 #[vR x, vR a] [(.ref a), (.int (0 : Int32)), (.ref a), (.ref x)])) rfl rfl (hb hby d1_4) _ ?_
    rw [len_of So459 No459]
    show Sp p e below s₁ (mkF m 5 #[vR x, vR a] [(.int (3 : Int32)), (.int (0 : Int32)), (.ref a), (.ref x)]) _
    refine XS.aconstNull X0.here hx rfl (hb hby d1_5) ?_
    show Sp p e below s₁ (mkF m 6 #[vR x, vR a] [.null, (.int (3 : Int32)), (.int (0 : Int32)), (.ref a), (.ref x)]) _
    exact kt)
  clear S458
  obtain ⟨v461, T461, L461, X461, hQ461, st461⟩ := own_outV (X0.specialBack hx (y := (⟨"java/lang/String", "<init>", "([CIILjava/lang/Void;)V"⟩ : MethodName)) rfl hown (mvT hZ (own_h hw 8 rfl)) (mvT hZ (own_h hw 9 rfl)) (mvT hZ (own_h hw 11 rfl)) (by decide) (backOf (W := 0) (rm_ini3 l Z a0 hw [] x a ka c0 c1 c2 h0 n0 Z0 SS O0 Va hc0 hc1 hc2 E0 F1 F2 hxa g_x) hZ (own_h hw 11 rfl) (own_h hw 4 rfl) (by decide) (by decide)) (g := (mkF m 6 #[vR x, vR a] [.null, (.int (3 : Int32)), (.int (0 : Int32)), (.ref a), (.ref x)])) rfl (by rw [hml]; rfl) (Steps.refl _) (a := x) (argsL := [(.ref a), (.int (0 : Int32)), (.int (3 : Int32)), .null]) (rest := []) (lenOf pd___CIILjava_lang_Void__V rfl) rfl (by show 2 * 0 + _ ≤ _; exact Nat.le_of_eq rfl) (hb hby d1_6) (fun _ _ => ⟨rfl, e0, (by decide : 0 + 2 ≤ _), (by decide : 0 + 9 ≤ _)⟩))
  obtain ⟨rfl, N461q, K461, hrest⟩ := hQ461
  have N461 := Fr.app N0 N461q
  have KK461 : Keep h0 T461.heap [x] := (Keep.refl h0 [x]).trans K461 (allS (Or.inl (by simp)) all0)
  have S462 : Go p e below s₁ (eF_str3 m x a) T461 (mkF m 9 #[vR x, vR a] []) := fun t kt => S460 t (st461 t kt)
  clear S460 st461 X0 e0
  obtain ⟨fs, hr, hrun, hended, hW, hsame⟩ := X461.leave (v := none) (fun h => by first | rfl | (rw [Bd.returns] at h; cases h))
  refine ⟨_, _, S462 _ ?_, hrun, hended, _, _, rfl, ?_, ⟨_, rfl⟩, hW, hsame.mono (by decide) (by decide)⟩
  · exact X461.returnOut hx Bd.returns (hb hby d1_9) hr
  · show Q_str3 Z x c0 c1 c2 h0 n0 _ T461.heap _
    exact ⟨rfl, N461, KK461, hrest⟩
abbrev eF_nbl4 (m : MethodId) (x0 : Int32) : JFrame := entryFrame m #[(.int x0)] 1
theorem ef_nbl4 (m : MethodId) (x0 : Int32) : entryFrame m #[(.int x0)] 1 = mkF m 0 #[.val (.int x0)] [] := by first | (simp [entryFrame, mkF, argsToLocals, Value.category]; done) | rfl
theorem pn_nbl4 : plainName "java/lang/StringUTF16" = true := by first | (simp [plainName, overriddenIn]; done) | decide +kernel
def Q_nbl4 (Z : State)  (h0 : Heap) (n0 : Nat) (v : Option Value) (h : Heap) (L : List Loc) : Prop := v = some (.int (8 : Int32)) ∧ Fr n0 L ∧ h = h0
set_option maxRecDepth 65536 in
set_option maxHeartbeats 40000000 in
theorem rm_nbl4 (l : Launch) (Z : State) (a0 : Array Value) (hw : ∀ d ∈ tables_1, d.before a0 Z = true) (ws : List Jvm.Cond)  (h0 : Heap) (n0 : Nat) (Z0 : n0 ≤ h0.size)  :
    MetFree l (⟨"java/lang/StringUTF16", "newBytesLength", "(I)I"⟩ : MethodName) (head1 (Jvm.Cond.code (⟨"java/lang/StringUTF16", "newBytesLength", "(I)I"⟩ : MethodName) jdk_52_method_3_code 1 (some .int) :: ws) ({ frames := 0, cells := 0, slots := 0, locals := 0 } : Room)) (fun aa U => aa = #[(.int (4 : Int32))] ∧ Z.Warmed39 U.vm ∧ U.heap = h0) (fun _ _ _ _ _ => True) (fun _ U o U' => ∃ v L, o = .returned v ∧ Q_nbl4 Z  h0 n0 v U'.heap L ∧ FrameEnd U o U' L ({ frames := 0, cells := 0, slots := 0, locals := 0 } : Room).cells ({ frames := 0, cells := 0, slots := 0, locals := 0 } : Room).slots) := by
  refine MetFree.of_bodySF (plainFor_of_name pn_nbl4) hisR ?_
  intro p e s m args below meth c s₁ Bd hml0 hP hK
  obtain ⟨rfl, hZ, hh⟩ := hP
  have hx := Bd.exec
  have hby := Bd.bytes
  have hml : c.maxLocals = 1 := hml0
  have hown : s.vm.findClass "java/lang/StringUTF16" = some m.cls := findClass_of_methodNamed Bd.named
  have hnm := (name_of_methodNamed Bd.named Bd.method).1
  have X0 : Stand p l e ({ frames := 0, cells := 0, slots := 0, locals := 0 } : Room) s m #[(.int (4 : Int32))] below meth c s₁ [] 0 0 := Stand.of_body Bd
  have e0 : s₁.heap = h0 := by rw [← hh, Bd.state]; rfl
  have N0 := Fr.nil n0
  have S0 : Go p e below s₁ (eF_nbl4 m (4 : Int32)) s₁ (mkF m 0 #[vI (4 : Int32)] []) := fun t k => castTop (ef_nbl4 m (4 : Int32)) k
  have S463 : Go p e below s₁ (eF_nbl4 m (4 : Int32)) s₁ (mkF m 58 #[vI (4 : Int32)] [(.int ((4 : Int32) <<< ((1 : Int32) &&& 31)))]) := fun t kt => S0 t (by
    refine XS.iloadN X0.here hx rfl (hb hby d22_0) rfl ?_
    show Sp p e below s₁ (mkF m 1 #[vI (4 : Int32)] [(.int (4 : Int32))]) _
    refine XS.ifYes X0.here hx rfl (pc0 := 1) (pc' := 12) rfl (hb hby d22_1) rfl ((if0 _ _).trans (flt (show ¬ ((4 : Int32) < (0 : Int32)) from (by decide))).2.1) (by decide) (by decide) ?_
    show Sp p e below s₁ (mkF m 12 #[vI (4 : Int32)] []) _
    refine XS.iloadN X0.here hx rfl (hb hby d22_12) rfl ?_
    show Sp p e below s₁ (mkF m 13 #[vI (4 : Int32)] [(.int (4 : Int32))]) _
    refine X0.ldcInt hx hown (mvT hZ (own_h hw 97 rfl)) (g := (mkF m 13 #[vI (4 : Int32)] [(.int (4 : Int32))])) rfl (hb hby d22_13) _ ?_
    show Sp p e below s₁ (mkF m 15 #[vI (4 : Int32)] [(.int (1073741823 : Int32)), (.int (4 : Int32))]) _
    refine XS.icmpYes X0.here hx rfl (pc0 := 15) (pc' := 55) rfl (hb hby d22_15) rfl (tlt (show (4 : Int32) < (1073741823 : Int32) from (by decide))).1 (by decide) (by decide) ?_
    show Sp p e below s₁ (mkF m 55 #[vI (4 : Int32)] []) _
    refine XS.iloadN X0.here hx rfl (hb hby d22_55) rfl ?_
    show Sp p e below s₁ (mkF m 56 #[vI (4 : Int32)] [(.int (4 : Int32))]) _
    refine XS.iconst X0.here hx rfl (hb hby d22_56) ?_
    show Sp p e below s₁ (mkF m 57 #[vI (4 : Int32)] [(.int (1 : Int32)), (.int (4 : Int32))]) _
    refine XS.ishl X0.here hx rfl (hb hby d22_57) rfl ?_
    show Sp p e below s₁ (mkF m 58 #[vI (4 : Int32)] [(.int ((4 : Int32) <<< ((1 : Int32) &&& 31)))]) _
    exact kt)
  clear S0
  have q465 : ((4 : Int32) <<< ((1 : Int32) &&& 31)) = (8 : Int32) := by decide
  have S464 : Go p e below s₁ (eF_nbl4 m (4 : Int32)) s₁ (mkF m 58 #[vI (4 : Int32)] [(.int (8 : Int32))]) := by have h := S463; rw [q465] at h; exact h
  clear S463
  obtain ⟨fs, hr, hrun, hended, hW, hsame⟩ := X0.leave (v := some (.int (8 : Int32))) (fun h => by first | rfl | (rw [Bd.returns] at h; cases h))
  refine ⟨_, _, S464 _ ?_, hrun, hended, _, _, rfl, ?_, ⟨_, rfl⟩, hW, hsame.mono (by decide) (by decide)⟩
  · exact retI X0 hx Bd.returns (hb hby d22_58) hr
  · show Q_nbl4 Z  h0 n0 _ s₁.heap _
    rw [e0]
    exact ⟨rfl, N0, rfl⟩
abbrev eF_nbf4 (m : MethodId) (x0 : Int32) : JFrame := entryFrame m #[(.int x0)] 1
theorem ef_nbf4 (m : MethodId) (x0 : Int32) : entryFrame m #[(.int x0)] 1 = mkF m 0 #[.val (.int x0)] [] := by first | (simp [entryFrame, mkF, argsToLocals, Value.category]; done) | rfl
theorem pn_nbf4 : plainName "java/lang/StringUTF16" = true := by first | (simp [plainName, overriddenIn]; done) | decide +kernel
def Q_nbf4 (Z : State)  (h0 : Heap) (n0 : Nat) (v : Option Value) (h : Heap) (L : List Loc) : Prop := ∃ t kb, v = some (.ref t) ∧ Fr n0 L ∧ Keep h0 h [] ∧ h0.size ≤ t ∧ Arv Z h t kb .byte (8 : Int32) [(.int (0 : Int32)), (.int (0 : Int32)), (.int (0 : Int32)), (.int (0 : Int32)), (.int (0 : Int32)), (.int (0 : Int32)), (.int (0 : Int32)), (.int (0 : Int32))] (.int (0 : Int32))
set_option maxRecDepth 65536 in
set_option maxHeartbeats 40000000 in
theorem rm_nbf4 (l : Launch) (Z : State) (a0 : Array Value) (hw : ∀ d ∈ tables_1, d.before a0 Z = true) (ws : List Jvm.Cond)  (h0 : Heap) (n0 : Nat) (Z0 : n0 ≤ h0.size)  :
    MetFree l (⟨"java/lang/StringUTF16", "newBytesFor", "(I)[B"⟩ : MethodName) (head1 (Jvm.Cond.code (⟨"java/lang/StringUTF16", "newBytesFor", "(I)[B"⟩ : MethodName) jdk_52_method_2_code 1 (some (.array .byte)) :: ws) ({ frames := 1, cells := 1, slots := 8, locals := 12 } : Room)) (fun aa U => aa = #[(.int (4 : Int32))] ∧ Z.Warmed39 U.vm ∧ U.heap = h0) (fun _ _ _ _ _ => True) (fun _ U o U' => ∃ v L, o = .returned v ∧ Q_nbf4 Z  h0 n0 v U'.heap L ∧ FrameEnd U o U' L ({ frames := 1, cells := 1, slots := 8, locals := 12 } : Room).cells ({ frames := 1, cells := 1, slots := 8, locals := 12 } : Room).slots) := by
  refine MetFree.of_bodySF (plainFor_of_name pn_nbf4) hisR ?_
  intro p e s m args below meth c s₁ Bd hml0 hP hK
  obtain ⟨rfl, hZ, hh⟩ := hP
  have hx := Bd.exec
  have hby := Bd.bytes
  have hml : c.maxLocals = 1 := hml0
  have hown : s.vm.findClass "java/lang/StringUTF16" = some m.cls := findClass_of_methodNamed Bd.named
  have hnm := (name_of_methodNamed Bd.named Bd.method).1
  have X0 : Stand p l e ({ frames := 1, cells := 1, slots := 8, locals := 12 } : Room) s m #[(.int (4 : Int32))] below meth c s₁ [] 0 0 := Stand.of_body Bd
  have e0 : s₁.heap = h0 := by rw [← hh, Bd.state]; rfl
  have N0 := Fr.nil n0
  have S0 : Go p e below s₁ (eF_nbf4 m (4 : Int32)) s₁ (mkF m 0 #[vI (4 : Int32)] []) := fun t k => castTop (ef_nbf4 m (4 : Int32)) k
  have S466 : Go p e below s₁ (eF_nbf4 m (4 : Int32)) s₁ (mkF m 1 #[vI (4 : Int32)] [(.int (4 : Int32))]) := fun t kt => S0 t (by
    refine XS.iloadN X0.here hx rfl (hb hby d21_0) rfl ?_
    show Sp p e below s₁ (mkF m 1 #[vI (4 : Int32)] [(.int (4 : Int32))]) _
    exact kt)
  clear S0
  obtain ⟨v467, T467, L467, X467, hQ467, st467⟩ := own_outS (Jvm.LawKit.callS X0 hx (y := (⟨"java/lang/StringUTF16", "newBytesLength", "(I)I"⟩ : MethodName)) hown (mvT hZ (own_h hw 94 rfl)) (mvT hZ (own_h hw 95 rfl)) (mvT hZ (own_h hw 18 rfl)) (mvT hZ (own_h hw 96 rfl)) (by decide) (backOf (W := 0) (rm_nbl4 l Z a0 hw [] h0 n0 Z0) hZ (own_h hw 96 rfl) (own_h hw 18 rfl) (by decide) (by decide)) (g := (mkF m 1 #[vI (4 : Int32)] [(.int (4 : Int32))])) rfl (by rw [hml]; rfl) (argsL := [(.int (4 : Int32))]) (rest := []) (lenOf pd__I_I rfl) rfl (by show 2 * 0 + _ ≤ _; exact Nat.le_of_eq rfl) (hb hby d21_1) (fun _ _ => ⟨rfl, e0, (by decide : 0 + 0 ≤ _), (by decide : 0 + 0 ≤ _)⟩))
  obtain ⟨rfl, N467q, e467⟩ := hQ467
  have N467 := Fr.app N0 N467q
  have S468 : Go p e below s₁ (eF_nbf4 m (4 : Int32)) T467 (mkF m 4 #[vI (4 : Int32)] [(.int (8 : Int32))]) := fun t kt => S466 t (st467 t kt)
  clear S466 st467 X0 e0
  obtain ⟨T469, h469, k469, X469, e469, E469, A469, st469⟩ := newP X467 hx hZ (own_h hw 20 rfl) e467 (g := (mkF m 4 #[vI (4 : Int32)] [(.int (8 : Int32))])) rfl (hb hby d21_4) rfl (by decide) (cap := 8) (by decide) (by decide) (by decide) (by decide)
  obtain ⟨t1, g469⟩ : ∃ z, z = h0.size := ⟨_, rfl⟩
  rw [← g469] at A469 st469
  have g_t1 : n0 ≤ t1 := Nat.le_trans Z0 (Nat.le_of_eq g469.symm)
  have sz_t1 : h0.size ≤ t1 := Nat.le_trans (Keep.refl h0 []).1 (Nat.le_of_eq g469.symm)
  have K469 : Keep h0 h469 [] := (Keep.refl h0 []).ext E469
  have V469 : Arv Z h469 t1 k469 .byte (8 : Int32) [(.int (0 : Int32)), (.int (0 : Int32)), (.int (0 : Int32)), (.int (0 : Int32)), (.int (0 : Int32)), (.int (0 : Int32)), (.int (0 : Int32)), (.int (0 : Int32))] (.int (0 : Int32)) := (Arv.new A469 (by decide)).pad (pad_rep [] _ 8)
  have S470 : Go p e below s₁ (eF_nbf4 m (4 : Int32)) T469 (mkF m 6 #[vI (4 : Int32)] [(.ref t1)]) := fun t kt => S468 t (st469 t kt)
  clear S468 st469 X467 e467
  obtain ⟨fs, hr, hrun, hended, hW, hsame⟩ := X469.leave (v := some (.ref t1)) (fun h => by first | rfl | (rw [Bd.returns] at h; cases h))
  refine ⟨_, _, S470 _ ?_, hrun, hended, _, _, rfl, ?_, ⟨_, rfl⟩, hW, hsame.mono (by decide) (by decide)⟩
  · exact retOut X469 hx Bd.returns rfl (Or.inr (Or.inr (Or.inr (Or.inr ⟨rfl, rfl, rfl⟩)))) (hb hby d21_6) hr
  · show Q_nbf4 Z  h0 n0 _ T469.heap _
    rw [e469]
    exact ⟨t1, _, rfl, N467, K469, sz_t1, V469⟩
abbrev eF_tob4 (m : MethodId) (x0 : Addr) (x1 : Int32) (x2 : Int32) : JFrame := entryFrame m #[(.ref x0), (.int x1), (.int x2)] 5
theorem ef_tob4 (m : MethodId) (x0 : Addr) (x1 : Int32) (x2 : Int32) : entryFrame m #[(.ref x0), (.int x1), (.int x2)] 5 = mkF m 0 #[.val (.ref x0), .val (.int x1), .val (.int x2), .unset, .unset] [] := by first | (simp [entryFrame, mkF, argsToLocals, Value.category]; done) | rfl
theorem pn_tob4 : plainName "java/lang/StringUTF16" = true := by first | (simp [plainName, overriddenIn]; done) | decide +kernel
def Q_tob4 (Z : State) (c0 : Int32) (c1 : Int32) (c2 : Int32) (c3 : Int32) (h0 : Heap) (n0 : Nat) (v : Option Value) (h : Heap) (L : List Loc) : Prop := ∃ t kb, v = some (.ref t) ∧ Fr n0 L ∧ Keep h0 h [] ∧ h0.size ≤ t ∧ Arv Z h t kb .byte (8 : Int32) [(.int (StrChars.lo8 c0)), (.int (StrChars.hi8 c0)), (.int (StrChars.lo8 c1)), (.int (StrChars.hi8 c1)), (.int (StrChars.lo8 c2)), (.int (StrChars.hi8 c2)), (.int (StrChars.lo8 c3)), (.int (StrChars.hi8 c3))] (.int (0 : Int32))
set_option maxRecDepth 65536 in
set_option maxHeartbeats 40000000 in
theorem rm_tob4 (l : Launch) (Z : State) (a0 : Array Value) (hw : ∀ d ∈ tables_1, d.before a0 Z = true) (ws : List Jvm.Cond) (a : Addr) (ka : ClassId) (c0 : Int32) (c1 : Int32) (c2 : Int32) (c3 : Int32) (h0 : Heap) (n0 : Nat) (Z0 : n0 ≤ h0.size) (SS : own_St Z) (O0 : Old Z n0 h0)(Va : Arv Z h0 a ka .char (4 : Int32) [(.int c0), (.int c1), (.int c2), (.int c3)] (.int (0 : Int32))) :
    MetFree l (⟨"java/lang/StringUTF16", "toBytes", "([CII)[B"⟩ : MethodName) (head1 (Jvm.Cond.code (⟨"java/lang/StringUTF16", "toBytes", "([CII)[B"⟩ : MethodName) jdk_52_method_14_code 5 (some (.array .byte)) :: ws) ({ frames := 2, cells := 1, slots := 8, locals := 24 } : Room)) (fun aa U => aa = #[(.ref a), (.int (0 : Int32)), (.int (4 : Int32))] ∧ Z.Warmed39 U.vm ∧ U.heap = h0) (fun _ _ _ _ _ => True) (fun _ U o U' => ∃ v L, o = .returned v ∧ Q_tob4 Z c0 c1 c2 c3 h0 n0 v U'.heap L ∧ FrameEnd U o U' L ({ frames := 2, cells := 1, slots := 8, locals := 24 } : Room).cells ({ frames := 2, cells := 1, slots := 8, locals := 24 } : Room).slots) := by
  refine MetFree.of_bodySF (plainFor_of_name pn_tob4) hisR ?_
  intro p e s m args below meth c s₁ Bd hml0 hP hK
  obtain ⟨rfl, hZ, hh⟩ := hP
  have hx := Bd.exec
  have hby := Bd.bytes
  have hml : c.maxLocals = 5 := hml0
  have hown : s.vm.findClass "java/lang/StringUTF16" = some m.cls := findClass_of_methodNamed Bd.named
  have hnm := (name_of_methodNamed Bd.named Bd.method).1
  have X0 : Stand p l e ({ frames := 2, cells := 1, slots := 8, locals := 24 } : Room) s m #[(.ref a), (.int (0 : Int32)), (.int (4 : Int32))] below meth c s₁ [] 0 0 := Stand.of_body Bd
  have e0 : s₁.heap = h0 := by rw [← hh, Bd.state]; rfl
  have N0 := Fr.nil n0
  have S0 : Go p e below s₁ (eF_tob4 m a (0 : Int32) (4 : Int32)) s₁ (mkF m 0 #[vR a, vI (0 : Int32), vI (4 : Int32), vU, vU] []) := fun t k => castTop (ef_tob4 m a (0 : Int32) (4 : Int32)) k
  obtain ⟨⟨cz, S_cs, hcz⟩, ⟨fm, S_fm, hfm⟩, S_ad, S_hi, S_lo⟩ := id SS
  have S471 : Go p e below s₁ (eF_tob4 m a (0 : Int32) (4 : Int32)) s₁ (mkF m 1 #[vR a, vI (0 : Int32), vI (4 : Int32), vU, vU] [(.int (4 : Int32))]) := fun t kt => S0 t (by
    refine XS.iloadN X0.here hx rfl (hb hby d20_0) rfl ?_
    show Sp p e below s₁ (mkF m 1 #[vR a, vI (0 : Int32), vI (4 : Int32), vU, vU] [(.int (4 : Int32))]) _
    exact kt)
  clear S0
  obtain ⟨v472, T472, L472, X472, hQ472, st472⟩ := own_outS (Jvm.LawKit.callS X0 hx (y := (⟨"java/lang/StringUTF16", "newBytesFor", "(I)[B"⟩ : MethodName)) hown (mvT hZ (own_h hw 91 rfl)) (mvT hZ (own_h hw 92 rfl)) (mvT hZ (own_h hw 18 rfl)) (mvT hZ (own_h hw 93 rfl)) (by decide) (backOf (W := 0) (rm_nbf4 l Z a0 hw [] h0 n0 Z0) hZ (own_h hw 93 rfl) (own_h hw 18 rfl) (by decide) (by decide)) (g := (mkF m 1 #[vR a, vI (0 : Int32), vI (4 : Int32), vU, vU] [(.int (4 : Int32))])) rfl (by rw [hml]; rfl) (argsL := [(.int (4 : Int32))]) (rest := []) (lenOf pd__I__B rfl) rfl (by show 2 * 0 + _ ≤ _; exact Nat.le_of_eq rfl) (hb hby d20_1) (fun _ _ => ⟨rfl, e0, (by decide : 0 + 1 ≤ _), (by decide : 0 + 8 ≤ _)⟩))
  obtain ⟨t1, kb472, rfl, N472q, K472, sz472, V472⟩ := hQ472
  have N472 := Fr.app N0 N472q
  have KK472 : Keep h0 T472.heap [] := (Keep.refl h0 []).trans K472 all0
  have sz_t1 : h0.size ≤ t1 := Nat.le_trans (Keep.refl h0 []).1 sz472
  have g_t1 : n0 ≤ t1 := Nat.le_trans Z0 sz472
  have S473 : Go p e below s₁ (eF_tob4 m a (0 : Int32) (4 : Int32)) T472 (mkF m 4 #[vR a, vI (0 : Int32), vI (4 : Int32), vU, vU] [(.ref t1)]) := fun t kt => S471 t (st472 t kt)
  clear S471 st472 X0 e0
  have S474 : Go p e below s₁ (eF_tob4 m a (0 : Int32) (4 : Int32)) T472 (mkF m 19 #[vR a, vI (0 : Int32), vI (4 : Int32), vR t1, vI (0 : Int32)] [(.int (0 : Int32)), (.ref a), (.int (0 : Int32)), (.ref t1)]) := fun t kt => S473 t (by
    refine XS.astoreN X472.here hx rfl (hb hby d20_4) rfl rfl (l' := #[vR a, vI (0 : Int32), vI (4 : Int32), vR t1, vU]) rfl ?_
    show Sp p e below T472 (mkF m 5 #[vR a, vI (0 : Int32), vI (4 : Int32), vR t1, vU] []) _
    refine XS.iconst X472.here hx rfl (hb hby d20_5) ?_
    show Sp p e below T472 (mkF m 6 #[vR a, vI (0 : Int32), vI (4 : Int32), vR t1, vU] [(.int (0 : Int32))]) _
    refine XS.istore X472.here hx rfl (hb hby d20_6) rfl (l' := #[vR a, vI (0 : Int32), vI (4 : Int32), vR t1, vI (0 : Int32)]) rfl ?_
    show Sp p e below T472 (mkF m 8 #[vR a, vI (0 : Int32), vI (4 : Int32), vR t1, vI (0 : Int32)] []) _
    refine XS.iload X472.here hx rfl (hb hby d20_8) rfl ?_
    show Sp p e below T472 (mkF m 10 #[vR a, vI (0 : Int32), vI (4 : Int32), vR t1, vI (0 : Int32)] [(.int (0 : Int32))]) _
    refine XS.iloadN X472.here hx rfl (hb hby d20_10) rfl ?_
    show Sp p e below T472 (mkF m 11 #[vR a, vI (0 : Int32), vI (4 : Int32), vR t1, vI (0 : Int32)] [(.int (4 : Int32)), (.int (0 : Int32))]) _
    refine XS.icmpNo X472.here hx rfl (hb hby d20_11) rfl (tlt (show (0 : Int32) < (4 : Int32) from (by decide))).2.1 ?_
    show Sp p e below T472 (mkF m 14 #[vR a, vI (0 : Int32), vI (4 : Int32), vR t1, vI (0 : Int32)] []) _
    refine XS.aloadN X472.here hx rfl (hb hby d20_14) rfl rfl ?_
    show Sp p e below T472 (mkF m 15 #[vR a, vI (0 : Int32), vI (4 : Int32), vR t1, vI (0 : Int32)] [(.ref t1)]) _
    refine XS.iload X472.here hx rfl (hb hby d20_15) rfl ?_
    show Sp p e below T472 (mkF m 17 #[vR a, vI (0 : Int32), vI (4 : Int32), vR t1, vI (0 : Int32)] [(.int (0 : Int32)), (.ref t1)]) _
    refine XS.aloadN X472.here hx rfl (hb hby d20_17) rfl rfl ?_
    show Sp p e below T472 (mkF m 18 #[vR a, vI (0 : Int32), vI (4 : Int32), vR t1, vI (0 : Int32)] [(.ref a), (.int (0 : Int32)), (.ref t1)]) _
    refine XS.iloadN X472.here hx rfl (hb hby d20_18) rfl ?_
    show Sp p e below T472 (mkF m 19 #[vR a, vI (0 : Int32), vI (4 : Int32), vR t1, vI (0 : Int32)] [(.int (0 : Int32)), (.ref a), (.int (0 : Int32)), (.ref t1)]) _
    exact kt)
  clear S473
  have f475 := (Va.keep K472 nin0)
  obtain ⟨co476, Ao476, qo476, So476, No476, Ho476, Go476⟩ := id f475
  have hino476 : ¬ ((0 : Int32) < 0 ∨ co476.slots.size ≤ ((0 : Int32)).toNatClampNeg) := inb_of So476 ⟨by decide, by decide⟩
  have hato476 : co476.slots[((0 : Int32)).toNatClampNeg]? = some (.int c0) := Has.at Ho476 hino476 rfl
  have S477 : Go p e below s₁ (eF_tob4 m a (0 : Int32) (4 : Int32)) T472 (mkF m 20 #[vR a, vI (0 : Int32), vI (4 : Int32), vR t1, vI (0 : Int32)] [(.int c0), (.int (0 : Int32)), (.ref t1)]) := fun t kt => S474 t (by
    refine X472.caload hx (j := (0 : Int32)) (v := (.int c0)) Ao476.1 (State.isArrayOf_alike hZ.alike Ao476.2.1) Ao476.2.2 hino476 hato476 (g := (mkF m 19 #[vR a, vI (0 : Int32), vI (4 : Int32), vR t1, vI (0 : Int32)] [(.int (0 : Int32)), (.ref a), (.int (0 : Int32)), (.ref t1)])) rfl rfl (hb hby d20_19) _ ?_
    show Sp p e below T472 (mkF m 20 #[vR a, vI (0 : Int32), vI (4 : Int32), vR t1, vI (0 : Int32)] [(.int c0), (.int (0 : Int32)), (.ref t1)]) _
    exact kt)
  clear S474
  have f478 := (O0.keep K472 all0)
  obtain ⟨v479, T479, L479, X479, hQ479, st479⟩ := own_outS (Jvm.LawKit.callS X472 hx (y := (⟨"java/lang/StringUTF16", "putChar", "([BII)V"⟩ : MethodName)) hown (mvT hZ (own_h hw 98 rfl)) (mvT hZ (own_h hw 99 rfl)) (mvT hZ (own_h hw 18 rfl)) (mvT hZ (own_h hw 100 rfl)) (by decide) (backOf (W := 0) (rm_pch l Z a0 hw [] t1 (0 : Int32) c0 kb472 (8 : Int32) [(.int (0 : Int32)), (.int (0 : Int32)), (.int (0 : Int32)), (.int (0 : Int32)), (.int (0 : Int32)), (.int (0 : Int32)), (.int (0 : Int32)), (.int (0 : Int32))] 0 T472.heap n0 (Nat.le_trans Z0 K472.1) SS f478 V472 (by decide) (by decide) (by decide) (by decide) (Nat.le_of_ble_eq_true rfl) g_t1) hZ (own_h hw 100 rfl) (own_h hw 18 rfl) (by decide) (by decide)) (g := (mkF m 20 #[vR a, vI (0 : Int32), vI (4 : Int32), vR t1, vI (0 : Int32)] [(.int c0), (.int (0 : Int32)), (.ref t1)])) rfl (by rw [hml]; rfl) (argsL := [(.ref t1), (.int (0 : Int32)), (.int c0)]) (rest := []) (lenOf pd___BII_V rfl) rfl (by show 2 * 0 + _ ≤ _; exact Nat.le_of_eq rfl) (hb hby d20_20) (fun _ _ => ⟨rfl, rfl, (by decide : 1 + 0 ≤ _), (by decide : 8 + 0 ≤ _)⟩))
  obtain ⟨rfl, N479q, K479, V479⟩ := hQ479
  have N479 := Fr.app N472 N479q
  have KK479 : Keep h0 T479.heap [] := KK472.trans K479 (allS (Or.inr sz_t1) all0)
  have S480 : Go p e below s₁ (eF_tob4 m a (0 : Int32) (4 : Int32)) T479 (mkF m 23 #[vR a, vI (0 : Int32), vI (4 : Int32), vR t1, vI (0 : Int32)] []) := fun t kt => S477 t (st479 t kt)
  clear S477 st479 X472
  have S481 : Go p e below s₁ (eF_tob4 m a (0 : Int32) (4 : Int32)) T479 (mkF m 11 #[vR a, vI ((0 : Int32) + (1 : Int32)), vI (4 : Int32), vR t1, vI ((0 : Int32) + (1 : Int32))] [(.int (4 : Int32)), (.int ((0 : Int32) + (1 : Int32)))]) := fun t kt => S480 t (by
    refine XS.iinc X479.here hx rfl (hb hby d20_23) rfl (l' := #[vR a, vI ((0 : Int32) + (1 : Int32)), vI (4 : Int32), vR t1, vI (0 : Int32)]) rfl ?_
    show Sp p e below T479 (mkF m 26 #[vR a, vI ((0 : Int32) + (1 : Int32)), vI (4 : Int32), vR t1, vI (0 : Int32)] []) _
    refine XS.iinc X479.here hx rfl (hb hby d20_26) rfl (l' := #[vR a, vI ((0 : Int32) + (1 : Int32)), vI (4 : Int32), vR t1, vI ((0 : Int32) + (1 : Int32))]) rfl ?_
    show Sp p e below T479 (mkF m 29 #[vR a, vI ((0 : Int32) + (1 : Int32)), vI (4 : Int32), vR t1, vI ((0 : Int32) + (1 : Int32))] []) _
    refine XS.goto X479.here hx rfl (pc0 := 29) (pc' := 8) rfl (hb hby d20_29) (by decide) (by decide) ?_
    show Sp p e below T479 (mkF m 8 #[vR a, vI ((0 : Int32) + (1 : Int32)), vI (4 : Int32), vR t1, vI ((0 : Int32) + (1 : Int32))] []) _
    refine XS.iload X479.here hx rfl (hb hby d20_8) rfl ?_
    show Sp p e below T479 (mkF m 10 #[vR a, vI ((0 : Int32) + (1 : Int32)), vI (4 : Int32), vR t1, vI ((0 : Int32) + (1 : Int32))] [(.int ((0 : Int32) + (1 : Int32)))]) _
    refine XS.iloadN X479.here hx rfl (hb hby d20_10) rfl ?_
    show Sp p e below T479 (mkF m 11 #[vR a, vI ((0 : Int32) + (1 : Int32)), vI (4 : Int32), vR t1, vI ((0 : Int32) + (1 : Int32))] [(.int (4 : Int32)), (.int ((0 : Int32) + (1 : Int32)))]) _
    exact kt)
  clear S480
  have q483 : ((0 : Int32) + (1 : Int32)) = (1 : Int32) := by decide
  have S482 : Go p e below s₁ (eF_tob4 m a (0 : Int32) (4 : Int32)) T479 (mkF m 11 #[vR a, vI (1 : Int32), vI (4 : Int32), vR t1, vI (1 : Int32)] [(.int (4 : Int32)), (.int (1 : Int32))]) := by have h := S481; rw [q483] at h; exact h
  clear S481
  have S484 : Go p e below s₁ (eF_tob4 m a (0 : Int32) (4 : Int32)) T479 (mkF m 19 #[vR a, vI (1 : Int32), vI (4 : Int32), vR t1, vI (1 : Int32)] [(.int (1 : Int32)), (.ref a), (.int (1 : Int32)), (.ref t1)]) := fun t kt => S482 t (by
    refine XS.icmpNo X479.here hx rfl (hb hby d20_11) rfl (tlt (show (1 : Int32) < (4 : Int32) from (by decide))).2.1 ?_
    show Sp p e below T479 (mkF m 14 #[vR a, vI (1 : Int32), vI (4 : Int32), vR t1, vI (1 : Int32)] []) _
    refine XS.aloadN X479.here hx rfl (hb hby d20_14) rfl rfl ?_
    show Sp p e below T479 (mkF m 15 #[vR a, vI (1 : Int32), vI (4 : Int32), vR t1, vI (1 : Int32)] [(.ref t1)]) _
    refine XS.iload X479.here hx rfl (hb hby d20_15) rfl ?_
    show Sp p e below T479 (mkF m 17 #[vR a, vI (1 : Int32), vI (4 : Int32), vR t1, vI (1 : Int32)] [(.int (1 : Int32)), (.ref t1)]) _
    refine XS.aloadN X479.here hx rfl (hb hby d20_17) rfl rfl ?_
    show Sp p e below T479 (mkF m 18 #[vR a, vI (1 : Int32), vI (4 : Int32), vR t1, vI (1 : Int32)] [(.ref a), (.int (1 : Int32)), (.ref t1)]) _
    refine XS.iloadN X479.here hx rfl (hb hby d20_18) rfl ?_
    show Sp p e below T479 (mkF m 19 #[vR a, vI (1 : Int32), vI (4 : Int32), vR t1, vI (1 : Int32)] [(.int (1 : Int32)), (.ref a), (.int (1 : Int32)), (.ref t1)]) _
    exact kt)
  clear S482
  have ne485 : a ≠ t1 := Nat.ne_of_lt (Nat.lt_of_lt_of_le (Va.lt) sz472)
  have f486 := (f475.keep K479 (ninS ne485 nin0))
  obtain ⟨co487, Ao487, qo487, So487, No487, Ho487, Go487⟩ := id f486
  have hino487 : ¬ ((1 : Int32) < 0 ∨ co487.slots.size ≤ ((1 : Int32)).toNatClampNeg) := inb_of So487 ⟨by decide, by decide⟩
  have hato487 : co487.slots[((1 : Int32)).toNatClampNeg]? = some (.int c1) := Has.at Ho487 hino487 rfl
  have S488 : Go p e below s₁ (eF_tob4 m a (0 : Int32) (4 : Int32)) T479 (mkF m 20 #[vR a, vI (1 : Int32), vI (4 : Int32), vR t1, vI (1 : Int32)] [(.int c1), (.int (1 : Int32)), (.ref t1)]) := fun t kt => S484 t (by
    refine X479.caload hx (j := (1 : Int32)) (v := (.int c1)) Ao487.1 (State.isArrayOf_alike hZ.alike Ao487.2.1) Ao487.2.2 hino487 hato487 (g := (mkF m 19 #[vR a, vI (1 : Int32), vI (4 : Int32), vR t1, vI (1 : Int32)] [(.int (1 : Int32)), (.ref a), (.int (1 : Int32)), (.ref t1)])) rfl rfl (hb hby d20_19) _ ?_
    show Sp p e below T479 (mkF m 20 #[vR a, vI (1 : Int32), vI (4 : Int32), vR t1, vI (1 : Int32)] [(.int c1), (.int (1 : Int32)), (.ref t1)]) _
    exact kt)
  clear S484
  have f489 := (f478.keep K479 (allS g_t1 all0))
  obtain ⟨v490, T490, L490, X490, hQ490, st490⟩ := own_outS (Jvm.LawKit.callS X479 hx (y := (⟨"java/lang/StringUTF16", "putChar", "([BII)V"⟩ : MethodName)) hown (mvT hZ (own_h hw 98 rfl)) (mvT hZ (own_h hw 99 rfl)) (mvT hZ (own_h hw 18 rfl)) (mvT hZ (own_h hw 100 rfl)) (by decide) (backOf (W := 0) (rm_pch l Z a0 hw [] t1 (1 : Int32) c1 kb472 (8 : Int32) [(.int (StrChars.lo8 c0)), (.int (StrChars.hi8 c0)), (.int (0 : Int32)), (.int (0 : Int32)), (.int (0 : Int32)), (.int (0 : Int32)), (.int (0 : Int32)), (.int (0 : Int32))] 2 T479.heap n0 (Nat.le_trans (Nat.le_trans Z0 K472.1) K479.1) SS f489 V479 (by decide) (by decide) (by decide) (by decide) (Nat.le_of_ble_eq_true rfl) g_t1) hZ (own_h hw 100 rfl) (own_h hw 18 rfl) (by decide) (by decide)) (g := (mkF m 20 #[vR a, vI (1 : Int32), vI (4 : Int32), vR t1, vI (1 : Int32)] [(.int c1), (.int (1 : Int32)), (.ref t1)])) rfl (by rw [hml]; rfl) (argsL := [(.ref t1), (.int (1 : Int32)), (.int c1)]) (rest := []) (lenOf pd___BII_V rfl) rfl (by show 2 * 0 + _ ≤ _; exact Nat.le_of_eq rfl) (hb hby d20_20) (fun _ _ => ⟨rfl, rfl, (by decide : 1 + 0 ≤ _), (by decide : 8 + 0 ≤ _)⟩))
  obtain ⟨rfl, N490q, K490, V490⟩ := hQ490
  have N490 := Fr.app N479 N490q
  have KK490 : Keep h0 T490.heap [] := KK479.trans K490 (allS (Or.inr sz_t1) all0)
  have S491 : Go p e below s₁ (eF_tob4 m a (0 : Int32) (4 : Int32)) T490 (mkF m 23 #[vR a, vI (1 : Int32), vI (4 : Int32), vR t1, vI (1 : Int32)] []) := fun t kt => S488 t (st490 t kt)
  clear S488 st490 X479
  have S492 : Go p e below s₁ (eF_tob4 m a (0 : Int32) (4 : Int32)) T490 (mkF m 11 #[vR a, vI ((1 : Int32) + (1 : Int32)), vI (4 : Int32), vR t1, vI ((1 : Int32) + (1 : Int32))] [(.int (4 : Int32)), (.int ((1 : Int32) + (1 : Int32)))]) := fun t kt => S491 t (by
    refine XS.iinc X490.here hx rfl (hb hby d20_23) rfl (l' := #[vR a, vI ((1 : Int32) + (1 : Int32)), vI (4 : Int32), vR t1, vI (1 : Int32)]) rfl ?_
    show Sp p e below T490 (mkF m 26 #[vR a, vI ((1 : Int32) + (1 : Int32)), vI (4 : Int32), vR t1, vI (1 : Int32)] []) _
    refine XS.iinc X490.here hx rfl (hb hby d20_26) rfl (l' := #[vR a, vI ((1 : Int32) + (1 : Int32)), vI (4 : Int32), vR t1, vI ((1 : Int32) + (1 : Int32))]) rfl ?_
    show Sp p e below T490 (mkF m 29 #[vR a, vI ((1 : Int32) + (1 : Int32)), vI (4 : Int32), vR t1, vI ((1 : Int32) + (1 : Int32))] []) _
    refine XS.goto X490.here hx rfl (pc0 := 29) (pc' := 8) rfl (hb hby d20_29) (by decide) (by decide) ?_
    show Sp p e below T490 (mkF m 8 #[vR a, vI ((1 : Int32) + (1 : Int32)), vI (4 : Int32), vR t1, vI ((1 : Int32) + (1 : Int32))] []) _
    refine XS.iload X490.here hx rfl (hb hby d20_8) rfl ?_
    show Sp p e below T490 (mkF m 10 #[vR a, vI ((1 : Int32) + (1 : Int32)), vI (4 : Int32), vR t1, vI ((1 : Int32) + (1 : Int32))] [(.int ((1 : Int32) + (1 : Int32)))]) _
    refine XS.iloadN X490.here hx rfl (hb hby d20_10) rfl ?_
    show Sp p e below T490 (mkF m 11 #[vR a, vI ((1 : Int32) + (1 : Int32)), vI (4 : Int32), vR t1, vI ((1 : Int32) + (1 : Int32))] [(.int (4 : Int32)), (.int ((1 : Int32) + (1 : Int32)))]) _
    exact kt)
  clear S491
  have q494 : ((1 : Int32) + (1 : Int32)) = (2 : Int32) := by decide
  have S493 : Go p e below s₁ (eF_tob4 m a (0 : Int32) (4 : Int32)) T490 (mkF m 11 #[vR a, vI (2 : Int32), vI (4 : Int32), vR t1, vI (2 : Int32)] [(.int (4 : Int32)), (.int (2 : Int32))]) := by have h := S492; rw [q494] at h; exact h
  clear S492
  have S495 : Go p e below s₁ (eF_tob4 m a (0 : Int32) (4 : Int32)) T490 (mkF m 19 #[vR a, vI (2 : Int32), vI (4 : Int32), vR t1, vI (2 : Int32)] [(.int (2 : Int32)), (.ref a), (.int (2 : Int32)), (.ref t1)]) := fun t kt => S493 t (by
    refine XS.icmpNo X490.here hx rfl (hb hby d20_11) rfl (tlt (show (2 : Int32) < (4 : Int32) from (by decide))).2.1 ?_
    show Sp p e below T490 (mkF m 14 #[vR a, vI (2 : Int32), vI (4 : Int32), vR t1, vI (2 : Int32)] []) _
    refine XS.aloadN X490.here hx rfl (hb hby d20_14) rfl rfl ?_
    show Sp p e below T490 (mkF m 15 #[vR a, vI (2 : Int32), vI (4 : Int32), vR t1, vI (2 : Int32)] [(.ref t1)]) _
    refine XS.iload X490.here hx rfl (hb hby d20_15) rfl ?_
    show Sp p e below T490 (mkF m 17 #[vR a, vI (2 : Int32), vI (4 : Int32), vR t1, vI (2 : Int32)] [(.int (2 : Int32)), (.ref t1)]) _
    refine XS.aloadN X490.here hx rfl (hb hby d20_17) rfl rfl ?_
    show Sp p e below T490 (mkF m 18 #[vR a, vI (2 : Int32), vI (4 : Int32), vR t1, vI (2 : Int32)] [(.ref a), (.int (2 : Int32)), (.ref t1)]) _
    refine XS.iloadN X490.here hx rfl (hb hby d20_18) rfl ?_
    show Sp p e below T490 (mkF m 19 #[vR a, vI (2 : Int32), vI (4 : Int32), vR t1, vI (2 : Int32)] [(.int (2 : Int32)), (.ref a), (.int (2 : Int32)), (.ref t1)]) _
    exact kt)
  clear S493
  have f496 := (f486.keep K490 (ninS ne485 nin0))
  obtain ⟨co497, Ao497, qo497, So497, No497, Ho497, Go497⟩ := id f496
  have hino497 : ¬ ((2 : Int32) < 0 ∨ co497.slots.size ≤ ((2 : Int32)).toNatClampNeg) := inb_of So497 ⟨by decide, by decide⟩
  have hato497 : co497.slots[((2 : Int32)).toNatClampNeg]? = some (.int c2) := Has.at Ho497 hino497 rfl
  have S498 : Go p e below s₁ (eF_tob4 m a (0 : Int32) (4 : Int32)) T490 (mkF m 20 #[vR a, vI (2 : Int32), vI (4 : Int32), vR t1, vI (2 : Int32)] [(.int c2), (.int (2 : Int32)), (.ref t1)]) := fun t kt => S495 t (by
    refine X490.caload hx (j := (2 : Int32)) (v := (.int c2)) Ao497.1 (State.isArrayOf_alike hZ.alike Ao497.2.1) Ao497.2.2 hino497 hato497 (g := (mkF m 19 #[vR a, vI (2 : Int32), vI (4 : Int32), vR t1, vI (2 : Int32)] [(.int (2 : Int32)), (.ref a), (.int (2 : Int32)), (.ref t1)])) rfl rfl (hb hby d20_19) _ ?_
    show Sp p e below T490 (mkF m 20 #[vR a, vI (2 : Int32), vI (4 : Int32), vR t1, vI (2 : Int32)] [(.int c2), (.int (2 : Int32)), (.ref t1)]) _
    exact kt)
  clear S495
  have f499 := (f489.keep K490 (allS g_t1 all0))
  obtain ⟨v500, T500, L500, X500, hQ500, st500⟩ := own_outS (Jvm.LawKit.callS X490 hx (y := (⟨"java/lang/StringUTF16", "putChar", "([BII)V"⟩ : MethodName)) hown (mvT hZ (own_h hw 98 rfl)) (mvT hZ (own_h hw 99 rfl)) (mvT hZ (own_h hw 18 rfl)) (mvT hZ (own_h hw 100 rfl)) (by decide) (backOf (W := 0) (rm_pch l Z a0 hw [] t1 (2 : Int32) c2 kb472 (8 : Int32) [(.int (StrChars.lo8 c0)), (.int (StrChars.hi8 c0)), (.int (StrChars.lo8 c1)), (.int (StrChars.hi8 c1)), (.int (0 : Int32)), (.int (0 : Int32)), (.int (0 : Int32)), (.int (0 : Int32))] 4 T490.heap n0 (Nat.le_trans (Nat.le_trans (Nat.le_trans Z0 K472.1) K479.1) K490.1) SS f499 V490 (by decide) (by decide) (by decide) (by decide) (Nat.le_of_ble_eq_true rfl) g_t1) hZ (own_h hw 100 rfl) (own_h hw 18 rfl) (by decide) (by decide)) (g := (mkF m 20 #[vR a, vI (2 : Int32), vI (4 : Int32), vR t1, vI (2 : Int32)] [(.int c2), (.int (2 : Int32)), (.ref t1)])) rfl (by rw [hml]; rfl) (argsL := [(.ref t1), (.int (2 : Int32)), (.int c2)]) (rest := []) (lenOf pd___BII_V rfl) rfl (by show 2 * 0 + _ ≤ _; exact Nat.le_of_eq rfl) (hb hby d20_20) (fun _ _ => ⟨rfl, rfl, (by decide : 1 + 0 ≤ _), (by decide : 8 + 0 ≤ _)⟩))
  obtain ⟨rfl, N500q, K500, V500⟩ := hQ500
  have N500 := Fr.app N490 N500q
  have KK500 : Keep h0 T500.heap [] := KK490.trans K500 (allS (Or.inr sz_t1) all0)
  have S501 : Go p e below s₁ (eF_tob4 m a (0 : Int32) (4 : Int32)) T500 (mkF m 23 #[vR a, vI (2 : Int32), vI (4 : Int32), vR t1, vI (2 : Int32)] []) := fun t kt => S498 t (st500 t kt)
  clear S498 st500 X490
  have S502 : Go p e below s₁ (eF_tob4 m a (0 : Int32) (4 : Int32)) T500 (mkF m 11 #[vR a, vI ((2 : Int32) + (1 : Int32)), vI (4 : Int32), vR t1, vI ((2 : Int32) + (1 : Int32))] [(.int (4 : Int32)), (.int ((2 : Int32) + (1 : Int32)))]) := fun t kt => S501 t (by
    refine XS.iinc X500.here hx rfl (hb hby d20_23) rfl (l' := #[vR a, vI ((2 : Int32) + (1 : Int32)), vI (4 : Int32), vR t1, vI (2 : Int32)]) rfl ?_
    show Sp p e below T500 (mkF m 26 #[vR a, vI ((2 : Int32) + (1 : Int32)), vI (4 : Int32), vR t1, vI (2 : Int32)] []) _
    refine XS.iinc X500.here hx rfl (hb hby d20_26) rfl (l' := #[vR a, vI ((2 : Int32) + (1 : Int32)), vI (4 : Int32), vR t1, vI ((2 : Int32) + (1 : Int32))]) rfl ?_
    show Sp p e below T500 (mkF m 29 #[vR a, vI ((2 : Int32) + (1 : Int32)), vI (4 : Int32), vR t1, vI ((2 : Int32) + (1 : Int32))] []) _
    refine XS.goto X500.here hx rfl (pc0 := 29) (pc' := 8) rfl (hb hby d20_29) (by decide) (by decide) ?_
    show Sp p e below T500 (mkF m 8 #[vR a, vI ((2 : Int32) + (1 : Int32)), vI (4 : Int32), vR t1, vI ((2 : Int32) + (1 : Int32))] []) _
    refine XS.iload X500.here hx rfl (hb hby d20_8) rfl ?_
    show Sp p e below T500 (mkF m 10 #[vR a, vI ((2 : Int32) + (1 : Int32)), vI (4 : Int32), vR t1, vI ((2 : Int32) + (1 : Int32))] [(.int ((2 : Int32) + (1 : Int32)))]) _
    refine XS.iloadN X500.here hx rfl (hb hby d20_10) rfl ?_
    show Sp p e below T500 (mkF m 11 #[vR a, vI ((2 : Int32) + (1 : Int32)), vI (4 : Int32), vR t1, vI ((2 : Int32) + (1 : Int32))] [(.int (4 : Int32)), (.int ((2 : Int32) + (1 : Int32)))]) _
    exact kt)
  clear S501
  have q504 : ((2 : Int32) + (1 : Int32)) = (3 : Int32) := by decide
  have S503 : Go p e below s₁ (eF_tob4 m a (0 : Int32) (4 : Int32)) T500 (mkF m 11 #[vR a, vI (3 : Int32), vI (4 : Int32), vR t1, vI (3 : Int32)] [(.int (4 : Int32)), (.int (3 : Int32))]) := by have h := S502; rw [q504] at h; exact h
  clear S502
  have S505 : Go p e below s₁ (eF_tob4 m a (0 : Int32) (4 : Int32)) T500 (mkF m 19 #[vR a, vI (3 : Int32), vI (4 : Int32), vR t1, vI (3 : Int32)] [(.int (3 : Int32)), (.ref a), (.int (3 : Int32)), (.ref t1)]) := fun t kt => S503 t (by
    refine XS.icmpNo X500.here hx rfl (hb hby d20_11) rfl (tlt (show (3 : Int32) < (4 : Int32) from (by decide))).2.1 ?_
    show Sp p e below T500 (mkF m 14 #[vR a, vI (3 : Int32), vI (4 : Int32), vR t1, vI (3 : Int32)] []) _
    refine XS.aloadN X500.here hx rfl (hb hby d20_14) rfl rfl ?_
    show Sp p e below T500 (mkF m 15 #[vR a, vI (3 : Int32), vI (4 : Int32), vR t1, vI (3 : Int32)] [(.ref t1)]) _
    refine XS.iload X500.here hx rfl (hb hby d20_15) rfl ?_
    show Sp p e below T500 (mkF m 17 #[vR a, vI (3 : Int32), vI (4 : Int32), vR t1, vI (3 : Int32)] [(.int (3 : Int32)), (.ref t1)]) _
    refine XS.aloadN X500.here hx rfl (hb hby d20_17) rfl rfl ?_
    show Sp p e below T500 (mkF m 18 #[vR a, vI (3 : Int32), vI (4 : Int32), vR t1, vI (3 : Int32)] [(.ref a), (.int (3 : Int32)), (.ref t1)]) _
    refine XS.iloadN X500.here hx rfl (hb hby d20_18) rfl ?_
    show Sp p e below T500 (mkF m 19 #[vR a, vI (3 : Int32), vI (4 : Int32), vR t1, vI (3 : Int32)] [(.int (3 : Int32)), (.ref a), (.int (3 : Int32)), (.ref t1)]) _
    exact kt)
  clear S503
  have f506 := (f496.keep K500 (ninS ne485 nin0))
  obtain ⟨co507, Ao507, qo507, So507, No507, Ho507, Go507⟩ := id f506
  have hino507 : ¬ ((3 : Int32) < 0 ∨ co507.slots.size ≤ ((3 : Int32)).toNatClampNeg) := inb_of So507 ⟨by decide, by decide⟩
  have hato507 : co507.slots[((3 : Int32)).toNatClampNeg]? = some (.int c3) := Has.at Ho507 hino507 rfl
  have S508 : Go p e below s₁ (eF_tob4 m a (0 : Int32) (4 : Int32)) T500 (mkF m 20 #[vR a, vI (3 : Int32), vI (4 : Int32), vR t1, vI (3 : Int32)] [(.int c3), (.int (3 : Int32)), (.ref t1)]) := fun t kt => S505 t (by
    refine X500.caload hx (j := (3 : Int32)) (v := (.int c3)) Ao507.1 (State.isArrayOf_alike hZ.alike Ao507.2.1) Ao507.2.2 hino507 hato507 (g := (mkF m 19 #[vR a, vI (3 : Int32), vI (4 : Int32), vR t1, vI (3 : Int32)] [(.int (3 : Int32)), (.ref a), (.int (3 : Int32)), (.ref t1)])) rfl rfl (hb hby d20_19) _ ?_
    show Sp p e below T500 (mkF m 20 #[vR a, vI (3 : Int32), vI (4 : Int32), vR t1, vI (3 : Int32)] [(.int c3), (.int (3 : Int32)), (.ref t1)]) _
    exact kt)
  clear S505
  have f509 := (f499.keep K500 (allS g_t1 all0))
  obtain ⟨v510, T510, L510, X510, hQ510, st510⟩ := own_outS (Jvm.LawKit.callS X500 hx (y := (⟨"java/lang/StringUTF16", "putChar", "([BII)V"⟩ : MethodName)) hown (mvT hZ (own_h hw 98 rfl)) (mvT hZ (own_h hw 99 rfl)) (mvT hZ (own_h hw 18 rfl)) (mvT hZ (own_h hw 100 rfl)) (by decide) (backOf (W := 0) (rm_pch l Z a0 hw [] t1 (3 : Int32) c3 kb472 (8 : Int32) [(.int (StrChars.lo8 c0)), (.int (StrChars.hi8 c0)), (.int (StrChars.lo8 c1)), (.int (StrChars.hi8 c1)), (.int (StrChars.lo8 c2)), (.int (StrChars.hi8 c2)), (.int (0 : Int32)), (.int (0 : Int32))] 6 T500.heap n0 (Nat.le_trans (Nat.le_trans (Nat.le_trans (Nat.le_trans Z0 K472.1) K479.1) K490.1) K500.1) SS f509 V500 (by decide) (by decide) (by decide) (by decide) (Nat.le_of_ble_eq_true rfl) g_t1) hZ (own_h hw 100 rfl) (own_h hw 18 rfl) (by decide) (by decide)) (g := (mkF m 20 #[vR a, vI (3 : Int32), vI (4 : Int32), vR t1, vI (3 : Int32)] [(.int c3), (.int (3 : Int32)), (.ref t1)])) rfl (by rw [hml]; rfl) (argsL := [(.ref t1), (.int (3 : Int32)), (.int c3)]) (rest := []) (lenOf pd___BII_V rfl) rfl (by show 2 * 0 + _ ≤ _; exact Nat.le_of_eq rfl) (hb hby d20_20) (fun _ _ => ⟨rfl, rfl, (by decide : 1 + 0 ≤ _), (by decide : 8 + 0 ≤ _)⟩))
  obtain ⟨rfl, N510q, K510, V510⟩ := hQ510
  have N510 := Fr.app N500 N510q
  have KK510 : Keep h0 T510.heap [] := KK500.trans K510 (allS (Or.inr sz_t1) all0)
  have S511 : Go p e below s₁ (eF_tob4 m a (0 : Int32) (4 : Int32)) T510 (mkF m 23 #[vR a, vI (3 : Int32), vI (4 : Int32), vR t1, vI (3 : Int32)] []) := fun t kt => S508 t (st510 t kt)
  clear S508 st510 X500
  have S512 : Go p e below s₁ (eF_tob4 m a (0 : Int32) (4 : Int32)) T510 (mkF m 11 #[vR a, vI ((3 : Int32) + (1 : Int32)), vI (4 : Int32), vR t1, vI ((3 : Int32) + (1 : Int32))] [(.int (4 : Int32)), (.int ((3 : Int32) + (1 : Int32)))]) := fun t kt => S511 t (by
    refine XS.iinc X510.here hx rfl (hb hby d20_23) rfl (l' := #[vR a, vI ((3 : Int32) + (1 : Int32)), vI (4 : Int32), vR t1, vI (3 : Int32)]) rfl ?_
    show Sp p e below T510 (mkF m 26 #[vR a, vI ((3 : Int32) + (1 : Int32)), vI (4 : Int32), vR t1, vI (3 : Int32)] []) _
    refine XS.iinc X510.here hx rfl (hb hby d20_26) rfl (l' := #[vR a, vI ((3 : Int32) + (1 : Int32)), vI (4 : Int32), vR t1, vI ((3 : Int32) + (1 : Int32))]) rfl ?_
    show Sp p e below T510 (mkF m 29 #[vR a, vI ((3 : Int32) + (1 : Int32)), vI (4 : Int32), vR t1, vI ((3 : Int32) + (1 : Int32))] []) _
    refine XS.goto X510.here hx rfl (pc0 := 29) (pc' := 8) rfl (hb hby d20_29) (by decide) (by decide) ?_
    show Sp p e below T510 (mkF m 8 #[vR a, vI ((3 : Int32) + (1 : Int32)), vI (4 : Int32), vR t1, vI ((3 : Int32) + (1 : Int32))] []) _
    refine XS.iload X510.here hx rfl (hb hby d20_8) rfl ?_
    show Sp p e below T510 (mkF m 10 #[vR a, vI ((3 : Int32) + (1 : Int32)), vI (4 : Int32), vR t1, vI ((3 : Int32) + (1 : Int32))] [(.int ((3 : Int32) + (1 : Int32)))]) _
    refine XS.iloadN X510.here hx rfl (hb hby d20_10) rfl ?_
    show Sp p e below T510 (mkF m 11 #[vR a, vI ((3 : Int32) + (1 : Int32)), vI (4 : Int32), vR t1, vI ((3 : Int32) + (1 : Int32))] [(.int (4 : Int32)), (.int ((3 : Int32) + (1 : Int32)))]) _
    exact kt)
  clear S511
  have q514 : ((3 : Int32) + (1 : Int32)) = (4 : Int32) := by decide
  have S513 : Go p e below s₁ (eF_tob4 m a (0 : Int32) (4 : Int32)) T510 (mkF m 11 #[vR a, vI (4 : Int32), vI (4 : Int32), vR t1, vI (4 : Int32)] [(.int (4 : Int32)), (.int (4 : Int32))]) := by have h := S512; rw [q514] at h; exact h
  clear S512
  have S515 : Go p e below s₁ (eF_tob4 m a (0 : Int32) (4 : Int32)) T510 (mkF m 33 #[vR a, vI (4 : Int32), vI (4 : Int32), vR t1, vI (4 : Int32)] [(.ref t1)]) := fun t kt => S513 t (by
    refine XS.icmpYes X510.here hx rfl (pc0 := 11) (pc' := 32) rfl (hb hby d20_11) rfl (flt (show ¬ ((4 : Int32) < (4 : Int32)) from (by decide))).2.1 (by decide) (by decide) ?_
    show Sp p e below T510 (mkF m 32 #[vR a, vI (4 : Int32), vI (4 : Int32), vR t1, vI (4 : Int32)] []) _
    refine XS.aloadN X510.here hx rfl (hb hby d20_32) rfl rfl ?_
    show Sp p e below T510 (mkF m 33 #[vR a, vI (4 : Int32), vI (4 : Int32), vR t1, vI (4 : Int32)] [(.ref t1)]) _
    exact kt)
  clear S513
  obtain ⟨fs, hr, hrun, hended, hW, hsame⟩ := X510.leave (v := some (.ref t1)) (fun h => by first | rfl | (rw [Bd.returns] at h; cases h))
  refine ⟨_, _, S515 _ ?_, hrun, hended, _, _, rfl, ?_, ⟨_, rfl⟩, hW, hsame.mono (by decide) (by decide)⟩
  · exact retOut X510 hx Bd.returns rfl (Or.inr (Or.inr (Or.inr (Or.inr ⟨rfl, rfl, rfl⟩)))) (hb hby d20_33) hr
  · show Q_tob4 Z c0 c1 c2 c3 h0 n0 _ T510.heap _
    exact ⟨t1, _, rfl, N510, KK510, sz_t1, V510⟩
abbrev eF_cmp4 (m : MethodId) (x0 : Addr) (x1 : Int32) (x2 : Addr) (x3 : Int32) (x4 : Int32) : JFrame := entryFrame m #[(.ref x0), (.int x1), (.ref x2), (.int x3), (.int x4)] 7
theorem ef_cmp4 (m : MethodId) (x0 : Addr) (x1 : Int32) (x2 : Addr) (x3 : Int32) (x4 : Int32) : entryFrame m #[(.ref x0), (.int x1), (.ref x2), (.int x3), (.int x4)] 7 = mkF m 0 #[.val (.ref x0), .val (.int x1), .val (.ref x2), .val (.int x3), .val (.int x4), .unset, .unset] [] := by first | (simp [entryFrame, mkF, argsToLocals, Value.category]; done) | rfl
theorem pn_cmp4 : plainName "java/lang/StringUTF16" = true := by first | (simp [plainName, overriddenIn]; done) | decide +kernel
def Q_cmp4 (Z : State) (b : Addr) (kb : ClassId) (c0 : Int32) (c1 : Int32) (c2 : Int32) (c3 : Int32) (h0 : Heap) (n0 : Nat) (v : Option Value) (h : Heap) (L : List Loc) : Prop := ∃ r : Int32, v = some (.int r) ∧ Fr n0 L ∧ Keep h0 h [b] ∧ ((r = (4 : Int32) ∧ (¬ (255 : Int32) < c0 ∧ ¬ (255 : Int32) < c1 ∧ ¬ (255 : Int32) < c2 ∧ ¬ (255 : Int32) < c3 ∧ True) ∧ Arv Z h b kb .byte (4 : Int32) [(.int (StrChars.lo8 c0)), (.int (StrChars.lo8 c1)), (.int (StrChars.lo8 c2)), (.int (StrChars.lo8 c3))] (.int (0 : Int32))) ∨ (r = (0 : Int32) ∧ (255 : Int32) < c0) ∨ (r = (1 : Int32) ∧ (255 : Int32) < c1) ∨ (r = (2 : Int32) ∧ (255 : Int32) < c2) ∨ (r = (3 : Int32) ∧ (255 : Int32) < c3))
set_option maxRecDepth 65536 in
set_option maxHeartbeats 40000000 in
theorem rm_cmp4 (l : Launch) (Z : State) (a0 : Array Value) (hw : ∀ d ∈ tables_1, d.before a0 Z = true) (ws : List Jvm.Cond) (a : Addr) (b : Addr) (ka : ClassId) (kb : ClassId) (c0 : Int32) (c1 : Int32) (c2 : Int32) (c3 : Int32) (h0 : Heap) (n0 : Nat) (Z0 : n0 ≤ h0.size) (Va : Arv Z h0 a ka .char (4 : Int32) [(.int c0), (.int c1), (.int c2), (.int c3)] (.int (0 : Int32))) (Vb : Arv Z h0 b kb .byte (4 : Int32) [(.int (0 : Int32)), (.int (0 : Int32)), (.int (0 : Int32)), (.int (0 : Int32))] (.int (0 : Int32))) (hab : a ≠ b) (g_b : n0 ≤ b) :
    MetFree l (⟨"java/lang/StringUTF16", "compress", "([CI[BII)I"⟩ : MethodName) (head1 (Jvm.Cond.code (⟨"java/lang/StringUTF16", "compress", "([CI[BII)I"⟩ : MethodName) jdk_52_method_21_code 7 (some .int) :: ws) ({ frames := 0, cells := 0, slots := 0, locals := 0 } : Room)) (fun aa U => aa = #[(.ref a), (.int (0 : Int32)), (.ref b), (.int (0 : Int32)), (.int (4 : Int32))] ∧ Z.Warmed39 U.vm ∧ U.heap = h0) (fun _ _ _ _ _ => True) (fun _ U o U' => ∃ v L, o = .returned v ∧ Q_cmp4 Z b kb c0 c1 c2 c3 h0 n0 v U'.heap L ∧ FrameEnd U o U' L ({ frames := 0, cells := 0, slots := 0, locals := 0 } : Room).cells ({ frames := 0, cells := 0, slots := 0, locals := 0 } : Room).slots) := by
  refine MetFree.of_bodySF (plainFor_of_name pn_cmp4) hisR ?_
  intro p e s m args below meth c s₁ Bd hml0 hP hK
  obtain ⟨rfl, hZ, hh⟩ := hP
  have hx := Bd.exec
  have hby := Bd.bytes
  have hml : c.maxLocals = 7 := hml0
  have hown : s.vm.findClass "java/lang/StringUTF16" = some m.cls := findClass_of_methodNamed Bd.named
  have hnm := (name_of_methodNamed Bd.named Bd.method).1
  have X0 : Stand p l e ({ frames := 0, cells := 0, slots := 0, locals := 0 } : Room) s m #[(.ref a), (.int (0 : Int32)), (.ref b), (.int (0 : Int32)), (.int (4 : Int32))] below meth c s₁ [] 0 0 := Stand.of_body Bd
  have e0 : s₁.heap = h0 := by rw [← hh, Bd.state]; rfl
  have N0 := Fr.nil n0
  have S0 : Go p e below s₁ (eF_cmp4 m a (0 : Int32) b (0 : Int32) (4 : Int32)) s₁ (mkF m 0 #[vR a, vI (0 : Int32), vR b, vI (0 : Int32), vI (4 : Int32), vU, vU] []) := fun t k => castTop (ef_cmp4 m a (0 : Int32) b (0 : Int32) (4 : Int32)) k
  have S516 : Go p e below s₁ (eF_cmp4 m a (0 : Int32) b (0 : Int32) (4 : Int32)) s₁ (mkF m 12 #[vR a, vI (0 : Int32), vR b, vI (0 : Int32), vI (4 : Int32), vI (0 : Int32), vU] [(.int (0 : Int32)), (.ref a)]) := fun t kt => S0 t (by
    refine XS.iconst X0.here hx rfl (hb hby d5_0) ?_
    show Sp p e below s₁ (mkF m 1 #[vR a, vI (0 : Int32), vR b, vI (0 : Int32), vI (4 : Int32), vU, vU] [(.int (0 : Int32))]) _
    refine XS.istore X0.here hx rfl (hb hby d5_1) rfl (l' := #[vR a, vI (0 : Int32), vR b, vI (0 : Int32), vI (4 : Int32), vI (0 : Int32), vU]) rfl ?_
    show Sp p e below s₁ (mkF m 3 #[vR a, vI (0 : Int32), vR b, vI (0 : Int32), vI (4 : Int32), vI (0 : Int32), vU] []) _
    refine XS.iload X0.here hx rfl (hb hby d5_3) rfl ?_
    show Sp p e below s₁ (mkF m 5 #[vR a, vI (0 : Int32), vR b, vI (0 : Int32), vI (4 : Int32), vI (0 : Int32), vU] [(.int (0 : Int32))]) _
    refine XS.iload X0.here hx rfl (hb hby d5_5) rfl ?_
    show Sp p e below s₁ (mkF m 7 #[vR a, vI (0 : Int32), vR b, vI (0 : Int32), vI (4 : Int32), vI (0 : Int32), vU] [(.int (4 : Int32)), (.int (0 : Int32))]) _
    refine XS.icmpNo X0.here hx rfl (hb hby d5_7) rfl (tlt (show (0 : Int32) < (4 : Int32) from (by decide))).2.1 ?_
    show Sp p e below s₁ (mkF m 10 #[vR a, vI (0 : Int32), vR b, vI (0 : Int32), vI (4 : Int32), vI (0 : Int32), vU] []) _
    refine XS.aloadN X0.here hx rfl (hb hby d5_10) rfl rfl ?_
    show Sp p e below s₁ (mkF m 11 #[vR a, vI (0 : Int32), vR b, vI (0 : Int32), vI (4 : Int32), vI (0 : Int32), vU] [(.ref a)]) _
    refine XS.iloadN X0.here hx rfl (hb hby d5_11) rfl ?_
    show Sp p e below s₁ (mkF m 12 #[vR a, vI (0 : Int32), vR b, vI (0 : Int32), vI (4 : Int32), vI (0 : Int32), vU] [(.int (0 : Int32)), (.ref a)]) _
    exact kt)
  clear S0
  obtain ⟨co517, Ao517, qo517, So517, No517, Ho517, Go517⟩ := id Va
  have hino517 : ¬ ((0 : Int32) < 0 ∨ co517.slots.size ≤ ((0 : Int32)).toNatClampNeg) := inb_of So517 ⟨by decide, by decide⟩
  have hato517 : co517.slots[((0 : Int32)).toNatClampNeg]? = some (.int c0) := Has.at Ho517 hino517 rfl
  have S518 : Go p e below s₁ (eF_cmp4 m a (0 : Int32) b (0 : Int32) (4 : Int32)) s₁ (mkF m 20 #[vR a, vI (0 : Int32), vR b, vI (0 : Int32), vI (4 : Int32), vI (0 : Int32), vI c0] [(.int (255 : Int32)), (.int c0)]) := fun t kt => S516 t (by
    refine X0.caload hx (j := (0 : Int32)) (v := (.int c0)) (by rw [e0]; exact Ao517.1) (State.isArrayOf_alike hZ.alike Ao517.2.1) Ao517.2.2 hino517 hato517 (g := (mkF m 12 #[vR a, vI (0 : Int32), vR b, vI (0 : Int32), vI (4 : Int32), vI (0 : Int32), vU] [(.int (0 : Int32)), (.ref a)])) rfl rfl (hb hby d5_12) _ ?_
    show Sp p e below s₁ (mkF m 13 #[vR a, vI (0 : Int32), vR b, vI (0 : Int32), vI (4 : Int32), vI (0 : Int32), vU] [(.int c0)]) _
    refine XS.istore X0.here hx rfl (hb hby d5_13) rfl (l' := #[vR a, vI (0 : Int32), vR b, vI (0 : Int32), vI (4 : Int32), vI (0 : Int32), vI c0]) rfl ?_
    show Sp p e below s₁ (mkF m 15 #[vR a, vI (0 : Int32), vR b, vI (0 : Int32), vI (4 : Int32), vI (0 : Int32), vI c0] []) _
    refine XS.iload X0.here hx rfl (hb hby d5_15) rfl ?_
    show Sp p e below s₁ (mkF m 17 #[vR a, vI (0 : Int32), vR b, vI (0 : Int32), vI (4 : Int32), vI (0 : Int32), vI c0] [(.int c0)]) _
    refine XS.sipush X0.here hx rfl (hb hby d5_17) ?_
    show Sp p e below s₁ (mkF m 20 #[vR a, vI (0 : Int32), vR b, vI (0 : Int32), vI (4 : Int32), vI (0 : Int32), vI c0] [(.int (255 : Int32)), (.int c0)]) _
    exact kt)
  clear S516
  by_cases hq0 : (255 : Int32) < c0
  · have S519 : Go p e below s₁ (eF_cmp4 m a (0 : Int32) b (0 : Int32) (4 : Int32)) s₁ (mkF m 25 #[vR a, vI (0 : Int32), vR b, vI (0 : Int32), vI (4 : Int32), vI (0 : Int32), vI c0] [(.int (0 : Int32))]) := fun t kt => S518 t (by
      refine XS.icmpNo X0.here hx rfl (hb hby d5_20) rfl (tlt (show (255 : Int32) < c0 from hq0)).2.2.2 ?_
      show Sp p e below s₁ (mkF m 23 #[vR a, vI (0 : Int32), vR b, vI (0 : Int32), vI (4 : Int32), vI (0 : Int32), vI c0] []) _
      refine XS.iload X0.here hx rfl (hb hby d5_23) rfl ?_
      show Sp p e below s₁ (mkF m 25 #[vR a, vI (0 : Int32), vR b, vI (0 : Int32), vI (4 : Int32), vI (0 : Int32), vI c0] [(.int (0 : Int32))]) _
      exact kt)
    clear S518
    obtain ⟨fs, hr, hrun, hended, hW, hsame⟩ := X0.leave (v := some (.int (0 : Int32))) (fun h => by first | rfl | (rw [Bd.returns] at h; cases h))
    refine ⟨_, _, S519 _ ?_, hrun, hended, _, _, rfl, ?_, ⟨_, rfl⟩, hW, hsame.mono (by decide) (by decide)⟩
    · exact retI X0 hx Bd.returns (hb hby d5_25) hr
    · show Q_cmp4 Z b kb c0 c1 c2 c3 h0 n0 _ s₁.heap _
      rw [e0]
      exact ⟨_, rfl, N0, (Keep.refl h0 [b]), Or.inr (Or.inl ⟨rfl, hq0⟩)⟩
  · have S520 : Go p e below s₁ (eF_cmp4 m a (0 : Int32) b (0 : Int32) (4 : Int32)) s₁ (mkF m 31 #[vR a, vI (0 : Int32), vR b, vI (0 : Int32), vI (4 : Int32), vI (0 : Int32), vI c0] [(.int (c0.toInt8.toInt32)), (.int (0 : Int32)), (.ref b)]) := fun t kt => S518 t (by
      refine XS.icmpYes X0.here hx rfl (pc0 := 20) (pc' := 26) rfl (hb hby d5_20) rfl (flt (show ¬ ((255 : Int32) < c0) from hq0)).2.2.2 (by decide) (by decide) ?_
      show Sp p e below s₁ (mkF m 26 #[vR a, vI (0 : Int32), vR b, vI (0 : Int32), vI (4 : Int32), vI (0 : Int32), vI c0] []) _
      refine XS.aloadN X0.here hx rfl (hb hby d5_26) rfl rfl ?_
      show Sp p e below s₁ (mkF m 27 #[vR a, vI (0 : Int32), vR b, vI (0 : Int32), vI (4 : Int32), vI (0 : Int32), vI c0] [(.ref b)]) _
      refine XS.iloadN X0.here hx rfl (hb hby d5_27) rfl ?_
      show Sp p e below s₁ (mkF m 28 #[vR a, vI (0 : Int32), vR b, vI (0 : Int32), vI (4 : Int32), vI (0 : Int32), vI c0] [(.int (0 : Int32)), (.ref b)]) _
      refine XS.iload X0.here hx rfl (hb hby d5_28) rfl ?_
      show Sp p e below s₁ (mkF m 30 #[vR a, vI (0 : Int32), vR b, vI (0 : Int32), vI (4 : Int32), vI (0 : Int32), vI c0] [(.int c0), (.int (0 : Int32)), (.ref b)]) _
      refine XS.i2b X0.here hx rfl (hb hby d5_30) rfl ?_
      show Sp p e below s₁ (mkF m 31 #[vR a, vI (0 : Int32), vR b, vI (0 : Int32), vI (4 : Int32), vI (0 : Int32), vI c0] [(.int (c0.toInt8.toInt32)), (.int (0 : Int32)), (.ref b)]) _
      exact kt)
    clear S518
    obtain ⟨co521, Ao521, qo521, So521, No521, Ho521, Go521⟩ := id Vb
    have hino521 : ¬ ((0 : Int32) < 0 ∨ co521.slots.size ≤ ((0 : Int32)).toNatClampNeg) := inb_of So521 ⟨by decide, by decide⟩
    obtain ⟨T522, h522, X522, e522, W522, st522⟩ := stB X0 hx hZ e0 Ao521 (j := (0 : Int32)) hino521 (g := (mkF m 31 #[vR a, vI (0 : Int32), vR b, vI (0 : Int32), vI (4 : Int32), vI (0 : Int32), vI c0] [(.int (c0.toInt8.toInt32)), (.int (0 : Int32)), (.ref b)])) rfl rfl (hb hby d5_31)
    have N522 := Fr.snoc X522 N0 g_b
    have K522 : Keep h0 h522 [b] := (Keep.refl h0 [b]).wr W522 (Or.inl (by simp))
    have V522 : Arv Z h522 b kb .byte (4 : Int32) [(.int ((c0.toInt8.toInt32).toInt8.toInt32)), (.int (0 : Int32)), (.int (0 : Int32)), (.int (0 : Int32))] (.int (0 : Int32)) := Arv.set Ao521 qo521 So521 No521 Ho521 Go521 (fits_nar_byte _) W522 0 rfl (Nat.le_of_ble_eq_true rfl)
    rw [own_lo c0] at V522
    have S523 : Go p e below s₁ (eF_cmp4 m a (0 : Int32) b (0 : Int32) (4 : Int32)) T522 (mkF m 32 #[vR a, vI (0 : Int32), vR b, vI (0 : Int32), vI (4 : Int32), vI (0 : Int32), vI c0] []) := fun t kt => S520 t (st522 t kt)
    clear S520 st522 X0 e0
    have S524 : Go p e below s₁ (eF_cmp4 m a (0 : Int32) b (0 : Int32) (4 : Int32)) T522 (mkF m 3 #[vR a, vI ((0 : Int32) + (1 : Int32)), vR b, vI ((0 : Int32) + (1 : Int32)), vI (4 : Int32), vI ((0 : Int32) + (1 : Int32)), vI c0] []) := fun t kt => S523 t (by
      refine XS.iinc X522.here hx rfl (hb hby d5_32) rfl (l' := #[vR a, vI ((0 : Int32) + (1 : Int32)), vR b, vI (0 : Int32), vI (4 : Int32), vI (0 : Int32), vI c0]) rfl ?_
      show Sp p e below T522 (mkF m 35 #[vR a, vI ((0 : Int32) + (1 : Int32)), vR b, vI (0 : Int32), vI (4 : Int32), vI (0 : Int32), vI c0] []) _
      refine XS.iinc X522.here hx rfl (hb hby d5_35) rfl (l' := #[vR a, vI ((0 : Int32) + (1 : Int32)), vR b, vI ((0 : Int32) + (1 : Int32)), vI (4 : Int32), vI (0 : Int32), vI c0]) rfl ?_
      show Sp p e below T522 (mkF m 38 #[vR a, vI ((0 : Int32) + (1 : Int32)), vR b, vI ((0 : Int32) + (1 : Int32)), vI (4 : Int32), vI (0 : Int32), vI c0] []) _
      refine XS.iinc X522.here hx rfl (hb hby d5_38) rfl (l' := #[vR a, vI ((0 : Int32) + (1 : Int32)), vR b, vI ((0 : Int32) + (1 : Int32)), vI (4 : Int32), vI ((0 : Int32) + (1 : Int32)), vI c0]) rfl ?_
      show Sp p e below T522 (mkF m 41 #[vR a, vI ((0 : Int32) + (1 : Int32)), vR b, vI ((0 : Int32) + (1 : Int32)), vI (4 : Int32), vI ((0 : Int32) + (1 : Int32)), vI c0] []) _
      refine XS.goto X522.here hx rfl (pc0 := 41) (pc' := 3) rfl (hb hby d5_41) (by decide) (by decide) ?_
      show Sp p e below T522 (mkF m 3 #[vR a, vI ((0 : Int32) + (1 : Int32)), vR b, vI ((0 : Int32) + (1 : Int32)), vI (4 : Int32), vI ((0 : Int32) + (1 : Int32)), vI c0] []) _
      exact kt)
    clear S523
    have q526 : ((0 : Int32) + (1 : Int32)) = (1 : Int32) := by decide
    have S525 : Go p e below s₁ (eF_cmp4 m a (0 : Int32) b (0 : Int32) (4 : Int32)) T522 (mkF m 3 #[vR a, vI (1 : Int32), vR b, vI (1 : Int32), vI (4 : Int32), vI (1 : Int32), vI c0] []) := by have h := S524; rw [q526] at h; exact h
    clear S524
    have S527 : Go p e below s₁ (eF_cmp4 m a (0 : Int32) b (0 : Int32) (4 : Int32)) T522 (mkF m 12 #[vR a, vI (1 : Int32), vR b, vI (1 : Int32), vI (4 : Int32), vI (1 : Int32), vI c0] [(.int (1 : Int32)), (.ref a)]) := fun t kt => S525 t (by
      refine XS.iload X522.here hx rfl (hb hby d5_3) rfl ?_
      show Sp p e below T522 (mkF m 5 #[vR a, vI (1 : Int32), vR b, vI (1 : Int32), vI (4 : Int32), vI (1 : Int32), vI c0] [(.int (1 : Int32))]) _
      refine XS.iload X522.here hx rfl (hb hby d5_5) rfl ?_
      show Sp p e below T522 (mkF m 7 #[vR a, vI (1 : Int32), vR b, vI (1 : Int32), vI (4 : Int32), vI (1 : Int32), vI c0] [(.int (4 : Int32)), (.int (1 : Int32))]) _
      refine XS.icmpNo X522.here hx rfl (hb hby d5_7) rfl (tlt (show (1 : Int32) < (4 : Int32) from (by decide))).2.1 ?_
      show Sp p e below T522 (mkF m 10 #[vR a, vI (1 : Int32), vR b, vI (1 : Int32), vI (4 : Int32), vI (1 : Int32), vI c0] []) _
      refine XS.aloadN X522.here hx rfl (hb hby d5_10) rfl rfl ?_
      show Sp p e below T522 (mkF m 11 #[vR a, vI (1 : Int32), vR b, vI (1 : Int32), vI (4 : Int32), vI (1 : Int32), vI c0] [(.ref a)]) _
      refine XS.iloadN X522.here hx rfl (hb hby d5_11) rfl ?_
      show Sp p e below T522 (mkF m 12 #[vR a, vI (1 : Int32), vR b, vI (1 : Int32), vI (4 : Int32), vI (1 : Int32), vI c0] [(.int (1 : Int32)), (.ref a)]) _
      exact kt)
    clear S525
    have f528 := (Va.other W522 hab)
    obtain ⟨co529, Ao529, qo529, So529, No529, Ho529, Go529⟩ := id f528
    have hino529 : ¬ ((1 : Int32) < 0 ∨ co529.slots.size ≤ ((1 : Int32)).toNatClampNeg) := inb_of So529 ⟨by decide, by decide⟩
    have hato529 : co529.slots[((1 : Int32)).toNatClampNeg]? = some (.int c1) := Has.at Ho529 hino529 rfl
    have S530 : Go p e below s₁ (eF_cmp4 m a (0 : Int32) b (0 : Int32) (4 : Int32)) T522 (mkF m 20 #[vR a, vI (1 : Int32), vR b, vI (1 : Int32), vI (4 : Int32), vI (1 : Int32), vI c1] [(.int (255 : Int32)), (.int c1)]) := fun t kt => S527 t (by
      refine X522.caload hx (j := (1 : Int32)) (v := (.int c1)) (by rw [e522]; exact Ao529.1) (State.isArrayOf_alike hZ.alike Ao529.2.1) Ao529.2.2 hino529 hato529 (g := (mkF m 12 #[vR a, vI (1 : Int32), vR b, vI (1 : Int32), vI (4 : Int32), vI (1 : Int32), vI c0] [(.int (1 : Int32)), (.ref a)])) rfl rfl (hb hby d5_12) _ ?_
      show Sp p e below T522 (mkF m 13 #[vR a, vI (1 : Int32), vR b, vI (1 : Int32), vI (4 : Int32), vI (1 : Int32), vI c0] [(.int c1)]) _
      refine XS.istore X522.here hx rfl (hb hby d5_13) rfl (l' := #[vR a, vI (1 : Int32), vR b, vI (1 : Int32), vI (4 : Int32), vI (1 : Int32), vI c1]) rfl ?_
      show Sp p e below T522 (mkF m 15 #[vR a, vI (1 : Int32), vR b, vI (1 : Int32), vI (4 : Int32), vI (1 : Int32), vI c1] []) _
      refine XS.iload X522.here hx rfl (hb hby d5_15) rfl ?_
      show Sp p e below T522 (mkF m 17 #[vR a, vI (1 : Int32), vR b, vI (1 : Int32), vI (4 : Int32), vI (1 : Int32), vI c1] [(.int c1)]) _
      refine XS.sipush X522.here hx rfl (hb hby d5_17) ?_
      show Sp p e below T522 (mkF m 20 #[vR a, vI (1 : Int32), vR b, vI (1 : Int32), vI (4 : Int32), vI (1 : Int32), vI c1] [(.int (255 : Int32)), (.int c1)]) _
      exact kt)
    clear S527
    by_cases hq1 : (255 : Int32) < c1
    · have S531 : Go p e below s₁ (eF_cmp4 m a (0 : Int32) b (0 : Int32) (4 : Int32)) T522 (mkF m 25 #[vR a, vI (1 : Int32), vR b, vI (1 : Int32), vI (4 : Int32), vI (1 : Int32), vI c1] [(.int (1 : Int32))]) := fun t kt => S530 t (by
        refine XS.icmpNo X522.here hx rfl (hb hby d5_20) rfl (tlt (show (255 : Int32) < c1 from hq1)).2.2.2 ?_
        show Sp p e below T522 (mkF m 23 #[vR a, vI (1 : Int32), vR b, vI (1 : Int32), vI (4 : Int32), vI (1 : Int32), vI c1] []) _
        refine XS.iload X522.here hx rfl (hb hby d5_23) rfl ?_
        show Sp p e below T522 (mkF m 25 #[vR a, vI (1 : Int32), vR b, vI (1 : Int32), vI (4 : Int32), vI (1 : Int32), vI c1] [(.int (1 : Int32))]) _
        exact kt)
      clear S530
      obtain ⟨fs, hr, hrun, hended, hW, hsame⟩ := X522.leave (v := some (.int (1 : Int32))) (fun h => by first | rfl | (rw [Bd.returns] at h; cases h))
      refine ⟨_, _, S531 _ ?_, hrun, hended, _, _, rfl, ?_, ⟨_, rfl⟩, hW, hsame.mono (by decide) (by decide)⟩
      · exact retI X522 hx Bd.returns (hb hby d5_25) hr
      · show Q_cmp4 Z b kb c0 c1 c2 c3 h0 n0 _ T522.heap _
        rw [e522]
        exact ⟨_, rfl, N522, K522, Or.inr (Or.inr (Or.inl ⟨rfl, hq1⟩))⟩
    · have S532 : Go p e below s₁ (eF_cmp4 m a (0 : Int32) b (0 : Int32) (4 : Int32)) T522 (mkF m 31 #[vR a, vI (1 : Int32), vR b, vI (1 : Int32), vI (4 : Int32), vI (1 : Int32), vI c1] [(.int (c1.toInt8.toInt32)), (.int (1 : Int32)), (.ref b)]) := fun t kt => S530 t (by
        refine XS.icmpYes X522.here hx rfl (pc0 := 20) (pc' := 26) rfl (hb hby d5_20) rfl (flt (show ¬ ((255 : Int32) < c1) from hq1)).2.2.2 (by decide) (by decide) ?_
        show Sp p e below T522 (mkF m 26 #[vR a, vI (1 : Int32), vR b, vI (1 : Int32), vI (4 : Int32), vI (1 : Int32), vI c1] []) _
        refine XS.aloadN X522.here hx rfl (hb hby d5_26) rfl rfl ?_
        show Sp p e below T522 (mkF m 27 #[vR a, vI (1 : Int32), vR b, vI (1 : Int32), vI (4 : Int32), vI (1 : Int32), vI c1] [(.ref b)]) _
        refine XS.iloadN X522.here hx rfl (hb hby d5_27) rfl ?_
        show Sp p e below T522 (mkF m 28 #[vR a, vI (1 : Int32), vR b, vI (1 : Int32), vI (4 : Int32), vI (1 : Int32), vI c1] [(.int (1 : Int32)), (.ref b)]) _
        refine XS.iload X522.here hx rfl (hb hby d5_28) rfl ?_
        show Sp p e below T522 (mkF m 30 #[vR a, vI (1 : Int32), vR b, vI (1 : Int32), vI (4 : Int32), vI (1 : Int32), vI c1] [(.int c1), (.int (1 : Int32)), (.ref b)]) _
        refine XS.i2b X522.here hx rfl (hb hby d5_30) rfl ?_
        show Sp p e below T522 (mkF m 31 #[vR a, vI (1 : Int32), vR b, vI (1 : Int32), vI (4 : Int32), vI (1 : Int32), vI c1] [(.int (c1.toInt8.toInt32)), (.int (1 : Int32)), (.ref b)]) _
        exact kt)
      clear S530
      obtain ⟨co533, Ao533, qo533, So533, No533, Ho533, Go533⟩ := id V522
      have hino533 : ¬ ((1 : Int32) < 0 ∨ co533.slots.size ≤ ((1 : Int32)).toNatClampNeg) := inb_of So533 ⟨by decide, by decide⟩
      obtain ⟨T534, h534, X534, e534, W534, st534⟩ := stB X522 hx hZ e522 Ao533 (j := (1 : Int32)) hino533 (g := (mkF m 31 #[vR a, vI (1 : Int32), vR b, vI (1 : Int32), vI (4 : Int32), vI (1 : Int32), vI c1] [(.int (c1.toInt8.toInt32)), (.int (1 : Int32)), (.ref b)])) rfl rfl (hb hby d5_31)
      have N534 := Fr.snoc X534 N522 g_b
      have K534 : Keep h0 h534 [b] := K522.wr W534 (Or.inl (by simp))
      have V534 : Arv Z h534 b kb .byte (4 : Int32) [(.int (StrChars.lo8 c0)), (.int ((c1.toInt8.toInt32).toInt8.toInt32)), (.int (0 : Int32)), (.int (0 : Int32))] (.int (0 : Int32)) := Arv.set Ao533 qo533 So533 No533 Ho533 Go533 (fits_nar_byte _) W534 1 rfl (Nat.le_of_ble_eq_true rfl)
      rw [own_lo c1] at V534
      have S535 : Go p e below s₁ (eF_cmp4 m a (0 : Int32) b (0 : Int32) (4 : Int32)) T534 (mkF m 32 #[vR a, vI (1 : Int32), vR b, vI (1 : Int32), vI (4 : Int32), vI (1 : Int32), vI c1] []) := fun t kt => S532 t (st534 t kt)
      clear S532 st534 X522 e522
      have S536 : Go p e below s₁ (eF_cmp4 m a (0 : Int32) b (0 : Int32) (4 : Int32)) T534 (mkF m 3 #[vR a, vI ((1 : Int32) + (1 : Int32)), vR b, vI ((1 : Int32) + (1 : Int32)), vI (4 : Int32), vI ((1 : Int32) + (1 : Int32)), vI c1] []) := fun t kt => S535 t (by
        refine XS.iinc X534.here hx rfl (hb hby d5_32) rfl (l' := #[vR a, vI ((1 : Int32) + (1 : Int32)), vR b, vI (1 : Int32), vI (4 : Int32), vI (1 : Int32), vI c1]) rfl ?_
        show Sp p e below T534 (mkF m 35 #[vR a, vI ((1 : Int32) + (1 : Int32)), vR b, vI (1 : Int32), vI (4 : Int32), vI (1 : Int32), vI c1] []) _
        refine XS.iinc X534.here hx rfl (hb hby d5_35) rfl (l' := #[vR a, vI ((1 : Int32) + (1 : Int32)), vR b, vI ((1 : Int32) + (1 : Int32)), vI (4 : Int32), vI (1 : Int32), vI c1]) rfl ?_
        show Sp p e below T534 (mkF m 38 #[vR a, vI ((1 : Int32) + (1 : Int32)), vR b, vI ((1 : Int32) + (1 : Int32)), vI (4 : Int32), vI (1 : Int32), vI c1] []) _
        refine XS.iinc X534.here hx rfl (hb hby d5_38) rfl (l' := #[vR a, vI ((1 : Int32) + (1 : Int32)), vR b, vI ((1 : Int32) + (1 : Int32)), vI (4 : Int32), vI ((1 : Int32) + (1 : Int32)), vI c1]) rfl ?_
        show Sp p e below T534 (mkF m 41 #[vR a, vI ((1 : Int32) + (1 : Int32)), vR b, vI ((1 : Int32) + (1 : Int32)), vI (4 : Int32), vI ((1 : Int32) + (1 : Int32)), vI c1] []) _
        refine XS.goto X534.here hx rfl (pc0 := 41) (pc' := 3) rfl (hb hby d5_41) (by decide) (by decide) ?_
        show Sp p e below T534 (mkF m 3 #[vR a, vI ((1 : Int32) + (1 : Int32)), vR b, vI ((1 : Int32) + (1 : Int32)), vI (4 : Int32), vI ((1 : Int32) + (1 : Int32)), vI c1] []) _
        exact kt)
      clear S535
      have q538 : ((1 : Int32) + (1 : Int32)) = (2 : Int32) := by decide
      have S537 : Go p e below s₁ (eF_cmp4 m a (0 : Int32) b (0 : Int32) (4 : Int32)) T534 (mkF m 3 #[vR a, vI (2 : Int32), vR b, vI (2 : Int32), vI (4 : Int32), vI (2 : Int32), vI c1] []) := by have h := S536; rw [q538] at h; exact h
      clear S536
      have S539 : Go p e below s₁ (eF_cmp4 m a (0 : Int32) b (0 : Int32) (4 : Int32)) T534 (mkF m 12 #[vR a, vI (2 : Int32), vR b, vI (2 : Int32), vI (4 : Int32), vI (2 : Int32), vI c1] [(.int (2 : Int32)), (.ref a)]) := fun t kt => S537 t (by
        refine XS.iload X534.here hx rfl (hb hby d5_3) rfl ?_
        show Sp p e below T534 (mkF m 5 #[vR a, vI (2 : Int32), vR b, vI (2 : Int32), vI (4 : Int32), vI (2 : Int32), vI c1] [(.int (2 : Int32))]) _
        refine XS.iload X534.here hx rfl (hb hby d5_5) rfl ?_
        show Sp p e below T534 (mkF m 7 #[vR a, vI (2 : Int32), vR b, vI (2 : Int32), vI (4 : Int32), vI (2 : Int32), vI c1] [(.int (4 : Int32)), (.int (2 : Int32))]) _
        refine XS.icmpNo X534.here hx rfl (hb hby d5_7) rfl (tlt (show (2 : Int32) < (4 : Int32) from (by decide))).2.1 ?_
        show Sp p e below T534 (mkF m 10 #[vR a, vI (2 : Int32), vR b, vI (2 : Int32), vI (4 : Int32), vI (2 : Int32), vI c1] []) _
        refine XS.aloadN X534.here hx rfl (hb hby d5_10) rfl rfl ?_
        show Sp p e below T534 (mkF m 11 #[vR a, vI (2 : Int32), vR b, vI (2 : Int32), vI (4 : Int32), vI (2 : Int32), vI c1] [(.ref a)]) _
        refine XS.iloadN X534.here hx rfl (hb hby d5_11) rfl ?_
        show Sp p e below T534 (mkF m 12 #[vR a, vI (2 : Int32), vR b, vI (2 : Int32), vI (4 : Int32), vI (2 : Int32), vI c1] [(.int (2 : Int32)), (.ref a)]) _
        exact kt)
      clear S537
      have f540 := (f528.other W534 hab)
      obtain ⟨co541, Ao541, qo541, So541, No541, Ho541, Go541⟩ := id f540
      have hino541 : ¬ ((2 : Int32) < 0 ∨ co541.slots.size ≤ ((2 : Int32)).toNatClampNeg) := inb_of So541 ⟨by decide, by decide⟩
      have hato541 : co541.slots[((2 : Int32)).toNatClampNeg]? = some (.int c2) := Has.at Ho541 hino541 rfl
      have S542 : Go p e below s₁ (eF_cmp4 m a (0 : Int32) b (0 : Int32) (4 : Int32)) T534 (mkF m 20 #[vR a, vI (2 : Int32), vR b, vI (2 : Int32), vI (4 : Int32), vI (2 : Int32), vI c2] [(.int (255 : Int32)), (.int c2)]) := fun t kt => S539 t (by
        refine X534.caload hx (j := (2 : Int32)) (v := (.int c2)) (by rw [e534]; exact Ao541.1) (State.isArrayOf_alike hZ.alike Ao541.2.1) Ao541.2.2 hino541 hato541 (g := (mkF m 12 #[vR a, vI (2 : Int32), vR b, vI (2 : Int32), vI (4 : Int32), vI (2 : Int32), vI c1] [(.int (2 : Int32)), (.ref a)])) rfl rfl (hb hby d5_12) _ ?_
        show Sp p e below T534 (mkF m 13 #[vR a, vI (2 : Int32), vR b, vI (2 : Int32), vI (4 : Int32), vI (2 : Int32), vI c1] [(.int c2)]) _
        refine XS.istore X534.here hx rfl (hb hby d5_13) rfl (l' := #[vR a, vI (2 : Int32), vR b, vI (2 : Int32), vI (4 : Int32), vI (2 : Int32), vI c2]) rfl ?_
        show Sp p e below T534 (mkF m 15 #[vR a, vI (2 : Int32), vR b, vI (2 : Int32), vI (4 : Int32), vI (2 : Int32), vI c2] []) _
        refine XS.iload X534.here hx rfl (hb hby d5_15) rfl ?_
        show Sp p e below T534 (mkF m 17 #[vR a, vI (2 : Int32), vR b, vI (2 : Int32), vI (4 : Int32), vI (2 : Int32), vI c2] [(.int c2)]) _
        refine XS.sipush X534.here hx rfl (hb hby d5_17) ?_
        show Sp p e below T534 (mkF m 20 #[vR a, vI (2 : Int32), vR b, vI (2 : Int32), vI (4 : Int32), vI (2 : Int32), vI c2] [(.int (255 : Int32)), (.int c2)]) _
        exact kt)
      clear S539
      by_cases hq2 : (255 : Int32) < c2
      · have S543 : Go p e below s₁ (eF_cmp4 m a (0 : Int32) b (0 : Int32) (4 : Int32)) T534 (mkF m 25 #[vR a, vI (2 : Int32), vR b, vI (2 : Int32), vI (4 : Int32), vI (2 : Int32), vI c2] [(.int (2 : Int32))]) := fun t kt => S542 t (by
          refine XS.icmpNo X534.here hx rfl (hb hby d5_20) rfl (tlt (show (255 : Int32) < c2 from hq2)).2.2.2 ?_
          show Sp p e below T534 (mkF m 23 #[vR a, vI (2 : Int32), vR b, vI (2 : Int32), vI (4 : Int32), vI (2 : Int32), vI c2] []) _
          refine XS.iload X534.here hx rfl (hb hby d5_23) rfl ?_
          show Sp p e below T534 (mkF m 25 #[vR a, vI (2 : Int32), vR b, vI (2 : Int32), vI (4 : Int32), vI (2 : Int32), vI c2] [(.int (2 : Int32))]) _
          exact kt)
        clear S542
        obtain ⟨fs, hr, hrun, hended, hW, hsame⟩ := X534.leave (v := some (.int (2 : Int32))) (fun h => by first | rfl | (rw [Bd.returns] at h; cases h))
        refine ⟨_, _, S543 _ ?_, hrun, hended, _, _, rfl, ?_, ⟨_, rfl⟩, hW, hsame.mono (by decide) (by decide)⟩
        · exact retI X534 hx Bd.returns (hb hby d5_25) hr
        · show Q_cmp4 Z b kb c0 c1 c2 c3 h0 n0 _ T534.heap _
          rw [e534]
          exact ⟨_, rfl, N534, K534, Or.inr (Or.inr (Or.inr (Or.inl ⟨rfl, hq2⟩)))⟩
      · have S544 : Go p e below s₁ (eF_cmp4 m a (0 : Int32) b (0 : Int32) (4 : Int32)) T534 (mkF m 31 #[vR a, vI (2 : Int32), vR b, vI (2 : Int32), vI (4 : Int32), vI (2 : Int32), vI c2] [(.int (c2.toInt8.toInt32)), (.int (2 : Int32)), (.ref b)]) := fun t kt => S542 t (by
          refine XS.icmpYes X534.here hx rfl (pc0 := 20) (pc' := 26) rfl (hb hby d5_20) rfl (flt (show ¬ ((255 : Int32) < c2) from hq2)).2.2.2 (by decide) (by decide) ?_
          show Sp p e below T534 (mkF m 26 #[vR a, vI (2 : Int32), vR b, vI (2 : Int32), vI (4 : Int32), vI (2 : Int32), vI c2] []) _
          refine XS.aloadN X534.here hx rfl (hb hby d5_26) rfl rfl ?_
          show Sp p e below T534 (mkF m 27 #[vR a, vI (2 : Int32), vR b, vI (2 : Int32), vI (4 : Int32), vI (2 : Int32), vI c2] [(.ref b)]) _
          refine XS.iloadN X534.here hx rfl (hb hby d5_27) rfl ?_
          show Sp p e below T534 (mkF m 28 #[vR a, vI (2 : Int32), vR b, vI (2 : Int32), vI (4 : Int32), vI (2 : Int32), vI c2] [(.int (2 : Int32)), (.ref b)]) _
          refine XS.iload X534.here hx rfl (hb hby d5_28) rfl ?_
          show Sp p e below T534 (mkF m 30 #[vR a, vI (2 : Int32), vR b, vI (2 : Int32), vI (4 : Int32), vI (2 : Int32), vI c2] [(.int c2), (.int (2 : Int32)), (.ref b)]) _
          refine XS.i2b X534.here hx rfl (hb hby d5_30) rfl ?_
          show Sp p e below T534 (mkF m 31 #[vR a, vI (2 : Int32), vR b, vI (2 : Int32), vI (4 : Int32), vI (2 : Int32), vI c2] [(.int (c2.toInt8.toInt32)), (.int (2 : Int32)), (.ref b)]) _
          exact kt)
        clear S542
        obtain ⟨co545, Ao545, qo545, So545, No545, Ho545, Go545⟩ := id V534
        have hino545 : ¬ ((2 : Int32) < 0 ∨ co545.slots.size ≤ ((2 : Int32)).toNatClampNeg) := inb_of So545 ⟨by decide, by decide⟩
        obtain ⟨T546, h546, X546, e546, W546, st546⟩ := stB X534 hx hZ e534 Ao545 (j := (2 : Int32)) hino545 (g := (mkF m 31 #[vR a, vI (2 : Int32), vR b, vI (2 : Int32), vI (4 : Int32), vI (2 : Int32), vI c2] [(.int (c2.toInt8.toInt32)), (.int (2 : Int32)), (.ref b)])) rfl rfl (hb hby d5_31)
        have N546 := Fr.snoc X546 N534 g_b
        have K546 : Keep h0 h546 [b] := K534.wr W546 (Or.inl (by simp))
        have V546 : Arv Z h546 b kb .byte (4 : Int32) [(.int (StrChars.lo8 c0)), (.int (StrChars.lo8 c1)), (.int ((c2.toInt8.toInt32).toInt8.toInt32)), (.int (0 : Int32))] (.int (0 : Int32)) := Arv.set Ao545 qo545 So545 No545 Ho545 Go545 (fits_nar_byte _) W546 2 rfl (Nat.le_of_ble_eq_true rfl)
        rw [own_lo c2] at V546
        have S547 : Go p e below s₁ (eF_cmp4 m a (0 : Int32) b (0 : Int32) (4 : Int32)) T546 (mkF m 32 #[vR a, vI (2 : Int32), vR b, vI (2 : Int32), vI (4 : Int32), vI (2 : Int32), vI c2] []) := fun t kt => S544 t (st546 t kt)
        clear S544 st546 X534 e534
        have S548 : Go p e below s₁ (eF_cmp4 m a (0 : Int32) b (0 : Int32) (4 : Int32)) T546 (mkF m 3 #[vR a, vI ((2 : Int32) + (1 : Int32)), vR b, vI ((2 : Int32) + (1 : Int32)), vI (4 : Int32), vI ((2 : Int32) + (1 : Int32)), vI c2] []) := fun t kt => S547 t (by
          refine XS.iinc X546.here hx rfl (hb hby d5_32) rfl (l' := #[vR a, vI ((2 : Int32) + (1 : Int32)), vR b, vI (2 : Int32), vI (4 : Int32), vI (2 : Int32), vI c2]) rfl ?_
          show Sp p e below T546 (mkF m 35 #[vR a, vI ((2 : Int32) + (1 : Int32)), vR b, vI (2 : Int32), vI (4 : Int32), vI (2 : Int32), vI c2] []) _
          refine XS.iinc X546.here hx rfl (hb hby d5_35) rfl (l' := #[vR a, vI ((2 : Int32) + (1 : Int32)), vR b, vI ((2 : Int32) + (1 : Int32)), vI (4 : Int32), vI (2 : Int32), vI c2]) rfl ?_
          show Sp p e below T546 (mkF m 38 #[vR a, vI ((2 : Int32) + (1 : Int32)), vR b, vI ((2 : Int32) + (1 : Int32)), vI (4 : Int32), vI (2 : Int32), vI c2] []) _
          refine XS.iinc X546.here hx rfl (hb hby d5_38) rfl (l' := #[vR a, vI ((2 : Int32) + (1 : Int32)), vR b, vI ((2 : Int32) + (1 : Int32)), vI (4 : Int32), vI ((2 : Int32) + (1 : Int32)), vI c2]) rfl ?_
          show Sp p e below T546 (mkF m 41 #[vR a, vI ((2 : Int32) + (1 : Int32)), vR b, vI ((2 : Int32) + (1 : Int32)), vI (4 : Int32), vI ((2 : Int32) + (1 : Int32)), vI c2] []) _
          refine XS.goto X546.here hx rfl (pc0 := 41) (pc' := 3) rfl (hb hby d5_41) (by decide) (by decide) ?_
          show Sp p e below T546 (mkF m 3 #[vR a, vI ((2 : Int32) + (1 : Int32)), vR b, vI ((2 : Int32) + (1 : Int32)), vI (4 : Int32), vI ((2 : Int32) + (1 : Int32)), vI c2] []) _
          exact kt)
        clear S547
        have q550 : ((2 : Int32) + (1 : Int32)) = (3 : Int32) := by decide
        have S549 : Go p e below s₁ (eF_cmp4 m a (0 : Int32) b (0 : Int32) (4 : Int32)) T546 (mkF m 3 #[vR a, vI (3 : Int32), vR b, vI (3 : Int32), vI (4 : Int32), vI (3 : Int32), vI c2] []) := by have h := S548; rw [q550] at h; exact h
        clear S548
        have S551 : Go p e below s₁ (eF_cmp4 m a (0 : Int32) b (0 : Int32) (4 : Int32)) T546 (mkF m 12 #[vR a, vI (3 : Int32), vR b, vI (3 : Int32), vI (4 : Int32), vI (3 : Int32), vI c2] [(.int (3 : Int32)), (.ref a)]) := fun t kt => S549 t (by
          refine XS.iload X546.here hx rfl (hb hby d5_3) rfl ?_
          show Sp p e below T546 (mkF m 5 #[vR a, vI (3 : Int32), vR b, vI (3 : Int32), vI (4 : Int32), vI (3 : Int32), vI c2] [(.int (3 : Int32))]) _
          refine XS.iload X546.here hx rfl (hb hby d5_5) rfl ?_
          show Sp p e below T546 (mkF m 7 #[vR a, vI (3 : Int32), vR b, vI (3 : Int32), vI (4 : Int32), vI (3 : Int32), vI c2] [(.int (4 : Int32)), (.int (3 : Int32))]) _
          refine XS.icmpNo X546.here hx rfl (hb hby d5_7) rfl (tlt (show (3 : Int32) < (4 : Int32) from (by decide))).2.1 ?_
          show Sp p e below T546 (mkF m 10 #[vR a, vI (3 : Int32), vR b, vI (3 : Int32), vI (4 : Int32), vI (3 : Int32), vI c2] []) _
          refine XS.aloadN X546.here hx rfl (hb hby d5_10) rfl rfl ?_
          show Sp p e below T546 (mkF m 11 #[vR a, vI (3 : Int32), vR b, vI (3 : Int32), vI (4 : Int32), vI (3 : Int32), vI c2] [(.ref a)]) _
          refine XS.iloadN X546.here hx rfl (hb hby d5_11) rfl ?_
          show Sp p e below T546 (mkF m 12 #[vR a, vI (3 : Int32), vR b, vI (3 : Int32), vI (4 : Int32), vI (3 : Int32), vI c2] [(.int (3 : Int32)), (.ref a)]) _
          exact kt)
        clear S549
        have f552 := (f540.other W546 hab)
        obtain ⟨co553, Ao553, qo553, So553, No553, Ho553, Go553⟩ := id f552
        have hino553 : ¬ ((3 : Int32) < 0 ∨ co553.slots.size ≤ ((3 : Int32)).toNatClampNeg) := inb_of So553 ⟨by decide, by decide⟩
        have hato553 : co553.slots[((3 : Int32)).toNatClampNeg]? = some (.int c3) := Has.at Ho553 hino553 rfl
        have S554 : Go p e below s₁ (eF_cmp4 m a (0 : Int32) b (0 : Int32) (4 : Int32)) T546 (mkF m 20 #[vR a, vI (3 : Int32), vR b, vI (3 : Int32), vI (4 : Int32), vI (3 : Int32), vI c3] [(.int (255 : Int32)), (.int c3)]) := fun t kt => S551 t (by
          refine X546.caload hx (j := (3 : Int32)) (v := (.int c3)) (by rw [e546]; exact Ao553.1) (State.isArrayOf_alike hZ.alike Ao553.2.1) Ao553.2.2 hino553 hato553 (g := (mkF m 12 #[vR a, vI (3 : Int32), vR b, vI (3 : Int32), vI (4 : Int32), vI (3 : Int32), vI c2] [(.int (3 : Int32)), (.ref a)])) rfl rfl (hb hby d5_12) _ ?_
          show Sp p e below T546 (mkF m 13 #[vR a, vI (3 : Int32), vR b, vI (3 : Int32), vI (4 : Int32), vI (3 : Int32), vI c2] [(.int c3)]) _
          refine XS.istore X546.here hx rfl (hb hby d5_13) rfl (l' := #[vR a, vI (3 : Int32), vR b, vI (3 : Int32), vI (4 : Int32), vI (3 : Int32), vI c3]) rfl ?_
          show Sp p e below T546 (mkF m 15 #[vR a, vI (3 : Int32), vR b, vI (3 : Int32), vI (4 : Int32), vI (3 : Int32), vI c3] []) _
          refine XS.iload X546.here hx rfl (hb hby d5_15) rfl ?_
          show Sp p e below T546 (mkF m 17 #[vR a, vI (3 : Int32), vR b, vI (3 : Int32), vI (4 : Int32), vI (3 : Int32), vI c3] [(.int c3)]) _
          refine XS.sipush X546.here hx rfl (hb hby d5_17) ?_
          show Sp p e below T546 (mkF m 20 #[vR a, vI (3 : Int32), vR b, vI (3 : Int32), vI (4 : Int32), vI (3 : Int32), vI c3] [(.int (255 : Int32)), (.int c3)]) _
          exact kt)
        clear S551
        by_cases hq3 : (255 : Int32) < c3
        · have S555 : Go p e below s₁ (eF_cmp4 m a (0 : Int32) b (0 : Int32) (4 : Int32)) T546 (mkF m 25 #[vR a, vI (3 : Int32), vR b, vI (3 : Int32), vI (4 : Int32), vI (3 : Int32), vI c3] [(.int (3 : Int32))]) := fun t kt => S554 t (by
            refine XS.icmpNo X546.here hx rfl (hb hby d5_20) rfl (tlt (show (255 : Int32) < c3 from hq3)).2.2.2 ?_
            show Sp p e below T546 (mkF m 23 #[vR a, vI (3 : Int32), vR b, vI (3 : Int32), vI (4 : Int32), vI (3 : Int32), vI c3] []) _
            refine XS.iload X546.here hx rfl (hb hby d5_23) rfl ?_
            show Sp p e below T546 (mkF m 25 #[vR a, vI (3 : Int32), vR b, vI (3 : Int32), vI (4 : Int32), vI (3 : Int32), vI c3] [(.int (3 : Int32))]) _
            exact kt)
          clear S554
          obtain ⟨fs, hr, hrun, hended, hW, hsame⟩ := X546.leave (v := some (.int (3 : Int32))) (fun h => by first | rfl | (rw [Bd.returns] at h; cases h))
          refine ⟨_, _, S555 _ ?_, hrun, hended, _, _, rfl, ?_, ⟨_, rfl⟩, hW, hsame.mono (by decide) (by decide)⟩
          · exact retI X546 hx Bd.returns (hb hby d5_25) hr
          · show Q_cmp4 Z b kb c0 c1 c2 c3 h0 n0 _ T546.heap _
            rw [e546]
            exact ⟨_, rfl, N546, K546, Or.inr (Or.inr (Or.inr (Or.inr (⟨rfl, hq3⟩))))⟩
        · have S556 : Go p e below s₁ (eF_cmp4 m a (0 : Int32) b (0 : Int32) (4 : Int32)) T546 (mkF m 31 #[vR a, vI (3 : Int32), vR b, vI (3 : Int32), vI (4 : Int32), vI (3 : Int32), vI c3] [(.int (c3.toInt8.toInt32)), (.int (3 : Int32)), (.ref b)]) := fun t kt => S554 t (by
            refine XS.icmpYes X546.here hx rfl (pc0 := 20) (pc' := 26) rfl (hb hby d5_20) rfl (flt (show ¬ ((255 : Int32) < c3) from hq3)).2.2.2 (by decide) (by decide) ?_
            show Sp p e below T546 (mkF m 26 #[vR a, vI (3 : Int32), vR b, vI (3 : Int32), vI (4 : Int32), vI (3 : Int32), vI c3] []) _
            refine XS.aloadN X546.here hx rfl (hb hby d5_26) rfl rfl ?_
            show Sp p e below T546 (mkF m 27 #[vR a, vI (3 : Int32), vR b, vI (3 : Int32), vI (4 : Int32), vI (3 : Int32), vI c3] [(.ref b)]) _
            refine XS.iloadN X546.here hx rfl (hb hby d5_27) rfl ?_
            show Sp p e below T546 (mkF m 28 #[vR a, vI (3 : Int32), vR b, vI (3 : Int32), vI (4 : Int32), vI (3 : Int32), vI c3] [(.int (3 : Int32)), (.ref b)]) _
            refine XS.iload X546.here hx rfl (hb hby d5_28) rfl ?_
            show Sp p e below T546 (mkF m 30 #[vR a, vI (3 : Int32), vR b, vI (3 : Int32), vI (4 : Int32), vI (3 : Int32), vI c3] [(.int c3), (.int (3 : Int32)), (.ref b)]) _
            refine XS.i2b X546.here hx rfl (hb hby d5_30) rfl ?_
            show Sp p e below T546 (mkF m 31 #[vR a, vI (3 : Int32), vR b, vI (3 : Int32), vI (4 : Int32), vI (3 : Int32), vI c3] [(.int (c3.toInt8.toInt32)), (.int (3 : Int32)), (.ref b)]) _
            exact kt)
          clear S554
          obtain ⟨co557, Ao557, qo557, So557, No557, Ho557, Go557⟩ := id V546
          have hino557 : ¬ ((3 : Int32) < 0 ∨ co557.slots.size ≤ ((3 : Int32)).toNatClampNeg) := inb_of So557 ⟨by decide, by decide⟩
          obtain ⟨T558, h558, X558, e558, W558, st558⟩ := stB X546 hx hZ e546 Ao557 (j := (3 : Int32)) hino557 (g := (mkF m 31 #[vR a, vI (3 : Int32), vR b, vI (3 : Int32), vI (4 : Int32), vI (3 : Int32), vI c3] [(.int (c3.toInt8.toInt32)), (.int (3 : Int32)), (.ref b)])) rfl rfl (hb hby d5_31)
          have N558 := Fr.snoc X558 N546 g_b
          have K558 : Keep h0 h558 [b] := K546.wr W558 (Or.inl (by simp))
          have V558 : Arv Z h558 b kb .byte (4 : Int32) [(.int (StrChars.lo8 c0)), (.int (StrChars.lo8 c1)), (.int (StrChars.lo8 c2)), (.int ((c3.toInt8.toInt32).toInt8.toInt32))] (.int (0 : Int32)) := Arv.set Ao557 qo557 So557 No557 Ho557 Go557 (fits_nar_byte _) W558 3 rfl (Nat.le_of_ble_eq_true rfl)
          rw [own_lo c3] at V558
          have S559 : Go p e below s₁ (eF_cmp4 m a (0 : Int32) b (0 : Int32) (4 : Int32)) T558 (mkF m 32 #[vR a, vI (3 : Int32), vR b, vI (3 : Int32), vI (4 : Int32), vI (3 : Int32), vI c3] []) := fun t kt => S556 t (st558 t kt)
          clear S556 st558 X546 e546
          have S560 : Go p e below s₁ (eF_cmp4 m a (0 : Int32) b (0 : Int32) (4 : Int32)) T558 (mkF m 3 #[vR a, vI ((3 : Int32) + (1 : Int32)), vR b, vI ((3 : Int32) + (1 : Int32)), vI (4 : Int32), vI ((3 : Int32) + (1 : Int32)), vI c3] []) := fun t kt => S559 t (by
            refine XS.iinc X558.here hx rfl (hb hby d5_32) rfl (l' := #[vR a, vI ((3 : Int32) + (1 : Int32)), vR b, vI (3 : Int32), vI (4 : Int32), vI (3 : Int32), vI c3]) rfl ?_
            show Sp p e below T558 (mkF m 35 #[vR a, vI ((3 : Int32) + (1 : Int32)), vR b, vI (3 : Int32), vI (4 : Int32), vI (3 : Int32), vI c3] []) _
            refine XS.iinc X558.here hx rfl (hb hby d5_35) rfl (l' := #[vR a, vI ((3 : Int32) + (1 : Int32)), vR b, vI ((3 : Int32) + (1 : Int32)), vI (4 : Int32), vI (3 : Int32), vI c3]) rfl ?_
            show Sp p e below T558 (mkF m 38 #[vR a, vI ((3 : Int32) + (1 : Int32)), vR b, vI ((3 : Int32) + (1 : Int32)), vI (4 : Int32), vI (3 : Int32), vI c3] []) _
            refine XS.iinc X558.here hx rfl (hb hby d5_38) rfl (l' := #[vR a, vI ((3 : Int32) + (1 : Int32)), vR b, vI ((3 : Int32) + (1 : Int32)), vI (4 : Int32), vI ((3 : Int32) + (1 : Int32)), vI c3]) rfl ?_
            show Sp p e below T558 (mkF m 41 #[vR a, vI ((3 : Int32) + (1 : Int32)), vR b, vI ((3 : Int32) + (1 : Int32)), vI (4 : Int32), vI ((3 : Int32) + (1 : Int32)), vI c3] []) _
            refine XS.goto X558.here hx rfl (pc0 := 41) (pc' := 3) rfl (hb hby d5_41) (by decide) (by decide) ?_
            show Sp p e below T558 (mkF m 3 #[vR a, vI ((3 : Int32) + (1 : Int32)), vR b, vI ((3 : Int32) + (1 : Int32)), vI (4 : Int32), vI ((3 : Int32) + (1 : Int32)), vI c3] []) _
            exact kt)
          clear S559
          have q562 : ((3 : Int32) + (1 : Int32)) = (4 : Int32) := by decide
          have S561 : Go p e below s₁ (eF_cmp4 m a (0 : Int32) b (0 : Int32) (4 : Int32)) T558 (mkF m 3 #[vR a, vI (4 : Int32), vR b, vI (4 : Int32), vI (4 : Int32), vI (4 : Int32), vI c3] []) := by have h := S560; rw [q562] at h; exact h
          clear S560
          have S563 : Go p e below s₁ (eF_cmp4 m a (0 : Int32) b (0 : Int32) (4 : Int32)) T558 (mkF m 46 #[vR a, vI (4 : Int32), vR b, vI (4 : Int32), vI (4 : Int32), vI (4 : Int32), vI c3] [(.int (4 : Int32))]) := fun t kt => S561 t (by
            refine XS.iload X558.here hx rfl (hb hby d5_3) rfl ?_
            show Sp p e below T558 (mkF m 5 #[vR a, vI (4 : Int32), vR b, vI (4 : Int32), vI (4 : Int32), vI (4 : Int32), vI c3] [(.int (4 : Int32))]) _
            refine XS.iload X558.here hx rfl (hb hby d5_5) rfl ?_
            show Sp p e below T558 (mkF m 7 #[vR a, vI (4 : Int32), vR b, vI (4 : Int32), vI (4 : Int32), vI (4 : Int32), vI c3] [(.int (4 : Int32)), (.int (4 : Int32))]) _
            refine XS.icmpYes X558.here hx rfl (pc0 := 7) (pc' := 44) rfl (hb hby d5_7) rfl (flt (show ¬ ((4 : Int32) < (4 : Int32)) from (by decide))).2.1 (by decide) (by decide) ?_
            show Sp p e below T558 (mkF m 44 #[vR a, vI (4 : Int32), vR b, vI (4 : Int32), vI (4 : Int32), vI (4 : Int32), vI c3] []) _
            refine XS.iload X558.here hx rfl (hb hby d5_44) rfl ?_
            show Sp p e below T558 (mkF m 46 #[vR a, vI (4 : Int32), vR b, vI (4 : Int32), vI (4 : Int32), vI (4 : Int32), vI c3] [(.int (4 : Int32))]) _
            exact kt)
          clear S561
          obtain ⟨fs, hr, hrun, hended, hW, hsame⟩ := X558.leave (v := some (.int (4 : Int32))) (fun h => by first | rfl | (rw [Bd.returns] at h; cases h))
          refine ⟨_, _, S563 _ ?_, hrun, hended, _, _, rfl, ?_, ⟨_, rfl⟩, hW, hsame.mono (by decide) (by decide)⟩
          · exact retI X558 hx Bd.returns (hb hby d5_46) hr
          · show Q_cmp4 Z b kb c0 c1 c2 c3 h0 n0 _ T558.heap _
            rw [e558]
            exact ⟨_, rfl, N558, K558, Or.inl ⟨rfl, ⟨hq0, hq1, hq2, hq3, trivial⟩, V558⟩⟩
abbrev eF_com4 (m : MethodId) (x0 : Addr) (x1 : Int32) (x2 : Int32) : JFrame := entryFrame m #[(.ref x0), (.int x1), (.int x2)] 6
theorem ef_com4 (m : MethodId) (x0 : Addr) (x1 : Int32) (x2 : Int32) : entryFrame m #[(.ref x0), (.int x1), (.int x2)] 6 = mkF m 0 #[.val (.ref x0), .val (.int x1), .val (.int x2), .unset, .unset, .unset] [] := by first | (simp [entryFrame, mkF, argsToLocals, Value.category]; done) | rfl
theorem pn_com4 : plainName "java/lang/StringUTF16" = true := by first | (simp [plainName, overriddenIn]; done) | decide +kernel
def Q_com4 (Z : State) (c0 : Int32) (c1 : Int32) (c2 : Int32) (c3 : Int32) (h0 : Heap) (n0 : Nat) (v : Option Value) (h : Heap) (L : List Loc) : Prop := ∃ t kb n vs cd, v = some (.ref t) ∧ Fr n0 L ∧ Keep h0 h [] ∧ h0.size ≤ t ∧ Arv Z h t kb .byte n vs (.int (0 : Int32)) ∧ StrChars.Road.CodA [c0, c1, c2, c3] cd n vs ∧ ((cd = 0 ∧ n = (4 : Int32)) ∨ (cd = 1 ∧ n = (8 : Int32)))
set_option maxRecDepth 65536 in
set_option maxHeartbeats 40000000 in
theorem rm_com4 (l : Launch) (Z : State) (a0 : Array Value) (hw : ∀ d ∈ tables_1, d.before a0 Z = true) (ws : List Jvm.Cond) (a : Addr) (ka : ClassId) (c0 : Int32) (c1 : Int32) (c2 : Int32) (c3 : Int32) (h0 : Heap) (n0 : Nat) (Z0 : n0 ≤ h0.size) (SS : own_St Z) (O0 : Old Z n0 h0)(Va : Arv Z h0 a ka .char (4 : Int32) [(.int c0), (.int c1), (.int c2), (.int c3)] (.int (0 : Int32)))(hc0 : own_Ch c0) (hc1 : own_Ch c1) (hc2 : own_Ch c2) (hc3 : own_Ch c3) :
    MetFree l (⟨"java/lang/StringUTF16", "compress", "([CII)[B"⟩ : MethodName) (head1 (Jvm.Cond.code (⟨"java/lang/StringUTF16", "compress", "([CII)[B"⟩ : MethodName) jdk_52_method_16_code 6 (some (.array .byte)) :: ws) ({ frames := 3, cells := 2, slots := 12, locals := 40 } : Room)) (fun aa U => aa = #[(.ref a), (.int (0 : Int32)), (.int (4 : Int32))] ∧ Z.Warmed39 U.vm ∧ U.heap = h0) (fun _ _ _ _ _ => True) (fun _ U o U' => ∃ v L, o = .returned v ∧ Q_com4 Z c0 c1 c2 c3 h0 n0 v U'.heap L ∧ FrameEnd U o U' L ({ frames := 3, cells := 2, slots := 12, locals := 40 } : Room).cells ({ frames := 3, cells := 2, slots := 12, locals := 40 } : Room).slots) := by
  refine MetFree.of_bodySF (plainFor_of_name pn_com4) hisR ?_
  intro p e s m args below meth c s₁ Bd hml0 hP hK
  obtain ⟨rfl, hZ, hh⟩ := hP
  have hx := Bd.exec
  have hby := Bd.bytes
  have hml : c.maxLocals = 6 := hml0
  have hown : s.vm.findClass "java/lang/StringUTF16" = some m.cls := findClass_of_methodNamed Bd.named
  have hnm := (name_of_methodNamed Bd.named Bd.method).1
  have X0 : Stand p l e ({ frames := 3, cells := 2, slots := 12, locals := 40 } : Room) s m #[(.ref a), (.int (0 : Int32)), (.int (4 : Int32))] below meth c s₁ [] 0 0 := Stand.of_body Bd
  have e0 : s₁.heap = h0 := by rw [← hh, Bd.state]; rfl
  have N0 := Fr.nil n0
  have S0 : Go p e below s₁ (eF_com4 m a (0 : Int32) (4 : Int32)) s₁ (mkF m 0 #[vR a, vI (0 : Int32), vI (4 : Int32), vU, vU, vU] []) := fun t k => castTop (ef_com4 m a (0 : Int32) (4 : Int32)) k
  obtain ⟨⟨cz, S_cs, hcz⟩, ⟨fm, S_fm, hfm⟩, S_ad, S_hi, S_lo⟩ := id SS
  have S564 : Go p e below s₁ (eF_com4 m a (0 : Int32) (4 : Int32)) s₁ (mkF m 1 #[vR a, vI (0 : Int32), vI (4 : Int32), vU, vU, vU] [(.int (4 : Int32))]) := fun t kt => S0 t (by
    refine XS.iloadN X0.here hx rfl (hb hby d4_0) rfl ?_
    show Sp p e below s₁ (mkF m 1 #[vR a, vI (0 : Int32), vI (4 : Int32), vU, vU, vU] [(.int (4 : Int32))]) _
    exact kt)
  clear S0
  obtain ⟨T565, h565, k565, X565, e565, E565, A565, st565⟩ := newP X0 hx hZ (own_h hw 20 rfl) e0 (g := (mkF m 1 #[vR a, vI (0 : Int32), vI (4 : Int32), vU, vU, vU] [(.int (4 : Int32))])) rfl (hb hby d4_1) rfl (by decide) (cap := 4) (by decide) (by decide) (by decide) (by decide)
  obtain ⟨b1, g565⟩ : ∃ z, z = h0.size := ⟨_, rfl⟩
  rw [← g565] at A565 st565
  have ne566 : a ≠ b1 := by rw [g565]; exact Nat.ne_of_lt Va.lt
  have g_b1 : n0 ≤ b1 := Nat.le_trans Z0 (Nat.le_of_eq g565.symm)
  have sz_b1 : h0.size ≤ b1 := Nat.le_trans (Keep.refl h0 []).1 (Nat.le_of_eq g565.symm)
  have K565 : Keep h0 h565 [] := (Keep.refl h0 []).ext E565
  have V565 : Arv Z h565 b1 k565 .byte (4 : Int32) [(.int (0 : Int32)), (.int (0 : Int32)), (.int (0 : Int32)), (.int (0 : Int32))] (.int (0 : Int32)) := (Arv.new A565 (by decide)).pad (pad_rep [] _ 4)
  have S567 : Go p e below s₁ (eF_com4 m a (0 : Int32) (4 : Int32)) T565 (mkF m 3 #[vR a, vI (0 : Int32), vI (4 : Int32), vU, vU, vU] [(.ref b1)]) := fun t kt => S564 t (st565 t kt)
  clear S564 st565 X0 e0
  have S568 : Go p e below s₁ (eF_com4 m a (0 : Int32) (4 : Int32)) T565 (mkF m 9 #[vR a, vI (0 : Int32), vI (4 : Int32), vR b1, vU, vU] [(.int (4 : Int32)), (.int (0 : Int32)), (.ref b1), (.int (0 : Int32)), (.ref a)]) := fun t kt => S567 t (by
    refine XS.astoreN X565.here hx rfl (hb hby d4_3) rfl rfl (l' := #[vR a, vI (0 : Int32), vI (4 : Int32), vR b1, vU, vU]) rfl ?_
    show Sp p e below T565 (mkF m 4 #[vR a, vI (0 : Int32), vI (4 : Int32), vR b1, vU, vU] []) _
    refine XS.aloadN X565.here hx rfl (hb hby d4_4) rfl rfl ?_
    show Sp p e below T565 (mkF m 5 #[vR a, vI (0 : Int32), vI (4 : Int32), vR b1, vU, vU] [(.ref a)]) _
    refine XS.iloadN X565.here hx rfl (hb hby d4_5) rfl ?_
    show Sp p e below T565 (mkF m 6 #[vR a, vI (0 : Int32), vI (4 : Int32), vR b1, vU, vU] [(.int (0 : Int32)), (.ref a)]) _
    refine XS.aloadN X565.here hx rfl (hb hby d4_6) rfl rfl ?_
    show Sp p e below T565 (mkF m 7 #[vR a, vI (0 : Int32), vI (4 : Int32), vR b1, vU, vU] [(.ref b1), (.int (0 : Int32)), (.ref a)]) _
    refine XS.iconst X565.here hx rfl (hb hby d4_7) ?_
    show Sp p e below T565 (mkF m 8 #[vR a, vI (0 : Int32), vI (4 : Int32), vR b1, vU, vU] [(.int (0 : Int32)), (.ref b1), (.int (0 : Int32)), (.ref a)]) _
    refine XS.iloadN X565.here hx rfl (hb hby d4_8) rfl ?_
    show Sp p e below T565 (mkF m 9 #[vR a, vI (0 : Int32), vI (4 : Int32), vR b1, vU, vU] [(.int (4 : Int32)), (.int (0 : Int32)), (.ref b1), (.int (0 : Int32)), (.ref a)]) _
    exact kt)
  clear S567
  have f569 := (Va.ext E565)
  obtain ⟨v570, T570, L570, X570, hQ570, st570⟩ := own_outS (Jvm.LawKit.callS X565 hx (y := (⟨"java/lang/StringUTF16", "compress", "([CI[BII)I"⟩ : MethodName)) hown (mvT hZ (own_h hw 21 rfl)) (mvT hZ (own_h hw 22 rfl)) (mvT hZ (own_h hw 18 rfl)) (mvT hZ (own_h hw 23 rfl)) (by decide) (backOf (W := 0) (rm_cmp4 l Z a0 hw [] a b1 ka k565 c0 c1 c2 c3 h565 n0 (Nat.le_trans Z0 E565.1) f569 V565 ne566 g_b1) hZ (own_h hw 23 rfl) (own_h hw 18 rfl) (by decide) (by decide)) (g := (mkF m 9 #[vR a, vI (0 : Int32), vI (4 : Int32), vR b1, vU, vU] [(.int (4 : Int32)), (.int (0 : Int32)), (.ref b1), (.int (0 : Int32)), (.ref a)])) rfl (by rw [hml]; rfl) (argsL := [(.ref a), (.int (0 : Int32)), (.ref b1), (.int (0 : Int32)), (.int (4 : Int32))]) (rest := []) (lenOf pd___CI_BII_I rfl) rfl (by show 2 * 0 + _ ≤ _; exact Nat.le_of_eq rfl) (hb hby d4_9) (fun _ _ => ⟨rfl, e565, (by decide : 1 + 0 ≤ _), (by decide : 4 + 0 ≤ _)⟩))
  obtain ⟨r, rfl, N570q, K570, hor⟩ := hQ570
  have N570 := Fr.app N0 N570q
  have KK570 : Keep h0 T570.heap [] := K565.trans K570 (allS (Or.inr sz_b1) all0)
  have S571 : Go p e below s₁ (eF_com4 m a (0 : Int32) (4 : Int32)) T570 (mkF m 12 #[vR a, vI (0 : Int32), vI (4 : Int32), vR b1, vU, vU] [(.int r)]) := fun t kt => S568 t (st570 t kt)
  clear S568 st570 X565 e565
  rcases hor with ⟨rfl, hall, Vl⟩ | ⟨rfl, hk⟩ | ⟨rfl, hk⟩ | ⟨rfl, hk⟩ | ⟨rfl, hk⟩
  · have S572 : Go p e below s₁ (eF_com4 m a (0 : Int32) (4 : Int32)) T570 (mkF m 58 #[vR a, vI (0 : Int32), vI (4 : Int32), vR b1, vI (4 : Int32), vU] [(.ref b1)]) := fun t kt => S571 t (by
      refine XS.istore X570.here hx rfl (hb hby d4_12) rfl (l' := #[vR a, vI (0 : Int32), vI (4 : Int32), vR b1, vI (4 : Int32), vU]) rfl ?_
      show Sp p e below T570 (mkF m 14 #[vR a, vI (0 : Int32), vI (4 : Int32), vR b1, vI (4 : Int32), vU] []) _
      refine XS.iload X570.here hx rfl (hb hby d4_14) rfl ?_
      show Sp p e below T570 (mkF m 16 #[vR a, vI (0 : Int32), vI (4 : Int32), vR b1, vI (4 : Int32), vU] [(.int (4 : Int32))]) _
      refine XS.iloadN X570.here hx rfl (hb hby d4_16) rfl ?_
      show Sp p e below T570 (mkF m 17 #[vR a, vI (0 : Int32), vI (4 : Int32), vR b1, vI (4 : Int32), vU] [(.int (4 : Int32)), (.int (4 : Int32))]) _
      refine XS.icmpYes X570.here hx rfl (pc0 := 17) (pc' := 57) rfl (hb hby d4_17) rfl (teq (show (4 : Int32) = (4 : Int32) from (by decide))).1 (by decide) (by decide) ?_
      show Sp p e below T570 (mkF m 57 #[vR a, vI (0 : Int32), vI (4 : Int32), vR b1, vI (4 : Int32), vU] []) _
      refine XS.aloadN X570.here hx rfl (hb hby d4_57) rfl rfl ?_
      show Sp p e below T570 (mkF m 58 #[vR a, vI (0 : Int32), vI (4 : Int32), vR b1, vI (4 : Int32), vU] [(.ref b1)]) _
      exact kt)
    clear S571
    obtain ⟨fs, hr, hrun, hended, hW, hsame⟩ := X570.leave (v := some (.ref b1)) (fun h => by first | rfl | (rw [Bd.returns] at h; cases h))
    refine ⟨_, _, S572 _ ?_, hrun, hended, _, _, rfl, ?_, ⟨_, rfl⟩, hW, hsame.mono (by decide) (by decide)⟩
    · exact retOut X570 hx Bd.returns rfl (Or.inr (Or.inr (Or.inr (Or.inr ⟨rfl, rfl, rfl⟩)))) (hb hby d4_58) hr
    · show Q_com4 Z c0 c1 c2 c3 h0 n0 _ T570.heap _
      exact ⟨b1, _, _, _, (0 : Int32), rfl, N570, KK570, sz_b1, Vl, Or.inl ⟨rfl, rfl, rfl, (fun z hz => by simp only [List.mem_cons, List.not_mem_nil, or_false] at hz; rcases hz with rfl | rfl | rfl | rfl <;> first | exact hall.1 | exact hall.2.1 | exact hall.2.2.1 | exact hall.2.2.2.1)⟩, Or.inl ⟨rfl, rfl⟩⟩
  · have S573 : Go p e below s₁ (eF_com4 m a (0 : Int32) (4 : Int32)) T570 (mkF m 23 #[vR a, vI (0 : Int32), vI (4 : Int32), vR b1, vI (0 : Int32), vU] [(.int (4 : Int32)), (.int (0 : Int32)), (.ref a)]) := fun t kt => S571 t (by
      refine XS.istore X570.here hx rfl (hb hby d4_12) rfl (l' := #[vR a, vI (0 : Int32), vI (4 : Int32), vR b1, vI (0 : Int32), vU]) rfl ?_
      show Sp p e below T570 (mkF m 14 #[vR a, vI (0 : Int32), vI (4 : Int32), vR b1, vI (0 : Int32), vU] []) _
      refine XS.iload X570.here hx rfl (hb hby d4_14) rfl ?_
      show Sp p e below T570 (mkF m 16 #[vR a, vI (0 : Int32), vI (4 : Int32), vR b1, vI (0 : Int32), vU] [(.int (0 : Int32))]) _
      refine XS.iloadN X570.here hx rfl (hb hby d4_16) rfl ?_
      show Sp p e below T570 (mkF m 17 #[vR a, vI (0 : Int32), vI (4 : Int32), vR b1, vI (0 : Int32), vU] [(.int (4 : Int32)), (.int (0 : Int32))]) _
      refine XS.icmpNo X570.here hx rfl (hb hby d4_17) rfl (feq (show ¬ ((0 : Int32) = (4 : Int32)) from (by decide))).1 ?_
      show Sp p e below T570 (mkF m 20 #[vR a, vI (0 : Int32), vI (4 : Int32), vR b1, vI (0 : Int32), vU] []) _
      refine XS.aloadN X570.here hx rfl (hb hby d4_20) rfl rfl ?_
      show Sp p e below T570 (mkF m 21 #[vR a, vI (0 : Int32), vI (4 : Int32), vR b1, vI (0 : Int32), vU] [(.ref a)]) _
      refine XS.iloadN X570.here hx rfl (hb hby d4_21) rfl ?_
      show Sp p e below T570 (mkF m 22 #[vR a, vI (0 : Int32), vI (4 : Int32), vR b1, vI (0 : Int32), vU] [(.int (0 : Int32)), (.ref a)]) _
      refine XS.iloadN X570.here hx rfl (hb hby d4_22) rfl ?_
      show Sp p e below T570 (mkF m 23 #[vR a, vI (0 : Int32), vI (4 : Int32), vR b1, vI (0 : Int32), vU] [(.int (4 : Int32)), (.int (0 : Int32)), (.ref a)]) _
      exact kt)
    clear S571
    have f574 := ((O0.ext E565).keep K570 (allS g_b1 all0))
    have f575 := (f569.keep K570 (ninS ne566 nin0))
    obtain ⟨v576, T576, L576, X576, hQ576, st576⟩ := own_outS (Jvm.LawKit.callS X570 hx (y := (⟨"java/lang/StringUTF16", "toBytes", "([CII)[B"⟩ : MethodName)) hown (mvT hZ (own_h hw 88 rfl)) (mvT hZ (own_h hw 89 rfl)) (mvT hZ (own_h hw 18 rfl)) (mvT hZ (own_h hw 90 rfl)) (by decide) (backOf (W := 0) (rm_tob4 l Z a0 hw [] a ka c0 c1 c2 c3 T570.heap n0 (Nat.le_trans (Nat.le_trans Z0 E565.1) K570.1) SS f574 f575) hZ (own_h hw 90 rfl) (own_h hw 18 rfl) (by decide) (by decide)) (g := (mkF m 23 #[vR a, vI (0 : Int32), vI (4 : Int32), vR b1, vI (0 : Int32), vU] [(.int (4 : Int32)), (.int (0 : Int32)), (.ref a)])) rfl (by rw [hml]; rfl) (argsL := [(.ref a), (.int (0 : Int32)), (.int (4 : Int32))]) (rest := []) (lenOf pd___CII__B rfl) rfl (by show 2 * 0 + _ ≤ _; exact Nat.le_of_eq rfl) (hb hby d4_23) (fun _ _ => ⟨rfl, rfl, (by decide : 1 + 1 ≤ _), (by decide : 4 + 8 ≤ _)⟩))
    obtain ⟨t1, kb576, rfl, N576q, K576, sz576, V576⟩ := hQ576
    have N576 := Fr.app N570 N576q
    have KK576 : Keep h0 T576.heap [] := KK570.trans K576 all0
    have sz_t1 : h0.size ≤ t1 := Nat.le_trans KK570.1 sz576
    have g_t1 : n0 ≤ t1 := Nat.le_trans (Nat.le_trans (Nat.le_trans Z0 E565.1) K570.1) sz576
    have S577 : Go p e below s₁ (eF_com4 m a (0 : Int32) (4 : Int32)) T576 (mkF m 26 #[vR a, vI (0 : Int32), vI (4 : Int32), vR b1, vI (0 : Int32), vU] [(.ref t1)]) := fun t kt => S573 t (st576 t kt)
    clear S573 st576 X570
    have S578 : Go p e below s₁ (eF_com4 m a (0 : Int32) (4 : Int32)) T576 (mkF m 32 #[vR a, vI (0 : Int32), vI (4 : Int32), vR b1, vI (0 : Int32), vR t1] [(.int (0 : Int32)), (.ref t1)]) := fun t kt => S577 t (by
      refine XS.astore X576.here hx rfl (hb hby d4_26) rfl rfl (l' := #[vR a, vI (0 : Int32), vI (4 : Int32), vR b1, vI (0 : Int32), vR t1]) rfl ?_
      show Sp p e below T576 (mkF m 28 #[vR a, vI (0 : Int32), vI (4 : Int32), vR b1, vI (0 : Int32), vR t1] []) _
      refine XS.aload X576.here hx rfl (hb hby d4_28) rfl rfl ?_
      show Sp p e below T576 (mkF m 30 #[vR a, vI (0 : Int32), vI (4 : Int32), vR b1, vI (0 : Int32), vR t1] [(.ref t1)]) _
      refine XS.iload X576.here hx rfl (hb hby d4_30) rfl ?_
      show Sp p e below T576 (mkF m 32 #[vR a, vI (0 : Int32), vI (4 : Int32), vR b1, vI (0 : Int32), vR t1] [(.int (0 : Int32)), (.ref t1)]) _
      exact kt)
    clear S577
    have f579 := (f574.keep K576 all0)
    obtain ⟨v580, T580, L580, X580, hQ580, st580⟩ := own_outS (Jvm.LawKit.callS X576 hx (y := (⟨"java/lang/StringUTF16", "getChar", "([BI)C"⟩ : MethodName)) hown (mvT hZ (own_h hw 104 rfl)) (mvT hZ (own_h hw 105 rfl)) (mvT hZ (own_h hw 18 rfl)) (mvT hZ (own_h hw 106 rfl)) (by decide) (backOf (W := 0) (rm_gch l Z a0 hw [] t1 (0 : Int32) kb576 (8 : Int32) [(.int (StrChars.lo8 c0)), (.int (StrChars.hi8 c0)), (.int (StrChars.lo8 c1)), (.int (StrChars.hi8 c1)), (.int (StrChars.lo8 c2)), (.int (StrChars.hi8 c2)), (.int (StrChars.lo8 c3)), (.int (StrChars.hi8 c3))] c0 T576.heap n0 (Nat.le_trans (Nat.le_trans (Nat.le_trans Z0 E565.1) K570.1) K576.1) SS f579 V576 (by decide) (by decide) (by rw [show ((0 : Int32) <<< ((1 : Int32) &&& 31)).toNatClampNeg = 0 from by decide]; rfl) (by rw [show (((0 : Int32) <<< ((1 : Int32) &&& 31)) + (1 : Int32)).toNatClampNeg = 1 from by decide]; rfl) hc0) hZ (own_h hw 106 rfl) (own_h hw 18 rfl) (by decide) (by decide)) (g := (mkF m 32 #[vR a, vI (0 : Int32), vI (4 : Int32), vR b1, vI (0 : Int32), vR t1] [(.int (0 : Int32)), (.ref t1)])) rfl (by rw [hml]; rfl) (argsL := [(.ref t1), (.int (0 : Int32))]) (rest := []) (lenOf pd___BI_C rfl) rfl (by show 2 * 0 + _ ≤ _; exact Nat.le_of_eq rfl) (hb hby d4_32) (fun _ _ => ⟨rfl, rfl, (by decide : 2 + 0 ≤ _), (by decide : 12 + 0 ≤ _)⟩))
    obtain ⟨rfl, N580q, e580⟩ := hQ580
    have N580 := Fr.app N576 N580q
    have S581 : Go p e below s₁ (eF_com4 m a (0 : Int32) (4 : Int32)) T580 (mkF m 35 #[vR a, vI (0 : Int32), vI (4 : Int32), vR b1, vI (0 : Int32), vR t1] [(.int c0)]) := fun t kt => S578 t (st580 t kt)
    clear S578 st580 X576
    have S582 : Go p e below s₁ (eF_com4 m a (0 : Int32) (4 : Int32)) T580 (mkF m 38 #[vR a, vI (0 : Int32), vI (4 : Int32), vR b1, vI (0 : Int32), vR t1] [(.int (255 : Int32)), (.int c0)]) := fun t kt => S581 t (by
      refine XS.sipush X580.here hx rfl (hb hby d4_35) ?_
      show Sp p e below T580 (mkF m 38 #[vR a, vI (0 : Int32), vI (4 : Int32), vR b1, vI (0 : Int32), vR t1] [(.int (255 : Int32)), (.int c0)]) _
      exact kt)
    clear S581
    have S583 : Go p e below s₁ (eF_com4 m a (0 : Int32) (4 : Int32)) T580 (mkF m 56 #[vR a, vI (0 : Int32), vI (4 : Int32), vR b1, vI (0 : Int32), vR t1] [(.ref t1)]) := fun t kt => S582 t (by
      refine XS.icmpYes X580.here hx rfl (pc0 := 38) (pc' := 54) rfl (hb hby d4_38) rfl (tlt (show (255 : Int32) < c0 from hk)).2.2.1 (by decide) (by decide) ?_
      show Sp p e below T580 (mkF m 54 #[vR a, vI (0 : Int32), vI (4 : Int32), vR b1, vI (0 : Int32), vR t1] []) _
      refine XS.aload X580.here hx rfl (hb hby d4_54) rfl rfl ?_
      show Sp p e below T580 (mkF m 56 #[vR a, vI (0 : Int32), vI (4 : Int32), vR b1, vI (0 : Int32), vR t1] [(.ref t1)]) _
      exact kt)
    clear S582
    obtain ⟨fs, hr, hrun, hended, hW, hsame⟩ := X580.leave (v := some (.ref t1)) (fun h => by first | rfl | (rw [Bd.returns] at h; cases h))
    refine ⟨_, _, S583 _ ?_, hrun, hended, _, _, rfl, ?_, ⟨_, rfl⟩, hW, hsame.mono (by decide) (by decide)⟩
    · exact retOut X580 hx Bd.returns rfl (Or.inr (Or.inr (Or.inr (Or.inr ⟨rfl, rfl, rfl⟩)))) (hb hby d4_56) hr
    · show Q_com4 Z c0 c1 c2 c3 h0 n0 _ T580.heap _
      rw [e580]
      exact ⟨t1, _, _, _, (1 : Int32), rfl, N580, KK576, sz_t1, V576, Or.inr ⟨rfl, rfl, rfl, ⟨c0, by simp, hk⟩⟩, Or.inr ⟨rfl, rfl⟩⟩
  · have S584 : Go p e below s₁ (eF_com4 m a (0 : Int32) (4 : Int32)) T570 (mkF m 23 #[vR a, vI (0 : Int32), vI (4 : Int32), vR b1, vI (1 : Int32), vU] [(.int (4 : Int32)), (.int (0 : Int32)), (.ref a)]) := fun t kt => S571 t (by
      refine XS.istore X570.here hx rfl (hb hby d4_12) rfl (l' := #[vR a, vI (0 : Int32), vI (4 : Int32), vR b1, vI (1 : Int32), vU]) rfl ?_
      show Sp p e below T570 (mkF m 14 #[vR a, vI (0 : Int32), vI (4 : Int32), vR b1, vI (1 : Int32), vU] []) _
      refine XS.iload X570.here hx rfl (hb hby d4_14) rfl ?_
      show Sp p e below T570 (mkF m 16 #[vR a, vI (0 : Int32), vI (4 : Int32), vR b1, vI (1 : Int32), vU] [(.int (1 : Int32))]) _
      refine XS.iloadN X570.here hx rfl (hb hby d4_16) rfl ?_
      show Sp p e below T570 (mkF m 17 #[vR a, vI (0 : Int32), vI (4 : Int32), vR b1, vI (1 : Int32), vU] [(.int (4 : Int32)), (.int (1 : Int32))]) _
      refine XS.icmpNo X570.here hx rfl (hb hby d4_17) rfl (feq (show ¬ ((1 : Int32) = (4 : Int32)) from (by decide))).1 ?_
      show Sp p e below T570 (mkF m 20 #[vR a, vI (0 : Int32), vI (4 : Int32), vR b1, vI (1 : Int32), vU] []) _
      refine XS.aloadN X570.here hx rfl (hb hby d4_20) rfl rfl ?_
      show Sp p e below T570 (mkF m 21 #[vR a, vI (0 : Int32), vI (4 : Int32), vR b1, vI (1 : Int32), vU] [(.ref a)]) _
      refine XS.iloadN X570.here hx rfl (hb hby d4_21) rfl ?_
      show Sp p e below T570 (mkF m 22 #[vR a, vI (0 : Int32), vI (4 : Int32), vR b1, vI (1 : Int32), vU] [(.int (0 : Int32)), (.ref a)]) _
      refine XS.iloadN X570.here hx rfl (hb hby d4_22) rfl ?_
      show Sp p e below T570 (mkF m 23 #[vR a, vI (0 : Int32), vI (4 : Int32), vR b1, vI (1 : Int32), vU] [(.int (4 : Int32)), (.int (0 : Int32)), (.ref a)]) _
      exact kt)
    clear S571
    have f585 := ((O0.ext E565).keep K570 (allS g_b1 all0))
    have f586 := (f569.keep K570 (ninS ne566 nin0))
    obtain ⟨v587, T587, L587, X587, hQ587, st587⟩ := own_outS (Jvm.LawKit.callS X570 hx (y := (⟨"java/lang/StringUTF16", "toBytes", "([CII)[B"⟩ : MethodName)) hown (mvT hZ (own_h hw 88 rfl)) (mvT hZ (own_h hw 89 rfl)) (mvT hZ (own_h hw 18 rfl)) (mvT hZ (own_h hw 90 rfl)) (by decide) (backOf (W := 0) (rm_tob4 l Z a0 hw [] a ka c0 c1 c2 c3 T570.heap n0 (Nat.le_trans (Nat.le_trans Z0 E565.1) K570.1) SS f585 f586) hZ (own_h hw 90 rfl) (own_h hw 18 rfl) (by decide) (by decide)) (g := (mkF m 23 #[vR a, vI (0 : Int32), vI (4 : Int32), vR b1, vI (1 : Int32), vU] [(.int (4 : Int32)), (.int (0 : Int32)), (.ref a)])) rfl (by rw [hml]; rfl) (argsL := [(.ref a), (.int (0 : Int32)), (.int (4 : Int32))]) (rest := []) (lenOf pd___CII__B rfl) rfl (by show 2 * 0 + _ ≤ _; exact Nat.le_of_eq rfl) (hb hby d4_23) (fun _ _ => ⟨rfl, rfl, (by decide : 1 + 1 ≤ _), (by decide : 4 + 8 ≤ _)⟩))
    obtain ⟨t1, kb587, rfl, N587q, K587, sz587, V587⟩ := hQ587
    have N587 := Fr.app N570 N587q
    have KK587 : Keep h0 T587.heap [] := KK570.trans K587 all0
    have sz_t1 : h0.size ≤ t1 := Nat.le_trans KK570.1 sz587
    have g_t1 : n0 ≤ t1 := Nat.le_trans (Nat.le_trans (Nat.le_trans Z0 E565.1) K570.1) sz587
    have S588 : Go p e below s₁ (eF_com4 m a (0 : Int32) (4 : Int32)) T587 (mkF m 26 #[vR a, vI (0 : Int32), vI (4 : Int32), vR b1, vI (1 : Int32), vU] [(.ref t1)]) := fun t kt => S584 t (st587 t kt)
    clear S584 st587 X570
    have S589 : Go p e below s₁ (eF_com4 m a (0 : Int32) (4 : Int32)) T587 (mkF m 32 #[vR a, vI (0 : Int32), vI (4 : Int32), vR b1, vI (1 : Int32), vR t1] [(.int (1 : Int32)), (.ref t1)]) := fun t kt => S588 t (by
      refine XS.astore X587.here hx rfl (hb hby d4_26) rfl rfl (l' := #[vR a, vI (0 : Int32), vI (4 : Int32), vR b1, vI (1 : Int32), vR t1]) rfl ?_
      show Sp p e below T587 (mkF m 28 #[vR a, vI (0 : Int32), vI (4 : Int32), vR b1, vI (1 : Int32), vR t1] []) _
      refine XS.aload X587.here hx rfl (hb hby d4_28) rfl rfl ?_
      show Sp p e below T587 (mkF m 30 #[vR a, vI (0 : Int32), vI (4 : Int32), vR b1, vI (1 : Int32), vR t1] [(.ref t1)]) _
      refine XS.iload X587.here hx rfl (hb hby d4_30) rfl ?_
      show Sp p e below T587 (mkF m 32 #[vR a, vI (0 : Int32), vI (4 : Int32), vR b1, vI (1 : Int32), vR t1] [(.int (1 : Int32)), (.ref t1)]) _
      exact kt)
    clear S588
    have f590 := (f585.keep K587 all0)
    obtain ⟨v591, T591, L591, X591, hQ591, st591⟩ := own_outS (Jvm.LawKit.callS X587 hx (y := (⟨"java/lang/StringUTF16", "getChar", "([BI)C"⟩ : MethodName)) hown (mvT hZ (own_h hw 104 rfl)) (mvT hZ (own_h hw 105 rfl)) (mvT hZ (own_h hw 18 rfl)) (mvT hZ (own_h hw 106 rfl)) (by decide) (backOf (W := 0) (rm_gch l Z a0 hw [] t1 (1 : Int32) kb587 (8 : Int32) [(.int (StrChars.lo8 c0)), (.int (StrChars.hi8 c0)), (.int (StrChars.lo8 c1)), (.int (StrChars.hi8 c1)), (.int (StrChars.lo8 c2)), (.int (StrChars.hi8 c2)), (.int (StrChars.lo8 c3)), (.int (StrChars.hi8 c3))] c1 T587.heap n0 (Nat.le_trans (Nat.le_trans (Nat.le_trans Z0 E565.1) K570.1) K587.1) SS f590 V587 (by decide) (by decide) (by rw [show ((1 : Int32) <<< ((1 : Int32) &&& 31)).toNatClampNeg = 2 from by decide]; rfl) (by rw [show (((1 : Int32) <<< ((1 : Int32) &&& 31)) + (1 : Int32)).toNatClampNeg = 3 from by decide]; rfl) hc1) hZ (own_h hw 106 rfl) (own_h hw 18 rfl) (by decide) (by decide)) (g := (mkF m 32 #[vR a, vI (0 : Int32), vI (4 : Int32), vR b1, vI (1 : Int32), vR t1] [(.int (1 : Int32)), (.ref t1)])) rfl (by rw [hml]; rfl) (argsL := [(.ref t1), (.int (1 : Int32))]) (rest := []) (lenOf pd___BI_C rfl) rfl (by show 2 * 0 + _ ≤ _; exact Nat.le_of_eq rfl) (hb hby d4_32) (fun _ _ => ⟨rfl, rfl, (by decide : 2 + 0 ≤ _), (by decide : 12 + 0 ≤ _)⟩))
    obtain ⟨rfl, N591q, e591⟩ := hQ591
    have N591 := Fr.app N587 N591q
    have S592 : Go p e below s₁ (eF_com4 m a (0 : Int32) (4 : Int32)) T591 (mkF m 35 #[vR a, vI (0 : Int32), vI (4 : Int32), vR b1, vI (1 : Int32), vR t1] [(.int c1)]) := fun t kt => S589 t (st591 t kt)
    clear S589 st591 X587
    have S593 : Go p e below s₁ (eF_com4 m a (0 : Int32) (4 : Int32)) T591 (mkF m 38 #[vR a, vI (0 : Int32), vI (4 : Int32), vR b1, vI (1 : Int32), vR t1] [(.int (255 : Int32)), (.int c1)]) := fun t kt => S592 t (by
      refine XS.sipush X591.here hx rfl (hb hby d4_35) ?_
      show Sp p e below T591 (mkF m 38 #[vR a, vI (0 : Int32), vI (4 : Int32), vR b1, vI (1 : Int32), vR t1] [(.int (255 : Int32)), (.int c1)]) _
      exact kt)
    clear S592
    have S594 : Go p e below s₁ (eF_com4 m a (0 : Int32) (4 : Int32)) T591 (mkF m 56 #[vR a, vI (0 : Int32), vI (4 : Int32), vR b1, vI (1 : Int32), vR t1] [(.ref t1)]) := fun t kt => S593 t (by
      refine XS.icmpYes X591.here hx rfl (pc0 := 38) (pc' := 54) rfl (hb hby d4_38) rfl (tlt (show (255 : Int32) < c1 from hk)).2.2.1 (by decide) (by decide) ?_
      show Sp p e below T591 (mkF m 54 #[vR a, vI (0 : Int32), vI (4 : Int32), vR b1, vI (1 : Int32), vR t1] []) _
      refine XS.aload X591.here hx rfl (hb hby d4_54) rfl rfl ?_
      show Sp p e below T591 (mkF m 56 #[vR a, vI (0 : Int32), vI (4 : Int32), vR b1, vI (1 : Int32), vR t1] [(.ref t1)]) _
      exact kt)
    clear S593
    obtain ⟨fs, hr, hrun, hended, hW, hsame⟩ := X591.leave (v := some (.ref t1)) (fun h => by first | rfl | (rw [Bd.returns] at h; cases h))
    refine ⟨_, _, S594 _ ?_, hrun, hended, _, _, rfl, ?_, ⟨_, rfl⟩, hW, hsame.mono (by decide) (by decide)⟩
    · exact retOut X591 hx Bd.returns rfl (Or.inr (Or.inr (Or.inr (Or.inr ⟨rfl, rfl, rfl⟩)))) (hb hby d4_56) hr
    · show Q_com4 Z c0 c1 c2 c3 h0 n0 _ T591.heap _
      rw [e591]
      exact ⟨t1, _, _, _, (1 : Int32), rfl, N591, KK587, sz_t1, V587, Or.inr ⟨rfl, rfl, rfl, ⟨c1, by simp, hk⟩⟩, Or.inr ⟨rfl, rfl⟩⟩
  · have S595 : Go p e below s₁ (eF_com4 m a (0 : Int32) (4 : Int32)) T570 (mkF m 23 #[vR a, vI (0 : Int32), vI (4 : Int32), vR b1, vI (2 : Int32), vU] [(.int (4 : Int32)), (.int (0 : Int32)), (.ref a)]) := fun t kt => S571 t (by
      refine XS.istore X570.here hx rfl (hb hby d4_12) rfl (l' := #[vR a, vI (0 : Int32), vI (4 : Int32), vR b1, vI (2 : Int32), vU]) rfl ?_
      show Sp p e below T570 (mkF m 14 #[vR a, vI (0 : Int32), vI (4 : Int32), vR b1, vI (2 : Int32), vU] []) _
      refine XS.iload X570.here hx rfl (hb hby d4_14) rfl ?_
      show Sp p e below T570 (mkF m 16 #[vR a, vI (0 : Int32), vI (4 : Int32), vR b1, vI (2 : Int32), vU] [(.int (2 : Int32))]) _
      refine XS.iloadN X570.here hx rfl (hb hby d4_16) rfl ?_
      show Sp p e below T570 (mkF m 17 #[vR a, vI (0 : Int32), vI (4 : Int32), vR b1, vI (2 : Int32), vU] [(.int (4 : Int32)), (.int (2 : Int32))]) _
      refine XS.icmpNo X570.here hx rfl (hb hby d4_17) rfl (feq (show ¬ ((2 : Int32) = (4 : Int32)) from (by decide))).1 ?_
      show Sp p e below T570 (mkF m 20 #[vR a, vI (0 : Int32), vI (4 : Int32), vR b1, vI (2 : Int32), vU] []) _
      refine XS.aloadN X570.here hx rfl (hb hby d4_20) rfl rfl ?_
      show Sp p e below T570 (mkF m 21 #[vR a, vI (0 : Int32), vI (4 : Int32), vR b1, vI (2 : Int32), vU] [(.ref a)]) _
      refine XS.iloadN X570.here hx rfl (hb hby d4_21) rfl ?_
      show Sp p e below T570 (mkF m 22 #[vR a, vI (0 : Int32), vI (4 : Int32), vR b1, vI (2 : Int32), vU] [(.int (0 : Int32)), (.ref a)]) _
      refine XS.iloadN X570.here hx rfl (hb hby d4_22) rfl ?_
      show Sp p e below T570 (mkF m 23 #[vR a, vI (0 : Int32), vI (4 : Int32), vR b1, vI (2 : Int32), vU] [(.int (4 : Int32)), (.int (0 : Int32)), (.ref a)]) _
      exact kt)
    clear S571
    have f596 := ((O0.ext E565).keep K570 (allS g_b1 all0))
    have f597 := (f569.keep K570 (ninS ne566 nin0))
    obtain ⟨v598, T598, L598, X598, hQ598, st598⟩ := own_outS (Jvm.LawKit.callS X570 hx (y := (⟨"java/lang/StringUTF16", "toBytes", "([CII)[B"⟩ : MethodName)) hown (mvT hZ (own_h hw 88 rfl)) (mvT hZ (own_h hw 89 rfl)) (mvT hZ (own_h hw 18 rfl)) (mvT hZ (own_h hw 90 rfl)) (by decide) (backOf (W := 0) (rm_tob4 l Z a0 hw [] a ka c0 c1 c2 c3 T570.heap n0 (Nat.le_trans (Nat.le_trans Z0 E565.1) K570.1) SS f596 f597) hZ (own_h hw 90 rfl) (own_h hw 18 rfl) (by decide) (by decide)) (g := (mkF m 23 #[vR a, vI (0 : Int32), vI (4 : Int32), vR b1, vI (2 : Int32), vU] [(.int (4 : Int32)), (.int (0 : Int32)), (.ref a)])) rfl (by rw [hml]; rfl) (argsL := [(.ref a), (.int (0 : Int32)), (.int (4 : Int32))]) (rest := []) (lenOf pd___CII__B rfl) rfl (by show 2 * 0 + _ ≤ _; exact Nat.le_of_eq rfl) (hb hby d4_23) (fun _ _ => ⟨rfl, rfl, (by decide : 1 + 1 ≤ _), (by decide : 4 + 8 ≤ _)⟩))
    obtain ⟨t1, kb598, rfl, N598q, K598, sz598, V598⟩ := hQ598
    have N598 := Fr.app N570 N598q
    have KK598 : Keep h0 T598.heap [] := KK570.trans K598 all0
    have sz_t1 : h0.size ≤ t1 := Nat.le_trans KK570.1 sz598
    have g_t1 : n0 ≤ t1 := Nat.le_trans (Nat.le_trans (Nat.le_trans Z0 E565.1) K570.1) sz598
    have S599 : Go p e below s₁ (eF_com4 m a (0 : Int32) (4 : Int32)) T598 (mkF m 26 #[vR a, vI (0 : Int32), vI (4 : Int32), vR b1, vI (2 : Int32), vU] [(.ref t1)]) := fun t kt => S595 t (st598 t kt)
    clear S595 st598 X570
    have S600 : Go p e below s₁ (eF_com4 m a (0 : Int32) (4 : Int32)) T598 (mkF m 32 #[vR a, vI (0 : Int32), vI (4 : Int32), vR b1, vI (2 : Int32), vR t1] [(.int (2 : Int32)), (.ref t1)]) := fun t kt => S599 t (by
      refine XS.astore X598.here hx rfl (hb hby d4_26) rfl rfl (l' := #[vR a, vI (0 : Int32), vI (4 : Int32), vR b1, vI (2 : Int32), vR t1]) rfl ?_
      show Sp p e below T598 (mkF m 28 #[vR a, vI (0 : Int32), vI (4 : Int32), vR b1, vI (2 : Int32), vR t1] []) _
      refine XS.aload X598.here hx rfl (hb hby d4_28) rfl rfl ?_
      show Sp p e below T598 (mkF m 30 #[vR a, vI (0 : Int32), vI (4 : Int32), vR b1, vI (2 : Int32), vR t1] [(.ref t1)]) _
      refine XS.iload X598.here hx rfl (hb hby d4_30) rfl ?_
      show Sp p e below T598 (mkF m 32 #[vR a, vI (0 : Int32), vI (4 : Int32), vR b1, vI (2 : Int32), vR t1] [(.int (2 : Int32)), (.ref t1)]) _
      exact kt)
    clear S599
    have f601 := (f596.keep K598 all0)
    obtain ⟨v602, T602, L602, X602, hQ602, st602⟩ := own_outS (Jvm.LawKit.callS X598 hx (y := (⟨"java/lang/StringUTF16", "getChar", "([BI)C"⟩ : MethodName)) hown (mvT hZ (own_h hw 104 rfl)) (mvT hZ (own_h hw 105 rfl)) (mvT hZ (own_h hw 18 rfl)) (mvT hZ (own_h hw 106 rfl)) (by decide) (backOf (W := 0) (rm_gch l Z a0 hw [] t1 (2 : Int32) kb598 (8 : Int32) [(.int (StrChars.lo8 c0)), (.int (StrChars.hi8 c0)), (.int (StrChars.lo8 c1)), (.int (StrChars.hi8 c1)), (.int (StrChars.lo8 c2)), (.int (StrChars.hi8 c2)), (.int (StrChars.lo8 c3)), (.int (StrChars.hi8 c3))] c2 T598.heap n0 (Nat.le_trans (Nat.le_trans (Nat.le_trans Z0 E565.1) K570.1) K598.1) SS f601 V598 (by decide) (by decide) (by rw [show ((2 : Int32) <<< ((1 : Int32) &&& 31)).toNatClampNeg = 4 from by decide]; rfl) (by rw [show (((2 : Int32) <<< ((1 : Int32) &&& 31)) + (1 : Int32)).toNatClampNeg = 5 from by decide]; rfl) hc2) hZ (own_h hw 106 rfl) (own_h hw 18 rfl) (by decide) (by decide)) (g := (mkF m 32 #[vR a, vI (0 : Int32), vI (4 : Int32), vR b1, vI (2 : Int32), vR t1] [(.int (2 : Int32)), (.ref t1)])) rfl (by rw [hml]; rfl) (argsL := [(.ref t1), (.int (2 : Int32))]) (rest := []) (lenOf pd___BI_C rfl) rfl (by show 2 * 0 + _ ≤ _; exact Nat.le_of_eq rfl) (hb hby d4_32) (fun _ _ => ⟨rfl, rfl, (by decide : 2 + 0 ≤ _), (by decide : 12 + 0 ≤ _)⟩))
    obtain ⟨rfl, N602q, e602⟩ := hQ602
    have N602 := Fr.app N598 N602q
    have S603 : Go p e below s₁ (eF_com4 m a (0 : Int32) (4 : Int32)) T602 (mkF m 35 #[vR a, vI (0 : Int32), vI (4 : Int32), vR b1, vI (2 : Int32), vR t1] [(.int c2)]) := fun t kt => S600 t (st602 t kt)
    clear S600 st602 X598
    have S604 : Go p e below s₁ (eF_com4 m a (0 : Int32) (4 : Int32)) T602 (mkF m 38 #[vR a, vI (0 : Int32), vI (4 : Int32), vR b1, vI (2 : Int32), vR t1] [(.int (255 : Int32)), (.int c2)]) := fun t kt => S603 t (by
      refine XS.sipush X602.here hx rfl (hb hby d4_35) ?_
      show Sp p e below T602 (mkF m 38 #[vR a, vI (0 : Int32), vI (4 : Int32), vR b1, vI (2 : Int32), vR t1] [(.int (255 : Int32)), (.int c2)]) _
      exact kt)
    clear S603
    have S605 : Go p e below s₁ (eF_com4 m a (0 : Int32) (4 : Int32)) T602 (mkF m 56 #[vR a, vI (0 : Int32), vI (4 : Int32), vR b1, vI (2 : Int32), vR t1] [(.ref t1)]) := fun t kt => S604 t (by
      refine XS.icmpYes X602.here hx rfl (pc0 := 38) (pc' := 54) rfl (hb hby d4_38) rfl (tlt (show (255 : Int32) < c2 from hk)).2.2.1 (by decide) (by decide) ?_
      show Sp p e below T602 (mkF m 54 #[vR a, vI (0 : Int32), vI (4 : Int32), vR b1, vI (2 : Int32), vR t1] []) _
      refine XS.aload X602.here hx rfl (hb hby d4_54) rfl rfl ?_
      show Sp p e below T602 (mkF m 56 #[vR a, vI (0 : Int32), vI (4 : Int32), vR b1, vI (2 : Int32), vR t1] [(.ref t1)]) _
      exact kt)
    clear S604
    obtain ⟨fs, hr, hrun, hended, hW, hsame⟩ := X602.leave (v := some (.ref t1)) (fun h => by first | rfl | (rw [Bd.returns] at h; cases h))
    refine ⟨_, _, S605 _ ?_, hrun, hended, _, _, rfl, ?_, ⟨_, rfl⟩, hW, hsame.mono (by decide) (by decide)⟩
    · exact retOut X602 hx Bd.returns rfl (Or.inr (Or.inr (Or.inr (Or.inr ⟨rfl, rfl, rfl⟩)))) (hb hby d4_56) hr
    · show Q_com4 Z c0 c1 c2 c3 h0 n0 _ T602.heap _
      rw [e602]
      exact ⟨t1, _, _, _, (1 : Int32), rfl, N602, KK598, sz_t1, V598, Or.inr ⟨rfl, rfl, rfl, ⟨c2, by simp, hk⟩⟩, Or.inr ⟨rfl, rfl⟩⟩
  · have S606 : Go p e below s₁ (eF_com4 m a (0 : Int32) (4 : Int32)) T570 (mkF m 23 #[vR a, vI (0 : Int32), vI (4 : Int32), vR b1, vI (3 : Int32), vU] [(.int (4 : Int32)), (.int (0 : Int32)), (.ref a)]) := fun t kt => S571 t (by
      refine XS.istore X570.here hx rfl (hb hby d4_12) rfl (l' := #[vR a, vI (0 : Int32), vI (4 : Int32), vR b1, vI (3 : Int32), vU]) rfl ?_
      show Sp p e below T570 (mkF m 14 #[vR a, vI (0 : Int32), vI (4 : Int32), vR b1, vI (3 : Int32), vU] []) _
      refine XS.iload X570.here hx rfl (hb hby d4_14) rfl ?_
      show Sp p e below T570 (mkF m 16 #[vR a, vI (0 : Int32), vI (4 : Int32), vR b1, vI (3 : Int32), vU] [(.int (3 : Int32))]) _
      refine XS.iloadN X570.here hx rfl (hb hby d4_16) rfl ?_
      show Sp p e below T570 (mkF m 17 #[vR a, vI (0 : Int32), vI (4 : Int32), vR b1, vI (3 : Int32), vU] [(.int (4 : Int32)), (.int (3 : Int32))]) _
      refine XS.icmpNo X570.here hx rfl (hb hby d4_17) rfl (feq (show ¬ ((3 : Int32) = (4 : Int32)) from (by decide))).1 ?_
      show Sp p e below T570 (mkF m 20 #[vR a, vI (0 : Int32), vI (4 : Int32), vR b1, vI (3 : Int32), vU] []) _
      refine XS.aloadN X570.here hx rfl (hb hby d4_20) rfl rfl ?_
      show Sp p e below T570 (mkF m 21 #[vR a, vI (0 : Int32), vI (4 : Int32), vR b1, vI (3 : Int32), vU] [(.ref a)]) _
      refine XS.iloadN X570.here hx rfl (hb hby d4_21) rfl ?_
      show Sp p e below T570 (mkF m 22 #[vR a, vI (0 : Int32), vI (4 : Int32), vR b1, vI (3 : Int32), vU] [(.int (0 : Int32)), (.ref a)]) _
      refine XS.iloadN X570.here hx rfl (hb hby d4_22) rfl ?_
      show Sp p e below T570 (mkF m 23 #[vR a, vI (0 : Int32), vI (4 : Int32), vR b1, vI (3 : Int32), vU] [(.int (4 : Int32)), (.int (0 : Int32)), (.ref a)]) _
      exact kt)
    clear S571
    have f607 := ((O0.ext E565).keep K570 (allS g_b1 all0))
    have f608 := (f569.keep K570 (ninS ne566 nin0))
    obtain ⟨v609, T609, L609, X609, hQ609, st609⟩ := own_outS (Jvm.LawKit.callS X570 hx (y := (⟨"java/lang/StringUTF16", "toBytes", "([CII)[B"⟩ : MethodName)) hown (mvT hZ (own_h hw 88 rfl)) (mvT hZ (own_h hw 89 rfl)) (mvT hZ (own_h hw 18 rfl)) (mvT hZ (own_h hw 90 rfl)) (by decide) (backOf (W := 0) (rm_tob4 l Z a0 hw [] a ka c0 c1 c2 c3 T570.heap n0 (Nat.le_trans (Nat.le_trans Z0 E565.1) K570.1) SS f607 f608) hZ (own_h hw 90 rfl) (own_h hw 18 rfl) (by decide) (by decide)) (g := (mkF m 23 #[vR a, vI (0 : Int32), vI (4 : Int32), vR b1, vI (3 : Int32), vU] [(.int (4 : Int32)), (.int (0 : Int32)), (.ref a)])) rfl (by rw [hml]; rfl) (argsL := [(.ref a), (.int (0 : Int32)), (.int (4 : Int32))]) (rest := []) (lenOf pd___CII__B rfl) rfl (by show 2 * 0 + _ ≤ _; exact Nat.le_of_eq rfl) (hb hby d4_23) (fun _ _ => ⟨rfl, rfl, (by decide : 1 + 1 ≤ _), (by decide : 4 + 8 ≤ _)⟩))
    obtain ⟨t1, kb609, rfl, N609q, K609, sz609, V609⟩ := hQ609
    have N609 := Fr.app N570 N609q
    have KK609 : Keep h0 T609.heap [] := KK570.trans K609 all0
    have sz_t1 : h0.size ≤ t1 := Nat.le_trans KK570.1 sz609
    have g_t1 : n0 ≤ t1 := Nat.le_trans (Nat.le_trans (Nat.le_trans Z0 E565.1) K570.1) sz609
    have S610 : Go p e below s₁ (eF_com4 m a (0 : Int32) (4 : Int32)) T609 (mkF m 26 #[vR a, vI (0 : Int32), vI (4 : Int32), vR b1, vI (3 : Int32), vU] [(.ref t1)]) := fun t kt => S606 t (st609 t kt)
    clear S606 st609 X570
    have S611 : Go p e below s₁ (eF_com4 m a (0 : Int32) (4 : Int32)) T609 (mkF m 32 #[vR a, vI (0 : Int32), vI (4 : Int32), vR b1, vI (3 : Int32), vR t1] [(.int (3 : Int32)), (.ref t1)]) := fun t kt => S610 t (by
      refine XS.astore X609.here hx rfl (hb hby d4_26) rfl rfl (l' := #[vR a, vI (0 : Int32), vI (4 : Int32), vR b1, vI (3 : Int32), vR t1]) rfl ?_
      show Sp p e below T609 (mkF m 28 #[vR a, vI (0 : Int32), vI (4 : Int32), vR b1, vI (3 : Int32), vR t1] []) _
      refine XS.aload X609.here hx rfl (hb hby d4_28) rfl rfl ?_
      show Sp p e below T609 (mkF m 30 #[vR a, vI (0 : Int32), vI (4 : Int32), vR b1, vI (3 : Int32), vR t1] [(.ref t1)]) _
      refine XS.iload X609.here hx rfl (hb hby d4_30) rfl ?_
      show Sp p e below T609 (mkF m 32 #[vR a, vI (0 : Int32), vI (4 : Int32), vR b1, vI (3 : Int32), vR t1] [(.int (3 : Int32)), (.ref t1)]) _
      exact kt)
    clear S610
    have f612 := (f607.keep K609 all0)
    obtain ⟨v613, T613, L613, X613, hQ613, st613⟩ := own_outS (Jvm.LawKit.callS X609 hx (y := (⟨"java/lang/StringUTF16", "getChar", "([BI)C"⟩ : MethodName)) hown (mvT hZ (own_h hw 104 rfl)) (mvT hZ (own_h hw 105 rfl)) (mvT hZ (own_h hw 18 rfl)) (mvT hZ (own_h hw 106 rfl)) (by decide) (backOf (W := 0) (rm_gch l Z a0 hw [] t1 (3 : Int32) kb609 (8 : Int32) [(.int (StrChars.lo8 c0)), (.int (StrChars.hi8 c0)), (.int (StrChars.lo8 c1)), (.int (StrChars.hi8 c1)), (.int (StrChars.lo8 c2)), (.int (StrChars.hi8 c2)), (.int (StrChars.lo8 c3)), (.int (StrChars.hi8 c3))] c3 T609.heap n0 (Nat.le_trans (Nat.le_trans (Nat.le_trans Z0 E565.1) K570.1) K609.1) SS f612 V609 (by decide) (by decide) (by rw [show ((3 : Int32) <<< ((1 : Int32) &&& 31)).toNatClampNeg = 6 from by decide]; rfl) (by rw [show (((3 : Int32) <<< ((1 : Int32) &&& 31)) + (1 : Int32)).toNatClampNeg = 7 from by decide]; rfl) hc3) hZ (own_h hw 106 rfl) (own_h hw 18 rfl) (by decide) (by decide)) (g := (mkF m 32 #[vR a, vI (0 : Int32), vI (4 : Int32), vR b1, vI (3 : Int32), vR t1] [(.int (3 : Int32)), (.ref t1)])) rfl (by rw [hml]; rfl) (argsL := [(.ref t1), (.int (3 : Int32))]) (rest := []) (lenOf pd___BI_C rfl) rfl (by show 2 * 0 + _ ≤ _; exact Nat.le_of_eq rfl) (hb hby d4_32) (fun _ _ => ⟨rfl, rfl, (by decide : 2 + 0 ≤ _), (by decide : 12 + 0 ≤ _)⟩))
    obtain ⟨rfl, N613q, e613⟩ := hQ613
    have N613 := Fr.app N609 N613q
    have S614 : Go p e below s₁ (eF_com4 m a (0 : Int32) (4 : Int32)) T613 (mkF m 35 #[vR a, vI (0 : Int32), vI (4 : Int32), vR b1, vI (3 : Int32), vR t1] [(.int c3)]) := fun t kt => S611 t (st613 t kt)
    clear S611 st613 X609
    have S615 : Go p e below s₁ (eF_com4 m a (0 : Int32) (4 : Int32)) T613 (mkF m 38 #[vR a, vI (0 : Int32), vI (4 : Int32), vR b1, vI (3 : Int32), vR t1] [(.int (255 : Int32)), (.int c3)]) := fun t kt => S614 t (by
      refine XS.sipush X613.here hx rfl (hb hby d4_35) ?_
      show Sp p e below T613 (mkF m 38 #[vR a, vI (0 : Int32), vI (4 : Int32), vR b1, vI (3 : Int32), vR t1] [(.int (255 : Int32)), (.int c3)]) _
      exact kt)
    clear S614
    have S616 : Go p e below s₁ (eF_com4 m a (0 : Int32) (4 : Int32)) T613 (mkF m 56 #[vR a, vI (0 : Int32), vI (4 : Int32), vR b1, vI (3 : Int32), vR t1] [(.ref t1)]) := fun t kt => S615 t (by
      refine XS.icmpYes X613.here hx rfl (pc0 := 38) (pc' := 54) rfl (hb hby d4_38) rfl (tlt (show (255 : Int32) < c3 from hk)).2.2.1 (by decide) (by decide) ?_
      show Sp p e below T613 (mkF m 54 #[vR a, vI (0 : Int32), vI (4 : Int32), vR b1, vI (3 : Int32), vR t1] []) _
      refine XS.aload X613.here hx rfl (hb hby d4_54) rfl rfl ?_
      show Sp p e below T613 (mkF m 56 #[vR a, vI (0 : Int32), vI (4 : Int32), vR b1, vI (3 : Int32), vR t1] [(.ref t1)]) _
      exact kt)
    clear S615
    obtain ⟨fs, hr, hrun, hended, hW, hsame⟩ := X613.leave (v := some (.ref t1)) (fun h => by first | rfl | (rw [Bd.returns] at h; cases h))
    refine ⟨_, _, S616 _ ?_, hrun, hended, _, _, rfl, ?_, ⟨_, rfl⟩, hW, hsame.mono (by decide) (by decide)⟩
    · exact retOut X613 hx Bd.returns rfl (Or.inr (Or.inr (Or.inr (Or.inr ⟨rfl, rfl, rfl⟩)))) (hb hby d4_56) hr
    · show Q_com4 Z c0 c1 c2 c3 h0 n0 _ T613.heap _
      rw [e613]
      exact ⟨t1, _, _, _, (1 : Int32), rfl, N613, KK609, sz_t1, V609, Or.inr ⟨rfl, rfl, rfl, ⟨c3, by simp, hk⟩⟩, Or.inr ⟨rfl, rfl⟩⟩
abbrev eF_ini4 (m : MethodId) (x0 : Addr) (x1 : Addr) (x2 : Int32) (x3 : Int32) : JFrame := entryFrame m #[(.ref x0), (.ref x1), (.int x2), (.int x3), .null] 6
theorem ef_ini4 (m : MethodId) (x0 : Addr) (x1 : Addr) (x2 : Int32) (x3 : Int32) : entryFrame m #[(.ref x0), (.ref x1), (.int x2), (.int x3), .null] 6 = mkF m 0 #[.val (.ref x0), .val (.ref x1), .val (.int x2), .val (.int x3), .val .null, .unset] [] := by first | (simp [entryFrame, mkF, argsToLocals, Value.category]; done) | rfl
theorem pn_ini4 : plainName "java/lang/String" = true := by first | (simp [plainName, overriddenIn]; done) | decide +kernel
def Q_ini4 (Z : State) (x : Addr) (c0 : Int32) (c1 : Int32) (c2 : Int32) (c3 : Int32) (h0 : Heap) (n0 : Nat) (v : Option Value) (h : Heap) (L : List Loc) : Prop := v = none ∧ Fr n0 L ∧ Keep h0 h [x] ∧ ∃ t kb n vs cd, h0.size ≤ t ∧ Exa Z h x "java/lang/String" ∧ Fld Z h x "java/lang/String" "coder" "B" (.int cd) ∧ Fld Z h x "java/lang/String" "value" "[B" (.ref t) ∧ Arv Z h t kb .byte n vs (.int (0 : Int32)) ∧ StrChars.Road.CodA [c0, c1, c2, c3] cd n vs
set_option maxRecDepth 65536 in
set_option maxHeartbeats 40000000 in
theorem rm_ini4 (l : Launch) (Z : State) (a0 : Array Value) (hw : ∀ d ∈ tables_1, d.before a0 Z = true) (ws : List Jvm.Cond) (x : Addr) (a : Addr) (ka : ClassId) (c0 : Int32) (c1 : Int32) (c2 : Int32) (c3 : Int32) (h0 : Heap) (n0 : Nat) (Z0 : n0 ≤ h0.size) (SS : own_St Z) (O0 : Old Z n0 h0)(Va : Arv Z h0 a ka .char (4 : Int32) [(.int c0), (.int c1), (.int c2), (.int c3)] (.int (0 : Int32)))(hc0 : own_Ch c0) (hc1 : own_Ch c1) (hc2 : own_Ch c2) (hc3 : own_Ch c3)(E0 : Exa Z h0 x "java/lang/String") (F1 : Fld Z h0 x "java/lang/String" "coder" "B" (.int (0 : Int32))) (F2 : Fld Z h0 x "java/lang/String" "value" "[B" .null) (hxa : x ≠ a) (g_x : n0 ≤ x) :
    MetFree l (⟨"java/lang/String", "<init>", "([CIILjava/lang/Void;)V"⟩ : MethodName) (head1 (Jvm.Cond.code (⟨"java/lang/String", "<init>", "([CIILjava/lang/Void;)V"⟩ : MethodName) jdk_42_method_149_code 6 none :: ws) ({ frames := 4, cells := 2, slots := 12, locals := 57 } : Room)) (fun aa U => aa = #[(.ref x), (.ref a), (.int (0 : Int32)), (.int (4 : Int32)), .null] ∧ Z.Warmed39 U.vm ∧ U.heap = h0) (fun _ _ _ _ _ => True) (fun _ U o U' => ∃ v L, o = .returned v ∧ Q_ini4 Z x c0 c1 c2 c3 h0 n0 v U'.heap L ∧ FrameEnd U o U' L ({ frames := 4, cells := 2, slots := 12, locals := 57 } : Room).cells ({ frames := 4, cells := 2, slots := 12, locals := 57 } : Room).slots) := by
  refine MetFree.of_bodySF (plainFor_of_name pn_ini4) hisR ?_
  intro p e s m args below meth c s₁ Bd hml0 hP hK
  obtain ⟨rfl, hZ, hh⟩ := hP
  have hx := Bd.exec
  have hby := Bd.bytes
  have hml : c.maxLocals = 6 := hml0
  have hown : s.vm.findClass "java/lang/String" = some m.cls := findClass_of_methodNamed Bd.named
  have hnm := (name_of_methodNamed Bd.named Bd.method).1
  have X0 : Stand p l e ({ frames := 4, cells := 2, slots := 12, locals := 57 } : Room) s m #[(.ref x), (.ref a), (.int (0 : Int32)), (.int (4 : Int32)), .null] below meth c s₁ [] 0 0 := Stand.of_body Bd
  have e0 : s₁.heap = h0 := by rw [← hh, Bd.state]; rfl
  have N0 := Fr.nil n0
  have S0 : Go p e below s₁ (eF_ini4 m x a (0 : Int32) (4 : Int32)) s₁ (mkF m 0 #[vR x, vR a, vI (0 : Int32), vI (4 : Int32), .val .null, vU] []) := fun t k => castTop (ef_ini4 m x a (0 : Int32) (4 : Int32)) k
  obtain ⟨⟨cz, S_cs, hcz⟩, ⟨fm, S_fm, hfm⟩, S_ad, S_hi, S_lo⟩ := id SS
  have S617 : Go p e below s₁ (eF_ini4 m x a (0 : Int32) (4 : Int32)) s₁ (mkF m 1 #[vR x, vR a, vI (0 : Int32), vI (4 : Int32), .val .null, vU] [(.ref x)]) := fun t kt => S0 t (by
    refine XS.aloadN X0.here hx rfl (hb hby d2_0) rfl rfl ?_
    show Sp p e below s₁ (mkF m 1 #[vR x, vR a, vI (0 : Int32), vI (4 : Int32), .val .null, vU] [(.ref x)]) _
    exact kt)
  clear S0
  obtain ⟨T618, X618, e618, st618⟩ := initO X0 hx hZ hown (own_h hw 12 rfl) (own_h hw 13 rfl) (own_h hw 14 rfl) e0 (g := (mkF m 1 #[vR x, vR a, vI (0 : Int32), vI (4 : Int32), .val .null, vU] [(.ref x)])) rfl (by rw [hml]; rfl) rfl (hb hby d2_1) (by decide) (W := 0) (by show 2 * 0 + _ ≤ _; exact Nat.le_of_eq rfl) (by decide)
  have S619 : Go p e below s₁ (eF_ini4 m x a (0 : Int32) (4 : Int32)) T618 (mkF m 4 #[vR x, vR a, vI (0 : Int32), vI (4 : Int32), .val .null, vU] []) := fun t kt => S617 t (st618 t kt)
  clear S617 st618 X0 e0
  have S620 : Go p e below s₁ (eF_ini4 m x a (0 : Int32) (4 : Int32)) T618 (mkF m 27 #[vR x, vR a, vI (0 : Int32), vI (4 : Int32), .val .null, vU] []) := fun t kt => S619 t (by
    refine XS.iloadN X618.here hx rfl (hb hby d2_4) rfl ?_
    show Sp p e below T618 (mkF m 5 #[vR x, vR a, vI (0 : Int32), vI (4 : Int32), .val .null, vU] [(.int (4 : Int32))]) _
    refine XS.ifYes X618.here hx rfl (pc0 := 5) (pc' := 27) rfl (hb hby d2_5) rfl ((if0 _ _).trans (feq (show ¬ ((4 : Int32) = (0 : Int32)) from (by decide))).2) (by decide) (by decide) ?_
    show Sp p e below T618 (mkF m 27 #[vR x, vR a, vI (0 : Int32), vI (4 : Int32), .val .null, vU] []) _
    exact kt)
  clear S619
  obtain ⟨T621, X621, e621, st621⟩ := getS2 X618 hx hZ hown (host := "") (Or.inl (own_h hw 15 rfl)) Via.refl e618 (S_cs.ext O0.2) (g := (mkF m 27 #[vR x, vR a, vI (0 : Int32), vI (4 : Int32), .val .null, vU] [])) rfl (hb hby d2_27)
  have S622 : Go p e below s₁ (eF_ini4 m x a (0 : Int32) (4 : Int32)) T621 (mkF m 30 #[vR x, vR a, vI (0 : Int32), vI (4 : Int32), .val .null, vU] [(.int cz)]) := fun t kt => S620 t (st621 t kt)
  clear S620 st621 X618 e618
  have S623 : Go p e below s₁ (eF_ini4 m x a (0 : Int32) (4 : Int32)) T621 (mkF m 36 #[vR x, vR a, vI (0 : Int32), vI (4 : Int32), .val .null, vU] [(.int (4 : Int32)), (.int (0 : Int32)), (.ref a)]) := fun t kt => S622 t (by
    refine XS.ifNo X621.here hx rfl (hb hby d2_30) rfl ((if0 _ _).trans (feq (show ¬ (cz = (0 : Int32)) from hcz)).1) ?_
    show Sp p e below T621 (mkF m 33 #[vR x, vR a, vI (0 : Int32), vI (4 : Int32), .val .null, vU] []) _
    refine XS.aloadN X621.here hx rfl (hb hby d2_33) rfl rfl ?_
    show Sp p e below T621 (mkF m 34 #[vR x, vR a, vI (0 : Int32), vI (4 : Int32), .val .null, vU] [(.ref a)]) _
    refine XS.iloadN X621.here hx rfl (hb hby d2_34) rfl ?_
    show Sp p e below T621 (mkF m 35 #[vR x, vR a, vI (0 : Int32), vI (4 : Int32), .val .null, vU] [(.int (0 : Int32)), (.ref a)]) _
    refine XS.iloadN X621.here hx rfl (hb hby d2_35) rfl ?_
    show Sp p e below T621 (mkF m 36 #[vR x, vR a, vI (0 : Int32), vI (4 : Int32), .val .null, vU] [(.int (4 : Int32)), (.int (0 : Int32)), (.ref a)]) _
    exact kt)
  clear S622
  obtain ⟨v624, T624, L624, X624, hQ624, st624⟩ := own_outS (Jvm.LawKit.callS X621 hx (y := (⟨"java/lang/StringUTF16", "compress", "([CII)[B"⟩ : MethodName)) hown (mvT hZ (own_h hw 16 rfl)) (mvT hZ (own_h hw 17 rfl)) (mvT hZ (own_h hw 18 rfl)) (mvT hZ (own_h hw 19 rfl)) (by decide) (backOf (W := 0) (rm_com4 l Z a0 hw [] a ka c0 c1 c2 c3 h0 n0 Z0 SS O0 Va hc0 hc1 hc2 hc3) hZ (own_h hw 19 rfl) (own_h hw 18 rfl) (by decide) (by decide)) (g := (mkF m 36 #[vR x, vR a, vI (0 : Int32), vI (4 : Int32), .val .null, vU] [(.int (4 : Int32)), (.int (0 : Int32)), (.ref a)])) rfl (by rw [hml]; rfl) (argsL := [(.ref a), (.int (0 : Int32)), (.int (4 : Int32))]) (rest := []) (lenOf pd___CII__B rfl) rfl (by show 2 * 0 + _ ≤ _; exact Nat.le_of_eq rfl) (hb hby d2_36) (fun _ _ => ⟨rfl, e621, (by decide : 0 + 2 ≤ _), (by decide : 0 + 12 ≤ _)⟩))
  obtain ⟨t1, kb624, n, vs, cd, rfl, N624q, K624, sz624, V624, hcod, hdn⟩ := hQ624
  have N624 := Fr.app N0 N624q
  have KK624 : Keep h0 T624.heap [x] := (Keep.refl h0 [x]).trans K624 all0
  have sz_t1 : h0.size ≤ t1 := Nat.le_trans (Keep.refl h0 [x]).1 sz624
  have g_t1 : n0 ≤ t1 := Nat.le_trans Z0 sz624
  have S625 : Go p e below s₁ (eF_ini4 m x a (0 : Int32) (4 : Int32)) T624 (mkF m 39 #[vR x, vR a, vI (0 : Int32), vI (4 : Int32), .val .null, vU] [(.ref t1)]) := fun t kt => S623 t (st624 t kt)
  clear S623 st624 X621 e621
  have S626 : Go p e below s₁ (eF_ini4 m x a (0 : Int32) (4 : Int32)) T624 (mkF m 45 #[vR x, vR a, vI (0 : Int32), vI (4 : Int32), .val .null, vR t1] [(.int (4 : Int32)), (.ref t1), (.ref x)]) := fun t kt => S625 t (by
    refine XS.astore X624.here hx rfl (hb hby d2_39) rfl rfl (l' := #[vR x, vR a, vI (0 : Int32), vI (4 : Int32), .val .null, vR t1]) rfl ?_
    show Sp p e below T624 (mkF m 41 #[vR x, vR a, vI (0 : Int32), vI (4 : Int32), .val .null, vR t1] []) _
    refine XS.aloadN X624.here hx rfl (hb hby d2_41) rfl rfl ?_
    show Sp p e below T624 (mkF m 42 #[vR x, vR a, vI (0 : Int32), vI (4 : Int32), .val .null, vR t1] [(.ref x)]) _
    refine XS.aload X624.here hx rfl (hb hby d2_42) rfl rfl ?_
    show Sp p e below T624 (mkF m 44 #[vR x, vR a, vI (0 : Int32), vI (4 : Int32), .val .null, vR t1] [(.ref t1), (.ref x)]) _
    refine XS.iloadN X624.here hx rfl (hb hby d2_44) rfl ?_
    show Sp p e below T624 (mkF m 45 #[vR x, vR a, vI (0 : Int32), vI (4 : Int32), .val .null, vR t1] [(.int (4 : Int32)), (.ref t1), (.ref x)]) _
    exact kt)
  clear S625
  have hr1 : (((((4 : Int32) - n).toUInt32 >>> ((31 : Int32) &&& 31).toUInt32).toInt32).toInt8.toInt32) = cd := by rcases hdn with ⟨rfl, rfl⟩ | ⟨rfl, rfl⟩ <;> decide
  have hr2 : nar .byte cd = cd := by rcases hdn with ⟨rfl, rfl⟩ | ⟨rfl, rfl⟩ <;> decide
  obtain ⟨v627, T627, L627, X627, hQ627, st627⟩ := own_outS (Jvm.LawKit.callS X624 hx (y := (⟨"java/lang/StringUTF16", "coderFromArrayLen", "([BI)B"⟩ : MethodName)) hown (mvT hZ (own_h hw 24 rfl)) (mvT hZ (own_h hw 25 rfl)) (mvT hZ (own_h hw 18 rfl)) (mvT hZ (own_h hw 26 rfl)) (by decide) (backOf (W := 1) (rm_cfl l Z a0 hw [] t1 (4 : Int32) kb624 n vs cd T624.heap n0 (Nat.le_trans Z0 K624.1) V624 hr1 hr2) hZ (own_h hw 26 rfl) (own_h hw 18 rfl) (by decide) (by decide)) (g := (mkF m 45 #[vR x, vR a, vI (0 : Int32), vI (4 : Int32), .val .null, vR t1] [(.int (4 : Int32)), (.ref t1), (.ref x)])) rfl (by rw [hml]; rfl) (argsL := [(.ref t1), (.int (4 : Int32))]) (rest := [(.ref x)]) (lenOf pd___BI_B rfl) rfl (by show 2 * 0 + _ ≤ _; exact Nat.le_of_eq rfl) (hb hby d2_45) (fun _ _ => ⟨rfl, rfl, (by decide : 2 + 0 ≤ _), (by decide : 12 + 0 ≤ _)⟩))
  obtain ⟨rfl, N627q, e627⟩ := hQ627
  have N627 := Fr.app N624 N627q
  have S628 : Go p e below s₁ (eF_ini4 m x a (0 : Int32) (4 : Int32)) T627 (mkF m 48 #[vR x, vR a, vI (0 : Int32), vI (4 : Int32), .val .null, vR t1] [(.int cd), (.ref x)]) := fun t kt => S626 t (st627 t kt)
  clear S626 st627 X624
  have f629 := (F1.keep K624 nin0)
  have f630 := (E0.keep K624)
  obtain ⟨T631, h631, X631, e631, W631, st631⟩ := putFN X627 hx hZ hown (own_h hw 27 rfl) Via.refl e627 f629 f630 (Or.inr ⟨(own_h hw 28 rfl), rfl, hnm⟩) (own_h hw 3 rfl) (ty := .byte) (v' := .int (cd.toInt8.toInt32)) (by decide) rfl (fits_nar_byte _) (g := (mkF m 48 #[vR x, vR a, vI (0 : Int32), vI (4 : Int32), .val .null, vR t1] [(.int cd), (.ref x)])) rfl rfl (hb hby d2_48)
  rw [show (cd.toInt8.toInt32) = cd from hr2] at W631
  have N631 := Fr.snoc X631 N627 g_x
  have K631 : Keep h0 h631 [x] := KK624.wr W631 (Or.inl (by simp))
  have Fw631 := f629.same W631
  have S632 : Go p e below s₁ (eF_ini4 m x a (0 : Int32) (4 : Int32)) T631 (mkF m 51 #[vR x, vR a, vI (0 : Int32), vI (4 : Int32), .val .null, vR t1] []) := fun t kt => S628 t (st631 t kt)
  clear S628 st631 X627 e627
  have S633 : Go p e below s₁ (eF_ini4 m x a (0 : Int32) (4 : Int32)) T631 (mkF m 54 #[vR x, vR a, vI (0 : Int32), vI (4 : Int32), .val .null, vR t1] [(.ref t1), (.ref x)]) := fun t kt => S632 t (by
    refine XS.aloadN X631.here hx rfl (hb hby d2_51) rfl rfl ?_
    show Sp p e below T631 (mkF m 52 #[vR x, vR a, vI (0 : Int32), vI (4 : Int32), .val .null, vR t1] [(.ref x)]) _
    refine XS.aload X631.here hx rfl (hb hby d2_52) rfl rfl ?_
    show Sp p e below T631 (mkF m 54 #[vR x, vR a, vI (0 : Int32), vI (4 : Int32), .val .null, vR t1] [(.ref t1), (.ref x)]) _
    exact kt)
  clear S632
  have f634 := ((F2.keep K624 nin0).other W631 (Or.inr (slot_ne (C := "java/lang/String") (Or.inr (own_h hw 30 rfl)) (Or.inr (own_h hw 28 rfl)) (by decide) (t := (.array .byte)) (t' := .byte) (by decide) (by decide))))
  have f635 := (f630.wr W631)
  obtain ⟨T636, h636, X636, e636, W636, st636⟩ := putF X631 hx hZ hown (host := "") (Or.inl (own_h hw 29 rfl)) Via.refl e631 f634 f635 (Or.inr ⟨(own_h hw 30 rfl), rfl, hnm⟩) (own_h hw 3 rfl) (ty := (.array .byte)) (by decide) rfl rfl (g := (mkF m 54 #[vR x, vR a, vI (0 : Int32), vI (4 : Int32), .val .null, vR t1] [(.ref t1), (.ref x)])) rfl rfl (hb hby d2_54)
  have N636 := Fr.snoc X636 N631 g_x
  have K636 : Keep h0 h636 [x] := K631.wr W636 (Or.inl (by simp))
  have Fw636 := f634.same W636
  have S637 : Go p e below s₁ (eF_ini4 m x a (0 : Int32) (4 : Int32)) T636 (mkF m 57 #[vR x, vR a, vI (0 : Int32), vI (4 : Int32), .val .null, vR t1] []) := fun t kt => S633 t (st636 t kt)
  clear S633 st636 X631 e631
  have f638 := (f635.wr W636)
  have f639 := (Fw631.other W636 (Or.inr (slot_ne (C := "java/lang/String") (Or.inr (own_h hw 28 rfl)) (Or.inr (own_h hw 30 rfl)) (by decide) (t := .byte) (t' := (.array .byte)) (by decide) (by decide))))
  have ne640 : x ≠ t1 := Nat.ne_of_lt (Nat.lt_of_lt_of_le (E0.lt) sz624)
  have f641 := ((V624.other W631 (Ne.symm ne640)).other W636 (Ne.symm ne640))
  obtain ⟨fs, hr, hrun, hended, hW, hsame⟩ := X636.leave (v := none) (fun h => by first | rfl | (rw [Bd.returns] at h; cases h))
  refine ⟨_, _, S637 _ ?_, hrun, hended, _, _, rfl, ?_, ⟨_, rfl⟩, hW, hsame.mono (by decide) (by decide)⟩
  · exact X636.returnOut hx Bd.returns (hb hby d2_57) hr
  · show Q_ini4 Z x c0 c1 c2 c3 h0 n0 _ T636.heap _
    rw [e636]
    exact ⟨rfl, N636, K636, t1, _, _, _, cd, sz_t1, f638, f639, Fw636, f641, hcod⟩
abbrev eF_str4 (m : MethodId) (x0 : Addr) (x1 : Addr) : JFrame := entryFrame m #[(.ref x0), (.ref x1)] 2
theorem ef_str4 (m : MethodId) (x0 : Addr) (x1 : Addr) : entryFrame m #[(.ref x0), (.ref x1)] 2 = mkF m 0 #[.val (.ref x0), .val (.ref x1)] [] := by first | (simp [entryFrame, mkF, argsToLocals, Value.category]; done) | rfl
theorem pn_str4 : plainName "java/lang/String" = true := by first | (simp [plainName, overriddenIn]; done) | decide +kernel
def Q_str4 (Z : State) (x : Addr) (c0 : Int32) (c1 : Int32) (c2 : Int32) (c3 : Int32) (h0 : Heap) (n0 : Nat) (v : Option Value) (h : Heap) (L : List Loc) : Prop := v = none ∧ Fr n0 L ∧ Keep h0 h [x] ∧ ∃ t kb n vs cd, h0.size ≤ t ∧ Exa Z h x "java/lang/String" ∧ Fld Z h x "java/lang/String" "coder" "B" (.int cd) ∧ Fld Z h x "java/lang/String" "value" "[B" (.ref t) ∧ Arv Z h t kb .byte n vs (.int (0 : Int32)) ∧ StrChars.Road.CodA [c0, c1, c2, c3] cd n vs
set_option maxRecDepth 65536 in
set_option maxHeartbeats 40000000 in
theorem rm_str4 (l : Launch) (Z : State) (a0 : Array Value) (hw : ∀ d ∈ tables_1, d.before a0 Z = true) (ws : List Jvm.Cond) (x : Addr) (a : Addr) (ka : ClassId) (c0 : Int32) (c1 : Int32) (c2 : Int32) (c3 : Int32) (h0 : Heap) (n0 : Nat) (Z0 : n0 ≤ h0.size) (SS : own_St Z) (O0 : Old Z n0 h0)(Va : Arv Z h0 a ka .char (4 : Int32) [(.int c0), (.int c1), (.int c2), (.int c3)] (.int (0 : Int32)))(hc0 : own_Ch c0) (hc1 : own_Ch c1) (hc2 : own_Ch c2) (hc3 : own_Ch c3)(E0 : Exa Z h0 x "java/lang/String") (F1 : Fld Z h0 x "java/lang/String" "coder" "B" (.int (0 : Int32))) (F2 : Fld Z h0 x "java/lang/String" "value" "[B" .null) (hxa : x ≠ a) (g_x : n0 ≤ x) :
    MetFree l (⟨"java/lang/String", "<init>", "([C)V"⟩ : MethodName) (head1 (Jvm.Cond.code (⟨"java/lang/String", "<init>", "([C)V"⟩ : MethodName) jdk_42_method_3_code 2 none :: ws) ({ frames := 5, cells := 2, slots := 12, locals := 74 } : Room)) (fun aa U => aa = #[(.ref x), (.ref a)] ∧ Z.Warmed39 U.vm ∧ U.heap = h0) (fun _ _ _ _ _ => True) (fun _ U o U' => ∃ v L, o = .returned v ∧ Q_str4 Z x c0 c1 c2 c3 h0 n0 v U'.heap L ∧ FrameEnd U o U' L ({ frames := 5, cells := 2, slots := 12, locals := 74 } : Room).cells ({ frames := 5, cells := 2, slots := 12, locals := 74 } : Room).slots) := by
  refine MetFree.of_bodySF (plainFor_of_name pn_str4) hisR ?_
  intro p e s m args below meth c s₁ Bd hml0 hP hK
  obtain ⟨rfl, hZ, hh⟩ := hP
  have hx := Bd.exec
  have hby := Bd.bytes
  have hml : c.maxLocals = 2 := hml0
  have hown : s.vm.findClass "java/lang/String" = some m.cls := findClass_of_methodNamed Bd.named
  have hnm := (name_of_methodNamed Bd.named Bd.method).1
  have X0 : Stand p l e ({ frames := 5, cells := 2, slots := 12, locals := 74 } : Room) s m #[(.ref x), (.ref a)] below meth c s₁ [] 0 0 := Stand.of_body Bd
  have e0 : s₁.heap = h0 := by rw [← hh, Bd.state]; rfl
  have N0 := Fr.nil n0
  have S0 : Go p e below s₁ (eF_str4 m x a) s₁ (mkF m 0 #[vR x, vR a] []) := fun t k => castTop (ef_str4 m x a) k
  obtain ⟨⟨cz, S_cs, hcz⟩, ⟨fm, S_fm, hfm⟩, S_ad, S_hi, S_lo⟩ := id SS
  have S642 : Go p e below s₁ (eF_str4 m x a) s₁ (mkF m 4 #[vR x, vR a] [(.ref a), (.int (0 : Int32)), (.ref a), (.ref x)]) := fun t kt => S0 t (by
    refine XS.aloadN X0.here hx rfl (hb hby d1_0) rfl rfl ?_
    show Sp p e below s₁ (mkF m 1 #[vR x, vR a] [(.ref x)]) _
    refine XS.aloadN X0.here hx rfl (hb hby d1_1) rfl rfl ?_
    show Sp p e below s₁ (mkF m 2 #[vR x, vR a] [(.ref a), (.ref x)]) _
    refine XS.iconst X0.here hx rfl (hb hby d1_2) ?_
    show Sp p e below s₁ (mkF m 3 #[vR x, vR a] [(.int (0 : Int32)), (.ref a), (.ref x)]) _
    refine XS.aloadN X0.here hx rfl (hb hby d1_3) rfl rfl ?_
    show Sp p e below s₁ (mkF m 4 #[vR x, vR a] [(.ref a), (.int (0 : Int32)), (.ref a), (.ref x)]) _
    exact kt)
  clear S0
  obtain ⟨co643, Ao643, qo643, So643, No643, Ho643, Go643⟩ := id Va
  have S644 : Go p e below s₁ (eF_str4 m x a) s₁ (mkF m 6 #[vR x, vR a] [.null, (.int (4 : Int32)), (.int (0 : Int32)), (.ref a), (.ref x)]) := fun t kt => S642 t (by
    refine X0.arraylength hx (by rw [e0]; exact Ao643.1) (State.isArrayOf_alike hZ.alike Ao643.2.1) (g := (mkF m 4 #[vR x, vR a] [(.ref a), (.int (0 : Int32)), (.ref a), (.ref x)])) rfl rfl (hb hby d1_4) _ ?_
    rw [len_of So643 No643]
    show Sp p e below s₁ (mkF m 5 #[vR x, vR a] [(.int (4 : Int32)), (.int (0 : Int32)), (.ref a), (.ref x)]) _
    refine XS.aconstNull X0.here hx rfl (hb hby d1_5) ?_
    show Sp p e below s₁ (mkF m 6 #[vR x, vR a] [.null, (.int (4 : Int32)), (.int (0 : Int32)), (.ref a), (.ref x)]) _
    exact kt)
  clear S642
  obtain ⟨v645, T645, L645, X645, hQ645, st645⟩ := own_outV (X0.specialBack hx (y := (⟨"java/lang/String", "<init>", "([CIILjava/lang/Void;)V"⟩ : MethodName)) rfl hown (mvT hZ (own_h hw 8 rfl)) (mvT hZ (own_h hw 9 rfl)) (mvT hZ (own_h hw 11 rfl)) (by decide) (backOf (W := 0) (rm_ini4 l Z a0 hw [] x a ka c0 c1 c2 c3 h0 n0 Z0 SS O0 Va hc0 hc1 hc2 hc3 E0 F1 F2 hxa g_x) hZ (own_h hw 11 rfl) (own_h hw 4 rfl) (by decide) (by decide)) (g := (mkF m 6 #[vR x, vR a] [.null, (.int (4 : Int32)), (.int (0 : Int32)), (.ref a), (.ref x)])) rfl (by rw [hml]; rfl) (Steps.refl _) (a := x) (argsL := [(.ref a), (.int (0 : Int32)), (.int (4 : Int32)), .null]) (rest := []) (lenOf pd___CIILjava_lang_Void__V rfl) rfl (by show 2 * 0 + _ ≤ _; exact Nat.le_of_eq rfl) (hb hby d1_6) (fun _ _ => ⟨rfl, e0, (by decide : 0 + 2 ≤ _), (by decide : 0 + 12 ≤ _)⟩))
  obtain ⟨rfl, N645q, K645, hrest⟩ := hQ645
  have N645 := Fr.app N0 N645q
  have KK645 : Keep h0 T645.heap [x] := (Keep.refl h0 [x]).trans K645 (allS (Or.inl (by simp)) all0)
  have S646 : Go p e below s₁ (eF_str4 m x a) T645 (mkF m 9 #[vR x, vR a] []) := fun t kt => S644 t (st645 t kt)
  clear S644 st645 X0 e0
  obtain ⟨fs, hr, hrun, hended, hW, hsame⟩ := X645.leave (v := none) (fun h => by first | rfl | (rw [Bd.returns] at h; cases h))
  refine ⟨_, _, S646 _ ?_, hrun, hended, _, _, rfl, ?_, ⟨_, rfl⟩, hW, hsame.mono (by decide) (by decide)⟩
  · exact X645.returnOut hx Bd.returns (hb hby d1_9) hr
  · show Q_str4 Z x c0 c1 c2 c3 h0 n0 _ T645.heap _
    exact ⟨rfl, N645, KK645, hrest⟩
abbrev eF_can (m : MethodId) (x0 : Int32) : JFrame := entryFrame m #[(.int x0)] 1
theorem ef_can (m : MethodId) (x0 : Int32) : entryFrame m #[(.int x0)] 1 = mkF m 0 #[.val (.int x0)] [] := by first | (simp [entryFrame, mkF, argsToLocals, Value.category]; done) | rfl
theorem pn_can : plainName "java/lang/StringLatin1" = true := by first | (simp [plainName, overriddenIn]; done) | decide +kernel
def Q_can (Z : State)  (h0 : Heap) (n0 : Nat) (v : Option Value) (h : Heap) (L : List Loc) : Prop := ∃ r : Int32, v = some (.int r) ∧ Fr n0 L ∧ h = h0
set_option maxRecDepth 65536 in
set_option maxHeartbeats 40000000 in
theorem rm_can (l : Launch) (Z : State) (a0 : Array Value) (hw : ∀ d ∈ tables_1, d.before a0 Z = true) (ws : List Jvm.Cond) (ch : Int32) (h0 : Heap) (n0 : Nat) (Z0 : n0 ≤ h0.size)  :
    MetFree l (⟨"java/lang/StringLatin1", "canEncode", "(C)Z"⟩ : MethodName) (head1 (Jvm.Cond.code (⟨"java/lang/StringLatin1", "canEncode", "(C)Z"⟩ : MethodName) jdk_43_method_3_code 1 (some .boolean) :: ws) ({ frames := 0, cells := 0, slots := 0, locals := 0 } : Room)) (fun aa U => aa = #[(.int ch)] ∧ Z.Warmed39 U.vm ∧ U.heap = h0) (fun _ _ _ _ _ => True) (fun _ U o U' => ∃ v L, o = .returned v ∧ Q_can Z  h0 n0 v U'.heap L ∧ FrameEnd U o U' L ({ frames := 0, cells := 0, slots := 0, locals := 0 } : Room).cells ({ frames := 0, cells := 0, slots := 0, locals := 0 } : Room).slots) := by
  refine MetFree.of_bodySF (plainFor_of_name pn_can) hisR ?_
  intro p e s m args below meth c s₁ Bd hml0 hP hK
  obtain ⟨rfl, hZ, hh⟩ := hP
  have hx := Bd.exec
  have hby := Bd.bytes
  have hml : c.maxLocals = 1 := hml0
  have hown : s.vm.findClass "java/lang/StringLatin1" = some m.cls := findClass_of_methodNamed Bd.named
  have hnm := (name_of_methodNamed Bd.named Bd.method).1
  have X0 : Stand p l e ({ frames := 0, cells := 0, slots := 0, locals := 0 } : Room) s m #[(.int ch)] below meth c s₁ [] 0 0 := Stand.of_body Bd
  have e0 : s₁.heap = h0 := by rw [← hh, Bd.state]; rfl
  have N0 := Fr.nil n0
  have S0 : Go p e below s₁ (eF_can m ch) s₁ (mkF m 0 #[vI ch] []) := fun t k => castTop (ef_can m ch) k
  have S647 : Go p e below s₁ (eF_can m ch) s₁ (mkF m 4 #[vI ch] [(.int (255 : Int32)), (.int ch)]) := fun t kt => S0 t (by
    refine XS.iloadN X0.here hx rfl (hb hby d8_0) rfl ?_
    show Sp p e below s₁ (mkF m 1 #[vI ch] [(.int ch)]) _
    refine XS.sipush X0.here hx rfl (hb hby d8_1) ?_
    show Sp p e below s₁ (mkF m 4 #[vI ch] [(.int (255 : Int32)), (.int ch)]) _
    exact kt)
  clear S0
  by_cases h1 : (255 : Int32) < ch
  · have S648 : Go p e below s₁ (eF_can m ch) s₁ (mkF m 12 #[vI ch] [(.int (0 : Int32))]) := fun t kt => S647 t (by
      refine XS.icmpYes X0.here hx rfl (pc0 := 4) (pc' := 11) rfl (hb hby d8_4) rfl (tlt (show (255 : Int32) < ch from h1)).2.2.1 (by decide) (by decide) ?_
      show Sp p e below s₁ (mkF m 11 #[vI ch] []) _
      refine XS.iconst X0.here hx rfl (hb hby d8_11) ?_
      show Sp p e below s₁ (mkF m 12 #[vI ch] [(.int (0 : Int32))]) _
      exact kt)
    clear S647
    obtain ⟨fs, hr, hrun, hended, hW, hsame⟩ := X0.leave (v := some (.int (0 : Int32))) (fun h => by first | rfl | (rw [Bd.returns] at h; cases h))
    refine ⟨_, _, S648 _ ?_, hrun, hended, _, _, rfl, ?_, ⟨_, rfl⟩, hW, hsame.mono (by decide) (by decide)⟩
    · exact retN X0 hx (t := .boolean) Bd.returns (by simp) (hb hby d8_12) hr
    · show Q_can Z  h0 n0 _ s₁.heap _
      rw [e0]
      exact ⟨_, rfl, N0, rfl⟩
  · have S649 : Go p e below s₁ (eF_can m ch) s₁ (mkF m 12 #[vI ch] [(.int (1 : Int32))]) := fun t kt => S647 t (by
      refine XS.icmpNo X0.here hx rfl (hb hby d8_4) rfl (flt (show ¬ ((255 : Int32) < ch) from h1)).2.2.1 ?_
      show Sp p e below s₁ (mkF m 7 #[vI ch] []) _
      refine XS.iconst X0.here hx rfl (hb hby d8_7) ?_
      show Sp p e below s₁ (mkF m 8 #[vI ch] [(.int (1 : Int32))]) _
      refine XS.goto X0.here hx rfl (pc0 := 8) (pc' := 12) rfl (hb hby d8_8) (by decide) (by decide) ?_
      show Sp p e below s₁ (mkF m 12 #[vI ch] [(.int (1 : Int32))]) _
      exact kt)
    clear S647
    obtain ⟨fs, hr, hrun, hended, hW, hsame⟩ := X0.leave (v := some (.int (1 : Int32))) (fun h => by first | rfl | (rw [Bd.returns] at h; cases h))
    refine ⟨_, _, S649 _ ?_, hrun, hended, _, _, rfl, ?_, ⟨_, rfl⟩, hW, hsame.mono (by decide) (by decide)⟩
    · exact retN X0 hx (t := .boolean) Bd.returns (by simp) (hb hby d8_12) hr
    · show Q_can Z  h0 n0 _ s₁.heap _
      rw [e0]
      exact ⟨_, rfl, N0, rfl⟩
abbrev eF_ltb (m : MethodId) (x0 : Int32) : JFrame := entryFrame m #[(.int x0)] 1
theorem ef_ltb (m : MethodId) (x0 : Int32) : entryFrame m #[(.int x0)] 1 = mkF m 0 #[.val (.int x0)] [] := by first | (simp [entryFrame, mkF, argsToLocals, Value.category]; done) | rfl
theorem pn_ltb : plainName "java/lang/StringLatin1" = true := by first | (simp [plainName, overriddenIn]; done) | decide +kernel
def Q_ltb (Z : State)  (h0 : Heap) (n0 : Nat) (v : Option Value) (h : Heap) (L : List Loc) : Prop := ∃ t, v = some (.ref t) ∧ Fr n0 L ∧ Keep h0 h [] ∧ h0.size ≤ t
set_option maxRecDepth 65536 in
set_option maxHeartbeats 40000000 in
theorem rm_ltb (l : Launch) (Z : State) (a0 : Array Value) (hw : ∀ d ∈ tables_1, d.before a0 Z = true) (ws : List Jvm.Cond) (ch : Int32) (h0 : Heap) (n0 : Nat) (Z0 : n0 ≤ h0.size)  :
    MetFree l (⟨"java/lang/StringLatin1", "toBytes", "(C)[B"⟩ : MethodName) (head1 (Jvm.Cond.code (⟨"java/lang/StringLatin1", "toBytes", "(C)[B"⟩ : MethodName) jdk_43_method_46_code 1 (some (.array .byte)) :: ws) ({ frames := 0, cells := 1, slots := 1, locals := 0 } : Room)) (fun aa U => aa = #[(.int ch)] ∧ Z.Warmed39 U.vm ∧ U.heap = h0) (fun _ _ _ _ _ => True) (fun _ U o U' => ∃ v L, o = .returned v ∧ Q_ltb Z  h0 n0 v U'.heap L ∧ FrameEnd U o U' L ({ frames := 0, cells := 1, slots := 1, locals := 0 } : Room).cells ({ frames := 0, cells := 1, slots := 1, locals := 0 } : Room).slots) := by
  refine MetFree.of_bodySF (plainFor_of_name pn_ltb) hisR ?_
  intro p e s m args below meth c s₁ Bd hml0 hP hK
  obtain ⟨rfl, hZ, hh⟩ := hP
  have hx := Bd.exec
  have hby := Bd.bytes
  have hml : c.maxLocals = 1 := hml0
  have hown : s.vm.findClass "java/lang/StringLatin1" = some m.cls := findClass_of_methodNamed Bd.named
  have hnm := (name_of_methodNamed Bd.named Bd.method).1
  have X0 : Stand p l e ({ frames := 0, cells := 1, slots := 1, locals := 0 } : Room) s m #[(.int ch)] below meth c s₁ [] 0 0 := Stand.of_body Bd
  have e0 : s₁.heap = h0 := by rw [← hh, Bd.state]; rfl
  have N0 := Fr.nil n0
  have S0 : Go p e below s₁ (eF_ltb m ch) s₁ (mkF m 0 #[vI ch] []) := fun t k => castTop (ef_ltb m ch) k
  have S650 : Go p e below s₁ (eF_ltb m ch) s₁ (mkF m 1 #[vI ch] [(.int (1 : Int32))]) := fun t kt => S0 t (by
    refine XS.iconst X0.here hx rfl (hb hby d9_0) ?_
    show Sp p e below s₁ (mkF m 1 #[vI ch] [(.int (1 : Int32))]) _
    exact kt)
  clear S0
  obtain ⟨T651, h651, k651, X651, e651, E651, A651, st651⟩ := newP X0 hx hZ (own_h hw 20 rfl) e0 (g := (mkF m 1 #[vI ch] [(.int (1 : Int32))])) rfl (hb hby d9_1) rfl (by decide) (cap := 1) (by decide) (by decide) (by decide) (by decide)
  obtain ⟨t1, g651⟩ : ∃ z, z = h0.size := ⟨_, rfl⟩
  rw [← g651] at A651 st651
  have g_t1 : n0 ≤ t1 := Nat.le_trans Z0 (Nat.le_of_eq g651.symm)
  have sz_t1 : h0.size ≤ t1 := Nat.le_trans (Keep.refl h0 []).1 (Nat.le_of_eq g651.symm)
  have K651 : Keep h0 h651 [] := (Keep.refl h0 []).ext E651
  have V651 : Arv Z h651 t1 k651 .byte (1 : Int32) [(.int (0 : Int32))] (.int (0 : Int32)) := (Arv.new A651 (by decide)).pad (pad_rep [] _ 1)
  have S652 : Go p e below s₁ (eF_ltb m ch) T651 (mkF m 3 #[vI ch] [(.ref t1)]) := fun t kt => S650 t (st651 t kt)
  clear S650 st651 X0 e0
  have S653 : Go p e below s₁ (eF_ltb m ch) T651 (mkF m 7 #[vI ch] [(.int (ch.toInt8.toInt32)), (.int (0 : Int32)), (.ref t1), (.ref t1)]) := fun t kt => S652 t (by
    refine XS.dup X651.here hx rfl (hb hby d9_3) rfl rfl ?_
    show Sp p e below T651 (mkF m 4 #[vI ch] [(.ref t1), (.ref t1)]) _
    refine XS.iconst X651.here hx rfl (hb hby d9_4) ?_
    show Sp p e below T651 (mkF m 5 #[vI ch] [(.int (0 : Int32)), (.ref t1), (.ref t1)]) _
    refine XS.iloadN X651.here hx rfl (hb hby d9_5) rfl ?_
    show Sp p e below T651 (mkF m 6 #[vI ch] [(.int ch), (.int (0 : Int32)), (.ref t1), (.ref t1)]) _
    refine XS.i2b X651.here hx rfl (hb hby d9_6) rfl ?_
    show Sp p e below T651 (mkF m 7 #[vI ch] [(.int (ch.toInt8.toInt32)), (.int (0 : Int32)), (.ref t1), (.ref t1)]) _
    exact kt)
  clear S652
  obtain ⟨co654, Ao654, qo654, So654, No654, Ho654, Go654⟩ := id V651
  have hino654 : ¬ ((0 : Int32) < 0 ∨ co654.slots.size ≤ ((0 : Int32)).toNatClampNeg) := inb_of So654 ⟨by decide, by decide⟩
  obtain ⟨T655, h655, X655, e655, W655, st655⟩ := stB X651 hx hZ e651 Ao654 (j := (0 : Int32)) hino654 (g := (mkF m 7 #[vI ch] [(.int (ch.toInt8.toInt32)), (.int (0 : Int32)), (.ref t1), (.ref t1)])) rfl rfl (hb hby d9_7)
  have N655 := Fr.snoc X655 N0 g_t1
  have K655 : Keep h0 h655 [] := K651.wr W655 (Or.inr sz_t1)
  have V655 : Arv Z h655 t1 k651 .byte (1 : Int32) [(.int ((ch.toInt8.toInt32).toInt8.toInt32))] (.int (0 : Int32)) := Arv.set Ao654 qo654 So654 No654 Ho654 Go654 (fits_nar_byte _) W655 0 rfl (Nat.le_of_ble_eq_true rfl)
  have S656 : Go p e below s₁ (eF_ltb m ch) T655 (mkF m 8 #[vI ch] [(.ref t1)]) := fun t kt => S653 t (st655 t kt)
  clear S653 st655 X651 e651
  obtain ⟨fs, hr, hrun, hended, hW, hsame⟩ := X655.leave (v := some (.ref t1)) (fun h => by first | rfl | (rw [Bd.returns] at h; cases h))
  refine ⟨_, _, S656 _ ?_, hrun, hended, _, _, rfl, ?_, ⟨_, rfl⟩, hW, hsame.mono (by decide) (by decide)⟩
  · exact retOut X655 hx Bd.returns rfl (Or.inr (Or.inr (Or.inr (Or.inr ⟨rfl, rfl, rfl⟩)))) (hb hby d9_8) hr
  · show Q_ltb Z  h0 n0 _ T655.heap _
    rw [e655]
    exact ⟨t1, rfl, N655, K655, sz_t1⟩
abbrev eF_utb (m : MethodId) (x0 : Int32) : JFrame := entryFrame m #[(.int x0)] 2
theorem ef_utb (m : MethodId) (x0 : Int32) : entryFrame m #[(.int x0)] 2 = mkF m 0 #[.val (.int x0), .unset] [] := by first | (simp [entryFrame, mkF, argsToLocals, Value.category]; done) | rfl
theorem pn_utb : plainName "java/lang/StringUTF16" = true := by first | (simp [plainName, overriddenIn]; done) | decide +kernel
def Q_utb (Z : State)  (h0 : Heap) (n0 : Nat) (v : Option Value) (h : Heap) (L : List Loc) : Prop := ∃ t, v = some (.ref t) ∧ Fr n0 L ∧ Keep h0 h [] ∧ h0.size ≤ t
set_option maxRecDepth 65536 in
set_option maxHeartbeats 40000000 in
theorem rm_utb (l : Launch) (Z : State) (a0 : Array Value) (hw : ∀ d ∈ tables_1, d.before a0 Z = true) (ws : List Jvm.Cond) (ch : Int32) (h0 : Heap) (n0 : Nat) (Z0 : n0 ≤ h0.size) (SS : own_St Z) (O0 : Old Z n0 h0) :
    MetFree l (⟨"java/lang/StringUTF16", "toBytes", "(C)[B"⟩ : MethodName) (head1 (Jvm.Cond.code (⟨"java/lang/StringUTF16", "toBytes", "(C)[B"⟩ : MethodName) jdk_52_method_24_code 2 (some (.array .byte)) :: ws) ({ frames := 1, cells := 1, slots := 2, locals := 14 } : Room)) (fun aa U => aa = #[(.int ch)] ∧ Z.Warmed39 U.vm ∧ U.heap = h0) (fun _ _ _ _ _ => True) (fun _ U o U' => ∃ v L, o = .returned v ∧ Q_utb Z  h0 n0 v U'.heap L ∧ FrameEnd U o U' L ({ frames := 1, cells := 1, slots := 2, locals := 14 } : Room).cells ({ frames := 1, cells := 1, slots := 2, locals := 14 } : Room).slots) := by
  refine MetFree.of_bodySF (plainFor_of_name pn_utb) hisR ?_
  intro p e s m args below meth c s₁ Bd hml0 hP hK
  obtain ⟨rfl, hZ, hh⟩ := hP
  have hx := Bd.exec
  have hby := Bd.bytes
  have hml : c.maxLocals = 2 := hml0
  have hown : s.vm.findClass "java/lang/StringUTF16" = some m.cls := findClass_of_methodNamed Bd.named
  have hnm := (name_of_methodNamed Bd.named Bd.method).1
  have X0 : Stand p l e ({ frames := 1, cells := 1, slots := 2, locals := 14 } : Room) s m #[(.int ch)] below meth c s₁ [] 0 0 := Stand.of_body Bd
  have e0 : s₁.heap = h0 := by rw [← hh, Bd.state]; rfl
  have N0 := Fr.nil n0
  have S0 : Go p e below s₁ (eF_utb m ch) s₁ (mkF m 0 #[vI ch, vU] []) := fun t k => castTop (ef_utb m ch) k
  obtain ⟨⟨cz, S_cs, hcz⟩, ⟨fm, S_fm, hfm⟩, S_ad, S_hi, S_lo⟩ := id SS
  have S657 : Go p e below s₁ (eF_utb m ch) s₁ (mkF m 1 #[vI ch, vU] [(.int (2 : Int32))]) := fun t kt => S0 t (by
    refine XS.iconst X0.here hx rfl (hb hby d25_0) ?_
    show Sp p e below s₁ (mkF m 1 #[vI ch, vU] [(.int (2 : Int32))]) _
    exact kt)
  clear S0
  obtain ⟨T658, h658, k658, X658, e658, E658, A658, st658⟩ := newP X0 hx hZ (own_h hw 20 rfl) e0 (g := (mkF m 1 #[vI ch, vU] [(.int (2 : Int32))])) rfl (hb hby d25_1) rfl (by decide) (cap := 2) (by decide) (by decide) (by decide) (by decide)
  obtain ⟨t1, g658⟩ : ∃ z, z = h0.size := ⟨_, rfl⟩
  rw [← g658] at A658 st658
  have g_t1 : n0 ≤ t1 := Nat.le_trans Z0 (Nat.le_of_eq g658.symm)
  have sz_t1 : h0.size ≤ t1 := Nat.le_trans (Keep.refl h0 []).1 (Nat.le_of_eq g658.symm)
  have K658 : Keep h0 h658 [] := (Keep.refl h0 []).ext E658
  have V658 : Arv Z h658 t1 k658 .byte (2 : Int32) [(.int (0 : Int32)), (.int (0 : Int32))] (.int (0 : Int32)) := (Arv.new A658 (by decide)).pad (pad_rep [] _ 2)
  have S659 : Go p e below s₁ (eF_utb m ch) T658 (mkF m 3 #[vI ch, vU] [(.ref t1)]) := fun t kt => S657 t (st658 t kt)
  clear S657 st658 X0 e0
  have S660 : Go p e below s₁ (eF_utb m ch) T658 (mkF m 7 #[vI ch, vR t1] [(.int ch), (.int (0 : Int32)), (.ref t1)]) := fun t kt => S659 t (by
    refine XS.astoreN X658.here hx rfl (hb hby d25_3) rfl rfl (l' := #[vI ch, vR t1]) rfl ?_
    show Sp p e below T658 (mkF m 4 #[vI ch, vR t1] []) _
    refine XS.aloadN X658.here hx rfl (hb hby d25_4) rfl rfl ?_
    show Sp p e below T658 (mkF m 5 #[vI ch, vR t1] [(.ref t1)]) _
    refine XS.iconst X658.here hx rfl (hb hby d25_5) ?_
    show Sp p e below T658 (mkF m 6 #[vI ch, vR t1] [(.int (0 : Int32)), (.ref t1)]) _
    refine XS.iloadN X658.here hx rfl (hb hby d25_6) rfl ?_
    show Sp p e below T658 (mkF m 7 #[vI ch, vR t1] [(.int ch), (.int (0 : Int32)), (.ref t1)]) _
    exact kt)
  clear S659
  have f661 := (O0.ext E658)
  obtain ⟨v662, T662, L662, X662, hQ662, st662⟩ := own_outS (Jvm.LawKit.callS X658 hx (y := (⟨"java/lang/StringUTF16", "putChar", "([BII)V"⟩ : MethodName)) hown (mvT hZ (own_h hw 98 rfl)) (mvT hZ (own_h hw 99 rfl)) (mvT hZ (own_h hw 18 rfl)) (mvT hZ (own_h hw 100 rfl)) (by decide) (backOf (W := 0) (rm_pch l Z a0 hw [] t1 (0 : Int32) ch k658 (2 : Int32) [(.int (0 : Int32)), (.int (0 : Int32))] 0 h658 n0 (Nat.le_trans Z0 E658.1) SS f661 V658 (by decide) (by decide) (by decide) (by decide) (Nat.le_of_ble_eq_true rfl) g_t1) hZ (own_h hw 100 rfl) (own_h hw 18 rfl) (by decide) (by decide)) (g := (mkF m 7 #[vI ch, vR t1] [(.int ch), (.int (0 : Int32)), (.ref t1)])) rfl (by rw [hml]; rfl) (argsL := [(.ref t1), (.int (0 : Int32)), (.int ch)]) (rest := []) (lenOf pd___BII_V rfl) rfl (by show 2 * 0 + _ ≤ _; exact Nat.le_of_eq rfl) (hb hby d25_7) (fun _ _ => ⟨rfl, e658, (by decide : 1 + 0 ≤ _), (by decide : 2 + 0 ≤ _)⟩))
  obtain ⟨rfl, N662q, K662, V662⟩ := hQ662
  have N662 := Fr.app N0 N662q
  have KK662 : Keep h0 T662.heap [] := K658.trans K662 (allS (Or.inr sz_t1) all0)
  have S663 : Go p e below s₁ (eF_utb m ch) T662 (mkF m 10 #[vI ch, vR t1] []) := fun t kt => S660 t (st662 t kt)
  clear S660 st662 X658 e658
  have S664 : Go p e below s₁ (eF_utb m ch) T662 (mkF m 11 #[vI ch, vR t1] [(.ref t1)]) := fun t kt => S663 t (by
    refine XS.aloadN X662.here hx rfl (hb hby d25_10) rfl rfl ?_
    show Sp p e below T662 (mkF m 11 #[vI ch, vR t1] [(.ref t1)]) _
    exact kt)
  clear S663
  obtain ⟨fs, hr, hrun, hended, hW, hsame⟩ := X662.leave (v := some (.ref t1)) (fun h => by first | rfl | (rw [Bd.returns] at h; cases h))
  refine ⟨_, _, S664 _ ?_, hrun, hended, _, _, rfl, ?_, ⟨_, rfl⟩, hW, hsame.mono (by decide) (by decide)⟩
  · exact retOut X662 hx Bd.returns rfl (Or.inr (Or.inr (Or.inr (Or.inr ⟨rfl, rfl, rfl⟩)))) (hb hby d25_11) hr
  · show Q_utb Z  h0 n0 _ T662.heap _
    exact ⟨t1, rfl, N662, KK662, sz_t1⟩
abbrev eF_ibb (m : MethodId) (x0 : Addr) (x1 : Addr) (x2 : Int32) : JFrame := entryFrame m #[(.ref x0), (.ref x1), (.int x2)] 3
theorem ef_ibb (m : MethodId) (x0 : Addr) (x1 : Addr) (x2 : Int32) : entryFrame m #[(.ref x0), (.ref x1), (.int x2)] 3 = mkF m 0 #[.val (.ref x0), .val (.ref x1), .val (.int x2)] [] := by first | (simp [entryFrame, mkF, argsToLocals, Value.category]; done) | rfl
theorem pn_ibb : plainName "java/lang/String" = true := by first | (simp [plainName, overriddenIn]; done) | decide +kernel
def Q_ibb (Z : State) (x : Addr) (h0 : Heap) (n0 : Nat) (v : Option Value) (h : Heap) (L : List Loc) : Prop := v = none ∧ Fr n0 L ∧ Keep h0 h [x]
set_option maxRecDepth 65536 in
set_option maxHeartbeats 40000000 in
theorem rm_ibb (l : Launch) (Z : State) (a0 : Array Value) (hw : ∀ d ∈ tables_1, d.before a0 Z = true) (ws : List Jvm.Cond) (x : Addr) (tt : Addr) (cd : Int32) (h0 : Heap) (n0 : Nat) (Z0 : n0 ≤ h0.size) (E0 : Exa Z h0 x "java/lang/String") (F1 : Fld Z h0 x "java/lang/String" "coder" "B" (.int (0 : Int32))) (F2 : Fld Z h0 x "java/lang/String" "value" "[B" .null) (g_x : n0 ≤ x) :
    MetFree l (⟨"java/lang/String", "<init>", "([BB)V"⟩ : MethodName) (head1 (Jvm.Cond.code (⟨"java/lang/String", "<init>", "([BB)V"⟩ : MethodName) jdk_42_method_151_code 3 none :: ws) ({ frames := 1, cells := 0, slots := 0, locals := 12 } : Room)) (fun aa U => aa = #[(.ref x), (.ref tt), (.int cd)] ∧ Z.Warmed39 U.vm ∧ U.heap = h0) (fun _ _ _ _ _ => True) (fun _ U o U' => ∃ v L, o = .returned v ∧ Q_ibb Z x h0 n0 v U'.heap L ∧ FrameEnd U o U' L ({ frames := 1, cells := 0, slots := 0, locals := 12 } : Room).cells ({ frames := 1, cells := 0, slots := 0, locals := 12 } : Room).slots) := by
  refine MetFree.of_bodySF (plainFor_of_name pn_ibb) hisR ?_
  intro p e s m args below meth c s₁ Bd hml0 hP hK
  obtain ⟨rfl, hZ, hh⟩ := hP
  have hx := Bd.exec
  have hby := Bd.bytes
  have hml : c.maxLocals = 3 := hml0
  have hown : s.vm.findClass "java/lang/String" = some m.cls := findClass_of_methodNamed Bd.named
  have hnm := (name_of_methodNamed Bd.named Bd.method).1
  have X0 : Stand p l e ({ frames := 1, cells := 0, slots := 0, locals := 12 } : Room) s m #[(.ref x), (.ref tt), (.int cd)] below meth c s₁ [] 0 0 := Stand.of_body Bd
  have e0 : s₁.heap = h0 := by rw [← hh, Bd.state]; rfl
  have N0 := Fr.nil n0
  have S0 : Go p e below s₁ (eF_ibb m x tt cd) s₁ (mkF m 0 #[vR x, vR tt, vI cd] []) := fun t k => castTop (ef_ibb m x tt cd) k
  have S665 : Go p e below s₁ (eF_ibb m x tt cd) s₁ (mkF m 1 #[vR x, vR tt, vI cd] [(.ref x)]) := fun t kt => S0 t (by
    refine XS.aloadN X0.here hx rfl (hb hby d10_0) rfl rfl ?_
    show Sp p e below s₁ (mkF m 1 #[vR x, vR tt, vI cd] [(.ref x)]) _
    exact kt)
  clear S0
  obtain ⟨T666, X666, e666, st666⟩ := initO X0 hx hZ hown (own_h hw 12 rfl) (own_h hw 13 rfl) (own_h hw 14 rfl) e0 (g := (mkF m 1 #[vR x, vR tt, vI cd] [(.ref x)])) rfl (by rw [hml]; rfl) rfl (hb hby d10_1) (by decide) (W := 0) (by show 2 * 0 + _ ≤ _; exact Nat.le_of_eq rfl) (by decide)
  have S667 : Go p e below s₁ (eF_ibb m x tt cd) T666 (mkF m 4 #[vR x, vR tt, vI cd] []) := fun t kt => S665 t (st666 t kt)
  clear S665 st666 X0 e0
  have S668 : Go p e below s₁ (eF_ibb m x tt cd) T666 (mkF m 6 #[vR x, vR tt, vI cd] [(.ref tt), (.ref x)]) := fun t kt => S667 t (by
    refine XS.aloadN X666.here hx rfl (hb hby d10_4) rfl rfl ?_
    show Sp p e below T666 (mkF m 5 #[vR x, vR tt, vI cd] [(.ref x)]) _
    refine XS.aloadN X666.here hx rfl (hb hby d10_5) rfl rfl ?_
    show Sp p e below T666 (mkF m 6 #[vR x, vR tt, vI cd] [(.ref tt), (.ref x)]) _
    exact kt)
  clear S667
  obtain ⟨T669, h669, X669, e669, W669, st669⟩ := putF X666 hx hZ hown (host := "") (Or.inl (own_h hw 29 rfl)) Via.refl e666 F2 E0 (Or.inr ⟨(own_h hw 30 rfl), rfl, hnm⟩) (own_h hw 3 rfl) (ty := (.array .byte)) (by decide) rfl rfl (g := (mkF m 6 #[vR x, vR tt, vI cd] [(.ref tt), (.ref x)])) rfl rfl (hb hby d10_6)
  have N669 := Fr.snoc X669 N0 g_x
  have K669 : Keep h0 h669 [x] := (Keep.refl h0 [x]).wr W669 (Or.inl (by simp))
  have Fw669 := F2.same W669
  have S670 : Go p e below s₁ (eF_ibb m x tt cd) T669 (mkF m 9 #[vR x, vR tt, vI cd] []) := fun t kt => S668 t (st669 t kt)
  clear S668 st669 X666 e666
  have S671 : Go p e below s₁ (eF_ibb m x tt cd) T669 (mkF m 11 #[vR x, vR tt, vI cd] [(.int cd), (.ref x)]) := fun t kt => S670 t (by
    refine XS.aloadN X669.here hx rfl (hb hby d10_9) rfl rfl ?_
    show Sp p e below T669 (mkF m 10 #[vR x, vR tt, vI cd] [(.ref x)]) _
    refine XS.iloadN X669.here hx rfl (hb hby d10_10) rfl ?_
    show Sp p e below T669 (mkF m 11 #[vR x, vR tt, vI cd] [(.int cd), (.ref x)]) _
    exact kt)
  clear S670
  have f672 := (F1.other W669 (Or.inr (slot_ne (C := "java/lang/String") (Or.inr (own_h hw 28 rfl)) (Or.inr (own_h hw 30 rfl)) (by decide) (t := .byte) (t' := (.array .byte)) (by decide) (by decide))))
  have f673 := (E0.wr W669)
  obtain ⟨T674, h674, X674, e674, W674, st674⟩ := putFN X669 hx hZ hown (own_h hw 27 rfl) Via.refl e669 f672 f673 (Or.inr ⟨(own_h hw 28 rfl), rfl, hnm⟩) (own_h hw 3 rfl) (ty := .byte) (v' := .int (cd.toInt8.toInt32)) (by decide) rfl (fits_nar_byte _) (g := (mkF m 11 #[vR x, vR tt, vI cd] [(.int cd), (.ref x)])) rfl rfl (hb hby d10_11)
  have N674 := Fr.snoc X674 N669 g_x
  have K674 : Keep h0 h674 [x] := K669.wr W674 (Or.inl (by simp))
  have Fw674 := f672.same W674
  have S675 : Go p e below s₁ (eF_ibb m x tt cd) T674 (mkF m 14 #[vR x, vR tt, vI cd] []) := fun t kt => S671 t (st674 t kt)
  clear S671 st674 X669 e669
  obtain ⟨fs, hr, hrun, hended, hW, hsame⟩ := X674.leave (v := none) (fun h => by first | rfl | (rw [Bd.returns] at h; cases h))
  refine ⟨_, _, S675 _ ?_, hrun, hended, _, _, rfl, ?_, ⟨_, rfl⟩, hW, hsame.mono (by decide) (by decide)⟩
  · exact X674.returnOut hx Bd.returns (hb hby d10_14) hr
  · show Q_ibb Z x h0 n0 _ T674.heap _
    rw [e674]
    exact ⟨rfl, N674, K674⟩
abbrev eF_vof (m : MethodId) (x0 : Int32) : JFrame := entryFrame m #[(.int x0)] 1
theorem ef_vof (m : MethodId) (x0 : Int32) : entryFrame m #[(.int x0)] 1 = mkF m 0 #[.val (.int x0)] [] := by first | (simp [entryFrame, mkF, argsToLocals, Value.category]; done) | rfl
theorem pn_vof : plainName "java/lang/String" = true := by first | (simp [plainName, overriddenIn]; done) | decide +kernel
def Q_vof (Z : State)  (h0 : Heap) (n0 : Nat) (v : Option Value) (h : Heap) (L : List Loc) : Prop := ∃ t, v = some (.ref t) ∧ Fr n0 L ∧ Keep h0 h []
set_option maxRecDepth 65536 in
set_option maxHeartbeats 40000000 in
theorem rm_vof (l : Launch) (Z : State) (a0 : Array Value) (hw : ∀ d ∈ tables_1, d.before a0 Z = true) (ws : List Jvm.Cond) (ch : Int32) (h0 : Heap) (n0 : Nat) (Z0 : n0 ≤ h0.size) (SS : own_St Z) (O0 : Old Z n0 h0) :
    MetFree l (⟨"java/lang/String", "valueOf", "(C)Ljava/lang/String;"⟩ : MethodName) (head1 (Jvm.Cond.code (⟨"java/lang/String", "valueOf", "(C)Ljava/lang/String;"⟩ : MethodName) jdk_42_method_139_code 1 (some (.object "java/lang/String")) :: ws) ({ frames := 2, cells := 2, slots := 6, locals := 29 } : Room)) (fun aa U => aa = #[(.int ch)] ∧ Z.Warmed39 U.vm ∧ U.heap = h0) (fun _ _ _ _ _ => True) (fun _ U o U' => ∃ v L, o = .returned v ∧ Q_vof Z  h0 n0 v U'.heap L ∧ FrameEnd U o U' L ({ frames := 2, cells := 2, slots := 6, locals := 29 } : Room).cells ({ frames := 2, cells := 2, slots := 6, locals := 29 } : Room).slots) := by
  refine MetFree.of_bodySF (plainFor_of_name pn_vof) hisR ?_
  intro p e s m args below meth c s₁ Bd hml0 hP hK
  obtain ⟨rfl, hZ, hh⟩ := hP
  have hx := Bd.exec
  have hby := Bd.bytes
  have hml : c.maxLocals = 1 := hml0
  have hown : s.vm.findClass "java/lang/String" = some m.cls := findClass_of_methodNamed Bd.named
  have hnm := (name_of_methodNamed Bd.named Bd.method).1
  have X0 : Stand p l e ({ frames := 2, cells := 2, slots := 6, locals := 29 } : Room) s m #[(.int ch)] below meth c s₁ [] 0 0 := Stand.of_body Bd
  have e0 : s₁.heap = h0 := by rw [← hh, Bd.state]; rfl
  have N0 := Fr.nil n0
  have S0 : Go p e below s₁ (eF_vof m ch) s₁ (mkF m 0 #[vI ch] []) := fun t k => castTop (ef_vof m ch) k
  obtain ⟨⟨cz, S_cs, hcz⟩, ⟨fm, S_fm, hfm⟩, S_ad, S_hi, S_lo⟩ := id SS
  obtain ⟨T676, X676, e676, st676⟩ := getS2 X0 hx hZ hown (host := "") (Or.inl (own_h hw 15 rfl)) Via.refl e0 (S_cs.ext O0.2) (g := (mkF m 0 #[vI ch] [])) rfl (hb hby d7_0)
  have S677 : Go p e below s₁ (eF_vof m ch) T676 (mkF m 3 #[vI ch] [(.int cz)]) := fun t kt => S0 t (st676 t kt)
  clear S0 st676 X0 e0
  have S678 : Go p e below s₁ (eF_vof m ch) T676 (mkF m 7 #[vI ch] [(.int ch)]) := fun t kt => S677 t (by
    refine XS.ifNo X676.here hx rfl (hb hby d7_3) rfl ((if0 _ _).trans (feq (show ¬ (cz = (0 : Int32)) from hcz)).1) ?_
    show Sp p e below T676 (mkF m 6 #[vI ch] []) _
    refine XS.iloadN X676.here hx rfl (hb hby d7_6) rfl ?_
    show Sp p e below T676 (mkF m 7 #[vI ch] [(.int ch)]) _
    exact kt)
  clear S677
  obtain ⟨v679, T679, L679, X679, hQ679, st679⟩ := own_outS (Jvm.LawKit.callS X676 hx (y := (⟨"java/lang/StringLatin1", "canEncode", "(C)Z"⟩ : MethodName)) hown (mvT hZ (own_h hw 34 rfl)) (mvT hZ (own_h hw 35 rfl)) (mvT hZ (own_h hw 36 rfl)) (mvT hZ (own_h hw 37 rfl)) (by decide) (backOf (W := 0) (rm_can l Z a0 hw [] ch h0 n0 Z0) hZ (own_h hw 37 rfl) (own_h hw 36 rfl) (by decide) (by decide)) (g := (mkF m 7 #[vI ch] [(.int ch)])) rfl (by rw [hml]; rfl) (argsL := [(.int ch)]) (rest := []) (lenOf pd__C_Z rfl) rfl (by show 2 * 0 + _ ≤ _; exact Nat.le_of_eq rfl) (hb hby d7_7) (fun _ _ => ⟨rfl, e676, (by decide : 0 + 0 ≤ _), (by decide : 0 + 0 ≤ _)⟩))
  obtain ⟨r, rfl, N679q, e679⟩ := hQ679
  have N679 := Fr.app N0 N679q
  have S680 : Go p e below s₁ (eF_vof m ch) T679 (mkF m 10 #[vI ch] [(.int r)]) := fun t kt => S678 t (st679 t kt)
  clear S678 st679 X676 e676
  by_cases hr : r = (0 : Int32)
  · have S681 : Go p e below s₁ (eF_vof m ch) T679 (mkF m 26 #[vI ch] []) := fun t kt => S680 t (by
      refine XS.ifYes X679.here hx rfl (pc0 := 10) (pc' := 26) rfl (hb hby d7_10) rfl ((if0 _ _).trans (teq (show r = (0 : Int32) from hr)).1) (by decide) (by decide) ?_
      show Sp p e below T679 (mkF m 26 #[vI ch] []) _
      exact kt)
    clear S680
    obtain ⟨T682, h682, X682, e682, E682, A682, D682, -, st682⟩ := newO X679 hx hZ hown (own_h hw 38 rfl) (own_h hw 3 rfl) (own_h hw 4 rfl) e679 (g := (mkF m 26 #[vI ch] [])) rfl (hb hby d7_26) (by decide) (by decide)
    obtain ⟨x1, g682⟩ : ∃ z, z = h0.size := ⟨_, rfl⟩
    rw [← g682] at A682 D682 st682
    have g_x1 : n0 ≤ x1 := Nat.le_trans Z0 (Nat.le_of_eq g682.symm)
    have sz_x1 : h0.size ≤ x1 := Nat.le_trans (Keep.refl h0 []).1 (Nat.le_of_eq g682.symm)
    have K682 : Keep h0 h682 [] := (Keep.refl h0 []).ext E682
    have F_coder_x1 : Fld Z h682 x1 "java/lang/String" "coder" "B" (.int (0 : Int32)) := D682 (Or.inr (own_h hw 28 rfl)) (ty := .byte) (by decide)
    have F_value_x1 : Fld Z h682 x1 "java/lang/String" "value" "[B" .null := D682 (Or.inr (own_h hw 30 rfl)) (ty := (.array .byte)) (by decide)
    have S683 : Go p e below s₁ (eF_vof m ch) T682 (mkF m 29 #[vI ch] [(.ref x1)]) := fun t kt => S681 t (st682 t kt)
    clear S681 st682 X679 e679
    have S684 : Go p e below s₁ (eF_vof m ch) T682 (mkF m 31 #[vI ch] [(.int ch), (.ref x1), (.ref x1)]) := fun t kt => S683 t (by
      refine XS.dup X682.here hx rfl (hb hby d7_29) rfl rfl ?_
      show Sp p e below T682 (mkF m 30 #[vI ch] [(.ref x1), (.ref x1)]) _
      refine XS.iloadN X682.here hx rfl (hb hby d7_30) rfl ?_
      show Sp p e below T682 (mkF m 31 #[vI ch] [(.int ch), (.ref x1), (.ref x1)]) _
      exact kt)
    clear S683
    have f685 := (O0.ext E682)
    obtain ⟨v686, T686, L686, X686, hQ686, st686⟩ := own_outS (Jvm.LawKit.callS X682 hx (y := (⟨"java/lang/StringUTF16", "toBytes", "(C)[B"⟩ : MethodName)) hown (mvT hZ (own_h hw 107 rfl)) (mvT hZ (own_h hw 108 rfl)) (mvT hZ (own_h hw 18 rfl)) (mvT hZ (own_h hw 109 rfl)) (by decide) (backOf (W := 2) (rm_utb l Z a0 hw [] ch h682 n0 (Nat.le_trans Z0 E682.1) SS f685) hZ (own_h hw 109 rfl) (own_h hw 18 rfl) (by decide) (by decide)) (g := (mkF m 31 #[vI ch] [(.int ch), (.ref x1), (.ref x1)])) rfl (by rw [hml]; rfl) (argsL := [(.int ch)]) (rest := [(.ref x1), (.ref x1)]) (lenOf pd__C__B rfl) rfl (by show 2 * 0 + _ ≤ _; exact Nat.le_of_eq rfl) (hb hby d7_31) (fun _ _ => ⟨rfl, e682, (by decide : 1 + 1 ≤ _), (by decide : 4 + 2 ≤ _)⟩))
    obtain ⟨t1, rfl, N686q, K686, sz686⟩ := hQ686
    have N686 := Fr.app N679 N686q
    have KK686 : Keep h0 T686.heap [] := K682.trans K686 all0
    have sz_t1 : h0.size ≤ t1 := Nat.le_trans K682.1 sz686
    have g_t1 : n0 ≤ t1 := Nat.le_trans (Nat.le_trans Z0 E682.1) sz686
    have S687 : Go p e below s₁ (eF_vof m ch) T686 (mkF m 34 #[vI ch] [(.ref t1), (.ref x1), (.ref x1)]) := fun t kt => S684 t (st686 t kt)
    clear S684 st686 X682 e682
    have S688 : Go p e below s₁ (eF_vof m ch) T686 (mkF m 35 #[vI ch] [(.int (1 : Int32)), (.ref t1), (.ref x1), (.ref x1)]) := fun t kt => S687 t (by
      refine XS.iconst X686.here hx rfl (hb hby d7_34) ?_
      show Sp p e below T686 (mkF m 35 #[vI ch] [(.int (1 : Int32)), (.ref t1), (.ref x1), (.ref x1)]) _
      exact kt)
    clear S687
    have f689 := (A682.keep K686)
    have f690 := (F_coder_x1.keep K686 nin0)
    have f691 := (F_value_x1.keep K686 nin0)
    obtain ⟨v692, T692, L692, X692, hQ692, st692⟩ := own_outV (X686.specialBack hx (y := (⟨"java/lang/String", "<init>", "([BB)V"⟩ : MethodName)) rfl hown (mvT hZ (own_h hw 42 rfl)) (mvT hZ (own_h hw 43 rfl)) (mvT hZ (own_h hw 44 rfl)) (by decide) (backOf (W := 1) (rm_ibb l Z a0 hw [] x1 t1 (1 : Int32) T686.heap n0 (Nat.le_trans (Nat.le_trans Z0 E682.1) K686.1) f689 f690 f691 g_x1) hZ (own_h hw 44 rfl) (own_h hw 4 rfl) (by decide) (by decide)) (g := (mkF m 35 #[vI ch] [(.int (1 : Int32)), (.ref t1), (.ref x1), (.ref x1)])) rfl (by rw [hml]; rfl) (Steps.refl _) (a := x1) (argsL := [(.ref t1), (.int (1 : Int32))]) (rest := [(.ref x1)]) (lenOf pd___BB_V rfl) rfl (by show 2 * 0 + _ ≤ _; exact Nat.le_of_eq rfl) (hb hby d7_35) (fun _ _ => ⟨rfl, rfl, (by decide : 2 + 0 ≤ _), (by decide : 6 + 0 ≤ _)⟩))
    obtain ⟨rfl, N692q, K692⟩ := hQ692
    have N692 := Fr.app N686 N692q
    have KK692 : Keep h0 T692.heap [] := KK686.trans K692 (allS (Or.inr sz_x1) all0)
    have S693 : Go p e below s₁ (eF_vof m ch) T692 (mkF m 38 #[vI ch] [(.ref x1)]) := fun t kt => S688 t (st692 t kt)
    clear S688 st692 X686
    obtain ⟨fs, hr, hrun, hended, hW, hsame⟩ := X692.leave (v := some (.ref x1)) (fun h => by first | rfl | (rw [Bd.returns] at h; cases h))
    refine ⟨_, _, S693 _ ?_, hrun, hended, _, _, rfl, ?_, ⟨_, rfl⟩, hW, hsame.mono (by decide) (by decide)⟩
    · exact retOut X692 hx Bd.returns rfl (Or.inr (Or.inr (Or.inr (Or.inr ⟨rfl, rfl, rfl⟩)))) (hb hby d7_38) hr
    · show Q_vof Z  h0 n0 _ T692.heap _
      exact ⟨x1, rfl, N692, KK692⟩
  · have S694 : Go p e below s₁ (eF_vof m ch) T679 (mkF m 13 #[vI ch] []) := fun t kt => S680 t (by
      refine XS.ifNo X679.here hx rfl (hb hby d7_10) rfl ((if0 _ _).trans (feq (show ¬ (r = (0 : Int32)) from hr)).1) ?_
      show Sp p e below T679 (mkF m 13 #[vI ch] []) _
      exact kt)
    clear S680
    obtain ⟨T695, h695, X695, e695, E695, A695, D695, -, st695⟩ := newO X679 hx hZ hown (own_h hw 38 rfl) (own_h hw 3 rfl) (own_h hw 4 rfl) e679 (g := (mkF m 13 #[vI ch] [])) rfl (hb hby d7_13) (by decide) (by decide)
    obtain ⟨x1, g695⟩ : ∃ z, z = h0.size := ⟨_, rfl⟩
    rw [← g695] at A695 D695 st695
    have g_x1 : n0 ≤ x1 := Nat.le_trans Z0 (Nat.le_of_eq g695.symm)
    have sz_x1 : h0.size ≤ x1 := Nat.le_trans (Keep.refl h0 []).1 (Nat.le_of_eq g695.symm)
    have K695 : Keep h0 h695 [] := (Keep.refl h0 []).ext E695
    have F_coder_x1 : Fld Z h695 x1 "java/lang/String" "coder" "B" (.int (0 : Int32)) := D695 (Or.inr (own_h hw 28 rfl)) (ty := .byte) (by decide)
    have F_value_x1 : Fld Z h695 x1 "java/lang/String" "value" "[B" .null := D695 (Or.inr (own_h hw 30 rfl)) (ty := (.array .byte)) (by decide)
    have S696 : Go p e below s₁ (eF_vof m ch) T695 (mkF m 16 #[vI ch] [(.ref x1)]) := fun t kt => S694 t (st695 t kt)
    clear S694 st695 X679 e679
    have S697 : Go p e below s₁ (eF_vof m ch) T695 (mkF m 18 #[vI ch] [(.int ch), (.ref x1), (.ref x1)]) := fun t kt => S696 t (by
      refine XS.dup X695.here hx rfl (hb hby d7_16) rfl rfl ?_
      show Sp p e below T695 (mkF m 17 #[vI ch] [(.ref x1), (.ref x1)]) _
      refine XS.iloadN X695.here hx rfl (hb hby d7_17) rfl ?_
      show Sp p e below T695 (mkF m 18 #[vI ch] [(.int ch), (.ref x1), (.ref x1)]) _
      exact kt)
    clear S696
    obtain ⟨v698, T698, L698, X698, hQ698, st698⟩ := own_outS (Jvm.LawKit.callS X695 hx (y := (⟨"java/lang/StringLatin1", "toBytes", "(C)[B"⟩ : MethodName)) hown (mvT hZ (own_h hw 39 rfl)) (mvT hZ (own_h hw 40 rfl)) (mvT hZ (own_h hw 36 rfl)) (mvT hZ (own_h hw 41 rfl)) (by decide) (backOf (W := 2) (rm_ltb l Z a0 hw [] ch h695 n0 (Nat.le_trans Z0 E695.1)) hZ (own_h hw 41 rfl) (own_h hw 36 rfl) (by decide) (by decide)) (g := (mkF m 18 #[vI ch] [(.int ch), (.ref x1), (.ref x1)])) rfl (by rw [hml]; rfl) (argsL := [(.int ch)]) (rest := [(.ref x1), (.ref x1)]) (lenOf pd__C__B rfl) rfl (by show 2 * 0 + _ ≤ _; exact Nat.le_of_eq rfl) (hb hby d7_18) (fun _ _ => ⟨rfl, e695, (by decide : 1 + 1 ≤ _), (by decide : 4 + 1 ≤ _)⟩))
    obtain ⟨t1, rfl, N698q, K698, sz698⟩ := hQ698
    have N698 := Fr.app N679 N698q
    have KK698 : Keep h0 T698.heap [] := K695.trans K698 all0
    have sz_t1 : h0.size ≤ t1 := Nat.le_trans K695.1 sz698
    have g_t1 : n0 ≤ t1 := Nat.le_trans (Nat.le_trans Z0 E695.1) sz698
    have S699 : Go p e below s₁ (eF_vof m ch) T698 (mkF m 21 #[vI ch] [(.ref t1), (.ref x1), (.ref x1)]) := fun t kt => S697 t (st698 t kt)
    clear S697 st698 X695 e695
    have S700 : Go p e below s₁ (eF_vof m ch) T698 (mkF m 22 #[vI ch] [(.int (0 : Int32)), (.ref t1), (.ref x1), (.ref x1)]) := fun t kt => S699 t (by
      refine XS.iconst X698.here hx rfl (hb hby d7_21) ?_
      show Sp p e below T698 (mkF m 22 #[vI ch] [(.int (0 : Int32)), (.ref t1), (.ref x1), (.ref x1)]) _
      exact kt)
    clear S699
    have f701 := (A695.keep K698)
    have f702 := (F_coder_x1.keep K698 nin0)
    have f703 := (F_value_x1.keep K698 nin0)
    obtain ⟨v704, T704, L704, X704, hQ704, st704⟩ := own_outV (X698.specialBack hx (y := (⟨"java/lang/String", "<init>", "([BB)V"⟩ : MethodName)) rfl hown (mvT hZ (own_h hw 42 rfl)) (mvT hZ (own_h hw 43 rfl)) (mvT hZ (own_h hw 44 rfl)) (by decide) (backOf (W := 1) (rm_ibb l Z a0 hw [] x1 t1 (0 : Int32) T698.heap n0 (Nat.le_trans (Nat.le_trans Z0 E695.1) K698.1) f701 f702 f703 g_x1) hZ (own_h hw 44 rfl) (own_h hw 4 rfl) (by decide) (by decide)) (g := (mkF m 22 #[vI ch] [(.int (0 : Int32)), (.ref t1), (.ref x1), (.ref x1)])) rfl (by rw [hml]; rfl) (Steps.refl _) (a := x1) (argsL := [(.ref t1), (.int (0 : Int32))]) (rest := [(.ref x1)]) (lenOf pd___BB_V rfl) rfl (by show 2 * 0 + _ ≤ _; exact Nat.le_of_eq rfl) (hb hby d7_22) (fun _ _ => ⟨rfl, rfl, (by decide : 2 + 0 ≤ _), (by decide : 5 + 0 ≤ _)⟩))
    obtain ⟨rfl, N704q, K704⟩ := hQ704
    have N704 := Fr.app N698 N704q
    have KK704 : Keep h0 T704.heap [] := KK698.trans K704 (allS (Or.inr sz_x1) all0)
    have S705 : Go p e below s₁ (eF_vof m ch) T704 (mkF m 25 #[vI ch] [(.ref x1)]) := fun t kt => S700 t (st704 t kt)
    clear S700 st704 X698
    obtain ⟨fs, hr, hrun, hended, hW, hsame⟩ := X704.leave (v := some (.ref x1)) (fun h => by first | rfl | (rw [Bd.returns] at h; cases h))
    refine ⟨_, _, S705 _ ?_, hrun, hended, _, _, rfl, ?_, ⟨_, rfl⟩, hW, hsame.mono (by decide) (by decide)⟩
    · exact retOut X704 hx Bd.returns rfl (Or.inr (Or.inr (Or.inr (Or.inr ⟨rfl, rfl, rfl⟩)))) (hb hby d7_25) hr
    · show Q_vof Z  h0 n0 _ T704.heap _
      exact ⟨x1, rfl, N704, KK704⟩
abbrev eF_req (m : MethodId) (x0 : Addr) (x1 : Addr) : JFrame := entryFrame m #[(.ref x0), (.ref x1)] 2
theorem ef_req (m : MethodId) (x0 : Addr) (x1 : Addr) : entryFrame m #[(.ref x0), (.ref x1)] 2 = mkF m 0 #[.val (.ref x0), .val (.ref x1)] [] := by first | (simp [entryFrame, mkF, argsToLocals, Value.category]; done) | rfl
theorem pn_req : plainName "com/example/upper_ward/upperward/auth/SigningChecks" = true := by first | (simp [plainName, overriddenIn]; done) | decide +kernel
def Q_req (Z : State) (a : Addr) (h0 : Heap) (n0 : Nat) (v : Option Value) (h : Heap) (L : List Loc) : Prop := v = some (.ref a) ∧ Fr n0 L ∧ h = h0
set_option maxRecDepth 65536 in
set_option maxHeartbeats 40000000 in
theorem rm_req (l : Launch) (Z : State) (a0 : Array Value) (hw : ∀ d ∈ tables_1, d.before a0 Z = true) (ws : List Jvm.Cond) (a : Addr) (nm : Addr) (b : Addr) (k : ClassId) (n : Int32) (vs : List Value) (cd : Int32) (cs : List Int32) (h0 : Heap) (n0 : Nat) (Z0 : n0 ≤ h0.size) (SS : own_St Z) (O0 : Old Z n0 h0)(E0 : Exa Z h0 a "java/lang/String") (F1 : Fld Z h0 a "java/lang/String" "coder" "B" (.int cd)) (F2 : Fld Z h0 a "java/lang/String" "value" "[B" (.ref b)) (V0 : Arv Z h0 b k .byte n vs (.int (0 : Int32))) (hcd : StrChars.Road.CodA cs cd n vs) (hb0 : ∀ z ∈ cs, own_Ch z) (hl : cs.length < 1000) (hne : ¬ cs.length = 0) :
    MetFree l (⟨"com/example/upper_ward/upperward/auth/SigningChecks", "required", "(Ljava/lang/String;Ljava/lang/String;)Ljava/lang/String;"⟩ : MethodName) (head1 (Jvm.Cond.code (⟨"com/example/upper_ward/upperward/auth/SigningChecks", "required", "(Ljava/lang/String;Ljava/lang/String;)Ljava/lang/String;"⟩ : MethodName) prog_12_method_3_code 2 (some (.object "java/lang/String")) :: ws) ({ frames := 1, cells := 0, slots := 0, locals := 12 } : Room)) (fun aa U => aa = #[(.ref a), (.ref nm)] ∧ Z.Warmed39 U.vm ∧ U.heap = h0) (fun _ _ _ _ _ => True) (fun _ U o U' => ∃ v L, o = .returned v ∧ Q_req Z a h0 n0 v U'.heap L ∧ FrameEnd U o U' L ({ frames := 1, cells := 0, slots := 0, locals := 12 } : Room).cells ({ frames := 1, cells := 0, slots := 0, locals := 12 } : Room).slots) := by
  refine MetFree.of_bodySF (plainFor_of_name pn_req) hisR ?_
  intro p e s m args below meth c s₁ Bd hml0 hP hK
  obtain ⟨rfl, hZ, hh⟩ := hP
  have hx := Bd.exec
  have hby := Bd.bytes
  have hml : c.maxLocals = 2 := hml0
  have hown : s.vm.findClass "com/example/upper_ward/upperward/auth/SigningChecks" = some m.cls := findClass_of_methodNamed Bd.named
  have hnm := (name_of_methodNamed Bd.named Bd.method).1
  have X0 : Stand p l e ({ frames := 1, cells := 0, slots := 0, locals := 12 } : Room) s m #[(.ref a), (.ref nm)] below meth c s₁ [] 0 0 := Stand.of_body Bd
  have e0 : s₁.heap = h0 := by rw [← hh, Bd.state]; rfl
  have N0 := Fr.nil n0
  have S0 : Go p e below s₁ (eF_req m a nm) s₁ (mkF m 0 #[vR a, vR nm] []) := fun t k => castTop (ef_req m a nm) k
  obtain ⟨⟨cz, S_cs, hcz⟩, ⟨fm, S_fm, hfm⟩, S_ad, S_hi, S_lo⟩ := id SS
  have hln : ∀ d ∈ StrChars.Road.wordsLen, d.before a0 Z = true := fun d hd => hw d (own_wLen d hd)
  have hem : ∀ d ∈ StrChars.Road.wordsEmp, d.before a0 Z = true := fun d hd => hw d (own_wEmp d hd)
  have S706 : Go p e below s₁ (eF_req m a nm) s₁ (mkF m 5 #[vR a, vR nm] [(.ref a)]) := fun t kt => S0 t (by
    refine XS.aloadN X0.here hx rfl (hb hby d11_0) rfl rfl ?_
    show Sp p e below s₁ (mkF m 1 #[vR a, vR nm] [(.ref a)]) _
    refine XS.ifnullNo X0.here hx rfl (hb hby d11_1) rfl ?_
    show Sp p e below s₁ (mkF m 4 #[vR a, vR nm] []) _
    refine XS.aloadN X0.here hx rfl (hb hby d11_4) rfl rfl ?_
    show Sp p e below s₁ (mkF m 5 #[vR a, vR nm] [(.ref a)]) _
    exact kt)
  clear S0
  obtain ⟨cq707, kq707, q707a, q707b, q707c⟩ := isOf hZ e0 E0
  obtain ⟨v707, T707, L707, X707, hQ707, st707⟩ := own_outV (Q := (fun v h' L => v = some (.int (if cs.length = 0 then 1 else 0)) ∧ L = [] ∧ h' = h0)) (X0.virtualBack hx (y := (⟨"java/lang/String", "isEmpty", "()Z"⟩ : MethodName)) (z := (⟨"java/lang/String", "isEmpty", "()Z"⟩ : MethodName)) hown (mvT hZ (own_h hw 49 rfl)) (mvT hZ (own_h hw 50 rfl)) (notFace_of_selects (args := #[]) (mvT hZ (own_h hw 52 rfl))) (mvT hZ (own_h hw 52 rfl)) (mvT hZ (own_h hw 51 rfl)) (by decide) (StrChars.Road.empW (W := 0) hZ hem (kI := 4) (own_h hw 3 rfl) E0 F2 F1 V0 hcd hb0 (by omega) (by decide) (by decide)) q707a q707c (g := (mkF m 5 #[vR a, vR nm] [(.ref a)])) rfl (by rw [hml]; rfl) (Steps.refl _) (argsL := []) (rest := []) (lenOf pd___Z rfl) rfl (by show 2 * 0 + _ ≤ _; exact Nat.le_of_eq rfl) (hb hby d11_5) (fun _ _ => ⟨rfl, e0, (by decide : 0 + 0 ≤ _), (by decide : 0 + 0 ≤ _)⟩))
  obtain ⟨rfl, rfl, e707⟩ := hQ707
  have N707 := Fr.app N0 (Fr.nil n0)
  have S708 : Go p e below s₁ (eF_req m a nm) T707 (mkF m 8 #[vR a, vR nm] [(.int (if cs.length = 0 then 1 else 0))]) := fun t kt => S706 t (st707 t kt)
  clear S706 st707 X0 e0
  have q710 : (if cs.length = 0 then 1 else 0) = (0 : Int32) := if_neg hne
  have S709 : Go p e below s₁ (eF_req m a nm) T707 (mkF m 8 #[vR a, vR nm] [(.int (0 : Int32))]) := by have h := S708; rw [q710] at h; exact h
  clear S708
  have S711 : Go p e below s₁ (eF_req m a nm) T707 (mkF m 28 #[vR a, vR nm] [(.ref a)]) := fun t kt => S709 t (by
    refine XS.ifYes X707.here hx rfl (pc0 := 8) (pc' := 27) rfl (hb hby d11_8) rfl ((if0 _ _).trans (teq (show (0 : Int32) = (0 : Int32) from (by decide))).1) (by decide) (by decide) ?_
    show Sp p e below T707 (mkF m 27 #[vR a, vR nm] []) _
    refine XS.aloadN X707.here hx rfl (hb hby d11_27) rfl rfl ?_
    show Sp p e below T707 (mkF m 28 #[vR a, vR nm] [(.ref a)]) _
    exact kt)
  clear S709
  obtain ⟨fs, hr, hrun, hended, hW, hsame⟩ := X707.leave (v := some (.ref a)) (fun h => by first | rfl | (rw [Bd.returns] at h; cases h))
  refine ⟨_, _, S711 _ ?_, hrun, hended, _, _, rfl, ?_, ⟨_, rfl⟩, hW, hsame.mono (by decide) (by decide)⟩
  · exact retOut X707 hx Bd.returns rfl (Or.inr (Or.inr (Or.inr (Or.inr ⟨rfl, rfl, rfl⟩)))) (hb hby d11_28) hr
  · show Q_req Z a h0 n0 _ T707.heap _
    rw [e707]
    exact ⟨rfl, N707, rfl⟩
abbrev eF_law (m : MethodId) (x0 : Int32) (x1 : Int32) (x2 : Int32) (x3 : Int32) (x4 : Int32) : JFrame := entryFrame m #[(.int x0), (.int x1), (.int x2), (.int x3), (.int x4)] maxLocals
theorem ef_law (m : MethodId) (x0 : Int32) (x1 : Int32) (x2 : Int32) (x3 : Int32) (x4 : Int32) : entryFrame m #[(.int x0), (.int x1), (.int x2), (.int x3), (.int x4)] maxLocals = mkF m 0 #[.val (.int x0), .val (.int x1), .val (.int x2), .val (.int x3), .val (.int x4), .unset, .unset, .unset, .unset, .unset, .unset, .unset, .unset, .unset] [] := by first | (simp [entryFrame, mkF, argsToLocals, Value.category, maxLocals]; done) | rfl
theorem pn_law : plainName "com/example/upper_ward/upperward/auth/SigningChecksRequiredPinLaw" = true := by first | (simp [plainName, overriddenIn]; done) | decide +kernel
def Q_law (Z : State)  (h0 : Heap) (n0 : Nat) (v : Option Value) (h : Heap) (L : List Loc) : Prop := v = some (.int 1) ∧ Fr n0 L
set_option maxRecDepth 65536 in
set_option maxHeartbeats 40000000 in
theorem rm_law (l : Launch) (Z : State) (a0 : Array Value) (hw : ∀ d ∈ tables_1, d.before a0 Z = true) (ws : List Jvm.Cond) (a : Int32) (b : Int32) (d : Int32) (f : Int32) (g : Int32) (h0 : Heap) (n0 : Nat) (Z0 : n0 ≤ h0.size) (SS : own_St Z) (O0 : Old Z n0 h0) :
    MetFree l x (head1 (Jvm.Cond.code x code maxLocals ret :: ws) room_1) (fun aa U => aa = #[(.int a), (.int b), (.int d), (.int f), (.int g)] ∧ Z.Warmed39 U.vm ∧ U.heap = h0) (fun _ _ _ _ _ => True) (fun _ U o U' => ∃ v L, o = .returned v ∧ Q_law Z  h0 n0 v U'.heap L ∧ ReturnedEndW U o U' L 6 26) := by
  refine MetFree.of_bodySF (plainFor_of_name pn_law) hisR ?_
  intro p e s m args below meth c s₁ Bd hml0 hP hK
  obtain ⟨rfl, hZ, hh⟩ := hP
  have hx := Bd.exec
  have hby := Bd.bytes
  have hml : c.maxLocals = 14 := hml0
  have hown : s.vm.findClass "com/example/upper_ward/upperward/auth/SigningChecksRequiredPinLaw" = some m.cls := findClass_of_methodNamed Bd.named
  have hnm := (name_of_methodNamed Bd.named Bd.method).1
  have X0 : Stand p l e room_1 (s.setVm s.vm) m #[(.int a), (.int b), (.int d), (.int f), (.int g)] below meth c s₁ [] 0 0 := Stand.of_body Bd
  have e0 : s₁.heap = h0 := by rw [← hh, Bd.state]; rfl
  have N0 := Fr.nil n0
  have S0 : Go p e below s₁ (eF_law m a b d f g) s₁ (mkF m 0 #[vI a, vI b, vI d, vI f, vI g, vU, vU, vU, vU, vU, vU, vU, vU, vU] []) := fun t k => castTop (ef_law m a b d f g) k
  have hZ : Z.Warmed39 (s.setVm s.vm).vm := hZ
  have hown : (s.setVm s.vm).vm.findClass "com/example/upper_ward/upperward/auth/SigningChecksRequiredPinLaw" = some m.cls := hown
  have hS : s.Since s.vm 0 := (State.WarmedH.refl s).since 0
  have hki0 := Nat.zero_le h0.size
  obtain ⟨⟨cz, S_cs, hcz⟩, ⟨fm, S_fm, hfm⟩, S_ad, S_hi, S_lo⟩ := id SS
  have hln : ∀ d ∈ StrChars.Road.wordsLen, d.before a0 Z = true := fun d hd => hw d (own_wLen d hd)
  have hem : ∀ d ∈ StrChars.Road.wordsEmp, d.before a0 Z = true := fun d hd => hw d (own_wEmp d hd)
  have S712 : Go p e below s₁ (eF_law m a b d f g) s₁ (mkF m 5 #[vI a, vI b, vI d, vI f, vI g, vU, vU, vU, vU, vU, vU, vU, vU, vU] [(.int ((a &&& (65535 : Int32)).toUInt32.toUInt16.toUInt32.toInt32))]) := fun t kt => S0 t (by
    refine XS.iloadN X0.here hx rfl (hb hby at_0) rfl ?_
    show Sp p e below s₁ (mkF m 1 #[vI a, vI b, vI d, vI f, vI g, vU, vU, vU, vU, vU, vU, vU, vU, vU] [(.int a)]) _
    refine X0.ldcInt hx hown (mvT hZ (own_h hw 0 rfl)) (g := (mkF m 1 #[vI a, vI b, vI d, vI f, vI g, vU, vU, vU, vU, vU, vU, vU, vU, vU] [(.int a)])) rfl (hb hby at_1) _ ?_
    show Sp p e below s₁ (mkF m 3 #[vI a, vI b, vI d, vI f, vI g, vU, vU, vU, vU, vU, vU, vU, vU, vU] [(.int (65535 : Int32)), (.int a)]) _
    refine XS.iand X0.here hx rfl (hb hby at_3) rfl ?_
    show Sp p e below s₁ (mkF m 4 #[vI a, vI b, vI d, vI f, vI g, vU, vU, vU, vU, vU, vU, vU, vU, vU] [(.int (a &&& (65535 : Int32)))]) _
    refine XS.i2c X0.here hx rfl (hb hby at_4) rfl ?_
    show Sp p e below s₁ (mkF m 5 #[vI a, vI b, vI d, vI f, vI g, vU, vU, vU, vU, vU, vU, vU, vU, vU] [(.int ((a &&& (65535 : Int32)).toUInt32.toUInt16.toUInt32.toInt32))]) _
    exact kt)
  clear S0
  obtain ⟨c0, q_c0⟩ : ∃ z : Int32, z = ((a &&& (65535 : Int32)).toUInt32.toUInt16.toUInt32.toInt32) := ⟨_, rfl⟩
  have S713 : Go p e below s₁ (eF_law m a b d f g) s₁ (mkF m 5 #[vI a, vI b, vI d, vI f, vI g, vU, vU, vU, vU, vU, vU, vU, vU, vU] [(.int c0)]) := by subst q_c0; exact S712
  clear S712
  have hc0 : own_Ch c0 := by rw [q_c0]; exact own_chr _
  have S714 : Go p e below s₁ (eF_law m a b d f g) s₁ (mkF m 12 #[vI a, vI b, vI d, vI f, vI g, vI c0, vU, vU, vU, vU, vU, vU, vU, vU] [(.int ((b &&& (65535 : Int32)).toUInt32.toUInt16.toUInt32.toInt32))]) := fun t kt => S713 t (by
    refine XS.istore X0.here hx rfl (hb hby at_5) rfl (l' := #[vI a, vI b, vI d, vI f, vI g, vI c0, vU, vU, vU, vU, vU, vU, vU, vU]) rfl ?_
    show Sp p e below s₁ (mkF m 7 #[vI a, vI b, vI d, vI f, vI g, vI c0, vU, vU, vU, vU, vU, vU, vU, vU] []) _
    refine XS.iloadN X0.here hx rfl (hb hby at_7) rfl ?_
    show Sp p e below s₁ (mkF m 8 #[vI a, vI b, vI d, vI f, vI g, vI c0, vU, vU, vU, vU, vU, vU, vU, vU] [(.int b)]) _
    refine X0.ldcInt hx hown (mvT hZ (own_h hw 0 rfl)) (g := (mkF m 8 #[vI a, vI b, vI d, vI f, vI g, vI c0, vU, vU, vU, vU, vU, vU, vU, vU] [(.int b)])) rfl (hb hby at_8) _ ?_
    show Sp p e below s₁ (mkF m 10 #[vI a, vI b, vI d, vI f, vI g, vI c0, vU, vU, vU, vU, vU, vU, vU, vU] [(.int (65535 : Int32)), (.int b)]) _
    refine XS.iand X0.here hx rfl (hb hby at_10) rfl ?_
    show Sp p e below s₁ (mkF m 11 #[vI a, vI b, vI d, vI f, vI g, vI c0, vU, vU, vU, vU, vU, vU, vU, vU] [(.int (b &&& (65535 : Int32)))]) _
    refine XS.i2c X0.here hx rfl (hb hby at_11) rfl ?_
    show Sp p e below s₁ (mkF m 12 #[vI a, vI b, vI d, vI f, vI g, vI c0, vU, vU, vU, vU, vU, vU, vU, vU] [(.int ((b &&& (65535 : Int32)).toUInt32.toUInt16.toUInt32.toInt32))]) _
    exact kt)
  clear S713
  obtain ⟨c1, q_c1⟩ : ∃ z : Int32, z = ((b &&& (65535 : Int32)).toUInt32.toUInt16.toUInt32.toInt32) := ⟨_, rfl⟩
  have S715 : Go p e below s₁ (eF_law m a b d f g) s₁ (mkF m 12 #[vI a, vI b, vI d, vI f, vI g, vI c0, vU, vU, vU, vU, vU, vU, vU, vU] [(.int c1)]) := by subst q_c1; exact S714
  clear S714
  have hc1 : own_Ch c1 := by rw [q_c1]; exact own_chr _
  have S716 : Go p e below s₁ (eF_law m a b d f g) s₁ (mkF m 19 #[vI a, vI b, vI d, vI f, vI g, vI c0, vI c1, vU, vU, vU, vU, vU, vU, vU] [(.int ((d &&& (65535 : Int32)).toUInt32.toUInt16.toUInt32.toInt32))]) := fun t kt => S715 t (by
    refine XS.istore X0.here hx rfl (hb hby at_12) rfl (l' := #[vI a, vI b, vI d, vI f, vI g, vI c0, vI c1, vU, vU, vU, vU, vU, vU, vU]) rfl ?_
    show Sp p e below s₁ (mkF m 14 #[vI a, vI b, vI d, vI f, vI g, vI c0, vI c1, vU, vU, vU, vU, vU, vU, vU] []) _
    refine XS.iloadN X0.here hx rfl (hb hby at_14) rfl ?_
    show Sp p e below s₁ (mkF m 15 #[vI a, vI b, vI d, vI f, vI g, vI c0, vI c1, vU, vU, vU, vU, vU, vU, vU] [(.int d)]) _
    refine X0.ldcInt hx hown (mvT hZ (own_h hw 0 rfl)) (g := (mkF m 15 #[vI a, vI b, vI d, vI f, vI g, vI c0, vI c1, vU, vU, vU, vU, vU, vU, vU] [(.int d)])) rfl (hb hby at_15) _ ?_
    show Sp p e below s₁ (mkF m 17 #[vI a, vI b, vI d, vI f, vI g, vI c0, vI c1, vU, vU, vU, vU, vU, vU, vU] [(.int (65535 : Int32)), (.int d)]) _
    refine XS.iand X0.here hx rfl (hb hby at_17) rfl ?_
    show Sp p e below s₁ (mkF m 18 #[vI a, vI b, vI d, vI f, vI g, vI c0, vI c1, vU, vU, vU, vU, vU, vU, vU] [(.int (d &&& (65535 : Int32)))]) _
    refine XS.i2c X0.here hx rfl (hb hby at_18) rfl ?_
    show Sp p e below s₁ (mkF m 19 #[vI a, vI b, vI d, vI f, vI g, vI c0, vI c1, vU, vU, vU, vU, vU, vU, vU] [(.int ((d &&& (65535 : Int32)).toUInt32.toUInt16.toUInt32.toInt32))]) _
    exact kt)
  clear S715
  obtain ⟨c2, q_c2⟩ : ∃ z : Int32, z = ((d &&& (65535 : Int32)).toUInt32.toUInt16.toUInt32.toInt32) := ⟨_, rfl⟩
  have S717 : Go p e below s₁ (eF_law m a b d f g) s₁ (mkF m 19 #[vI a, vI b, vI d, vI f, vI g, vI c0, vI c1, vU, vU, vU, vU, vU, vU, vU] [(.int c2)]) := by subst q_c2; exact S716
  clear S716
  have hc2 : own_Ch c2 := by rw [q_c2]; exact own_chr _
  have S718 : Go p e below s₁ (eF_law m a b d f g) s₁ (mkF m 26 #[vI a, vI b, vI d, vI f, vI g, vI c0, vI c1, vI c2, vU, vU, vU, vU, vU, vU] [(.int ((f &&& (65535 : Int32)).toUInt32.toUInt16.toUInt32.toInt32))]) := fun t kt => S717 t (by
    refine XS.istore X0.here hx rfl (hb hby at_19) rfl (l' := #[vI a, vI b, vI d, vI f, vI g, vI c0, vI c1, vI c2, vU, vU, vU, vU, vU, vU]) rfl ?_
    show Sp p e below s₁ (mkF m 21 #[vI a, vI b, vI d, vI f, vI g, vI c0, vI c1, vI c2, vU, vU, vU, vU, vU, vU] []) _
    refine XS.iloadN X0.here hx rfl (hb hby at_21) rfl ?_
    show Sp p e below s₁ (mkF m 22 #[vI a, vI b, vI d, vI f, vI g, vI c0, vI c1, vI c2, vU, vU, vU, vU, vU, vU] [(.int f)]) _
    refine X0.ldcInt hx hown (mvT hZ (own_h hw 0 rfl)) (g := (mkF m 22 #[vI a, vI b, vI d, vI f, vI g, vI c0, vI c1, vI c2, vU, vU, vU, vU, vU, vU] [(.int f)])) rfl (hb hby at_22) _ ?_
    show Sp p e below s₁ (mkF m 24 #[vI a, vI b, vI d, vI f, vI g, vI c0, vI c1, vI c2, vU, vU, vU, vU, vU, vU] [(.int (65535 : Int32)), (.int f)]) _
    refine XS.iand X0.here hx rfl (hb hby at_24) rfl ?_
    show Sp p e below s₁ (mkF m 25 #[vI a, vI b, vI d, vI f, vI g, vI c0, vI c1, vI c2, vU, vU, vU, vU, vU, vU] [(.int (f &&& (65535 : Int32)))]) _
    refine XS.i2c X0.here hx rfl (hb hby at_25) rfl ?_
    show Sp p e below s₁ (mkF m 26 #[vI a, vI b, vI d, vI f, vI g, vI c0, vI c1, vI c2, vU, vU, vU, vU, vU, vU] [(.int ((f &&& (65535 : Int32)).toUInt32.toUInt16.toUInt32.toInt32))]) _
    exact kt)
  clear S717
  obtain ⟨c3, q_c3⟩ : ∃ z : Int32, z = ((f &&& (65535 : Int32)).toUInt32.toUInt16.toUInt32.toInt32) := ⟨_, rfl⟩
  have S719 : Go p e below s₁ (eF_law m a b d f g) s₁ (mkF m 26 #[vI a, vI b, vI d, vI f, vI g, vI c0, vI c1, vI c2, vU, vU, vU, vU, vU, vU] [(.int c3)]) := by subst q_c3; exact S718
  clear S718
  have hc3 : own_Ch c3 := by rw [q_c3]; exact own_chr _
  have S720 : Go p e below s₁ (eF_law m a b d f g) s₁ (mkF m 34 #[vI a, vI b, vI d, vI f, vI g, vI c0, vI c1, vI c2, vI c3, vU, vU, vU, vU, vU] [(.int ((g &&& (3 : Int32)) + (1 : Int32)))]) := fun t kt => S719 t (by
    refine XS.istore X0.here hx rfl (hb hby at_26) rfl (l' := #[vI a, vI b, vI d, vI f, vI g, vI c0, vI c1, vI c2, vI c3, vU, vU, vU, vU, vU]) rfl ?_
    show Sp p e below s₁ (mkF m 28 #[vI a, vI b, vI d, vI f, vI g, vI c0, vI c1, vI c2, vI c3, vU, vU, vU, vU, vU] []) _
    refine XS.iload X0.here hx rfl (hb hby at_28) rfl ?_
    show Sp p e below s₁ (mkF m 30 #[vI a, vI b, vI d, vI f, vI g, vI c0, vI c1, vI c2, vI c3, vU, vU, vU, vU, vU] [(.int g)]) _
    refine XS.iconst X0.here hx rfl (hb hby at_30) ?_
    show Sp p e below s₁ (mkF m 31 #[vI a, vI b, vI d, vI f, vI g, vI c0, vI c1, vI c2, vI c3, vU, vU, vU, vU, vU] [(.int (3 : Int32)), (.int g)]) _
    refine XS.iand X0.here hx rfl (hb hby at_31) rfl ?_
    show Sp p e below s₁ (mkF m 32 #[vI a, vI b, vI d, vI f, vI g, vI c0, vI c1, vI c2, vI c3, vU, vU, vU, vU, vU] [(.int (g &&& (3 : Int32)))]) _
    refine XS.iconst X0.here hx rfl (hb hby at_32) ?_
    show Sp p e below s₁ (mkF m 33 #[vI a, vI b, vI d, vI f, vI g, vI c0, vI c1, vI c2, vI c3, vU, vU, vU, vU, vU] [(.int (1 : Int32)), (.int (g &&& (3 : Int32)))]) _
    refine XS.iadd X0.here hx rfl (hb hby at_33) rfl ?_
    show Sp p e below s₁ (mkF m 34 #[vI a, vI b, vI d, vI f, vI g, vI c0, vI c1, vI c2, vI c3, vU, vU, vU, vU, vU] [(.int ((g &&& (3 : Int32)) + (1 : Int32)))]) _
    exact kt)
  clear S719
  obtain ⟨ln, q_ln⟩ : ∃ z : Int32, z = ((g &&& (3 : Int32)) + (1 : Int32)) := ⟨_, rfl⟩
  have S721 : Go p e below s₁ (eF_law m a b d f g) s₁ (mkF m 34 #[vI a, vI b, vI d, vI f, vI g, vI c0, vI c1, vI c2, vI c3, vU, vU, vU, vU, vU] [(.int ln)]) := by subst q_ln; exact S720
  clear S720
  have hln4 := own_ln g
  rw [← q_ln] at hln4
  have S722 : Go p e below s₁ (eF_law m a b d f g) s₁ (mkF m 39 #[vI a, vI b, vI d, vI f, vI g, vI c0, vI c1, vI c2, vI c3, vI ln, vU, vU, vU, vU] [(.int (1 : Int32)), (.int ln)]) := fun t kt => S721 t (by
    refine XS.istore X0.here hx rfl (hb hby at_34) rfl (l' := #[vI a, vI b, vI d, vI f, vI g, vI c0, vI c1, vI c2, vI c3, vI ln, vU, vU, vU, vU]) rfl ?_
    show Sp p e below s₁ (mkF m 36 #[vI a, vI b, vI d, vI f, vI g, vI c0, vI c1, vI c2, vI c3, vI ln, vU, vU, vU, vU] []) _
    refine XS.iload X0.here hx rfl (hb hby at_36) rfl ?_
    show Sp p e below s₁ (mkF m 38 #[vI a, vI b, vI d, vI f, vI g, vI c0, vI c1, vI c2, vI c3, vI ln, vU, vU, vU, vU] [(.int ln)]) _
    refine XS.iconst X0.here hx rfl (hb hby at_38) ?_
    show Sp p e below s₁ (mkF m 39 #[vI a, vI b, vI d, vI f, vI g, vI c0, vI c1, vI c2, vI c3, vI ln, vU, vU, vU, vU] [(.int (1 : Int32)), (.int ln)]) _
    exact kt)
  clear S721
  by_cases hn1 : ln = (1 : Int32)
  · have S725 : Go p e below s₁ (eF_law m a b d f g) s₁ (mkF m 42 #[vI a, vI b, vI d, vI f, vI g, vI c0, vI c1, vI c2, vI c3, vI ln, vU, vU, vU, vU] []) := fun t kt => S722 t (by
      refine XS.icmpNo X0.here hx rfl (hb hby at_39) rfl (teq (show ln = (1 : Int32) from hn1)).2 ?_
      show Sp p e below s₁ (mkF m 42 #[vI a, vI b, vI d, vI f, vI g, vI c0, vI c1, vI c2, vI c3, vI ln, vU, vU, vU, vU] []) _
      exact kt)
    clear S722
    have q727 : ln = (1 : Int32) := hn1
    have S726 : Go p e below s₁ (eF_law m a b d f g) s₁ (mkF m 42 #[vI a, vI b, vI d, vI f, vI g, vI c0, vI c1, vI c2, vI c3, vI (1 : Int32), vU, vU, vU, vU] []) := by have h := S725; rw [q727] at h; exact h
    clear S725
    have S728 : Go p e below s₁ (eF_law m a b d f g) s₁ (mkF m 43 #[vI a, vI b, vI d, vI f, vI g, vI c0, vI c1, vI c2, vI c3, vI (1 : Int32), vU, vU, vU, vU] [(.int (1 : Int32))]) := fun t kt => S726 t (by
      refine XS.iconst X0.here hx rfl (hb hby at_42) ?_
      show Sp p e below s₁ (mkF m 43 #[vI a, vI b, vI d, vI f, vI g, vI c0, vI c1, vI c2, vI c3, vI (1 : Int32), vU, vU, vU, vU] [(.int (1 : Int32))]) _
      exact kt)
    clear S726
    obtain ⟨T729, h729, k729, X729, e729, E729, A729, st729⟩ := newP X0 hx hZ (own_h hw 1 rfl) e0 (g := (mkF m 43 #[vI a, vI b, vI d, vI f, vI g, vI c0, vI c1, vI c2, vI c3, vI (1 : Int32), vU, vU, vU, vU] [(.int (1 : Int32))])) rfl (hb hby at_43) rfl (by decide) (cap := 1) (by decide) (by decide) (by decide) (by decide)
    obtain ⟨ar, g729⟩ : ∃ z, z = h0.size := ⟨_, rfl⟩
    rw [← g729] at A729 st729
    have g_ar : n0 ≤ ar := Nat.le_trans Z0 (Nat.le_of_eq g729.symm)
    have V729 : Arv Z h729 ar k729 .char (1 : Int32) [(.int (0 : Int32))] (.int (0 : Int32)) := (Arv.new A729 (by decide)).pad (pad_rep [] _ 1)
    have S730 : Go p e below s₁ (eF_law m a b d f g) T729 (mkF m 45 #[vI a, vI b, vI d, vI f, vI g, vI c0, vI c1, vI c2, vI c3, vI (1 : Int32), vU, vU, vU, vU] [(.ref ar)]) := fun t kt => S728 t (st729 t kt)
    clear S728 st729 X0 e0
    have S731 : Go p e below s₁ (eF_law m a b d f g) T729 (mkF m 49 #[vI a, vI b, vI d, vI f, vI g, vI c0, vI c1, vI c2, vI c3, vI (1 : Int32), vU, vU, vU, vU] [(.int c0), (.int (0 : Int32)), (.ref ar), (.ref ar)]) := fun t kt => S730 t (by
      refine XS.dup X729.here hx rfl (hb hby at_45) rfl rfl ?_
      show Sp p e below T729 (mkF m 46 #[vI a, vI b, vI d, vI f, vI g, vI c0, vI c1, vI c2, vI c3, vI (1 : Int32), vU, vU, vU, vU] [(.ref ar), (.ref ar)]) _
      refine XS.iconst X729.here hx rfl (hb hby at_46) ?_
      show Sp p e below T729 (mkF m 47 #[vI a, vI b, vI d, vI f, vI g, vI c0, vI c1, vI c2, vI c3, vI (1 : Int32), vU, vU, vU, vU] [(.int (0 : Int32)), (.ref ar), (.ref ar)]) _
      refine XS.iload X729.here hx rfl (hb hby at_47) rfl ?_
      show Sp p e below T729 (mkF m 49 #[vI a, vI b, vI d, vI f, vI g, vI c0, vI c1, vI c2, vI c3, vI (1 : Int32), vU, vU, vU, vU] [(.int c0), (.int (0 : Int32)), (.ref ar), (.ref ar)]) _
      exact kt)
    clear S730
    obtain ⟨co732, Ao732, qo732, So732, No732, Ho732, Go732⟩ := id V729
    have hino732 : ¬ ((0 : Int32) < 0 ∨ co732.slots.size ≤ ((0 : Int32)).toNatClampNeg) := inb_of So732 ⟨by decide, by decide⟩
    obtain ⟨T733, h733, X733, e733, W733, st733⟩ := stC X729 hx hZ e729 Ao732 (j := (0 : Int32)) hino732 (g := (mkF m 49 #[vI a, vI b, vI d, vI f, vI g, vI c0, vI c1, vI c2, vI c3, vI (1 : Int32), vU, vU, vU, vU] [(.int c0), (.int (0 : Int32)), (.ref ar), (.ref ar)])) rfl rfl (hb hby at_49)
    have N733 := Fr.snoc X733 N0 g_ar
    have V733 : Arv Z h733 ar k729 .char (1 : Int32) [(.int (c0.toUInt32.toUInt16.toUInt32.toInt32))] (.int (0 : Int32)) := Arv.set Ao732 qo732 So732 No732 Ho732 Go732 (fits_nar_char _) W733 0 rfl (Nat.le_of_ble_eq_true rfl)
    rw [own_nc2 hc0] at V733
    have S734 : Go p e below s₁ (eF_law m a b d f g) T733 (mkF m 50 #[vI a, vI b, vI d, vI f, vI g, vI c0, vI c1, vI c2, vI c3, vI (1 : Int32), vU, vU, vU, vU] [(.ref ar)]) := fun t kt => S731 t (st733 t kt)
    clear S731 st733 X729 e729
    have S735 : Go p e below s₁ (eF_law m a b d f g) T733 (mkF m 133 #[vI a, vI b, vI d, vI f, vI g, vI c0, vI c1, vI c2, vI c3, vI (1 : Int32), vR ar, vU, vU, vU] []) := fun t kt => S734 t (by
      refine XS.astore X733.here hx rfl (hb hby at_50) rfl rfl (l' := #[vI a, vI b, vI d, vI f, vI g, vI c0, vI c1, vI c2, vI c3, vI (1 : Int32), vR ar, vU, vU, vU]) rfl ?_
      show Sp p e below T733 (mkF m 52 #[vI a, vI b, vI d, vI f, vI g, vI c0, vI c1, vI c2, vI c3, vI (1 : Int32), vR ar, vU, vU, vU] []) _
      refine XS.goto X733.here hx rfl (pc0 := 52) (pc' := 133) rfl (hb hby at_52) (by decide) (by decide) ?_
      show Sp p e below T733 (mkF m 133 #[vI a, vI b, vI d, vI f, vI g, vI c0, vI c1, vI c2, vI c3, vI (1 : Int32), vR ar, vU, vU, vU] []) _
      exact kt)
    clear S734
    obtain ⟨T736, h736, X736, e736, E736, A736, D736, -, st736⟩ := newO X733 hx hZ hown (own_h hw 2 rfl) (own_h hw 3 rfl) (own_h hw 4 rfl) e733 (g := (mkF m 133 #[vI a, vI b, vI d, vI f, vI g, vI c0, vI c1, vI c2, vI c3, vI (1 : Int32), vR ar, vU, vU, vU] [])) rfl (hb hby at_133) (by decide) (by decide)
    obtain ⟨x1, g736⟩ : ∃ z, z = h733.size := ⟨_, rfl⟩
    rw [← g736] at A736 D736 st736
    have ne737 : ar ≠ x1 := by rw [g736]; exact Nat.ne_of_lt V733.lt
    have g_x1 : n0 ≤ x1 := Nat.le_trans (Nat.le_trans (Nat.le_trans Z0 E729.1) (Keep.of_wr W733).1) (Nat.le_of_eq g736.symm)
    have F_coder_x1 : Fld Z h736 x1 "java/lang/String" "coder" "B" (.int (0 : Int32)) := D736 (Or.inr (own_h hw 28 rfl)) (ty := .byte) (by decide)
    have F_value_x1 : Fld Z h736 x1 "java/lang/String" "value" "[B" .null := D736 (Or.inr (own_h hw 30 rfl)) (ty := (.array .byte)) (by decide)
    have S738 : Go p e below s₁ (eF_law m a b d f g) T736 (mkF m 136 #[vI a, vI b, vI d, vI f, vI g, vI c0, vI c1, vI c2, vI c3, vI (1 : Int32), vR ar, vU, vU, vU] [(.ref x1)]) := fun t kt => S735 t (st736 t kt)
    clear S735 st736 X733 e733
    have S739 : Go p e below s₁ (eF_law m a b d f g) T736 (mkF m 139 #[vI a, vI b, vI d, vI f, vI g, vI c0, vI c1, vI c2, vI c3, vI (1 : Int32), vR ar, vU, vU, vU] [(.ref ar), (.ref x1), (.ref x1)]) := fun t kt => S738 t (by
      refine XS.dup X736.here hx rfl (hb hby at_136) rfl rfl ?_
      show Sp p e below T736 (mkF m 137 #[vI a, vI b, vI d, vI f, vI g, vI c0, vI c1, vI c2, vI c3, vI (1 : Int32), vR ar, vU, vU, vU] [(.ref x1), (.ref x1)]) _
      refine XS.aload X736.here hx rfl (hb hby at_137) rfl rfl ?_
      show Sp p e below T736 (mkF m 139 #[vI a, vI b, vI d, vI f, vI g, vI c0, vI c1, vI c2, vI c3, vI (1 : Int32), vR ar, vU, vU, vU] [(.ref ar), (.ref x1), (.ref x1)]) _
      exact kt)
    clear S738
    have f740 := (((O0.ext E729).wr W733 g_ar).ext E736)
    have f741 := (V733.ext E736)
    obtain ⟨v742, T742, L742, X742, hQ742, st742⟩ := own_outV (X736.specialBack hx (y := (⟨"java/lang/String", "<init>", "([C)V"⟩ : MethodName)) rfl hown (mvT hZ (own_h hw 5 rfl)) (mvT hZ (own_h hw 6 rfl)) (mvT hZ (own_h hw 7 rfl)) (by decide) (backOf (W := 1) (rm_str1 l Z a0 hw [] x1 ar k729 c0 h736 n0 (Nat.le_trans (Nat.le_trans (Nat.le_trans Z0 E729.1) (Keep.of_wr W733).1) E736.1) SS f740 f741 hc0 A736 F_coder_x1 F_value_x1 (Ne.symm ne737) g_x1) hZ (own_h hw 7 rfl) (own_h hw 4 rfl) (by decide) (by decide)) (g := (mkF m 139 #[vI a, vI b, vI d, vI f, vI g, vI c0, vI c1, vI c2, vI c3, vI (1 : Int32), vR ar, vU, vU, vU] [(.ref ar), (.ref x1), (.ref x1)])) rfl (by rw [hml]; rfl) (Steps.refl _) (a := x1) (argsL := [(.ref ar)]) (rest := [(.ref x1)]) (lenOf pd___C_V rfl) rfl (by show 2 * 0 + _ ≤ _; exact Nat.le_of_eq rfl) (hb hby at_139) (fun _ _ => ⟨rfl, e736, (by decide : 2 + 2 ≤ _), (by decide : 5 + 3 ≤ _)⟩))
    obtain ⟨rfl, N742q, K742, t1, kb742, n, vs, cd, sz742, E742, F742, G742, V742, hcod⟩ := hQ742
    have N742 := Fr.app N733 N742q
    have g_t1 : n0 ≤ t1 := Nat.le_trans (Nat.le_trans (Nat.le_trans (Nat.le_trans Z0 E729.1) (Keep.of_wr W733).1) E736.1) sz742
    have S743 : Go p e below s₁ (eF_law m a b d f g) T742 (mkF m 142 #[vI a, vI b, vI d, vI f, vI g, vI c0, vI c1, vI c2, vI c3, vI (1 : Int32), vR ar, vU, vU, vU] [(.ref x1)]) := fun t kt => S739 t (st742 t kt)
    clear S739 st742 X736 e736
    have hb0 : ∀ z ∈ [c0], own_Ch z := fun z hz => by simp only [List.mem_cons, List.not_mem_nil, or_false] at hz; rcases hz with rfl <;> assumption
    have S744 : Go p e below s₁ (eF_law m a b d f g) T742 (mkF m 150 #[vI a, vI b, vI d, vI f, vI g, vI c0, vI c1, vI c2, vI c3, vI (1 : Int32), vR ar, vR x1, vU, vU] [(.int (((g.toUInt32 >>> ((2 : Int32) &&& 31).toUInt32).toInt32) &&& (1 : Int32)))]) := fun t kt => S743 t (by
      refine XS.astore X742.here hx rfl (hb hby at_142) rfl rfl (l' := #[vI a, vI b, vI d, vI f, vI g, vI c0, vI c1, vI c2, vI c3, vI (1 : Int32), vR ar, vR x1, vU, vU]) rfl ?_
      show Sp p e below T742 (mkF m 144 #[vI a, vI b, vI d, vI f, vI g, vI c0, vI c1, vI c2, vI c3, vI (1 : Int32), vR ar, vR x1, vU, vU] []) _
      refine XS.iload X742.here hx rfl (hb hby at_144) rfl ?_
      show Sp p e below T742 (mkF m 146 #[vI a, vI b, vI d, vI f, vI g, vI c0, vI c1, vI c2, vI c3, vI (1 : Int32), vR ar, vR x1, vU, vU] [(.int g)]) _
      refine XS.iconst X742.here hx rfl (hb hby at_146) ?_
      show Sp p e below T742 (mkF m 147 #[vI a, vI b, vI d, vI f, vI g, vI c0, vI c1, vI c2, vI c3, vI (1 : Int32), vR ar, vR x1, vU, vU] [(.int (2 : Int32)), (.int g)]) _
      refine XS.iushr X742.here hx rfl (hb hby at_147) rfl ?_
      show Sp p e below T742 (mkF m 148 #[vI a, vI b, vI d, vI f, vI g, vI c0, vI c1, vI c2, vI c3, vI (1 : Int32), vR ar, vR x1, vU, vU] [(.int ((g.toUInt32 >>> ((2 : Int32) &&& 31).toUInt32).toInt32))]) _
      refine XS.iconst X742.here hx rfl (hb hby at_148) ?_
      show Sp p e below T742 (mkF m 149 #[vI a, vI b, vI d, vI f, vI g, vI c0, vI c1, vI c2, vI c3, vI (1 : Int32), vR ar, vR x1, vU, vU] [(.int (1 : Int32)), (.int ((g.toUInt32 >>> ((2 : Int32) &&& 31).toUInt32).toInt32))]) _
      refine XS.iand X742.here hx rfl (hb hby at_149) rfl ?_
      show Sp p e below T742 (mkF m 150 #[vI a, vI b, vI d, vI f, vI g, vI c0, vI c1, vI c2, vI c3, vI (1 : Int32), vR ar, vR x1, vU, vU] [(.int (((g.toUInt32 >>> ((2 : Int32) &&& 31).toUInt32).toInt32) &&& (1 : Int32)))]) _
      exact kt)
    clear S743
    by_cases hg : (((g.toUInt32 >>> ((2 : Int32) &&& 31).toUInt32).toInt32) &&& (1 : Int32)) = (0 : Int32)
    · have S745 : Go p e below s₁ (eF_law m a b d f g) T742 (mkF m 168 #[vI a, vI b, vI d, vI f, vI g, vI c0, vI c1, vI c2, vI c3, vI (1 : Int32), vR ar, vR x1, vU, vU] [(.int ((((g.toUInt32 >>> ((3 : Int32) &&& 31).toUInt32).toInt32) &&& (65535 : Int32)).toUInt32.toUInt16.toUInt32.toInt32))]) := fun t kt => S744 t (by
        refine XS.ifYes X742.here hx rfl (pc0 := 150) (pc' := 160) rfl (hb hby at_150) rfl ((if0 _ _).trans (teq (show (((g.toUInt32 >>> ((2 : Int32) &&& 31).toUInt32).toInt32) &&& (1 : Int32)) = (0 : Int32) from hg)).1) (by decide) (by decide) ?_
        show Sp p e below T742 (mkF m 160 #[vI a, vI b, vI d, vI f, vI g, vI c0, vI c1, vI c2, vI c3, vI (1 : Int32), vR ar, vR x1, vU, vU] []) _
        refine XS.iload X742.here hx rfl (hb hby at_160) rfl ?_
        show Sp p e below T742 (mkF m 162 #[vI a, vI b, vI d, vI f, vI g, vI c0, vI c1, vI c2, vI c3, vI (1 : Int32), vR ar, vR x1, vU, vU] [(.int g)]) _
        refine XS.iconst X742.here hx rfl (hb hby at_162) ?_
        show Sp p e below T742 (mkF m 163 #[vI a, vI b, vI d, vI f, vI g, vI c0, vI c1, vI c2, vI c3, vI (1 : Int32), vR ar, vR x1, vU, vU] [(.int (3 : Int32)), (.int g)]) _
        refine XS.iushr X742.here hx rfl (hb hby at_163) rfl ?_
        show Sp p e below T742 (mkF m 164 #[vI a, vI b, vI d, vI f, vI g, vI c0, vI c1, vI c2, vI c3, vI (1 : Int32), vR ar, vR x1, vU, vU] [(.int ((g.toUInt32 >>> ((3 : Int32) &&& 31).toUInt32).toInt32))]) _
        refine X742.ldcInt hx hown (mvT hZ (own_h hw 0 rfl)) (g := (mkF m 164 #[vI a, vI b, vI d, vI f, vI g, vI c0, vI c1, vI c2, vI c3, vI (1 : Int32), vR ar, vR x1, vU, vU] [(.int ((g.toUInt32 >>> ((3 : Int32) &&& 31).toUInt32).toInt32))])) rfl (hb hby at_164) _ ?_
        show Sp p e below T742 (mkF m 166 #[vI a, vI b, vI d, vI f, vI g, vI c0, vI c1, vI c2, vI c3, vI (1 : Int32), vR ar, vR x1, vU, vU] [(.int (65535 : Int32)), (.int ((g.toUInt32 >>> ((3 : Int32) &&& 31).toUInt32).toInt32))]) _
        refine XS.iand X742.here hx rfl (hb hby at_166) rfl ?_
        show Sp p e below T742 (mkF m 167 #[vI a, vI b, vI d, vI f, vI g, vI c0, vI c1, vI c2, vI c3, vI (1 : Int32), vR ar, vR x1, vU, vU] [(.int (((g.toUInt32 >>> ((3 : Int32) &&& 31).toUInt32).toInt32) &&& (65535 : Int32)))]) _
        refine XS.i2c X742.here hx rfl (hb hby at_167) rfl ?_
        show Sp p e below T742 (mkF m 168 #[vI a, vI b, vI d, vI f, vI g, vI c0, vI c1, vI c2, vI c3, vI (1 : Int32), vR ar, vR x1, vU, vU] [(.int ((((g.toUInt32 >>> ((3 : Int32) &&& 31).toUInt32).toInt32) &&& (65535 : Int32)).toUInt32.toUInt16.toUInt32.toInt32))]) _
        exact kt)
      clear S744
      have f746 := (f740.keep K742 (allS g_x1 all0))
      obtain ⟨v747, T747, L747, X747, hQ747, st747⟩ := own_outS (Jvm.LawKit.callS X742 hx (y := (⟨"java/lang/String", "valueOf", "(C)Ljava/lang/String;"⟩ : MethodName)) hown (mvT hZ (own_h hw 31 rfl)) (mvT hZ (own_h hw 32 rfl)) (mvT hZ (own_h hw 4 rfl)) (mvT hZ (own_h hw 33 rfl)) (by decide) (backOf (W := 0) (rm_vof l Z a0 hw [] ((((g.toUInt32 >>> ((3 : Int32) &&& 31).toUInt32).toInt32) &&& (65535 : Int32)).toUInt32.toUInt16.toUInt32.toInt32) T742.heap n0 (Nat.le_trans (Nat.le_trans (Nat.le_trans (Nat.le_trans Z0 E729.1) (Keep.of_wr W733).1) E736.1) K742.1) SS f746) hZ (own_h hw 33 rfl) (own_h hw 4 rfl) (by decide) (by decide)) (g := (mkF m 168 #[vI a, vI b, vI d, vI f, vI g, vI c0, vI c1, vI c2, vI c3, vI (1 : Int32), vR ar, vR x1, vU, vU] [(.int ((((g.toUInt32 >>> ((3 : Int32) &&& 31).toUInt32).toInt32) &&& (65535 : Int32)).toUInt32.toUInt16.toUInt32.toInt32))])) rfl (by rw [hml]; rfl) (argsL := [(.int ((((g.toUInt32 >>> ((3 : Int32) &&& 31).toUInt32).toInt32) &&& (65535 : Int32)).toUInt32.toUInt16.toUInt32.toInt32))]) (rest := []) (lenOf pd__C_Ljava_lang_String_ rfl) rfl (by show 2 * 0 + _ ≤ _; exact Nat.le_of_eq rfl) (hb hby at_168) (fun _ _ => ⟨rfl, rfl, (by decide : 4 + 2 ≤ _), (by decide : 8 + 6 ≤ _)⟩))
      obtain ⟨nm, rfl, N747q, K747⟩ := hQ747
      have N747 := Fr.app N742 N747q
      have S748 : Go p e below s₁ (eF_law m a b d f g) T747 (mkF m 171 #[vI a, vI b, vI d, vI f, vI g, vI c0, vI c1, vI c2, vI c3, vI (1 : Int32), vR ar, vR x1, vU, vU] [(.ref nm)]) := fun t kt => S745 t (st747 t kt)
      clear S745 st747 X742
      have S752 : Go p e below s₁ (eF_law m a b d f g) T747 (mkF m 177 #[vI a, vI b, vI d, vI f, vI g, vI c0, vI c1, vI c2, vI c3, vI (1 : Int32), vR ar, vR x1, vR nm, vU] [(.ref nm), (.ref x1)]) := fun t kt => S748 t (by
        refine XS.astore X747.here hx rfl (hb hby at_171) rfl rfl (l' := #[vI a, vI b, vI d, vI f, vI g, vI c0, vI c1, vI c2, vI c3, vI (1 : Int32), vR ar, vR x1, vR nm, vU]) rfl ?_
        show Sp p e below T747 (mkF m 173 #[vI a, vI b, vI d, vI f, vI g, vI c0, vI c1, vI c2, vI c3, vI (1 : Int32), vR ar, vR x1, vR nm, vU] []) _
        refine XS.aload X747.here hx rfl (hb hby at_173) rfl rfl ?_
        show Sp p e below T747 (mkF m 175 #[vI a, vI b, vI d, vI f, vI g, vI c0, vI c1, vI c2, vI c3, vI (1 : Int32), vR ar, vR x1, vR nm, vU] [(.ref x1)]) _
        refine XS.aload X747.here hx rfl (hb hby at_175) rfl rfl ?_
        show Sp p e below T747 (mkF m 177 #[vI a, vI b, vI d, vI f, vI g, vI c0, vI c1, vI c2, vI c3, vI (1 : Int32), vR ar, vR x1, vR nm, vU] [(.ref nm), (.ref x1)]) _
        exact kt)
      clear S748
      have f753 := (f746.keep K747 all0)
      have f754 := (E742.keep K747)
      have f755 := (F742.keep K747 nin0)
      have f756 := (G742.keep K747 nin0)
      have f757 := (V742.keep K747 nin0)
      obtain ⟨v758, T758, L758, X758, hQ758, st758⟩ := own_outS (Jvm.LawKit.callS X747 hx (y := (⟨"com/example/upper_ward/upperward/auth/SigningChecks", "required", "(Ljava/lang/String;Ljava/lang/String;)Ljava/lang/String;"⟩ : MethodName)) hown (mvT hZ (own_h hw 45 rfl)) (mvT hZ (own_h hw 46 rfl)) (mvT hZ (own_h hw 47 rfl)) (mvT hZ (own_h hw 48 rfl)) (by decide) (backOf (W := 0) (rm_req l Z a0 hw [] x1 nm t1 kb742 n vs cd [c0] T747.heap n0 (Nat.le_trans (Nat.le_trans (Nat.le_trans (Nat.le_trans (Nat.le_trans Z0 E729.1) (Keep.of_wr W733).1) E736.1) K742.1) K747.1) SS f753 f754 f755 f756 f757 hcod hb0 (Nat.le_of_ble_eq_true rfl) (by simp)) hZ (own_h hw 48 rfl) (own_h hw 47 rfl) (by decide) (by decide)) (g := (mkF m 177 #[vI a, vI b, vI d, vI f, vI g, vI c0, vI c1, vI c2, vI c3, vI (1 : Int32), vR ar, vR x1, vR nm, vU] [(.ref nm), (.ref x1)])) rfl (by rw [hml]; rfl) (argsL := [(.ref x1), (.ref nm)]) (rest := []) (lenOf pd__Ljava_lang_String_Ljava_lang_String__Ljava_lang_String_ rfl) rfl (by show 2 * 0 + _ ≤ _; exact Nat.le_of_eq rfl) (hb hby at_177) (fun _ _ => ⟨rfl, rfl, (by decide : 6 + 0 ≤ _), (by decide : 14 + 0 ≤ _)⟩))
      obtain ⟨rfl, N758q, e758⟩ := hQ758
      have N758 := Fr.app N747 N758q
      have S759 : Go p e below s₁ (eF_law m a b d f g) T758 (mkF m 180 #[vI a, vI b, vI d, vI f, vI g, vI c0, vI c1, vI c2, vI c3, vI (1 : Int32), vR ar, vR x1, vR nm, vU] [(.ref x1)]) := fun t kt => S752 t (st758 t kt)
      clear S752 st758 X747
      have S760 : Go p e below s₁ (eF_law m a b d f g) T758 (mkF m 191 #[vI a, vI b, vI d, vI f, vI g, vI c0, vI c1, vI c2, vI c3, vI (1 : Int32), vR ar, vR x1, vR nm, vR x1] [(.ref x1)]) := fun t kt => S759 t (by
        refine XS.astore X758.here hx rfl (hb hby at_180) rfl rfl (l' := #[vI a, vI b, vI d, vI f, vI g, vI c0, vI c1, vI c2, vI c3, vI (1 : Int32), vR ar, vR x1, vR nm, vR x1]) rfl ?_
        show Sp p e below T758 (mkF m 182 #[vI a, vI b, vI d, vI f, vI g, vI c0, vI c1, vI c2, vI c3, vI (1 : Int32), vR ar, vR x1, vR nm, vR x1] []) _
        refine XS.aload X758.here hx rfl (hb hby at_182) rfl rfl ?_
        show Sp p e below T758 (mkF m 184 #[vI a, vI b, vI d, vI f, vI g, vI c0, vI c1, vI c2, vI c3, vI (1 : Int32), vR ar, vR x1, vR nm, vR x1] [(.ref x1)]) _
        refine XS.aload X758.here hx rfl (hb hby at_184) rfl rfl ?_
        show Sp p e below T758 (mkF m 186 #[vI a, vI b, vI d, vI f, vI g, vI c0, vI c1, vI c2, vI c3, vI (1 : Int32), vR ar, vR x1, vR nm, vR x1] [(.ref x1), (.ref x1)]) _
        refine Jvm.RoadKit.acmp (g := (mkF m 186 #[vI a, vI b, vI d, vI f, vI g, vI c0, vI c1, vI c2, vI c3, vI (1 : Int32), vR ar, vR x1, vR nm, vR x1] [(.ref x1), (.ref x1)])) X758 hx rfl rfl rfl (pc0 := 186) (pc' := 189) (same := true) rfl (hb hby at_186) rfl (decide_eq_true rfl) (by decide) (by decide) ?_
        show Sp p e below T758 (mkF m 189 #[vI a, vI b, vI d, vI f, vI g, vI c0, vI c1, vI c2, vI c3, vI (1 : Int32), vR ar, vR x1, vR nm, vR x1] []) _
        refine XS.aload X758.here hx rfl (hb hby at_189) rfl rfl ?_
        show Sp p e below T758 (mkF m 191 #[vI a, vI b, vI d, vI f, vI g, vI c0, vI c1, vI c2, vI c3, vI (1 : Int32), vR ar, vR x1, vR nm, vR x1] [(.ref x1)]) _
        exact kt)
      clear S759
      obtain ⟨cq761, kq761, q761a, q761b, q761c⟩ := isOf hZ e758 f754
      obtain ⟨v761, T761, L761, X761, hQ761, st761⟩ := own_outV (Q := (fun v h' L => v = some (.int (Int32.ofNat ([c0] : List Int32).length)) ∧ L = [] ∧ h' = T747.heap)) (X758.virtualBack hx (y := (⟨"java/lang/String", "length", "()I"⟩ : MethodName)) (z := (⟨"java/lang/String", "length", "()I"⟩ : MethodName)) hown (mvT hZ (own_h hw 54 rfl)) (mvT hZ (own_h hw 55 rfl)) (notFace_of_selects (args := #[]) (mvT hZ (own_h hw 57 rfl))) (mvT hZ (own_h hw 57 rfl)) (mvT hZ (own_h hw 56 rfl)) (by decide) (StrChars.Road.lenW (W := 0) hZ hln (kI := 4) (own_h hw 3 rfl) f754 f756 f755 f757 hcod hb0 (S_cs.ext f753.2) hcz (Nat.le_of_ble_eq_true rfl) (by decide) (by decide)) q761a q761c (g := (mkF m 191 #[vI a, vI b, vI d, vI f, vI g, vI c0, vI c1, vI c2, vI c3, vI (1 : Int32), vR ar, vR x1, vR nm, vR x1] [(.ref x1)])) rfl (by rw [hml]; rfl) (Steps.refl _) (argsL := []) (rest := []) (lenOf pd___I rfl) rfl (by show 2 * 0 + _ ≤ _; exact Nat.le_of_eq rfl) (hb hby at_191) (fun _ _ => ⟨rfl, e758, (by decide : 6 + 0 ≤ _), (by decide : 14 + 0 ≤ _)⟩))
      obtain ⟨rfl, rfl, e761⟩ := hQ761
      have N761 := Fr.app N758 (Fr.nil n0)
      have S762 : Go p e below s₁ (eF_law m a b d f g) T761 (mkF m 194 #[vI a, vI b, vI d, vI f, vI g, vI c0, vI c1, vI c2, vI c3, vI (1 : Int32), vR ar, vR x1, vR nm, vR x1] [(.int (Int32.ofNat ([c0] : List Int32).length))]) := fun t kt => S760 t (st761 t kt)
      clear S760 st761 X758 e758
      have q764 : (Int32.ofNat ([c0] : List Int32).length) = (1 : Int32) := rfl
      have S763 : Go p e below s₁ (eF_law m a b d f g) T761 (mkF m 194 #[vI a, vI b, vI d, vI f, vI g, vI c0, vI c1, vI c2, vI c3, vI (1 : Int32), vR ar, vR x1, vR nm, vR x1] [(.int (1 : Int32))]) := by have h := S762; rw [q764] at h; exact h
      clear S762
      have S765 : Go p e below s₁ (eF_law m a b d f g) T761 (mkF m 202 #[vI a, vI b, vI d, vI f, vI g, vI c0, vI c1, vI c2, vI c3, vI (1 : Int32), vR ar, vR x1, vR nm, vR x1] [(.int (0 : Int32)), (.ref x1)]) := fun t kt => S763 t (by
        refine XS.iload X761.here hx rfl (hb hby at_194) rfl ?_
        show Sp p e below T761 (mkF m 196 #[vI a, vI b, vI d, vI f, vI g, vI c0, vI c1, vI c2, vI c3, vI (1 : Int32), vR ar, vR x1, vR nm, vR x1] [(.int (1 : Int32)), (.int (1 : Int32))]) _
        refine XS.icmpNo X761.here hx rfl (hb hby at_196) rfl (teq (show (1 : Int32) = (1 : Int32) from (by decide))).2 ?_
        show Sp p e below T761 (mkF m 199 #[vI a, vI b, vI d, vI f, vI g, vI c0, vI c1, vI c2, vI c3, vI (1 : Int32), vR ar, vR x1, vR nm, vR x1] []) _
        refine XS.aload X761.here hx rfl (hb hby at_199) rfl rfl ?_
        show Sp p e below T761 (mkF m 201 #[vI a, vI b, vI d, vI f, vI g, vI c0, vI c1, vI c2, vI c3, vI (1 : Int32), vR ar, vR x1, vR nm, vR x1] [(.ref x1)]) _
        refine XS.iconst X761.here hx rfl (hb hby at_201) ?_
        show Sp p e below T761 (mkF m 202 #[vI a, vI b, vI d, vI f, vI g, vI c0, vI c1, vI c2, vI c3, vI (1 : Int32), vR ar, vR x1, vR nm, vR x1] [(.int (0 : Int32)), (.ref x1)]) _
        exact kt)
      clear S763
      obtain ⟨cq766, kq766, q766a, q766b, q766c⟩ := isOf hZ e761 f754
      obtain ⟨v766, T766, L766, X766, hQ766, st766⟩ := own_outV (X761.virtualBack hx (y := (⟨"java/lang/String", "charAt", "(I)C"⟩ : MethodName)) (z := (⟨"java/lang/String", "charAt", "(I)C"⟩ : MethodName)) hown (mvT hZ (own_h hw 64 rfl)) (mvT hZ (own_h hw 65 rfl)) (notFace_of_selects (args := #[]) (mvT hZ (own_h hw 67 rfl))) (mvT hZ (own_h hw 67 rfl)) (mvT hZ (own_h hw 66 rfl)) (by decide) (backOf (W := 0) (rm_cha l Z a0 hw [] x1 (0 : Int32) t1 kb742 n vs cd [c0] 0 T747.heap n0 (Nat.le_trans (Nat.le_trans (Nat.le_trans (Nat.le_trans (Nat.le_trans Z0 E729.1) (Keep.of_wr W733).1) E736.1) K742.1) K747.1) SS f753 f754 f755 f756 f757 hcod hb0 (Nat.le_of_ble_eq_true rfl) (Nat.le_of_ble_eq_true rfl) (by decide)) hZ (own_h hw 68 rfl) (own_h hw 4 rfl) (by decide) (by decide)) q766a q766c (g := (mkF m 202 #[vI a, vI b, vI d, vI f, vI g, vI c0, vI c1, vI c2, vI c3, vI (1 : Int32), vR ar, vR x1, vR nm, vR x1] [(.int (0 : Int32)), (.ref x1)])) rfl (by rw [hml]; rfl) (Steps.refl _) (argsL := [(.int (0 : Int32))]) (rest := []) (lenOf pd__I_C rfl) rfl (by show 2 * 0 + _ ≤ _; exact Nat.le_of_eq rfl) (hb hby at_202) (fun _ _ => ⟨rfl, e761, (by decide : 6 + 0 ≤ _), (by decide : 14 + 0 ≤ _)⟩))
      obtain ⟨rfl, N766q, e766⟩ := hQ766
      have N766 := Fr.app N761 N766q
      have S767 : Go p e below s₁ (eF_law m a b d f g) T766 (mkF m 205 #[vI a, vI b, vI d, vI f, vI g, vI c0, vI c1, vI c2, vI c3, vI (1 : Int32), vR ar, vR x1, vR nm, vR x1] [(.int (([c0] : List Int32).getD 0 0))]) := fun t kt => S765 t (st766 t kt)
      clear S765 st766 X761 e761
      have q769 : (([c0] : List Int32).getD 0 0) = c0 := rfl
      have S768 : Go p e below s₁ (eF_law m a b d f g) T766 (mkF m 205 #[vI a, vI b, vI d, vI f, vI g, vI c0, vI c1, vI c2, vI c3, vI (1 : Int32), vR ar, vR x1, vR nm, vR x1] [(.int c0)]) := by have h := S767; rw [q769] at h; exact h
      clear S767
      have S770 : Go p e below s₁ (eF_law m a b d f g) T766 (mkF m 216 #[vI a, vI b, vI d, vI f, vI g, vI c0, vI c1, vI c2, vI c3, vI (1 : Int32), vR ar, vR x1, vR nm, vR x1] [(.int ((1 : Int32) - (1 : Int32))), (.ref x1)]) := fun t kt => S768 t (by
        refine XS.iload X766.here hx rfl (hb hby at_205) rfl ?_
        show Sp p e below T766 (mkF m 207 #[vI a, vI b, vI d, vI f, vI g, vI c0, vI c1, vI c2, vI c3, vI (1 : Int32), vR ar, vR x1, vR nm, vR x1] [(.int c0), (.int c0)]) _
        refine XS.icmpNo X766.here hx rfl (hb hby at_207) rfl (teq (show c0 = c0 from rfl)).2 ?_
        show Sp p e below T766 (mkF m 210 #[vI a, vI b, vI d, vI f, vI g, vI c0, vI c1, vI c2, vI c3, vI (1 : Int32), vR ar, vR x1, vR nm, vR x1] []) _
        refine XS.aload X766.here hx rfl (hb hby at_210) rfl rfl ?_
        show Sp p e below T766 (mkF m 212 #[vI a, vI b, vI d, vI f, vI g, vI c0, vI c1, vI c2, vI c3, vI (1 : Int32), vR ar, vR x1, vR nm, vR x1] [(.ref x1)]) _
        refine XS.iload X766.here hx rfl (hb hby at_212) rfl ?_
        show Sp p e below T766 (mkF m 214 #[vI a, vI b, vI d, vI f, vI g, vI c0, vI c1, vI c2, vI c3, vI (1 : Int32), vR ar, vR x1, vR nm, vR x1] [(.int (1 : Int32)), (.ref x1)]) _
        refine XS.iconst X766.here hx rfl (hb hby at_214) ?_
        show Sp p e below T766 (mkF m 215 #[vI a, vI b, vI d, vI f, vI g, vI c0, vI c1, vI c2, vI c3, vI (1 : Int32), vR ar, vR x1, vR nm, vR x1] [(.int (1 : Int32)), (.int (1 : Int32)), (.ref x1)]) _
        refine XS.isub X766.here hx rfl (hb hby at_215) rfl ?_
        show Sp p e below T766 (mkF m 216 #[vI a, vI b, vI d, vI f, vI g, vI c0, vI c1, vI c2, vI c3, vI (1 : Int32), vR ar, vR x1, vR nm, vR x1] [(.int ((1 : Int32) - (1 : Int32))), (.ref x1)]) _
        exact kt)
      clear S768
      have q772 : ((1 : Int32) - (1 : Int32)) = (0 : Int32) := by decide
      have S771 : Go p e below s₁ (eF_law m a b d f g) T766 (mkF m 216 #[vI a, vI b, vI d, vI f, vI g, vI c0, vI c1, vI c2, vI c3, vI (1 : Int32), vR ar, vR x1, vR nm, vR x1] [(.int (0 : Int32)), (.ref x1)]) := by have h := S770; rw [q772] at h; exact h
      clear S770
      obtain ⟨cq773, kq773, q773a, q773b, q773c⟩ := isOf hZ e766 f754
      obtain ⟨v773, T773, L773, X773, hQ773, st773⟩ := own_outV (X766.virtualBack hx (y := (⟨"java/lang/String", "charAt", "(I)C"⟩ : MethodName)) (z := (⟨"java/lang/String", "charAt", "(I)C"⟩ : MethodName)) hown (mvT hZ (own_h hw 64 rfl)) (mvT hZ (own_h hw 65 rfl)) (notFace_of_selects (args := #[]) (mvT hZ (own_h hw 67 rfl))) (mvT hZ (own_h hw 67 rfl)) (mvT hZ (own_h hw 66 rfl)) (by decide) (backOf (W := 0) (rm_cha l Z a0 hw [] x1 (0 : Int32) t1 kb742 n vs cd [c0] 0 T747.heap n0 (Nat.le_trans (Nat.le_trans (Nat.le_trans (Nat.le_trans (Nat.le_trans Z0 E729.1) (Keep.of_wr W733).1) E736.1) K742.1) K747.1) SS f753 f754 f755 f756 f757 hcod hb0 (Nat.le_of_ble_eq_true rfl) (Nat.le_of_ble_eq_true rfl) (by decide)) hZ (own_h hw 68 rfl) (own_h hw 4 rfl) (by decide) (by decide)) q773a q773c (g := (mkF m 216 #[vI a, vI b, vI d, vI f, vI g, vI c0, vI c1, vI c2, vI c3, vI (1 : Int32), vR ar, vR x1, vR nm, vR x1] [(.int (0 : Int32)), (.ref x1)])) rfl (by rw [hml]; rfl) (Steps.refl _) (argsL := [(.int (0 : Int32))]) (rest := []) (lenOf pd__I_C rfl) rfl (by show 2 * 0 + _ ≤ _; exact Nat.le_of_eq rfl) (hb hby at_216) (fun _ _ => ⟨rfl, e766, (by decide : 6 + 0 ≤ _), (by decide : 14 + 0 ≤ _)⟩))
      obtain ⟨rfl, N773q, e773⟩ := hQ773
      have N773 := Fr.app N766 N773q
      have S774 : Go p e below s₁ (eF_law m a b d f g) T773 (mkF m 219 #[vI a, vI b, vI d, vI f, vI g, vI c0, vI c1, vI c2, vI c3, vI (1 : Int32), vR ar, vR x1, vR nm, vR x1] [(.int (([c0] : List Int32).getD 0 0))]) := fun t kt => S771 t (st773 t kt)
      clear S771 st773 X766 e766
      have q776 : (([c0] : List Int32).getD 0 0) = c0 := rfl
      have S775 : Go p e below s₁ (eF_law m a b d f g) T773 (mkF m 219 #[vI a, vI b, vI d, vI f, vI g, vI c0, vI c1, vI c2, vI c3, vI (1 : Int32), vR ar, vR x1, vR nm, vR x1] [(.int c0)]) := by have h := S774; rw [q776] at h; exact h
      clear S774
      have S777 : Go p e below s₁ (eF_law m a b d f g) T773 (mkF m 225 #[vI a, vI b, vI d, vI f, vI g, vI c0, vI c1, vI c2, vI c3, vI (1 : Int32), vR ar, vR x1, vR nm, vR x1] [(.int ((1 : Int32) - (1 : Int32))), (.ref ar), (.int c0)]) := fun t kt => S775 t (by
        refine XS.aload X773.here hx rfl (hb hby at_219) rfl rfl ?_
        show Sp p e below T773 (mkF m 221 #[vI a, vI b, vI d, vI f, vI g, vI c0, vI c1, vI c2, vI c3, vI (1 : Int32), vR ar, vR x1, vR nm, vR x1] [(.ref ar), (.int c0)]) _
        refine XS.iload X773.here hx rfl (hb hby at_221) rfl ?_
        show Sp p e below T773 (mkF m 223 #[vI a, vI b, vI d, vI f, vI g, vI c0, vI c1, vI c2, vI c3, vI (1 : Int32), vR ar, vR x1, vR nm, vR x1] [(.int (1 : Int32)), (.ref ar), (.int c0)]) _
        refine XS.iconst X773.here hx rfl (hb hby at_223) ?_
        show Sp p e below T773 (mkF m 224 #[vI a, vI b, vI d, vI f, vI g, vI c0, vI c1, vI c2, vI c3, vI (1 : Int32), vR ar, vR x1, vR nm, vR x1] [(.int (1 : Int32)), (.int (1 : Int32)), (.ref ar), (.int c0)]) _
        refine XS.isub X773.here hx rfl (hb hby at_224) rfl ?_
        show Sp p e below T773 (mkF m 225 #[vI a, vI b, vI d, vI f, vI g, vI c0, vI c1, vI c2, vI c3, vI (1 : Int32), vR ar, vR x1, vR nm, vR x1] [(.int ((1 : Int32) - (1 : Int32))), (.ref ar), (.int c0)]) _
        exact kt)
      clear S775
      have q779 : ((1 : Int32) - (1 : Int32)) = (0 : Int32) := by decide
      have S778 : Go p e below s₁ (eF_law m a b d f g) T773 (mkF m 225 #[vI a, vI b, vI d, vI f, vI g, vI c0, vI c1, vI c2, vI c3, vI (1 : Int32), vR ar, vR x1, vR nm, vR x1] [(.int (0 : Int32)), (.ref ar), (.int c0)]) := by have h := S777; rw [q779] at h; exact h
      clear S777
      have f780 := ((f741.keep K742 (ninS ne737 nin0)).keep K747 nin0)
      obtain ⟨co781, Ao781, qo781, So781, No781, Ho781, Go781⟩ := id f780
      have hino781 : ¬ ((0 : Int32) < 0 ∨ co781.slots.size ≤ ((0 : Int32)).toNatClampNeg) := inb_of So781 ⟨by decide, by decide⟩
      have hato781 : co781.slots[((0 : Int32)).toNatClampNeg]? = some (.int c0) := Has.at Ho781 hino781 rfl
      have S782 : Go p e below s₁ (eF_law m a b d f g) T773 (mkF m 234 #[vI a, vI b, vI d, vI f, vI g, vI c0, vI c1, vI c2, vI c3, vI (1 : Int32), vR ar, vR x1, vR nm, vR x1] [(.int (1 : Int32))]) := fun t kt => S778 t (by
        refine X773.caload hx (j := (0 : Int32)) (v := (.int c0)) (by rw [e773]; exact Ao781.1) (State.isArrayOf_alike hZ.alike Ao781.2.1) Ao781.2.2 hino781 hato781 (g := (mkF m 225 #[vI a, vI b, vI d, vI f, vI g, vI c0, vI c1, vI c2, vI c3, vI (1 : Int32), vR ar, vR x1, vR nm, vR x1] [(.int (0 : Int32)), (.ref ar), (.int c0)])) rfl rfl (hb hby at_225) _ ?_
        show Sp p e below T773 (mkF m 226 #[vI a, vI b, vI d, vI f, vI g, vI c0, vI c1, vI c2, vI c3, vI (1 : Int32), vR ar, vR x1, vR nm, vR x1] [(.int c0), (.int c0)]) _
        refine XS.icmpNo X773.here hx rfl (hb hby at_226) rfl (teq (show c0 = c0 from rfl)).2 ?_
        show Sp p e below T773 (mkF m 229 #[vI a, vI b, vI d, vI f, vI g, vI c0, vI c1, vI c2, vI c3, vI (1 : Int32), vR ar, vR x1, vR nm, vR x1] []) _
        refine XS.iconst X773.here hx rfl (hb hby at_229) ?_
        show Sp p e below T773 (mkF m 230 #[vI a, vI b, vI d, vI f, vI g, vI c0, vI c1, vI c2, vI c3, vI (1 : Int32), vR ar, vR x1, vR nm, vR x1] [(.int (1 : Int32))]) _
        refine XS.goto X773.here hx rfl (pc0 := 230) (pc' := 234) rfl (hb hby at_230) (by decide) (by decide) ?_
        show Sp p e below T773 (mkF m 234 #[vI a, vI b, vI d, vI f, vI g, vI c0, vI c1, vI c2, vI c3, vI (1 : Int32), vR ar, vR x1, vR nm, vR x1] [(.int (1 : Int32))]) _
        exact kt)
      clear S778
      obtain ⟨fs, hr, hrun, hended, hRE⟩ := X773.leaveW hS (n := _) (by rw [e773]; exact (Nat.le_trans (Nat.le_trans (Nat.le_trans (Nat.le_trans (Nat.le_trans hki0 E729.1) (Keep.of_wr W733).1) E736.1) K742.1) K747.1)) (v := some (.int (1 : Int32))) (fun h => by first | rfl | (rw [Bd.returns] at h; cases h))
      refine ⟨_, _, S782 _ ?_, hrun, hended, _, _, rfl, ?_, hRE.1, hRE.2.1, hRE.2.2.1, hRE.2.2.2.mono (by decide) (by decide)⟩
      · exact retN X773 hx (t := .boolean) Bd.returns (by simp) (hb hby at_234) hr
      · show Q_law Z  h0 n0 _ T773.heap _
        rw [e773]
        exact ⟨rfl, N773⟩
    · have S749 : Go p e below s₁ (eF_law m a b d f g) T742 (mkF m 153 #[vI a, vI b, vI d, vI f, vI g, vI c0, vI c1, vI c2, vI c3, vI (1 : Int32), vR ar, vR x1, vU, vU] []) := fun t kt => S744 t (by
        refine XS.ifNo X742.here hx rfl (hb hby at_150) rfl ((if0 _ _).trans (feq (show ¬ ((((g.toUInt32 >>> ((2 : Int32) &&& 31).toUInt32).toInt32) &&& (1 : Int32)) = (0 : Int32)) from hg)).1) ?_
        show Sp p e below T742 (mkF m 153 #[vI a, vI b, vI d, vI f, vI g, vI c0, vI c1, vI c2, vI c3, vI (1 : Int32), vR ar, vR x1, vU, vU] []) _
        exact kt)
      clear S744
      obtain ⟨nm, T750, h750, ki750, X750, e750, E750, hS, hki750, hZ, hown, st750⟩ := ldcS X742 hx hZ hown (own_h hw 85 rfl) (fun d hd => hw d (own_wS d hd)) rfl hS (Nat.le_trans (Nat.le_trans (Nat.le_trans (Nat.le_trans hki0 E729.1) (Keep.of_wr W733).1) E736.1) K742.1) (g := (mkF m 153 #[vI a, vI b, vI d, vI f, vI g, vI c0, vI c1, vI c2, vI c3, vI (1 : Int32), vR ar, vR x1, vU, vU] [])) rfl (hb hby at_153) (n := 0) (by decide +kernel) (by decide) (by decide) (by decide)
      have S751 : Go p e below s₁ (eF_law m a b d f g) T750 (mkF m 155 #[vI a, vI b, vI d, vI f, vI g, vI c0, vI c1, vI c2, vI c3, vI (1 : Int32), vR ar, vR x1, vU, vU] [(.ref nm)]) := fun t kt => S749 t (st750 t kt)
      clear S749 st750 X742
      have S783 : Go p e below s₁ (eF_law m a b d f g) T750 (mkF m 177 #[vI a, vI b, vI d, vI f, vI g, vI c0, vI c1, vI c2, vI c3, vI (1 : Int32), vR ar, vR x1, vR nm, vU] [(.ref nm), (.ref x1)]) := fun t kt => S751 t (by
        refine XS.astore X750.here hx rfl (hb hby at_155) rfl rfl (l' := #[vI a, vI b, vI d, vI f, vI g, vI c0, vI c1, vI c2, vI c3, vI (1 : Int32), vR ar, vR x1, vR nm, vU]) rfl ?_
        show Sp p e below T750 (mkF m 157 #[vI a, vI b, vI d, vI f, vI g, vI c0, vI c1, vI c2, vI c3, vI (1 : Int32), vR ar, vR x1, vR nm, vU] []) _
        refine XS.goto X750.here hx rfl (pc0 := 157) (pc' := 173) rfl (hb hby at_157) (by decide) (by decide) ?_
        show Sp p e below T750 (mkF m 173 #[vI a, vI b, vI d, vI f, vI g, vI c0, vI c1, vI c2, vI c3, vI (1 : Int32), vR ar, vR x1, vR nm, vU] []) _
        refine XS.aload X750.here hx rfl (hb hby at_173) rfl rfl ?_
        show Sp p e below T750 (mkF m 175 #[vI a, vI b, vI d, vI f, vI g, vI c0, vI c1, vI c2, vI c3, vI (1 : Int32), vR ar, vR x1, vR nm, vU] [(.ref x1)]) _
        refine XS.aload X750.here hx rfl (hb hby at_175) rfl rfl ?_
        show Sp p e below T750 (mkF m 177 #[vI a, vI b, vI d, vI f, vI g, vI c0, vI c1, vI c2, vI c3, vI (1 : Int32), vR ar, vR x1, vR nm, vU] [(.ref nm), (.ref x1)]) _
        exact kt)
      clear S751
      have f784 := ((f740.keep K742 (allS g_x1 all0)).ext E750)
      have f785 := (E742.ext E750)
      have f786 := (F742.ext E750)
      have f787 := (G742.ext E750)
      have f788 := (V742.ext E750)
      obtain ⟨v789, T789, L789, X789, hQ789, st789⟩ := own_outS (Jvm.LawKit.callS X750 hx (y := (⟨"com/example/upper_ward/upperward/auth/SigningChecks", "required", "(Ljava/lang/String;Ljava/lang/String;)Ljava/lang/String;"⟩ : MethodName)) hown (mvT hZ (own_h hw 45 rfl)) (mvT hZ (own_h hw 46 rfl)) (mvT hZ (own_h hw 47 rfl)) (mvT hZ (own_h hw 48 rfl)) (by decide) (backOf (W := 0) (rm_req l Z a0 hw [] x1 nm t1 kb742 n vs cd [c0] h750 n0 (Nat.le_trans (Nat.le_trans (Nat.le_trans (Nat.le_trans (Nat.le_trans Z0 E729.1) (Keep.of_wr W733).1) E736.1) K742.1) E750.1) SS f784 f785 f786 f787 f788 hcod hb0 (Nat.le_of_ble_eq_true rfl) (by simp)) hZ (own_h hw 48 rfl) (own_h hw 47 rfl) (by decide) (by decide)) (g := (mkF m 177 #[vI a, vI b, vI d, vI f, vI g, vI c0, vI c1, vI c2, vI c3, vI (1 : Int32), vR ar, vR x1, vR nm, vU] [(.ref nm), (.ref x1)])) rfl (by rw [hml]; rfl) (argsL := [(.ref x1), (.ref nm)]) (rest := []) (lenOf pd__Ljava_lang_String_Ljava_lang_String__Ljava_lang_String_ rfl) rfl (by show 2 * 0 + _ ≤ _; exact Nat.le_of_eq rfl) (hb hby at_177) (fun _ _ => ⟨rfl, e750, (by decide : 6 + 0 ≤ _), (by decide : 12 + 0 ≤ _)⟩))
      obtain ⟨rfl, N789q, e789⟩ := hQ789
      have N789 := Fr.app N742 N789q
      have S790 : Go p e below s₁ (eF_law m a b d f g) T789 (mkF m 180 #[vI a, vI b, vI d, vI f, vI g, vI c0, vI c1, vI c2, vI c3, vI (1 : Int32), vR ar, vR x1, vR nm, vU] [(.ref x1)]) := fun t kt => S783 t (st789 t kt)
      clear S783 st789 X750 e750
      have S791 : Go p e below s₁ (eF_law m a b d f g) T789 (mkF m 191 #[vI a, vI b, vI d, vI f, vI g, vI c0, vI c1, vI c2, vI c3, vI (1 : Int32), vR ar, vR x1, vR nm, vR x1] [(.ref x1)]) := fun t kt => S790 t (by
        refine XS.astore X789.here hx rfl (hb hby at_180) rfl rfl (l' := #[vI a, vI b, vI d, vI f, vI g, vI c0, vI c1, vI c2, vI c3, vI (1 : Int32), vR ar, vR x1, vR nm, vR x1]) rfl ?_
        show Sp p e below T789 (mkF m 182 #[vI a, vI b, vI d, vI f, vI g, vI c0, vI c1, vI c2, vI c3, vI (1 : Int32), vR ar, vR x1, vR nm, vR x1] []) _
        refine XS.aload X789.here hx rfl (hb hby at_182) rfl rfl ?_
        show Sp p e below T789 (mkF m 184 #[vI a, vI b, vI d, vI f, vI g, vI c0, vI c1, vI c2, vI c3, vI (1 : Int32), vR ar, vR x1, vR nm, vR x1] [(.ref x1)]) _
        refine XS.aload X789.here hx rfl (hb hby at_184) rfl rfl ?_
        show Sp p e below T789 (mkF m 186 #[vI a, vI b, vI d, vI f, vI g, vI c0, vI c1, vI c2, vI c3, vI (1 : Int32), vR ar, vR x1, vR nm, vR x1] [(.ref x1), (.ref x1)]) _
        refine Jvm.RoadKit.acmp (g := (mkF m 186 #[vI a, vI b, vI d, vI f, vI g, vI c0, vI c1, vI c2, vI c3, vI (1 : Int32), vR ar, vR x1, vR nm, vR x1] [(.ref x1), (.ref x1)])) X789 hx rfl rfl rfl (pc0 := 186) (pc' := 189) (same := true) rfl (hb hby at_186) rfl (decide_eq_true rfl) (by decide) (by decide) ?_
        show Sp p e below T789 (mkF m 189 #[vI a, vI b, vI d, vI f, vI g, vI c0, vI c1, vI c2, vI c3, vI (1 : Int32), vR ar, vR x1, vR nm, vR x1] []) _
        refine XS.aload X789.here hx rfl (hb hby at_189) rfl rfl ?_
        show Sp p e below T789 (mkF m 191 #[vI a, vI b, vI d, vI f, vI g, vI c0, vI c1, vI c2, vI c3, vI (1 : Int32), vR ar, vR x1, vR nm, vR x1] [(.ref x1)]) _
        exact kt)
      clear S790
      obtain ⟨cq792, kq792, q792a, q792b, q792c⟩ := isOf hZ e789 f785
      obtain ⟨v792, T792, L792, X792, hQ792, st792⟩ := own_outV (Q := (fun v h' L => v = some (.int (Int32.ofNat ([c0] : List Int32).length)) ∧ L = [] ∧ h' = h750)) (X789.virtualBack hx (y := (⟨"java/lang/String", "length", "()I"⟩ : MethodName)) (z := (⟨"java/lang/String", "length", "()I"⟩ : MethodName)) hown (mvT hZ (own_h hw 54 rfl)) (mvT hZ (own_h hw 55 rfl)) (notFace_of_selects (args := #[]) (mvT hZ (own_h hw 57 rfl))) (mvT hZ (own_h hw 57 rfl)) (mvT hZ (own_h hw 56 rfl)) (by decide) (StrChars.Road.lenW (W := 0) hZ hln (kI := 4) (own_h hw 3 rfl) f785 f787 f786 f788 hcod hb0 (S_cs.ext f784.2) hcz (Nat.le_of_ble_eq_true rfl) (by decide) (by decide)) q792a q792c (g := (mkF m 191 #[vI a, vI b, vI d, vI f, vI g, vI c0, vI c1, vI c2, vI c3, vI (1 : Int32), vR ar, vR x1, vR nm, vR x1] [(.ref x1)])) rfl (by rw [hml]; rfl) (Steps.refl _) (argsL := []) (rest := []) (lenOf pd___I rfl) rfl (by show 2 * 0 + _ ≤ _; exact Nat.le_of_eq rfl) (hb hby at_191) (fun _ _ => ⟨rfl, e789, (by decide : 6 + 0 ≤ _), (by decide : 12 + 0 ≤ _)⟩))
      obtain ⟨rfl, rfl, e792⟩ := hQ792
      have N792 := Fr.app N789 (Fr.nil n0)
      have S793 : Go p e below s₁ (eF_law m a b d f g) T792 (mkF m 194 #[vI a, vI b, vI d, vI f, vI g, vI c0, vI c1, vI c2, vI c3, vI (1 : Int32), vR ar, vR x1, vR nm, vR x1] [(.int (Int32.ofNat ([c0] : List Int32).length))]) := fun t kt => S791 t (st792 t kt)
      clear S791 st792 X789 e789
      have q795 : (Int32.ofNat ([c0] : List Int32).length) = (1 : Int32) := rfl
      have S794 : Go p e below s₁ (eF_law m a b d f g) T792 (mkF m 194 #[vI a, vI b, vI d, vI f, vI g, vI c0, vI c1, vI c2, vI c3, vI (1 : Int32), vR ar, vR x1, vR nm, vR x1] [(.int (1 : Int32))]) := by have h := S793; rw [q795] at h; exact h
      clear S793
      have S796 : Go p e below s₁ (eF_law m a b d f g) T792 (mkF m 202 #[vI a, vI b, vI d, vI f, vI g, vI c0, vI c1, vI c2, vI c3, vI (1 : Int32), vR ar, vR x1, vR nm, vR x1] [(.int (0 : Int32)), (.ref x1)]) := fun t kt => S794 t (by
        refine XS.iload X792.here hx rfl (hb hby at_194) rfl ?_
        show Sp p e below T792 (mkF m 196 #[vI a, vI b, vI d, vI f, vI g, vI c0, vI c1, vI c2, vI c3, vI (1 : Int32), vR ar, vR x1, vR nm, vR x1] [(.int (1 : Int32)), (.int (1 : Int32))]) _
        refine XS.icmpNo X792.here hx rfl (hb hby at_196) rfl (teq (show (1 : Int32) = (1 : Int32) from (by decide))).2 ?_
        show Sp p e below T792 (mkF m 199 #[vI a, vI b, vI d, vI f, vI g, vI c0, vI c1, vI c2, vI c3, vI (1 : Int32), vR ar, vR x1, vR nm, vR x1] []) _
        refine XS.aload X792.here hx rfl (hb hby at_199) rfl rfl ?_
        show Sp p e below T792 (mkF m 201 #[vI a, vI b, vI d, vI f, vI g, vI c0, vI c1, vI c2, vI c3, vI (1 : Int32), vR ar, vR x1, vR nm, vR x1] [(.ref x1)]) _
        refine XS.iconst X792.here hx rfl (hb hby at_201) ?_
        show Sp p e below T792 (mkF m 202 #[vI a, vI b, vI d, vI f, vI g, vI c0, vI c1, vI c2, vI c3, vI (1 : Int32), vR ar, vR x1, vR nm, vR x1] [(.int (0 : Int32)), (.ref x1)]) _
        exact kt)
      clear S794
      obtain ⟨cq797, kq797, q797a, q797b, q797c⟩ := isOf hZ e792 f785
      obtain ⟨v797, T797, L797, X797, hQ797, st797⟩ := own_outV (X792.virtualBack hx (y := (⟨"java/lang/String", "charAt", "(I)C"⟩ : MethodName)) (z := (⟨"java/lang/String", "charAt", "(I)C"⟩ : MethodName)) hown (mvT hZ (own_h hw 64 rfl)) (mvT hZ (own_h hw 65 rfl)) (notFace_of_selects (args := #[]) (mvT hZ (own_h hw 67 rfl))) (mvT hZ (own_h hw 67 rfl)) (mvT hZ (own_h hw 66 rfl)) (by decide) (backOf (W := 0) (rm_cha l Z a0 hw [] x1 (0 : Int32) t1 kb742 n vs cd [c0] 0 h750 n0 (Nat.le_trans (Nat.le_trans (Nat.le_trans (Nat.le_trans (Nat.le_trans Z0 E729.1) (Keep.of_wr W733).1) E736.1) K742.1) E750.1) SS f784 f785 f786 f787 f788 hcod hb0 (Nat.le_of_ble_eq_true rfl) (Nat.le_of_ble_eq_true rfl) (by decide)) hZ (own_h hw 68 rfl) (own_h hw 4 rfl) (by decide) (by decide)) q797a q797c (g := (mkF m 202 #[vI a, vI b, vI d, vI f, vI g, vI c0, vI c1, vI c2, vI c3, vI (1 : Int32), vR ar, vR x1, vR nm, vR x1] [(.int (0 : Int32)), (.ref x1)])) rfl (by rw [hml]; rfl) (Steps.refl _) (argsL := [(.int (0 : Int32))]) (rest := []) (lenOf pd__I_C rfl) rfl (by show 2 * 0 + _ ≤ _; exact Nat.le_of_eq rfl) (hb hby at_202) (fun _ _ => ⟨rfl, e792, (by decide : 6 + 0 ≤ _), (by decide : 12 + 0 ≤ _)⟩))
      obtain ⟨rfl, N797q, e797⟩ := hQ797
      have N797 := Fr.app N792 N797q
      have S798 : Go p e below s₁ (eF_law m a b d f g) T797 (mkF m 205 #[vI a, vI b, vI d, vI f, vI g, vI c0, vI c1, vI c2, vI c3, vI (1 : Int32), vR ar, vR x1, vR nm, vR x1] [(.int (([c0] : List Int32).getD 0 0))]) := fun t kt => S796 t (st797 t kt)
      clear S796 st797 X792 e792
      have q800 : (([c0] : List Int32).getD 0 0) = c0 := rfl
      have S799 : Go p e below s₁ (eF_law m a b d f g) T797 (mkF m 205 #[vI a, vI b, vI d, vI f, vI g, vI c0, vI c1, vI c2, vI c3, vI (1 : Int32), vR ar, vR x1, vR nm, vR x1] [(.int c0)]) := by have h := S798; rw [q800] at h; exact h
      clear S798
      have S801 : Go p e below s₁ (eF_law m a b d f g) T797 (mkF m 216 #[vI a, vI b, vI d, vI f, vI g, vI c0, vI c1, vI c2, vI c3, vI (1 : Int32), vR ar, vR x1, vR nm, vR x1] [(.int ((1 : Int32) - (1 : Int32))), (.ref x1)]) := fun t kt => S799 t (by
        refine XS.iload X797.here hx rfl (hb hby at_205) rfl ?_
        show Sp p e below T797 (mkF m 207 #[vI a, vI b, vI d, vI f, vI g, vI c0, vI c1, vI c2, vI c3, vI (1 : Int32), vR ar, vR x1, vR nm, vR x1] [(.int c0), (.int c0)]) _
        refine XS.icmpNo X797.here hx rfl (hb hby at_207) rfl (teq (show c0 = c0 from rfl)).2 ?_
        show Sp p e below T797 (mkF m 210 #[vI a, vI b, vI d, vI f, vI g, vI c0, vI c1, vI c2, vI c3, vI (1 : Int32), vR ar, vR x1, vR nm, vR x1] []) _
        refine XS.aload X797.here hx rfl (hb hby at_210) rfl rfl ?_
        show Sp p e below T797 (mkF m 212 #[vI a, vI b, vI d, vI f, vI g, vI c0, vI c1, vI c2, vI c3, vI (1 : Int32), vR ar, vR x1, vR nm, vR x1] [(.ref x1)]) _
        refine XS.iload X797.here hx rfl (hb hby at_212) rfl ?_
        show Sp p e below T797 (mkF m 214 #[vI a, vI b, vI d, vI f, vI g, vI c0, vI c1, vI c2, vI c3, vI (1 : Int32), vR ar, vR x1, vR nm, vR x1] [(.int (1 : Int32)), (.ref x1)]) _
        refine XS.iconst X797.here hx rfl (hb hby at_214) ?_
        show Sp p e below T797 (mkF m 215 #[vI a, vI b, vI d, vI f, vI g, vI c0, vI c1, vI c2, vI c3, vI (1 : Int32), vR ar, vR x1, vR nm, vR x1] [(.int (1 : Int32)), (.int (1 : Int32)), (.ref x1)]) _
        refine XS.isub X797.here hx rfl (hb hby at_215) rfl ?_
        show Sp p e below T797 (mkF m 216 #[vI a, vI b, vI d, vI f, vI g, vI c0, vI c1, vI c2, vI c3, vI (1 : Int32), vR ar, vR x1, vR nm, vR x1] [(.int ((1 : Int32) - (1 : Int32))), (.ref x1)]) _
        exact kt)
      clear S799
      have q803 : ((1 : Int32) - (1 : Int32)) = (0 : Int32) := by decide
      have S802 : Go p e below s₁ (eF_law m a b d f g) T797 (mkF m 216 #[vI a, vI b, vI d, vI f, vI g, vI c0, vI c1, vI c2, vI c3, vI (1 : Int32), vR ar, vR x1, vR nm, vR x1] [(.int (0 : Int32)), (.ref x1)]) := by have h := S801; rw [q803] at h; exact h
      clear S801
      obtain ⟨cq804, kq804, q804a, q804b, q804c⟩ := isOf hZ e797 f785
      obtain ⟨v804, T804, L804, X804, hQ804, st804⟩ := own_outV (X797.virtualBack hx (y := (⟨"java/lang/String", "charAt", "(I)C"⟩ : MethodName)) (z := (⟨"java/lang/String", "charAt", "(I)C"⟩ : MethodName)) hown (mvT hZ (own_h hw 64 rfl)) (mvT hZ (own_h hw 65 rfl)) (notFace_of_selects (args := #[]) (mvT hZ (own_h hw 67 rfl))) (mvT hZ (own_h hw 67 rfl)) (mvT hZ (own_h hw 66 rfl)) (by decide) (backOf (W := 0) (rm_cha l Z a0 hw [] x1 (0 : Int32) t1 kb742 n vs cd [c0] 0 h750 n0 (Nat.le_trans (Nat.le_trans (Nat.le_trans (Nat.le_trans (Nat.le_trans Z0 E729.1) (Keep.of_wr W733).1) E736.1) K742.1) E750.1) SS f784 f785 f786 f787 f788 hcod hb0 (Nat.le_of_ble_eq_true rfl) (Nat.le_of_ble_eq_true rfl) (by decide)) hZ (own_h hw 68 rfl) (own_h hw 4 rfl) (by decide) (by decide)) q804a q804c (g := (mkF m 216 #[vI a, vI b, vI d, vI f, vI g, vI c0, vI c1, vI c2, vI c3, vI (1 : Int32), vR ar, vR x1, vR nm, vR x1] [(.int (0 : Int32)), (.ref x1)])) rfl (by rw [hml]; rfl) (Steps.refl _) (argsL := [(.int (0 : Int32))]) (rest := []) (lenOf pd__I_C rfl) rfl (by show 2 * 0 + _ ≤ _; exact Nat.le_of_eq rfl) (hb hby at_216) (fun _ _ => ⟨rfl, e797, (by decide : 6 + 0 ≤ _), (by decide : 12 + 0 ≤ _)⟩))
      obtain ⟨rfl, N804q, e804⟩ := hQ804
      have N804 := Fr.app N797 N804q
      have S805 : Go p e below s₁ (eF_law m a b d f g) T804 (mkF m 219 #[vI a, vI b, vI d, vI f, vI g, vI c0, vI c1, vI c2, vI c3, vI (1 : Int32), vR ar, vR x1, vR nm, vR x1] [(.int (([c0] : List Int32).getD 0 0))]) := fun t kt => S802 t (st804 t kt)
      clear S802 st804 X797 e797
      have q807 : (([c0] : List Int32).getD 0 0) = c0 := rfl
      have S806 : Go p e below s₁ (eF_law m a b d f g) T804 (mkF m 219 #[vI a, vI b, vI d, vI f, vI g, vI c0, vI c1, vI c2, vI c3, vI (1 : Int32), vR ar, vR x1, vR nm, vR x1] [(.int c0)]) := by have h := S805; rw [q807] at h; exact h
      clear S805
      have S808 : Go p e below s₁ (eF_law m a b d f g) T804 (mkF m 225 #[vI a, vI b, vI d, vI f, vI g, vI c0, vI c1, vI c2, vI c3, vI (1 : Int32), vR ar, vR x1, vR nm, vR x1] [(.int ((1 : Int32) - (1 : Int32))), (.ref ar), (.int c0)]) := fun t kt => S806 t (by
        refine XS.aload X804.here hx rfl (hb hby at_219) rfl rfl ?_
        show Sp p e below T804 (mkF m 221 #[vI a, vI b, vI d, vI f, vI g, vI c0, vI c1, vI c2, vI c3, vI (1 : Int32), vR ar, vR x1, vR nm, vR x1] [(.ref ar), (.int c0)]) _
        refine XS.iload X804.here hx rfl (hb hby at_221) rfl ?_
        show Sp p e below T804 (mkF m 223 #[vI a, vI b, vI d, vI f, vI g, vI c0, vI c1, vI c2, vI c3, vI (1 : Int32), vR ar, vR x1, vR nm, vR x1] [(.int (1 : Int32)), (.ref ar), (.int c0)]) _
        refine XS.iconst X804.here hx rfl (hb hby at_223) ?_
        show Sp p e below T804 (mkF m 224 #[vI a, vI b, vI d, vI f, vI g, vI c0, vI c1, vI c2, vI c3, vI (1 : Int32), vR ar, vR x1, vR nm, vR x1] [(.int (1 : Int32)), (.int (1 : Int32)), (.ref ar), (.int c0)]) _
        refine XS.isub X804.here hx rfl (hb hby at_224) rfl ?_
        show Sp p e below T804 (mkF m 225 #[vI a, vI b, vI d, vI f, vI g, vI c0, vI c1, vI c2, vI c3, vI (1 : Int32), vR ar, vR x1, vR nm, vR x1] [(.int ((1 : Int32) - (1 : Int32))), (.ref ar), (.int c0)]) _
        exact kt)
      clear S806
      have q810 : ((1 : Int32) - (1 : Int32)) = (0 : Int32) := by decide
      have S809 : Go p e below s₁ (eF_law m a b d f g) T804 (mkF m 225 #[vI a, vI b, vI d, vI f, vI g, vI c0, vI c1, vI c2, vI c3, vI (1 : Int32), vR ar, vR x1, vR nm, vR x1] [(.int (0 : Int32)), (.ref ar), (.int c0)]) := by have h := S808; rw [q810] at h; exact h
      clear S808
      have f811 := ((f741.keep K742 (ninS ne737 nin0)).ext E750)
      obtain ⟨co812, Ao812, qo812, So812, No812, Ho812, Go812⟩ := id f811
      have hino812 : ¬ ((0 : Int32) < 0 ∨ co812.slots.size ≤ ((0 : Int32)).toNatClampNeg) := inb_of So812 ⟨by decide, by decide⟩
      have hato812 : co812.slots[((0 : Int32)).toNatClampNeg]? = some (.int c0) := Has.at Ho812 hino812 rfl
      have S813 : Go p e below s₁ (eF_law m a b d f g) T804 (mkF m 234 #[vI a, vI b, vI d, vI f, vI g, vI c0, vI c1, vI c2, vI c3, vI (1 : Int32), vR ar, vR x1, vR nm, vR x1] [(.int (1 : Int32))]) := fun t kt => S809 t (by
        refine X804.caload hx (j := (0 : Int32)) (v := (.int c0)) (by rw [e804]; exact Ao812.1) (State.isArrayOf_alike hZ.alike Ao812.2.1) Ao812.2.2 hino812 hato812 (g := (mkF m 225 #[vI a, vI b, vI d, vI f, vI g, vI c0, vI c1, vI c2, vI c3, vI (1 : Int32), vR ar, vR x1, vR nm, vR x1] [(.int (0 : Int32)), (.ref ar), (.int c0)])) rfl rfl (hb hby at_225) _ ?_
        show Sp p e below T804 (mkF m 226 #[vI a, vI b, vI d, vI f, vI g, vI c0, vI c1, vI c2, vI c3, vI (1 : Int32), vR ar, vR x1, vR nm, vR x1] [(.int c0), (.int c0)]) _
        refine XS.icmpNo X804.here hx rfl (hb hby at_226) rfl (teq (show c0 = c0 from rfl)).2 ?_
        show Sp p e below T804 (mkF m 229 #[vI a, vI b, vI d, vI f, vI g, vI c0, vI c1, vI c2, vI c3, vI (1 : Int32), vR ar, vR x1, vR nm, vR x1] []) _
        refine XS.iconst X804.here hx rfl (hb hby at_229) ?_
        show Sp p e below T804 (mkF m 230 #[vI a, vI b, vI d, vI f, vI g, vI c0, vI c1, vI c2, vI c3, vI (1 : Int32), vR ar, vR x1, vR nm, vR x1] [(.int (1 : Int32))]) _
        refine XS.goto X804.here hx rfl (pc0 := 230) (pc' := 234) rfl (hb hby at_230) (by decide) (by decide) ?_
        show Sp p e below T804 (mkF m 234 #[vI a, vI b, vI d, vI f, vI g, vI c0, vI c1, vI c2, vI c3, vI (1 : Int32), vR ar, vR x1, vR nm, vR x1] [(.int (1 : Int32))]) _
        exact kt)
      clear S809
      obtain ⟨fs, hr, hrun, hended, hRE⟩ := X804.leaveW hS (n := _) (by rw [e804]; exact hki750) (v := some (.int (1 : Int32))) (fun h => by first | rfl | (rw [Bd.returns] at h; cases h))
      refine ⟨_, _, S813 _ ?_, hrun, hended, _, _, rfl, ?_, hRE.1, hRE.2.1, hRE.2.2.1, hRE.2.2.2.mono (by decide) (by decide)⟩
      · exact retN X804 hx (t := .boolean) Bd.returns (by simp) (hb hby at_234) hr
      · show Q_law Z  h0 n0 _ T804.heap _
        rw [e804]
        exact ⟨rfl, N804⟩
  · have S723 : Go p e below s₁ (eF_law m a b d f g) s₁ (mkF m 58 #[vI a, vI b, vI d, vI f, vI g, vI c0, vI c1, vI c2, vI c3, vI ln, vU, vU, vU, vU] [(.int (2 : Int32)), (.int ln)]) := fun t kt => S722 t (by
      refine XS.icmpYes X0.here hx rfl (pc0 := 39) (pc' := 55) rfl (hb hby at_39) rfl (feq (show ¬ (ln = (1 : Int32)) from hn1)).2 (by decide) (by decide) ?_
      show Sp p e below s₁ (mkF m 55 #[vI a, vI b, vI d, vI f, vI g, vI c0, vI c1, vI c2, vI c3, vI ln, vU, vU, vU, vU] []) _
      refine XS.iload X0.here hx rfl (hb hby at_55) rfl ?_
      show Sp p e below s₁ (mkF m 57 #[vI a, vI b, vI d, vI f, vI g, vI c0, vI c1, vI c2, vI c3, vI ln, vU, vU, vU, vU] [(.int ln)]) _
      refine XS.iconst X0.here hx rfl (hb hby at_57) ?_
      show Sp p e below s₁ (mkF m 58 #[vI a, vI b, vI d, vI f, vI g, vI c0, vI c1, vI c2, vI c3, vI ln, vU, vU, vU, vU] [(.int (2 : Int32)), (.int ln)]) _
      exact kt)
    clear S722
    by_cases hn2 : ln = (2 : Int32)
    · have S814 : Go p e below s₁ (eF_law m a b d f g) s₁ (mkF m 61 #[vI a, vI b, vI d, vI f, vI g, vI c0, vI c1, vI c2, vI c3, vI ln, vU, vU, vU, vU] []) := fun t kt => S723 t (by
        refine XS.icmpNo X0.here hx rfl (hb hby at_58) rfl (teq (show ln = (2 : Int32) from hn2)).2 ?_
        show Sp p e below s₁ (mkF m 61 #[vI a, vI b, vI d, vI f, vI g, vI c0, vI c1, vI c2, vI c3, vI ln, vU, vU, vU, vU] []) _
        exact kt)
      clear S723
      have q816 : ln = (2 : Int32) := hn2
      have S815 : Go p e below s₁ (eF_law m a b d f g) s₁ (mkF m 61 #[vI a, vI b, vI d, vI f, vI g, vI c0, vI c1, vI c2, vI c3, vI (2 : Int32), vU, vU, vU, vU] []) := by have h := S814; rw [q816] at h; exact h
      clear S814
      have S817 : Go p e below s₁ (eF_law m a b d f g) s₁ (mkF m 62 #[vI a, vI b, vI d, vI f, vI g, vI c0, vI c1, vI c2, vI c3, vI (2 : Int32), vU, vU, vU, vU] [(.int (2 : Int32))]) := fun t kt => S815 t (by
        refine XS.iconst X0.here hx rfl (hb hby at_61) ?_
        show Sp p e below s₁ (mkF m 62 #[vI a, vI b, vI d, vI f, vI g, vI c0, vI c1, vI c2, vI c3, vI (2 : Int32), vU, vU, vU, vU] [(.int (2 : Int32))]) _
        exact kt)
      clear S815
      obtain ⟨T818, h818, k818, X818, e818, E818, A818, st818⟩ := newP X0 hx hZ (own_h hw 1 rfl) e0 (g := (mkF m 62 #[vI a, vI b, vI d, vI f, vI g, vI c0, vI c1, vI c2, vI c3, vI (2 : Int32), vU, vU, vU, vU] [(.int (2 : Int32))])) rfl (hb hby at_62) rfl (by decide) (cap := 2) (by decide) (by decide) (by decide) (by decide)
      obtain ⟨ar, g818⟩ : ∃ z, z = h0.size := ⟨_, rfl⟩
      rw [← g818] at A818 st818
      have g_ar : n0 ≤ ar := Nat.le_trans Z0 (Nat.le_of_eq g818.symm)
      have V818 : Arv Z h818 ar k818 .char (2 : Int32) [(.int (0 : Int32)), (.int (0 : Int32))] (.int (0 : Int32)) := (Arv.new A818 (by decide)).pad (pad_rep [] _ 2)
      have S819 : Go p e below s₁ (eF_law m a b d f g) T818 (mkF m 64 #[vI a, vI b, vI d, vI f, vI g, vI c0, vI c1, vI c2, vI c3, vI (2 : Int32), vU, vU, vU, vU] [(.ref ar)]) := fun t kt => S817 t (st818 t kt)
      clear S817 st818 X0 e0
      have S820 : Go p e below s₁ (eF_law m a b d f g) T818 (mkF m 68 #[vI a, vI b, vI d, vI f, vI g, vI c0, vI c1, vI c2, vI c3, vI (2 : Int32), vU, vU, vU, vU] [(.int c0), (.int (0 : Int32)), (.ref ar), (.ref ar)]) := fun t kt => S819 t (by
        refine XS.dup X818.here hx rfl (hb hby at_64) rfl rfl ?_
        show Sp p e below T818 (mkF m 65 #[vI a, vI b, vI d, vI f, vI g, vI c0, vI c1, vI c2, vI c3, vI (2 : Int32), vU, vU, vU, vU] [(.ref ar), (.ref ar)]) _
        refine XS.iconst X818.here hx rfl (hb hby at_65) ?_
        show Sp p e below T818 (mkF m 66 #[vI a, vI b, vI d, vI f, vI g, vI c0, vI c1, vI c2, vI c3, vI (2 : Int32), vU, vU, vU, vU] [(.int (0 : Int32)), (.ref ar), (.ref ar)]) _
        refine XS.iload X818.here hx rfl (hb hby at_66) rfl ?_
        show Sp p e below T818 (mkF m 68 #[vI a, vI b, vI d, vI f, vI g, vI c0, vI c1, vI c2, vI c3, vI (2 : Int32), vU, vU, vU, vU] [(.int c0), (.int (0 : Int32)), (.ref ar), (.ref ar)]) _
        exact kt)
      clear S819
      obtain ⟨co821, Ao821, qo821, So821, No821, Ho821, Go821⟩ := id V818
      have hino821 : ¬ ((0 : Int32) < 0 ∨ co821.slots.size ≤ ((0 : Int32)).toNatClampNeg) := inb_of So821 ⟨by decide, by decide⟩
      obtain ⟨T822, h822, X822, e822, W822, st822⟩ := stC X818 hx hZ e818 Ao821 (j := (0 : Int32)) hino821 (g := (mkF m 68 #[vI a, vI b, vI d, vI f, vI g, vI c0, vI c1, vI c2, vI c3, vI (2 : Int32), vU, vU, vU, vU] [(.int c0), (.int (0 : Int32)), (.ref ar), (.ref ar)])) rfl rfl (hb hby at_68)
      have N822 := Fr.snoc X822 N0 g_ar
      have V822 : Arv Z h822 ar k818 .char (2 : Int32) [(.int (c0.toUInt32.toUInt16.toUInt32.toInt32)), (.int (0 : Int32))] (.int (0 : Int32)) := Arv.set Ao821 qo821 So821 No821 Ho821 Go821 (fits_nar_char _) W822 0 rfl (Nat.le_of_ble_eq_true rfl)
      rw [own_nc2 hc0] at V822
      have S823 : Go p e below s₁ (eF_law m a b d f g) T822 (mkF m 69 #[vI a, vI b, vI d, vI f, vI g, vI c0, vI c1, vI c2, vI c3, vI (2 : Int32), vU, vU, vU, vU] [(.ref ar)]) := fun t kt => S820 t (st822 t kt)
      clear S820 st822 X818 e818
      have S824 : Go p e below s₁ (eF_law m a b d f g) T822 (mkF m 73 #[vI a, vI b, vI d, vI f, vI g, vI c0, vI c1, vI c2, vI c3, vI (2 : Int32), vU, vU, vU, vU] [(.int c1), (.int (1 : Int32)), (.ref ar), (.ref ar)]) := fun t kt => S823 t (by
        refine XS.dup X822.here hx rfl (hb hby at_69) rfl rfl ?_
        show Sp p e below T822 (mkF m 70 #[vI a, vI b, vI d, vI f, vI g, vI c0, vI c1, vI c2, vI c3, vI (2 : Int32), vU, vU, vU, vU] [(.ref ar), (.ref ar)]) _
        refine XS.iconst X822.here hx rfl (hb hby at_70) ?_
        show Sp p e below T822 (mkF m 71 #[vI a, vI b, vI d, vI f, vI g, vI c0, vI c1, vI c2, vI c3, vI (2 : Int32), vU, vU, vU, vU] [(.int (1 : Int32)), (.ref ar), (.ref ar)]) _
        refine XS.iload X822.here hx rfl (hb hby at_71) rfl ?_
        show Sp p e below T822 (mkF m 73 #[vI a, vI b, vI d, vI f, vI g, vI c0, vI c1, vI c2, vI c3, vI (2 : Int32), vU, vU, vU, vU] [(.int c1), (.int (1 : Int32)), (.ref ar), (.ref ar)]) _
        exact kt)
      clear S823
      obtain ⟨co825, Ao825, qo825, So825, No825, Ho825, Go825⟩ := id V822
      have hino825 : ¬ ((1 : Int32) < 0 ∨ co825.slots.size ≤ ((1 : Int32)).toNatClampNeg) := inb_of So825 ⟨by decide, by decide⟩
      obtain ⟨T826, h826, X826, e826, W826, st826⟩ := stC X822 hx hZ e822 Ao825 (j := (1 : Int32)) hino825 (g := (mkF m 73 #[vI a, vI b, vI d, vI f, vI g, vI c0, vI c1, vI c2, vI c3, vI (2 : Int32), vU, vU, vU, vU] [(.int c1), (.int (1 : Int32)), (.ref ar), (.ref ar)])) rfl rfl (hb hby at_73)
      have N826 := Fr.snoc X826 N822 g_ar
      have V826 : Arv Z h826 ar k818 .char (2 : Int32) [(.int c0), (.int (c1.toUInt32.toUInt16.toUInt32.toInt32))] (.int (0 : Int32)) := Arv.set Ao825 qo825 So825 No825 Ho825 Go825 (fits_nar_char _) W826 1 rfl (Nat.le_of_ble_eq_true rfl)
      rw [own_nc2 hc1] at V826
      have S827 : Go p e below s₁ (eF_law m a b d f g) T826 (mkF m 74 #[vI a, vI b, vI d, vI f, vI g, vI c0, vI c1, vI c2, vI c3, vI (2 : Int32), vU, vU, vU, vU] [(.ref ar)]) := fun t kt => S824 t (st826 t kt)
      clear S824 st826 X822 e822
      have S828 : Go p e below s₁ (eF_law m a b d f g) T826 (mkF m 133 #[vI a, vI b, vI d, vI f, vI g, vI c0, vI c1, vI c2, vI c3, vI (2 : Int32), vR ar, vU, vU, vU] []) := fun t kt => S827 t (by
        refine XS.astore X826.here hx rfl (hb hby at_74) rfl rfl (l' := #[vI a, vI b, vI d, vI f, vI g, vI c0, vI c1, vI c2, vI c3, vI (2 : Int32), vR ar, vU, vU, vU]) rfl ?_
        show Sp p e below T826 (mkF m 76 #[vI a, vI b, vI d, vI f, vI g, vI c0, vI c1, vI c2, vI c3, vI (2 : Int32), vR ar, vU, vU, vU] []) _
        refine XS.goto X826.here hx rfl (pc0 := 76) (pc' := 133) rfl (hb hby at_76) (by decide) (by decide) ?_
        show Sp p e below T826 (mkF m 133 #[vI a, vI b, vI d, vI f, vI g, vI c0, vI c1, vI c2, vI c3, vI (2 : Int32), vR ar, vU, vU, vU] []) _
        exact kt)
      clear S827
      obtain ⟨T829, h829, X829, e829, E829, A829, D829, -, st829⟩ := newO X826 hx hZ hown (own_h hw 2 rfl) (own_h hw 3 rfl) (own_h hw 4 rfl) e826 (g := (mkF m 133 #[vI a, vI b, vI d, vI f, vI g, vI c0, vI c1, vI c2, vI c3, vI (2 : Int32), vR ar, vU, vU, vU] [])) rfl (hb hby at_133) (by decide) (by decide)
      obtain ⟨x1, g829⟩ : ∃ z, z = h826.size := ⟨_, rfl⟩
      rw [← g829] at A829 D829 st829
      have ne830 : ar ≠ x1 := by rw [g829]; exact Nat.ne_of_lt V826.lt
      have g_x1 : n0 ≤ x1 := Nat.le_trans (Nat.le_trans (Nat.le_trans (Nat.le_trans Z0 E818.1) (Keep.of_wr W822).1) (Keep.of_wr W826).1) (Nat.le_of_eq g829.symm)
      have F_coder_x1 : Fld Z h829 x1 "java/lang/String" "coder" "B" (.int (0 : Int32)) := D829 (Or.inr (own_h hw 28 rfl)) (ty := .byte) (by decide)
      have F_value_x1 : Fld Z h829 x1 "java/lang/String" "value" "[B" .null := D829 (Or.inr (own_h hw 30 rfl)) (ty := (.array .byte)) (by decide)
      have S831 : Go p e below s₁ (eF_law m a b d f g) T829 (mkF m 136 #[vI a, vI b, vI d, vI f, vI g, vI c0, vI c1, vI c2, vI c3, vI (2 : Int32), vR ar, vU, vU, vU] [(.ref x1)]) := fun t kt => S828 t (st829 t kt)
      clear S828 st829 X826 e826
      have S832 : Go p e below s₁ (eF_law m a b d f g) T829 (mkF m 139 #[vI a, vI b, vI d, vI f, vI g, vI c0, vI c1, vI c2, vI c3, vI (2 : Int32), vR ar, vU, vU, vU] [(.ref ar), (.ref x1), (.ref x1)]) := fun t kt => S831 t (by
        refine XS.dup X829.here hx rfl (hb hby at_136) rfl rfl ?_
        show Sp p e below T829 (mkF m 137 #[vI a, vI b, vI d, vI f, vI g, vI c0, vI c1, vI c2, vI c3, vI (2 : Int32), vR ar, vU, vU, vU] [(.ref x1), (.ref x1)]) _
        refine XS.aload X829.here hx rfl (hb hby at_137) rfl rfl ?_
        show Sp p e below T829 (mkF m 139 #[vI a, vI b, vI d, vI f, vI g, vI c0, vI c1, vI c2, vI c3, vI (2 : Int32), vR ar, vU, vU, vU] [(.ref ar), (.ref x1), (.ref x1)]) _
        exact kt)
      clear S831
      have f833 := ((((O0.ext E818).wr W822 g_ar).wr W826 g_ar).ext E829)
      have f834 := (V826.ext E829)
      obtain ⟨v835, T835, L835, X835, hQ835, st835⟩ := own_outV (X829.specialBack hx (y := (⟨"java/lang/String", "<init>", "([C)V"⟩ : MethodName)) rfl hown (mvT hZ (own_h hw 5 rfl)) (mvT hZ (own_h hw 6 rfl)) (mvT hZ (own_h hw 7 rfl)) (by decide) (backOf (W := 1) (rm_str2 l Z a0 hw [] x1 ar k818 c0 c1 h829 n0 (Nat.le_trans (Nat.le_trans (Nat.le_trans (Nat.le_trans Z0 E818.1) (Keep.of_wr W822).1) (Keep.of_wr W826).1) E829.1) SS f833 f834 hc0 hc1 A829 F_coder_x1 F_value_x1 (Ne.symm ne830) g_x1) hZ (own_h hw 7 rfl) (own_h hw 4 rfl) (by decide) (by decide)) (g := (mkF m 139 #[vI a, vI b, vI d, vI f, vI g, vI c0, vI c1, vI c2, vI c3, vI (2 : Int32), vR ar, vU, vU, vU] [(.ref ar), (.ref x1), (.ref x1)])) rfl (by rw [hml]; rfl) (Steps.refl _) (a := x1) (argsL := [(.ref ar)]) (rest := [(.ref x1)]) (lenOf pd___C_V rfl) rfl (by show 2 * 0 + _ ≤ _; exact Nat.le_of_eq rfl) (hb hby at_139) (fun _ _ => ⟨rfl, e829, (by decide : 2 + 2 ≤ _), (by decide : 6 + 6 ≤ _)⟩))
      obtain ⟨rfl, N835q, K835, t1, kb835, n, vs, cd, sz835, E835, F835, G835, V835, hcod⟩ := hQ835
      have N835 := Fr.app N826 N835q
      have g_t1 : n0 ≤ t1 := Nat.le_trans (Nat.le_trans (Nat.le_trans (Nat.le_trans (Nat.le_trans Z0 E818.1) (Keep.of_wr W822).1) (Keep.of_wr W826).1) E829.1) sz835
      have S836 : Go p e below s₁ (eF_law m a b d f g) T835 (mkF m 142 #[vI a, vI b, vI d, vI f, vI g, vI c0, vI c1, vI c2, vI c3, vI (2 : Int32), vR ar, vU, vU, vU] [(.ref x1)]) := fun t kt => S832 t (st835 t kt)
      clear S832 st835 X829 e829
      have hb0 : ∀ z ∈ [c0, c1], own_Ch z := fun z hz => by simp only [List.mem_cons, List.not_mem_nil, or_false] at hz; rcases hz with rfl | rfl <;> assumption
      have S837 : Go p e below s₁ (eF_law m a b d f g) T835 (mkF m 150 #[vI a, vI b, vI d, vI f, vI g, vI c0, vI c1, vI c2, vI c3, vI (2 : Int32), vR ar, vR x1, vU, vU] [(.int (((g.toUInt32 >>> ((2 : Int32) &&& 31).toUInt32).toInt32) &&& (1 : Int32)))]) := fun t kt => S836 t (by
        refine XS.astore X835.here hx rfl (hb hby at_142) rfl rfl (l' := #[vI a, vI b, vI d, vI f, vI g, vI c0, vI c1, vI c2, vI c3, vI (2 : Int32), vR ar, vR x1, vU, vU]) rfl ?_
        show Sp p e below T835 (mkF m 144 #[vI a, vI b, vI d, vI f, vI g, vI c0, vI c1, vI c2, vI c3, vI (2 : Int32), vR ar, vR x1, vU, vU] []) _
        refine XS.iload X835.here hx rfl (hb hby at_144) rfl ?_
        show Sp p e below T835 (mkF m 146 #[vI a, vI b, vI d, vI f, vI g, vI c0, vI c1, vI c2, vI c3, vI (2 : Int32), vR ar, vR x1, vU, vU] [(.int g)]) _
        refine XS.iconst X835.here hx rfl (hb hby at_146) ?_
        show Sp p e below T835 (mkF m 147 #[vI a, vI b, vI d, vI f, vI g, vI c0, vI c1, vI c2, vI c3, vI (2 : Int32), vR ar, vR x1, vU, vU] [(.int (2 : Int32)), (.int g)]) _
        refine XS.iushr X835.here hx rfl (hb hby at_147) rfl ?_
        show Sp p e below T835 (mkF m 148 #[vI a, vI b, vI d, vI f, vI g, vI c0, vI c1, vI c2, vI c3, vI (2 : Int32), vR ar, vR x1, vU, vU] [(.int ((g.toUInt32 >>> ((2 : Int32) &&& 31).toUInt32).toInt32))]) _
        refine XS.iconst X835.here hx rfl (hb hby at_148) ?_
        show Sp p e below T835 (mkF m 149 #[vI a, vI b, vI d, vI f, vI g, vI c0, vI c1, vI c2, vI c3, vI (2 : Int32), vR ar, vR x1, vU, vU] [(.int (1 : Int32)), (.int ((g.toUInt32 >>> ((2 : Int32) &&& 31).toUInt32).toInt32))]) _
        refine XS.iand X835.here hx rfl (hb hby at_149) rfl ?_
        show Sp p e below T835 (mkF m 150 #[vI a, vI b, vI d, vI f, vI g, vI c0, vI c1, vI c2, vI c3, vI (2 : Int32), vR ar, vR x1, vU, vU] [(.int (((g.toUInt32 >>> ((2 : Int32) &&& 31).toUInt32).toInt32) &&& (1 : Int32)))]) _
        exact kt)
      clear S836
      by_cases hg : (((g.toUInt32 >>> ((2 : Int32) &&& 31).toUInt32).toInt32) &&& (1 : Int32)) = (0 : Int32)
      · have S838 : Go p e below s₁ (eF_law m a b d f g) T835 (mkF m 168 #[vI a, vI b, vI d, vI f, vI g, vI c0, vI c1, vI c2, vI c3, vI (2 : Int32), vR ar, vR x1, vU, vU] [(.int ((((g.toUInt32 >>> ((3 : Int32) &&& 31).toUInt32).toInt32) &&& (65535 : Int32)).toUInt32.toUInt16.toUInt32.toInt32))]) := fun t kt => S837 t (by
          refine XS.ifYes X835.here hx rfl (pc0 := 150) (pc' := 160) rfl (hb hby at_150) rfl ((if0 _ _).trans (teq (show (((g.toUInt32 >>> ((2 : Int32) &&& 31).toUInt32).toInt32) &&& (1 : Int32)) = (0 : Int32) from hg)).1) (by decide) (by decide) ?_
          show Sp p e below T835 (mkF m 160 #[vI a, vI b, vI d, vI f, vI g, vI c0, vI c1, vI c2, vI c3, vI (2 : Int32), vR ar, vR x1, vU, vU] []) _
          refine XS.iload X835.here hx rfl (hb hby at_160) rfl ?_
          show Sp p e below T835 (mkF m 162 #[vI a, vI b, vI d, vI f, vI g, vI c0, vI c1, vI c2, vI c3, vI (2 : Int32), vR ar, vR x1, vU, vU] [(.int g)]) _
          refine XS.iconst X835.here hx rfl (hb hby at_162) ?_
          show Sp p e below T835 (mkF m 163 #[vI a, vI b, vI d, vI f, vI g, vI c0, vI c1, vI c2, vI c3, vI (2 : Int32), vR ar, vR x1, vU, vU] [(.int (3 : Int32)), (.int g)]) _
          refine XS.iushr X835.here hx rfl (hb hby at_163) rfl ?_
          show Sp p e below T835 (mkF m 164 #[vI a, vI b, vI d, vI f, vI g, vI c0, vI c1, vI c2, vI c3, vI (2 : Int32), vR ar, vR x1, vU, vU] [(.int ((g.toUInt32 >>> ((3 : Int32) &&& 31).toUInt32).toInt32))]) _
          refine X835.ldcInt hx hown (mvT hZ (own_h hw 0 rfl)) (g := (mkF m 164 #[vI a, vI b, vI d, vI f, vI g, vI c0, vI c1, vI c2, vI c3, vI (2 : Int32), vR ar, vR x1, vU, vU] [(.int ((g.toUInt32 >>> ((3 : Int32) &&& 31).toUInt32).toInt32))])) rfl (hb hby at_164) _ ?_
          show Sp p e below T835 (mkF m 166 #[vI a, vI b, vI d, vI f, vI g, vI c0, vI c1, vI c2, vI c3, vI (2 : Int32), vR ar, vR x1, vU, vU] [(.int (65535 : Int32)), (.int ((g.toUInt32 >>> ((3 : Int32) &&& 31).toUInt32).toInt32))]) _
          refine XS.iand X835.here hx rfl (hb hby at_166) rfl ?_
          show Sp p e below T835 (mkF m 167 #[vI a, vI b, vI d, vI f, vI g, vI c0, vI c1, vI c2, vI c3, vI (2 : Int32), vR ar, vR x1, vU, vU] [(.int (((g.toUInt32 >>> ((3 : Int32) &&& 31).toUInt32).toInt32) &&& (65535 : Int32)))]) _
          refine XS.i2c X835.here hx rfl (hb hby at_167) rfl ?_
          show Sp p e below T835 (mkF m 168 #[vI a, vI b, vI d, vI f, vI g, vI c0, vI c1, vI c2, vI c3, vI (2 : Int32), vR ar, vR x1, vU, vU] [(.int ((((g.toUInt32 >>> ((3 : Int32) &&& 31).toUInt32).toInt32) &&& (65535 : Int32)).toUInt32.toUInt16.toUInt32.toInt32))]) _
          exact kt)
        clear S837
        have f839 := (f833.keep K835 (allS g_x1 all0))
        obtain ⟨v840, T840, L840, X840, hQ840, st840⟩ := own_outS (Jvm.LawKit.callS X835 hx (y := (⟨"java/lang/String", "valueOf", "(C)Ljava/lang/String;"⟩ : MethodName)) hown (mvT hZ (own_h hw 31 rfl)) (mvT hZ (own_h hw 32 rfl)) (mvT hZ (own_h hw 4 rfl)) (mvT hZ (own_h hw 33 rfl)) (by decide) (backOf (W := 0) (rm_vof l Z a0 hw [] ((((g.toUInt32 >>> ((3 : Int32) &&& 31).toUInt32).toInt32) &&& (65535 : Int32)).toUInt32.toUInt16.toUInt32.toInt32) T835.heap n0 (Nat.le_trans (Nat.le_trans (Nat.le_trans (Nat.le_trans (Nat.le_trans Z0 E818.1) (Keep.of_wr W822).1) (Keep.of_wr W826).1) E829.1) K835.1) SS f839) hZ (own_h hw 33 rfl) (own_h hw 4 rfl) (by decide) (by decide)) (g := (mkF m 168 #[vI a, vI b, vI d, vI f, vI g, vI c0, vI c1, vI c2, vI c3, vI (2 : Int32), vR ar, vR x1, vU, vU] [(.int ((((g.toUInt32 >>> ((3 : Int32) &&& 31).toUInt32).toInt32) &&& (65535 : Int32)).toUInt32.toUInt16.toUInt32.toInt32))])) rfl (by rw [hml]; rfl) (argsL := [(.int ((((g.toUInt32 >>> ((3 : Int32) &&& 31).toUInt32).toInt32) &&& (65535 : Int32)).toUInt32.toUInt16.toUInt32.toInt32))]) (rest := []) (lenOf pd__C_Ljava_lang_String_ rfl) rfl (by show 2 * 0 + _ ≤ _; exact Nat.le_of_eq rfl) (hb hby at_168) (fun _ _ => ⟨rfl, rfl, (by decide : 4 + 2 ≤ _), (by decide : 12 + 6 ≤ _)⟩))
        obtain ⟨nm, rfl, N840q, K840⟩ := hQ840
        have N840 := Fr.app N835 N840q
        have S841 : Go p e below s₁ (eF_law m a b d f g) T840 (mkF m 171 #[vI a, vI b, vI d, vI f, vI g, vI c0, vI c1, vI c2, vI c3, vI (2 : Int32), vR ar, vR x1, vU, vU] [(.ref nm)]) := fun t kt => S838 t (st840 t kt)
        clear S838 st840 X835
        have S845 : Go p e below s₁ (eF_law m a b d f g) T840 (mkF m 177 #[vI a, vI b, vI d, vI f, vI g, vI c0, vI c1, vI c2, vI c3, vI (2 : Int32), vR ar, vR x1, vR nm, vU] [(.ref nm), (.ref x1)]) := fun t kt => S841 t (by
          refine XS.astore X840.here hx rfl (hb hby at_171) rfl rfl (l' := #[vI a, vI b, vI d, vI f, vI g, vI c0, vI c1, vI c2, vI c3, vI (2 : Int32), vR ar, vR x1, vR nm, vU]) rfl ?_
          show Sp p e below T840 (mkF m 173 #[vI a, vI b, vI d, vI f, vI g, vI c0, vI c1, vI c2, vI c3, vI (2 : Int32), vR ar, vR x1, vR nm, vU] []) _
          refine XS.aload X840.here hx rfl (hb hby at_173) rfl rfl ?_
          show Sp p e below T840 (mkF m 175 #[vI a, vI b, vI d, vI f, vI g, vI c0, vI c1, vI c2, vI c3, vI (2 : Int32), vR ar, vR x1, vR nm, vU] [(.ref x1)]) _
          refine XS.aload X840.here hx rfl (hb hby at_175) rfl rfl ?_
          show Sp p e below T840 (mkF m 177 #[vI a, vI b, vI d, vI f, vI g, vI c0, vI c1, vI c2, vI c3, vI (2 : Int32), vR ar, vR x1, vR nm, vU] [(.ref nm), (.ref x1)]) _
          exact kt)
        clear S841
        have f846 := (f839.keep K840 all0)
        have f847 := (E835.keep K840)
        have f848 := (F835.keep K840 nin0)
        have f849 := (G835.keep K840 nin0)
        have f850 := (V835.keep K840 nin0)
        obtain ⟨v851, T851, L851, X851, hQ851, st851⟩ := own_outS (Jvm.LawKit.callS X840 hx (y := (⟨"com/example/upper_ward/upperward/auth/SigningChecks", "required", "(Ljava/lang/String;Ljava/lang/String;)Ljava/lang/String;"⟩ : MethodName)) hown (mvT hZ (own_h hw 45 rfl)) (mvT hZ (own_h hw 46 rfl)) (mvT hZ (own_h hw 47 rfl)) (mvT hZ (own_h hw 48 rfl)) (by decide) (backOf (W := 0) (rm_req l Z a0 hw [] x1 nm t1 kb835 n vs cd [c0, c1] T840.heap n0 (Nat.le_trans (Nat.le_trans (Nat.le_trans (Nat.le_trans (Nat.le_trans (Nat.le_trans Z0 E818.1) (Keep.of_wr W822).1) (Keep.of_wr W826).1) E829.1) K835.1) K840.1) SS f846 f847 f848 f849 f850 hcod hb0 (Nat.le_of_ble_eq_true rfl) (by simp)) hZ (own_h hw 48 rfl) (own_h hw 47 rfl) (by decide) (by decide)) (g := (mkF m 177 #[vI a, vI b, vI d, vI f, vI g, vI c0, vI c1, vI c2, vI c3, vI (2 : Int32), vR ar, vR x1, vR nm, vU] [(.ref nm), (.ref x1)])) rfl (by rw [hml]; rfl) (argsL := [(.ref x1), (.ref nm)]) (rest := []) (lenOf pd__Ljava_lang_String_Ljava_lang_String__Ljava_lang_String_ rfl) rfl (by show 2 * 0 + _ ≤ _; exact Nat.le_of_eq rfl) (hb hby at_177) (fun _ _ => ⟨rfl, rfl, (by decide : 6 + 0 ≤ _), (by decide : 18 + 0 ≤ _)⟩))
        obtain ⟨rfl, N851q, e851⟩ := hQ851
        have N851 := Fr.app N840 N851q
        have S852 : Go p e below s₁ (eF_law m a b d f g) T851 (mkF m 180 #[vI a, vI b, vI d, vI f, vI g, vI c0, vI c1, vI c2, vI c3, vI (2 : Int32), vR ar, vR x1, vR nm, vU] [(.ref x1)]) := fun t kt => S845 t (st851 t kt)
        clear S845 st851 X840
        have S853 : Go p e below s₁ (eF_law m a b d f g) T851 (mkF m 191 #[vI a, vI b, vI d, vI f, vI g, vI c0, vI c1, vI c2, vI c3, vI (2 : Int32), vR ar, vR x1, vR nm, vR x1] [(.ref x1)]) := fun t kt => S852 t (by
          refine XS.astore X851.here hx rfl (hb hby at_180) rfl rfl (l' := #[vI a, vI b, vI d, vI f, vI g, vI c0, vI c1, vI c2, vI c3, vI (2 : Int32), vR ar, vR x1, vR nm, vR x1]) rfl ?_
          show Sp p e below T851 (mkF m 182 #[vI a, vI b, vI d, vI f, vI g, vI c0, vI c1, vI c2, vI c3, vI (2 : Int32), vR ar, vR x1, vR nm, vR x1] []) _
          refine XS.aload X851.here hx rfl (hb hby at_182) rfl rfl ?_
          show Sp p e below T851 (mkF m 184 #[vI a, vI b, vI d, vI f, vI g, vI c0, vI c1, vI c2, vI c3, vI (2 : Int32), vR ar, vR x1, vR nm, vR x1] [(.ref x1)]) _
          refine XS.aload X851.here hx rfl (hb hby at_184) rfl rfl ?_
          show Sp p e below T851 (mkF m 186 #[vI a, vI b, vI d, vI f, vI g, vI c0, vI c1, vI c2, vI c3, vI (2 : Int32), vR ar, vR x1, vR nm, vR x1] [(.ref x1), (.ref x1)]) _
          refine Jvm.RoadKit.acmp (g := (mkF m 186 #[vI a, vI b, vI d, vI f, vI g, vI c0, vI c1, vI c2, vI c3, vI (2 : Int32), vR ar, vR x1, vR nm, vR x1] [(.ref x1), (.ref x1)])) X851 hx rfl rfl rfl (pc0 := 186) (pc' := 189) (same := true) rfl (hb hby at_186) rfl (decide_eq_true rfl) (by decide) (by decide) ?_
          show Sp p e below T851 (mkF m 189 #[vI a, vI b, vI d, vI f, vI g, vI c0, vI c1, vI c2, vI c3, vI (2 : Int32), vR ar, vR x1, vR nm, vR x1] []) _
          refine XS.aload X851.here hx rfl (hb hby at_189) rfl rfl ?_
          show Sp p e below T851 (mkF m 191 #[vI a, vI b, vI d, vI f, vI g, vI c0, vI c1, vI c2, vI c3, vI (2 : Int32), vR ar, vR x1, vR nm, vR x1] [(.ref x1)]) _
          exact kt)
        clear S852
        obtain ⟨cq854, kq854, q854a, q854b, q854c⟩ := isOf hZ e851 f847
        obtain ⟨v854, T854, L854, X854, hQ854, st854⟩ := own_outV (Q := (fun v h' L => v = some (.int (Int32.ofNat ([c0, c1] : List Int32).length)) ∧ L = [] ∧ h' = T840.heap)) (X851.virtualBack hx (y := (⟨"java/lang/String", "length", "()I"⟩ : MethodName)) (z := (⟨"java/lang/String", "length", "()I"⟩ : MethodName)) hown (mvT hZ (own_h hw 54 rfl)) (mvT hZ (own_h hw 55 rfl)) (notFace_of_selects (args := #[]) (mvT hZ (own_h hw 57 rfl))) (mvT hZ (own_h hw 57 rfl)) (mvT hZ (own_h hw 56 rfl)) (by decide) (StrChars.Road.lenW (W := 0) hZ hln (kI := 4) (own_h hw 3 rfl) f847 f849 f848 f850 hcod hb0 (S_cs.ext f846.2) hcz (Nat.le_of_ble_eq_true rfl) (by decide) (by decide)) q854a q854c (g := (mkF m 191 #[vI a, vI b, vI d, vI f, vI g, vI c0, vI c1, vI c2, vI c3, vI (2 : Int32), vR ar, vR x1, vR nm, vR x1] [(.ref x1)])) rfl (by rw [hml]; rfl) (Steps.refl _) (argsL := []) (rest := []) (lenOf pd___I rfl) rfl (by show 2 * 0 + _ ≤ _; exact Nat.le_of_eq rfl) (hb hby at_191) (fun _ _ => ⟨rfl, e851, (by decide : 6 + 0 ≤ _), (by decide : 18 + 0 ≤ _)⟩))
        obtain ⟨rfl, rfl, e854⟩ := hQ854
        have N854 := Fr.app N851 (Fr.nil n0)
        have S855 : Go p e below s₁ (eF_law m a b d f g) T854 (mkF m 194 #[vI a, vI b, vI d, vI f, vI g, vI c0, vI c1, vI c2, vI c3, vI (2 : Int32), vR ar, vR x1, vR nm, vR x1] [(.int (Int32.ofNat ([c0, c1] : List Int32).length))]) := fun t kt => S853 t (st854 t kt)
        clear S853 st854 X851 e851
        have q857 : (Int32.ofNat ([c0, c1] : List Int32).length) = (2 : Int32) := rfl
        have S856 : Go p e below s₁ (eF_law m a b d f g) T854 (mkF m 194 #[vI a, vI b, vI d, vI f, vI g, vI c0, vI c1, vI c2, vI c3, vI (2 : Int32), vR ar, vR x1, vR nm, vR x1] [(.int (2 : Int32))]) := by have h := S855; rw [q857] at h; exact h
        clear S855
        have S858 : Go p e below s₁ (eF_law m a b d f g) T854 (mkF m 202 #[vI a, vI b, vI d, vI f, vI g, vI c0, vI c1, vI c2, vI c3, vI (2 : Int32), vR ar, vR x1, vR nm, vR x1] [(.int (0 : Int32)), (.ref x1)]) := fun t kt => S856 t (by
          refine XS.iload X854.here hx rfl (hb hby at_194) rfl ?_
          show Sp p e below T854 (mkF m 196 #[vI a, vI b, vI d, vI f, vI g, vI c0, vI c1, vI c2, vI c3, vI (2 : Int32), vR ar, vR x1, vR nm, vR x1] [(.int (2 : Int32)), (.int (2 : Int32))]) _
          refine XS.icmpNo X854.here hx rfl (hb hby at_196) rfl (teq (show (2 : Int32) = (2 : Int32) from (by decide))).2 ?_
          show Sp p e below T854 (mkF m 199 #[vI a, vI b, vI d, vI f, vI g, vI c0, vI c1, vI c2, vI c3, vI (2 : Int32), vR ar, vR x1, vR nm, vR x1] []) _
          refine XS.aload X854.here hx rfl (hb hby at_199) rfl rfl ?_
          show Sp p e below T854 (mkF m 201 #[vI a, vI b, vI d, vI f, vI g, vI c0, vI c1, vI c2, vI c3, vI (2 : Int32), vR ar, vR x1, vR nm, vR x1] [(.ref x1)]) _
          refine XS.iconst X854.here hx rfl (hb hby at_201) ?_
          show Sp p e below T854 (mkF m 202 #[vI a, vI b, vI d, vI f, vI g, vI c0, vI c1, vI c2, vI c3, vI (2 : Int32), vR ar, vR x1, vR nm, vR x1] [(.int (0 : Int32)), (.ref x1)]) _
          exact kt)
        clear S856
        obtain ⟨cq859, kq859, q859a, q859b, q859c⟩ := isOf hZ e854 f847
        obtain ⟨v859, T859, L859, X859, hQ859, st859⟩ := own_outV (X854.virtualBack hx (y := (⟨"java/lang/String", "charAt", "(I)C"⟩ : MethodName)) (z := (⟨"java/lang/String", "charAt", "(I)C"⟩ : MethodName)) hown (mvT hZ (own_h hw 64 rfl)) (mvT hZ (own_h hw 65 rfl)) (notFace_of_selects (args := #[]) (mvT hZ (own_h hw 67 rfl))) (mvT hZ (own_h hw 67 rfl)) (mvT hZ (own_h hw 66 rfl)) (by decide) (backOf (W := 0) (rm_cha l Z a0 hw [] x1 (0 : Int32) t1 kb835 n vs cd [c0, c1] 0 T840.heap n0 (Nat.le_trans (Nat.le_trans (Nat.le_trans (Nat.le_trans (Nat.le_trans (Nat.le_trans Z0 E818.1) (Keep.of_wr W822).1) (Keep.of_wr W826).1) E829.1) K835.1) K840.1) SS f846 f847 f848 f849 f850 hcod hb0 (Nat.le_of_ble_eq_true rfl) (Nat.le_of_ble_eq_true rfl) (by decide)) hZ (own_h hw 68 rfl) (own_h hw 4 rfl) (by decide) (by decide)) q859a q859c (g := (mkF m 202 #[vI a, vI b, vI d, vI f, vI g, vI c0, vI c1, vI c2, vI c3, vI (2 : Int32), vR ar, vR x1, vR nm, vR x1] [(.int (0 : Int32)), (.ref x1)])) rfl (by rw [hml]; rfl) (Steps.refl _) (argsL := [(.int (0 : Int32))]) (rest := []) (lenOf pd__I_C rfl) rfl (by show 2 * 0 + _ ≤ _; exact Nat.le_of_eq rfl) (hb hby at_202) (fun _ _ => ⟨rfl, e854, (by decide : 6 + 0 ≤ _), (by decide : 18 + 0 ≤ _)⟩))
        obtain ⟨rfl, N859q, e859⟩ := hQ859
        have N859 := Fr.app N854 N859q
        have S860 : Go p e below s₁ (eF_law m a b d f g) T859 (mkF m 205 #[vI a, vI b, vI d, vI f, vI g, vI c0, vI c1, vI c2, vI c3, vI (2 : Int32), vR ar, vR x1, vR nm, vR x1] [(.int (([c0, c1] : List Int32).getD 0 0))]) := fun t kt => S858 t (st859 t kt)
        clear S858 st859 X854 e854
        have q862 : (([c0, c1] : List Int32).getD 0 0) = c0 := rfl
        have S861 : Go p e below s₁ (eF_law m a b d f g) T859 (mkF m 205 #[vI a, vI b, vI d, vI f, vI g, vI c0, vI c1, vI c2, vI c3, vI (2 : Int32), vR ar, vR x1, vR nm, vR x1] [(.int c0)]) := by have h := S860; rw [q862] at h; exact h
        clear S860
        have S863 : Go p e below s₁ (eF_law m a b d f g) T859 (mkF m 216 #[vI a, vI b, vI d, vI f, vI g, vI c0, vI c1, vI c2, vI c3, vI (2 : Int32), vR ar, vR x1, vR nm, vR x1] [(.int ((2 : Int32) - (1 : Int32))), (.ref x1)]) := fun t kt => S861 t (by
          refine XS.iload X859.here hx rfl (hb hby at_205) rfl ?_
          show Sp p e below T859 (mkF m 207 #[vI a, vI b, vI d, vI f, vI g, vI c0, vI c1, vI c2, vI c3, vI (2 : Int32), vR ar, vR x1, vR nm, vR x1] [(.int c0), (.int c0)]) _
          refine XS.icmpNo X859.here hx rfl (hb hby at_207) rfl (teq (show c0 = c0 from rfl)).2 ?_
          show Sp p e below T859 (mkF m 210 #[vI a, vI b, vI d, vI f, vI g, vI c0, vI c1, vI c2, vI c3, vI (2 : Int32), vR ar, vR x1, vR nm, vR x1] []) _
          refine XS.aload X859.here hx rfl (hb hby at_210) rfl rfl ?_
          show Sp p e below T859 (mkF m 212 #[vI a, vI b, vI d, vI f, vI g, vI c0, vI c1, vI c2, vI c3, vI (2 : Int32), vR ar, vR x1, vR nm, vR x1] [(.ref x1)]) _
          refine XS.iload X859.here hx rfl (hb hby at_212) rfl ?_
          show Sp p e below T859 (mkF m 214 #[vI a, vI b, vI d, vI f, vI g, vI c0, vI c1, vI c2, vI c3, vI (2 : Int32), vR ar, vR x1, vR nm, vR x1] [(.int (2 : Int32)), (.ref x1)]) _
          refine XS.iconst X859.here hx rfl (hb hby at_214) ?_
          show Sp p e below T859 (mkF m 215 #[vI a, vI b, vI d, vI f, vI g, vI c0, vI c1, vI c2, vI c3, vI (2 : Int32), vR ar, vR x1, vR nm, vR x1] [(.int (1 : Int32)), (.int (2 : Int32)), (.ref x1)]) _
          refine XS.isub X859.here hx rfl (hb hby at_215) rfl ?_
          show Sp p e below T859 (mkF m 216 #[vI a, vI b, vI d, vI f, vI g, vI c0, vI c1, vI c2, vI c3, vI (2 : Int32), vR ar, vR x1, vR nm, vR x1] [(.int ((2 : Int32) - (1 : Int32))), (.ref x1)]) _
          exact kt)
        clear S861
        have q865 : ((2 : Int32) - (1 : Int32)) = (1 : Int32) := by decide
        have S864 : Go p e below s₁ (eF_law m a b d f g) T859 (mkF m 216 #[vI a, vI b, vI d, vI f, vI g, vI c0, vI c1, vI c2, vI c3, vI (2 : Int32), vR ar, vR x1, vR nm, vR x1] [(.int (1 : Int32)), (.ref x1)]) := by have h := S863; rw [q865] at h; exact h
        clear S863
        obtain ⟨cq866, kq866, q866a, q866b, q866c⟩ := isOf hZ e859 f847
        obtain ⟨v866, T866, L866, X866, hQ866, st866⟩ := own_outV (X859.virtualBack hx (y := (⟨"java/lang/String", "charAt", "(I)C"⟩ : MethodName)) (z := (⟨"java/lang/String", "charAt", "(I)C"⟩ : MethodName)) hown (mvT hZ (own_h hw 64 rfl)) (mvT hZ (own_h hw 65 rfl)) (notFace_of_selects (args := #[]) (mvT hZ (own_h hw 67 rfl))) (mvT hZ (own_h hw 67 rfl)) (mvT hZ (own_h hw 66 rfl)) (by decide) (backOf (W := 0) (rm_cha l Z a0 hw [] x1 (1 : Int32) t1 kb835 n vs cd [c0, c1] 1 T840.heap n0 (Nat.le_trans (Nat.le_trans (Nat.le_trans (Nat.le_trans (Nat.le_trans (Nat.le_trans Z0 E818.1) (Keep.of_wr W822).1) (Keep.of_wr W826).1) E829.1) K835.1) K840.1) SS f846 f847 f848 f849 f850 hcod hb0 (Nat.le_of_ble_eq_true rfl) (Nat.le_of_ble_eq_true rfl) (by decide)) hZ (own_h hw 68 rfl) (own_h hw 4 rfl) (by decide) (by decide)) q866a q866c (g := (mkF m 216 #[vI a, vI b, vI d, vI f, vI g, vI c0, vI c1, vI c2, vI c3, vI (2 : Int32), vR ar, vR x1, vR nm, vR x1] [(.int (1 : Int32)), (.ref x1)])) rfl (by rw [hml]; rfl) (Steps.refl _) (argsL := [(.int (1 : Int32))]) (rest := []) (lenOf pd__I_C rfl) rfl (by show 2 * 0 + _ ≤ _; exact Nat.le_of_eq rfl) (hb hby at_216) (fun _ _ => ⟨rfl, e859, (by decide : 6 + 0 ≤ _), (by decide : 18 + 0 ≤ _)⟩))
        obtain ⟨rfl, N866q, e866⟩ := hQ866
        have N866 := Fr.app N859 N866q
        have S867 : Go p e below s₁ (eF_law m a b d f g) T866 (mkF m 219 #[vI a, vI b, vI d, vI f, vI g, vI c0, vI c1, vI c2, vI c3, vI (2 : Int32), vR ar, vR x1, vR nm, vR x1] [(.int (([c0, c1] : List Int32).getD 1 0))]) := fun t kt => S864 t (st866 t kt)
        clear S864 st866 X859 e859
        have q869 : (([c0, c1] : List Int32).getD 1 0) = c1 := rfl
        have S868 : Go p e below s₁ (eF_law m a b d f g) T866 (mkF m 219 #[vI a, vI b, vI d, vI f, vI g, vI c0, vI c1, vI c2, vI c3, vI (2 : Int32), vR ar, vR x1, vR nm, vR x1] [(.int c1)]) := by have h := S867; rw [q869] at h; exact h
        clear S867
        have S870 : Go p e below s₁ (eF_law m a b d f g) T866 (mkF m 225 #[vI a, vI b, vI d, vI f, vI g, vI c0, vI c1, vI c2, vI c3, vI (2 : Int32), vR ar, vR x1, vR nm, vR x1] [(.int ((2 : Int32) - (1 : Int32))), (.ref ar), (.int c1)]) := fun t kt => S868 t (by
          refine XS.aload X866.here hx rfl (hb hby at_219) rfl rfl ?_
          show Sp p e below T866 (mkF m 221 #[vI a, vI b, vI d, vI f, vI g, vI c0, vI c1, vI c2, vI c3, vI (2 : Int32), vR ar, vR x1, vR nm, vR x1] [(.ref ar), (.int c1)]) _
          refine XS.iload X866.here hx rfl (hb hby at_221) rfl ?_
          show Sp p e below T866 (mkF m 223 #[vI a, vI b, vI d, vI f, vI g, vI c0, vI c1, vI c2, vI c3, vI (2 : Int32), vR ar, vR x1, vR nm, vR x1] [(.int (2 : Int32)), (.ref ar), (.int c1)]) _
          refine XS.iconst X866.here hx rfl (hb hby at_223) ?_
          show Sp p e below T866 (mkF m 224 #[vI a, vI b, vI d, vI f, vI g, vI c0, vI c1, vI c2, vI c3, vI (2 : Int32), vR ar, vR x1, vR nm, vR x1] [(.int (1 : Int32)), (.int (2 : Int32)), (.ref ar), (.int c1)]) _
          refine XS.isub X866.here hx rfl (hb hby at_224) rfl ?_
          show Sp p e below T866 (mkF m 225 #[vI a, vI b, vI d, vI f, vI g, vI c0, vI c1, vI c2, vI c3, vI (2 : Int32), vR ar, vR x1, vR nm, vR x1] [(.int ((2 : Int32) - (1 : Int32))), (.ref ar), (.int c1)]) _
          exact kt)
        clear S868
        have q872 : ((2 : Int32) - (1 : Int32)) = (1 : Int32) := by decide
        have S871 : Go p e below s₁ (eF_law m a b d f g) T866 (mkF m 225 #[vI a, vI b, vI d, vI f, vI g, vI c0, vI c1, vI c2, vI c3, vI (2 : Int32), vR ar, vR x1, vR nm, vR x1] [(.int (1 : Int32)), (.ref ar), (.int c1)]) := by have h := S870; rw [q872] at h; exact h
        clear S870
        have f873 := ((f834.keep K835 (ninS ne830 nin0)).keep K840 nin0)
        obtain ⟨co874, Ao874, qo874, So874, No874, Ho874, Go874⟩ := id f873
        have hino874 : ¬ ((1 : Int32) < 0 ∨ co874.slots.size ≤ ((1 : Int32)).toNatClampNeg) := inb_of So874 ⟨by decide, by decide⟩
        have hato874 : co874.slots[((1 : Int32)).toNatClampNeg]? = some (.int c1) := Has.at Ho874 hino874 rfl
        have S875 : Go p e below s₁ (eF_law m a b d f g) T866 (mkF m 234 #[vI a, vI b, vI d, vI f, vI g, vI c0, vI c1, vI c2, vI c3, vI (2 : Int32), vR ar, vR x1, vR nm, vR x1] [(.int (1 : Int32))]) := fun t kt => S871 t (by
          refine X866.caload hx (j := (1 : Int32)) (v := (.int c1)) (by rw [e866]; exact Ao874.1) (State.isArrayOf_alike hZ.alike Ao874.2.1) Ao874.2.2 hino874 hato874 (g := (mkF m 225 #[vI a, vI b, vI d, vI f, vI g, vI c0, vI c1, vI c2, vI c3, vI (2 : Int32), vR ar, vR x1, vR nm, vR x1] [(.int (1 : Int32)), (.ref ar), (.int c1)])) rfl rfl (hb hby at_225) _ ?_
          show Sp p e below T866 (mkF m 226 #[vI a, vI b, vI d, vI f, vI g, vI c0, vI c1, vI c2, vI c3, vI (2 : Int32), vR ar, vR x1, vR nm, vR x1] [(.int c1), (.int c1)]) _
          refine XS.icmpNo X866.here hx rfl (hb hby at_226) rfl (teq (show c1 = c1 from rfl)).2 ?_
          show Sp p e below T866 (mkF m 229 #[vI a, vI b, vI d, vI f, vI g, vI c0, vI c1, vI c2, vI c3, vI (2 : Int32), vR ar, vR x1, vR nm, vR x1] []) _
          refine XS.iconst X866.here hx rfl (hb hby at_229) ?_
          show Sp p e below T866 (mkF m 230 #[vI a, vI b, vI d, vI f, vI g, vI c0, vI c1, vI c2, vI c3, vI (2 : Int32), vR ar, vR x1, vR nm, vR x1] [(.int (1 : Int32))]) _
          refine XS.goto X866.here hx rfl (pc0 := 230) (pc' := 234) rfl (hb hby at_230) (by decide) (by decide) ?_
          show Sp p e below T866 (mkF m 234 #[vI a, vI b, vI d, vI f, vI g, vI c0, vI c1, vI c2, vI c3, vI (2 : Int32), vR ar, vR x1, vR nm, vR x1] [(.int (1 : Int32))]) _
          exact kt)
        clear S871
        obtain ⟨fs, hr, hrun, hended, hRE⟩ := X866.leaveW hS (n := _) (by rw [e866]; exact (Nat.le_trans (Nat.le_trans (Nat.le_trans (Nat.le_trans (Nat.le_trans (Nat.le_trans hki0 E818.1) (Keep.of_wr W822).1) (Keep.of_wr W826).1) E829.1) K835.1) K840.1)) (v := some (.int (1 : Int32))) (fun h => by first | rfl | (rw [Bd.returns] at h; cases h))
        refine ⟨_, _, S875 _ ?_, hrun, hended, _, _, rfl, ?_, hRE.1, hRE.2.1, hRE.2.2.1, hRE.2.2.2.mono (by decide) (by decide)⟩
        · exact retN X866 hx (t := .boolean) Bd.returns (by simp) (hb hby at_234) hr
        · show Q_law Z  h0 n0 _ T866.heap _
          rw [e866]
          exact ⟨rfl, N866⟩
      · have S842 : Go p e below s₁ (eF_law m a b d f g) T835 (mkF m 153 #[vI a, vI b, vI d, vI f, vI g, vI c0, vI c1, vI c2, vI c3, vI (2 : Int32), vR ar, vR x1, vU, vU] []) := fun t kt => S837 t (by
          refine XS.ifNo X835.here hx rfl (hb hby at_150) rfl ((if0 _ _).trans (feq (show ¬ ((((g.toUInt32 >>> ((2 : Int32) &&& 31).toUInt32).toInt32) &&& (1 : Int32)) = (0 : Int32)) from hg)).1) ?_
          show Sp p e below T835 (mkF m 153 #[vI a, vI b, vI d, vI f, vI g, vI c0, vI c1, vI c2, vI c3, vI (2 : Int32), vR ar, vR x1, vU, vU] []) _
          exact kt)
        clear S837
        obtain ⟨nm, T843, h843, ki843, X843, e843, E843, hS, hki843, hZ, hown, st843⟩ := ldcS X835 hx hZ hown (own_h hw 85 rfl) (fun d hd => hw d (own_wS d hd)) rfl hS (Nat.le_trans (Nat.le_trans (Nat.le_trans (Nat.le_trans (Nat.le_trans hki0 E818.1) (Keep.of_wr W822).1) (Keep.of_wr W826).1) E829.1) K835.1) (g := (mkF m 153 #[vI a, vI b, vI d, vI f, vI g, vI c0, vI c1, vI c2, vI c3, vI (2 : Int32), vR ar, vR x1, vU, vU] [])) rfl (hb hby at_153) (n := 0) (by decide +kernel) (by decide) (by decide) (by decide)
        have S844 : Go p e below s₁ (eF_law m a b d f g) T843 (mkF m 155 #[vI a, vI b, vI d, vI f, vI g, vI c0, vI c1, vI c2, vI c3, vI (2 : Int32), vR ar, vR x1, vU, vU] [(.ref nm)]) := fun t kt => S842 t (st843 t kt)
        clear S842 st843 X835
        have S876 : Go p e below s₁ (eF_law m a b d f g) T843 (mkF m 177 #[vI a, vI b, vI d, vI f, vI g, vI c0, vI c1, vI c2, vI c3, vI (2 : Int32), vR ar, vR x1, vR nm, vU] [(.ref nm), (.ref x1)]) := fun t kt => S844 t (by
          refine XS.astore X843.here hx rfl (hb hby at_155) rfl rfl (l' := #[vI a, vI b, vI d, vI f, vI g, vI c0, vI c1, vI c2, vI c3, vI (2 : Int32), vR ar, vR x1, vR nm, vU]) rfl ?_
          show Sp p e below T843 (mkF m 157 #[vI a, vI b, vI d, vI f, vI g, vI c0, vI c1, vI c2, vI c3, vI (2 : Int32), vR ar, vR x1, vR nm, vU] []) _
          refine XS.goto X843.here hx rfl (pc0 := 157) (pc' := 173) rfl (hb hby at_157) (by decide) (by decide) ?_
          show Sp p e below T843 (mkF m 173 #[vI a, vI b, vI d, vI f, vI g, vI c0, vI c1, vI c2, vI c3, vI (2 : Int32), vR ar, vR x1, vR nm, vU] []) _
          refine XS.aload X843.here hx rfl (hb hby at_173) rfl rfl ?_
          show Sp p e below T843 (mkF m 175 #[vI a, vI b, vI d, vI f, vI g, vI c0, vI c1, vI c2, vI c3, vI (2 : Int32), vR ar, vR x1, vR nm, vU] [(.ref x1)]) _
          refine XS.aload X843.here hx rfl (hb hby at_175) rfl rfl ?_
          show Sp p e below T843 (mkF m 177 #[vI a, vI b, vI d, vI f, vI g, vI c0, vI c1, vI c2, vI c3, vI (2 : Int32), vR ar, vR x1, vR nm, vU] [(.ref nm), (.ref x1)]) _
          exact kt)
        clear S844
        have f877 := ((f833.keep K835 (allS g_x1 all0)).ext E843)
        have f878 := (E835.ext E843)
        have f879 := (F835.ext E843)
        have f880 := (G835.ext E843)
        have f881 := (V835.ext E843)
        obtain ⟨v882, T882, L882, X882, hQ882, st882⟩ := own_outS (Jvm.LawKit.callS X843 hx (y := (⟨"com/example/upper_ward/upperward/auth/SigningChecks", "required", "(Ljava/lang/String;Ljava/lang/String;)Ljava/lang/String;"⟩ : MethodName)) hown (mvT hZ (own_h hw 45 rfl)) (mvT hZ (own_h hw 46 rfl)) (mvT hZ (own_h hw 47 rfl)) (mvT hZ (own_h hw 48 rfl)) (by decide) (backOf (W := 0) (rm_req l Z a0 hw [] x1 nm t1 kb835 n vs cd [c0, c1] h843 n0 (Nat.le_trans (Nat.le_trans (Nat.le_trans (Nat.le_trans (Nat.le_trans (Nat.le_trans Z0 E818.1) (Keep.of_wr W822).1) (Keep.of_wr W826).1) E829.1) K835.1) E843.1) SS f877 f878 f879 f880 f881 hcod hb0 (Nat.le_of_ble_eq_true rfl) (by simp)) hZ (own_h hw 48 rfl) (own_h hw 47 rfl) (by decide) (by decide)) (g := (mkF m 177 #[vI a, vI b, vI d, vI f, vI g, vI c0, vI c1, vI c2, vI c3, vI (2 : Int32), vR ar, vR x1, vR nm, vU] [(.ref nm), (.ref x1)])) rfl (by rw [hml]; rfl) (argsL := [(.ref x1), (.ref nm)]) (rest := []) (lenOf pd__Ljava_lang_String_Ljava_lang_String__Ljava_lang_String_ rfl) rfl (by show 2 * 0 + _ ≤ _; exact Nat.le_of_eq rfl) (hb hby at_177) (fun _ _ => ⟨rfl, e843, (by decide : 6 + 0 ≤ _), (by decide : 16 + 0 ≤ _)⟩))
        obtain ⟨rfl, N882q, e882⟩ := hQ882
        have N882 := Fr.app N835 N882q
        have S883 : Go p e below s₁ (eF_law m a b d f g) T882 (mkF m 180 #[vI a, vI b, vI d, vI f, vI g, vI c0, vI c1, vI c2, vI c3, vI (2 : Int32), vR ar, vR x1, vR nm, vU] [(.ref x1)]) := fun t kt => S876 t (st882 t kt)
        clear S876 st882 X843 e843
        have S884 : Go p e below s₁ (eF_law m a b d f g) T882 (mkF m 191 #[vI a, vI b, vI d, vI f, vI g, vI c0, vI c1, vI c2, vI c3, vI (2 : Int32), vR ar, vR x1, vR nm, vR x1] [(.ref x1)]) := fun t kt => S883 t (by
          refine XS.astore X882.here hx rfl (hb hby at_180) rfl rfl (l' := #[vI a, vI b, vI d, vI f, vI g, vI c0, vI c1, vI c2, vI c3, vI (2 : Int32), vR ar, vR x1, vR nm, vR x1]) rfl ?_
          show Sp p e below T882 (mkF m 182 #[vI a, vI b, vI d, vI f, vI g, vI c0, vI c1, vI c2, vI c3, vI (2 : Int32), vR ar, vR x1, vR nm, vR x1] []) _
          refine XS.aload X882.here hx rfl (hb hby at_182) rfl rfl ?_
          show Sp p e below T882 (mkF m 184 #[vI a, vI b, vI d, vI f, vI g, vI c0, vI c1, vI c2, vI c3, vI (2 : Int32), vR ar, vR x1, vR nm, vR x1] [(.ref x1)]) _
          refine XS.aload X882.here hx rfl (hb hby at_184) rfl rfl ?_
          show Sp p e below T882 (mkF m 186 #[vI a, vI b, vI d, vI f, vI g, vI c0, vI c1, vI c2, vI c3, vI (2 : Int32), vR ar, vR x1, vR nm, vR x1] [(.ref x1), (.ref x1)]) _
          refine Jvm.RoadKit.acmp (g := (mkF m 186 #[vI a, vI b, vI d, vI f, vI g, vI c0, vI c1, vI c2, vI c3, vI (2 : Int32), vR ar, vR x1, vR nm, vR x1] [(.ref x1), (.ref x1)])) X882 hx rfl rfl rfl (pc0 := 186) (pc' := 189) (same := true) rfl (hb hby at_186) rfl (decide_eq_true rfl) (by decide) (by decide) ?_
          show Sp p e below T882 (mkF m 189 #[vI a, vI b, vI d, vI f, vI g, vI c0, vI c1, vI c2, vI c3, vI (2 : Int32), vR ar, vR x1, vR nm, vR x1] []) _
          refine XS.aload X882.here hx rfl (hb hby at_189) rfl rfl ?_
          show Sp p e below T882 (mkF m 191 #[vI a, vI b, vI d, vI f, vI g, vI c0, vI c1, vI c2, vI c3, vI (2 : Int32), vR ar, vR x1, vR nm, vR x1] [(.ref x1)]) _
          exact kt)
        clear S883
        obtain ⟨cq885, kq885, q885a, q885b, q885c⟩ := isOf hZ e882 f878
        obtain ⟨v885, T885, L885, X885, hQ885, st885⟩ := own_outV (Q := (fun v h' L => v = some (.int (Int32.ofNat ([c0, c1] : List Int32).length)) ∧ L = [] ∧ h' = h843)) (X882.virtualBack hx (y := (⟨"java/lang/String", "length", "()I"⟩ : MethodName)) (z := (⟨"java/lang/String", "length", "()I"⟩ : MethodName)) hown (mvT hZ (own_h hw 54 rfl)) (mvT hZ (own_h hw 55 rfl)) (notFace_of_selects (args := #[]) (mvT hZ (own_h hw 57 rfl))) (mvT hZ (own_h hw 57 rfl)) (mvT hZ (own_h hw 56 rfl)) (by decide) (StrChars.Road.lenW (W := 0) hZ hln (kI := 4) (own_h hw 3 rfl) f878 f880 f879 f881 hcod hb0 (S_cs.ext f877.2) hcz (Nat.le_of_ble_eq_true rfl) (by decide) (by decide)) q885a q885c (g := (mkF m 191 #[vI a, vI b, vI d, vI f, vI g, vI c0, vI c1, vI c2, vI c3, vI (2 : Int32), vR ar, vR x1, vR nm, vR x1] [(.ref x1)])) rfl (by rw [hml]; rfl) (Steps.refl _) (argsL := []) (rest := []) (lenOf pd___I rfl) rfl (by show 2 * 0 + _ ≤ _; exact Nat.le_of_eq rfl) (hb hby at_191) (fun _ _ => ⟨rfl, e882, (by decide : 6 + 0 ≤ _), (by decide : 16 + 0 ≤ _)⟩))
        obtain ⟨rfl, rfl, e885⟩ := hQ885
        have N885 := Fr.app N882 (Fr.nil n0)
        have S886 : Go p e below s₁ (eF_law m a b d f g) T885 (mkF m 194 #[vI a, vI b, vI d, vI f, vI g, vI c0, vI c1, vI c2, vI c3, vI (2 : Int32), vR ar, vR x1, vR nm, vR x1] [(.int (Int32.ofNat ([c0, c1] : List Int32).length))]) := fun t kt => S884 t (st885 t kt)
        clear S884 st885 X882 e882
        have q888 : (Int32.ofNat ([c0, c1] : List Int32).length) = (2 : Int32) := rfl
        have S887 : Go p e below s₁ (eF_law m a b d f g) T885 (mkF m 194 #[vI a, vI b, vI d, vI f, vI g, vI c0, vI c1, vI c2, vI c3, vI (2 : Int32), vR ar, vR x1, vR nm, vR x1] [(.int (2 : Int32))]) := by have h := S886; rw [q888] at h; exact h
        clear S886
        have S889 : Go p e below s₁ (eF_law m a b d f g) T885 (mkF m 202 #[vI a, vI b, vI d, vI f, vI g, vI c0, vI c1, vI c2, vI c3, vI (2 : Int32), vR ar, vR x1, vR nm, vR x1] [(.int (0 : Int32)), (.ref x1)]) := fun t kt => S887 t (by
          refine XS.iload X885.here hx rfl (hb hby at_194) rfl ?_
          show Sp p e below T885 (mkF m 196 #[vI a, vI b, vI d, vI f, vI g, vI c0, vI c1, vI c2, vI c3, vI (2 : Int32), vR ar, vR x1, vR nm, vR x1] [(.int (2 : Int32)), (.int (2 : Int32))]) _
          refine XS.icmpNo X885.here hx rfl (hb hby at_196) rfl (teq (show (2 : Int32) = (2 : Int32) from (by decide))).2 ?_
          show Sp p e below T885 (mkF m 199 #[vI a, vI b, vI d, vI f, vI g, vI c0, vI c1, vI c2, vI c3, vI (2 : Int32), vR ar, vR x1, vR nm, vR x1] []) _
          refine XS.aload X885.here hx rfl (hb hby at_199) rfl rfl ?_
          show Sp p e below T885 (mkF m 201 #[vI a, vI b, vI d, vI f, vI g, vI c0, vI c1, vI c2, vI c3, vI (2 : Int32), vR ar, vR x1, vR nm, vR x1] [(.ref x1)]) _
          refine XS.iconst X885.here hx rfl (hb hby at_201) ?_
          show Sp p e below T885 (mkF m 202 #[vI a, vI b, vI d, vI f, vI g, vI c0, vI c1, vI c2, vI c3, vI (2 : Int32), vR ar, vR x1, vR nm, vR x1] [(.int (0 : Int32)), (.ref x1)]) _
          exact kt)
        clear S887
        obtain ⟨cq890, kq890, q890a, q890b, q890c⟩ := isOf hZ e885 f878
        obtain ⟨v890, T890, L890, X890, hQ890, st890⟩ := own_outV (X885.virtualBack hx (y := (⟨"java/lang/String", "charAt", "(I)C"⟩ : MethodName)) (z := (⟨"java/lang/String", "charAt", "(I)C"⟩ : MethodName)) hown (mvT hZ (own_h hw 64 rfl)) (mvT hZ (own_h hw 65 rfl)) (notFace_of_selects (args := #[]) (mvT hZ (own_h hw 67 rfl))) (mvT hZ (own_h hw 67 rfl)) (mvT hZ (own_h hw 66 rfl)) (by decide) (backOf (W := 0) (rm_cha l Z a0 hw [] x1 (0 : Int32) t1 kb835 n vs cd [c0, c1] 0 h843 n0 (Nat.le_trans (Nat.le_trans (Nat.le_trans (Nat.le_trans (Nat.le_trans (Nat.le_trans Z0 E818.1) (Keep.of_wr W822).1) (Keep.of_wr W826).1) E829.1) K835.1) E843.1) SS f877 f878 f879 f880 f881 hcod hb0 (Nat.le_of_ble_eq_true rfl) (Nat.le_of_ble_eq_true rfl) (by decide)) hZ (own_h hw 68 rfl) (own_h hw 4 rfl) (by decide) (by decide)) q890a q890c (g := (mkF m 202 #[vI a, vI b, vI d, vI f, vI g, vI c0, vI c1, vI c2, vI c3, vI (2 : Int32), vR ar, vR x1, vR nm, vR x1] [(.int (0 : Int32)), (.ref x1)])) rfl (by rw [hml]; rfl) (Steps.refl _) (argsL := [(.int (0 : Int32))]) (rest := []) (lenOf pd__I_C rfl) rfl (by show 2 * 0 + _ ≤ _; exact Nat.le_of_eq rfl) (hb hby at_202) (fun _ _ => ⟨rfl, e885, (by decide : 6 + 0 ≤ _), (by decide : 16 + 0 ≤ _)⟩))
        obtain ⟨rfl, N890q, e890⟩ := hQ890
        have N890 := Fr.app N885 N890q
        have S891 : Go p e below s₁ (eF_law m a b d f g) T890 (mkF m 205 #[vI a, vI b, vI d, vI f, vI g, vI c0, vI c1, vI c2, vI c3, vI (2 : Int32), vR ar, vR x1, vR nm, vR x1] [(.int (([c0, c1] : List Int32).getD 0 0))]) := fun t kt => S889 t (st890 t kt)
        clear S889 st890 X885 e885
        have q893 : (([c0, c1] : List Int32).getD 0 0) = c0 := rfl
        have S892 : Go p e below s₁ (eF_law m a b d f g) T890 (mkF m 205 #[vI a, vI b, vI d, vI f, vI g, vI c0, vI c1, vI c2, vI c3, vI (2 : Int32), vR ar, vR x1, vR nm, vR x1] [(.int c0)]) := by have h := S891; rw [q893] at h; exact h
        clear S891
        have S894 : Go p e below s₁ (eF_law m a b d f g) T890 (mkF m 216 #[vI a, vI b, vI d, vI f, vI g, vI c0, vI c1, vI c2, vI c3, vI (2 : Int32), vR ar, vR x1, vR nm, vR x1] [(.int ((2 : Int32) - (1 : Int32))), (.ref x1)]) := fun t kt => S892 t (by
          refine XS.iload X890.here hx rfl (hb hby at_205) rfl ?_
          show Sp p e below T890 (mkF m 207 #[vI a, vI b, vI d, vI f, vI g, vI c0, vI c1, vI c2, vI c3, vI (2 : Int32), vR ar, vR x1, vR nm, vR x1] [(.int c0), (.int c0)]) _
          refine XS.icmpNo X890.here hx rfl (hb hby at_207) rfl (teq (show c0 = c0 from rfl)).2 ?_
          show Sp p e below T890 (mkF m 210 #[vI a, vI b, vI d, vI f, vI g, vI c0, vI c1, vI c2, vI c3, vI (2 : Int32), vR ar, vR x1, vR nm, vR x1] []) _
          refine XS.aload X890.here hx rfl (hb hby at_210) rfl rfl ?_
          show Sp p e below T890 (mkF m 212 #[vI a, vI b, vI d, vI f, vI g, vI c0, vI c1, vI c2, vI c3, vI (2 : Int32), vR ar, vR x1, vR nm, vR x1] [(.ref x1)]) _
          refine XS.iload X890.here hx rfl (hb hby at_212) rfl ?_
          show Sp p e below T890 (mkF m 214 #[vI a, vI b, vI d, vI f, vI g, vI c0, vI c1, vI c2, vI c3, vI (2 : Int32), vR ar, vR x1, vR nm, vR x1] [(.int (2 : Int32)), (.ref x1)]) _
          refine XS.iconst X890.here hx rfl (hb hby at_214) ?_
          show Sp p e below T890 (mkF m 215 #[vI a, vI b, vI d, vI f, vI g, vI c0, vI c1, vI c2, vI c3, vI (2 : Int32), vR ar, vR x1, vR nm, vR x1] [(.int (1 : Int32)), (.int (2 : Int32)), (.ref x1)]) _
          refine XS.isub X890.here hx rfl (hb hby at_215) rfl ?_
          show Sp p e below T890 (mkF m 216 #[vI a, vI b, vI d, vI f, vI g, vI c0, vI c1, vI c2, vI c3, vI (2 : Int32), vR ar, vR x1, vR nm, vR x1] [(.int ((2 : Int32) - (1 : Int32))), (.ref x1)]) _
          exact kt)
        clear S892
        have q896 : ((2 : Int32) - (1 : Int32)) = (1 : Int32) := by decide
        have S895 : Go p e below s₁ (eF_law m a b d f g) T890 (mkF m 216 #[vI a, vI b, vI d, vI f, vI g, vI c0, vI c1, vI c2, vI c3, vI (2 : Int32), vR ar, vR x1, vR nm, vR x1] [(.int (1 : Int32)), (.ref x1)]) := by have h := S894; rw [q896] at h; exact h
        clear S894
        obtain ⟨cq897, kq897, q897a, q897b, q897c⟩ := isOf hZ e890 f878
        obtain ⟨v897, T897, L897, X897, hQ897, st897⟩ := own_outV (X890.virtualBack hx (y := (⟨"java/lang/String", "charAt", "(I)C"⟩ : MethodName)) (z := (⟨"java/lang/String", "charAt", "(I)C"⟩ : MethodName)) hown (mvT hZ (own_h hw 64 rfl)) (mvT hZ (own_h hw 65 rfl)) (notFace_of_selects (args := #[]) (mvT hZ (own_h hw 67 rfl))) (mvT hZ (own_h hw 67 rfl)) (mvT hZ (own_h hw 66 rfl)) (by decide) (backOf (W := 0) (rm_cha l Z a0 hw [] x1 (1 : Int32) t1 kb835 n vs cd [c0, c1] 1 h843 n0 (Nat.le_trans (Nat.le_trans (Nat.le_trans (Nat.le_trans (Nat.le_trans (Nat.le_trans Z0 E818.1) (Keep.of_wr W822).1) (Keep.of_wr W826).1) E829.1) K835.1) E843.1) SS f877 f878 f879 f880 f881 hcod hb0 (Nat.le_of_ble_eq_true rfl) (Nat.le_of_ble_eq_true rfl) (by decide)) hZ (own_h hw 68 rfl) (own_h hw 4 rfl) (by decide) (by decide)) q897a q897c (g := (mkF m 216 #[vI a, vI b, vI d, vI f, vI g, vI c0, vI c1, vI c2, vI c3, vI (2 : Int32), vR ar, vR x1, vR nm, vR x1] [(.int (1 : Int32)), (.ref x1)])) rfl (by rw [hml]; rfl) (Steps.refl _) (argsL := [(.int (1 : Int32))]) (rest := []) (lenOf pd__I_C rfl) rfl (by show 2 * 0 + _ ≤ _; exact Nat.le_of_eq rfl) (hb hby at_216) (fun _ _ => ⟨rfl, e890, (by decide : 6 + 0 ≤ _), (by decide : 16 + 0 ≤ _)⟩))
        obtain ⟨rfl, N897q, e897⟩ := hQ897
        have N897 := Fr.app N890 N897q
        have S898 : Go p e below s₁ (eF_law m a b d f g) T897 (mkF m 219 #[vI a, vI b, vI d, vI f, vI g, vI c0, vI c1, vI c2, vI c3, vI (2 : Int32), vR ar, vR x1, vR nm, vR x1] [(.int (([c0, c1] : List Int32).getD 1 0))]) := fun t kt => S895 t (st897 t kt)
        clear S895 st897 X890 e890
        have q900 : (([c0, c1] : List Int32).getD 1 0) = c1 := rfl
        have S899 : Go p e below s₁ (eF_law m a b d f g) T897 (mkF m 219 #[vI a, vI b, vI d, vI f, vI g, vI c0, vI c1, vI c2, vI c3, vI (2 : Int32), vR ar, vR x1, vR nm, vR x1] [(.int c1)]) := by have h := S898; rw [q900] at h; exact h
        clear S898
        have S901 : Go p e below s₁ (eF_law m a b d f g) T897 (mkF m 225 #[vI a, vI b, vI d, vI f, vI g, vI c0, vI c1, vI c2, vI c3, vI (2 : Int32), vR ar, vR x1, vR nm, vR x1] [(.int ((2 : Int32) - (1 : Int32))), (.ref ar), (.int c1)]) := fun t kt => S899 t (by
          refine XS.aload X897.here hx rfl (hb hby at_219) rfl rfl ?_
          show Sp p e below T897 (mkF m 221 #[vI a, vI b, vI d, vI f, vI g, vI c0, vI c1, vI c2, vI c3, vI (2 : Int32), vR ar, vR x1, vR nm, vR x1] [(.ref ar), (.int c1)]) _
          refine XS.iload X897.here hx rfl (hb hby at_221) rfl ?_
          show Sp p e below T897 (mkF m 223 #[vI a, vI b, vI d, vI f, vI g, vI c0, vI c1, vI c2, vI c3, vI (2 : Int32), vR ar, vR x1, vR nm, vR x1] [(.int (2 : Int32)), (.ref ar), (.int c1)]) _
          refine XS.iconst X897.here hx rfl (hb hby at_223) ?_
          show Sp p e below T897 (mkF m 224 #[vI a, vI b, vI d, vI f, vI g, vI c0, vI c1, vI c2, vI c3, vI (2 : Int32), vR ar, vR x1, vR nm, vR x1] [(.int (1 : Int32)), (.int (2 : Int32)), (.ref ar), (.int c1)]) _
          refine XS.isub X897.here hx rfl (hb hby at_224) rfl ?_
          show Sp p e below T897 (mkF m 225 #[vI a, vI b, vI d, vI f, vI g, vI c0, vI c1, vI c2, vI c3, vI (2 : Int32), vR ar, vR x1, vR nm, vR x1] [(.int ((2 : Int32) - (1 : Int32))), (.ref ar), (.int c1)]) _
          exact kt)
        clear S899
        have q903 : ((2 : Int32) - (1 : Int32)) = (1 : Int32) := by decide
        have S902 : Go p e below s₁ (eF_law m a b d f g) T897 (mkF m 225 #[vI a, vI b, vI d, vI f, vI g, vI c0, vI c1, vI c2, vI c3, vI (2 : Int32), vR ar, vR x1, vR nm, vR x1] [(.int (1 : Int32)), (.ref ar), (.int c1)]) := by have h := S901; rw [q903] at h; exact h
        clear S901
        have f904 := ((f834.keep K835 (ninS ne830 nin0)).ext E843)
        obtain ⟨co905, Ao905, qo905, So905, No905, Ho905, Go905⟩ := id f904
        have hino905 : ¬ ((1 : Int32) < 0 ∨ co905.slots.size ≤ ((1 : Int32)).toNatClampNeg) := inb_of So905 ⟨by decide, by decide⟩
        have hato905 : co905.slots[((1 : Int32)).toNatClampNeg]? = some (.int c1) := Has.at Ho905 hino905 rfl
        have S906 : Go p e below s₁ (eF_law m a b d f g) T897 (mkF m 234 #[vI a, vI b, vI d, vI f, vI g, vI c0, vI c1, vI c2, vI c3, vI (2 : Int32), vR ar, vR x1, vR nm, vR x1] [(.int (1 : Int32))]) := fun t kt => S902 t (by
          refine X897.caload hx (j := (1 : Int32)) (v := (.int c1)) (by rw [e897]; exact Ao905.1) (State.isArrayOf_alike hZ.alike Ao905.2.1) Ao905.2.2 hino905 hato905 (g := (mkF m 225 #[vI a, vI b, vI d, vI f, vI g, vI c0, vI c1, vI c2, vI c3, vI (2 : Int32), vR ar, vR x1, vR nm, vR x1] [(.int (1 : Int32)), (.ref ar), (.int c1)])) rfl rfl (hb hby at_225) _ ?_
          show Sp p e below T897 (mkF m 226 #[vI a, vI b, vI d, vI f, vI g, vI c0, vI c1, vI c2, vI c3, vI (2 : Int32), vR ar, vR x1, vR nm, vR x1] [(.int c1), (.int c1)]) _
          refine XS.icmpNo X897.here hx rfl (hb hby at_226) rfl (teq (show c1 = c1 from rfl)).2 ?_
          show Sp p e below T897 (mkF m 229 #[vI a, vI b, vI d, vI f, vI g, vI c0, vI c1, vI c2, vI c3, vI (2 : Int32), vR ar, vR x1, vR nm, vR x1] []) _
          refine XS.iconst X897.here hx rfl (hb hby at_229) ?_
          show Sp p e below T897 (mkF m 230 #[vI a, vI b, vI d, vI f, vI g, vI c0, vI c1, vI c2, vI c3, vI (2 : Int32), vR ar, vR x1, vR nm, vR x1] [(.int (1 : Int32))]) _
          refine XS.goto X897.here hx rfl (pc0 := 230) (pc' := 234) rfl (hb hby at_230) (by decide) (by decide) ?_
          show Sp p e below T897 (mkF m 234 #[vI a, vI b, vI d, vI f, vI g, vI c0, vI c1, vI c2, vI c3, vI (2 : Int32), vR ar, vR x1, vR nm, vR x1] [(.int (1 : Int32))]) _
          exact kt)
        clear S902
        obtain ⟨fs, hr, hrun, hended, hRE⟩ := X897.leaveW hS (n := _) (by rw [e897]; exact hki843) (v := some (.int (1 : Int32))) (fun h => by first | rfl | (rw [Bd.returns] at h; cases h))
        refine ⟨_, _, S906 _ ?_, hrun, hended, _, _, rfl, ?_, hRE.1, hRE.2.1, hRE.2.2.1, hRE.2.2.2.mono (by decide) (by decide)⟩
        · exact retN X897 hx (t := .boolean) Bd.returns (by simp) (hb hby at_234) hr
        · show Q_law Z  h0 n0 _ T897.heap _
          rw [e897]
          exact ⟨rfl, N897⟩
    · have S724 : Go p e below s₁ (eF_law m a b d f g) s₁ (mkF m 82 #[vI a, vI b, vI d, vI f, vI g, vI c0, vI c1, vI c2, vI c3, vI ln, vU, vU, vU, vU] [(.int (3 : Int32)), (.int ln)]) := fun t kt => S723 t (by
        refine XS.icmpYes X0.here hx rfl (pc0 := 58) (pc' := 79) rfl (hb hby at_58) rfl (feq (show ¬ (ln = (2 : Int32)) from hn2)).2 (by decide) (by decide) ?_
        show Sp p e below s₁ (mkF m 79 #[vI a, vI b, vI d, vI f, vI g, vI c0, vI c1, vI c2, vI c3, vI ln, vU, vU, vU, vU] []) _
        refine XS.iload X0.here hx rfl (hb hby at_79) rfl ?_
        show Sp p e below s₁ (mkF m 81 #[vI a, vI b, vI d, vI f, vI g, vI c0, vI c1, vI c2, vI c3, vI ln, vU, vU, vU, vU] [(.int ln)]) _
        refine XS.iconst X0.here hx rfl (hb hby at_81) ?_
        show Sp p e below s₁ (mkF m 82 #[vI a, vI b, vI d, vI f, vI g, vI c0, vI c1, vI c2, vI c3, vI ln, vU, vU, vU, vU] [(.int (3 : Int32)), (.int ln)]) _
        exact kt)
      clear S723
      by_cases hn3 : ln = (3 : Int32)
      · have S907 : Go p e below s₁ (eF_law m a b d f g) s₁ (mkF m 85 #[vI a, vI b, vI d, vI f, vI g, vI c0, vI c1, vI c2, vI c3, vI ln, vU, vU, vU, vU] []) := fun t kt => S724 t (by
          refine XS.icmpNo X0.here hx rfl (hb hby at_82) rfl (teq (show ln = (3 : Int32) from hn3)).2 ?_
          show Sp p e below s₁ (mkF m 85 #[vI a, vI b, vI d, vI f, vI g, vI c0, vI c1, vI c2, vI c3, vI ln, vU, vU, vU, vU] []) _
          exact kt)
        clear S724
        have q909 : ln = (3 : Int32) := hn3
        have S908 : Go p e below s₁ (eF_law m a b d f g) s₁ (mkF m 85 #[vI a, vI b, vI d, vI f, vI g, vI c0, vI c1, vI c2, vI c3, vI (3 : Int32), vU, vU, vU, vU] []) := by have h := S907; rw [q909] at h; exact h
        clear S907
        have S910 : Go p e below s₁ (eF_law m a b d f g) s₁ (mkF m 86 #[vI a, vI b, vI d, vI f, vI g, vI c0, vI c1, vI c2, vI c3, vI (3 : Int32), vU, vU, vU, vU] [(.int (3 : Int32))]) := fun t kt => S908 t (by
          refine XS.iconst X0.here hx rfl (hb hby at_85) ?_
          show Sp p e below s₁ (mkF m 86 #[vI a, vI b, vI d, vI f, vI g, vI c0, vI c1, vI c2, vI c3, vI (3 : Int32), vU, vU, vU, vU] [(.int (3 : Int32))]) _
          exact kt)
        clear S908
        obtain ⟨T911, h911, k911, X911, e911, E911, A911, st911⟩ := newP X0 hx hZ (own_h hw 1 rfl) e0 (g := (mkF m 86 #[vI a, vI b, vI d, vI f, vI g, vI c0, vI c1, vI c2, vI c3, vI (3 : Int32), vU, vU, vU, vU] [(.int (3 : Int32))])) rfl (hb hby at_86) rfl (by decide) (cap := 3) (by decide) (by decide) (by decide) (by decide)
        obtain ⟨ar, g911⟩ : ∃ z, z = h0.size := ⟨_, rfl⟩
        rw [← g911] at A911 st911
        have g_ar : n0 ≤ ar := Nat.le_trans Z0 (Nat.le_of_eq g911.symm)
        have V911 : Arv Z h911 ar k911 .char (3 : Int32) [(.int (0 : Int32)), (.int (0 : Int32)), (.int (0 : Int32))] (.int (0 : Int32)) := (Arv.new A911 (by decide)).pad (pad_rep [] _ 3)
        have S912 : Go p e below s₁ (eF_law m a b d f g) T911 (mkF m 88 #[vI a, vI b, vI d, vI f, vI g, vI c0, vI c1, vI c2, vI c3, vI (3 : Int32), vU, vU, vU, vU] [(.ref ar)]) := fun t kt => S910 t (st911 t kt)
        clear S910 st911 X0 e0
        have S913 : Go p e below s₁ (eF_law m a b d f g) T911 (mkF m 92 #[vI a, vI b, vI d, vI f, vI g, vI c0, vI c1, vI c2, vI c3, vI (3 : Int32), vU, vU, vU, vU] [(.int c0), (.int (0 : Int32)), (.ref ar), (.ref ar)]) := fun t kt => S912 t (by
          refine XS.dup X911.here hx rfl (hb hby at_88) rfl rfl ?_
          show Sp p e below T911 (mkF m 89 #[vI a, vI b, vI d, vI f, vI g, vI c0, vI c1, vI c2, vI c3, vI (3 : Int32), vU, vU, vU, vU] [(.ref ar), (.ref ar)]) _
          refine XS.iconst X911.here hx rfl (hb hby at_89) ?_
          show Sp p e below T911 (mkF m 90 #[vI a, vI b, vI d, vI f, vI g, vI c0, vI c1, vI c2, vI c3, vI (3 : Int32), vU, vU, vU, vU] [(.int (0 : Int32)), (.ref ar), (.ref ar)]) _
          refine XS.iload X911.here hx rfl (hb hby at_90) rfl ?_
          show Sp p e below T911 (mkF m 92 #[vI a, vI b, vI d, vI f, vI g, vI c0, vI c1, vI c2, vI c3, vI (3 : Int32), vU, vU, vU, vU] [(.int c0), (.int (0 : Int32)), (.ref ar), (.ref ar)]) _
          exact kt)
        clear S912
        obtain ⟨co914, Ao914, qo914, So914, No914, Ho914, Go914⟩ := id V911
        have hino914 : ¬ ((0 : Int32) < 0 ∨ co914.slots.size ≤ ((0 : Int32)).toNatClampNeg) := inb_of So914 ⟨by decide, by decide⟩
        obtain ⟨T915, h915, X915, e915, W915, st915⟩ := stC X911 hx hZ e911 Ao914 (j := (0 : Int32)) hino914 (g := (mkF m 92 #[vI a, vI b, vI d, vI f, vI g, vI c0, vI c1, vI c2, vI c3, vI (3 : Int32), vU, vU, vU, vU] [(.int c0), (.int (0 : Int32)), (.ref ar), (.ref ar)])) rfl rfl (hb hby at_92)
        have N915 := Fr.snoc X915 N0 g_ar
        have V915 : Arv Z h915 ar k911 .char (3 : Int32) [(.int (c0.toUInt32.toUInt16.toUInt32.toInt32)), (.int (0 : Int32)), (.int (0 : Int32))] (.int (0 : Int32)) := Arv.set Ao914 qo914 So914 No914 Ho914 Go914 (fits_nar_char _) W915 0 rfl (Nat.le_of_ble_eq_true rfl)
        rw [own_nc2 hc0] at V915
        have S916 : Go p e below s₁ (eF_law m a b d f g) T915 (mkF m 93 #[vI a, vI b, vI d, vI f, vI g, vI c0, vI c1, vI c2, vI c3, vI (3 : Int32), vU, vU, vU, vU] [(.ref ar)]) := fun t kt => S913 t (st915 t kt)
        clear S913 st915 X911 e911
        have S917 : Go p e below s₁ (eF_law m a b d f g) T915 (mkF m 97 #[vI a, vI b, vI d, vI f, vI g, vI c0, vI c1, vI c2, vI c3, vI (3 : Int32), vU, vU, vU, vU] [(.int c1), (.int (1 : Int32)), (.ref ar), (.ref ar)]) := fun t kt => S916 t (by
          refine XS.dup X915.here hx rfl (hb hby at_93) rfl rfl ?_
          show Sp p e below T915 (mkF m 94 #[vI a, vI b, vI d, vI f, vI g, vI c0, vI c1, vI c2, vI c3, vI (3 : Int32), vU, vU, vU, vU] [(.ref ar), (.ref ar)]) _
          refine XS.iconst X915.here hx rfl (hb hby at_94) ?_
          show Sp p e below T915 (mkF m 95 #[vI a, vI b, vI d, vI f, vI g, vI c0, vI c1, vI c2, vI c3, vI (3 : Int32), vU, vU, vU, vU] [(.int (1 : Int32)), (.ref ar), (.ref ar)]) _
          refine XS.iload X915.here hx rfl (hb hby at_95) rfl ?_
          show Sp p e below T915 (mkF m 97 #[vI a, vI b, vI d, vI f, vI g, vI c0, vI c1, vI c2, vI c3, vI (3 : Int32), vU, vU, vU, vU] [(.int c1), (.int (1 : Int32)), (.ref ar), (.ref ar)]) _
          exact kt)
        clear S916
        obtain ⟨co918, Ao918, qo918, So918, No918, Ho918, Go918⟩ := id V915
        have hino918 : ¬ ((1 : Int32) < 0 ∨ co918.slots.size ≤ ((1 : Int32)).toNatClampNeg) := inb_of So918 ⟨by decide, by decide⟩
        obtain ⟨T919, h919, X919, e919, W919, st919⟩ := stC X915 hx hZ e915 Ao918 (j := (1 : Int32)) hino918 (g := (mkF m 97 #[vI a, vI b, vI d, vI f, vI g, vI c0, vI c1, vI c2, vI c3, vI (3 : Int32), vU, vU, vU, vU] [(.int c1), (.int (1 : Int32)), (.ref ar), (.ref ar)])) rfl rfl (hb hby at_97)
        have N919 := Fr.snoc X919 N915 g_ar
        have V919 : Arv Z h919 ar k911 .char (3 : Int32) [(.int c0), (.int (c1.toUInt32.toUInt16.toUInt32.toInt32)), (.int (0 : Int32))] (.int (0 : Int32)) := Arv.set Ao918 qo918 So918 No918 Ho918 Go918 (fits_nar_char _) W919 1 rfl (Nat.le_of_ble_eq_true rfl)
        rw [own_nc2 hc1] at V919
        have S920 : Go p e below s₁ (eF_law m a b d f g) T919 (mkF m 98 #[vI a, vI b, vI d, vI f, vI g, vI c0, vI c1, vI c2, vI c3, vI (3 : Int32), vU, vU, vU, vU] [(.ref ar)]) := fun t kt => S917 t (st919 t kt)
        clear S917 st919 X915 e915
        have S921 : Go p e below s₁ (eF_law m a b d f g) T919 (mkF m 102 #[vI a, vI b, vI d, vI f, vI g, vI c0, vI c1, vI c2, vI c3, vI (3 : Int32), vU, vU, vU, vU] [(.int c2), (.int (2 : Int32)), (.ref ar), (.ref ar)]) := fun t kt => S920 t (by
          refine XS.dup X919.here hx rfl (hb hby at_98) rfl rfl ?_
          show Sp p e below T919 (mkF m 99 #[vI a, vI b, vI d, vI f, vI g, vI c0, vI c1, vI c2, vI c3, vI (3 : Int32), vU, vU, vU, vU] [(.ref ar), (.ref ar)]) _
          refine XS.iconst X919.here hx rfl (hb hby at_99) ?_
          show Sp p e below T919 (mkF m 100 #[vI a, vI b, vI d, vI f, vI g, vI c0, vI c1, vI c2, vI c3, vI (3 : Int32), vU, vU, vU, vU] [(.int (2 : Int32)), (.ref ar), (.ref ar)]) _
          refine XS.iload X919.here hx rfl (hb hby at_100) rfl ?_
          show Sp p e below T919 (mkF m 102 #[vI a, vI b, vI d, vI f, vI g, vI c0, vI c1, vI c2, vI c3, vI (3 : Int32), vU, vU, vU, vU] [(.int c2), (.int (2 : Int32)), (.ref ar), (.ref ar)]) _
          exact kt)
        clear S920
        obtain ⟨co922, Ao922, qo922, So922, No922, Ho922, Go922⟩ := id V919
        have hino922 : ¬ ((2 : Int32) < 0 ∨ co922.slots.size ≤ ((2 : Int32)).toNatClampNeg) := inb_of So922 ⟨by decide, by decide⟩
        obtain ⟨T923, h923, X923, e923, W923, st923⟩ := stC X919 hx hZ e919 Ao922 (j := (2 : Int32)) hino922 (g := (mkF m 102 #[vI a, vI b, vI d, vI f, vI g, vI c0, vI c1, vI c2, vI c3, vI (3 : Int32), vU, vU, vU, vU] [(.int c2), (.int (2 : Int32)), (.ref ar), (.ref ar)])) rfl rfl (hb hby at_102)
        have N923 := Fr.snoc X923 N919 g_ar
        have V923 : Arv Z h923 ar k911 .char (3 : Int32) [(.int c0), (.int c1), (.int (c2.toUInt32.toUInt16.toUInt32.toInt32))] (.int (0 : Int32)) := Arv.set Ao922 qo922 So922 No922 Ho922 Go922 (fits_nar_char _) W923 2 rfl (Nat.le_of_ble_eq_true rfl)
        rw [own_nc2 hc2] at V923
        have S924 : Go p e below s₁ (eF_law m a b d f g) T923 (mkF m 103 #[vI a, vI b, vI d, vI f, vI g, vI c0, vI c1, vI c2, vI c3, vI (3 : Int32), vU, vU, vU, vU] [(.ref ar)]) := fun t kt => S921 t (st923 t kt)
        clear S921 st923 X919 e919
        have S925 : Go p e below s₁ (eF_law m a b d f g) T923 (mkF m 133 #[vI a, vI b, vI d, vI f, vI g, vI c0, vI c1, vI c2, vI c3, vI (3 : Int32), vR ar, vU, vU, vU] []) := fun t kt => S924 t (by
          refine XS.astore X923.here hx rfl (hb hby at_103) rfl rfl (l' := #[vI a, vI b, vI d, vI f, vI g, vI c0, vI c1, vI c2, vI c3, vI (3 : Int32), vR ar, vU, vU, vU]) rfl ?_
          show Sp p e below T923 (mkF m 105 #[vI a, vI b, vI d, vI f, vI g, vI c0, vI c1, vI c2, vI c3, vI (3 : Int32), vR ar, vU, vU, vU] []) _
          refine XS.goto X923.here hx rfl (pc0 := 105) (pc' := 133) rfl (hb hby at_105) (by decide) (by decide) ?_
          show Sp p e below T923 (mkF m 133 #[vI a, vI b, vI d, vI f, vI g, vI c0, vI c1, vI c2, vI c3, vI (3 : Int32), vR ar, vU, vU, vU] []) _
          exact kt)
        clear S924
        obtain ⟨T926, h926, X926, e926, E926, A926, D926, -, st926⟩ := newO X923 hx hZ hown (own_h hw 2 rfl) (own_h hw 3 rfl) (own_h hw 4 rfl) e923 (g := (mkF m 133 #[vI a, vI b, vI d, vI f, vI g, vI c0, vI c1, vI c2, vI c3, vI (3 : Int32), vR ar, vU, vU, vU] [])) rfl (hb hby at_133) (by decide) (by decide)
        obtain ⟨x1, g926⟩ : ∃ z, z = h923.size := ⟨_, rfl⟩
        rw [← g926] at A926 D926 st926
        have ne927 : ar ≠ x1 := by rw [g926]; exact Nat.ne_of_lt V923.lt
        have g_x1 : n0 ≤ x1 := Nat.le_trans (Nat.le_trans (Nat.le_trans (Nat.le_trans (Nat.le_trans Z0 E911.1) (Keep.of_wr W915).1) (Keep.of_wr W919).1) (Keep.of_wr W923).1) (Nat.le_of_eq g926.symm)
        have F_coder_x1 : Fld Z h926 x1 "java/lang/String" "coder" "B" (.int (0 : Int32)) := D926 (Or.inr (own_h hw 28 rfl)) (ty := .byte) (by decide)
        have F_value_x1 : Fld Z h926 x1 "java/lang/String" "value" "[B" .null := D926 (Or.inr (own_h hw 30 rfl)) (ty := (.array .byte)) (by decide)
        have S928 : Go p e below s₁ (eF_law m a b d f g) T926 (mkF m 136 #[vI a, vI b, vI d, vI f, vI g, vI c0, vI c1, vI c2, vI c3, vI (3 : Int32), vR ar, vU, vU, vU] [(.ref x1)]) := fun t kt => S925 t (st926 t kt)
        clear S925 st926 X923 e923
        have S929 : Go p e below s₁ (eF_law m a b d f g) T926 (mkF m 139 #[vI a, vI b, vI d, vI f, vI g, vI c0, vI c1, vI c2, vI c3, vI (3 : Int32), vR ar, vU, vU, vU] [(.ref ar), (.ref x1), (.ref x1)]) := fun t kt => S928 t (by
          refine XS.dup X926.here hx rfl (hb hby at_136) rfl rfl ?_
          show Sp p e below T926 (mkF m 137 #[vI a, vI b, vI d, vI f, vI g, vI c0, vI c1, vI c2, vI c3, vI (3 : Int32), vR ar, vU, vU, vU] [(.ref x1), (.ref x1)]) _
          refine XS.aload X926.here hx rfl (hb hby at_137) rfl rfl ?_
          show Sp p e below T926 (mkF m 139 #[vI a, vI b, vI d, vI f, vI g, vI c0, vI c1, vI c2, vI c3, vI (3 : Int32), vR ar, vU, vU, vU] [(.ref ar), (.ref x1), (.ref x1)]) _
          exact kt)
        clear S928
        have f930 := (((((O0.ext E911).wr W915 g_ar).wr W919 g_ar).wr W923 g_ar).ext E926)
        have f931 := (V923.ext E926)
        obtain ⟨v932, T932, L932, X932, hQ932, st932⟩ := own_outV (X926.specialBack hx (y := (⟨"java/lang/String", "<init>", "([C)V"⟩ : MethodName)) rfl hown (mvT hZ (own_h hw 5 rfl)) (mvT hZ (own_h hw 6 rfl)) (mvT hZ (own_h hw 7 rfl)) (by decide) (backOf (W := 1) (rm_str3 l Z a0 hw [] x1 ar k911 c0 c1 c2 h926 n0 (Nat.le_trans (Nat.le_trans (Nat.le_trans (Nat.le_trans (Nat.le_trans Z0 E911.1) (Keep.of_wr W915).1) (Keep.of_wr W919).1) (Keep.of_wr W923).1) E926.1) SS f930 f931 hc0 hc1 hc2 A926 F_coder_x1 F_value_x1 (Ne.symm ne927) g_x1) hZ (own_h hw 7 rfl) (own_h hw 4 rfl) (by decide) (by decide)) (g := (mkF m 139 #[vI a, vI b, vI d, vI f, vI g, vI c0, vI c1, vI c2, vI c3, vI (3 : Int32), vR ar, vU, vU, vU] [(.ref ar), (.ref x1), (.ref x1)])) rfl (by rw [hml]; rfl) (Steps.refl _) (a := x1) (argsL := [(.ref ar)]) (rest := [(.ref x1)]) (lenOf pd___C_V rfl) rfl (by show 2 * 0 + _ ≤ _; exact Nat.le_of_eq rfl) (hb hby at_139) (fun _ _ => ⟨rfl, e926, (by decide : 2 + 2 ≤ _), (by decide : 7 + 9 ≤ _)⟩))
        obtain ⟨rfl, N932q, K932, t1, kb932, n, vs, cd, sz932, E932, F932, G932, V932, hcod⟩ := hQ932
        have N932 := Fr.app N923 N932q
        have g_t1 : n0 ≤ t1 := Nat.le_trans (Nat.le_trans (Nat.le_trans (Nat.le_trans (Nat.le_trans (Nat.le_trans Z0 E911.1) (Keep.of_wr W915).1) (Keep.of_wr W919).1) (Keep.of_wr W923).1) E926.1) sz932
        have S933 : Go p e below s₁ (eF_law m a b d f g) T932 (mkF m 142 #[vI a, vI b, vI d, vI f, vI g, vI c0, vI c1, vI c2, vI c3, vI (3 : Int32), vR ar, vU, vU, vU] [(.ref x1)]) := fun t kt => S929 t (st932 t kt)
        clear S929 st932 X926 e926
        have hb0 : ∀ z ∈ [c0, c1, c2], own_Ch z := fun z hz => by simp only [List.mem_cons, List.not_mem_nil, or_false] at hz; rcases hz with rfl | rfl | rfl <;> assumption
        have S934 : Go p e below s₁ (eF_law m a b d f g) T932 (mkF m 150 #[vI a, vI b, vI d, vI f, vI g, vI c0, vI c1, vI c2, vI c3, vI (3 : Int32), vR ar, vR x1, vU, vU] [(.int (((g.toUInt32 >>> ((2 : Int32) &&& 31).toUInt32).toInt32) &&& (1 : Int32)))]) := fun t kt => S933 t (by
          refine XS.astore X932.here hx rfl (hb hby at_142) rfl rfl (l' := #[vI a, vI b, vI d, vI f, vI g, vI c0, vI c1, vI c2, vI c3, vI (3 : Int32), vR ar, vR x1, vU, vU]) rfl ?_
          show Sp p e below T932 (mkF m 144 #[vI a, vI b, vI d, vI f, vI g, vI c0, vI c1, vI c2, vI c3, vI (3 : Int32), vR ar, vR x1, vU, vU] []) _
          refine XS.iload X932.here hx rfl (hb hby at_144) rfl ?_
          show Sp p e below T932 (mkF m 146 #[vI a, vI b, vI d, vI f, vI g, vI c0, vI c1, vI c2, vI c3, vI (3 : Int32), vR ar, vR x1, vU, vU] [(.int g)]) _
          refine XS.iconst X932.here hx rfl (hb hby at_146) ?_
          show Sp p e below T932 (mkF m 147 #[vI a, vI b, vI d, vI f, vI g, vI c0, vI c1, vI c2, vI c3, vI (3 : Int32), vR ar, vR x1, vU, vU] [(.int (2 : Int32)), (.int g)]) _
          refine XS.iushr X932.here hx rfl (hb hby at_147) rfl ?_
          show Sp p e below T932 (mkF m 148 #[vI a, vI b, vI d, vI f, vI g, vI c0, vI c1, vI c2, vI c3, vI (3 : Int32), vR ar, vR x1, vU, vU] [(.int ((g.toUInt32 >>> ((2 : Int32) &&& 31).toUInt32).toInt32))]) _
          refine XS.iconst X932.here hx rfl (hb hby at_148) ?_
          show Sp p e below T932 (mkF m 149 #[vI a, vI b, vI d, vI f, vI g, vI c0, vI c1, vI c2, vI c3, vI (3 : Int32), vR ar, vR x1, vU, vU] [(.int (1 : Int32)), (.int ((g.toUInt32 >>> ((2 : Int32) &&& 31).toUInt32).toInt32))]) _
          refine XS.iand X932.here hx rfl (hb hby at_149) rfl ?_
          show Sp p e below T932 (mkF m 150 #[vI a, vI b, vI d, vI f, vI g, vI c0, vI c1, vI c2, vI c3, vI (3 : Int32), vR ar, vR x1, vU, vU] [(.int (((g.toUInt32 >>> ((2 : Int32) &&& 31).toUInt32).toInt32) &&& (1 : Int32)))]) _
          exact kt)
        clear S933
        by_cases hg : (((g.toUInt32 >>> ((2 : Int32) &&& 31).toUInt32).toInt32) &&& (1 : Int32)) = (0 : Int32)
        · have S935 : Go p e below s₁ (eF_law m a b d f g) T932 (mkF m 168 #[vI a, vI b, vI d, vI f, vI g, vI c0, vI c1, vI c2, vI c3, vI (3 : Int32), vR ar, vR x1, vU, vU] [(.int ((((g.toUInt32 >>> ((3 : Int32) &&& 31).toUInt32).toInt32) &&& (65535 : Int32)).toUInt32.toUInt16.toUInt32.toInt32))]) := fun t kt => S934 t (by
            refine XS.ifYes X932.here hx rfl (pc0 := 150) (pc' := 160) rfl (hb hby at_150) rfl ((if0 _ _).trans (teq (show (((g.toUInt32 >>> ((2 : Int32) &&& 31).toUInt32).toInt32) &&& (1 : Int32)) = (0 : Int32) from hg)).1) (by decide) (by decide) ?_
            show Sp p e below T932 (mkF m 160 #[vI a, vI b, vI d, vI f, vI g, vI c0, vI c1, vI c2, vI c3, vI (3 : Int32), vR ar, vR x1, vU, vU] []) _
            refine XS.iload X932.here hx rfl (hb hby at_160) rfl ?_
            show Sp p e below T932 (mkF m 162 #[vI a, vI b, vI d, vI f, vI g, vI c0, vI c1, vI c2, vI c3, vI (3 : Int32), vR ar, vR x1, vU, vU] [(.int g)]) _
            refine XS.iconst X932.here hx rfl (hb hby at_162) ?_
            show Sp p e below T932 (mkF m 163 #[vI a, vI b, vI d, vI f, vI g, vI c0, vI c1, vI c2, vI c3, vI (3 : Int32), vR ar, vR x1, vU, vU] [(.int (3 : Int32)), (.int g)]) _
            refine XS.iushr X932.here hx rfl (hb hby at_163) rfl ?_
            show Sp p e below T932 (mkF m 164 #[vI a, vI b, vI d, vI f, vI g, vI c0, vI c1, vI c2, vI c3, vI (3 : Int32), vR ar, vR x1, vU, vU] [(.int ((g.toUInt32 >>> ((3 : Int32) &&& 31).toUInt32).toInt32))]) _
            refine X932.ldcInt hx hown (mvT hZ (own_h hw 0 rfl)) (g := (mkF m 164 #[vI a, vI b, vI d, vI f, vI g, vI c0, vI c1, vI c2, vI c3, vI (3 : Int32), vR ar, vR x1, vU, vU] [(.int ((g.toUInt32 >>> ((3 : Int32) &&& 31).toUInt32).toInt32))])) rfl (hb hby at_164) _ ?_
            show Sp p e below T932 (mkF m 166 #[vI a, vI b, vI d, vI f, vI g, vI c0, vI c1, vI c2, vI c3, vI (3 : Int32), vR ar, vR x1, vU, vU] [(.int (65535 : Int32)), (.int ((g.toUInt32 >>> ((3 : Int32) &&& 31).toUInt32).toInt32))]) _
            refine XS.iand X932.here hx rfl (hb hby at_166) rfl ?_
            show Sp p e below T932 (mkF m 167 #[vI a, vI b, vI d, vI f, vI g, vI c0, vI c1, vI c2, vI c3, vI (3 : Int32), vR ar, vR x1, vU, vU] [(.int (((g.toUInt32 >>> ((3 : Int32) &&& 31).toUInt32).toInt32) &&& (65535 : Int32)))]) _
            refine XS.i2c X932.here hx rfl (hb hby at_167) rfl ?_
            show Sp p e below T932 (mkF m 168 #[vI a, vI b, vI d, vI f, vI g, vI c0, vI c1, vI c2, vI c3, vI (3 : Int32), vR ar, vR x1, vU, vU] [(.int ((((g.toUInt32 >>> ((3 : Int32) &&& 31).toUInt32).toInt32) &&& (65535 : Int32)).toUInt32.toUInt16.toUInt32.toInt32))]) _
            exact kt)
          clear S934
          have f936 := (f930.keep K932 (allS g_x1 all0))
          obtain ⟨v937, T937, L937, X937, hQ937, st937⟩ := own_outS (Jvm.LawKit.callS X932 hx (y := (⟨"java/lang/String", "valueOf", "(C)Ljava/lang/String;"⟩ : MethodName)) hown (mvT hZ (own_h hw 31 rfl)) (mvT hZ (own_h hw 32 rfl)) (mvT hZ (own_h hw 4 rfl)) (mvT hZ (own_h hw 33 rfl)) (by decide) (backOf (W := 0) (rm_vof l Z a0 hw [] ((((g.toUInt32 >>> ((3 : Int32) &&& 31).toUInt32).toInt32) &&& (65535 : Int32)).toUInt32.toUInt16.toUInt32.toInt32) T932.heap n0 (Nat.le_trans (Nat.le_trans (Nat.le_trans (Nat.le_trans (Nat.le_trans (Nat.le_trans Z0 E911.1) (Keep.of_wr W915).1) (Keep.of_wr W919).1) (Keep.of_wr W923).1) E926.1) K932.1) SS f936) hZ (own_h hw 33 rfl) (own_h hw 4 rfl) (by decide) (by decide)) (g := (mkF m 168 #[vI a, vI b, vI d, vI f, vI g, vI c0, vI c1, vI c2, vI c3, vI (3 : Int32), vR ar, vR x1, vU, vU] [(.int ((((g.toUInt32 >>> ((3 : Int32) &&& 31).toUInt32).toInt32) &&& (65535 : Int32)).toUInt32.toUInt16.toUInt32.toInt32))])) rfl (by rw [hml]; rfl) (argsL := [(.int ((((g.toUInt32 >>> ((3 : Int32) &&& 31).toUInt32).toInt32) &&& (65535 : Int32)).toUInt32.toUInt16.toUInt32.toInt32))]) (rest := []) (lenOf pd__C_Ljava_lang_String_ rfl) rfl (by show 2 * 0 + _ ≤ _; exact Nat.le_of_eq rfl) (hb hby at_168) (fun _ _ => ⟨rfl, rfl, (by decide : 4 + 2 ≤ _), (by decide : 16 + 6 ≤ _)⟩))
          obtain ⟨nm, rfl, N937q, K937⟩ := hQ937
          have N937 := Fr.app N932 N937q
          have S938 : Go p e below s₁ (eF_law m a b d f g) T937 (mkF m 171 #[vI a, vI b, vI d, vI f, vI g, vI c0, vI c1, vI c2, vI c3, vI (3 : Int32), vR ar, vR x1, vU, vU] [(.ref nm)]) := fun t kt => S935 t (st937 t kt)
          clear S935 st937 X932
          have S942 : Go p e below s₁ (eF_law m a b d f g) T937 (mkF m 177 #[vI a, vI b, vI d, vI f, vI g, vI c0, vI c1, vI c2, vI c3, vI (3 : Int32), vR ar, vR x1, vR nm, vU] [(.ref nm), (.ref x1)]) := fun t kt => S938 t (by
            refine XS.astore X937.here hx rfl (hb hby at_171) rfl rfl (l' := #[vI a, vI b, vI d, vI f, vI g, vI c0, vI c1, vI c2, vI c3, vI (3 : Int32), vR ar, vR x1, vR nm, vU]) rfl ?_
            show Sp p e below T937 (mkF m 173 #[vI a, vI b, vI d, vI f, vI g, vI c0, vI c1, vI c2, vI c3, vI (3 : Int32), vR ar, vR x1, vR nm, vU] []) _
            refine XS.aload X937.here hx rfl (hb hby at_173) rfl rfl ?_
            show Sp p e below T937 (mkF m 175 #[vI a, vI b, vI d, vI f, vI g, vI c0, vI c1, vI c2, vI c3, vI (3 : Int32), vR ar, vR x1, vR nm, vU] [(.ref x1)]) _
            refine XS.aload X937.here hx rfl (hb hby at_175) rfl rfl ?_
            show Sp p e below T937 (mkF m 177 #[vI a, vI b, vI d, vI f, vI g, vI c0, vI c1, vI c2, vI c3, vI (3 : Int32), vR ar, vR x1, vR nm, vU] [(.ref nm), (.ref x1)]) _
            exact kt)
          clear S938
          have f943 := (f936.keep K937 all0)
          have f944 := (E932.keep K937)
          have f945 := (F932.keep K937 nin0)
          have f946 := (G932.keep K937 nin0)
          have f947 := (V932.keep K937 nin0)
          obtain ⟨v948, T948, L948, X948, hQ948, st948⟩ := own_outS (Jvm.LawKit.callS X937 hx (y := (⟨"com/example/upper_ward/upperward/auth/SigningChecks", "required", "(Ljava/lang/String;Ljava/lang/String;)Ljava/lang/String;"⟩ : MethodName)) hown (mvT hZ (own_h hw 45 rfl)) (mvT hZ (own_h hw 46 rfl)) (mvT hZ (own_h hw 47 rfl)) (mvT hZ (own_h hw 48 rfl)) (by decide) (backOf (W := 0) (rm_req l Z a0 hw [] x1 nm t1 kb932 n vs cd [c0, c1, c2] T937.heap n0 (Nat.le_trans (Nat.le_trans (Nat.le_trans (Nat.le_trans (Nat.le_trans (Nat.le_trans (Nat.le_trans Z0 E911.1) (Keep.of_wr W915).1) (Keep.of_wr W919).1) (Keep.of_wr W923).1) E926.1) K932.1) K937.1) SS f943 f944 f945 f946 f947 hcod hb0 (Nat.le_of_ble_eq_true rfl) (by simp)) hZ (own_h hw 48 rfl) (own_h hw 47 rfl) (by decide) (by decide)) (g := (mkF m 177 #[vI a, vI b, vI d, vI f, vI g, vI c0, vI c1, vI c2, vI c3, vI (3 : Int32), vR ar, vR x1, vR nm, vU] [(.ref nm), (.ref x1)])) rfl (by rw [hml]; rfl) (argsL := [(.ref x1), (.ref nm)]) (rest := []) (lenOf pd__Ljava_lang_String_Ljava_lang_String__Ljava_lang_String_ rfl) rfl (by show 2 * 0 + _ ≤ _; exact Nat.le_of_eq rfl) (hb hby at_177) (fun _ _ => ⟨rfl, rfl, (by decide : 6 + 0 ≤ _), (by decide : 22 + 0 ≤ _)⟩))
          obtain ⟨rfl, N948q, e948⟩ := hQ948
          have N948 := Fr.app N937 N948q
          have S949 : Go p e below s₁ (eF_law m a b d f g) T948 (mkF m 180 #[vI a, vI b, vI d, vI f, vI g, vI c0, vI c1, vI c2, vI c3, vI (3 : Int32), vR ar, vR x1, vR nm, vU] [(.ref x1)]) := fun t kt => S942 t (st948 t kt)
          clear S942 st948 X937
          have S950 : Go p e below s₁ (eF_law m a b d f g) T948 (mkF m 191 #[vI a, vI b, vI d, vI f, vI g, vI c0, vI c1, vI c2, vI c3, vI (3 : Int32), vR ar, vR x1, vR nm, vR x1] [(.ref x1)]) := fun t kt => S949 t (by
            refine XS.astore X948.here hx rfl (hb hby at_180) rfl rfl (l' := #[vI a, vI b, vI d, vI f, vI g, vI c0, vI c1, vI c2, vI c3, vI (3 : Int32), vR ar, vR x1, vR nm, vR x1]) rfl ?_
            show Sp p e below T948 (mkF m 182 #[vI a, vI b, vI d, vI f, vI g, vI c0, vI c1, vI c2, vI c3, vI (3 : Int32), vR ar, vR x1, vR nm, vR x1] []) _
            refine XS.aload X948.here hx rfl (hb hby at_182) rfl rfl ?_
            show Sp p e below T948 (mkF m 184 #[vI a, vI b, vI d, vI f, vI g, vI c0, vI c1, vI c2, vI c3, vI (3 : Int32), vR ar, vR x1, vR nm, vR x1] [(.ref x1)]) _
            refine XS.aload X948.here hx rfl (hb hby at_184) rfl rfl ?_
            show Sp p e below T948 (mkF m 186 #[vI a, vI b, vI d, vI f, vI g, vI c0, vI c1, vI c2, vI c3, vI (3 : Int32), vR ar, vR x1, vR nm, vR x1] [(.ref x1), (.ref x1)]) _
            refine Jvm.RoadKit.acmp (g := (mkF m 186 #[vI a, vI b, vI d, vI f, vI g, vI c0, vI c1, vI c2, vI c3, vI (3 : Int32), vR ar, vR x1, vR nm, vR x1] [(.ref x1), (.ref x1)])) X948 hx rfl rfl rfl (pc0 := 186) (pc' := 189) (same := true) rfl (hb hby at_186) rfl (decide_eq_true rfl) (by decide) (by decide) ?_
            show Sp p e below T948 (mkF m 189 #[vI a, vI b, vI d, vI f, vI g, vI c0, vI c1, vI c2, vI c3, vI (3 : Int32), vR ar, vR x1, vR nm, vR x1] []) _
            refine XS.aload X948.here hx rfl (hb hby at_189) rfl rfl ?_
            show Sp p e below T948 (mkF m 191 #[vI a, vI b, vI d, vI f, vI g, vI c0, vI c1, vI c2, vI c3, vI (3 : Int32), vR ar, vR x1, vR nm, vR x1] [(.ref x1)]) _
            exact kt)
          clear S949
          obtain ⟨cq951, kq951, q951a, q951b, q951c⟩ := isOf hZ e948 f944
          obtain ⟨v951, T951, L951, X951, hQ951, st951⟩ := own_outV (Q := (fun v h' L => v = some (.int (Int32.ofNat ([c0, c1, c2] : List Int32).length)) ∧ L = [] ∧ h' = T937.heap)) (X948.virtualBack hx (y := (⟨"java/lang/String", "length", "()I"⟩ : MethodName)) (z := (⟨"java/lang/String", "length", "()I"⟩ : MethodName)) hown (mvT hZ (own_h hw 54 rfl)) (mvT hZ (own_h hw 55 rfl)) (notFace_of_selects (args := #[]) (mvT hZ (own_h hw 57 rfl))) (mvT hZ (own_h hw 57 rfl)) (mvT hZ (own_h hw 56 rfl)) (by decide) (StrChars.Road.lenW (W := 0) hZ hln (kI := 4) (own_h hw 3 rfl) f944 f946 f945 f947 hcod hb0 (S_cs.ext f943.2) hcz (Nat.le_of_ble_eq_true rfl) (by decide) (by decide)) q951a q951c (g := (mkF m 191 #[vI a, vI b, vI d, vI f, vI g, vI c0, vI c1, vI c2, vI c3, vI (3 : Int32), vR ar, vR x1, vR nm, vR x1] [(.ref x1)])) rfl (by rw [hml]; rfl) (Steps.refl _) (argsL := []) (rest := []) (lenOf pd___I rfl) rfl (by show 2 * 0 + _ ≤ _; exact Nat.le_of_eq rfl) (hb hby at_191) (fun _ _ => ⟨rfl, e948, (by decide : 6 + 0 ≤ _), (by decide : 22 + 0 ≤ _)⟩))
          obtain ⟨rfl, rfl, e951⟩ := hQ951
          have N951 := Fr.app N948 (Fr.nil n0)
          have S952 : Go p e below s₁ (eF_law m a b d f g) T951 (mkF m 194 #[vI a, vI b, vI d, vI f, vI g, vI c0, vI c1, vI c2, vI c3, vI (3 : Int32), vR ar, vR x1, vR nm, vR x1] [(.int (Int32.ofNat ([c0, c1, c2] : List Int32).length))]) := fun t kt => S950 t (st951 t kt)
          clear S950 st951 X948 e948
          have q954 : (Int32.ofNat ([c0, c1, c2] : List Int32).length) = (3 : Int32) := rfl
          have S953 : Go p e below s₁ (eF_law m a b d f g) T951 (mkF m 194 #[vI a, vI b, vI d, vI f, vI g, vI c0, vI c1, vI c2, vI c3, vI (3 : Int32), vR ar, vR x1, vR nm, vR x1] [(.int (3 : Int32))]) := by have h := S952; rw [q954] at h; exact h
          clear S952
          have S955 : Go p e below s₁ (eF_law m a b d f g) T951 (mkF m 202 #[vI a, vI b, vI d, vI f, vI g, vI c0, vI c1, vI c2, vI c3, vI (3 : Int32), vR ar, vR x1, vR nm, vR x1] [(.int (0 : Int32)), (.ref x1)]) := fun t kt => S953 t (by
            refine XS.iload X951.here hx rfl (hb hby at_194) rfl ?_
            show Sp p e below T951 (mkF m 196 #[vI a, vI b, vI d, vI f, vI g, vI c0, vI c1, vI c2, vI c3, vI (3 : Int32), vR ar, vR x1, vR nm, vR x1] [(.int (3 : Int32)), (.int (3 : Int32))]) _
            refine XS.icmpNo X951.here hx rfl (hb hby at_196) rfl (teq (show (3 : Int32) = (3 : Int32) from (by decide))).2 ?_
            show Sp p e below T951 (mkF m 199 #[vI a, vI b, vI d, vI f, vI g, vI c0, vI c1, vI c2, vI c3, vI (3 : Int32), vR ar, vR x1, vR nm, vR x1] []) _
            refine XS.aload X951.here hx rfl (hb hby at_199) rfl rfl ?_
            show Sp p e below T951 (mkF m 201 #[vI a, vI b, vI d, vI f, vI g, vI c0, vI c1, vI c2, vI c3, vI (3 : Int32), vR ar, vR x1, vR nm, vR x1] [(.ref x1)]) _
            refine XS.iconst X951.here hx rfl (hb hby at_201) ?_
            show Sp p e below T951 (mkF m 202 #[vI a, vI b, vI d, vI f, vI g, vI c0, vI c1, vI c2, vI c3, vI (3 : Int32), vR ar, vR x1, vR nm, vR x1] [(.int (0 : Int32)), (.ref x1)]) _
            exact kt)
          clear S953
          obtain ⟨cq956, kq956, q956a, q956b, q956c⟩ := isOf hZ e951 f944
          obtain ⟨v956, T956, L956, X956, hQ956, st956⟩ := own_outV (X951.virtualBack hx (y := (⟨"java/lang/String", "charAt", "(I)C"⟩ : MethodName)) (z := (⟨"java/lang/String", "charAt", "(I)C"⟩ : MethodName)) hown (mvT hZ (own_h hw 64 rfl)) (mvT hZ (own_h hw 65 rfl)) (notFace_of_selects (args := #[]) (mvT hZ (own_h hw 67 rfl))) (mvT hZ (own_h hw 67 rfl)) (mvT hZ (own_h hw 66 rfl)) (by decide) (backOf (W := 0) (rm_cha l Z a0 hw [] x1 (0 : Int32) t1 kb932 n vs cd [c0, c1, c2] 0 T937.heap n0 (Nat.le_trans (Nat.le_trans (Nat.le_trans (Nat.le_trans (Nat.le_trans (Nat.le_trans (Nat.le_trans Z0 E911.1) (Keep.of_wr W915).1) (Keep.of_wr W919).1) (Keep.of_wr W923).1) E926.1) K932.1) K937.1) SS f943 f944 f945 f946 f947 hcod hb0 (Nat.le_of_ble_eq_true rfl) (Nat.le_of_ble_eq_true rfl) (by decide)) hZ (own_h hw 68 rfl) (own_h hw 4 rfl) (by decide) (by decide)) q956a q956c (g := (mkF m 202 #[vI a, vI b, vI d, vI f, vI g, vI c0, vI c1, vI c2, vI c3, vI (3 : Int32), vR ar, vR x1, vR nm, vR x1] [(.int (0 : Int32)), (.ref x1)])) rfl (by rw [hml]; rfl) (Steps.refl _) (argsL := [(.int (0 : Int32))]) (rest := []) (lenOf pd__I_C rfl) rfl (by show 2 * 0 + _ ≤ _; exact Nat.le_of_eq rfl) (hb hby at_202) (fun _ _ => ⟨rfl, e951, (by decide : 6 + 0 ≤ _), (by decide : 22 + 0 ≤ _)⟩))
          obtain ⟨rfl, N956q, e956⟩ := hQ956
          have N956 := Fr.app N951 N956q
          have S957 : Go p e below s₁ (eF_law m a b d f g) T956 (mkF m 205 #[vI a, vI b, vI d, vI f, vI g, vI c0, vI c1, vI c2, vI c3, vI (3 : Int32), vR ar, vR x1, vR nm, vR x1] [(.int (([c0, c1, c2] : List Int32).getD 0 0))]) := fun t kt => S955 t (st956 t kt)
          clear S955 st956 X951 e951
          have q959 : (([c0, c1, c2] : List Int32).getD 0 0) = c0 := rfl
          have S958 : Go p e below s₁ (eF_law m a b d f g) T956 (mkF m 205 #[vI a, vI b, vI d, vI f, vI g, vI c0, vI c1, vI c2, vI c3, vI (3 : Int32), vR ar, vR x1, vR nm, vR x1] [(.int c0)]) := by have h := S957; rw [q959] at h; exact h
          clear S957
          have S960 : Go p e below s₁ (eF_law m a b d f g) T956 (mkF m 216 #[vI a, vI b, vI d, vI f, vI g, vI c0, vI c1, vI c2, vI c3, vI (3 : Int32), vR ar, vR x1, vR nm, vR x1] [(.int ((3 : Int32) - (1 : Int32))), (.ref x1)]) := fun t kt => S958 t (by
            refine XS.iload X956.here hx rfl (hb hby at_205) rfl ?_
            show Sp p e below T956 (mkF m 207 #[vI a, vI b, vI d, vI f, vI g, vI c0, vI c1, vI c2, vI c3, vI (3 : Int32), vR ar, vR x1, vR nm, vR x1] [(.int c0), (.int c0)]) _
            refine XS.icmpNo X956.here hx rfl (hb hby at_207) rfl (teq (show c0 = c0 from rfl)).2 ?_
            show Sp p e below T956 (mkF m 210 #[vI a, vI b, vI d, vI f, vI g, vI c0, vI c1, vI c2, vI c3, vI (3 : Int32), vR ar, vR x1, vR nm, vR x1] []) _
            refine XS.aload X956.here hx rfl (hb hby at_210) rfl rfl ?_
            show Sp p e below T956 (mkF m 212 #[vI a, vI b, vI d, vI f, vI g, vI c0, vI c1, vI c2, vI c3, vI (3 : Int32), vR ar, vR x1, vR nm, vR x1] [(.ref x1)]) _
            refine XS.iload X956.here hx rfl (hb hby at_212) rfl ?_
            show Sp p e below T956 (mkF m 214 #[vI a, vI b, vI d, vI f, vI g, vI c0, vI c1, vI c2, vI c3, vI (3 : Int32), vR ar, vR x1, vR nm, vR x1] [(.int (3 : Int32)), (.ref x1)]) _
            refine XS.iconst X956.here hx rfl (hb hby at_214) ?_
            show Sp p e below T956 (mkF m 215 #[vI a, vI b, vI d, vI f, vI g, vI c0, vI c1, vI c2, vI c3, vI (3 : Int32), vR ar, vR x1, vR nm, vR x1] [(.int (1 : Int32)), (.int (3 : Int32)), (.ref x1)]) _
            refine XS.isub X956.here hx rfl (hb hby at_215) rfl ?_
            show Sp p e below T956 (mkF m 216 #[vI a, vI b, vI d, vI f, vI g, vI c0, vI c1, vI c2, vI c3, vI (3 : Int32), vR ar, vR x1, vR nm, vR x1] [(.int ((3 : Int32) - (1 : Int32))), (.ref x1)]) _
            exact kt)
          clear S958
          have q962 : ((3 : Int32) - (1 : Int32)) = (2 : Int32) := by decide
          have S961 : Go p e below s₁ (eF_law m a b d f g) T956 (mkF m 216 #[vI a, vI b, vI d, vI f, vI g, vI c0, vI c1, vI c2, vI c3, vI (3 : Int32), vR ar, vR x1, vR nm, vR x1] [(.int (2 : Int32)), (.ref x1)]) := by have h := S960; rw [q962] at h; exact h
          clear S960
          obtain ⟨cq963, kq963, q963a, q963b, q963c⟩ := isOf hZ e956 f944
          obtain ⟨v963, T963, L963, X963, hQ963, st963⟩ := own_outV (X956.virtualBack hx (y := (⟨"java/lang/String", "charAt", "(I)C"⟩ : MethodName)) (z := (⟨"java/lang/String", "charAt", "(I)C"⟩ : MethodName)) hown (mvT hZ (own_h hw 64 rfl)) (mvT hZ (own_h hw 65 rfl)) (notFace_of_selects (args := #[]) (mvT hZ (own_h hw 67 rfl))) (mvT hZ (own_h hw 67 rfl)) (mvT hZ (own_h hw 66 rfl)) (by decide) (backOf (W := 0) (rm_cha l Z a0 hw [] x1 (2 : Int32) t1 kb932 n vs cd [c0, c1, c2] 2 T937.heap n0 (Nat.le_trans (Nat.le_trans (Nat.le_trans (Nat.le_trans (Nat.le_trans (Nat.le_trans (Nat.le_trans Z0 E911.1) (Keep.of_wr W915).1) (Keep.of_wr W919).1) (Keep.of_wr W923).1) E926.1) K932.1) K937.1) SS f943 f944 f945 f946 f947 hcod hb0 (Nat.le_of_ble_eq_true rfl) (Nat.le_of_ble_eq_true rfl) (by decide)) hZ (own_h hw 68 rfl) (own_h hw 4 rfl) (by decide) (by decide)) q963a q963c (g := (mkF m 216 #[vI a, vI b, vI d, vI f, vI g, vI c0, vI c1, vI c2, vI c3, vI (3 : Int32), vR ar, vR x1, vR nm, vR x1] [(.int (2 : Int32)), (.ref x1)])) rfl (by rw [hml]; rfl) (Steps.refl _) (argsL := [(.int (2 : Int32))]) (rest := []) (lenOf pd__I_C rfl) rfl (by show 2 * 0 + _ ≤ _; exact Nat.le_of_eq rfl) (hb hby at_216) (fun _ _ => ⟨rfl, e956, (by decide : 6 + 0 ≤ _), (by decide : 22 + 0 ≤ _)⟩))
          obtain ⟨rfl, N963q, e963⟩ := hQ963
          have N963 := Fr.app N956 N963q
          have S964 : Go p e below s₁ (eF_law m a b d f g) T963 (mkF m 219 #[vI a, vI b, vI d, vI f, vI g, vI c0, vI c1, vI c2, vI c3, vI (3 : Int32), vR ar, vR x1, vR nm, vR x1] [(.int (([c0, c1, c2] : List Int32).getD 2 0))]) := fun t kt => S961 t (st963 t kt)
          clear S961 st963 X956 e956
          have q966 : (([c0, c1, c2] : List Int32).getD 2 0) = c2 := rfl
          have S965 : Go p e below s₁ (eF_law m a b d f g) T963 (mkF m 219 #[vI a, vI b, vI d, vI f, vI g, vI c0, vI c1, vI c2, vI c3, vI (3 : Int32), vR ar, vR x1, vR nm, vR x1] [(.int c2)]) := by have h := S964; rw [q966] at h; exact h
          clear S964
          have S967 : Go p e below s₁ (eF_law m a b d f g) T963 (mkF m 225 #[vI a, vI b, vI d, vI f, vI g, vI c0, vI c1, vI c2, vI c3, vI (3 : Int32), vR ar, vR x1, vR nm, vR x1] [(.int ((3 : Int32) - (1 : Int32))), (.ref ar), (.int c2)]) := fun t kt => S965 t (by
            refine XS.aload X963.here hx rfl (hb hby at_219) rfl rfl ?_
            show Sp p e below T963 (mkF m 221 #[vI a, vI b, vI d, vI f, vI g, vI c0, vI c1, vI c2, vI c3, vI (3 : Int32), vR ar, vR x1, vR nm, vR x1] [(.ref ar), (.int c2)]) _
            refine XS.iload X963.here hx rfl (hb hby at_221) rfl ?_
            show Sp p e below T963 (mkF m 223 #[vI a, vI b, vI d, vI f, vI g, vI c0, vI c1, vI c2, vI c3, vI (3 : Int32), vR ar, vR x1, vR nm, vR x1] [(.int (3 : Int32)), (.ref ar), (.int c2)]) _
            refine XS.iconst X963.here hx rfl (hb hby at_223) ?_
            show Sp p e below T963 (mkF m 224 #[vI a, vI b, vI d, vI f, vI g, vI c0, vI c1, vI c2, vI c3, vI (3 : Int32), vR ar, vR x1, vR nm, vR x1] [(.int (1 : Int32)), (.int (3 : Int32)), (.ref ar), (.int c2)]) _
            refine XS.isub X963.here hx rfl (hb hby at_224) rfl ?_
            show Sp p e below T963 (mkF m 225 #[vI a, vI b, vI d, vI f, vI g, vI c0, vI c1, vI c2, vI c3, vI (3 : Int32), vR ar, vR x1, vR nm, vR x1] [(.int ((3 : Int32) - (1 : Int32))), (.ref ar), (.int c2)]) _
            exact kt)
          clear S965
          have q969 : ((3 : Int32) - (1 : Int32)) = (2 : Int32) := by decide
          have S968 : Go p e below s₁ (eF_law m a b d f g) T963 (mkF m 225 #[vI a, vI b, vI d, vI f, vI g, vI c0, vI c1, vI c2, vI c3, vI (3 : Int32), vR ar, vR x1, vR nm, vR x1] [(.int (2 : Int32)), (.ref ar), (.int c2)]) := by have h := S967; rw [q969] at h; exact h
          clear S967
          have f970 := ((f931.keep K932 (ninS ne927 nin0)).keep K937 nin0)
          obtain ⟨co971, Ao971, qo971, So971, No971, Ho971, Go971⟩ := id f970
          have hino971 : ¬ ((2 : Int32) < 0 ∨ co971.slots.size ≤ ((2 : Int32)).toNatClampNeg) := inb_of So971 ⟨by decide, by decide⟩
          have hato971 : co971.slots[((2 : Int32)).toNatClampNeg]? = some (.int c2) := Has.at Ho971 hino971 rfl
          have S972 : Go p e below s₁ (eF_law m a b d f g) T963 (mkF m 234 #[vI a, vI b, vI d, vI f, vI g, vI c0, vI c1, vI c2, vI c3, vI (3 : Int32), vR ar, vR x1, vR nm, vR x1] [(.int (1 : Int32))]) := fun t kt => S968 t (by
            refine X963.caload hx (j := (2 : Int32)) (v := (.int c2)) (by rw [e963]; exact Ao971.1) (State.isArrayOf_alike hZ.alike Ao971.2.1) Ao971.2.2 hino971 hato971 (g := (mkF m 225 #[vI a, vI b, vI d, vI f, vI g, vI c0, vI c1, vI c2, vI c3, vI (3 : Int32), vR ar, vR x1, vR nm, vR x1] [(.int (2 : Int32)), (.ref ar), (.int c2)])) rfl rfl (hb hby at_225) _ ?_
            show Sp p e below T963 (mkF m 226 #[vI a, vI b, vI d, vI f, vI g, vI c0, vI c1, vI c2, vI c3, vI (3 : Int32), vR ar, vR x1, vR nm, vR x1] [(.int c2), (.int c2)]) _
            refine XS.icmpNo X963.here hx rfl (hb hby at_226) rfl (teq (show c2 = c2 from rfl)).2 ?_
            show Sp p e below T963 (mkF m 229 #[vI a, vI b, vI d, vI f, vI g, vI c0, vI c1, vI c2, vI c3, vI (3 : Int32), vR ar, vR x1, vR nm, vR x1] []) _
            refine XS.iconst X963.here hx rfl (hb hby at_229) ?_
            show Sp p e below T963 (mkF m 230 #[vI a, vI b, vI d, vI f, vI g, vI c0, vI c1, vI c2, vI c3, vI (3 : Int32), vR ar, vR x1, vR nm, vR x1] [(.int (1 : Int32))]) _
            refine XS.goto X963.here hx rfl (pc0 := 230) (pc' := 234) rfl (hb hby at_230) (by decide) (by decide) ?_
            show Sp p e below T963 (mkF m 234 #[vI a, vI b, vI d, vI f, vI g, vI c0, vI c1, vI c2, vI c3, vI (3 : Int32), vR ar, vR x1, vR nm, vR x1] [(.int (1 : Int32))]) _
            exact kt)
          clear S968
          obtain ⟨fs, hr, hrun, hended, hRE⟩ := X963.leaveW hS (n := _) (by rw [e963]; exact (Nat.le_trans (Nat.le_trans (Nat.le_trans (Nat.le_trans (Nat.le_trans (Nat.le_trans (Nat.le_trans hki0 E911.1) (Keep.of_wr W915).1) (Keep.of_wr W919).1) (Keep.of_wr W923).1) E926.1) K932.1) K937.1)) (v := some (.int (1 : Int32))) (fun h => by first | rfl | (rw [Bd.returns] at h; cases h))
          refine ⟨_, _, S972 _ ?_, hrun, hended, _, _, rfl, ?_, hRE.1, hRE.2.1, hRE.2.2.1, hRE.2.2.2.mono (by decide) (by decide)⟩
          · exact retN X963 hx (t := .boolean) Bd.returns (by simp) (hb hby at_234) hr
          · show Q_law Z  h0 n0 _ T963.heap _
            rw [e963]
            exact ⟨rfl, N963⟩
        · have S939 : Go p e below s₁ (eF_law m a b d f g) T932 (mkF m 153 #[vI a, vI b, vI d, vI f, vI g, vI c0, vI c1, vI c2, vI c3, vI (3 : Int32), vR ar, vR x1, vU, vU] []) := fun t kt => S934 t (by
            refine XS.ifNo X932.here hx rfl (hb hby at_150) rfl ((if0 _ _).trans (feq (show ¬ ((((g.toUInt32 >>> ((2 : Int32) &&& 31).toUInt32).toInt32) &&& (1 : Int32)) = (0 : Int32)) from hg)).1) ?_
            show Sp p e below T932 (mkF m 153 #[vI a, vI b, vI d, vI f, vI g, vI c0, vI c1, vI c2, vI c3, vI (3 : Int32), vR ar, vR x1, vU, vU] []) _
            exact kt)
          clear S934
          obtain ⟨nm, T940, h940, ki940, X940, e940, E940, hS, hki940, hZ, hown, st940⟩ := ldcS X932 hx hZ hown (own_h hw 85 rfl) (fun d hd => hw d (own_wS d hd)) rfl hS (Nat.le_trans (Nat.le_trans (Nat.le_trans (Nat.le_trans (Nat.le_trans (Nat.le_trans hki0 E911.1) (Keep.of_wr W915).1) (Keep.of_wr W919).1) (Keep.of_wr W923).1) E926.1) K932.1) (g := (mkF m 153 #[vI a, vI b, vI d, vI f, vI g, vI c0, vI c1, vI c2, vI c3, vI (3 : Int32), vR ar, vR x1, vU, vU] [])) rfl (hb hby at_153) (n := 0) (by decide +kernel) (by decide) (by decide) (by decide)
          have S941 : Go p e below s₁ (eF_law m a b d f g) T940 (mkF m 155 #[vI a, vI b, vI d, vI f, vI g, vI c0, vI c1, vI c2, vI c3, vI (3 : Int32), vR ar, vR x1, vU, vU] [(.ref nm)]) := fun t kt => S939 t (st940 t kt)
          clear S939 st940 X932
          have S973 : Go p e below s₁ (eF_law m a b d f g) T940 (mkF m 177 #[vI a, vI b, vI d, vI f, vI g, vI c0, vI c1, vI c2, vI c3, vI (3 : Int32), vR ar, vR x1, vR nm, vU] [(.ref nm), (.ref x1)]) := fun t kt => S941 t (by
            refine XS.astore X940.here hx rfl (hb hby at_155) rfl rfl (l' := #[vI a, vI b, vI d, vI f, vI g, vI c0, vI c1, vI c2, vI c3, vI (3 : Int32), vR ar, vR x1, vR nm, vU]) rfl ?_
            show Sp p e below T940 (mkF m 157 #[vI a, vI b, vI d, vI f, vI g, vI c0, vI c1, vI c2, vI c3, vI (3 : Int32), vR ar, vR x1, vR nm, vU] []) _
            refine XS.goto X940.here hx rfl (pc0 := 157) (pc' := 173) rfl (hb hby at_157) (by decide) (by decide) ?_
            show Sp p e below T940 (mkF m 173 #[vI a, vI b, vI d, vI f, vI g, vI c0, vI c1, vI c2, vI c3, vI (3 : Int32), vR ar, vR x1, vR nm, vU] []) _
            refine XS.aload X940.here hx rfl (hb hby at_173) rfl rfl ?_
            show Sp p e below T940 (mkF m 175 #[vI a, vI b, vI d, vI f, vI g, vI c0, vI c1, vI c2, vI c3, vI (3 : Int32), vR ar, vR x1, vR nm, vU] [(.ref x1)]) _
            refine XS.aload X940.here hx rfl (hb hby at_175) rfl rfl ?_
            show Sp p e below T940 (mkF m 177 #[vI a, vI b, vI d, vI f, vI g, vI c0, vI c1, vI c2, vI c3, vI (3 : Int32), vR ar, vR x1, vR nm, vU] [(.ref nm), (.ref x1)]) _
            exact kt)
          clear S941
          have f974 := ((f930.keep K932 (allS g_x1 all0)).ext E940)
          have f975 := (E932.ext E940)
          have f976 := (F932.ext E940)
          have f977 := (G932.ext E940)
          have f978 := (V932.ext E940)
          obtain ⟨v979, T979, L979, X979, hQ979, st979⟩ := own_outS (Jvm.LawKit.callS X940 hx (y := (⟨"com/example/upper_ward/upperward/auth/SigningChecks", "required", "(Ljava/lang/String;Ljava/lang/String;)Ljava/lang/String;"⟩ : MethodName)) hown (mvT hZ (own_h hw 45 rfl)) (mvT hZ (own_h hw 46 rfl)) (mvT hZ (own_h hw 47 rfl)) (mvT hZ (own_h hw 48 rfl)) (by decide) (backOf (W := 0) (rm_req l Z a0 hw [] x1 nm t1 kb932 n vs cd [c0, c1, c2] h940 n0 (Nat.le_trans (Nat.le_trans (Nat.le_trans (Nat.le_trans (Nat.le_trans (Nat.le_trans (Nat.le_trans Z0 E911.1) (Keep.of_wr W915).1) (Keep.of_wr W919).1) (Keep.of_wr W923).1) E926.1) K932.1) E940.1) SS f974 f975 f976 f977 f978 hcod hb0 (Nat.le_of_ble_eq_true rfl) (by simp)) hZ (own_h hw 48 rfl) (own_h hw 47 rfl) (by decide) (by decide)) (g := (mkF m 177 #[vI a, vI b, vI d, vI f, vI g, vI c0, vI c1, vI c2, vI c3, vI (3 : Int32), vR ar, vR x1, vR nm, vU] [(.ref nm), (.ref x1)])) rfl (by rw [hml]; rfl) (argsL := [(.ref x1), (.ref nm)]) (rest := []) (lenOf pd__Ljava_lang_String_Ljava_lang_String__Ljava_lang_String_ rfl) rfl (by show 2 * 0 + _ ≤ _; exact Nat.le_of_eq rfl) (hb hby at_177) (fun _ _ => ⟨rfl, e940, (by decide : 6 + 0 ≤ _), (by decide : 20 + 0 ≤ _)⟩))
          obtain ⟨rfl, N979q, e979⟩ := hQ979
          have N979 := Fr.app N932 N979q
          have S980 : Go p e below s₁ (eF_law m a b d f g) T979 (mkF m 180 #[vI a, vI b, vI d, vI f, vI g, vI c0, vI c1, vI c2, vI c3, vI (3 : Int32), vR ar, vR x1, vR nm, vU] [(.ref x1)]) := fun t kt => S973 t (st979 t kt)
          clear S973 st979 X940 e940
          have S981 : Go p e below s₁ (eF_law m a b d f g) T979 (mkF m 191 #[vI a, vI b, vI d, vI f, vI g, vI c0, vI c1, vI c2, vI c3, vI (3 : Int32), vR ar, vR x1, vR nm, vR x1] [(.ref x1)]) := fun t kt => S980 t (by
            refine XS.astore X979.here hx rfl (hb hby at_180) rfl rfl (l' := #[vI a, vI b, vI d, vI f, vI g, vI c0, vI c1, vI c2, vI c3, vI (3 : Int32), vR ar, vR x1, vR nm, vR x1]) rfl ?_
            show Sp p e below T979 (mkF m 182 #[vI a, vI b, vI d, vI f, vI g, vI c0, vI c1, vI c2, vI c3, vI (3 : Int32), vR ar, vR x1, vR nm, vR x1] []) _
            refine XS.aload X979.here hx rfl (hb hby at_182) rfl rfl ?_
            show Sp p e below T979 (mkF m 184 #[vI a, vI b, vI d, vI f, vI g, vI c0, vI c1, vI c2, vI c3, vI (3 : Int32), vR ar, vR x1, vR nm, vR x1] [(.ref x1)]) _
            refine XS.aload X979.here hx rfl (hb hby at_184) rfl rfl ?_
            show Sp p e below T979 (mkF m 186 #[vI a, vI b, vI d, vI f, vI g, vI c0, vI c1, vI c2, vI c3, vI (3 : Int32), vR ar, vR x1, vR nm, vR x1] [(.ref x1), (.ref x1)]) _
            refine Jvm.RoadKit.acmp (g := (mkF m 186 #[vI a, vI b, vI d, vI f, vI g, vI c0, vI c1, vI c2, vI c3, vI (3 : Int32), vR ar, vR x1, vR nm, vR x1] [(.ref x1), (.ref x1)])) X979 hx rfl rfl rfl (pc0 := 186) (pc' := 189) (same := true) rfl (hb hby at_186) rfl (decide_eq_true rfl) (by decide) (by decide) ?_
            show Sp p e below T979 (mkF m 189 #[vI a, vI b, vI d, vI f, vI g, vI c0, vI c1, vI c2, vI c3, vI (3 : Int32), vR ar, vR x1, vR nm, vR x1] []) _
            refine XS.aload X979.here hx rfl (hb hby at_189) rfl rfl ?_
            show Sp p e below T979 (mkF m 191 #[vI a, vI b, vI d, vI f, vI g, vI c0, vI c1, vI c2, vI c3, vI (3 : Int32), vR ar, vR x1, vR nm, vR x1] [(.ref x1)]) _
            exact kt)
          clear S980
          obtain ⟨cq982, kq982, q982a, q982b, q982c⟩ := isOf hZ e979 f975
          obtain ⟨v982, T982, L982, X982, hQ982, st982⟩ := own_outV (Q := (fun v h' L => v = some (.int (Int32.ofNat ([c0, c1, c2] : List Int32).length)) ∧ L = [] ∧ h' = h940)) (X979.virtualBack hx (y := (⟨"java/lang/String", "length", "()I"⟩ : MethodName)) (z := (⟨"java/lang/String", "length", "()I"⟩ : MethodName)) hown (mvT hZ (own_h hw 54 rfl)) (mvT hZ (own_h hw 55 rfl)) (notFace_of_selects (args := #[]) (mvT hZ (own_h hw 57 rfl))) (mvT hZ (own_h hw 57 rfl)) (mvT hZ (own_h hw 56 rfl)) (by decide) (StrChars.Road.lenW (W := 0) hZ hln (kI := 4) (own_h hw 3 rfl) f975 f977 f976 f978 hcod hb0 (S_cs.ext f974.2) hcz (Nat.le_of_ble_eq_true rfl) (by decide) (by decide)) q982a q982c (g := (mkF m 191 #[vI a, vI b, vI d, vI f, vI g, vI c0, vI c1, vI c2, vI c3, vI (3 : Int32), vR ar, vR x1, vR nm, vR x1] [(.ref x1)])) rfl (by rw [hml]; rfl) (Steps.refl _) (argsL := []) (rest := []) (lenOf pd___I rfl) rfl (by show 2 * 0 + _ ≤ _; exact Nat.le_of_eq rfl) (hb hby at_191) (fun _ _ => ⟨rfl, e979, (by decide : 6 + 0 ≤ _), (by decide : 20 + 0 ≤ _)⟩))
          obtain ⟨rfl, rfl, e982⟩ := hQ982
          have N982 := Fr.app N979 (Fr.nil n0)
          have S983 : Go p e below s₁ (eF_law m a b d f g) T982 (mkF m 194 #[vI a, vI b, vI d, vI f, vI g, vI c0, vI c1, vI c2, vI c3, vI (3 : Int32), vR ar, vR x1, vR nm, vR x1] [(.int (Int32.ofNat ([c0, c1, c2] : List Int32).length))]) := fun t kt => S981 t (st982 t kt)
          clear S981 st982 X979 e979
          have q985 : (Int32.ofNat ([c0, c1, c2] : List Int32).length) = (3 : Int32) := rfl
          have S984 : Go p e below s₁ (eF_law m a b d f g) T982 (mkF m 194 #[vI a, vI b, vI d, vI f, vI g, vI c0, vI c1, vI c2, vI c3, vI (3 : Int32), vR ar, vR x1, vR nm, vR x1] [(.int (3 : Int32))]) := by have h := S983; rw [q985] at h; exact h
          clear S983
          have S986 : Go p e below s₁ (eF_law m a b d f g) T982 (mkF m 202 #[vI a, vI b, vI d, vI f, vI g, vI c0, vI c1, vI c2, vI c3, vI (3 : Int32), vR ar, vR x1, vR nm, vR x1] [(.int (0 : Int32)), (.ref x1)]) := fun t kt => S984 t (by
            refine XS.iload X982.here hx rfl (hb hby at_194) rfl ?_
            show Sp p e below T982 (mkF m 196 #[vI a, vI b, vI d, vI f, vI g, vI c0, vI c1, vI c2, vI c3, vI (3 : Int32), vR ar, vR x1, vR nm, vR x1] [(.int (3 : Int32)), (.int (3 : Int32))]) _
            refine XS.icmpNo X982.here hx rfl (hb hby at_196) rfl (teq (show (3 : Int32) = (3 : Int32) from (by decide))).2 ?_
            show Sp p e below T982 (mkF m 199 #[vI a, vI b, vI d, vI f, vI g, vI c0, vI c1, vI c2, vI c3, vI (3 : Int32), vR ar, vR x1, vR nm, vR x1] []) _
            refine XS.aload X982.here hx rfl (hb hby at_199) rfl rfl ?_
            show Sp p e below T982 (mkF m 201 #[vI a, vI b, vI d, vI f, vI g, vI c0, vI c1, vI c2, vI c3, vI (3 : Int32), vR ar, vR x1, vR nm, vR x1] [(.ref x1)]) _
            refine XS.iconst X982.here hx rfl (hb hby at_201) ?_
            show Sp p e below T982 (mkF m 202 #[vI a, vI b, vI d, vI f, vI g, vI c0, vI c1, vI c2, vI c3, vI (3 : Int32), vR ar, vR x1, vR nm, vR x1] [(.int (0 : Int32)), (.ref x1)]) _
            exact kt)
          clear S984
          obtain ⟨cq987, kq987, q987a, q987b, q987c⟩ := isOf hZ e982 f975
          obtain ⟨v987, T987, L987, X987, hQ987, st987⟩ := own_outV (X982.virtualBack hx (y := (⟨"java/lang/String", "charAt", "(I)C"⟩ : MethodName)) (z := (⟨"java/lang/String", "charAt", "(I)C"⟩ : MethodName)) hown (mvT hZ (own_h hw 64 rfl)) (mvT hZ (own_h hw 65 rfl)) (notFace_of_selects (args := #[]) (mvT hZ (own_h hw 67 rfl))) (mvT hZ (own_h hw 67 rfl)) (mvT hZ (own_h hw 66 rfl)) (by decide) (backOf (W := 0) (rm_cha l Z a0 hw [] x1 (0 : Int32) t1 kb932 n vs cd [c0, c1, c2] 0 h940 n0 (Nat.le_trans (Nat.le_trans (Nat.le_trans (Nat.le_trans (Nat.le_trans (Nat.le_trans (Nat.le_trans Z0 E911.1) (Keep.of_wr W915).1) (Keep.of_wr W919).1) (Keep.of_wr W923).1) E926.1) K932.1) E940.1) SS f974 f975 f976 f977 f978 hcod hb0 (Nat.le_of_ble_eq_true rfl) (Nat.le_of_ble_eq_true rfl) (by decide)) hZ (own_h hw 68 rfl) (own_h hw 4 rfl) (by decide) (by decide)) q987a q987c (g := (mkF m 202 #[vI a, vI b, vI d, vI f, vI g, vI c0, vI c1, vI c2, vI c3, vI (3 : Int32), vR ar, vR x1, vR nm, vR x1] [(.int (0 : Int32)), (.ref x1)])) rfl (by rw [hml]; rfl) (Steps.refl _) (argsL := [(.int (0 : Int32))]) (rest := []) (lenOf pd__I_C rfl) rfl (by show 2 * 0 + _ ≤ _; exact Nat.le_of_eq rfl) (hb hby at_202) (fun _ _ => ⟨rfl, e982, (by decide : 6 + 0 ≤ _), (by decide : 20 + 0 ≤ _)⟩))
          obtain ⟨rfl, N987q, e987⟩ := hQ987
          have N987 := Fr.app N982 N987q
          have S988 : Go p e below s₁ (eF_law m a b d f g) T987 (mkF m 205 #[vI a, vI b, vI d, vI f, vI g, vI c0, vI c1, vI c2, vI c3, vI (3 : Int32), vR ar, vR x1, vR nm, vR x1] [(.int (([c0, c1, c2] : List Int32).getD 0 0))]) := fun t kt => S986 t (st987 t kt)
          clear S986 st987 X982 e982
          have q990 : (([c0, c1, c2] : List Int32).getD 0 0) = c0 := rfl
          have S989 : Go p e below s₁ (eF_law m a b d f g) T987 (mkF m 205 #[vI a, vI b, vI d, vI f, vI g, vI c0, vI c1, vI c2, vI c3, vI (3 : Int32), vR ar, vR x1, vR nm, vR x1] [(.int c0)]) := by have h := S988; rw [q990] at h; exact h
          clear S988
          have S991 : Go p e below s₁ (eF_law m a b d f g) T987 (mkF m 216 #[vI a, vI b, vI d, vI f, vI g, vI c0, vI c1, vI c2, vI c3, vI (3 : Int32), vR ar, vR x1, vR nm, vR x1] [(.int ((3 : Int32) - (1 : Int32))), (.ref x1)]) := fun t kt => S989 t (by
            refine XS.iload X987.here hx rfl (hb hby at_205) rfl ?_
            show Sp p e below T987 (mkF m 207 #[vI a, vI b, vI d, vI f, vI g, vI c0, vI c1, vI c2, vI c3, vI (3 : Int32), vR ar, vR x1, vR nm, vR x1] [(.int c0), (.int c0)]) _
            refine XS.icmpNo X987.here hx rfl (hb hby at_207) rfl (teq (show c0 = c0 from rfl)).2 ?_
            show Sp p e below T987 (mkF m 210 #[vI a, vI b, vI d, vI f, vI g, vI c0, vI c1, vI c2, vI c3, vI (3 : Int32), vR ar, vR x1, vR nm, vR x1] []) _
            refine XS.aload X987.here hx rfl (hb hby at_210) rfl rfl ?_
            show Sp p e below T987 (mkF m 212 #[vI a, vI b, vI d, vI f, vI g, vI c0, vI c1, vI c2, vI c3, vI (3 : Int32), vR ar, vR x1, vR nm, vR x1] [(.ref x1)]) _
            refine XS.iload X987.here hx rfl (hb hby at_212) rfl ?_
            show Sp p e below T987 (mkF m 214 #[vI a, vI b, vI d, vI f, vI g, vI c0, vI c1, vI c2, vI c3, vI (3 : Int32), vR ar, vR x1, vR nm, vR x1] [(.int (3 : Int32)), (.ref x1)]) _
            refine XS.iconst X987.here hx rfl (hb hby at_214) ?_
            show Sp p e below T987 (mkF m 215 #[vI a, vI b, vI d, vI f, vI g, vI c0, vI c1, vI c2, vI c3, vI (3 : Int32), vR ar, vR x1, vR nm, vR x1] [(.int (1 : Int32)), (.int (3 : Int32)), (.ref x1)]) _
            refine XS.isub X987.here hx rfl (hb hby at_215) rfl ?_
            show Sp p e below T987 (mkF m 216 #[vI a, vI b, vI d, vI f, vI g, vI c0, vI c1, vI c2, vI c3, vI (3 : Int32), vR ar, vR x1, vR nm, vR x1] [(.int ((3 : Int32) - (1 : Int32))), (.ref x1)]) _
            exact kt)
          clear S989
          have q993 : ((3 : Int32) - (1 : Int32)) = (2 : Int32) := by decide
          have S992 : Go p e below s₁ (eF_law m a b d f g) T987 (mkF m 216 #[vI a, vI b, vI d, vI f, vI g, vI c0, vI c1, vI c2, vI c3, vI (3 : Int32), vR ar, vR x1, vR nm, vR x1] [(.int (2 : Int32)), (.ref x1)]) := by have h := S991; rw [q993] at h; exact h
          clear S991
          obtain ⟨cq994, kq994, q994a, q994b, q994c⟩ := isOf hZ e987 f975
          obtain ⟨v994, T994, L994, X994, hQ994, st994⟩ := own_outV (X987.virtualBack hx (y := (⟨"java/lang/String", "charAt", "(I)C"⟩ : MethodName)) (z := (⟨"java/lang/String", "charAt", "(I)C"⟩ : MethodName)) hown (mvT hZ (own_h hw 64 rfl)) (mvT hZ (own_h hw 65 rfl)) (notFace_of_selects (args := #[]) (mvT hZ (own_h hw 67 rfl))) (mvT hZ (own_h hw 67 rfl)) (mvT hZ (own_h hw 66 rfl)) (by decide) (backOf (W := 0) (rm_cha l Z a0 hw [] x1 (2 : Int32) t1 kb932 n vs cd [c0, c1, c2] 2 h940 n0 (Nat.le_trans (Nat.le_trans (Nat.le_trans (Nat.le_trans (Nat.le_trans (Nat.le_trans (Nat.le_trans Z0 E911.1) (Keep.of_wr W915).1) (Keep.of_wr W919).1) (Keep.of_wr W923).1) E926.1) K932.1) E940.1) SS f974 f975 f976 f977 f978 hcod hb0 (Nat.le_of_ble_eq_true rfl) (Nat.le_of_ble_eq_true rfl) (by decide)) hZ (own_h hw 68 rfl) (own_h hw 4 rfl) (by decide) (by decide)) q994a q994c (g := (mkF m 216 #[vI a, vI b, vI d, vI f, vI g, vI c0, vI c1, vI c2, vI c3, vI (3 : Int32), vR ar, vR x1, vR nm, vR x1] [(.int (2 : Int32)), (.ref x1)])) rfl (by rw [hml]; rfl) (Steps.refl _) (argsL := [(.int (2 : Int32))]) (rest := []) (lenOf pd__I_C rfl) rfl (by show 2 * 0 + _ ≤ _; exact Nat.le_of_eq rfl) (hb hby at_216) (fun _ _ => ⟨rfl, e987, (by decide : 6 + 0 ≤ _), (by decide : 20 + 0 ≤ _)⟩))
          obtain ⟨rfl, N994q, e994⟩ := hQ994
          have N994 := Fr.app N987 N994q
          have S995 : Go p e below s₁ (eF_law m a b d f g) T994 (mkF m 219 #[vI a, vI b, vI d, vI f, vI g, vI c0, vI c1, vI c2, vI c3, vI (3 : Int32), vR ar, vR x1, vR nm, vR x1] [(.int (([c0, c1, c2] : List Int32).getD 2 0))]) := fun t kt => S992 t (st994 t kt)
          clear S992 st994 X987 e987
          have q997 : (([c0, c1, c2] : List Int32).getD 2 0) = c2 := rfl
          have S996 : Go p e below s₁ (eF_law m a b d f g) T994 (mkF m 219 #[vI a, vI b, vI d, vI f, vI g, vI c0, vI c1, vI c2, vI c3, vI (3 : Int32), vR ar, vR x1, vR nm, vR x1] [(.int c2)]) := by have h := S995; rw [q997] at h; exact h
          clear S995
          have S998 : Go p e below s₁ (eF_law m a b d f g) T994 (mkF m 225 #[vI a, vI b, vI d, vI f, vI g, vI c0, vI c1, vI c2, vI c3, vI (3 : Int32), vR ar, vR x1, vR nm, vR x1] [(.int ((3 : Int32) - (1 : Int32))), (.ref ar), (.int c2)]) := fun t kt => S996 t (by
            refine XS.aload X994.here hx rfl (hb hby at_219) rfl rfl ?_
            show Sp p e below T994 (mkF m 221 #[vI a, vI b, vI d, vI f, vI g, vI c0, vI c1, vI c2, vI c3, vI (3 : Int32), vR ar, vR x1, vR nm, vR x1] [(.ref ar), (.int c2)]) _
            refine XS.iload X994.here hx rfl (hb hby at_221) rfl ?_
            show Sp p e below T994 (mkF m 223 #[vI a, vI b, vI d, vI f, vI g, vI c0, vI c1, vI c2, vI c3, vI (3 : Int32), vR ar, vR x1, vR nm, vR x1] [(.int (3 : Int32)), (.ref ar), (.int c2)]) _
            refine XS.iconst X994.here hx rfl (hb hby at_223) ?_
            show Sp p e below T994 (mkF m 224 #[vI a, vI b, vI d, vI f, vI g, vI c0, vI c1, vI c2, vI c3, vI (3 : Int32), vR ar, vR x1, vR nm, vR x1] [(.int (1 : Int32)), (.int (3 : Int32)), (.ref ar), (.int c2)]) _
            refine XS.isub X994.here hx rfl (hb hby at_224) rfl ?_
            show Sp p e below T994 (mkF m 225 #[vI a, vI b, vI d, vI f, vI g, vI c0, vI c1, vI c2, vI c3, vI (3 : Int32), vR ar, vR x1, vR nm, vR x1] [(.int ((3 : Int32) - (1 : Int32))), (.ref ar), (.int c2)]) _
            exact kt)
          clear S996
          have q1000 : ((3 : Int32) - (1 : Int32)) = (2 : Int32) := by decide
          have S999 : Go p e below s₁ (eF_law m a b d f g) T994 (mkF m 225 #[vI a, vI b, vI d, vI f, vI g, vI c0, vI c1, vI c2, vI c3, vI (3 : Int32), vR ar, vR x1, vR nm, vR x1] [(.int (2 : Int32)), (.ref ar), (.int c2)]) := by have h := S998; rw [q1000] at h; exact h
          clear S998
          have f1001 := ((f931.keep K932 (ninS ne927 nin0)).ext E940)
          obtain ⟨co1002, Ao1002, qo1002, So1002, No1002, Ho1002, Go1002⟩ := id f1001
          have hino1002 : ¬ ((2 : Int32) < 0 ∨ co1002.slots.size ≤ ((2 : Int32)).toNatClampNeg) := inb_of So1002 ⟨by decide, by decide⟩
          have hato1002 : co1002.slots[((2 : Int32)).toNatClampNeg]? = some (.int c2) := Has.at Ho1002 hino1002 rfl
          have S1003 : Go p e below s₁ (eF_law m a b d f g) T994 (mkF m 234 #[vI a, vI b, vI d, vI f, vI g, vI c0, vI c1, vI c2, vI c3, vI (3 : Int32), vR ar, vR x1, vR nm, vR x1] [(.int (1 : Int32))]) := fun t kt => S999 t (by
            refine X994.caload hx (j := (2 : Int32)) (v := (.int c2)) (by rw [e994]; exact Ao1002.1) (State.isArrayOf_alike hZ.alike Ao1002.2.1) Ao1002.2.2 hino1002 hato1002 (g := (mkF m 225 #[vI a, vI b, vI d, vI f, vI g, vI c0, vI c1, vI c2, vI c3, vI (3 : Int32), vR ar, vR x1, vR nm, vR x1] [(.int (2 : Int32)), (.ref ar), (.int c2)])) rfl rfl (hb hby at_225) _ ?_
            show Sp p e below T994 (mkF m 226 #[vI a, vI b, vI d, vI f, vI g, vI c0, vI c1, vI c2, vI c3, vI (3 : Int32), vR ar, vR x1, vR nm, vR x1] [(.int c2), (.int c2)]) _
            refine XS.icmpNo X994.here hx rfl (hb hby at_226) rfl (teq (show c2 = c2 from rfl)).2 ?_
            show Sp p e below T994 (mkF m 229 #[vI a, vI b, vI d, vI f, vI g, vI c0, vI c1, vI c2, vI c3, vI (3 : Int32), vR ar, vR x1, vR nm, vR x1] []) _
            refine XS.iconst X994.here hx rfl (hb hby at_229) ?_
            show Sp p e below T994 (mkF m 230 #[vI a, vI b, vI d, vI f, vI g, vI c0, vI c1, vI c2, vI c3, vI (3 : Int32), vR ar, vR x1, vR nm, vR x1] [(.int (1 : Int32))]) _
            refine XS.goto X994.here hx rfl (pc0 := 230) (pc' := 234) rfl (hb hby at_230) (by decide) (by decide) ?_
            show Sp p e below T994 (mkF m 234 #[vI a, vI b, vI d, vI f, vI g, vI c0, vI c1, vI c2, vI c3, vI (3 : Int32), vR ar, vR x1, vR nm, vR x1] [(.int (1 : Int32))]) _
            exact kt)
          clear S999
          obtain ⟨fs, hr, hrun, hended, hRE⟩ := X994.leaveW hS (n := _) (by rw [e994]; exact hki940) (v := some (.int (1 : Int32))) (fun h => by first | rfl | (rw [Bd.returns] at h; cases h))
          refine ⟨_, _, S1003 _ ?_, hrun, hended, _, _, rfl, ?_, hRE.1, hRE.2.1, hRE.2.2.1, hRE.2.2.2.mono (by decide) (by decide)⟩
          · exact retN X994 hx (t := .boolean) Bd.returns (by simp) (hb hby at_234) hr
          · show Q_law Z  h0 n0 _ T994.heap _
            rw [e994]
            exact ⟨rfl, N994⟩
      · have hn4 : ln = 4 := by rcases hln4 with q | q | q | q <;> first | exact absurd q hn1 | exact absurd q hn2 | exact absurd q hn3 | exact q
        have S1004 : Go p e below s₁ (eF_law m a b d f g) s₁ (mkF m 108 #[vI a, vI b, vI d, vI f, vI g, vI c0, vI c1, vI c2, vI c3, vI ln, vU, vU, vU, vU] []) := fun t kt => S724 t (by
          refine XS.icmpYes X0.here hx rfl (pc0 := 82) (pc' := 108) rfl (hb hby at_82) rfl (feq (show ¬ (ln = (3 : Int32)) from hn3)).2 (by decide) (by decide) ?_
          show Sp p e below s₁ (mkF m 108 #[vI a, vI b, vI d, vI f, vI g, vI c0, vI c1, vI c2, vI c3, vI ln, vU, vU, vU, vU] []) _
          exact kt)
        clear S724
        have q1006 : ln = (4 : Int32) := hn4
        have S1005 : Go p e below s₁ (eF_law m a b d f g) s₁ (mkF m 108 #[vI a, vI b, vI d, vI f, vI g, vI c0, vI c1, vI c2, vI c3, vI (4 : Int32), vU, vU, vU, vU] []) := by have h := S1004; rw [q1006] at h; exact h
        clear S1004
        have S1007 : Go p e below s₁ (eF_law m a b d f g) s₁ (mkF m 109 #[vI a, vI b, vI d, vI f, vI g, vI c0, vI c1, vI c2, vI c3, vI (4 : Int32), vU, vU, vU, vU] [(.int (4 : Int32))]) := fun t kt => S1005 t (by
          refine XS.iconst X0.here hx rfl (hb hby at_108) ?_
          show Sp p e below s₁ (mkF m 109 #[vI a, vI b, vI d, vI f, vI g, vI c0, vI c1, vI c2, vI c3, vI (4 : Int32), vU, vU, vU, vU] [(.int (4 : Int32))]) _
          exact kt)
        clear S1005
        obtain ⟨T1008, h1008, k1008, X1008, e1008, E1008, A1008, st1008⟩ := newP X0 hx hZ (own_h hw 1 rfl) e0 (g := (mkF m 109 #[vI a, vI b, vI d, vI f, vI g, vI c0, vI c1, vI c2, vI c3, vI (4 : Int32), vU, vU, vU, vU] [(.int (4 : Int32))])) rfl (hb hby at_109) rfl (by decide) (cap := 4) (by decide) (by decide) (by decide) (by decide)
        obtain ⟨ar, g1008⟩ : ∃ z, z = h0.size := ⟨_, rfl⟩
        rw [← g1008] at A1008 st1008
        have g_ar : n0 ≤ ar := Nat.le_trans Z0 (Nat.le_of_eq g1008.symm)
        have V1008 : Arv Z h1008 ar k1008 .char (4 : Int32) [(.int (0 : Int32)), (.int (0 : Int32)), (.int (0 : Int32)), (.int (0 : Int32))] (.int (0 : Int32)) := (Arv.new A1008 (by decide)).pad (pad_rep [] _ 4)
        have S1009 : Go p e below s₁ (eF_law m a b d f g) T1008 (mkF m 111 #[vI a, vI b, vI d, vI f, vI g, vI c0, vI c1, vI c2, vI c3, vI (4 : Int32), vU, vU, vU, vU] [(.ref ar)]) := fun t kt => S1007 t (st1008 t kt)
        clear S1007 st1008 X0 e0
        have S1010 : Go p e below s₁ (eF_law m a b d f g) T1008 (mkF m 115 #[vI a, vI b, vI d, vI f, vI g, vI c0, vI c1, vI c2, vI c3, vI (4 : Int32), vU, vU, vU, vU] [(.int c0), (.int (0 : Int32)), (.ref ar), (.ref ar)]) := fun t kt => S1009 t (by
          refine XS.dup X1008.here hx rfl (hb hby at_111) rfl rfl ?_
          show Sp p e below T1008 (mkF m 112 #[vI a, vI b, vI d, vI f, vI g, vI c0, vI c1, vI c2, vI c3, vI (4 : Int32), vU, vU, vU, vU] [(.ref ar), (.ref ar)]) _
          refine XS.iconst X1008.here hx rfl (hb hby at_112) ?_
          show Sp p e below T1008 (mkF m 113 #[vI a, vI b, vI d, vI f, vI g, vI c0, vI c1, vI c2, vI c3, vI (4 : Int32), vU, vU, vU, vU] [(.int (0 : Int32)), (.ref ar), (.ref ar)]) _
          refine XS.iload X1008.here hx rfl (hb hby at_113) rfl ?_
          show Sp p e below T1008 (mkF m 115 #[vI a, vI b, vI d, vI f, vI g, vI c0, vI c1, vI c2, vI c3, vI (4 : Int32), vU, vU, vU, vU] [(.int c0), (.int (0 : Int32)), (.ref ar), (.ref ar)]) _
          exact kt)
        clear S1009
        obtain ⟨co1011, Ao1011, qo1011, So1011, No1011, Ho1011, Go1011⟩ := id V1008
        have hino1011 : ¬ ((0 : Int32) < 0 ∨ co1011.slots.size ≤ ((0 : Int32)).toNatClampNeg) := inb_of So1011 ⟨by decide, by decide⟩
        obtain ⟨T1012, h1012, X1012, e1012, W1012, st1012⟩ := stC X1008 hx hZ e1008 Ao1011 (j := (0 : Int32)) hino1011 (g := (mkF m 115 #[vI a, vI b, vI d, vI f, vI g, vI c0, vI c1, vI c2, vI c3, vI (4 : Int32), vU, vU, vU, vU] [(.int c0), (.int (0 : Int32)), (.ref ar), (.ref ar)])) rfl rfl (hb hby at_115)
        have N1012 := Fr.snoc X1012 N0 g_ar
        have V1012 : Arv Z h1012 ar k1008 .char (4 : Int32) [(.int (c0.toUInt32.toUInt16.toUInt32.toInt32)), (.int (0 : Int32)), (.int (0 : Int32)), (.int (0 : Int32))] (.int (0 : Int32)) := Arv.set Ao1011 qo1011 So1011 No1011 Ho1011 Go1011 (fits_nar_char _) W1012 0 rfl (Nat.le_of_ble_eq_true rfl)
        rw [own_nc2 hc0] at V1012
        have S1013 : Go p e below s₁ (eF_law m a b d f g) T1012 (mkF m 116 #[vI a, vI b, vI d, vI f, vI g, vI c0, vI c1, vI c2, vI c3, vI (4 : Int32), vU, vU, vU, vU] [(.ref ar)]) := fun t kt => S1010 t (st1012 t kt)
        clear S1010 st1012 X1008 e1008
        have S1014 : Go p e below s₁ (eF_law m a b d f g) T1012 (mkF m 120 #[vI a, vI b, vI d, vI f, vI g, vI c0, vI c1, vI c2, vI c3, vI (4 : Int32), vU, vU, vU, vU] [(.int c1), (.int (1 : Int32)), (.ref ar), (.ref ar)]) := fun t kt => S1013 t (by
          refine XS.dup X1012.here hx rfl (hb hby at_116) rfl rfl ?_
          show Sp p e below T1012 (mkF m 117 #[vI a, vI b, vI d, vI f, vI g, vI c0, vI c1, vI c2, vI c3, vI (4 : Int32), vU, vU, vU, vU] [(.ref ar), (.ref ar)]) _
          refine XS.iconst X1012.here hx rfl (hb hby at_117) ?_
          show Sp p e below T1012 (mkF m 118 #[vI a, vI b, vI d, vI f, vI g, vI c0, vI c1, vI c2, vI c3, vI (4 : Int32), vU, vU, vU, vU] [(.int (1 : Int32)), (.ref ar), (.ref ar)]) _
          refine XS.iload X1012.here hx rfl (hb hby at_118) rfl ?_
          show Sp p e below T1012 (mkF m 120 #[vI a, vI b, vI d, vI f, vI g, vI c0, vI c1, vI c2, vI c3, vI (4 : Int32), vU, vU, vU, vU] [(.int c1), (.int (1 : Int32)), (.ref ar), (.ref ar)]) _
          exact kt)
        clear S1013
        obtain ⟨co1015, Ao1015, qo1015, So1015, No1015, Ho1015, Go1015⟩ := id V1012
        have hino1015 : ¬ ((1 : Int32) < 0 ∨ co1015.slots.size ≤ ((1 : Int32)).toNatClampNeg) := inb_of So1015 ⟨by decide, by decide⟩
        obtain ⟨T1016, h1016, X1016, e1016, W1016, st1016⟩ := stC X1012 hx hZ e1012 Ao1015 (j := (1 : Int32)) hino1015 (g := (mkF m 120 #[vI a, vI b, vI d, vI f, vI g, vI c0, vI c1, vI c2, vI c3, vI (4 : Int32), vU, vU, vU, vU] [(.int c1), (.int (1 : Int32)), (.ref ar), (.ref ar)])) rfl rfl (hb hby at_120)
        have N1016 := Fr.snoc X1016 N1012 g_ar
        have V1016 : Arv Z h1016 ar k1008 .char (4 : Int32) [(.int c0), (.int (c1.toUInt32.toUInt16.toUInt32.toInt32)), (.int (0 : Int32)), (.int (0 : Int32))] (.int (0 : Int32)) := Arv.set Ao1015 qo1015 So1015 No1015 Ho1015 Go1015 (fits_nar_char _) W1016 1 rfl (Nat.le_of_ble_eq_true rfl)
        rw [own_nc2 hc1] at V1016
        have S1017 : Go p e below s₁ (eF_law m a b d f g) T1016 (mkF m 121 #[vI a, vI b, vI d, vI f, vI g, vI c0, vI c1, vI c2, vI c3, vI (4 : Int32), vU, vU, vU, vU] [(.ref ar)]) := fun t kt => S1014 t (st1016 t kt)
        clear S1014 st1016 X1012 e1012
        have S1018 : Go p e below s₁ (eF_law m a b d f g) T1016 (mkF m 125 #[vI a, vI b, vI d, vI f, vI g, vI c0, vI c1, vI c2, vI c3, vI (4 : Int32), vU, vU, vU, vU] [(.int c2), (.int (2 : Int32)), (.ref ar), (.ref ar)]) := fun t kt => S1017 t (by
          refine XS.dup X1016.here hx rfl (hb hby at_121) rfl rfl ?_
          show Sp p e below T1016 (mkF m 122 #[vI a, vI b, vI d, vI f, vI g, vI c0, vI c1, vI c2, vI c3, vI (4 : Int32), vU, vU, vU, vU] [(.ref ar), (.ref ar)]) _
          refine XS.iconst X1016.here hx rfl (hb hby at_122) ?_
          show Sp p e below T1016 (mkF m 123 #[vI a, vI b, vI d, vI f, vI g, vI c0, vI c1, vI c2, vI c3, vI (4 : Int32), vU, vU, vU, vU] [(.int (2 : Int32)), (.ref ar), (.ref ar)]) _
          refine XS.iload X1016.here hx rfl (hb hby at_123) rfl ?_
          show Sp p e below T1016 (mkF m 125 #[vI a, vI b, vI d, vI f, vI g, vI c0, vI c1, vI c2, vI c3, vI (4 : Int32), vU, vU, vU, vU] [(.int c2), (.int (2 : Int32)), (.ref ar), (.ref ar)]) _
          exact kt)
        clear S1017
        obtain ⟨co1019, Ao1019, qo1019, So1019, No1019, Ho1019, Go1019⟩ := id V1016
        have hino1019 : ¬ ((2 : Int32) < 0 ∨ co1019.slots.size ≤ ((2 : Int32)).toNatClampNeg) := inb_of So1019 ⟨by decide, by decide⟩
        obtain ⟨T1020, h1020, X1020, e1020, W1020, st1020⟩ := stC X1016 hx hZ e1016 Ao1019 (j := (2 : Int32)) hino1019 (g := (mkF m 125 #[vI a, vI b, vI d, vI f, vI g, vI c0, vI c1, vI c2, vI c3, vI (4 : Int32), vU, vU, vU, vU] [(.int c2), (.int (2 : Int32)), (.ref ar), (.ref ar)])) rfl rfl (hb hby at_125)
        have N1020 := Fr.snoc X1020 N1016 g_ar
        have V1020 : Arv Z h1020 ar k1008 .char (4 : Int32) [(.int c0), (.int c1), (.int (c2.toUInt32.toUInt16.toUInt32.toInt32)), (.int (0 : Int32))] (.int (0 : Int32)) := Arv.set Ao1019 qo1019 So1019 No1019 Ho1019 Go1019 (fits_nar_char _) W1020 2 rfl (Nat.le_of_ble_eq_true rfl)
        rw [own_nc2 hc2] at V1020
        have S1021 : Go p e below s₁ (eF_law m a b d f g) T1020 (mkF m 126 #[vI a, vI b, vI d, vI f, vI g, vI c0, vI c1, vI c2, vI c3, vI (4 : Int32), vU, vU, vU, vU] [(.ref ar)]) := fun t kt => S1018 t (st1020 t kt)
        clear S1018 st1020 X1016 e1016
        have S1022 : Go p e below s₁ (eF_law m a b d f g) T1020 (mkF m 130 #[vI a, vI b, vI d, vI f, vI g, vI c0, vI c1, vI c2, vI c3, vI (4 : Int32), vU, vU, vU, vU] [(.int c3), (.int (3 : Int32)), (.ref ar), (.ref ar)]) := fun t kt => S1021 t (by
          refine XS.dup X1020.here hx rfl (hb hby at_126) rfl rfl ?_
          show Sp p e below T1020 (mkF m 127 #[vI a, vI b, vI d, vI f, vI g, vI c0, vI c1, vI c2, vI c3, vI (4 : Int32), vU, vU, vU, vU] [(.ref ar), (.ref ar)]) _
          refine XS.iconst X1020.here hx rfl (hb hby at_127) ?_
          show Sp p e below T1020 (mkF m 128 #[vI a, vI b, vI d, vI f, vI g, vI c0, vI c1, vI c2, vI c3, vI (4 : Int32), vU, vU, vU, vU] [(.int (3 : Int32)), (.ref ar), (.ref ar)]) _
          refine XS.iload X1020.here hx rfl (hb hby at_128) rfl ?_
          show Sp p e below T1020 (mkF m 130 #[vI a, vI b, vI d, vI f, vI g, vI c0, vI c1, vI c2, vI c3, vI (4 : Int32), vU, vU, vU, vU] [(.int c3), (.int (3 : Int32)), (.ref ar), (.ref ar)]) _
          exact kt)
        clear S1021
        obtain ⟨co1023, Ao1023, qo1023, So1023, No1023, Ho1023, Go1023⟩ := id V1020
        have hino1023 : ¬ ((3 : Int32) < 0 ∨ co1023.slots.size ≤ ((3 : Int32)).toNatClampNeg) := inb_of So1023 ⟨by decide, by decide⟩
        obtain ⟨T1024, h1024, X1024, e1024, W1024, st1024⟩ := stC X1020 hx hZ e1020 Ao1023 (j := (3 : Int32)) hino1023 (g := (mkF m 130 #[vI a, vI b, vI d, vI f, vI g, vI c0, vI c1, vI c2, vI c3, vI (4 : Int32), vU, vU, vU, vU] [(.int c3), (.int (3 : Int32)), (.ref ar), (.ref ar)])) rfl rfl (hb hby at_130)
        have N1024 := Fr.snoc X1024 N1020 g_ar
        have V1024 : Arv Z h1024 ar k1008 .char (4 : Int32) [(.int c0), (.int c1), (.int c2), (.int (c3.toUInt32.toUInt16.toUInt32.toInt32))] (.int (0 : Int32)) := Arv.set Ao1023 qo1023 So1023 No1023 Ho1023 Go1023 (fits_nar_char _) W1024 3 rfl (Nat.le_of_ble_eq_true rfl)
        rw [own_nc2 hc3] at V1024
        have S1025 : Go p e below s₁ (eF_law m a b d f g) T1024 (mkF m 131 #[vI a, vI b, vI d, vI f, vI g, vI c0, vI c1, vI c2, vI c3, vI (4 : Int32), vU, vU, vU, vU] [(.ref ar)]) := fun t kt => S1022 t (st1024 t kt)
        clear S1022 st1024 X1020 e1020
        have S1026 : Go p e below s₁ (eF_law m a b d f g) T1024 (mkF m 133 #[vI a, vI b, vI d, vI f, vI g, vI c0, vI c1, vI c2, vI c3, vI (4 : Int32), vR ar, vU, vU, vU] []) := fun t kt => S1025 t (by
          refine XS.astore X1024.here hx rfl (hb hby at_131) rfl rfl (l' := #[vI a, vI b, vI d, vI f, vI g, vI c0, vI c1, vI c2, vI c3, vI (4 : Int32), vR ar, vU, vU, vU]) rfl ?_
          show Sp p e below T1024 (mkF m 133 #[vI a, vI b, vI d, vI f, vI g, vI c0, vI c1, vI c2, vI c3, vI (4 : Int32), vR ar, vU, vU, vU] []) _
          exact kt)
        clear S1025
        obtain ⟨T1027, h1027, X1027, e1027, E1027, A1027, D1027, -, st1027⟩ := newO X1024 hx hZ hown (own_h hw 2 rfl) (own_h hw 3 rfl) (own_h hw 4 rfl) e1024 (g := (mkF m 133 #[vI a, vI b, vI d, vI f, vI g, vI c0, vI c1, vI c2, vI c3, vI (4 : Int32), vR ar, vU, vU, vU] [])) rfl (hb hby at_133) (by decide) (by decide)
        obtain ⟨x1, g1027⟩ : ∃ z, z = h1024.size := ⟨_, rfl⟩
        rw [← g1027] at A1027 D1027 st1027
        have ne1028 : ar ≠ x1 := by rw [g1027]; exact Nat.ne_of_lt V1024.lt
        have g_x1 : n0 ≤ x1 := Nat.le_trans (Nat.le_trans (Nat.le_trans (Nat.le_trans (Nat.le_trans (Nat.le_trans Z0 E1008.1) (Keep.of_wr W1012).1) (Keep.of_wr W1016).1) (Keep.of_wr W1020).1) (Keep.of_wr W1024).1) (Nat.le_of_eq g1027.symm)
        have F_coder_x1 : Fld Z h1027 x1 "java/lang/String" "coder" "B" (.int (0 : Int32)) := D1027 (Or.inr (own_h hw 28 rfl)) (ty := .byte) (by decide)
        have F_value_x1 : Fld Z h1027 x1 "java/lang/String" "value" "[B" .null := D1027 (Or.inr (own_h hw 30 rfl)) (ty := (.array .byte)) (by decide)
        have S1029 : Go p e below s₁ (eF_law m a b d f g) T1027 (mkF m 136 #[vI a, vI b, vI d, vI f, vI g, vI c0, vI c1, vI c2, vI c3, vI (4 : Int32), vR ar, vU, vU, vU] [(.ref x1)]) := fun t kt => S1026 t (st1027 t kt)
        clear S1026 st1027 X1024 e1024
        have S1030 : Go p e below s₁ (eF_law m a b d f g) T1027 (mkF m 139 #[vI a, vI b, vI d, vI f, vI g, vI c0, vI c1, vI c2, vI c3, vI (4 : Int32), vR ar, vU, vU, vU] [(.ref ar), (.ref x1), (.ref x1)]) := fun t kt => S1029 t (by
          refine XS.dup X1027.here hx rfl (hb hby at_136) rfl rfl ?_
          show Sp p e below T1027 (mkF m 137 #[vI a, vI b, vI d, vI f, vI g, vI c0, vI c1, vI c2, vI c3, vI (4 : Int32), vR ar, vU, vU, vU] [(.ref x1), (.ref x1)]) _
          refine XS.aload X1027.here hx rfl (hb hby at_137) rfl rfl ?_
          show Sp p e below T1027 (mkF m 139 #[vI a, vI b, vI d, vI f, vI g, vI c0, vI c1, vI c2, vI c3, vI (4 : Int32), vR ar, vU, vU, vU] [(.ref ar), (.ref x1), (.ref x1)]) _
          exact kt)
        clear S1029
        have f1031 := ((((((O0.ext E1008).wr W1012 g_ar).wr W1016 g_ar).wr W1020 g_ar).wr W1024 g_ar).ext E1027)
        have f1032 := (V1024.ext E1027)
        obtain ⟨v1033, T1033, L1033, X1033, hQ1033, st1033⟩ := own_outV (X1027.specialBack hx (y := (⟨"java/lang/String", "<init>", "([C)V"⟩ : MethodName)) rfl hown (mvT hZ (own_h hw 5 rfl)) (mvT hZ (own_h hw 6 rfl)) (mvT hZ (own_h hw 7 rfl)) (by decide) (backOf (W := 1) (rm_str4 l Z a0 hw [] x1 ar k1008 c0 c1 c2 c3 h1027 n0 (Nat.le_trans (Nat.le_trans (Nat.le_trans (Nat.le_trans (Nat.le_trans (Nat.le_trans Z0 E1008.1) (Keep.of_wr W1012).1) (Keep.of_wr W1016).1) (Keep.of_wr W1020).1) (Keep.of_wr W1024).1) E1027.1) SS f1031 f1032 hc0 hc1 hc2 hc3 A1027 F_coder_x1 F_value_x1 (Ne.symm ne1028) g_x1) hZ (own_h hw 7 rfl) (own_h hw 4 rfl) (by decide) (by decide)) (g := (mkF m 139 #[vI a, vI b, vI d, vI f, vI g, vI c0, vI c1, vI c2, vI c3, vI (4 : Int32), vR ar, vU, vU, vU] [(.ref ar), (.ref x1), (.ref x1)])) rfl (by rw [hml]; rfl) (Steps.refl _) (a := x1) (argsL := [(.ref ar)]) (rest := [(.ref x1)]) (lenOf pd___C_V rfl) rfl (by show 2 * 0 + _ ≤ _; exact Nat.le_of_eq rfl) (hb hby at_139) (fun _ _ => ⟨rfl, e1027, (by decide : 2 + 2 ≤ _), (by decide : 8 + 12 ≤ _)⟩))
        obtain ⟨rfl, N1033q, K1033, t1, kb1033, n, vs, cd, sz1033, E1033, F1033, G1033, V1033, hcod⟩ := hQ1033
        have N1033 := Fr.app N1024 N1033q
        have g_t1 : n0 ≤ t1 := Nat.le_trans (Nat.le_trans (Nat.le_trans (Nat.le_trans (Nat.le_trans (Nat.le_trans (Nat.le_trans Z0 E1008.1) (Keep.of_wr W1012).1) (Keep.of_wr W1016).1) (Keep.of_wr W1020).1) (Keep.of_wr W1024).1) E1027.1) sz1033
        have S1034 : Go p e below s₁ (eF_law m a b d f g) T1033 (mkF m 142 #[vI a, vI b, vI d, vI f, vI g, vI c0, vI c1, vI c2, vI c3, vI (4 : Int32), vR ar, vU, vU, vU] [(.ref x1)]) := fun t kt => S1030 t (st1033 t kt)
        clear S1030 st1033 X1027 e1027
        have hb0 : ∀ z ∈ [c0, c1, c2, c3], own_Ch z := fun z hz => by simp only [List.mem_cons, List.not_mem_nil, or_false] at hz; rcases hz with rfl | rfl | rfl | rfl <;> assumption
        have S1035 : Go p e below s₁ (eF_law m a b d f g) T1033 (mkF m 150 #[vI a, vI b, vI d, vI f, vI g, vI c0, vI c1, vI c2, vI c3, vI (4 : Int32), vR ar, vR x1, vU, vU] [(.int (((g.toUInt32 >>> ((2 : Int32) &&& 31).toUInt32).toInt32) &&& (1 : Int32)))]) := fun t kt => S1034 t (by
          refine XS.astore X1033.here hx rfl (hb hby at_142) rfl rfl (l' := #[vI a, vI b, vI d, vI f, vI g, vI c0, vI c1, vI c2, vI c3, vI (4 : Int32), vR ar, vR x1, vU, vU]) rfl ?_
          show Sp p e below T1033 (mkF m 144 #[vI a, vI b, vI d, vI f, vI g, vI c0, vI c1, vI c2, vI c3, vI (4 : Int32), vR ar, vR x1, vU, vU] []) _
          refine XS.iload X1033.here hx rfl (hb hby at_144) rfl ?_
          show Sp p e below T1033 (mkF m 146 #[vI a, vI b, vI d, vI f, vI g, vI c0, vI c1, vI c2, vI c3, vI (4 : Int32), vR ar, vR x1, vU, vU] [(.int g)]) _
          refine XS.iconst X1033.here hx rfl (hb hby at_146) ?_
          show Sp p e below T1033 (mkF m 147 #[vI a, vI b, vI d, vI f, vI g, vI c0, vI c1, vI c2, vI c3, vI (4 : Int32), vR ar, vR x1, vU, vU] [(.int (2 : Int32)), (.int g)]) _
          refine XS.iushr X1033.here hx rfl (hb hby at_147) rfl ?_
          show Sp p e below T1033 (mkF m 148 #[vI a, vI b, vI d, vI f, vI g, vI c0, vI c1, vI c2, vI c3, vI (4 : Int32), vR ar, vR x1, vU, vU] [(.int ((g.toUInt32 >>> ((2 : Int32) &&& 31).toUInt32).toInt32))]) _
          refine XS.iconst X1033.here hx rfl (hb hby at_148) ?_
          show Sp p e below T1033 (mkF m 149 #[vI a, vI b, vI d, vI f, vI g, vI c0, vI c1, vI c2, vI c3, vI (4 : Int32), vR ar, vR x1, vU, vU] [(.int (1 : Int32)), (.int ((g.toUInt32 >>> ((2 : Int32) &&& 31).toUInt32).toInt32))]) _
          refine XS.iand X1033.here hx rfl (hb hby at_149) rfl ?_
          show Sp p e below T1033 (mkF m 150 #[vI a, vI b, vI d, vI f, vI g, vI c0, vI c1, vI c2, vI c3, vI (4 : Int32), vR ar, vR x1, vU, vU] [(.int (((g.toUInt32 >>> ((2 : Int32) &&& 31).toUInt32).toInt32) &&& (1 : Int32)))]) _
          exact kt)
        clear S1034
        by_cases hg : (((g.toUInt32 >>> ((2 : Int32) &&& 31).toUInt32).toInt32) &&& (1 : Int32)) = (0 : Int32)
        · have S1036 : Go p e below s₁ (eF_law m a b d f g) T1033 (mkF m 168 #[vI a, vI b, vI d, vI f, vI g, vI c0, vI c1, vI c2, vI c3, vI (4 : Int32), vR ar, vR x1, vU, vU] [(.int ((((g.toUInt32 >>> ((3 : Int32) &&& 31).toUInt32).toInt32) &&& (65535 : Int32)).toUInt32.toUInt16.toUInt32.toInt32))]) := fun t kt => S1035 t (by
            refine XS.ifYes X1033.here hx rfl (pc0 := 150) (pc' := 160) rfl (hb hby at_150) rfl ((if0 _ _).trans (teq (show (((g.toUInt32 >>> ((2 : Int32) &&& 31).toUInt32).toInt32) &&& (1 : Int32)) = (0 : Int32) from hg)).1) (by decide) (by decide) ?_
            show Sp p e below T1033 (mkF m 160 #[vI a, vI b, vI d, vI f, vI g, vI c0, vI c1, vI c2, vI c3, vI (4 : Int32), vR ar, vR x1, vU, vU] []) _
            refine XS.iload X1033.here hx rfl (hb hby at_160) rfl ?_
            show Sp p e below T1033 (mkF m 162 #[vI a, vI b, vI d, vI f, vI g, vI c0, vI c1, vI c2, vI c3, vI (4 : Int32), vR ar, vR x1, vU, vU] [(.int g)]) _
            refine XS.iconst X1033.here hx rfl (hb hby at_162) ?_
            show Sp p e below T1033 (mkF m 163 #[vI a, vI b, vI d, vI f, vI g, vI c0, vI c1, vI c2, vI c3, vI (4 : Int32), vR ar, vR x1, vU, vU] [(.int (3 : Int32)), (.int g)]) _
            refine XS.iushr X1033.here hx rfl (hb hby at_163) rfl ?_
            show Sp p e below T1033 (mkF m 164 #[vI a, vI b, vI d, vI f, vI g, vI c0, vI c1, vI c2, vI c3, vI (4 : Int32), vR ar, vR x1, vU, vU] [(.int ((g.toUInt32 >>> ((3 : Int32) &&& 31).toUInt32).toInt32))]) _
            refine X1033.ldcInt hx hown (mvT hZ (own_h hw 0 rfl)) (g := (mkF m 164 #[vI a, vI b, vI d, vI f, vI g, vI c0, vI c1, vI c2, vI c3, vI (4 : Int32), vR ar, vR x1, vU, vU] [(.int ((g.toUInt32 >>> ((3 : Int32) &&& 31).toUInt32).toInt32))])) rfl (hb hby at_164) _ ?_
            show Sp p e below T1033 (mkF m 166 #[vI a, vI b, vI d, vI f, vI g, vI c0, vI c1, vI c2, vI c3, vI (4 : Int32), vR ar, vR x1, vU, vU] [(.int (65535 : Int32)), (.int ((g.toUInt32 >>> ((3 : Int32) &&& 31).toUInt32).toInt32))]) _
            refine XS.iand X1033.here hx rfl (hb hby at_166) rfl ?_
            show Sp p e below T1033 (mkF m 167 #[vI a, vI b, vI d, vI f, vI g, vI c0, vI c1, vI c2, vI c3, vI (4 : Int32), vR ar, vR x1, vU, vU] [(.int (((g.toUInt32 >>> ((3 : Int32) &&& 31).toUInt32).toInt32) &&& (65535 : Int32)))]) _
            refine XS.i2c X1033.here hx rfl (hb hby at_167) rfl ?_
            show Sp p e below T1033 (mkF m 168 #[vI a, vI b, vI d, vI f, vI g, vI c0, vI c1, vI c2, vI c3, vI (4 : Int32), vR ar, vR x1, vU, vU] [(.int ((((g.toUInt32 >>> ((3 : Int32) &&& 31).toUInt32).toInt32) &&& (65535 : Int32)).toUInt32.toUInt16.toUInt32.toInt32))]) _
            exact kt)
          clear S1035
          have f1037 := (f1031.keep K1033 (allS g_x1 all0))
          obtain ⟨v1038, T1038, L1038, X1038, hQ1038, st1038⟩ := own_outS (Jvm.LawKit.callS X1033 hx (y := (⟨"java/lang/String", "valueOf", "(C)Ljava/lang/String;"⟩ : MethodName)) hown (mvT hZ (own_h hw 31 rfl)) (mvT hZ (own_h hw 32 rfl)) (mvT hZ (own_h hw 4 rfl)) (mvT hZ (own_h hw 33 rfl)) (by decide) (backOf (W := 0) (rm_vof l Z a0 hw [] ((((g.toUInt32 >>> ((3 : Int32) &&& 31).toUInt32).toInt32) &&& (65535 : Int32)).toUInt32.toUInt16.toUInt32.toInt32) T1033.heap n0 (Nat.le_trans (Nat.le_trans (Nat.le_trans (Nat.le_trans (Nat.le_trans (Nat.le_trans (Nat.le_trans Z0 E1008.1) (Keep.of_wr W1012).1) (Keep.of_wr W1016).1) (Keep.of_wr W1020).1) (Keep.of_wr W1024).1) E1027.1) K1033.1) SS f1037) hZ (own_h hw 33 rfl) (own_h hw 4 rfl) (by decide) (by decide)) (g := (mkF m 168 #[vI a, vI b, vI d, vI f, vI g, vI c0, vI c1, vI c2, vI c3, vI (4 : Int32), vR ar, vR x1, vU, vU] [(.int ((((g.toUInt32 >>> ((3 : Int32) &&& 31).toUInt32).toInt32) &&& (65535 : Int32)).toUInt32.toUInt16.toUInt32.toInt32))])) rfl (by rw [hml]; rfl) (argsL := [(.int ((((g.toUInt32 >>> ((3 : Int32) &&& 31).toUInt32).toInt32) &&& (65535 : Int32)).toUInt32.toUInt16.toUInt32.toInt32))]) (rest := []) (lenOf pd__C_Ljava_lang_String_ rfl) rfl (by show 2 * 0 + _ ≤ _; exact Nat.le_of_eq rfl) (hb hby at_168) (fun _ _ => ⟨rfl, rfl, (by decide : 4 + 2 ≤ _), (by decide : 20 + 6 ≤ _)⟩))
          obtain ⟨nm, rfl, N1038q, K1038⟩ := hQ1038
          have N1038 := Fr.app N1033 N1038q
          have S1039 : Go p e below s₁ (eF_law m a b d f g) T1038 (mkF m 171 #[vI a, vI b, vI d, vI f, vI g, vI c0, vI c1, vI c2, vI c3, vI (4 : Int32), vR ar, vR x1, vU, vU] [(.ref nm)]) := fun t kt => S1036 t (st1038 t kt)
          clear S1036 st1038 X1033
          have S1043 : Go p e below s₁ (eF_law m a b d f g) T1038 (mkF m 177 #[vI a, vI b, vI d, vI f, vI g, vI c0, vI c1, vI c2, vI c3, vI (4 : Int32), vR ar, vR x1, vR nm, vU] [(.ref nm), (.ref x1)]) := fun t kt => S1039 t (by
            refine XS.astore X1038.here hx rfl (hb hby at_171) rfl rfl (l' := #[vI a, vI b, vI d, vI f, vI g, vI c0, vI c1, vI c2, vI c3, vI (4 : Int32), vR ar, vR x1, vR nm, vU]) rfl ?_
            show Sp p e below T1038 (mkF m 173 #[vI a, vI b, vI d, vI f, vI g, vI c0, vI c1, vI c2, vI c3, vI (4 : Int32), vR ar, vR x1, vR nm, vU] []) _
            refine XS.aload X1038.here hx rfl (hb hby at_173) rfl rfl ?_
            show Sp p e below T1038 (mkF m 175 #[vI a, vI b, vI d, vI f, vI g, vI c0, vI c1, vI c2, vI c3, vI (4 : Int32), vR ar, vR x1, vR nm, vU] [(.ref x1)]) _
            refine XS.aload X1038.here hx rfl (hb hby at_175) rfl rfl ?_
            show Sp p e below T1038 (mkF m 177 #[vI a, vI b, vI d, vI f, vI g, vI c0, vI c1, vI c2, vI c3, vI (4 : Int32), vR ar, vR x1, vR nm, vU] [(.ref nm), (.ref x1)]) _
            exact kt)
          clear S1039
          have f1044 := (f1037.keep K1038 all0)
          have f1045 := (E1033.keep K1038)
          have f1046 := (F1033.keep K1038 nin0)
          have f1047 := (G1033.keep K1038 nin0)
          have f1048 := (V1033.keep K1038 nin0)
          obtain ⟨v1049, T1049, L1049, X1049, hQ1049, st1049⟩ := own_outS (Jvm.LawKit.callS X1038 hx (y := (⟨"com/example/upper_ward/upperward/auth/SigningChecks", "required", "(Ljava/lang/String;Ljava/lang/String;)Ljava/lang/String;"⟩ : MethodName)) hown (mvT hZ (own_h hw 45 rfl)) (mvT hZ (own_h hw 46 rfl)) (mvT hZ (own_h hw 47 rfl)) (mvT hZ (own_h hw 48 rfl)) (by decide) (backOf (W := 0) (rm_req l Z a0 hw [] x1 nm t1 kb1033 n vs cd [c0, c1, c2, c3] T1038.heap n0 (Nat.le_trans (Nat.le_trans (Nat.le_trans (Nat.le_trans (Nat.le_trans (Nat.le_trans (Nat.le_trans (Nat.le_trans Z0 E1008.1) (Keep.of_wr W1012).1) (Keep.of_wr W1016).1) (Keep.of_wr W1020).1) (Keep.of_wr W1024).1) E1027.1) K1033.1) K1038.1) SS f1044 f1045 f1046 f1047 f1048 hcod hb0 (Nat.le_of_ble_eq_true rfl) (by simp)) hZ (own_h hw 48 rfl) (own_h hw 47 rfl) (by decide) (by decide)) (g := (mkF m 177 #[vI a, vI b, vI d, vI f, vI g, vI c0, vI c1, vI c2, vI c3, vI (4 : Int32), vR ar, vR x1, vR nm, vU] [(.ref nm), (.ref x1)])) rfl (by rw [hml]; rfl) (argsL := [(.ref x1), (.ref nm)]) (rest := []) (lenOf pd__Ljava_lang_String_Ljava_lang_String__Ljava_lang_String_ rfl) rfl (by show 2 * 0 + _ ≤ _; exact Nat.le_of_eq rfl) (hb hby at_177) (fun _ _ => ⟨rfl, rfl, (by decide : 6 + 0 ≤ _), (by decide : 26 + 0 ≤ _)⟩))
          obtain ⟨rfl, N1049q, e1049⟩ := hQ1049
          have N1049 := Fr.app N1038 N1049q
          have S1050 : Go p e below s₁ (eF_law m a b d f g) T1049 (mkF m 180 #[vI a, vI b, vI d, vI f, vI g, vI c0, vI c1, vI c2, vI c3, vI (4 : Int32), vR ar, vR x1, vR nm, vU] [(.ref x1)]) := fun t kt => S1043 t (st1049 t kt)
          clear S1043 st1049 X1038
          have S1051 : Go p e below s₁ (eF_law m a b d f g) T1049 (mkF m 191 #[vI a, vI b, vI d, vI f, vI g, vI c0, vI c1, vI c2, vI c3, vI (4 : Int32), vR ar, vR x1, vR nm, vR x1] [(.ref x1)]) := fun t kt => S1050 t (by
            refine XS.astore X1049.here hx rfl (hb hby at_180) rfl rfl (l' := #[vI a, vI b, vI d, vI f, vI g, vI c0, vI c1, vI c2, vI c3, vI (4 : Int32), vR ar, vR x1, vR nm, vR x1]) rfl ?_
            show Sp p e below T1049 (mkF m 182 #[vI a, vI b, vI d, vI f, vI g, vI c0, vI c1, vI c2, vI c3, vI (4 : Int32), vR ar, vR x1, vR nm, vR x1] []) _
            refine XS.aload X1049.here hx rfl (hb hby at_182) rfl rfl ?_
            show Sp p e below T1049 (mkF m 184 #[vI a, vI b, vI d, vI f, vI g, vI c0, vI c1, vI c2, vI c3, vI (4 : Int32), vR ar, vR x1, vR nm, vR x1] [(.ref x1)]) _
            refine XS.aload X1049.here hx rfl (hb hby at_184) rfl rfl ?_
            show Sp p e below T1049 (mkF m 186 #[vI a, vI b, vI d, vI f, vI g, vI c0, vI c1, vI c2, vI c3, vI (4 : Int32), vR ar, vR x1, vR nm, vR x1] [(.ref x1), (.ref x1)]) _
            refine Jvm.RoadKit.acmp (g := (mkF m 186 #[vI a, vI b, vI d, vI f, vI g, vI c0, vI c1, vI c2, vI c3, vI (4 : Int32), vR ar, vR x1, vR nm, vR x1] [(.ref x1), (.ref x1)])) X1049 hx rfl rfl rfl (pc0 := 186) (pc' := 189) (same := true) rfl (hb hby at_186) rfl (decide_eq_true rfl) (by decide) (by decide) ?_
            show Sp p e below T1049 (mkF m 189 #[vI a, vI b, vI d, vI f, vI g, vI c0, vI c1, vI c2, vI c3, vI (4 : Int32), vR ar, vR x1, vR nm, vR x1] []) _
            refine XS.aload X1049.here hx rfl (hb hby at_189) rfl rfl ?_
            show Sp p e below T1049 (mkF m 191 #[vI a, vI b, vI d, vI f, vI g, vI c0, vI c1, vI c2, vI c3, vI (4 : Int32), vR ar, vR x1, vR nm, vR x1] [(.ref x1)]) _
            exact kt)
          clear S1050
          obtain ⟨cq1052, kq1052, q1052a, q1052b, q1052c⟩ := isOf hZ e1049 f1045
          obtain ⟨v1052, T1052, L1052, X1052, hQ1052, st1052⟩ := own_outV (Q := (fun v h' L => v = some (.int (Int32.ofNat ([c0, c1, c2, c3] : List Int32).length)) ∧ L = [] ∧ h' = T1038.heap)) (X1049.virtualBack hx (y := (⟨"java/lang/String", "length", "()I"⟩ : MethodName)) (z := (⟨"java/lang/String", "length", "()I"⟩ : MethodName)) hown (mvT hZ (own_h hw 54 rfl)) (mvT hZ (own_h hw 55 rfl)) (notFace_of_selects (args := #[]) (mvT hZ (own_h hw 57 rfl))) (mvT hZ (own_h hw 57 rfl)) (mvT hZ (own_h hw 56 rfl)) (by decide) (StrChars.Road.lenW (W := 0) hZ hln (kI := 4) (own_h hw 3 rfl) f1045 f1047 f1046 f1048 hcod hb0 (S_cs.ext f1044.2) hcz (Nat.le_of_ble_eq_true rfl) (by decide) (by decide)) q1052a q1052c (g := (mkF m 191 #[vI a, vI b, vI d, vI f, vI g, vI c0, vI c1, vI c2, vI c3, vI (4 : Int32), vR ar, vR x1, vR nm, vR x1] [(.ref x1)])) rfl (by rw [hml]; rfl) (Steps.refl _) (argsL := []) (rest := []) (lenOf pd___I rfl) rfl (by show 2 * 0 + _ ≤ _; exact Nat.le_of_eq rfl) (hb hby at_191) (fun _ _ => ⟨rfl, e1049, (by decide : 6 + 0 ≤ _), (by decide : 26 + 0 ≤ _)⟩))
          obtain ⟨rfl, rfl, e1052⟩ := hQ1052
          have N1052 := Fr.app N1049 (Fr.nil n0)
          have S1053 : Go p e below s₁ (eF_law m a b d f g) T1052 (mkF m 194 #[vI a, vI b, vI d, vI f, vI g, vI c0, vI c1, vI c2, vI c3, vI (4 : Int32), vR ar, vR x1, vR nm, vR x1] [(.int (Int32.ofNat ([c0, c1, c2, c3] : List Int32).length))]) := fun t kt => S1051 t (st1052 t kt)
          clear S1051 st1052 X1049 e1049
          have q1055 : (Int32.ofNat ([c0, c1, c2, c3] : List Int32).length) = (4 : Int32) := rfl
          have S1054 : Go p e below s₁ (eF_law m a b d f g) T1052 (mkF m 194 #[vI a, vI b, vI d, vI f, vI g, vI c0, vI c1, vI c2, vI c3, vI (4 : Int32), vR ar, vR x1, vR nm, vR x1] [(.int (4 : Int32))]) := by have h := S1053; rw [q1055] at h; exact h
          clear S1053
          have S1056 : Go p e below s₁ (eF_law m a b d f g) T1052 (mkF m 202 #[vI a, vI b, vI d, vI f, vI g, vI c0, vI c1, vI c2, vI c3, vI (4 : Int32), vR ar, vR x1, vR nm, vR x1] [(.int (0 : Int32)), (.ref x1)]) := fun t kt => S1054 t (by
            refine XS.iload X1052.here hx rfl (hb hby at_194) rfl ?_
            show Sp p e below T1052 (mkF m 196 #[vI a, vI b, vI d, vI f, vI g, vI c0, vI c1, vI c2, vI c3, vI (4 : Int32), vR ar, vR x1, vR nm, vR x1] [(.int (4 : Int32)), (.int (4 : Int32))]) _
            refine XS.icmpNo X1052.here hx rfl (hb hby at_196) rfl (teq (show (4 : Int32) = (4 : Int32) from (by decide))).2 ?_
            show Sp p e below T1052 (mkF m 199 #[vI a, vI b, vI d, vI f, vI g, vI c0, vI c1, vI c2, vI c3, vI (4 : Int32), vR ar, vR x1, vR nm, vR x1] []) _
            refine XS.aload X1052.here hx rfl (hb hby at_199) rfl rfl ?_
            show Sp p e below T1052 (mkF m 201 #[vI a, vI b, vI d, vI f, vI g, vI c0, vI c1, vI c2, vI c3, vI (4 : Int32), vR ar, vR x1, vR nm, vR x1] [(.ref x1)]) _
            refine XS.iconst X1052.here hx rfl (hb hby at_201) ?_
            show Sp p e below T1052 (mkF m 202 #[vI a, vI b, vI d, vI f, vI g, vI c0, vI c1, vI c2, vI c3, vI (4 : Int32), vR ar, vR x1, vR nm, vR x1] [(.int (0 : Int32)), (.ref x1)]) _
            exact kt)
          clear S1054
          obtain ⟨cq1057, kq1057, q1057a, q1057b, q1057c⟩ := isOf hZ e1052 f1045
          obtain ⟨v1057, T1057, L1057, X1057, hQ1057, st1057⟩ := own_outV (X1052.virtualBack hx (y := (⟨"java/lang/String", "charAt", "(I)C"⟩ : MethodName)) (z := (⟨"java/lang/String", "charAt", "(I)C"⟩ : MethodName)) hown (mvT hZ (own_h hw 64 rfl)) (mvT hZ (own_h hw 65 rfl)) (notFace_of_selects (args := #[]) (mvT hZ (own_h hw 67 rfl))) (mvT hZ (own_h hw 67 rfl)) (mvT hZ (own_h hw 66 rfl)) (by decide) (backOf (W := 0) (rm_cha l Z a0 hw [] x1 (0 : Int32) t1 kb1033 n vs cd [c0, c1, c2, c3] 0 T1038.heap n0 (Nat.le_trans (Nat.le_trans (Nat.le_trans (Nat.le_trans (Nat.le_trans (Nat.le_trans (Nat.le_trans (Nat.le_trans Z0 E1008.1) (Keep.of_wr W1012).1) (Keep.of_wr W1016).1) (Keep.of_wr W1020).1) (Keep.of_wr W1024).1) E1027.1) K1033.1) K1038.1) SS f1044 f1045 f1046 f1047 f1048 hcod hb0 (Nat.le_of_ble_eq_true rfl) (Nat.le_of_ble_eq_true rfl) (by decide)) hZ (own_h hw 68 rfl) (own_h hw 4 rfl) (by decide) (by decide)) q1057a q1057c (g := (mkF m 202 #[vI a, vI b, vI d, vI f, vI g, vI c0, vI c1, vI c2, vI c3, vI (4 : Int32), vR ar, vR x1, vR nm, vR x1] [(.int (0 : Int32)), (.ref x1)])) rfl (by rw [hml]; rfl) (Steps.refl _) (argsL := [(.int (0 : Int32))]) (rest := []) (lenOf pd__I_C rfl) rfl (by show 2 * 0 + _ ≤ _; exact Nat.le_of_eq rfl) (hb hby at_202) (fun _ _ => ⟨rfl, e1052, (by decide : 6 + 0 ≤ _), (by decide : 26 + 0 ≤ _)⟩))
          obtain ⟨rfl, N1057q, e1057⟩ := hQ1057
          have N1057 := Fr.app N1052 N1057q
          have S1058 : Go p e below s₁ (eF_law m a b d f g) T1057 (mkF m 205 #[vI a, vI b, vI d, vI f, vI g, vI c0, vI c1, vI c2, vI c3, vI (4 : Int32), vR ar, vR x1, vR nm, vR x1] [(.int (([c0, c1, c2, c3] : List Int32).getD 0 0))]) := fun t kt => S1056 t (st1057 t kt)
          clear S1056 st1057 X1052 e1052
          have q1060 : (([c0, c1, c2, c3] : List Int32).getD 0 0) = c0 := rfl
          have S1059 : Go p e below s₁ (eF_law m a b d f g) T1057 (mkF m 205 #[vI a, vI b, vI d, vI f, vI g, vI c0, vI c1, vI c2, vI c3, vI (4 : Int32), vR ar, vR x1, vR nm, vR x1] [(.int c0)]) := by have h := S1058; rw [q1060] at h; exact h
          clear S1058
          have S1061 : Go p e below s₁ (eF_law m a b d f g) T1057 (mkF m 216 #[vI a, vI b, vI d, vI f, vI g, vI c0, vI c1, vI c2, vI c3, vI (4 : Int32), vR ar, vR x1, vR nm, vR x1] [(.int ((4 : Int32) - (1 : Int32))), (.ref x1)]) := fun t kt => S1059 t (by
            refine XS.iload X1057.here hx rfl (hb hby at_205) rfl ?_
            show Sp p e below T1057 (mkF m 207 #[vI a, vI b, vI d, vI f, vI g, vI c0, vI c1, vI c2, vI c3, vI (4 : Int32), vR ar, vR x1, vR nm, vR x1] [(.int c0), (.int c0)]) _
            refine XS.icmpNo X1057.here hx rfl (hb hby at_207) rfl (teq (show c0 = c0 from rfl)).2 ?_
            show Sp p e below T1057 (mkF m 210 #[vI a, vI b, vI d, vI f, vI g, vI c0, vI c1, vI c2, vI c3, vI (4 : Int32), vR ar, vR x1, vR nm, vR x1] []) _
            refine XS.aload X1057.here hx rfl (hb hby at_210) rfl rfl ?_
            show Sp p e below T1057 (mkF m 212 #[vI a, vI b, vI d, vI f, vI g, vI c0, vI c1, vI c2, vI c3, vI (4 : Int32), vR ar, vR x1, vR nm, vR x1] [(.ref x1)]) _
            refine XS.iload X1057.here hx rfl (hb hby at_212) rfl ?_
            show Sp p e below T1057 (mkF m 214 #[vI a, vI b, vI d, vI f, vI g, vI c0, vI c1, vI c2, vI c3, vI (4 : Int32), vR ar, vR x1, vR nm, vR x1] [(.int (4 : Int32)), (.ref x1)]) _
            refine XS.iconst X1057.here hx rfl (hb hby at_214) ?_
            show Sp p e below T1057 (mkF m 215 #[vI a, vI b, vI d, vI f, vI g, vI c0, vI c1, vI c2, vI c3, vI (4 : Int32), vR ar, vR x1, vR nm, vR x1] [(.int (1 : Int32)), (.int (4 : Int32)), (.ref x1)]) _
            refine XS.isub X1057.here hx rfl (hb hby at_215) rfl ?_
            show Sp p e below T1057 (mkF m 216 #[vI a, vI b, vI d, vI f, vI g, vI c0, vI c1, vI c2, vI c3, vI (4 : Int32), vR ar, vR x1, vR nm, vR x1] [(.int ((4 : Int32) - (1 : Int32))), (.ref x1)]) _
            exact kt)
          clear S1059
          have q1063 : ((4 : Int32) - (1 : Int32)) = (3 : Int32) := by decide
          have S1062 : Go p e below s₁ (eF_law m a b d f g) T1057 (mkF m 216 #[vI a, vI b, vI d, vI f, vI g, vI c0, vI c1, vI c2, vI c3, vI (4 : Int32), vR ar, vR x1, vR nm, vR x1] [(.int (3 : Int32)), (.ref x1)]) := by have h := S1061; rw [q1063] at h; exact h
          clear S1061
          obtain ⟨cq1064, kq1064, q1064a, q1064b, q1064c⟩ := isOf hZ e1057 f1045
          obtain ⟨v1064, T1064, L1064, X1064, hQ1064, st1064⟩ := own_outV (X1057.virtualBack hx (y := (⟨"java/lang/String", "charAt", "(I)C"⟩ : MethodName)) (z := (⟨"java/lang/String", "charAt", "(I)C"⟩ : MethodName)) hown (mvT hZ (own_h hw 64 rfl)) (mvT hZ (own_h hw 65 rfl)) (notFace_of_selects (args := #[]) (mvT hZ (own_h hw 67 rfl))) (mvT hZ (own_h hw 67 rfl)) (mvT hZ (own_h hw 66 rfl)) (by decide) (backOf (W := 0) (rm_cha l Z a0 hw [] x1 (3 : Int32) t1 kb1033 n vs cd [c0, c1, c2, c3] 3 T1038.heap n0 (Nat.le_trans (Nat.le_trans (Nat.le_trans (Nat.le_trans (Nat.le_trans (Nat.le_trans (Nat.le_trans (Nat.le_trans Z0 E1008.1) (Keep.of_wr W1012).1) (Keep.of_wr W1016).1) (Keep.of_wr W1020).1) (Keep.of_wr W1024).1) E1027.1) K1033.1) K1038.1) SS f1044 f1045 f1046 f1047 f1048 hcod hb0 (Nat.le_of_ble_eq_true rfl) (Nat.le_of_ble_eq_true rfl) (by decide)) hZ (own_h hw 68 rfl) (own_h hw 4 rfl) (by decide) (by decide)) q1064a q1064c (g := (mkF m 216 #[vI a, vI b, vI d, vI f, vI g, vI c0, vI c1, vI c2, vI c3, vI (4 : Int32), vR ar, vR x1, vR nm, vR x1] [(.int (3 : Int32)), (.ref x1)])) rfl (by rw [hml]; rfl) (Steps.refl _) (argsL := [(.int (3 : Int32))]) (rest := []) (lenOf pd__I_C rfl) rfl (by show 2 * 0 + _ ≤ _; exact Nat.le_of_eq rfl) (hb hby at_216) (fun _ _ => ⟨rfl, e1057, (by decide : 6 + 0 ≤ _), (by decide : 26 + 0 ≤ _)⟩))
          obtain ⟨rfl, N1064q, e1064⟩ := hQ1064
          have N1064 := Fr.app N1057 N1064q
          have S1065 : Go p e below s₁ (eF_law m a b d f g) T1064 (mkF m 219 #[vI a, vI b, vI d, vI f, vI g, vI c0, vI c1, vI c2, vI c3, vI (4 : Int32), vR ar, vR x1, vR nm, vR x1] [(.int (([c0, c1, c2, c3] : List Int32).getD 3 0))]) := fun t kt => S1062 t (st1064 t kt)
          clear S1062 st1064 X1057 e1057
          have q1067 : (([c0, c1, c2, c3] : List Int32).getD 3 0) = c3 := rfl
          have S1066 : Go p e below s₁ (eF_law m a b d f g) T1064 (mkF m 219 #[vI a, vI b, vI d, vI f, vI g, vI c0, vI c1, vI c2, vI c3, vI (4 : Int32), vR ar, vR x1, vR nm, vR x1] [(.int c3)]) := by have h := S1065; rw [q1067] at h; exact h
          clear S1065
          have S1068 : Go p e below s₁ (eF_law m a b d f g) T1064 (mkF m 225 #[vI a, vI b, vI d, vI f, vI g, vI c0, vI c1, vI c2, vI c3, vI (4 : Int32), vR ar, vR x1, vR nm, vR x1] [(.int ((4 : Int32) - (1 : Int32))), (.ref ar), (.int c3)]) := fun t kt => S1066 t (by
            refine XS.aload X1064.here hx rfl (hb hby at_219) rfl rfl ?_
            show Sp p e below T1064 (mkF m 221 #[vI a, vI b, vI d, vI f, vI g, vI c0, vI c1, vI c2, vI c3, vI (4 : Int32), vR ar, vR x1, vR nm, vR x1] [(.ref ar), (.int c3)]) _
            refine XS.iload X1064.here hx rfl (hb hby at_221) rfl ?_
            show Sp p e below T1064 (mkF m 223 #[vI a, vI b, vI d, vI f, vI g, vI c0, vI c1, vI c2, vI c3, vI (4 : Int32), vR ar, vR x1, vR nm, vR x1] [(.int (4 : Int32)), (.ref ar), (.int c3)]) _
            refine XS.iconst X1064.here hx rfl (hb hby at_223) ?_
            show Sp p e below T1064 (mkF m 224 #[vI a, vI b, vI d, vI f, vI g, vI c0, vI c1, vI c2, vI c3, vI (4 : Int32), vR ar, vR x1, vR nm, vR x1] [(.int (1 : Int32)), (.int (4 : Int32)), (.ref ar), (.int c3)]) _
            refine XS.isub X1064.here hx rfl (hb hby at_224) rfl ?_
            show Sp p e below T1064 (mkF m 225 #[vI a, vI b, vI d, vI f, vI g, vI c0, vI c1, vI c2, vI c3, vI (4 : Int32), vR ar, vR x1, vR nm, vR x1] [(.int ((4 : Int32) - (1 : Int32))), (.ref ar), (.int c3)]) _
            exact kt)
          clear S1066
          have q1070 : ((4 : Int32) - (1 : Int32)) = (3 : Int32) := by decide
          have S1069 : Go p e below s₁ (eF_law m a b d f g) T1064 (mkF m 225 #[vI a, vI b, vI d, vI f, vI g, vI c0, vI c1, vI c2, vI c3, vI (4 : Int32), vR ar, vR x1, vR nm, vR x1] [(.int (3 : Int32)), (.ref ar), (.int c3)]) := by have h := S1068; rw [q1070] at h; exact h
          clear S1068
          have f1071 := ((f1032.keep K1033 (ninS ne1028 nin0)).keep K1038 nin0)
          obtain ⟨co1072, Ao1072, qo1072, So1072, No1072, Ho1072, Go1072⟩ := id f1071
          have hino1072 : ¬ ((3 : Int32) < 0 ∨ co1072.slots.size ≤ ((3 : Int32)).toNatClampNeg) := inb_of So1072 ⟨by decide, by decide⟩
          have hato1072 : co1072.slots[((3 : Int32)).toNatClampNeg]? = some (.int c3) := Has.at Ho1072 hino1072 rfl
          have S1073 : Go p e below s₁ (eF_law m a b d f g) T1064 (mkF m 234 #[vI a, vI b, vI d, vI f, vI g, vI c0, vI c1, vI c2, vI c3, vI (4 : Int32), vR ar, vR x1, vR nm, vR x1] [(.int (1 : Int32))]) := fun t kt => S1069 t (by
            refine X1064.caload hx (j := (3 : Int32)) (v := (.int c3)) (by rw [e1064]; exact Ao1072.1) (State.isArrayOf_alike hZ.alike Ao1072.2.1) Ao1072.2.2 hino1072 hato1072 (g := (mkF m 225 #[vI a, vI b, vI d, vI f, vI g, vI c0, vI c1, vI c2, vI c3, vI (4 : Int32), vR ar, vR x1, vR nm, vR x1] [(.int (3 : Int32)), (.ref ar), (.int c3)])) rfl rfl (hb hby at_225) _ ?_
            show Sp p e below T1064 (mkF m 226 #[vI a, vI b, vI d, vI f, vI g, vI c0, vI c1, vI c2, vI c3, vI (4 : Int32), vR ar, vR x1, vR nm, vR x1] [(.int c3), (.int c3)]) _
            refine XS.icmpNo X1064.here hx rfl (hb hby at_226) rfl (teq (show c3 = c3 from rfl)).2 ?_
            show Sp p e below T1064 (mkF m 229 #[vI a, vI b, vI d, vI f, vI g, vI c0, vI c1, vI c2, vI c3, vI (4 : Int32), vR ar, vR x1, vR nm, vR x1] []) _
            refine XS.iconst X1064.here hx rfl (hb hby at_229) ?_
            show Sp p e below T1064 (mkF m 230 #[vI a, vI b, vI d, vI f, vI g, vI c0, vI c1, vI c2, vI c3, vI (4 : Int32), vR ar, vR x1, vR nm, vR x1] [(.int (1 : Int32))]) _
            refine XS.goto X1064.here hx rfl (pc0 := 230) (pc' := 234) rfl (hb hby at_230) (by decide) (by decide) ?_
            show Sp p e below T1064 (mkF m 234 #[vI a, vI b, vI d, vI f, vI g, vI c0, vI c1, vI c2, vI c3, vI (4 : Int32), vR ar, vR x1, vR nm, vR x1] [(.int (1 : Int32))]) _
            exact kt)
          clear S1069
          obtain ⟨fs, hr, hrun, hended, hRE⟩ := X1064.leaveW hS (n := _) (by rw [e1064]; exact (Nat.le_trans (Nat.le_trans (Nat.le_trans (Nat.le_trans (Nat.le_trans (Nat.le_trans (Nat.le_trans (Nat.le_trans hki0 E1008.1) (Keep.of_wr W1012).1) (Keep.of_wr W1016).1) (Keep.of_wr W1020).1) (Keep.of_wr W1024).1) E1027.1) K1033.1) K1038.1)) (v := some (.int (1 : Int32))) (fun h => by first | rfl | (rw [Bd.returns] at h; cases h))
          refine ⟨_, _, S1073 _ ?_, hrun, hended, _, _, rfl, ?_, hRE.1, hRE.2.1, hRE.2.2.1, hRE.2.2.2.mono (by decide) (by decide)⟩
          · exact retN X1064 hx (t := .boolean) Bd.returns (by simp) (hb hby at_234) hr
          · show Q_law Z  h0 n0 _ T1064.heap _
            rw [e1064]
            exact ⟨rfl, N1064⟩
        · have S1040 : Go p e below s₁ (eF_law m a b d f g) T1033 (mkF m 153 #[vI a, vI b, vI d, vI f, vI g, vI c0, vI c1, vI c2, vI c3, vI (4 : Int32), vR ar, vR x1, vU, vU] []) := fun t kt => S1035 t (by
            refine XS.ifNo X1033.here hx rfl (hb hby at_150) rfl ((if0 _ _).trans (feq (show ¬ ((((g.toUInt32 >>> ((2 : Int32) &&& 31).toUInt32).toInt32) &&& (1 : Int32)) = (0 : Int32)) from hg)).1) ?_
            show Sp p e below T1033 (mkF m 153 #[vI a, vI b, vI d, vI f, vI g, vI c0, vI c1, vI c2, vI c3, vI (4 : Int32), vR ar, vR x1, vU, vU] []) _
            exact kt)
          clear S1035
          obtain ⟨nm, T1041, h1041, ki1041, X1041, e1041, E1041, hS, hki1041, hZ, hown, st1041⟩ := ldcS X1033 hx hZ hown (own_h hw 85 rfl) (fun d hd => hw d (own_wS d hd)) rfl hS (Nat.le_trans (Nat.le_trans (Nat.le_trans (Nat.le_trans (Nat.le_trans (Nat.le_trans (Nat.le_trans hki0 E1008.1) (Keep.of_wr W1012).1) (Keep.of_wr W1016).1) (Keep.of_wr W1020).1) (Keep.of_wr W1024).1) E1027.1) K1033.1) (g := (mkF m 153 #[vI a, vI b, vI d, vI f, vI g, vI c0, vI c1, vI c2, vI c3, vI (4 : Int32), vR ar, vR x1, vU, vU] [])) rfl (hb hby at_153) (n := 0) (by decide +kernel) (by decide) (by decide) (by decide)
          have S1042 : Go p e below s₁ (eF_law m a b d f g) T1041 (mkF m 155 #[vI a, vI b, vI d, vI f, vI g, vI c0, vI c1, vI c2, vI c3, vI (4 : Int32), vR ar, vR x1, vU, vU] [(.ref nm)]) := fun t kt => S1040 t (st1041 t kt)
          clear S1040 st1041 X1033
          have S1074 : Go p e below s₁ (eF_law m a b d f g) T1041 (mkF m 177 #[vI a, vI b, vI d, vI f, vI g, vI c0, vI c1, vI c2, vI c3, vI (4 : Int32), vR ar, vR x1, vR nm, vU] [(.ref nm), (.ref x1)]) := fun t kt => S1042 t (by
            refine XS.astore X1041.here hx rfl (hb hby at_155) rfl rfl (l' := #[vI a, vI b, vI d, vI f, vI g, vI c0, vI c1, vI c2, vI c3, vI (4 : Int32), vR ar, vR x1, vR nm, vU]) rfl ?_
            show Sp p e below T1041 (mkF m 157 #[vI a, vI b, vI d, vI f, vI g, vI c0, vI c1, vI c2, vI c3, vI (4 : Int32), vR ar, vR x1, vR nm, vU] []) _
            refine XS.goto X1041.here hx rfl (pc0 := 157) (pc' := 173) rfl (hb hby at_157) (by decide) (by decide) ?_
            show Sp p e below T1041 (mkF m 173 #[vI a, vI b, vI d, vI f, vI g, vI c0, vI c1, vI c2, vI c3, vI (4 : Int32), vR ar, vR x1, vR nm, vU] []) _
            refine XS.aload X1041.here hx rfl (hb hby at_173) rfl rfl ?_
            show Sp p e below T1041 (mkF m 175 #[vI a, vI b, vI d, vI f, vI g, vI c0, vI c1, vI c2, vI c3, vI (4 : Int32), vR ar, vR x1, vR nm, vU] [(.ref x1)]) _
            refine XS.aload X1041.here hx rfl (hb hby at_175) rfl rfl ?_
            show Sp p e below T1041 (mkF m 177 #[vI a, vI b, vI d, vI f, vI g, vI c0, vI c1, vI c2, vI c3, vI (4 : Int32), vR ar, vR x1, vR nm, vU] [(.ref nm), (.ref x1)]) _
            exact kt)
          clear S1042
          have f1075 := ((f1031.keep K1033 (allS g_x1 all0)).ext E1041)
          have f1076 := (E1033.ext E1041)
          have f1077 := (F1033.ext E1041)
          have f1078 := (G1033.ext E1041)
          have f1079 := (V1033.ext E1041)
          obtain ⟨v1080, T1080, L1080, X1080, hQ1080, st1080⟩ := own_outS (Jvm.LawKit.callS X1041 hx (y := (⟨"com/example/upper_ward/upperward/auth/SigningChecks", "required", "(Ljava/lang/String;Ljava/lang/String;)Ljava/lang/String;"⟩ : MethodName)) hown (mvT hZ (own_h hw 45 rfl)) (mvT hZ (own_h hw 46 rfl)) (mvT hZ (own_h hw 47 rfl)) (mvT hZ (own_h hw 48 rfl)) (by decide) (backOf (W := 0) (rm_req l Z a0 hw [] x1 nm t1 kb1033 n vs cd [c0, c1, c2, c3] h1041 n0 (Nat.le_trans (Nat.le_trans (Nat.le_trans (Nat.le_trans (Nat.le_trans (Nat.le_trans (Nat.le_trans (Nat.le_trans Z0 E1008.1) (Keep.of_wr W1012).1) (Keep.of_wr W1016).1) (Keep.of_wr W1020).1) (Keep.of_wr W1024).1) E1027.1) K1033.1) E1041.1) SS f1075 f1076 f1077 f1078 f1079 hcod hb0 (Nat.le_of_ble_eq_true rfl) (by simp)) hZ (own_h hw 48 rfl) (own_h hw 47 rfl) (by decide) (by decide)) (g := (mkF m 177 #[vI a, vI b, vI d, vI f, vI g, vI c0, vI c1, vI c2, vI c3, vI (4 : Int32), vR ar, vR x1, vR nm, vU] [(.ref nm), (.ref x1)])) rfl (by rw [hml]; rfl) (argsL := [(.ref x1), (.ref nm)]) (rest := []) (lenOf pd__Ljava_lang_String_Ljava_lang_String__Ljava_lang_String_ rfl) rfl (by show 2 * 0 + _ ≤ _; exact Nat.le_of_eq rfl) (hb hby at_177) (fun _ _ => ⟨rfl, e1041, (by decide : 6 + 0 ≤ _), (by decide : 24 + 0 ≤ _)⟩))
          obtain ⟨rfl, N1080q, e1080⟩ := hQ1080
          have N1080 := Fr.app N1033 N1080q
          have S1081 : Go p e below s₁ (eF_law m a b d f g) T1080 (mkF m 180 #[vI a, vI b, vI d, vI f, vI g, vI c0, vI c1, vI c2, vI c3, vI (4 : Int32), vR ar, vR x1, vR nm, vU] [(.ref x1)]) := fun t kt => S1074 t (st1080 t kt)
          clear S1074 st1080 X1041 e1041
          have S1082 : Go p e below s₁ (eF_law m a b d f g) T1080 (mkF m 191 #[vI a, vI b, vI d, vI f, vI g, vI c0, vI c1, vI c2, vI c3, vI (4 : Int32), vR ar, vR x1, vR nm, vR x1] [(.ref x1)]) := fun t kt => S1081 t (by
            refine XS.astore X1080.here hx rfl (hb hby at_180) rfl rfl (l' := #[vI a, vI b, vI d, vI f, vI g, vI c0, vI c1, vI c2, vI c3, vI (4 : Int32), vR ar, vR x1, vR nm, vR x1]) rfl ?_
            show Sp p e below T1080 (mkF m 182 #[vI a, vI b, vI d, vI f, vI g, vI c0, vI c1, vI c2, vI c3, vI (4 : Int32), vR ar, vR x1, vR nm, vR x1] []) _
            refine XS.aload X1080.here hx rfl (hb hby at_182) rfl rfl ?_
            show Sp p e below T1080 (mkF m 184 #[vI a, vI b, vI d, vI f, vI g, vI c0, vI c1, vI c2, vI c3, vI (4 : Int32), vR ar, vR x1, vR nm, vR x1] [(.ref x1)]) _
            refine XS.aload X1080.here hx rfl (hb hby at_184) rfl rfl ?_
            show Sp p e below T1080 (mkF m 186 #[vI a, vI b, vI d, vI f, vI g, vI c0, vI c1, vI c2, vI c3, vI (4 : Int32), vR ar, vR x1, vR nm, vR x1] [(.ref x1), (.ref x1)]) _
            refine Jvm.RoadKit.acmp (g := (mkF m 186 #[vI a, vI b, vI d, vI f, vI g, vI c0, vI c1, vI c2, vI c3, vI (4 : Int32), vR ar, vR x1, vR nm, vR x1] [(.ref x1), (.ref x1)])) X1080 hx rfl rfl rfl (pc0 := 186) (pc' := 189) (same := true) rfl (hb hby at_186) rfl (decide_eq_true rfl) (by decide) (by decide) ?_
            show Sp p e below T1080 (mkF m 189 #[vI a, vI b, vI d, vI f, vI g, vI c0, vI c1, vI c2, vI c3, vI (4 : Int32), vR ar, vR x1, vR nm, vR x1] []) _
            refine XS.aload X1080.here hx rfl (hb hby at_189) rfl rfl ?_
            show Sp p e below T1080 (mkF m 191 #[vI a, vI b, vI d, vI f, vI g, vI c0, vI c1, vI c2, vI c3, vI (4 : Int32), vR ar, vR x1, vR nm, vR x1] [(.ref x1)]) _
            exact kt)
          clear S1081
          obtain ⟨cq1083, kq1083, q1083a, q1083b, q1083c⟩ := isOf hZ e1080 f1076
          obtain ⟨v1083, T1083, L1083, X1083, hQ1083, st1083⟩ := own_outV (Q := (fun v h' L => v = some (.int (Int32.ofNat ([c0, c1, c2, c3] : List Int32).length)) ∧ L = [] ∧ h' = h1041)) (X1080.virtualBack hx (y := (⟨"java/lang/String", "length", "()I"⟩ : MethodName)) (z := (⟨"java/lang/String", "length", "()I"⟩ : MethodName)) hown (mvT hZ (own_h hw 54 rfl)) (mvT hZ (own_h hw 55 rfl)) (notFace_of_selects (args := #[]) (mvT hZ (own_h hw 57 rfl))) (mvT hZ (own_h hw 57 rfl)) (mvT hZ (own_h hw 56 rfl)) (by decide) (StrChars.Road.lenW (W := 0) hZ hln (kI := 4) (own_h hw 3 rfl) f1076 f1078 f1077 f1079 hcod hb0 (S_cs.ext f1075.2) hcz (Nat.le_of_ble_eq_true rfl) (by decide) (by decide)) q1083a q1083c (g := (mkF m 191 #[vI a, vI b, vI d, vI f, vI g, vI c0, vI c1, vI c2, vI c3, vI (4 : Int32), vR ar, vR x1, vR nm, vR x1] [(.ref x1)])) rfl (by rw [hml]; rfl) (Steps.refl _) (argsL := []) (rest := []) (lenOf pd___I rfl) rfl (by show 2 * 0 + _ ≤ _; exact Nat.le_of_eq rfl) (hb hby at_191) (fun _ _ => ⟨rfl, e1080, (by decide : 6 + 0 ≤ _), (by decide : 24 + 0 ≤ _)⟩))
          obtain ⟨rfl, rfl, e1083⟩ := hQ1083
          have N1083 := Fr.app N1080 (Fr.nil n0)
          have S1084 : Go p e below s₁ (eF_law m a b d f g) T1083 (mkF m 194 #[vI a, vI b, vI d, vI f, vI g, vI c0, vI c1, vI c2, vI c3, vI (4 : Int32), vR ar, vR x1, vR nm, vR x1] [(.int (Int32.ofNat ([c0, c1, c2, c3] : List Int32).length))]) := fun t kt => S1082 t (st1083 t kt)
          clear S1082 st1083 X1080 e1080
          have q1086 : (Int32.ofNat ([c0, c1, c2, c3] : List Int32).length) = (4 : Int32) := rfl
          have S1085 : Go p e below s₁ (eF_law m a b d f g) T1083 (mkF m 194 #[vI a, vI b, vI d, vI f, vI g, vI c0, vI c1, vI c2, vI c3, vI (4 : Int32), vR ar, vR x1, vR nm, vR x1] [(.int (4 : Int32))]) := by have h := S1084; rw [q1086] at h; exact h
          clear S1084
          have S1087 : Go p e below s₁ (eF_law m a b d f g) T1083 (mkF m 202 #[vI a, vI b, vI d, vI f, vI g, vI c0, vI c1, vI c2, vI c3, vI (4 : Int32), vR ar, vR x1, vR nm, vR x1] [(.int (0 : Int32)), (.ref x1)]) := fun t kt => S1085 t (by
            refine XS.iload X1083.here hx rfl (hb hby at_194) rfl ?_
            show Sp p e below T1083 (mkF m 196 #[vI a, vI b, vI d, vI f, vI g, vI c0, vI c1, vI c2, vI c3, vI (4 : Int32), vR ar, vR x1, vR nm, vR x1] [(.int (4 : Int32)), (.int (4 : Int32))]) _
            refine XS.icmpNo X1083.here hx rfl (hb hby at_196) rfl (teq (show (4 : Int32) = (4 : Int32) from (by decide))).2 ?_
            show Sp p e below T1083 (mkF m 199 #[vI a, vI b, vI d, vI f, vI g, vI c0, vI c1, vI c2, vI c3, vI (4 : Int32), vR ar, vR x1, vR nm, vR x1] []) _
            refine XS.aload X1083.here hx rfl (hb hby at_199) rfl rfl ?_
            show Sp p e below T1083 (mkF m 201 #[vI a, vI b, vI d, vI f, vI g, vI c0, vI c1, vI c2, vI c3, vI (4 : Int32), vR ar, vR x1, vR nm, vR x1] [(.ref x1)]) _
            refine XS.iconst X1083.here hx rfl (hb hby at_201) ?_
            show Sp p e below T1083 (mkF m 202 #[vI a, vI b, vI d, vI f, vI g, vI c0, vI c1, vI c2, vI c3, vI (4 : Int32), vR ar, vR x1, vR nm, vR x1] [(.int (0 : Int32)), (.ref x1)]) _
            exact kt)
          clear S1085
          obtain ⟨cq1088, kq1088, q1088a, q1088b, q1088c⟩ := isOf hZ e1083 f1076
          obtain ⟨v1088, T1088, L1088, X1088, hQ1088, st1088⟩ := own_outV (X1083.virtualBack hx (y := (⟨"java/lang/String", "charAt", "(I)C"⟩ : MethodName)) (z := (⟨"java/lang/String", "charAt", "(I)C"⟩ : MethodName)) hown (mvT hZ (own_h hw 64 rfl)) (mvT hZ (own_h hw 65 rfl)) (notFace_of_selects (args := #[]) (mvT hZ (own_h hw 67 rfl))) (mvT hZ (own_h hw 67 rfl)) (mvT hZ (own_h hw 66 rfl)) (by decide) (backOf (W := 0) (rm_cha l Z a0 hw [] x1 (0 : Int32) t1 kb1033 n vs cd [c0, c1, c2, c3] 0 h1041 n0 (Nat.le_trans (Nat.le_trans (Nat.le_trans (Nat.le_trans (Nat.le_trans (Nat.le_trans (Nat.le_trans (Nat.le_trans Z0 E1008.1) (Keep.of_wr W1012).1) (Keep.of_wr W1016).1) (Keep.of_wr W1020).1) (Keep.of_wr W1024).1) E1027.1) K1033.1) E1041.1) SS f1075 f1076 f1077 f1078 f1079 hcod hb0 (Nat.le_of_ble_eq_true rfl) (Nat.le_of_ble_eq_true rfl) (by decide)) hZ (own_h hw 68 rfl) (own_h hw 4 rfl) (by decide) (by decide)) q1088a q1088c (g := (mkF m 202 #[vI a, vI b, vI d, vI f, vI g, vI c0, vI c1, vI c2, vI c3, vI (4 : Int32), vR ar, vR x1, vR nm, vR x1] [(.int (0 : Int32)), (.ref x1)])) rfl (by rw [hml]; rfl) (Steps.refl _) (argsL := [(.int (0 : Int32))]) (rest := []) (lenOf pd__I_C rfl) rfl (by show 2 * 0 + _ ≤ _; exact Nat.le_of_eq rfl) (hb hby at_202) (fun _ _ => ⟨rfl, e1083, (by decide : 6 + 0 ≤ _), (by decide : 24 + 0 ≤ _)⟩))
          obtain ⟨rfl, N1088q, e1088⟩ := hQ1088
          have N1088 := Fr.app N1083 N1088q
          have S1089 : Go p e below s₁ (eF_law m a b d f g) T1088 (mkF m 205 #[vI a, vI b, vI d, vI f, vI g, vI c0, vI c1, vI c2, vI c3, vI (4 : Int32), vR ar, vR x1, vR nm, vR x1] [(.int (([c0, c1, c2, c3] : List Int32).getD 0 0))]) := fun t kt => S1087 t (st1088 t kt)
          clear S1087 st1088 X1083 e1083
          have q1091 : (([c0, c1, c2, c3] : List Int32).getD 0 0) = c0 := rfl
          have S1090 : Go p e below s₁ (eF_law m a b d f g) T1088 (mkF m 205 #[vI a, vI b, vI d, vI f, vI g, vI c0, vI c1, vI c2, vI c3, vI (4 : Int32), vR ar, vR x1, vR nm, vR x1] [(.int c0)]) := by have h := S1089; rw [q1091] at h; exact h
          clear S1089
          have S1092 : Go p e below s₁ (eF_law m a b d f g) T1088 (mkF m 216 #[vI a, vI b, vI d, vI f, vI g, vI c0, vI c1, vI c2, vI c3, vI (4 : Int32), vR ar, vR x1, vR nm, vR x1] [(.int ((4 : Int32) - (1 : Int32))), (.ref x1)]) := fun t kt => S1090 t (by
            refine XS.iload X1088.here hx rfl (hb hby at_205) rfl ?_
            show Sp p e below T1088 (mkF m 207 #[vI a, vI b, vI d, vI f, vI g, vI c0, vI c1, vI c2, vI c3, vI (4 : Int32), vR ar, vR x1, vR nm, vR x1] [(.int c0), (.int c0)]) _
            refine XS.icmpNo X1088.here hx rfl (hb hby at_207) rfl (teq (show c0 = c0 from rfl)).2 ?_
            show Sp p e below T1088 (mkF m 210 #[vI a, vI b, vI d, vI f, vI g, vI c0, vI c1, vI c2, vI c3, vI (4 : Int32), vR ar, vR x1, vR nm, vR x1] []) _
            refine XS.aload X1088.here hx rfl (hb hby at_210) rfl rfl ?_
            show Sp p e below T1088 (mkF m 212 #[vI a, vI b, vI d, vI f, vI g, vI c0, vI c1, vI c2, vI c3, vI (4 : Int32), vR ar, vR x1, vR nm, vR x1] [(.ref x1)]) _
            refine XS.iload X1088.here hx rfl (hb hby at_212) rfl ?_
            show Sp p e below T1088 (mkF m 214 #[vI a, vI b, vI d, vI f, vI g, vI c0, vI c1, vI c2, vI c3, vI (4 : Int32), vR ar, vR x1, vR nm, vR x1] [(.int (4 : Int32)), (.ref x1)]) _
            refine XS.iconst X1088.here hx rfl (hb hby at_214) ?_
            show Sp p e below T1088 (mkF m 215 #[vI a, vI b, vI d, vI f, vI g, vI c0, vI c1, vI c2, vI c3, vI (4 : Int32), vR ar, vR x1, vR nm, vR x1] [(.int (1 : Int32)), (.int (4 : Int32)), (.ref x1)]) _
            refine XS.isub X1088.here hx rfl (hb hby at_215) rfl ?_
            show Sp p e below T1088 (mkF m 216 #[vI a, vI b, vI d, vI f, vI g, vI c0, vI c1, vI c2, vI c3, vI (4 : Int32), vR ar, vR x1, vR nm, vR x1] [(.int ((4 : Int32) - (1 : Int32))), (.ref x1)]) _
            exact kt)
          clear S1090
          have q1094 : ((4 : Int32) - (1 : Int32)) = (3 : Int32) := by decide
          have S1093 : Go p e below s₁ (eF_law m a b d f g) T1088 (mkF m 216 #[vI a, vI b, vI d, vI f, vI g, vI c0, vI c1, vI c2, vI c3, vI (4 : Int32), vR ar, vR x1, vR nm, vR x1] [(.int (3 : Int32)), (.ref x1)]) := by have h := S1092; rw [q1094] at h; exact h
          clear S1092
          obtain ⟨cq1095, kq1095, q1095a, q1095b, q1095c⟩ := isOf hZ e1088 f1076
          obtain ⟨v1095, T1095, L1095, X1095, hQ1095, st1095⟩ := own_outV (X1088.virtualBack hx (y := (⟨"java/lang/String", "charAt", "(I)C"⟩ : MethodName)) (z := (⟨"java/lang/String", "charAt", "(I)C"⟩ : MethodName)) hown (mvT hZ (own_h hw 64 rfl)) (mvT hZ (own_h hw 65 rfl)) (notFace_of_selects (args := #[]) (mvT hZ (own_h hw 67 rfl))) (mvT hZ (own_h hw 67 rfl)) (mvT hZ (own_h hw 66 rfl)) (by decide) (backOf (W := 0) (rm_cha l Z a0 hw [] x1 (3 : Int32) t1 kb1033 n vs cd [c0, c1, c2, c3] 3 h1041 n0 (Nat.le_trans (Nat.le_trans (Nat.le_trans (Nat.le_trans (Nat.le_trans (Nat.le_trans (Nat.le_trans (Nat.le_trans Z0 E1008.1) (Keep.of_wr W1012).1) (Keep.of_wr W1016).1) (Keep.of_wr W1020).1) (Keep.of_wr W1024).1) E1027.1) K1033.1) E1041.1) SS f1075 f1076 f1077 f1078 f1079 hcod hb0 (Nat.le_of_ble_eq_true rfl) (Nat.le_of_ble_eq_true rfl) (by decide)) hZ (own_h hw 68 rfl) (own_h hw 4 rfl) (by decide) (by decide)) q1095a q1095c (g := (mkF m 216 #[vI a, vI b, vI d, vI f, vI g, vI c0, vI c1, vI c2, vI c3, vI (4 : Int32), vR ar, vR x1, vR nm, vR x1] [(.int (3 : Int32)), (.ref x1)])) rfl (by rw [hml]; rfl) (Steps.refl _) (argsL := [(.int (3 : Int32))]) (rest := []) (lenOf pd__I_C rfl) rfl (by show 2 * 0 + _ ≤ _; exact Nat.le_of_eq rfl) (hb hby at_216) (fun _ _ => ⟨rfl, e1088, (by decide : 6 + 0 ≤ _), (by decide : 24 + 0 ≤ _)⟩))
          obtain ⟨rfl, N1095q, e1095⟩ := hQ1095
          have N1095 := Fr.app N1088 N1095q
          have S1096 : Go p e below s₁ (eF_law m a b d f g) T1095 (mkF m 219 #[vI a, vI b, vI d, vI f, vI g, vI c0, vI c1, vI c2, vI c3, vI (4 : Int32), vR ar, vR x1, vR nm, vR x1] [(.int (([c0, c1, c2, c3] : List Int32).getD 3 0))]) := fun t kt => S1093 t (st1095 t kt)
          clear S1093 st1095 X1088 e1088
          have q1098 : (([c0, c1, c2, c3] : List Int32).getD 3 0) = c3 := rfl
          have S1097 : Go p e below s₁ (eF_law m a b d f g) T1095 (mkF m 219 #[vI a, vI b, vI d, vI f, vI g, vI c0, vI c1, vI c2, vI c3, vI (4 : Int32), vR ar, vR x1, vR nm, vR x1] [(.int c3)]) := by have h := S1096; rw [q1098] at h; exact h
          clear S1096
          have S1099 : Go p e below s₁ (eF_law m a b d f g) T1095 (mkF m 225 #[vI a, vI b, vI d, vI f, vI g, vI c0, vI c1, vI c2, vI c3, vI (4 : Int32), vR ar, vR x1, vR nm, vR x1] [(.int ((4 : Int32) - (1 : Int32))), (.ref ar), (.int c3)]) := fun t kt => S1097 t (by
            refine XS.aload X1095.here hx rfl (hb hby at_219) rfl rfl ?_
            show Sp p e below T1095 (mkF m 221 #[vI a, vI b, vI d, vI f, vI g, vI c0, vI c1, vI c2, vI c3, vI (4 : Int32), vR ar, vR x1, vR nm, vR x1] [(.ref ar), (.int c3)]) _
            refine XS.iload X1095.here hx rfl (hb hby at_221) rfl ?_
            show Sp p e below T1095 (mkF m 223 #[vI a, vI b, vI d, vI f, vI g, vI c0, vI c1, vI c2, vI c3, vI (4 : Int32), vR ar, vR x1, vR nm, vR x1] [(.int (4 : Int32)), (.ref ar), (.int c3)]) _
            refine XS.iconst X1095.here hx rfl (hb hby at_223) ?_
            show Sp p e below T1095 (mkF m 224 #[vI a, vI b, vI d, vI f, vI g, vI c0, vI c1, vI c2, vI c3, vI (4 : Int32), vR ar, vR x1, vR nm, vR x1] [(.int (1 : Int32)), (.int (4 : Int32)), (.ref ar), (.int c3)]) _
            refine XS.isub X1095.here hx rfl (hb hby at_224) rfl ?_
            show Sp p e below T1095 (mkF m 225 #[vI a, vI b, vI d, vI f, vI g, vI c0, vI c1, vI c2, vI c3, vI (4 : Int32), vR ar, vR x1, vR nm, vR x1] [(.int ((4 : Int32) - (1 : Int32))), (.ref ar), (.int c3)]) _
            exact kt)
          clear S1097
          have q1101 : ((4 : Int32) - (1 : Int32)) = (3 : Int32) := by decide
          have S1100 : Go p e below s₁ (eF_law m a b d f g) T1095 (mkF m 225 #[vI a, vI b, vI d, vI f, vI g, vI c0, vI c1, vI c2, vI c3, vI (4 : Int32), vR ar, vR x1, vR nm, vR x1] [(.int (3 : Int32)), (.ref ar), (.int c3)]) := by have h := S1099; rw [q1101] at h; exact h
          clear S1099
          have f1102 := ((f1032.keep K1033 (ninS ne1028 nin0)).ext E1041)
          obtain ⟨co1103, Ao1103, qo1103, So1103, No1103, Ho1103, Go1103⟩ := id f1102
          have hino1103 : ¬ ((3 : Int32) < 0 ∨ co1103.slots.size ≤ ((3 : Int32)).toNatClampNeg) := inb_of So1103 ⟨by decide, by decide⟩
          have hato1103 : co1103.slots[((3 : Int32)).toNatClampNeg]? = some (.int c3) := Has.at Ho1103 hino1103 rfl
          have S1104 : Go p e below s₁ (eF_law m a b d f g) T1095 (mkF m 234 #[vI a, vI b, vI d, vI f, vI g, vI c0, vI c1, vI c2, vI c3, vI (4 : Int32), vR ar, vR x1, vR nm, vR x1] [(.int (1 : Int32))]) := fun t kt => S1100 t (by
            refine X1095.caload hx (j := (3 : Int32)) (v := (.int c3)) (by rw [e1095]; exact Ao1103.1) (State.isArrayOf_alike hZ.alike Ao1103.2.1) Ao1103.2.2 hino1103 hato1103 (g := (mkF m 225 #[vI a, vI b, vI d, vI f, vI g, vI c0, vI c1, vI c2, vI c3, vI (4 : Int32), vR ar, vR x1, vR nm, vR x1] [(.int (3 : Int32)), (.ref ar), (.int c3)])) rfl rfl (hb hby at_225) _ ?_
            show Sp p e below T1095 (mkF m 226 #[vI a, vI b, vI d, vI f, vI g, vI c0, vI c1, vI c2, vI c3, vI (4 : Int32), vR ar, vR x1, vR nm, vR x1] [(.int c3), (.int c3)]) _
            refine XS.icmpNo X1095.here hx rfl (hb hby at_226) rfl (teq (show c3 = c3 from rfl)).2 ?_
            show Sp p e below T1095 (mkF m 229 #[vI a, vI b, vI d, vI f, vI g, vI c0, vI c1, vI c2, vI c3, vI (4 : Int32), vR ar, vR x1, vR nm, vR x1] []) _
            refine XS.iconst X1095.here hx rfl (hb hby at_229) ?_
            show Sp p e below T1095 (mkF m 230 #[vI a, vI b, vI d, vI f, vI g, vI c0, vI c1, vI c2, vI c3, vI (4 : Int32), vR ar, vR x1, vR nm, vR x1] [(.int (1 : Int32))]) _
            refine XS.goto X1095.here hx rfl (pc0 := 230) (pc' := 234) rfl (hb hby at_230) (by decide) (by decide) ?_
            show Sp p e below T1095 (mkF m 234 #[vI a, vI b, vI d, vI f, vI g, vI c0, vI c1, vI c2, vI c3, vI (4 : Int32), vR ar, vR x1, vR nm, vR x1] [(.int (1 : Int32))]) _
            exact kt)
          clear S1100
          obtain ⟨fs, hr, hrun, hended, hRE⟩ := X1095.leaveW hS (n := _) (by rw [e1095]; exact hki1041) (v := some (.int (1 : Int32))) (fun h => by first | rfl | (rw [Bd.returns] at h; cases h))
          refine ⟨_, _, S1104 _ ?_, hrun, hended, _, _, rfl, ?_, hRE.1, hRE.2.1, hRE.2.2.1, hRE.2.2.2.mono (by decide) (by decide)⟩
          · exact retN X1095 hx (t := .boolean) Bd.returns (by simp) (hb hby at_234) hr
          · show Q_law Z  h0 n0 _ T1095.heap _
            rw [e1095]
            exact ⟨rfl, N1095⟩
set_option maxRecDepth 65536 in
set_option maxHeartbeats 40000000 in
theorem comes_1 {Post : Tables → Env → Array Value → State → Outcome → State → Prop} (hpost : ∀ tb e args s v u, (limb_1_1.after args s (.returned v) u = true ∧ limb_1_2.after args s (.returned v) u = true ∧ True) → ReturnedEndW s (.returned v) u (Jvm.fieldLocs frame_1_writes args s ++ Jvm.arrayLocs frame_1_arrays args s ++ Jvm.staticLocs frame_1_statics s) 24 1152 → Post tb e args s (.returned v) u) :
    ArmFor flags0 classFile x code maxLocals ret World_1 tables_1 room_1 Calls_1 rest_1 Pre_1 Post := by
  intro l hfl _ _ p e ha hc hk s m args below hf hA hF happ hP
  obtain ⟨hcalls, hrest, hpre⟩ := hP
  obtain ⟨-, -, -, hnamed, -, -, -, hat⟩ := (Spec.applies_iff hf).mp happ
  obtain ⟨hg, hn⟩ := and_e (Cond.before_iff.mp (show (Jvm.Cond.and given_1 narrow_1).before args s = true from hpre))
  obtain ⟨hcount, r0⟩ := and_e hg
  obtain ⟨v0, r1⟩ := and_e r0
  obtain ⟨v1, r2⟩ := and_e r1
  obtain ⟨v2, r3⟩ := and_e r2
  obtain ⟨v3, r4⟩ := and_e r3
  obtain ⟨w0, w1, w2, w3, w4, rfl⟩ : ∃ w0 w1 w2 w3 w4 : Value, args = #[w0, w1, w2, w3, w4] := by
    have hs : args.size = 5 := by simpa [Cond.value, given_1] using hcount
    obtain ⟨L⟩ := args
    match L, hs with
    | [w0, w1, w2, w3, w4], _ => exact ⟨w0, w1, w2, w3, w4, rfl⟩
  have hw := fun d (hd : d ∈ tables_1) => atoms_spec (ws := Jvm.Cond.code x code maxLocals ret :: tables_1) hat d (List.mem_cons_of_mem _ hd)
  have hfit : Fit s := fun {y c} hc i hi => by
    obtain ⟨ha, rfl⟩ := Array.getElem?_eq_some_iff.mp hc
    have q := List.all_eq_true.mp ((Array.all_eq_true_iff_forall_mem.mp hF) _ (Array.getElem_mem ha)) i (List.mem_range.mpr hi)
    simpa [Array.getElem?_eq_getElem hi] using q
  obtain ⟨hsets, hown0⟩ := atoms_of _ (rest_1_c_eq ▸ (show rest_1_c.before _ s = true from hrest))
  have hr0 := Cond.before_iff.mp hown0
  obtain ⟨i0, ei0⟩ := is_v v0
  obtain rfl : w0 = (.int i0) := Option.some.inj ei0
  obtain ⟨i1, ei1⟩ := is_v v1
  obtain rfl : w1 = (.int i1) := Option.some.inj ei1
  obtain ⟨i2, ei2⟩ := is_v v2
  obtain rfl : w2 = (.int i2) := Option.some.inj ei2
  obtain ⟨i3, ei3⟩ := is_v v3
  obtain rfl : w3 = (.int i3) := Option.some.inj ei3
  obtain ⟨i4, ei4⟩ := is_v r4
  obtain rfl : w4 = (.int i4) := Option.some.inj ei4
  obtain ⟨n, o, h1, h2, h3, _, L, rfl, ⟨rfl, N⟩, hq⟩ := rm_law l s _ hw tables_1 i0 i1 i2 i3 i4 s.heap s.heap.size (Nat.le_refl _) (own_ss hsets) (Old.start s) p e ha hc hk s m _ below hf ((Spec.applies_iff_loose hf).mp happ).1 ⟨rfl, State.Warmed39.refl s, rfl⟩ trivial
  refine ⟨n, _, h1, h2, h3, hpost _ _ _ _ _ _ ⟨Cond.after_iff.mpr rfl, Cond.after_iff.mpr (eq_i res_at (Term.int_eval (1)) rfl), trivial⟩ ⟨hq.1, hq.2.1, hq.2.2.1, (hq.2.2.2.sift fun y hy => Or.inr (N y hy)).mono (by decide) (by decide)⟩⟩
theorem main_1_1 : Claimed_1_1 := comes_1 fun _ _ _ _ _ _ h hF => ⟨h.1, hF⟩
theorem main_1_2 : Claimed_1_2 := comes_1 fun _ _ _ _ _ _ h hF => ⟨h.2.1, hF⟩
end Jvm.Pilot.@@N@@
namespace Jvm.Pilot.@@N@@
open Jvm Jvm.ClassFile Sem Op Lib Jvm.Free Jvm.Stand Jvm.Pilot.@@N@@.Jvm.D
/-! MADE BY PROGRAM (witnessworld.py) out of the Statement's table words and the real class files: 20 classes; the members and pool entries that the words name. The judged class is class 1, her method 1. -/
namespace start1
open Jvm.ClassFile
def u (s : String) : CpInfo := .utf8 (stringToUtf16 s)
/-- a pool by its gaps: so many unusable entries, then the entry; so many at the end -/
def gap : Nat → List CpInfo → List CpInfo
  | 0, r => r
  | n + 1, r => .unusable :: gap n r
def poolList (es : List (Nat × CpInfo)) (last : Nat) : List CpInfo := es.foldr (fun e r => gap e.1 (e.2 :: r)) (gap last [])
def pool (es : List (Nat × CpInfo)) (last : Nat) : Array CpInfo := ⟨poolList es last⟩
def fileOf (pool : Array CpInfo) (this : Nat) (attrs : Array Attribute := #[]) (ms : Array MethodInfo := #[]) (fl : Nat := 33) (sup : Nat := 0) (ifs : Array Nat := #[]) (fds : Array FieldInfo := #[]) : ClassFile where
  minorVersion := 0
  majorVersion := 65
  constantPool := pool
  accessFlags := fl
  thisClass := this
  superClass := sup
  interfaces := ifs
  fields := fds
  methods := ms
  attributes := attrs
def plain (name : String) (sup : Option ClassId) : Class where
  name := name
  kind := .ordinary
  loader := none
  accessFlags := 33
  super := sup
  interfaces := #[]
  cf := none
  fields := #[]
  methods := #[]
  instanceTypes := #[]
  staticTypes := #[]
  resolved := #[]
  callSites := []
  init := .initialized
  statics := none
  mirror := none

def pool0 : Array CpInfo := pool [(5, u "<init>"), (0, u "()V"), (1, .class_ 10), (1, u "java/lang/Object")] 113

def k0c0 : Code := { maxStack := 0, maxLocals := 1, code := object_method_1_code, exceptionTable := #[], attributes := #[] }
def k0m0 : Method := { name := "<init>", desc := "()V", sig := { parameters := [], returnType := none }, accessFlags := 1, code := some k0c0 }
/-- java/lang/Object -/
def k0 : Class := { plain "java/lang/Object" none with
  accessFlags := 33
  interfaces := #[]
  cf := some (fileOf pool0 8 #[] #[{ accessFlags := 1, nameIndex := 5, descriptorIndex := 6, attributes := #[] }] 33 0 #[] #[])
  fields := #[]
  methods := #[k0m0]
  instanceTypes := #[]
  staticTypes := #[]
  resolved := Array.replicate 124 none
  statics := none }

def pool1 : Array CpInfo := pool [(2, .class_ 4), (1, u "java/lang/Object"), (0, u "<init>"), (0, u "()V"), (0, .integer 65535), (0, .class_ 9), (0, u "java/lang/String"), (0, .methodref 8 11), (0, .nameAndType 5 12), (0, u "([C)V"), (0, .string 14), (0, u ""), (0, .methodref 8 16), (0, .nameAndType 17 18), (0, u "valueOf"), (0, u "(C)Ljava/lang/String;"), (0, .methodref 20 21), (0, .class_ 22), (0, .nameAndType 23 24), (0, u "com/example/upper_ward/upperward/auth/SigningChecks"), (0, u "required"), (0, u "(Ljava/lang/String;Ljava/lang/String;)Ljava/lang/String;"), (0, .methodref 8 26), (0, .nameAndType 27 28), (0, u "length"), (0, u "()I"), (0, .methodref 8 30), (0, .nameAndType 31 32), (0, u "charAt"), (0, u "(I)C"), (0, .class_ 34), (0, u "com/example/upper_ward/upperward/auth/SigningChecksRequiredPinLaw"), (2, u "law"), (0, u "(IIIII)Z")] 8

def k1m0 : Method := { name := "<init>", desc := "()V", sig := { parameters := [], returnType := none }, accessFlags := 1, code := none }
def k1c1 : Code := { maxStack := 4, maxLocals := 14, code := code, exceptionTable := #[], attributes := #[] }
def k1m1 : Method := { name := "law", desc := "(IIIII)Z", sig := { parameters := [.int, .int, .int, .int, .int], returnType := some .boolean }, accessFlags := 9, code := some k1c1 }
/-- com/example/upper_ward/upperward/auth/SigningChecksRequiredPinLaw -/
def k1 : Class := { plain "com/example/upper_ward/upperward/auth/SigningChecksRequiredPinLaw" (some 0) with
  accessFlags := 49
  interfaces := #[]
  cf := some (fileOf pool1 33 #[] #[{ accessFlags := 1, nameIndex := 5, descriptorIndex := 6, attributes := #[] }, { accessFlags := 9, nameIndex := 37, descriptorIndex := 38, attributes := #[] }] 49 2 #[] #[])
  fields := #[]
  methods := #[k1m0, k1m1]
  instanceTypes := #[]
  staticTypes := #[]
  resolved := Array.replicate 47 none
  statics := none }

def pool2 : Array CpInfo := pool [(1, .class_ 2), (0, u "java/io/Serializable"), (0, .class_ 4), (0, u "java/lang/Object")] 2

/-- java/io/Serializable -/
def k2 : Class := { plain "java/io/Serializable" (some 0) with
  accessFlags := 1537
  interfaces := #[]
  cf := some (fileOf pool2 1 #[] #[] 1537 3 #[] #[])
  fields := #[]
  methods := #[]
  instanceTypes := #[]
  staticTypes := #[]
  resolved := Array.replicate 7 none
  statics := none }

def pool3 : Array CpInfo := pool [(1, .class_ 2), (0, u "java/lang/Comparable"), (0, .class_ 4), (0, u "java/lang/Object")] 7

/-- java/lang/Comparable -/
def k3 : Class := { plain "java/lang/Comparable" (some 0) with
  accessFlags := 1537
  interfaces := #[]
  cf := some (fileOf pool3 1 #[] #[] 1537 3 #[] #[])
  fields := #[]
  methods := #[]
  instanceTypes := #[]
  staticTypes := #[]
  resolved := Array.replicate 12 none
  statics := none }

def pool4 : Array CpInfo := pool [(2, .class_ 4), (1, u "java/lang/CharSequence"), (42, .class_ 48), (0, u "java/lang/CharSequence$1CodePointIterator"), (10, .class_ 60), (0, u "java/lang/CharSequence$1CharIterator"), (5, .class_ 67), (0, u "java/lang/Object")] 63

/-- java/lang/CharSequence -/
def k4 : Class := { plain "java/lang/CharSequence" (some 0) with
  accessFlags := 1537
  interfaces := #[]
  cf := some (fileOf pool4 2 #[.nestMembers #[47, 59]] #[] 1537 66 #[] #[])
  fields := #[]
  methods := #[]
  instanceTypes := #[]
  staticTypes := #[]
  resolved := Array.replicate 131 none
  statics := none }

def pool5 : Array CpInfo := pool [(1, .class_ 2), (0, u "java/lang/constant/Constable"), (0, .class_ 4), (0, u "java/lang/Object")] 6

/-- java/lang/constant/Constable -/
def k5 : Class := { plain "java/lang/constant/Constable" (some 0) with
  accessFlags := 1537
  interfaces := #[]
  cf := some (fileOf pool5 1 #[] #[] 1537 3 #[] #[])
  fields := #[]
  methods := #[]
  instanceTypes := #[]
  staticTypes := #[]
  resolved := Array.replicate 11 none
  statics := none }

def pool6 : Array CpInfo := pool [(1, .class_ 2), (0, u "java/lang/constant/ConstantDesc"), (0, .class_ 4), (0, u "java/lang/Object")] 32

/-- java/lang/constant/ConstantDesc -/
def k6 : Class := { plain "java/lang/constant/ConstantDesc" (some 0) with
  accessFlags := 1537
  interfaces := #[]
  cf := some (fileOf pool6 1 #[] #[] 1537 3 #[] #[])
  fields := #[]
  methods := #[]
  instanceTypes := #[]
  staticTypes := #[]
  resolved := Array.replicate 37 none
  statics := none }

def pool7 : Array CpInfo := pool [(1, .methodref 2 3), (0, .class_ 4), (0, .nameAndType 5 6), (0, u "java/lang/Object"), (0, u "<init>"), (0, u "()V"), (2, .fieldref 10 11), (0, .class_ 12), (0, .nameAndType 13 14), (0, u "java/lang/String"), (0, u "value"), (0, u "[B"), (0, .fieldref 10 16), (0, .nameAndType 17 18), (0, u "coder"), (0, u "B"), (2, u "hash"), (0, u "I"), (2, u "hashIsZero"), (0, u "Z"), (0, .methodref 10 28), (0, .nameAndType 5 29), (0, u "([CIILjava/lang/Void;)V"), (8, .fieldref 10 39), (0, .nameAndType 40 26), (0, u "COMPACT_STRINGS"), (1, .class_ 44), (1, u "java/lang/StringUTF16"), (0, u "compress"), (1, .methodref 42 48), (0, .nameAndType 49 50), (0, u "coderFromArrayLen"), (0, u "([BI)B"), (2, u "toBytes"), (53, .class_ 109), (1, u "java/lang/StringLatin1"), (32, u "()Z"), (34, .methodref 42 178), (0, .nameAndType 45 179), (0, u "([CII)[B"), (29, .methodref 10 210), (0, .nameAndType 5 211), (0, u "([BB)V"), (122, u "()I"), (0, .methodref 10 336), (0, .nameAndType 17 337), (0, u "()B"), (25, u "([BI)C"), (5, u "(C)Z"), (21, u "(II)V"), (35, u "(I)C"), (64, .methodref 10 493), (0, .nameAndType 494 142), (0, u "isLatin1"), (0, .methodref 107 496), (0, .nameAndType 497 363), (0, u "charAt"), (0, .methodref 42 496), (2, u "checkIndex"), (5, u "length"), (67, .class_ 576), (0, u "java/lang/CharSequence"), (22, u "CASE_INSENSITIVE_ORDER"), (0, u "Ljava/util/Comparator;"), (91, u "isEmpty"), (89, u "valueOf"), (0, u "(C)Ljava/lang/String;"), (226, u "([C)V"), (4, .methodref 107 1016), (0, .nameAndType 1017 369), (0, u "canEncode"), (0, .methodref 107 1019), (0, .nameAndType 53 1020), (0, u "(C)[B"), (0, .methodref 42 1019), (31, .fieldref 1054 1055), (0, .class_ 1056), (0, .nameAndType 1057 1058), (0, u "jdk/internal/util/Preconditions"), (0, u "SIOOBE_FORMATTER"), (0, u "Ljava/util/function/BiFunction;"), (0, .methodref 1054 1060), (0, .nameAndType 501 1061), (0, u "(IILjava/util/function/BiFunction;)I"), (39, u "serialPersistentFields"), (0, u "[Ljava/io/ObjectStreamField;"), (0, .class_ 1104), (0, u "java/lang/String$CaseInsensitiveComparator"), (1, .class_ 1107), (0, u "java/io/Serializable"), (0, .class_ 1109), (0, u "java/lang/Comparable"), (0, .class_ 1111), (0, u "java/lang/constant/Constable"), (0, .class_ 1113), (0, u "java/lang/constant/ConstantDesc"), (2, u "serialVersionUID"), (0, u "J"), (3, u "REPL"), (0, u "C"), (2, u "LATIN1"), (1, u "UTF16")] 323

def k7m0 : Method := { name := "<init>", desc := "()V", sig := { parameters := [], returnType := none }, accessFlags := 1, code := none }
def k7c1 : Code := { maxStack := 5, maxLocals := 2, code := jdk_42_method_3_code, exceptionTable := #[], attributes := #[] }
def k7m1 : Method := { name := "<init>", desc := "([C)V", sig := { parameters := [(.array .char)], returnType := none }, accessFlags := 1, code := some k7c1 }
def k7c2 : Code := { maxStack := 2, maxLocals := 1, code := jdk_42_method_54_code, exceptionTable := #[], attributes := #[] }
def k7m2 : Method := { name := "length", desc := "()I", sig := { parameters := [], returnType := some .int }, accessFlags := 1, code := some k7c2 }
def k7c3 : Code := { maxStack := 1, maxLocals := 1, code := jdk_42_method_55_code, exceptionTable := #[], attributes := #[] }
def k7m3 : Method := { name := "isEmpty", desc := "()Z", sig := { parameters := [], returnType := some .boolean }, accessFlags := 1, code := some k7c3 }
def k7c4 : Code := { maxStack := 2, maxLocals := 2, code := jdk_42_method_56_code, exceptionTable := #[], attributes := #[] }
def k7m4 : Method := { name := "charAt", desc := "(I)C", sig := { parameters := [.int], returnType := some .char }, accessFlags := 1, code := some k7c4 }
def k7c5 : Code := { maxStack := 4, maxLocals := 1, code := jdk_42_method_139_code, exceptionTable := #[], attributes := #[] }
def k7m5 : Method := { name := "valueOf", desc := "(C)Ljava/lang/String;", sig := { parameters := [.char], returnType := some (.object "java/lang/String") }, accessFlags := 9, code := some k7c5 }
def k7c6 : Code := { maxStack := 4, maxLocals := 6, code := jdk_42_method_149_code, exceptionTable := #[], attributes := #[] }
def k7m6 : Method := { name := "<init>", desc := "([CIILjava/lang/Void;)V", sig := { parameters := [(.array .char), .int, .int, (.object "java/lang/Void")], returnType := none }, accessFlags := 2, code := some k7c6 }
def k7c7 : Code := { maxStack := 2, maxLocals := 3, code := jdk_42_method_151_code, exceptionTable := #[], attributes := #[] }
def k7m7 : Method := { name := "<init>", desc := "([BB)V", sig := { parameters := [(.array .byte), .byte], returnType := none }, accessFlags := 0, code := some k7c7 }
def k7c8 : Code := { maxStack := 1, maxLocals := 1, code := jdk_42_method_152_code, exceptionTable := #[], attributes := #[] }
def k7m8 : Method := { name := "coder", desc := "()B", sig := { parameters := [], returnType := some .byte }, accessFlags := 0, code := some k7c8 }
def k7c9 : Code := { maxStack := 1, maxLocals := 1, code := jdk_42_method_154_code, exceptionTable := #[], attributes := #[] }
def k7m9 : Method := { name := "isLatin1", desc := "()Z", sig := { parameters := [], returnType := some .boolean }, accessFlags := 0, code := some k7c9 }
def k7c10 : Code := { maxStack := 3, maxLocals := 2, code := jdk_42_method_155_code, exceptionTable := #[], attributes := #[] }
def k7m10 : Method := { name := "checkIndex", desc := "(II)V", sig := { parameters := [.int, .int], returnType := none }, accessFlags := 8, code := some k7c10 }
/-- java/lang/String -/
def k7 : Class := { plain "java/lang/String" (some 0) with
  accessFlags := 49
  interfaces := #[2, 3, 4, 5, 6]
  cf := some (fileOf pool7 10 #[.nestMembers #[1103]] #[{ accessFlags := 1, nameIndex := 5, descriptorIndex := 6, attributes := #[] }, { accessFlags := 1, nameIndex := 5, descriptorIndex := 1010, attributes := #[] }, { accessFlags := 1, nameIndex := 507, descriptorIndex := 334, attributes := #[] }, { accessFlags := 1, nameIndex := 692, descriptorIndex := 142, attributes := #[] }, { accessFlags := 1, nameIndex := 497, descriptorIndex := 427, attributes := #[] }, { accessFlags := 9, nameIndex := 782, descriptorIndex := 783, attributes := #[] }, { accessFlags := 2, nameIndex := 5, descriptorIndex := 29, attributes := #[] }, { accessFlags := 0, nameIndex := 5, descriptorIndex := 211, attributes := #[] }, { accessFlags := 0, nameIndex := 17, descriptorIndex := 337, attributes := #[] }, { accessFlags := 0, nameIndex := 494, descriptorIndex := 142, attributes := #[] }, { accessFlags := 8, nameIndex := 501, descriptorIndex := 391, attributes := #[] }] 49 2 #[1106, 1108, 575, 1110, 1112] #[{ accessFlags := 18, nameIndex := 13, descriptorIndex := 14, attributes := #[] }, { accessFlags := 18, nameIndex := 17, descriptorIndex := 18, attributes := #[] }, { accessFlags := 2, nameIndex := 21, descriptorIndex := 22, attributes := #[] }, { accessFlags := 2, nameIndex := 25, descriptorIndex := 26, attributes := #[] }, { accessFlags := 26, nameIndex := 1116, descriptorIndex := 1117, attributes := #[] }, { accessFlags := 24, nameIndex := 40, descriptorIndex := 26, attributes := #[] }, { accessFlags := 26, nameIndex := 1101, descriptorIndex := 1102, attributes := #[] }, { accessFlags := 26, nameIndex := 1121, descriptorIndex := 1122, attributes := #[] }, { accessFlags := 25, nameIndex := 599, descriptorIndex := 600, attributes := #[] }, { accessFlags := 24, nameIndex := 1125, descriptorIndex := 18, attributes := #[] }, { accessFlags := 24, nameIndex := 1127, descriptorIndex := 18, attributes := #[] }])
  fields := #[{ name := "value", type := (.array .byte), accessFlags := 18, slot := 0, constantValue := 0 }, { name := "coder", type := .byte, accessFlags := 18, slot := 1, constantValue := 0 }, { name := "hash", type := .int, accessFlags := 2, slot := 2, constantValue := 0 }, { name := "hashIsZero", type := .boolean, accessFlags := 2, slot := 3, constantValue := 0 }, { name := "serialVersionUID", type := .long, accessFlags := 26, slot := 0, constantValue := 0 }, { name := "COMPACT_STRINGS", type := .boolean, accessFlags := 24, slot := 1, constantValue := 0 }, { name := "serialPersistentFields", type := (.array (.object "java/io/ObjectStreamField")), accessFlags := 26, slot := 2, constantValue := 0 }, { name := "REPL", type := .char, accessFlags := 26, slot := 3, constantValue := 0 }, { name := "CASE_INSENSITIVE_ORDER", type := (.object "java/util/Comparator"), accessFlags := 25, slot := 4, constantValue := 0 }, { name := "LATIN1", type := .byte, accessFlags := 24, slot := 5, constantValue := 0 }, { name := "UTF16", type := .byte, accessFlags := 24, slot := 6, constantValue := 0 }]
  methods := #[k7m0, k7m1, k7m2, k7m3, k7m4, k7m5, k7m6, k7m7, k7m8, k7m9, k7m10]
  instanceTypes := #[(.array .byte), .byte, .int, .boolean]
  staticTypes := #[.long, .boolean, (.array (.object "java/io/ObjectStreamField")), .char, (.object "java/util/Comparator"), .byte, .byte]
  resolved := Array.replicate 1451 none
  statics := some 0 }

def pool8 : Array CpInfo := pool [(3, .class_ 4), (0, u "java/lang/String"), (1, .class_ 8), (1, u "java/lang/Object"), (0, u "<init>"), (0, u "()V"), (0, .methodref 12 13), (0, .class_ 14), (0, .nameAndType 15 16), (0, u "java/lang/StringUTF16"), (0, u "newBytesLength"), (0, u "(I)I"), (3, .integer 1073741823), (23, .fieldref 12 45), (0, .nameAndType 46 47), (0, u "$assertionsDisabled"), (0, u "Z"), (0, .methodref 12 49), (0, .nameAndType 50 51), (0, u "length"), (0, u "([B)I"), (7, .fieldref 12 60), (0, .nameAndType 61 62), (0, u "HI_BYTE_SHIFT"), (0, u "I"), (0, .fieldref 12 64), (0, .nameAndType 65 62), (0, u "LO_BYTE_SHIFT"), (1, .methodref 12 68), (0, .nameAndType 69 70), (0, u "checkIndex"), (0, u "(I[B)V"), (0, .methodref 12 72), (0, .nameAndType 73 74), (0, u "getChar"), (0, u "([BI)C"), (32, .methodref 12 108), (0, .nameAndType 109 110), (0, u "newBytesFor"), (0, u "(I)[B"), (0, .methodref 12 112), (0, .nameAndType 113 114), (0, u "putChar"), (0, u "([BII)V"), (0, .methodref 12 116), (0, .nameAndType 117 118), (0, u "compress"), (0, u "([CI[BII)I"), (0, .methodref 12 120), (0, .nameAndType 121 122), (0, u "toBytes"), (0, u "([CII)[B"), (138, u "coderFromArrayLen"), (0, u "([BI)B"), (106, .class_ 371), (1, u "java/lang/StringUTF16$LinesSpliterator"), (20, u "charAt"), (21, .methodref 3 415), (0, .nameAndType 69 416), (0, u "(II)V"), (13, u "MAX_LENGTH"), (44, u "(C)[B"), (151, .class_ 628), (0, u "java/lang/StringUTF16$CodePointsSpliterator"), (0, .class_ 630), (0, u "java/lang/StringUTF16$CharsSpliterator")] 4

def k8m0 : Method := { name := "<init>", desc := "()V", sig := { parameters := [], returnType := none }, accessFlags := 0, code := none }
def k8c1 : Code := { maxStack := 1, maxLocals := 1, code := jdk_52_method_2_code, exceptionTable := #[], attributes := #[] }
def k8m1 : Method := { name := "newBytesFor", desc := "(I)[B", sig := { parameters := [.int], returnType := some (.array .byte) }, accessFlags := 9, code := some k8c1 }
def k8c2 : Code := { maxStack := 4, maxLocals := 1, code := jdk_52_method_3_code, exceptionTable := #[], attributes := #[] }
def k8m2 : Method := { name := "newBytesLength", desc := "(I)I", sig := { parameters := [.int], returnType := some .int }, accessFlags := 9, code := some k8c2 }
def k8c3 : Code := { maxStack := 4, maxLocals := 3, code := jdk_52_method_4_code, exceptionTable := #[], attributes := #[] }
def k8m3 : Method := { name := "putChar", desc := "([BII)V", sig := { parameters := [(.array .byte), .int, .int], returnType := none }, accessFlags := 8, code := some k8c3 }
def k8c4 : Code := { maxStack := 3, maxLocals := 2, code := jdk_52_method_5_code, exceptionTable := #[], attributes := #[] }
def k8m4 : Method := { name := "getChar", desc := "([BI)C", sig := { parameters := [(.array .byte), .int], returnType := some .char }, accessFlags := 8, code := some k8c4 }
def k8c5 : Code := { maxStack := 2, maxLocals := 1, code := jdk_52_method_6_code, exceptionTable := #[], attributes := #[] }
def k8m5 : Method := { name := "length", desc := "([B)I", sig := { parameters := [(.array .byte)], returnType := some .int }, accessFlags := 9, code := some k8c5 }
def k8c6 : Code := { maxStack := 4, maxLocals := 5, code := jdk_52_method_14_code, exceptionTable := #[], attributes := #[] }
def k8m6 : Method := { name := "toBytes", desc := "([CII)[B", sig := { parameters := [(.array .char), .int, .int], returnType := some (.array .byte) }, accessFlags := 9, code := some k8c6 }
def k8c7 : Code := { maxStack := 2, maxLocals := 2, code := jdk_52_method_15_code, exceptionTable := #[], attributes := #[] }
def k8m7 : Method := { name := "coderFromArrayLen", desc := "([BI)B", sig := { parameters := [(.array .byte), .int], returnType := some .byte }, accessFlags := 8, code := some k8c7 }
def k8c8 : Code := { maxStack := 5, maxLocals := 6, code := jdk_52_method_16_code, exceptionTable := #[], attributes := #[] }
def k8m8 : Method := { name := "compress", desc := "([CII)[B", sig := { parameters := [(.array .char), .int, .int], returnType := some (.array .byte) }, accessFlags := 9, code := some k8c8 }
def k8c9 : Code := { maxStack := 3, maxLocals := 7, code := jdk_52_method_21_code, exceptionTable := #[], attributes := #[] }
def k8m9 : Method := { name := "compress", desc := "([CI[BII)I", sig := { parameters := [(.array .char), .int, (.array .byte), .int, .int], returnType := some .int }, accessFlags := 9, code := some k8c9 }
def k8c10 : Code := { maxStack := 3, maxLocals := 2, code := jdk_52_method_24_code, exceptionTable := #[], attributes := #[] }
def k8m10 : Method := { name := "toBytes", desc := "(C)[B", sig := { parameters := [.char], returnType := some (.array .byte) }, accessFlags := 9, code := some k8c10 }
def k8c11 : Code := { maxStack := 2, maxLocals := 2, code := jdk_52_method_83_code, exceptionTable := #[], attributes := #[] }
def k8m11 : Method := { name := "charAt", desc := "([BI)C", sig := { parameters := [(.array .byte), .int], returnType := some .char }, accessFlags := 9, code := some k8c11 }
def k8c12 : Code := { maxStack := 2, maxLocals := 2, code := jdk_52_method_91_code, exceptionTable := #[], attributes := #[] }
def k8m12 : Method := { name := "checkIndex", desc := "(I[B)V", sig := { parameters := [.int, (.array .byte)], returnType := none }, accessFlags := 9, code := some k8c12 }
/-- java/lang/StringUTF16 -/
def k8 : Class := { plain "java/lang/StringUTF16" (some 0) with
  accessFlags := 48
  interfaces := #[]
  cf := some (fileOf pool8 12 #[.nestMembers #[627, 629, 369]] #[{ accessFlags := 0, nameIndex := 9, descriptorIndex := 10, attributes := #[] }, { accessFlags := 9, nameIndex := 109, descriptorIndex := 110, attributes := #[] }, { accessFlags := 9, nameIndex := 15, descriptorIndex := 16, attributes := #[] }, { accessFlags := 8, nameIndex := 113, descriptorIndex := 114, attributes := #[] }, { accessFlags := 8, nameIndex := 73, descriptorIndex := 74, attributes := #[] }, { accessFlags := 9, nameIndex := 50, descriptorIndex := 51, attributes := #[] }, { accessFlags := 9, nameIndex := 121, descriptorIndex := 122, attributes := #[] }, { accessFlags := 8, nameIndex := 261, descriptorIndex := 262, attributes := #[] }, { accessFlags := 9, nameIndex := 117, descriptorIndex := 122, attributes := #[] }, { accessFlags := 9, nameIndex := 117, descriptorIndex := 118, attributes := #[] }, { accessFlags := 9, nameIndex := 121, descriptorIndex := 475, attributes := #[] }, { accessFlags := 9, nameIndex := 392, descriptorIndex := 74, attributes := #[] }, { accessFlags := 9, nameIndex := 69, descriptorIndex := 70, attributes := #[] }] 48 6 #[] #[{ accessFlags := 26, nameIndex := 61, descriptorIndex := 62, attributes := #[] }, { accessFlags := 26, nameIndex := 65, descriptorIndex := 62, attributes := #[] }, { accessFlags := 24, nameIndex := 430, descriptorIndex := 62, attributes := #[] }, { accessFlags := 4120, nameIndex := 46, descriptorIndex := 47, attributes := #[] }])
  fields := #[{ name := "HI_BYTE_SHIFT", type := .int, accessFlags := 26, slot := 0, constantValue := 0 }, { name := "LO_BYTE_SHIFT", type := .int, accessFlags := 26, slot := 1, constantValue := 0 }, { name := "MAX_LENGTH", type := .int, accessFlags := 24, slot := 2, constantValue := 0 }, { name := "$assertionsDisabled", type := .boolean, accessFlags := 4120, slot := 3, constantValue := 0 }]
  methods := #[k8m0, k8m1, k8m2, k8m3, k8m4, k8m5, k8m6, k8m7, k8m8, k8m9, k8m10, k8m11, k8m12]
  instanceTypes := #[]
  staticTypes := #[.int, .int, .int, .boolean]
  resolved := Array.replicate 635 none
  statics := some 1 }

def pool9 : Array CpInfo := pool [(1, .class_ 2), (0, u "java/lang/String"), (1, .class_ 6), (1, u "java/lang/Object"), (0, u "<init>"), (0, u "()V"), (0, .methodref 1 10), (0, .nameAndType 11 12), (0, u "checkIndex"), (0, u "(II)V"), (1, .class_ 16), (1, u "java/lang/StringLatin1"), (36, u "([BI)C"), (36, u "canEncode"), (14, u "(C)Z"), (15, u "$assertionsDisabled"), (0, u "Z"), (98, .class_ 223), (1, u "java/lang/StringLatin1$LinesSpliterator"), (28, u "charAt"), (127, u "toBytes"), (1, u "(C)[B"), (7, .class_ 391), (0, u "java/lang/StringLatin1$CharsSpliterator")] 3

def k9m0 : Method := { name := "<init>", desc := "()V", sig := { parameters := [], returnType := none }, accessFlags := 0, code := none }
def k9c1 : Code := { maxStack := 2, maxLocals := 2, code := jdk_43_method_2_code, exceptionTable := #[], attributes := #[] }
def k9m1 : Method := { name := "charAt", desc := "([BI)C", sig := { parameters := [(.array .byte), .int], returnType := some .char }, accessFlags := 9, code := some k9c1 }
def k9c2 : Code := { maxStack := 2, maxLocals := 1, code := jdk_43_method_3_code, exceptionTable := #[], attributes := #[] }
def k9m2 : Method := { name := "canEncode", desc := "(C)Z", sig := { parameters := [.char], returnType := some .boolean }, accessFlags := 9, code := some k9c2 }
def k9c3 : Code := { maxStack := 4, maxLocals := 1, code := jdk_43_method_46_code, exceptionTable := #[], attributes := #[] }
def k9m3 : Method := { name := "toBytes", desc := "(C)[B", sig := { parameters := [.char], returnType := some (.array .byte) }, accessFlags := 9, code := some k9c3 }
/-- java/lang/StringLatin1 -/
def k9 : Class := { plain "java/lang/StringLatin1" (some 0) with
  accessFlags := 48
  interfaces := #[]
  cf := some (fileOf pool9 14 #[.nestMembers #[390, 221]] #[{ accessFlags := 0, nameIndex := 7, descriptorIndex := 8, attributes := #[] }, { accessFlags := 9, nameIndex := 252, descriptorIndex := 53, attributes := #[] }, { accessFlags := 9, nameIndex := 90, descriptorIndex := 105, attributes := #[] }, { accessFlags := 9, nameIndex := 380, descriptorIndex := 382, attributes := #[] }] 48 4 #[] #[{ accessFlags := 4120, nameIndex := 121, descriptorIndex := 122, attributes := #[] }])
  fields := #[{ name := "$assertionsDisabled", type := .boolean, accessFlags := 4120, slot := 0, constantValue := 0 }]
  methods := #[k9m0, k9m1, k9m2, k9m3]
  instanceTypes := #[]
  staticTypes := #[.boolean]
  resolved := Array.replicate 395 none
  statics := none }

def pool10 : Array CpInfo := pool [(2, .class_ 4), (1, u "java/lang/Object"), (3, .class_ 10), (1, u "com/example/upper_ward/upperward/auth/SigningChecks"), (0, u "secretKeys"), (0, u "Lcom/example/upper_ward/upperward/auth/SecretKeyLookup;"), (2, u "clock"), (0, u "Ljava/time/Clock;"), (2, u "required"), (0, u "(Ljava/lang/String;Ljava/lang/String;)Ljava/lang/String;"), (2, u "UNSIGNED_NUMBER"), (0, u "Ljava/util/regex/Pattern;"), (11, u "()Z"), (43, .methodref 81 82), (0, .class_ 83), (0, .nameAndType 84 36), (0, u "java/lang/String"), (0, u "isEmpty"), (59, u "WINDOW_SECONDS"), (0, u "J")] 33

def k10c0 : Code := { maxStack := 4, maxLocals := 2, code := prog_12_method_3_code, exceptionTable := #[], attributes := #[] }
def k10m0 : Method := { name := "required", desc := "(Ljava/lang/String;Ljava/lang/String;)Ljava/lang/String;", sig := { parameters := [(.object "java/lang/String"), (.object "java/lang/String")], returnType := some (.object "java/lang/String") }, accessFlags := 8, code := some k10c0 }
/-- com/example/upper_ward/upperward/auth/SigningChecks -/
def k10 : Class := { plain "com/example/upper_ward/upperward/auth/SigningChecks" (some 0) with
  accessFlags := 32
  interfaces := #[]
  cf := some (fileOf pool10 8 #[] #[{ accessFlags := 8, nameIndex := 19, descriptorIndex := 20, attributes := #[] }] 32 2 #[] #[{ accessFlags := 26, nameIndex := 144, descriptorIndex := 145, attributes := #[] }, { accessFlags := 26, nameIndex := 23, descriptorIndex := 24, attributes := #[] }, { accessFlags := 18, nameIndex := 11, descriptorIndex := 12, attributes := #[] }, { accessFlags := 18, nameIndex := 15, descriptorIndex := 16, attributes := #[] }])
  fields := #[{ name := "WINDOW_SECONDS", type := .long, accessFlags := 26, slot := 0, constantValue := 0 }, { name := "UNSIGNED_NUMBER", type := (.object "java/util/regex/Pattern"), accessFlags := 26, slot := 1, constantValue := 0 }, { name := "secretKeys", type := (.object "com/example/upper_ward/upperward/auth/SecretKeyLookup"), accessFlags := 18, slot := 0, constantValue := 0 }, { name := "clock", type := (.object "java/time/Clock"), accessFlags := 18, slot := 1, constantValue := 0 }]
  methods := #[k10m0]
  instanceTypes := #[(.object "com/example/upper_ward/upperward/auth/SecretKeyLookup"), (.object "java/time/Clock")]
  staticTypes := #[.long, (.object "java/util/regex/Pattern")]
  resolved := Array.replicate 179 none
  statics := none }

def pool11 : Array CpInfo := pool [(2, .class_ 4), (1, u "java/lang/Object"), (0, u "<init>"), (0, u "()V"), (17, .class_ 26), (1, u "jdk/internal/util/Preconditions"), (6, u "checkIndex"), (21, .class_ 56), (0, u "jdk/internal/util/Preconditions$4"), (57, .class_ 115), (0, u "jdk/internal/util/Preconditions$1"), (7, u "SIOOBE_FORMATTER"), (0, u "Ljava/util/function/BiFunction;"), (0, .class_ 126), (0, u "jdk/internal/util/Preconditions$2"), (3, u "AIOOBE_FORMATTER"), (0, .class_ 132), (0, u "jdk/internal/util/Preconditions$3"), (3, u "IOOBE_FORMATTER"), (41, u "(IILjava/util/function/BiFunction;)I")] 15

def k11m0 : Method := { name := "<init>", desc := "()V", sig := { parameters := [], returnType := none }, accessFlags := 1, code := none }
def k11c1 : Code := { maxStack := 3, maxLocals := 3, code := jdk_41_method_11_code, exceptionTable := #[], attributes := #[] }
def k11m1 : Method := { name := "checkIndex", desc := "(IILjava/util/function/BiFunction;)I", sig := { parameters := [.int, .int, (.object "java/util/function/BiFunction")], returnType := some .int }, accessFlags := 9, code := some k11c1 }
/-- jdk/internal/util/Preconditions -/
def k11 : Class := { plain "jdk/internal/util/Preconditions" (some 0) with
  accessFlags := 33
  interfaces := #[]
  cf := some (fileOf pool11 24 #[.nestMembers #[55, 131, 125, 114]] #[{ accessFlags := 1, nameIndex := 5, descriptorIndex := 6, attributes := #[] }, { accessFlags := 9, nameIndex := 33, descriptorIndex := 178, attributes := #[] }] 33 2 #[] #[{ accessFlags := 25, nameIndex := 123, descriptorIndex := 124, attributes := #[] }, { accessFlags := 25, nameIndex := 130, descriptorIndex := 124, attributes := #[] }, { accessFlags := 25, nameIndex := 136, descriptorIndex := 124, attributes := #[] }])
  fields := #[{ name := "SIOOBE_FORMATTER", type := (.object "java/util/function/BiFunction"), accessFlags := 25, slot := 0, constantValue := 0 }, { name := "AIOOBE_FORMATTER", type := (.object "java/util/function/BiFunction"), accessFlags := 25, slot := 1, constantValue := 0 }, { name := "IOOBE_FORMATTER", type := (.object "java/util/function/BiFunction"), accessFlags := 25, slot := 2, constantValue := 0 }]
  methods := #[k11m0, k11m1]
  instanceTypes := #[]
  staticTypes := #[(.object "java/util/function/BiFunction"), (.object "java/util/function/BiFunction"), (.object "java/util/function/BiFunction")]
  resolved := Array.replicate 194 none
  statics := some 2 }

def pool12 : Array CpInfo := pool [(9, u "<init>"), (6, .class_ 18), (1, u "java/lang/Object"), (0, u "()V"), (1, .class_ 23), (1, u "jdk/internal/util/ArraysSupport"), (0, u "LOG2_ARRAY_LONG_INDEX_SCALE"), (0, u "I"), (2, u "U"), (0, u "Ljdk/internal/misc/Unsafe;"), (8, u "BIG_ENDIAN"), (0, u "Z"), (8, u "LOG2_BYTE_BIT_SIZE"), (4, u "LOG2_ARRAY_INT_INDEX_SCALE"), (54, u "JLA"), (0, u "Ljdk/internal/access/JavaLangAccess;"), (11, u "LOG2_ARRAY_BOOLEAN_INDEX_SCALE"), (9, u "LOG2_ARRAY_BYTE_INDEX_SCALE"), (5, u "LOG2_ARRAY_CHAR_INDEX_SCALE"), (5, u "LOG2_ARRAY_SHORT_INDEX_SCALE"), (18, u "LOG2_ARRAY_FLOAT_INDEX_SCALE"), (24, u "LOG2_ARRAY_DOUBLE_INDEX_SCALE"), (89, u "T_BOOLEAN"), (2, u "T_CHAR"), (1, u "T_FLOAT"), (1, u "T_DOUBLE"), (1, u "T_BYTE"), (1, u "T_SHORT"), (1, u "T_INT"), (1, u "T_LONG"), (1, u "SOFT_MAX_ARRAY_LENGTH")] 83

def k12m0 : Method := { name := "<init>", desc := "()V", sig := { parameters := [], returnType := none }, accessFlags := 2, code := none }
/-- jdk/internal/util/ArraysSupport -/
def k12 : Class := { plain "jdk/internal/util/ArraysSupport" (some 0) with
  accessFlags := 33
  interfaces := #[]
  cf := some (fileOf pool12 21 #[] #[{ accessFlags := 2, nameIndex := 9, descriptorIndex := 19, attributes := #[] }] 33 16 #[] #[{ accessFlags := 24, nameIndex := 28, descriptorIndex := 29, attributes := #[] }, { accessFlags := 26, nameIndex := 38, descriptorIndex := 39, attributes := #[] }, { accessFlags := 25, nameIndex := 121, descriptorIndex := 25, attributes := #[] }, { accessFlags := 25, nameIndex := 131, descriptorIndex := 25, attributes := #[] }, { accessFlags := 25, nameIndex := 137, descriptorIndex := 25, attributes := #[] }, { accessFlags := 25, nameIndex := 143, descriptorIndex := 25, attributes := #[] }, { accessFlags := 25, nameIndex := 53, descriptorIndex := 25, attributes := #[] }, { accessFlags := 25, nameIndex := 24, descriptorIndex := 25, attributes := #[] }, { accessFlags := 25, nameIndex := 162, descriptorIndex := 25, attributes := #[] }, { accessFlags := 25, nameIndex := 187, descriptorIndex := 25, attributes := #[] }, { accessFlags := 26, nameIndex := 48, descriptorIndex := 25, attributes := #[] }, { accessFlags := 25, nameIndex := 277, descriptorIndex := 25, attributes := #[] }, { accessFlags := 25, nameIndex := 280, descriptorIndex := 25, attributes := #[] }, { accessFlags := 25, nameIndex := 282, descriptorIndex := 25, attributes := #[] }, { accessFlags := 25, nameIndex := 284, descriptorIndex := 25, attributes := #[] }, { accessFlags := 25, nameIndex := 286, descriptorIndex := 25, attributes := #[] }, { accessFlags := 25, nameIndex := 288, descriptorIndex := 25, attributes := #[] }, { accessFlags := 25, nameIndex := 290, descriptorIndex := 25, attributes := #[] }, { accessFlags := 25, nameIndex := 292, descriptorIndex := 25, attributes := #[] }, { accessFlags := 26, nameIndex := 108, descriptorIndex := 109, attributes := #[] }, { accessFlags := 25, nameIndex := 294, descriptorIndex := 25, attributes := #[] }])
  fields := #[{ name := "U", type := (.object "jdk/internal/misc/Unsafe"), accessFlags := 24, slot := 0, constantValue := 0 }, { name := "BIG_ENDIAN", type := .boolean, accessFlags := 26, slot := 1, constantValue := 0 }, { name := "LOG2_ARRAY_BOOLEAN_INDEX_SCALE", type := .int, accessFlags := 25, slot := 2, constantValue := 0 }, { name := "LOG2_ARRAY_BYTE_INDEX_SCALE", type := .int, accessFlags := 25, slot := 3, constantValue := 0 }, { name := "LOG2_ARRAY_CHAR_INDEX_SCALE", type := .int, accessFlags := 25, slot := 4, constantValue := 0 }, { name := "LOG2_ARRAY_SHORT_INDEX_SCALE", type := .int, accessFlags := 25, slot := 5, constantValue := 0 }, { name := "LOG2_ARRAY_INT_INDEX_SCALE", type := .int, accessFlags := 25, slot := 6, constantValue := 0 }, { name := "LOG2_ARRAY_LONG_INDEX_SCALE", type := .int, accessFlags := 25, slot := 7, constantValue := 0 }, { name := "LOG2_ARRAY_FLOAT_INDEX_SCALE", type := .int, accessFlags := 25, slot := 8, constantValue := 0 }, { name := "LOG2_ARRAY_DOUBLE_INDEX_SCALE", type := .int, accessFlags := 25, slot := 9, constantValue := 0 }, { name := "LOG2_BYTE_BIT_SIZE", type := .int, accessFlags := 26, slot := 10, constantValue := 0 }, { name := "T_BOOLEAN", type := .int, accessFlags := 25, slot := 11, constantValue := 0 }, { name := "T_CHAR", type := .int, accessFlags := 25, slot := 12, constantValue := 0 }, { name := "T_FLOAT", type := .int, accessFlags := 25, slot := 13, constantValue := 0 }, { name := "T_DOUBLE", type := .int, accessFlags := 25, slot := 14, constantValue := 0 }, { name := "T_BYTE", type := .int, accessFlags := 25, slot := 15, constantValue := 0 }, { name := "T_SHORT", type := .int, accessFlags := 25, slot := 16, constantValue := 0 }, { name := "T_INT", type := .int, accessFlags := 25, slot := 17, constantValue := 0 }, { name := "T_LONG", type := .int, accessFlags := 25, slot := 18, constantValue := 0 }, { name := "JLA", type := (.object "jdk/internal/access/JavaLangAccess"), accessFlags := 26, slot := 19, constantValue := 0 }, { name := "SOFT_MAX_ARRAY_LENGTH", type := .int, accessFlags := 25, slot := 20, constantValue := 0 }]
  methods := #[k12m0]
  instanceTypes := #[]
  staticTypes := #[(.object "jdk/internal/misc/Unsafe"), .boolean, .int, .int, .int, .int, .int, .int, .int, .int, .int, .int, .int, .int, .int, .int, .int, .int, .int, (.object "jdk/internal/access/JavaLangAccess"), .int]
  resolved := Array.replicate 378 none
  statics := none }

def pool13 : Array CpInfo := pool [(1, u "java/lang/Cloneable"), (0, .class_ 1), (0, u "java/lang/Object"), (0, .class_ 3)] 3

/-- java/lang/Cloneable -/
def k13 : Class := { plain "java/lang/Cloneable" (some 0) with
  accessFlags := 1537
  interfaces := #[]
  cf := some (fileOf pool13 2 #[] #[] 1537 4 #[] #[])
  fields := #[]
  methods := #[]
  instanceTypes := #[]
  staticTypes := #[]
  resolved := Array.replicate 8 none
  statics := none }

/-- the primitive byte -/
def k14 : Class := { plain "byte" none with kind := .primitive 'B', accessFlags := 0x411 }
/-- [B -/
def k15 : Class := { plain "[B" (some 0) with kind := .array 14 .byte, interfaces := #[13, 2], accessFlags := 1041 }

/-- the primitive char -/
def k16 : Class := { plain "char" none with kind := .primitive 'C', accessFlags := 0x411 }
/-- [C -/
def k17 : Class := { plain "[C" (some 0) with kind := .array 16 .char, interfaces := #[13, 2], accessFlags := 1041 }

/-- the primitive int -/
def k18 : Class := { plain "int" none with kind := .primitive 'I', accessFlags := 0x411 }
/-- [I -/
def k19 : Class := { plain "[I" (some 0) with kind := .array 18 .int, interfaces := #[13, 2], accessFlags := 1041 }

def heap : Heap := #[{ cls := 7, slots := #[.long 0, .int 1, .null, .int 0, .null, .int 0, .int 0], vm := .statics 7 },
  { cls := 8, slots := #[.int 0, .int 8, .int 0, .int 1], vm := .statics 8 },
  { cls := 11, slots := #[.null, .null, .null], vm := .statics 11 }]
def classes : Array Class := #[k0, k1, k2, k3, k4, k5, k6, k7, k8, k9, k10, k11, k12, k13, k14, k15, k16, k17, k18, k19]
def interned : List (Array UInt16 × Addr) := []
def slotsUsed : Nat := 14
def theMethod : MethodId := ⟨1, 1⟩
def args0 : Array Value := #[.int 5, .int 5, .int 5, .int 5, .int 5]
def aboutOver (below : List Frame) : State where
  vm := { classes := classes, interned := interned.toArray }
  heap := heap
  slotsUsed := slotsUsed
  threads := #[{ frames := .invoking theMethod args0 :: below }]
def below0 : List Frame := [.native { method := ⟨0, 0⟩, args := #[] }]
def about1 : State := aboutOver below0
def p0 : Program := .bare "" "" ""
def e0 : Env := launch0.env 0 0 0
theorem w_frames : about1.frames = Frame.invoking theMethod args0 :: below0 := rfl
set_option maxRecDepth 65536 in
theorem w_args : argsFit about1.vm theMethod args0 = true := by decide +kernel
set_option maxRecDepth 65536 in
theorem w_heap : heapFits about1 = true := by decide +kernel
set_option maxRecDepth 65536 in
theorem w_runnable : about1.curStatus? = some .runnable := by decide +kernel
set_option maxRecDepth 65536 in
theorem w_alone : about1.alone = true := by decide +kernel
set_option maxRecDepth 65536 in
theorem w_named : about1.methodNamed? x = some theMethod := by decide +kernel
set_option maxRecDepth 65536 in
theorem w_hears : about1.hears theMethod below0 = true := by decide +kernel
set_option maxRecDepth 65536 in
theorem w_ripe : about1.ripe theMethod args0 below0 = true := by decide +kernel
theorem w_running : about1.status = .running := rfl
set_option maxRecDepth 65536 in
theorem w_room : about1.hasRoom e0.platform room_1 = true :=
  launch0.hasRoom_least _ room_1 (by decide +kernel) (by decide +kernel) (by decide +kernel) (by decide +kernel) (by decide +kernel) (by decide +kernel)
theorem allAtoms_all (ts : List Jvm.Cond) (a : Array Jvm.Value) (st : Jvm.State) : (allAtoms ts).before a st = ts.all (fun c => c.before a st) := by
  induction ts with
  | nil => rfl
  | cons c t ih =>
    show (Jvm.Cond.and c (allAtoms t)).before a st = _
    rw [Jvm.Cond.before_and, ih, List.all_cons]
def words1 : List Jvm.Cond := Jvm.Cond.code x code maxLocals ret :: tables_1
/-- a 'code' word, met by the world's own term for the bytes: nothing is compared byte by byte -/
theorem code_word {y : MethodName} {bytes : ByteArray} {mx : Nat} {rt : Option FieldType} {a : Array Value} {s : State} {m : MethodId} {meth : Method} {c : Code} (h1 : s.methodNamed? y = some m) (h2 : s.vm.method? m = some meth) (h3 : meth.code = some c) (h4 : c.code = bytes)
    (h5 : (c.maxLocals == mx && c.exceptionTable.isEmpty && decide (c.maxStack ≤ mostOperands) && decide (meth.sig.returnType = rt) && !meth.locks && decide (parseMethodDescriptor y.desc = some meth.sig)) = true) : (Jvm.Cond.code y bytes mx rt).before a s = true := by
  simp only [Bool.and_eq_true, beq_iff_eq, Bool.not_eq_true', decide_eq_true_eq] at h5
  obtain ⟨⟨⟨⟨⟨g1, g2⟩, g3⟩, g4⟩, g5⟩, g6⟩ := h5
  simp [Cond.before, Cond.holds, Cond.value, h1, h2, h3, h4, g1, g2, g3, g4, g5, g6]
def isCode : Jvm.Cond → Bool
  | .code _ _ _ _ => true
  | _ => false
theorem all_split {L : List Jvm.Cond} {P : Jvm.Cond → Bool} (h1 : L.all (fun c => isCode c || P c) = true) (h2 : ∀ c ∈ L.filter isCode, P c = true) : L.all P = true := by
  refine List.all_eq_true.mpr fun c hc => ?_
  have h := List.all_eq_true.mp h1 c hc
  rcases Bool.eq_false_or_eq_true (isCode c) with hi | hi
  · exact h2 c (List.mem_filter.mpr ⟨hc, hi⟩)
  · simpa [hi] using h
set_option maxRecDepth 65536 in
theorem w_c0 : (Jvm.Cond.code x code maxLocals ret).before args0 about1 = true := code_word (m := ⟨1, 1⟩) (meth := k1m1) (c := k1c1) (by decide +kernel) rfl rfl rfl (by decide +kernel)
set_option maxRecDepth 65536 in
theorem w_c1 : (Jvm.Cond.code ({ cls := "java/lang/String", name := "<init>", desc := "([C)V" } : Jvm.MethodName) jdk_42_method_3_code (2 : Nat) (Option.none : Option Jvm.ClassFile.FieldType)).before args0 about1 = true := code_word (m := ⟨7, 1⟩) (meth := k7m1) (c := k7c1) (by decide +kernel) rfl rfl rfl (by decide +kernel)
set_option maxRecDepth 65536 in
theorem w_c2 : (Jvm.Cond.code ({ cls := "java/lang/String", name := "<init>", desc := "([CIILjava/lang/Void;)V" } : Jvm.MethodName) jdk_42_method_149_code (6 : Nat) (Option.none : Option Jvm.ClassFile.FieldType)).before args0 about1 = true := code_word (m := ⟨7, 6⟩) (meth := k7m6) (c := k7c6) (by decide +kernel) rfl rfl rfl (by decide +kernel)
set_option maxRecDepth 65536 in
theorem w_c3 : (Jvm.Cond.code ({ cls := "java/lang/Object", name := "<init>", desc := "()V" } : Jvm.MethodName) object_method_1_code (1 : Nat) (Option.none : Option Jvm.ClassFile.FieldType)).before args0 about1 = true := code_word (m := ⟨0, 0⟩) (meth := k0m0) (c := k0c0) (by decide +kernel) rfl rfl rfl (by decide +kernel)
set_option maxRecDepth 65536 in
theorem w_c4 : (Jvm.Cond.code ({ cls := "java/lang/StringUTF16", name := "compress", desc := "([CII)[B" } : Jvm.MethodName) jdk_52_method_16_code (6 : Nat) (Option.some (Jvm.ClassFile.FieldType.array Jvm.ClassFile.FieldType.byte))).before args0 about1 = true := code_word (m := ⟨8, 8⟩) (meth := k8m8) (c := k8c8) (by decide +kernel) rfl rfl rfl (by decide +kernel)
set_option maxRecDepth 65536 in
theorem w_c5 : (Jvm.Cond.code ({ cls := "java/lang/StringUTF16", name := "compress", desc := "([CI[BII)I" } : Jvm.MethodName) jdk_52_method_21_code (7 : Nat) (Option.some Jvm.ClassFile.FieldType.int)).before args0 about1 = true := code_word (m := ⟨8, 9⟩) (meth := k8m9) (c := k8c9) (by decide +kernel) rfl rfl rfl (by decide +kernel)
set_option maxRecDepth 65536 in
theorem w_c6 : (Jvm.Cond.code ({ cls := "java/lang/StringUTF16", name := "coderFromArrayLen", desc := "([BI)B" } : Jvm.MethodName) jdk_52_method_15_code (2 : Nat) (Option.some Jvm.ClassFile.FieldType.byte)).before args0 about1 = true := code_word (m := ⟨8, 7⟩) (meth := k8m7) (c := k8c7) (by decide +kernel) rfl rfl rfl (by decide +kernel)
set_option maxRecDepth 65536 in
theorem w_c7 : (Jvm.Cond.code ({ cls := "java/lang/String", name := "valueOf", desc := "(C)Ljava/lang/String;" } : Jvm.MethodName) jdk_42_method_139_code (1 : Nat) (Option.some (Jvm.ClassFile.FieldType.object "java/lang/String"))).before args0 about1 = true := code_word (m := ⟨7, 5⟩) (meth := k7m5) (c := k7c5) (by decide +kernel) rfl rfl rfl (by decide +kernel)
set_option maxRecDepth 65536 in
theorem w_c8 : (Jvm.Cond.code ({ cls := "java/lang/StringLatin1", name := "canEncode", desc := "(C)Z" } : Jvm.MethodName) jdk_43_method_3_code (1 : Nat) (Option.some Jvm.ClassFile.FieldType.boolean)).before args0 about1 = true := code_word (m := ⟨9, 2⟩) (meth := k9m2) (c := k9c2) (by decide +kernel) rfl rfl rfl (by decide +kernel)
set_option maxRecDepth 65536 in
theorem w_c9 : (Jvm.Cond.code ({ cls := "java/lang/StringLatin1", name := "toBytes", desc := "(C)[B" } : Jvm.MethodName) jdk_43_method_46_code (1 : Nat) (Option.some (Jvm.ClassFile.FieldType.array Jvm.ClassFile.FieldType.byte))).before args0 about1 = true := code_word (m := ⟨9, 3⟩) (meth := k9m3) (c := k9c3) (by decide +kernel) rfl rfl rfl (by decide +kernel)
set_option maxRecDepth 65536 in
theorem w_c10 : (Jvm.Cond.code ({ cls := "java/lang/String", name := "<init>", desc := "([BB)V" } : Jvm.MethodName) jdk_42_method_151_code (3 : Nat) (Option.none : Option Jvm.ClassFile.FieldType)).before args0 about1 = true := code_word (m := ⟨7, 7⟩) (meth := k7m7) (c := k7c7) (by decide +kernel) rfl rfl rfl (by decide +kernel)
set_option maxRecDepth 65536 in
theorem w_c11 : (Jvm.Cond.code ({ cls := "com/example/upper_ward/upperward/auth/SigningChecks", name := "required", desc := "(Ljava/lang/String;Ljava/lang/String;)Ljava/lang/String;" } : Jvm.MethodName) prog_12_method_3_code (2 : Nat) (Option.some (Jvm.ClassFile.FieldType.object "java/lang/String"))).before args0 about1 = true := code_word (m := ⟨10, 0⟩) (meth := k10m0) (c := k10c0) (by decide +kernel) rfl rfl rfl (by decide +kernel)
set_option maxRecDepth 65536 in
theorem w_c12 : (Jvm.Cond.code ({ cls := "java/lang/String", name := "isEmpty", desc := "()Z" } : Jvm.MethodName) jdk_42_method_55_code (1 : Nat) (Option.some Jvm.ClassFile.FieldType.boolean)).before args0 about1 = true := code_word (m := ⟨7, 3⟩) (meth := k7m3) (c := k7c3) (by decide +kernel) rfl rfl rfl (by decide +kernel)
set_option maxRecDepth 65536 in
theorem w_c13 : (Jvm.Cond.code ({ cls := "java/lang/String", name := "length", desc := "()I" } : Jvm.MethodName) jdk_42_method_54_code (1 : Nat) (Option.some Jvm.ClassFile.FieldType.int)).before args0 about1 = true := code_word (m := ⟨7, 2⟩) (meth := k7m2) (c := k7c2) (by decide +kernel) rfl rfl rfl (by decide +kernel)
set_option maxRecDepth 65536 in
theorem w_c14 : (Jvm.Cond.code ({ cls := "java/lang/String", name := "coder", desc := "()B" } : Jvm.MethodName) jdk_42_method_152_code (1 : Nat) (Option.some Jvm.ClassFile.FieldType.byte)).before args0 about1 = true := code_word (m := ⟨7, 8⟩) (meth := k7m8) (c := k7c8) (by decide +kernel) rfl rfl rfl (by decide +kernel)
set_option maxRecDepth 65536 in
theorem w_c15 : (Jvm.Cond.code ({ cls := "java/lang/String", name := "charAt", desc := "(I)C" } : Jvm.MethodName) jdk_42_method_56_code (2 : Nat) (Option.some Jvm.ClassFile.FieldType.char)).before args0 about1 = true := code_word (m := ⟨7, 4⟩) (meth := k7m4) (c := k7c4) (by decide +kernel) rfl rfl rfl (by decide +kernel)
set_option maxRecDepth 65536 in
theorem w_c16 : (Jvm.Cond.code ({ cls := "java/lang/String", name := "isLatin1", desc := "()Z" } : Jvm.MethodName) jdk_42_method_154_code (1 : Nat) (Option.some Jvm.ClassFile.FieldType.boolean)).before args0 about1 = true := code_word (m := ⟨7, 9⟩) (meth := k7m9) (c := k7c9) (by decide +kernel) rfl rfl rfl (by decide +kernel)
set_option maxRecDepth 65536 in
theorem w_c17 : (Jvm.Cond.code ({ cls := "java/lang/StringLatin1", name := "charAt", desc := "([BI)C" } : Jvm.MethodName) jdk_43_method_2_code (2 : Nat) (Option.some Jvm.ClassFile.FieldType.char)).before args0 about1 = true := code_word (m := ⟨9, 1⟩) (meth := k9m1) (c := k9c1) (by decide +kernel) rfl rfl rfl (by decide +kernel)
set_option maxRecDepth 65536 in
theorem w_c18 : (Jvm.Cond.code ({ cls := "java/lang/String", name := "checkIndex", desc := "(II)V" } : Jvm.MethodName) jdk_42_method_155_code (2 : Nat) (Option.none : Option Jvm.ClassFile.FieldType)).before args0 about1 = true := code_word (m := ⟨7, 10⟩) (meth := k7m10) (c := k7c10) (by decide +kernel) rfl rfl rfl (by decide +kernel)
set_option maxRecDepth 65536 in
theorem w_c19 : (Jvm.Cond.code ({ cls := "jdk/internal/util/Preconditions", name := "checkIndex", desc := "(IILjava/util/function/BiFunction;)I" } : Jvm.MethodName) jdk_41_method_11_code (3 : Nat) (Option.some Jvm.ClassFile.FieldType.int)).before args0 about1 = true := code_word (m := ⟨11, 1⟩) (meth := k11m1) (c := k11c1) (by decide +kernel) rfl rfl rfl (by decide +kernel)
set_option maxRecDepth 65536 in
theorem w_c20 : (Jvm.Cond.code ({ cls := "java/lang/StringUTF16", name := "toBytes", desc := "([CII)[B" } : Jvm.MethodName) jdk_52_method_14_code (5 : Nat) (Option.some (Jvm.ClassFile.FieldType.array Jvm.ClassFile.FieldType.byte))).before args0 about1 = true := code_word (m := ⟨8, 6⟩) (meth := k8m6) (c := k8c6) (by decide +kernel) rfl rfl rfl (by decide +kernel)
set_option maxRecDepth 65536 in
theorem w_c21 : (Jvm.Cond.code ({ cls := "java/lang/StringUTF16", name := "newBytesFor", desc := "(I)[B" } : Jvm.MethodName) jdk_52_method_2_code (1 : Nat) (Option.some (Jvm.ClassFile.FieldType.array Jvm.ClassFile.FieldType.byte))).before args0 about1 = true := code_word (m := ⟨8, 1⟩) (meth := k8m1) (c := k8c1) (by decide +kernel) rfl rfl rfl (by decide +kernel)
set_option maxRecDepth 65536 in
theorem w_c22 : (Jvm.Cond.code ({ cls := "java/lang/StringUTF16", name := "newBytesLength", desc := "(I)I" } : Jvm.MethodName) jdk_52_method_3_code (1 : Nat) (Option.some Jvm.ClassFile.FieldType.int)).before args0 about1 = true := code_word (m := ⟨8, 2⟩) (meth := k8m2) (c := k8c2) (by decide +kernel) rfl rfl rfl (by decide +kernel)
set_option maxRecDepth 65536 in
theorem w_c23 : (Jvm.Cond.code ({ cls := "java/lang/StringUTF16", name := "putChar", desc := "([BII)V" } : Jvm.MethodName) jdk_52_method_4_code (3 : Nat) (Option.none : Option Jvm.ClassFile.FieldType)).before args0 about1 = true := code_word (m := ⟨8, 3⟩) (meth := k8m3) (c := k8c3) (by decide +kernel) rfl rfl rfl (by decide +kernel)
set_option maxRecDepth 65536 in
theorem w_c24 : (Jvm.Cond.code ({ cls := "java/lang/StringUTF16", name := "getChar", desc := "([BI)C" } : Jvm.MethodName) jdk_52_method_5_code (2 : Nat) (Option.some Jvm.ClassFile.FieldType.char)).before args0 about1 = true := code_word (m := ⟨8, 4⟩) (meth := k8m4) (c := k8c4) (by decide +kernel) rfl rfl rfl (by decide +kernel)
set_option maxRecDepth 65536 in
theorem w_c25 : (Jvm.Cond.code ({ cls := "java/lang/StringUTF16", name := "toBytes", desc := "(C)[B" } : Jvm.MethodName) jdk_52_method_24_code (2 : Nat) (Option.some (Jvm.ClassFile.FieldType.array Jvm.ClassFile.FieldType.byte))).before args0 about1 = true := code_word (m := ⟨8, 10⟩) (meth := k8m10) (c := k8c10) (by decide +kernel) rfl rfl rfl (by decide +kernel)
set_option maxRecDepth 65536 in
theorem w_c26 : (Jvm.Cond.code ({ cls := "java/lang/StringUTF16", name := "charAt", desc := "([BI)C" } : Jvm.MethodName) jdk_52_method_83_code (2 : Nat) (Option.some Jvm.ClassFile.FieldType.char)).before args0 about1 = true := code_word (m := ⟨8, 11⟩) (meth := k8m11) (c := k8c11) (by decide +kernel) rfl rfl rfl (by decide +kernel)
set_option maxRecDepth 65536 in
theorem w_c27 : (Jvm.Cond.code ({ cls := "java/lang/StringUTF16", name := "checkIndex", desc := "(I[B)V" } : Jvm.MethodName) jdk_52_method_91_code (2 : Nat) (Option.none : Option Jvm.ClassFile.FieldType)).before args0 about1 = true := code_word (m := ⟨8, 12⟩) (meth := k8m12) (c := k8c12) (by decide +kernel) rfl rfl rfl (by decide +kernel)
set_option maxRecDepth 65536 in
theorem w_c28 : (Jvm.Cond.code ({ cls := "java/lang/StringUTF16", name := "length", desc := "([B)I" } : Jvm.MethodName) jdk_52_method_6_code (1 : Nat) (Option.some Jvm.ClassFile.FieldType.int)).before args0 about1 = true := code_word (m := ⟨8, 5⟩) (meth := k8m5) (c := k8c5) (by decide +kernel) rfl rfl rfl (by decide +kernel)
def codes1 : List Jvm.Cond := [Jvm.Cond.code x code maxLocals ret, Jvm.Cond.code ({ cls := "java/lang/String", name := "<init>", desc := "([C)V" } : Jvm.MethodName) jdk_42_method_3_code (2 : Nat) (Option.none : Option Jvm.ClassFile.FieldType), Jvm.Cond.code ({ cls := "java/lang/String", name := "<init>", desc := "([CIILjava/lang/Void;)V" } : Jvm.MethodName) jdk_42_method_149_code (6 : Nat) (Option.none : Option Jvm.ClassFile.FieldType), Jvm.Cond.code ({ cls := "java/lang/Object", name := "<init>", desc := "()V" } : Jvm.MethodName) object_method_1_code (1 : Nat) (Option.none : Option Jvm.ClassFile.FieldType), Jvm.Cond.code ({ cls := "java/lang/StringUTF16", name := "compress", desc := "([CII)[B" } : Jvm.MethodName) jdk_52_method_16_code (6 : Nat) (Option.some (Jvm.ClassFile.FieldType.array Jvm.ClassFile.FieldType.byte)), Jvm.Cond.code ({ cls := "java/lang/StringUTF16", name := "compress", desc := "([CI[BII)I" } : Jvm.MethodName) jdk_52_method_21_code (7 : Nat) (Option.some Jvm.ClassFile.FieldType.int), Jvm.Cond.code ({ cls := "java/lang/StringUTF16", name := "coderFromArrayLen", desc := "([BI)B" } : Jvm.MethodName) jdk_52_method_15_code (2 : Nat) (Option.some Jvm.ClassFile.FieldType.byte), Jvm.Cond.code ({ cls := "java/lang/String", name := "valueOf", desc := "(C)Ljava/lang/String;" } : Jvm.MethodName) jdk_42_method_139_code (1 : Nat) (Option.some (Jvm.ClassFile.FieldType.object "java/lang/String")), Jvm.Cond.code ({ cls := "java/lang/StringLatin1", name := "canEncode", desc := "(C)Z" } : Jvm.MethodName) jdk_43_method_3_code (1 : Nat) (Option.some Jvm.ClassFile.FieldType.boolean), Jvm.Cond.code ({ cls := "java/lang/StringLatin1", name := "toBytes", desc := "(C)[B" } : Jvm.MethodName) jdk_43_method_46_code (1 : Nat) (Option.some (Jvm.ClassFile.FieldType.array Jvm.ClassFile.FieldType.byte)), Jvm.Cond.code ({ cls := "java/lang/String", name := "<init>", desc := "([BB)V" } : Jvm.MethodName) jdk_42_method_151_code (3 : Nat) (Option.none : Option Jvm.ClassFile.FieldType), Jvm.Cond.code ({ cls := "com/example/upper_ward/upperward/auth/SigningChecks", name := "required", desc := "(Ljava/lang/String;Ljava/lang/String;)Ljava/lang/String;" } : Jvm.MethodName) prog_12_method_3_code (2 : Nat) (Option.some (Jvm.ClassFile.FieldType.object "java/lang/String")), Jvm.Cond.code ({ cls := "java/lang/String", name := "isEmpty", desc := "()Z" } : Jvm.MethodName) jdk_42_method_55_code (1 : Nat) (Option.some Jvm.ClassFile.FieldType.boolean), Jvm.Cond.code ({ cls := "java/lang/String", name := "length", desc := "()I" } : Jvm.MethodName) jdk_42_method_54_code (1 : Nat) (Option.some Jvm.ClassFile.FieldType.int), Jvm.Cond.code ({ cls := "java/lang/String", name := "coder", desc := "()B" } : Jvm.MethodName) jdk_42_method_152_code (1 : Nat) (Option.some Jvm.ClassFile.FieldType.byte), Jvm.Cond.code ({ cls := "java/lang/String", name := "charAt", desc := "(I)C" } : Jvm.MethodName) jdk_42_method_56_code (2 : Nat) (Option.some Jvm.ClassFile.FieldType.char), Jvm.Cond.code ({ cls := "java/lang/String", name := "isLatin1", desc := "()Z" } : Jvm.MethodName) jdk_42_method_154_code (1 : Nat) (Option.some Jvm.ClassFile.FieldType.boolean), Jvm.Cond.code ({ cls := "java/lang/StringLatin1", name := "charAt", desc := "([BI)C" } : Jvm.MethodName) jdk_43_method_2_code (2 : Nat) (Option.some Jvm.ClassFile.FieldType.char), Jvm.Cond.code ({ cls := "java/lang/String", name := "checkIndex", desc := "(II)V" } : Jvm.MethodName) jdk_42_method_155_code (2 : Nat) (Option.none : Option Jvm.ClassFile.FieldType), Jvm.Cond.code ({ cls := "jdk/internal/util/Preconditions", name := "checkIndex", desc := "(IILjava/util/function/BiFunction;)I" } : Jvm.MethodName) jdk_41_method_11_code (3 : Nat) (Option.some Jvm.ClassFile.FieldType.int), Jvm.Cond.code ({ cls := "java/lang/StringUTF16", name := "toBytes", desc := "([CII)[B" } : Jvm.MethodName) jdk_52_method_14_code (5 : Nat) (Option.some (Jvm.ClassFile.FieldType.array Jvm.ClassFile.FieldType.byte)), Jvm.Cond.code ({ cls := "java/lang/StringUTF16", name := "newBytesFor", desc := "(I)[B" } : Jvm.MethodName) jdk_52_method_2_code (1 : Nat) (Option.some (Jvm.ClassFile.FieldType.array Jvm.ClassFile.FieldType.byte)), Jvm.Cond.code ({ cls := "java/lang/StringUTF16", name := "newBytesLength", desc := "(I)I" } : Jvm.MethodName) jdk_52_method_3_code (1 : Nat) (Option.some Jvm.ClassFile.FieldType.int), Jvm.Cond.code ({ cls := "java/lang/StringUTF16", name := "putChar", desc := "([BII)V" } : Jvm.MethodName) jdk_52_method_4_code (3 : Nat) (Option.none : Option Jvm.ClassFile.FieldType), Jvm.Cond.code ({ cls := "java/lang/StringUTF16", name := "getChar", desc := "([BI)C" } : Jvm.MethodName) jdk_52_method_5_code (2 : Nat) (Option.some Jvm.ClassFile.FieldType.char), Jvm.Cond.code ({ cls := "java/lang/StringUTF16", name := "toBytes", desc := "(C)[B" } : Jvm.MethodName) jdk_52_method_24_code (2 : Nat) (Option.some (Jvm.ClassFile.FieldType.array Jvm.ClassFile.FieldType.byte)), Jvm.Cond.code ({ cls := "java/lang/StringUTF16", name := "charAt", desc := "([BI)C" } : Jvm.MethodName) jdk_52_method_83_code (2 : Nat) (Option.some Jvm.ClassFile.FieldType.char), Jvm.Cond.code ({ cls := "java/lang/StringUTF16", name := "checkIndex", desc := "(I[B)V" } : Jvm.MethodName) jdk_52_method_91_code (2 : Nat) (Option.none : Option Jvm.ClassFile.FieldType), Jvm.Cond.code ({ cls := "java/lang/StringUTF16", name := "length", desc := "([B)I" } : Jvm.MethodName) jdk_52_method_6_code (1 : Nat) (Option.some Jvm.ClassFile.FieldType.int)]
set_option maxRecDepth 65536 in
theorem codes_eq : words1.filter isCode = codes1 := rfl
theorem w_codes : ∀ c ∈ words1.filter isCode, c.before args0 about1 = true := by
  rw [codes_eq]
  intro c hc
  simp only [codes1, List.mem_cons, List.not_mem_nil, or_false] at hc
  rcases hc with rfl | rfl | rfl | rfl | rfl | rfl | rfl | rfl | rfl | rfl | rfl | rfl | rfl | rfl | rfl | rfl | rfl | rfl | rfl | rfl | rfl | rfl | rfl | rfl | rfl | rfl | rfl | rfl | rfl
  · exact w_c0
  · exact w_c1
  · exact w_c2
  · exact w_c3
  · exact w_c4
  · exact w_c5
  · exact w_c6
  · exact w_c7
  · exact w_c8
  · exact w_c9
  · exact w_c10
  · exact w_c11
  · exact w_c12
  · exact w_c13
  · exact w_c14
  · exact w_c15
  · exact w_c16
  · exact w_c17
  · exact w_c18
  · exact w_c19
  · exact w_c20
  · exact w_c21
  · exact w_c22
  · exact w_c23
  · exact w_c24
  · exact w_c25
  · exact w_c26
  · exact w_c27
  · exact w_c28
set_option maxRecDepth 65536 in
theorem w_t1 : (words1.take 24).all (fun c => isCode c || c.before args0 about1) = true := by decide +kernel
set_option maxRecDepth 65536 in
theorem w_t2 : ((words1.drop 24).take 24).all (fun c => isCode c || c.before args0 about1) = true := by decide +kernel
set_option maxRecDepth 65536 in
theorem w_t3 : (((words1.drop 24).drop 24).take 24).all (fun c => isCode c || c.before args0 about1) = true := by decide +kernel
set_option maxRecDepth 65536 in
theorem w_t4 : ((((words1.drop 24).drop 24).drop 24).take 24).all (fun c => isCode c || c.before args0 about1) = true := by decide +kernel
set_option maxRecDepth 65536 in
theorem w_t5 : (((((words1.drop 24).drop 24).drop 24).drop 24).take 24).all (fun c => isCode c || c.before args0 about1) = true := by decide +kernel
set_option maxRecDepth 65536 in
theorem w_t6 : (((((words1.drop 24).drop 24).drop 24).drop 24).drop 24).all (fun c => isCode c || c.before args0 about1) = true := by decide +kernel
theorem w_tables : (allAtoms (Jvm.Cond.code x code maxLocals ret :: tables_1)).before args0 about1 = true := by
  rw [allAtoms_all]
  show words1.all (fun c => c.before args0 about1) = true
  refine all_split ?_ w_codes
  rw [← List.take_append_drop 24 words1, List.all_append, w_t1, ← List.take_append_drop 24 (words1.drop 24), List.all_append, w_t2, ← List.take_append_drop 24 ((words1.drop 24).drop 24), List.all_append, w_t3, ← List.take_append_drop 24 (((words1.drop 24).drop 24).drop 24), List.all_append, w_t4, ← List.take_append_drop 24 ((((words1.drop 24).drop 24).drop 24).drop 24), List.all_append, w_t5, w_t6]
  rfl
set_option maxRecDepth 65536 in
theorem w_rest : rest_1_c.before args0 about1 = true := by decide +kernel
set_option maxRecDepth 65536 in
theorem w_case : (Jvm.Cond.and given_1 narrow_1).before args0 about1 = true := by decide +kernel
theorem w_applies : (headSpec (Jvm.Cond.code x code maxLocals ret :: tables_1) room_1).applies x e0.platform about1 = true :=
  (Spec.applies_iff w_frames).mpr ⟨w_running, w_runnable, w_alone, w_named, w_hears, w_ripe, w_room, w_tables⟩
theorem atStart : AtStart classFile x code maxLocals ret World_1 tables_1 room_1 Calls_1 rest_1 Pre_1 launch0 p0 e0 about1 theMethod args0 below0 :=
  ⟨lists_1, trivial, launch0.admits_env _ _ _, launch0.least_env, fairChoices_fair.cas, fairChoices_fair.clock, w_frames, w_args, w_heap, w_applies, trivial, w_rest, w_case⟩
end start1
theorem witness_1 : WitnessClaimed_1 := ⟨start1.p0, start1.e0, start1.about1, start1.theMethod, start1.args0, start1.below0, start1.atStart⟩
end Jvm.Pilot.@@N@@
