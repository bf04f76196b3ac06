import JvmDerived
import JvmDerived.Pilot.@@N@@Statement
import JvmDerived.Pilot.@@N@@Code
set_option linter.unusedVariables false
set_option linter.unusedSimpArgs false
namespace Jvm.RoadKit
open Sem ClassFile Op Lib Jvm.Stand Jvm.Free Jvm.LawKit
section New
variable {p : Program} {l : Launch} {e : Env} {R : Room} {s : State} {m : MethodId} {args : Array Value} {below : List Frame} {meth : Method} {c : Code} {T : State} {locs : List Loc} {cells slots : Nat}
theorem retI (X : Stand p l e R s m args below meth c T locs cells slots) (hx : p.tables.exec = Jvm.exec) {pc : Nat} {Ls : Array Slot} {z : Int32} {rest : List Value} (hret : meth.sig.returnType = some .int) (hd : decode c.code pc = .ok (.ireturn, 1)) {fs : List Frame}
    (hl : ∀ (f : JFrame) (acts : List Action), f.method = m → f.locked = none → f.entered = [] → (doReturn e (T.setTop f) acts (some (.int z))).1 = T.setFrames fs) : Steps p.tables e below (T.setTop (mkF m pc Ls (.int z :: rest))) (T.setFrames fs) := by
  have hm' : T.vm.method? m = some meth := X.method'
  have hn : narrow .int (.int z) = .int z := rfl
  show Steps p.tables e below (T.setTop { method := m, pc := pc, locals := Ls, stack := _ :: rest, locked := none }) _
  jvm_step X.here [X.here.top, hx, hd, hm', hret, hn]
  first | (intro acts; rw [hl _ acts rfl rfl rfl]) | rw [hl _ _ rfl rfl rfl]
  exact Steps.refl _
end New
end Jvm.RoadKit
/- laws to paste: Road.backV, Road.lenW, Road.chN, narrow_ch (cut by pick.py; bodies as the Statement names them) -/
namespace Jvm.Pilot.@@N@@
namespace StrChars
open Jvm Sem ClassFile Op Lib Jvm.Stand Jvm.Free.XT Jvm.Free.ALB Jvm.Free.JM Jvm.Free
open Jvm.Lib.Cold (StaticIs)
/-- a char array whose places are chars -/
def Ch (a : Addr) (A : Cell) (U : State) : Prop := Arr .char a A U ∧ Typed .char A
theorem Ch.mv {a : Addr} {A : Cell} {U U' : State} (h : Ch a A U) (hal : U.vm.Alike U'.vm) (hh : U'.heap = U.heap) : Ch a A U' := ⟨h.1.mv hal hh, h.2⟩
theorem Ch.keep {a : Addr} {A : Cell} {U U' : State} (h : Ch a A U) (hal : U.vm.Alike U'.vm) (hk : U'.heap[a]? = some A) : Ch a A U' := ⟨h.1.keep hal hk, h.2⟩
/-- what place i of a char[]'s cell holds -/
def cv (A : Cell) (i : Nat) : Int32 := match A.slots[i]? with | some (.int x) => x | _ => 0
theorem Ch.get {a : Addr} {A : Cell} {U : State} (h : Ch a A U) {i : Nat} (hi : i < A.slots.size) : A.slots[i]? = some (.int (cv A i)) := by
  have e := Array.getElem?_eq_getElem hi
  have f := h.2 i _ e
  unfold cv; rw [e]
  generalize A.slots[i] = v at f
  cases v <;> simp [fits] at f ⊢
/-- the byte that i2b leaves of a char -/
def lo8 (x : Int32) : Int32 := x.toInt8.toInt32
theorem fits_lo8 (y : Int32) : fits .byte (.int (lo8 y)) = true := by
  have h1 := y.toInt8.le_toInt
  have h2 := y.toInt8.toInt_lt
  simp only [lo8, fits, Bool.and_eq_true, decide_eq_true_eq, Int32.le_iff_toInt_le, Int8.toInt_toInt32, show (-128 : Int32).toInt = -128 from by decide, show (127 : Int32).toInt = 127 from by decide]
  omega
/-- A' is A but that each place j of lo .. hi - 1 holds f j -/
def Laid (A A' : Cell) (lo hi : Nat) (f : Nat → Value) : Prop := A'.cls = A.cls ∧ A'.vm = A.vm ∧ A'.slots.size = A.slots.size ∧ ∀ i, A'.slots[i]? = if lo ≤ i ∧ i < hi then some (f i) else A.slots[i]?
theorem Laid.zero (A : Cell) (lo : Nat) (f : Nat → Value) : Laid A A lo (lo + 0) f := ⟨rfl, rfl, rfl, fun i => by rw [if_neg (by omega)]⟩
theorem Laid.step {A Ak : Cell} {lo k : Nat} {f : Nat → Value} {v : Value} (h : Laid A Ak lo k f) (hlo : lo ≤ k) (hk : k < Ak.slots.size) (hv : v = f k) : Laid A (Ak.setSlot k v) lo (k + 1) f := by
  refine ⟨h.1, h.2.1, by simpa [Cell.setSlot] using h.2.2.1, fun i => ?_⟩
  by_cases e : k = i
  · subst e; rw [Cell.slots_setSlot_self v hk, if_pos (by omega), hv]
  · rw [Cell.slots_setSlot_ne v e, h.2.2.2 i]
    by_cases q : lo ≤ i ∧ i < k
    · rw [if_pos q, if_pos (by omega)]
    · rw [if_neg q, if_neg (by omega)]
def U16 : String := "java/lang/StringUTF16"
namespace Cmp5
def yN : MethodName := ⟨"java/lang/StringUTF16", "compress", "([CI[BII)I"⟩
abbrev yB : ByteArray := jdk_52_method_21_code
theorem d0 : decode yB 0 = .ok (.iconst 0, 1) := by decide +kernel
theorem d1 : decode yB 1 = .ok (.istore 5, 2) := by decide +kernel
theorem d3 : decode yB 3 = .ok (.iload 5, 2) := by decide +kernel
theorem d5 : decode yB 5 = .ok (.iload 4, 2) := by decide +kernel
theorem d7 : decode yB 7 = .ok (.if_icmp (.ge) 37, 3) := by decide +kernel
theorem d10 : decode yB 10 = .ok (.aload_n 0, 1) := by decide +kernel
theorem d11 : decode yB 11 = .ok (.iload_n 1, 1) := by decide +kernel
theorem d12 : decode yB 12 = .ok (.caload, 1) := by decide +kernel
theorem d13 : decode yB 13 = .ok (.istore 6, 2) := by decide +kernel
theorem d15 : decode yB 15 = .ok (.iload 6, 2) := by decide +kernel
theorem d17 : decode yB 17 = .ok (.sipush 255, 3) := by decide +kernel
theorem d20 : decode yB 20 = .ok (.if_icmp (.le) 6, 3) := by decide +kernel
theorem d26 : decode yB 26 = .ok (.aload_n 2, 1) := by decide +kernel
theorem d27 : decode yB 27 = .ok (.iload_n 3, 1) := by decide +kernel
theorem d28 : decode yB 28 = .ok (.iload 6, 2) := by decide +kernel
theorem d30 : decode yB 30 = .ok (.i2b, 1) := by decide +kernel
theorem d31 : decode yB 31 = .ok (.bastore, 1) := by decide +kernel
theorem d32 : decode yB 32 = .ok (.iinc 1 1, 3) := by decide +kernel
theorem d35 : decode yB 35 = .ok (.iinc 3 1, 3) := by decide +kernel
theorem d38 : decode yB 38 = .ok (.iinc 5 1, 3) := by decide +kernel
theorem d41 : decode yB 41 = .ok (.goto (-38), 3) := by decide +kernel
theorem d44 : decode yB 44 = .ok (.iload 4, 2) := by decide +kernel
theorem d46 : decode yB 46 = .ok (.ireturn, 1) := by decide +kernel
def site : List Cond := []
def tab : Cond := tabOf yN yB 7 (some .int) site
def P (b : Addr) (A : Cell) (d : Addr) (B : Cell) (o q len : Nat) (args : Array Value) (s : State) : Prop := args = #[.ref b, .int (Int32.ofNat o), .ref d, .int (Int32.ofNat q), .int (Int32.ofNat len)] ∧ Ch b A s ∧ Arr .byte d B s ∧ b ≠ d ∧ o + len ≤ A.slots.size ∧ q + len ≤ B.slots.size ∧ ∀ i, i < len → ¬ 255 < cv A (o + i)
def E (b : Addr) (A : Cell) (d : Addr) (B : Cell) (o q len : Nat) (r : Option Value) (s u : State) : Prop := r = some (.int (Int32.ofNat len)) ∧ ∃ B', Put d B' s u ∧ Laid B B' q (q + len) (fun j => Value.int (lo8 (cv A (o + (j - q)))))
/-- no char of the range above 255: len; the places written hold each char's low byte -/
theorem law (l : Launch) (b : Addr) (A : Cell) (d : Addr) (B : Cell) (o q len : Nat) : Law l yN 5 5 0 0 yB 7 (some .int) site (P b A d B o q len) (E b A d B o q len) (copyLocs d q len) 0 0 := by
  refine Law.of_walk (plainFor_of_name (by decide +kernel)) (by decide +kernel) (by decide +kernel) (by decide) (fun _ _ h => by rw [h.1]; rfl) (fun _ U U' hal hh h => ⟨h.1, h.2.1.mv hal hh, h.2.2.1.mv hal hh, h.2.2.2⟩) (fun r U U' V V' h1 hal h2 h => ⟨h.1, h.2.elim fun B' q => ⟨B', q.1.mv h1 h2, q.2⟩⟩) ?_
  intro p e s m args below meth c s₁ X0 hexec hbytes hml hret hlk hnm hown hh0 W hP
  obtain ⟨rfl, hA, hB, hne, l1, l2, hp⟩ := hP
  have c1 : Steps p.tables e below (s₁.setTop (entryFrame m #[.ref b, .int (Int32.ofNat o), .ref d, .int (Int32.ofNat q), .int (Int32.ofNat len)] 7)) (s₁.setTop (mkF m 0 #[.val (.ref b), .val (.int (Int32.ofNat o)), .val (.ref d), .val (.int (Int32.ofNat q)), .val (.int (Int32.ofNat len)), .unset, .unset] [])) := entry rfl
  have hA0 := hA.1.mv X0.warmed.alike hh0
  have hB0 := hB.mv X0.warmed.alike hh0
  have a31 := hA.1.2.2.2
  have c2 : Steps p.tables e below (s₁.setTop (entryFrame m #[.ref b, .int (Int32.ofNat o), .ref d, .int (Int32.ofNat q), .int (Int32.ofNat len)] 7)) (s₁.setTop (mkF m 3 #[.val (.ref b), .val (.int (Int32.ofNat o)), .val (.ref d), .val (.int (Int32.ofNat q)), .val (.int (Int32.ofNat len)), .val (.int 0), .unset] [])) := c1.trans (by
    refine iconstV X0.here hexec rfl 0 (hb hbytes d0) (by decide) ?_
    refine XS.istore X0.here hexec rfl (hb hbytes d1) rfl rfl ?_
    exact Steps.refl _)
  have loop : ∀ (r i : Nat), i + r = len → ∀ (z : Slot), (z = .unset ∨ ∃ w, z = .val w ∧ w.category = 1) → ∀ (Tl : State) (Bk : Cell), Stand p l e { frames := 0, locals := 0, cells := 0, slots := 0 } s m #[.ref b, .int (Int32.ofNat o), .ref d, .int (Int32.ofNat q), .int (Int32.ofNat len)] below meth c Tl ([] ++ copyLocs d q i) 0 0 → Put d Bk s₁ Tl → Laid B Bk q (q + i) (fun j => Value.int (lo8 (cv A (o + (j - q))))) →
      Steps p.tables e below (s₁.setTop (entryFrame m #[.ref b, .int (Int32.ofNat o), .ref d, .int (Int32.ofNat q), .int (Int32.ofNat len)] 7)) (Tl.setTop (mkF m 3 #[.val (.ref b), .val (.int (Int32.ofNat (o + i))), .val (.ref d), .val (.int (Int32.ofNat (q + i))), .val (.int (Int32.ofNat len)), .val (.int (Int32.ofNat i)), z] [])) → ∃ (T' : State) (B' : Cell) (z' : Slot), Stand p l e { frames := 0, locals := 0, cells := 0, slots := 0 } s m #[.ref b, .int (Int32.ofNat o), .ref d, .int (Int32.ofNat q), .int (Int32.ofNat len)] below meth c T' ([] ++ copyLocs d q len) 0 0 ∧ Put d B' s₁ T' ∧ Laid B B' q (q + len) (fun j => Value.int (lo8 (cv A (o + (j - q))))) ∧
      Steps p.tables e below (s₁.setTop (entryFrame m #[.ref b, .int (Int32.ofNat o), .ref d, .int (Int32.ofNat q), .int (Int32.ofNat len)] 7)) (T'.setTop (mkF m 3 #[.val (.ref b), .val (.int (Int32.ofNat (o + len))), .val (.ref d), .val (.int (Int32.ofNat (q + len))), .val (.int (Int32.ofNat len)), .val (.int (Int32.ofNat len)), z'] [])) := by
    intro r
    induction r with
    | zero =>
      intro i hi z hz Tl Bk Xl pl fl cl
      have hil : i = len := by omega
      rw [hil] at Xl fl cl
      exact ⟨Tl, Bk, z, Xl, pl, fl, cl⟩
    | succ r ih =>
      intro i hi z hz Tl Bk Xl pl fl cl
      have all := X0.warmed.alike.symm.trans Xl.warmed.alike
      have hAl := hA0.keep all (pl.other hne hA0.1)
      have hBk := hB0.like all pl.1 fl.1 fl.2.1 fl.2.2.1
      have hlt : q + i < Bk.slots.size := by rw [fl.2.2.1]; omega
      have c3 : Steps p.tables e below (s₁.setTop (entryFrame m #[.ref b, .int (Int32.ofNat o), .ref d, .int (Int32.ofNat q), .int (Int32.ofNat len)] 7)) (Tl.setTop (mkF m 12 #[.val (.ref b), .val (.int (Int32.ofNat (o + i))), .val (.ref d), .val (.int (Int32.ofNat (q + i))), .val (.int (Int32.ofNat len)), .val (.int (Int32.ofNat i)), z] [.int (Int32.ofNat (o + i)), .ref b])) := cl.trans (by
        refine XS.iload Xl.here hexec rfl (hb hbytes d3) rfl ?_
        refine XS.iload Xl.here hexec rfl (hb hbytes d5) rfl ?_
        refine XS.icmpNo Xl.here hexec rfl (hb hbytes d7) rfl (ii_ge_f (lt32 (by omega) (by omega))) ?_
        refine XS.aloadN Xl.here hexec rfl (hb hbytes d10) rfl rfl ?_
        refine XS.iloadN Xl.here hexec rfl (hb hbytes d11) rfl ?_
        exact Steps.refl _)
      have c4 : Steps p.tables e below (s₁.setTop (entryFrame m #[.ref b, .int (Int32.ofNat o), .ref d, .int (Int32.ofNat q), .int (Int32.ofNat len)] 7)) (Tl.setTop (mkF m 13 #[.val (.ref b), .val (.int (Int32.ofNat (o + i))), .val (.ref d), .val (.int (Int32.ofNat (q + i))), .val (.int (Int32.ofNat len)), .val (.int (Int32.ofNat i)), z] [.int (cv A (o + i))])) := c3.trans (by
        refine Xl.aget hexec hAl rfl (hA.get (i := o + i) (by omega)) rfl rfl (hb hbytes d12) ?_
        exact Steps.refl _)
      have c5 : Steps p.tables e below (s₁.setTop (entryFrame m #[.ref b, .int (Int32.ofNat o), .ref d, .int (Int32.ofNat q), .int (Int32.ofNat len)] 7)) (Tl.setTop (mkF m 15 #[.val (.ref b), .val (.int (Int32.ofNat (o + i))), .val (.ref d), .val (.int (Int32.ofNat (q + i))), .val (.int (Int32.ofNat len)), .val (.int (Int32.ofNat i)), .val (.int (cv A (o + i)))] [])) := c4.trans (by
        refine XS.istoreS Xl.here hexec rfl (hb hbytes d13) rfl rfl hz ?_
        exact Steps.refl _)
      have c6 : Steps p.tables e below (s₁.setTop (entryFrame m #[.ref b, .int (Int32.ofNat o), .ref d, .int (Int32.ofNat q), .int (Int32.ofNat len)] 7)) (Tl.setTop (mkF m 31 #[.val (.ref b), .val (.int (Int32.ofNat (o + i))), .val (.ref d), .val (.int (Int32.ofNat (q + i))), .val (.int (Int32.ofNat len)), .val (.int (Int32.ofNat i)), .val (.int (cv A (o + i)))] [.int (lo8 (cv A (o + i))), .int (Int32.ofNat (q + i)), .ref d])) := c5.trans (by
        refine XS.iload Xl.here hexec rfl (hb hbytes d15) rfl ?_
        refine sipushV Xl.here hexec rfl 255 (hb hbytes d17) (by decide) ?_
        refine XS.icmpYes Xl.here hexec rfl (pc0 := 20) rfl (hb hbytes d20) rfl (ii_le_t (hp i (by omega))) (by decide) rfl ?_
        refine XS.aloadN Xl.here hexec rfl (hb hbytes d26) rfl rfl ?_
        refine XS.iloadN Xl.here hexec rfl (hb hbytes d27) rfl ?_
        refine XS.iload Xl.here hexec rfl (hb hbytes d28) rfl ?_
        refine i2b Xl.here hexec rfl (hb hbytes d30) rfl ?_
        exact Steps.refl _)
      obtain ⟨T7, X7, p7, st7⟩ := Xl.aput hexec hBk rfl hlt rfl (fits_lo8 (cv A (o + i))) (g := (mkF m 31 #[.val (.ref b), .val (.int (Int32.ofNat (o + i))), .val (.ref d), .val (.int (Int32.ofNat (q + i))), .val (.int (Int32.ofNat len)), .val (.int (Int32.ofNat i)), .val (.int (cv A (o + i)))] [.int (lo8 (cv A (o + i))), .int (Int32.ofNat (q + i)), .ref d])) rfl (rest := []) rfl (hb hbytes d31)
      have c8 : Steps p.tables e below (s₁.setTop (entryFrame m #[.ref b, .int (Int32.ofNat o), .ref d, .int (Int32.ofNat q), .int (Int32.ofNat len)] 7)) (T7.setTop (mkF m 32 #[.val (.ref b), .val (.int (Int32.ofNat (o + i))), .val (.ref d), .val (.int (Int32.ofNat (q + i))), .val (.int (Int32.ofNat len)), .val (.int (Int32.ofNat i)), .val (.int (cv A (o + i)))] [])) := c6.trans (st7 _ (Steps.refl _))
      have c9 : Steps p.tables e below (s₁.setTop (entryFrame m #[.ref b, .int (Int32.ofNat o), .ref d, .int (Int32.ofNat q), .int (Int32.ofNat len)] 7)) (T7.setTop (mkF m 3 #[.val (.ref b), .val (.int (Int32.ofNat (o + i) + 1)), .val (.ref d), .val (.int (Int32.ofNat (q + i) + 1)), .val (.int (Int32.ofNat len)), .val (.int (Int32.ofNat i + 1)), .val (.int (cv A (o + i)))] [])) := c8.trans (by
        refine iincV X7.here hexec rfl 1 (hb hbytes d32) (by decide) rfl rfl ?_
        refine iincV X7.here hexec rfl 1 (hb hbytes d35) (by decide) rfl rfl ?_
        refine iincV X7.here hexec rfl 1 (hb hbytes d38) (by decide) rfl rfl ?_
        refine XS.goto X7.here hexec rfl (pc0 := 41) rfl (hb hbytes d41) (by decide) rfl ?_
        exact Steps.refl _)
      have c10 : Steps p.tables e below (s₁.setTop (entryFrame m #[.ref b, .int (Int32.ofNat o), .ref d, .int (Int32.ofNat q), .int (Int32.ofNat len)] 7)) (T7.setTop (mkF m 3 #[.val (.ref b), .val (.int (Int32.ofNat (o + (i + 1)))), .val (.ref d), .val (.int (Int32.ofNat (q + (i + 1)))), .val (.int (Int32.ofNat len)), .val (.int (Int32.ofNat (i + 1))), .val (.int (cv A (o + i)))] [])) := by
        have := c9
        rw [succ32, succ32, succ32] at this
        exact this
      exact ih (i + 1) (by omega) _ (Or.inr ⟨_, rfl, rfl⟩) T7 _ (by rw [copyLocs_step, ← List.append_assoc]; exact X7) (pl.trans p7) (fl.step (by omega) hlt (by simp)) c10
  obtain ⟨T9, B9, z9, X9, p9, f9, g9⟩ := loop len 0 (by omega) .unset (Or.inl rfl) s₁ B (by simpa [copyLocs] using X0) ⟨hB0.1, fun _ _ => rfl, rfl⟩ (Laid.zero _ _ _) c2
  have c11 : Steps p.tables e below (s₁.setTop (entryFrame m #[.ref b, .int (Int32.ofNat o), .ref d, .int (Int32.ofNat q), .int (Int32.ofNat len)] 7)) (T9.setTop (mkF m 46 #[.val (.ref b), .val (.int (Int32.ofNat (o + len))), .val (.ref d), .val (.int (Int32.ofNat (q + len))), .val (.int (Int32.ofNat len)), .val (.int (Int32.ofNat len)), z9] [.int (Int32.ofNat len)])) := g9.trans (by
    refine XS.iload X9.here hexec rfl (hb hbytes d3) rfl ?_
    refine XS.iload X9.here hexec rfl (hb hbytes d5) rfl ?_
    refine XS.icmpYes X9.here hexec rfl (pc0 := 7) rfl (hb hbytes d7) rfl (ii_ge_t (nlt32 (by omega) (Nat.le_refl _))) (by decide) rfl ?_
    refine XS.iload X9.here hexec rfl (hb hbytes d44) rfl ?_
    exact Steps.refl _)
  exact ⟨T9, some (.int (Int32.ofNat len)), _, _, _, X9, by simp, rfl, rfl, (fun h => by cases h), ⟨rfl, B9, p9.from hh0, f9⟩, fun fs hl => c11.trans (X9.ireturnOut hexec hret rfl (Or.inl rfl) (hb hbytes d46) hl)⟩
end Cmp5
namespace Cmp3
def yN : MethodName := ⟨"java/lang/StringUTF16", "compress", "([CII)[B"⟩
abbrev yB : ByteArray := jdk_52_method_16_code
theorem d0 : decode yB 0 = .ok (.iload_n 2, 1) := by decide +kernel
theorem d1 : decode yB 1 = .ok (.newarray .byte, 2) := by decide +kernel
theorem d3 : decode yB 3 = .ok (.astore_n 3, 1) := by decide +kernel
theorem d4 : decode yB 4 = .ok (.aload_n 0, 1) := by decide +kernel
theorem d5 : decode yB 5 = .ok (.iload_n 1, 1) := by decide +kernel
theorem d6 : decode yB 6 = .ok (.aload_n 3, 1) := by decide +kernel
theorem d7 : decode yB 7 = .ok (.iconst 0, 1) := by decide +kernel
theorem d8 : decode yB 8 = .ok (.iload_n 2, 1) := by decide +kernel
theorem d9 : decode yB 9 = .ok (.invokestatic 115, 3) := by decide +kernel
theorem d12 : decode yB 12 = .ok (.istore 4, 2) := by decide +kernel
theorem d14 : decode yB 14 = .ok (.iload 4, 2) := by decide +kernel
theorem d16 : decode yB 16 = .ok (.iload_n 2, 1) := by decide +kernel
theorem d17 : decode yB 17 = .ok (.if_icmp (.eq) 40, 3) := by decide +kernel
theorem d57 : decode yB 57 = .ok (.aload_n 3, 1) := by decide +kernel
theorem d58 : decode yB 58 = .ok (.areturn, 1) := by decide +kernel
def site : List Cond := [.arrayClass .byte, Cmp5.tab] ++ staticW U16 115 Cmp5.yN
def tab : Cond := tabOf yN yB 6 (some (.array .byte)) site
def P (b : Addr) (A : Cell) (o len : Nat) (args : Array Value) (s : State) : Prop := args = #[.ref b, .int (Int32.ofNat o), .int (Int32.ofNat len)] ∧ Ch b A s ∧ o + len ≤ A.slots.size ∧ len ≤ 536870912 ∧ ∀ i, i < len → ¬ 255 < cv A (o + i)
def E (b : Addr) (A : Cell) (o len : Nat) (r : Option Value) (s u : State) : Prop := NewArr .byte "[B" len (fun j => .int (lo8 (cv A (o + j)))) r s u ∧ u.heap.size = s.heap.size + 1
/-- no char of the range above 255: a new byte[] of their low bytes -/
theorem law (l : Launch) (b : Addr) (A : Cell) (o len : Nat) : Law l yN 3 3 1 18 yB 6 (some (.array .byte)) site (P b A o len) (E b A o len) [] 1 len := by
  refine Law.of_walk (plainFor_of_name (by decide +kernel)) (by decide +kernel) (by decide +kernel) (by decide) (fun _ _ h => by rw [h.1]; rfl) (fun _ U U' hal hh h => ⟨h.1, h.2.1.mv hal hh, h.2.2⟩) (fun r U U' V V' h1 hal h2 h => ⟨NewArr.mv r U U' V V' h1 hal h2 h.1, by rw [h1, h2]; exact h.2⟩) ?_
  intro p e s m args below meth c s₁ X0 hexec hbytes hml hret hlk hnm hown hh0 W hP
  obtain ⟨rfl, hA, l1, l2, hp⟩ := hP
  have a31 := hA.1.2.2.2
  have c1 : Steps p.tables e below (s₁.setTop (entryFrame m #[.ref b, .int (Int32.ofNat o), .int (Int32.ofNat len)] 6)) (s₁.setTop (mkF m 0 #[.val (.ref b), .val (.int (Int32.ofNat o)), .val (.int (Int32.ofNat len)), .unset, .unset, .unset] [])) := entry rfl
  have c2 : Steps p.tables e below (s₁.setTop (entryFrame m #[.ref b, .int (Int32.ofNat o), .int (Int32.ofNat len)] 6)) (s₁.setTop (mkF m 1 #[.val (.ref b), .val (.int (Int32.ofNat o)), .val (.int (Int32.ofNat len)), .unset, .unset, .unset] [.int (Int32.ofNat len)])) := c1.trans (by
    refine XS.iloadN X0.here hexec rfl (hb hbytes d0) rfl ?_
    exact Steps.refl _)
  obtain ⟨T3, B3, X3, ba3, bs3, bv3, bh3, bf3, st3⟩ := X0.anew hexec (atype := .byte) (wk W (.arrayClass .byte)) rfl (by show len * 1 ≤ _; omega) (by omega) (g := (mkF m 1 #[.val (.ref b), .val (.int (Int32.ofNat o)), .val (.int (Int32.ofNat len)), .unset, .unset, .unset] [.int (Int32.ofNat len)])) rfl (hb hbytes d1) (rest := []) rfl (Nat.le_refl _) (by show 0 + len ≤ len; omega)
  rw [hh0] at ba3 st3
  have kp3 : XT.Kept s T3 := (XT.Kept.of_eq hh0).push bh3
  have hA3 := hA.keep X3.warmed.alike (kp3 _ _ hA.1.1)
  have hne : b ≠ s.heap.size := hA.1.ne
  have c4 : Steps p.tables e below (s₁.setTop (entryFrame m #[.ref b, .int (Int32.ofNat o), .int (Int32.ofNat len)] 6)) (T3.setTop (mkF m 3 #[.val (.ref b), .val (.int (Int32.ofNat o)), .val (.int (Int32.ofNat len)), .unset, .unset, .unset] [.ref s.heap.size])) := c2.trans (st3 _ (Steps.refl _))
  have c5 : Steps p.tables e below (s₁.setTop (entryFrame m #[.ref b, .int (Int32.ofNat o), .int (Int32.ofNat len)] 6)) (T3.setTop (mkF m 9 #[.val (.ref b), .val (.int (Int32.ofNat o)), .val (.int (Int32.ofNat len)), .val (.ref s.heap.size), .unset, .unset] [.int (Int32.ofNat len), .int 0, .ref s.heap.size, .int (Int32.ofNat o), .ref b])) := c4.trans (by
    refine XS.astoreN X3.here hexec rfl (hb hbytes d3) rfl rfl rfl ?_
    refine XS.aloadN X3.here hexec rfl (hb hbytes d4) rfl rfl ?_
    refine XS.iloadN X3.here hexec rfl (hb hbytes d5) rfl ?_
    refine XS.aloadN X3.here hexec rfl (hb hbytes d6) rfl rfl ?_
    refine iconstV X3.here hexec rfl 0 (hb hbytes d7) (by decide) ?_
    refine XS.iloadN X3.here hexec rfl (hb hbytes d8) rfl ?_
    exact Steps.refl _)
  obtain ⟨v6, T6, X6, E6, g6⟩ := X3.callS hexec (Cmp5.law l b A s.heap.size B3 o 0 len) hown (wks W (staticW U16 115 Cmp5.yN)) (wk W Cmp5.tab) (W := 0) (Nat.le_of_ble_eq_true rfl) (Nat.le_of_ble_eq_true rfl) (Nat.le_refl _) (by show 0 + len + 0 ≤ len; omega) (g := (mkF m 9 #[.val (.ref b), .val (.int (Int32.ofNat o)), .val (.int (Int32.ofNat len)), .val (.ref s.heap.size), .unset, .unset] [.int (Int32.ofNat len), .int (Int32.ofNat 0), .ref s.heap.size, .int (Int32.ofNat o), .ref b])) rfl (by rw [hml]; rfl) c5 (argsL := [.ref b, .int (Int32.ofNat o), .ref s.heap.size, .int (Int32.ofNat 0), .int (Int32.ofNat len)]) (rest := []) rfl rfl (by show 2 * 0 + 0 ≤ _; decide) (hb hbytes d9) (⟨rfl, hA3, ba3, hne, l1, by rw [bs3]; simp, hp⟩)
  obtain ⟨rfl, B6, p6, f6⟩ := E6
  have c7 : Steps p.tables e below (s₁.setTop (entryFrame m #[.ref b, .int (Int32.ofNat o), .int (Int32.ofNat len)] 6)) (T6.setTop (mkF m 12 #[.val (.ref b), .val (.int (Int32.ofNat o)), .val (.int (Int32.ofNat len)), .val (.ref s.heap.size), .unset, .unset] [.int (Int32.ofNat len)])) := g6
  have c8 : Steps p.tables e below (s₁.setTop (entryFrame m #[.ref b, .int (Int32.ofNat o), .int (Int32.ofNat len)] 6)) (T6.setTop (mkF m 58 #[.val (.ref b), .val (.int (Int32.ofNat o)), .val (.int (Int32.ofNat len)), .val (.ref s.heap.size), .val (.int (Int32.ofNat len)), .unset] [.ref s.heap.size])) := c7.trans (by
    refine XS.istore X6.here hexec rfl (hb hbytes d12) rfl rfl ?_
    refine XS.iload X6.here hexec rfl (hb hbytes d14) rfl ?_
    refine XS.iloadN X6.here hexec rfl (hb hbytes d16) rfl ?_
    refine XS.icmpYes X6.here hexec rfl (pc0 := 17) rfl (hb hbytes d17) rfl (ii_eq_t rfl) (by decide) rfl ?_
    refine XS.aloadN X6.here hexec rfl (hb hbytes d57) rfl rfl ?_
    exact Steps.refl _)
  have X8 := X6.wide (L' := []) (cells' := 1) (slots' := len) (fun x hx hlt => by
    simp only [List.nil_append, copyLocs, List.mem_map, List.mem_range] at hx
    obtain ⟨i, -, rfl⟩ := hx
    exact absurd hlt (Nat.lt_irrefl _)) (Nat.le_refl _) (by omega)
  exact ⟨T6, some (.ref s.heap.size), _, _, _, X8, rfl, rfl, rfl, (fun h => by cases h), ⟨⟨rfl, B6, ba3.like (X3.warmed.alike.symm.trans X6.warmed.alike) p6.1 f6.1 f6.2.1 f6.2.2.1, f6.2.1.trans bv3, by rw [X6.warmed.alike.findClass, f6.1]; exact bf3, by rw [f6.2.2.1, bs3]; simp, fun j hj => by rw [f6.2.2.2 j, if_pos (by omega)]; rfl, kp3.put p6 (Nat.le_refl _)⟩, by rw [p6.2.2, bh3, hh0]; simp⟩, fun fs hl => c8.trans (X8.areturnOut hexec rfl hret rfl (hb hbytes d58) hl)⟩
end Cmp3
namespace CodL
def yN : MethodName := ⟨"java/lang/StringUTF16", "coderFromArrayLen", "([BI)B"⟩
abbrev yB : ByteArray := jdk_52_method_15_code
theorem d0 : decode yB 0 = .ok (.iload_n 1, 1) := by decide +kernel
theorem d1 : decode yB 1 = .ok (.aload_n 0, 1) := by decide +kernel
theorem d2 : decode yB 2 = .ok (.arraylength, 1) := by decide +kernel
theorem d3 : decode yB 3 = .ok (.isub, 1) := by decide +kernel
theorem d4 : decode yB 4 = .ok (.bipush 31, 2) := by decide +kernel
theorem d6 : decode yB 6 = .ok (.iushr, 1) := by decide +kernel
theorem d7 : decode yB 7 = .ok (.i2b, 1) := by decide +kernel
theorem d8 : decode yB 8 = .ok (.ireturn, 1) := by decide +kernel
def site : List Cond := []
def tab : Cond := tabOf yN yB 2 (some .byte) site
def P (d : Addr) (B : Cell) (args : Array Value) (s : State) : Prop := args = #[.ref d, .int (Int32.ofNat B.slots.size)] ∧ Arr .byte d B s
def E (r : Option Value) (s u : State) : Prop := XT.PureE (some (.int 0)) r s u
/-- an array as long as the number of chars: LATIN1 -/
theorem law (l : Launch) (d : Addr) (B : Cell) : Law l yN 2 2 0 0 yB 2 (some .byte) site (P d B) E [] 0 0 := by
  refine Law.of_walk (plainFor_of_name (by decide +kernel)) (by decide +kernel) (by decide +kernel) (by decide) (fun _ _ h => by rw [h.1]; rfl) (fun _ U U' hal hh h => ⟨h.1, h.2.mv hal hh⟩) (fun r U U' V V' h1 hal h2 h => XT.PureE.mv r U U' V V' h1 hal h2 h) ?_
  intro p e s m args below meth c s₁ X0 hexec hbytes hml hret hlk hnm hown hh0 W hP
  obtain ⟨rfl, hB⟩ := hP
  have hB0 := hB.mv X0.warmed.alike hh0
  have c1 : Steps p.tables e below (s₁.setTop (entryFrame m #[.ref d, .int (Int32.ofNat B.slots.size)] 2)) (s₁.setTop (mkF m 0 #[.val (.ref d), .val (.int (Int32.ofNat B.slots.size))] [])) := entry rfl
  have c2 : Steps p.tables e below (s₁.setTop (entryFrame m #[.ref d, .int (Int32.ofNat B.slots.size)] 2)) (s₁.setTop (mkF m 2 #[.val (.ref d), .val (.int (Int32.ofNat B.slots.size))] [.ref d, .int (Int32.ofNat B.slots.size)])) := c1.trans (by
    refine XS.iloadN X0.here hexec rfl (hb hbytes d0) rfl ?_
    refine XS.aloadN X0.here hexec rfl (hb hbytes d1) rfl rfl ?_
    exact Steps.refl _)
  have c3 : Steps p.tables e below (s₁.setTop (entryFrame m #[.ref d, .int (Int32.ofNat B.slots.size)] 2)) (s₁.setTop (mkF m 8 #[.val (.ref d), .val (.int (Int32.ofNat B.slots.size))] [.int (lo8 (ushr (Int32.ofNat B.slots.size - Int32.ofNat B.slots.size) 31))])) := c2.trans (by
    refine X0.alen hexec hB0 rfl rfl (hb hbytes d2) ?_
    refine XS.isub X0.here hexec rfl (hb hbytes d3) rfl ?_
    refine bipushV X0.here hexec rfl 31 (hb hbytes d4) (by decide) ?_
    refine iushr X0.here hexec rfl (hb hbytes d6) rfl ?_
    refine i2b X0.here hexec rfl (hb hbytes d7) rfl ?_
    exact Steps.refl _)
  have e0 : lo8 (ushr (Int32.ofNat B.slots.size - Int32.ofNat B.slots.size) 31) = 0 := by rw [Int32.sub_self]; decide
  rw [e0] at c3
  exact ⟨s₁, some (.int 0), _, _, _, X0, rfl, rfl, rfl, (fun h => by cases h), ⟨rfl, hh0⟩, fun fs hl => c3.trans (X0.ireturnOut hexec hret rfl (Or.inr (Or.inr (Or.inl rfl))) (hb hbytes d8) hl)⟩
end CodL
/-- the String at a is Latin-1 over a new byte[] (the heap's one new cell): the low bytes of the len chars of A from o on; every cell but a is kept -/
def Got (a : Addr) (D : Cell) (fV fC : Field) (A : Cell) (o len : Nat) (r : Option Value) (s u : State) : Prop := r = none ∧ ∃ D' V : Cell, Blank "java/lang/String" a D' u ∧ Same D D' [fV.slot, fC.slot] ∧ D'.slots[fV.slot]? = some (.ref s.heap.size) ∧ D'.slots[fC.slot]? = some (.int 0) ∧ Arr .byte s.heap.size V u ∧ V.vm = .none ∧ u.vm.findClass "[B" = some V.cls ∧ V.slots.size = len ∧ (∀ j, j < len → V.slots[j]? = some (.int (lo8 (cv A (o + j))))) ∧ (∀ (y : Addr) (c : Cell), y ≠ a → s.heap[y]? = some c → u.heap[y]? = some c) ∧ u.heap.size = s.heap.size + 1
theorem Got.mv {a : Addr} {D A : Cell} {fV fC : Field} {o len : Nat} : ∀ r (U U' V V' : State), U'.heap = U.heap → V.vm.Alike V'.vm → V'.heap = V.heap → Got a D fV fC A o len r U V → Got a D fV fC A o len r U' V' :=
  fun r U U' V V' h1 hal h2 ⟨e0, D', X, a1, a2, a3, a4, a5, a6, a7, a8, a9, a10, a11⟩ => ⟨e0, D', X, a1.mv hal h2, a2, by rw [h1]; exact a3, a4, by rw [h1]; exact a5.mv hal h2, a6, by rw [hal.findClass]; exact a7, a8, a9, by rw [h1, h2]; exact a10, by rw [h1, h2]; exact a11⟩
namespace New4
def yN : MethodName := ⟨"java/lang/String", "<init>", "([CIILjava/lang/Void;)V"⟩
abbrev yB : ByteArray := jdk_42_method_149_code
theorem d0 : decode yB 0 = .ok (.aload_n 0, 1) := by decide +kernel
theorem d1 : decode yB 1 = .ok (.invokespecial 1, 3) := by decide +kernel
theorem d4 : decode yB 4 = .ok (.iload_n 3, 1) := by decide +kernel
theorem d5 : decode yB 5 = .ok (.ifCond (.ne) 22, 3) := by decide +kernel
theorem d27 : decode yB 27 = .ok (.getstatic 38, 3) := by decide +kernel
theorem d30 : decode yB 30 = .ok (.ifCond (.eq) 28, 3) := by decide +kernel
theorem d33 : decode yB 33 = .ok (.aload_n 1, 1) := by decide +kernel
theorem d34 : decode yB 34 = .ok (.iload_n 2, 1) := by decide +kernel
theorem d35 : decode yB 35 = .ok (.iload_n 3, 1) := by decide +kernel
theorem d36 : decode yB 36 = .ok (.invokestatic 177, 3) := by decide +kernel
theorem d39 : decode yB 39 = .ok (.astore 5, 2) := by decide +kernel
theorem d41 : decode yB 41 = .ok (.aload_n 0, 1) := by decide +kernel
theorem d42 : decode yB 42 = .ok (.aload 5, 2) := by decide +kernel
theorem d44 : decode yB 44 = .ok (.iload_n 3, 1) := by decide +kernel
theorem d45 : decode yB 45 = .ok (.invokestatic 47, 3) := by decide +kernel
theorem d48 : decode yB 48 = .ok (.putfield 15, 3) := by decide +kernel
theorem d51 : decode yB 51 = .ok (.aload_n 0, 1) := by decide +kernel
theorem d52 : decode yB 52 = .ok (.aload 5, 2) := by decide +kernel
theorem d54 : decode yB 54 = .ok (.putfield 9, 3) := by decide +kernel
theorem d57 : decode yB 57 = .ok (.return_, 1) := by decide +kernel
def site : List Cond := [.fieldLink "java/lang/String" 38 "java/lang/String" "COMPACT_STRINGS" "Z", Cmp3.tab, CodL.tab, .laysFinal "java/lang/String" "java/lang/String" "value" "[B", .fieldLink "java/lang/String" 9 "java/lang/String" "value" "[B", .laysFinal "java/lang/String" "java/lang/String" "coder" "B", .fieldLink "java/lang/String" 15 "java/lang/String" "coder" "B"] ++ objW "java/lang/String" 1 ++ staticW "java/lang/String" 177 Cmp3.yN ++ staticW "java/lang/String" 47 CodL.yN
def tab : Cond := tabOf yN yB 6 none site
def P (a : Addr) (D : Cell) (fV fC : Field) (b : Addr) (A : Cell) (z : Int32) (o len : Nat) (args : Array Value) (s : State) : Prop := args = #[.ref a, .ref b, .int (Int32.ofNat o), .int (Int32.ofNat len), .null] ∧ Blank "java/lang/String" a D s ∧ Found "java/lang/String" "value" "[B" fV s ∧ Found "java/lang/String" "coder" "B" fC s ∧ Ch b A s ∧ StaticIs s "java/lang/String" "COMPACT_STRINGS" "Z" (.int z) ∧ ¬ z = 0 ∧ 0 < len ∧ o + len ≤ A.slots.size ∧ len ≤ 536870912 ∧ ∀ i, i < len → ¬ 255 < cv A (o + i)
def E (a : Addr) (D : Cell) (fV fC : Field) (A : Cell) (o len : Nat) (r : Option Value) (s u : State) : Prop := Got a D fV fC A o len r s u
/-- len > 0, no char of the range above 255: a Latin-1 String of their low bytes -/
theorem law (l : Launch) (a : Addr) (D : Cell) (fV fC : Field) (b : Addr) (A : Cell) (z : Int32) (o len : Nat) : Law l yN 5 4 2 35 yB 6 none site (P a D fV fC b A z o len) (E a D fV fC A o len) [⟨a, fC.slot⟩, ⟨a, fV.slot⟩] 1 len := by
  refine Law.of_walk (plainFor_of_name (by decide +kernel)) (by decide +kernel) (by decide +kernel) (by decide) (fun _ _ h => by rw [h.1]; rfl) (fun _ U U' hal hh h => ⟨h.1, h.2.1.mv hal hh, h.2.2.1.al hal, h.2.2.2.1.al hal, h.2.2.2.2.1.mv hal hh, h.2.2.2.2.2.1.there hal hh, h.2.2.2.2.2.2⟩) (fun r U U' V V' h1 hal h2 h => Got.mv r U U' V V' h1 hal h2 h) ?_
  intro p e s m args below meth c s₁ X0 hexec hbytes hml hret hlk hnm hown hh0 W hP
  obtain ⟨rfl, hB, f1, f2, hA, s1, hz, l0, l1, l2, hp⟩ := hP
  have a31 := hA.1.2.2.2
  have c1 : Steps p.tables e below (s₁.setTop (entryFrame m #[.ref a, .ref b, .int (Int32.ofNat o), .int (Int32.ofNat len), .null] 6)) (s₁.setTop (mkF m 0 #[.val (.ref a), .val (.ref b), .val (.int (Int32.ofNat o)), .val (.int (Int32.ofNat len)), .val .null, .unset] [])) := entry rfl
  have c2 : Steps p.tables e below (s₁.setTop (entryFrame m #[.ref a, .ref b, .int (Int32.ofNat o), .int (Int32.ofNat len), .null] 6)) (s₁.setTop (mkF m 1 #[.val (.ref a), .val (.ref b), .val (.int (Int32.ofNat o)), .val (.int (Int32.ofNat len)), .val .null, .unset] [.ref a])) := c1.trans (by
    refine XS.aloadN X0.here hexec rfl (hb hbytes d0) rfl rfl ?_
    exact Steps.refl _)
  obtain ⟨T3, X3, q3, st3⟩ := X0.oinit hexec hown (wks W (objW "java/lang/String" 1)) (g := (mkF m 1 #[.val (.ref a), .val (.ref b), .val (.int (Int32.ofNat o)), .val (.int (Int32.ofNat len)), .val .null, .unset] [.ref a])) rfl (by rw [hml]; rfl) (rest := []) rfl (hb hbytes d1) (W := 0) (by show 2 * 0 + 0 ≤ _; decide) (Nat.le_of_ble_eq_true rfl) (Nat.le_of_ble_eq_true rfl)
  have hh3 := q3.trans hh0
  have c4 : Steps p.tables e below (s₁.setTop (entryFrame m #[.ref a, .ref b, .int (Int32.ofNat o), .int (Int32.ofNat len), .null] 6)) (T3.setTop (mkF m 27 #[.val (.ref a), .val (.ref b), .val (.int (Int32.ofNat o)), .val (.int (Int32.ofNat len)), .val .null, .unset] [])) := (c2.trans (st3 _ (Steps.refl _))).trans (by
    refine XS.iloadN X3.here hexec rfl (hb hbytes d4) rfl ?_
    refine XS.ifYes X3.here hexec rfl (pc0 := 5) rfl (hb hbytes d5) rfl (i0_ne_t (nz32 (by omega) l0)) (by decide) rfl ?_
    exact Steps.refl _)
  obtain ⟨T5, X5, q5, st5⟩ := X3.sget hexec hown (wk W (.fieldLink "java/lang/String" 38 "java/lang/String" "COMPACT_STRINGS" "Z")) s1 (fun _ _ h => by rw [hh3]; exact h) (g := (mkF m 27 #[.val (.ref a), .val (.ref b), .val (.int (Int32.ofNat o)), .val (.int (Int32.ofNat len)), .val .null, .unset] [])) rfl (hb hbytes d27)
  have hh5 := q5.trans hh3
  have c6 : Steps p.tables e below (s₁.setTop (entryFrame m #[.ref a, .ref b, .int (Int32.ofNat o), .int (Int32.ofNat len), .null] 6)) (T5.setTop (mkF m 30 #[.val (.ref a), .val (.ref b), .val (.int (Int32.ofNat o)), .val (.int (Int32.ofNat len)), .val .null, .unset] [.int z])) := c4.trans (st5 _ (Steps.refl _))
  have c7 : Steps p.tables e below (s₁.setTop (entryFrame m #[.ref a, .ref b, .int (Int32.ofNat o), .int (Int32.ofNat len), .null] 6)) (T5.setTop (mkF m 36 #[.val (.ref a), .val (.ref b), .val (.int (Int32.ofNat o)), .val (.int (Int32.ofNat len)), .val .null, .unset] [.int (Int32.ofNat len), .int (Int32.ofNat o), .ref b])) := c6.trans (by
    refine XS.ifNo X5.here hexec rfl (hb hbytes d30) rfl (i0_eq_f hz) ?_
    refine XS.aloadN X5.here hexec rfl (hb hbytes d33) rfl rfl ?_
    refine XS.iloadN X5.here hexec rfl (hb hbytes d34) rfl ?_
    refine XS.iloadN X5.here hexec rfl (hb hbytes d35) rfl ?_
    exact Steps.refl _)
  obtain ⟨v8, T8, X8, E8, g8⟩ := X5.callS hexec (Cmp3.law l b A o len) hown (wks W (staticW "java/lang/String" 177 Cmp3.yN)) (wk W Cmp3.tab) (W := 0) (Nat.le_of_ble_eq_true rfl) (Nat.le_of_ble_eq_true rfl) (Nat.le_refl _) (by show 0 + len ≤ len; omega) (g := (mkF m 36 #[.val (.ref a), .val (.ref b), .val (.int (Int32.ofNat o)), .val (.int (Int32.ofNat len)), .val .null, .unset] [.int (Int32.ofNat len), .int (Int32.ofNat o), .ref b])) rfl (by rw [hml]; rfl) c7 (argsL := [.ref b, .int (Int32.ofNat o), .int (Int32.ofNat len)]) (rest := []) rfl rfl (by show 2 * 0 + 0 ≤ _; decide) (hb hbytes d36) (⟨rfl, hA.mv X5.warmed.alike hh5, l1, l2, hp⟩)
  obtain ⟨e8, z8⟩ := E8
  obtain ⟨rfl, N, n1, n2, n3, n4, n5, n6⟩ := NewArr.mv _ T5 s _ _ hh5.symm (Vm.Alike.refl _) rfl e8
  rw [hh5] at z8
  have hB1 := hB.keep X8.warmed.alike (n6 _ _ hB.1)
  have hne : s.heap.size ≠ a := (Nat.ne_of_lt (Array.getElem?_eq_some_iff.mp hB.1).1).symm
  have c9 : Steps p.tables e below (s₁.setTop (entryFrame m #[.ref a, .ref b, .int (Int32.ofNat o), .int (Int32.ofNat len), .null] 6)) (T8.setTop (mkF m 39 #[.val (.ref a), .val (.ref b), .val (.int (Int32.ofNat o)), .val (.int (Int32.ofNat len)), .val .null, .unset] [.ref s.heap.size])) := g8
  have c10 : Steps p.tables e below (s₁.setTop (entryFrame m #[.ref a, .ref b, .int (Int32.ofNat o), .int (Int32.ofNat len), .null] 6)) (T8.setTop (mkF m 45 #[.val (.ref a), .val (.ref b), .val (.int (Int32.ofNat o)), .val (.int (Int32.ofNat len)), .val .null, .val (.ref s.heap.size)] [.int (Int32.ofNat N.slots.size), .ref s.heap.size, .ref a])) := by
    have hc : Steps p.tables e below (s₁.setTop (entryFrame m #[.ref a, .ref b, .int (Int32.ofNat o), .int (Int32.ofNat len), .null] 6)) (T8.setTop (mkF m 45 #[.val (.ref a), .val (.ref b), .val (.int (Int32.ofNat o)), .val (.int (Int32.ofNat len)), .val .null, .val (.ref s.heap.size)] [.int (Int32.ofNat len), .ref s.heap.size, .ref a])) := c9.trans (by
      refine XS.astore X8.here hexec rfl (hb hbytes d39) rfl rfl rfl ?_
      refine XS.aloadN X8.here hexec rfl (hb hbytes d41) rfl rfl ?_
      refine XS.aload X8.here hexec rfl (hb hbytes d42) rfl rfl ?_
      refine XS.iloadN X8.here hexec rfl (hb hbytes d44) rfl ?_
      exact Steps.refl _)
    rw [n4]; exact hc
  obtain ⟨v11, T11, X11, E11, g11⟩ := X8.callS hexec (CodL.law l s.heap.size N) hown (wks W (staticW "java/lang/String" 47 CodL.yN)) (wk W CodL.tab) (W := 1) (Nat.le_of_ble_eq_true rfl) (Nat.le_of_ble_eq_true rfl) (Nat.le_refl _) (by show 0 + len + 0 ≤ len; omega) (g := (mkF m 45 #[.val (.ref a), .val (.ref b), .val (.int (Int32.ofNat o)), .val (.int (Int32.ofNat len)), .val .null, .val (.ref s.heap.size)] [.int (Int32.ofNat N.slots.size), .ref s.heap.size, .ref a])) rfl (by rw [hml]; rfl) c10 (argsL := [.ref s.heap.size, .int (Int32.ofNat N.slots.size)]) (rest := [.ref a]) rfl rfl (by show 2 * 0 + (1 + 0) ≤ _; decide) (hb hbytes d45) (⟨rfl, n1⟩)
  obtain ⟨rfl, q11⟩ := E11
  have hB11 := hB1.mv (X8.warmed.alike.symm.trans X11.warmed.alike) q11
  have c12 : Steps p.tables e below (s₁.setTop (entryFrame m #[.ref a, .ref b, .int (Int32.ofNat o), .int (Int32.ofNat len), .null] 6)) (T11.setTop (mkF m 48 #[.val (.ref a), .val (.ref b), .val (.int (Int32.ofNat o)), .val (.int (Int32.ofNat len)), .val .null, .val (.ref s.heap.size)] [.int 0, .ref a])) := g11
  obtain ⟨T13, X13, p13, bl13, sl13, st13⟩ := X11.finit hexec hown (wk W (.fieldLink "java/lang/String" 15 "java/lang/String" "coder" "B")) (Or.inr ⟨_, (wk W (.laysFinal "java/lang/String" "java/lang/String" "coder" "B"))⟩) (Or.inl ⟨rfl, hnm⟩) f2 (Or.inl rfl) hB11 (t := .byte) (by decide +kernel) rfl (g := (mkF m 48 #[.val (.ref a), .val (.ref b), .val (.int (Int32.ofNat o)), .val (.int (Int32.ofNat len)), .val .null, .val (.ref s.heap.size)] [.int 0, .ref a])) rfl (rest := []) rfl (hb hbytes d48)
  have c14 : Steps p.tables e below (s₁.setTop (entryFrame m #[.ref a, .ref b, .int (Int32.ofNat o), .int (Int32.ofNat len), .null] 6)) (T13.setTop (mkF m 54 #[.val (.ref a), .val (.ref b), .val (.int (Int32.ofNat o)), .val (.int (Int32.ofNat len)), .val .null, .val (.ref s.heap.size)] [.ref s.heap.size, .ref a])) := (c12.trans (st13 _ (Steps.refl _))).trans (by
    refine XS.aloadN X13.here hexec rfl (hb hbytes d51) rfl rfl ?_
    refine XS.aload X13.here hexec rfl (hb hbytes d52) rfl rfl ?_
    exact Steps.refl _)
  obtain ⟨T15, X15, p15, bl15, sl15, st15⟩ := X13.finit hexec hown (wk W (.fieldLink "java/lang/String" 9 "java/lang/String" "value" "[B")) (Or.inr ⟨_, (wk W (.laysFinal "java/lang/String" "java/lang/String" "value" "[B"))⟩) (Or.inl ⟨rfl, hnm⟩) f1 (Or.inl rfl) bl13 (t := (.array .byte)) (by decide +kernel) rfl (g := (mkF m 54 #[.val (.ref a), .val (.ref b), .val (.int (Int32.ofNat o)), .val (.int (Int32.ofNat len)), .val .null, .val (.ref s.heap.size)] [.ref s.heap.size, .ref a])) rfl (rest := []) rfl (hb hbytes d54)
  have c16 : Steps p.tables e below (s₁.setTop (entryFrame m #[.ref a, .ref b, .int (Int32.ofNat o), .int (Int32.ofNat len), .null] 6)) (T15.setTop (mkF m 57 #[.val (.ref a), .val (.ref b), .val (.int (Int32.ofNat o)), .val (.int (Int32.ofNat len)), .val .null, .val (.ref s.heap.size)] [])) := c14.trans (st15 _ (Steps.refl _))
  have ap := apart (Or.inr ⟨_, (wk W (.laysFinal "java/lang/String" "java/lang/String" "value" "[B"))⟩) (Or.inr ⟨_, (wk W (.laysFinal "java/lang/String" "java/lang/String" "coder" "B"))⟩) f1 f2 (t₁ := .array .byte) (t₂ := .byte) (by decide +kernel) (by decide +kernel) (by decide)
  have al := X8.warmed.alike.symm.trans X15.warmed.alike
  have n7 : T11.heap[s.heap.size]? = some N := by rw [q11]; exact n1.1
  exact ⟨T15, none, _, _, _, X15, by simp, rfl, by omega, (fun _ => rfl), ⟨rfl, _, N, bl15, ((Same.refl D _).set _ (by simp)).set _ (by simp), sl15, (Cell.slots_setSlot_ne _ ap).trans sl13, n1.keep al (p15.other hne (p13.other hne n7)), n2, by rw [al.findClass]; exact n3, n4, n5, fun y c h1 h2 => p15.other h1 (p13.other h1 (by rw [q11]; exact n6 y c h2)), by rw [p15.2.2, p13.2.2, q11]; exact z8⟩, fun fs hl => c16.trans (X15.returnOut hexec hret (hb hbytes d57) hl)⟩
end New4
namespace New1
def yN : MethodName := ⟨"java/lang/String", "<init>", "([C)V"⟩
abbrev yB : ByteArray := jdk_42_method_3_code
theorem d0 : decode yB 0 = .ok (.aload_n 0, 1) := by decide +kernel
theorem d1 : decode yB 1 = .ok (.aload_n 1, 1) := by decide +kernel
theorem d2 : decode yB 2 = .ok (.iconst 0, 1) := by decide +kernel
theorem d3 : decode yB 3 = .ok (.aload_n 1, 1) := by decide +kernel
theorem d4 : decode yB 4 = .ok (.arraylength, 1) := by decide +kernel
theorem d5 : decode yB 5 = .ok (.aconst_null, 1) := by decide +kernel
theorem d6 : decode yB 6 = .ok (.invokespecial 27, 3) := by decide +kernel
theorem d9 : decode yB 9 = .ok (.return_, 1) := by decide +kernel
def site : List Cond := [New4.tab] ++ initW "java/lang/String" 27 New4.yN
def tab : Cond := tabOf yN yB 2 none site
def P (a : Addr) (D : Cell) (fV fC : Field) (b : Addr) (A : Cell) (z : Int32) (args : Array Value) (s : State) : Prop := args = #[.ref a, .ref b] ∧ Blank "java/lang/String" a D s ∧ Found "java/lang/String" "value" "[B" fV s ∧ Found "java/lang/String" "coder" "B" fC s ∧ Ch b A s ∧ StaticIs s "java/lang/String" "COMPACT_STRINGS" "Z" (.int z) ∧ ¬ z = 0 ∧ 0 < A.slots.size ∧ A.slots.size ≤ 536870912 ∧ ∀ i, i < A.slots.size → ¬ 255 < cv A i
def E (a : Addr) (D : Cell) (fV fC : Field) (A : Cell) (r : Option Value) (s u : State) : Prop := Got a D fV fC A 0 A.slots.size r s u
/-- new String(chars), not empty, no char above 255: a Latin-1 String of their low bytes -/
theorem law (l : Launch) (a : Addr) (D : Cell) (fV fC : Field) (b : Addr) (A : Cell) (z : Int32) : Law l yN 2 1 3 52 yB 2 none site (P a D fV fC b A z) (E a D fV fC A) [⟨a, fC.slot⟩, ⟨a, fV.slot⟩] 1 A.slots.size := by
  refine Law.of_walk (plainFor_of_name (by decide +kernel)) (by decide +kernel) (by decide +kernel) (by decide) (fun _ _ h => by rw [h.1]; rfl) (fun _ U U' hal hh h => ⟨h.1, h.2.1.mv hal hh, h.2.2.1.al hal, h.2.2.2.1.al hal, h.2.2.2.2.1.mv hal hh, h.2.2.2.2.2.1.there hal hh, h.2.2.2.2.2.2⟩) (fun r U U' V V' h1 hal h2 h => Got.mv r U U' V V' h1 hal h2 h) ?_
  intro p e s m args below meth c s₁ X0 hexec hbytes hml hret hlk hnm hown hh0 W hP
  obtain ⟨rfl, hB, f1, f2, hA, s1, hz, l0, l2, hp⟩ := hP
  have c1 : Steps p.tables e below (s₁.setTop (entryFrame m #[.ref a, .ref b] 2)) (s₁.setTop (mkF m 0 #[.val (.ref a), .val (.ref b)] [])) := entry rfl
  have c2 : Steps p.tables e below (s₁.setTop (entryFrame m #[.ref a, .ref b] 2)) (s₁.setTop (mkF m 6 #[.val (.ref a), .val (.ref b)] [.null, .int (Int32.ofNat A.slots.size), .int 0, .ref b, .ref a])) := c1.trans (by
    refine XS.aloadN X0.here hexec rfl (hb hbytes d0) rfl rfl ?_
    refine XS.aloadN X0.here hexec rfl (hb hbytes d1) rfl rfl ?_
    refine iconstV X0.here hexec rfl 0 (hb hbytes d2) (by decide) ?_
    refine XS.aloadN X0.here hexec rfl (hb hbytes d3) rfl rfl ?_
    refine X0.alen hexec (hA.1.mv X0.warmed.alike hh0) rfl rfl (hb hbytes d4) ?_
    refine XS.aconstNull X0.here hexec rfl (hb hbytes d5) ?_
    exact Steps.refl _)
  obtain ⟨v3, T3, X3, E3, g3⟩ := X0.callN hexec (New4.law l a D fV fC b A z 0 A.slots.size) rfl hown (wks W (initW "java/lang/String" 27 New4.yN)) (W New4.tab (by simp only [site, List.mem_cons, List.mem_append, true_or, or_true])) (W := 0) (Nat.le_of_ble_eq_true rfl) (Nat.le_of_ble_eq_true rfl) (Nat.le_refl _) (by show 0 + A.slots.size ≤ A.slots.size; omega) (g := (mkF m 6 #[.val (.ref a), .val (.ref b)] [.null, .int (Int32.ofNat A.slots.size), .int (Int32.ofNat 0), .ref b, .ref a])) rfl (by rw [hml]; rfl) c2 (argsL := [.ref b, .int (Int32.ofNat 0), .int (Int32.ofNat A.slots.size), .null]) (rest := []) rfl rfl (by show 2 * 0 + 0 ≤ _; decide) (hb hbytes d6) (⟨rfl, hB.mv X0.warmed.alike hh0, f1.al X0.warmed.alike, f2.al X0.warmed.alike, hA.mv X0.warmed.alike hh0, s1.there X0.warmed.alike hh0, hz, l0, by omega, l2, fun i hi => by rw [Nat.zero_add]; exact hp i hi⟩)
  have e0 := Got.mv _ s₁ s _ _ hh0.symm (Vm.Alike.refl _) rfl E3
  obtain rfl := e0.1
  have c4 : Steps p.tables e below (s₁.setTop (entryFrame m #[.ref a, .ref b] 2)) (T3.setTop (mkF m 9 #[.val (.ref a), .val (.ref b)] [])) := g3
  exact ⟨T3, none, _, _, _, X3, by simp, rfl, by omega, (fun _ => rfl), e0, fun fs hl => c4.trans (X3.returnOut hexec hret (hb hbytes d9) hl)⟩
theorem pays {l : Launch} {R : Room} {p : Program} {e : Env} {below : List Frame} {s : State} {sargs : Array Value} {len W : Nat} (a : Addr) (D : Cell) (fV fC : Field) (b : Addr) (A : Cell) (z : Int32) (htab : tab.before sargs s = true) (hfr : 4 ≤ R.frames) (hlo : W + 65 ≤ R.locals) :
    Back l R p e below s sargs yN len W (fun A₁ a₁ => A₁.cells + 1 ≤ R.cells ∧ A₁.slots + A.slots.size ≤ R.slots ∧ P a D fV fC b A z a₁ A₁.U) (fun A₁ _ v₁ B₁ => E a D fV fC A v₁ A₁.U B₁.U ∧ B₁.locs = A₁.locs ++ [⟨a, fC.slot⟩, ⟨a, fV.slot⟩] ∧ B₁.cells = A₁.cells + 1 ∧ B₁.slots = A₁.slots + A.slots.size) :=
  (law l a D fV fC b A z).pays htab hfr (by omega)
end New1
/-- the byte, read back as charAt reads it, is the char -/
theorem lo8_mask {x : Int32} (h0 : ¬ x < 0) (h1 : ¬ 255 < x) : lo8 x &&& 255 = x := by
  have t : ∀ k : Fin 256, lo8 (Int32.ofNat k.val) &&& 255 = Int32.ofNat k.val := by decide +kernel
  rw [Int32.lt_iff_toInt_lt] at h0 h1
  have e0 : (0 : Int32).toInt = 0 := rfl
  have e1 : (255 : Int32).toInt = 255 := rfl
  obtain ⟨k, hk⟩ : ∃ k : Nat, x.toInt = k := ⟨x.toInt.toNat, by omega⟩
  have hx : x = Int32.ofNat k := Int32.toInt_inj.mp (by rw [hk, Int32.toInt_ofNat_small (by omega)])
  rw [hx]
  exact t ⟨k, by omega⟩
end StrChars
namespace StrChars.Road
open Jvm Sem ClassFile Op Lib Jvm.Stand Jvm.Free Jvm.Free.XT
open Jvm.Lib.Cold (StaticIs)
abbrev ST : String := "java/lang/String"
/-- every table word that New1's law asks, flat -/
abbrev words : List Jvm.Cond := [.code New1.yN New1.yB 2 none, .initialized ST, .methodLink ST 27 New4.yN, .instanceMethod New4.yN,
  .code New4.yN New4.yB 6 none, .fieldLink ST 38 ST "COMPACT_STRINGS" "Z", .laysFinal ST ST "value" "[B", .fieldLink ST 9 ST "value" "[B", .laysFinal ST ST "coder" "B", .fieldLink ST 15 ST "coder" "B",
  .methodLink ST 1 Lib.objectInit, .instanceMethod Lib.objectInit, .code Lib.objectInit ⟨#[0xb1]⟩ 1 none, .methodLink ST 177 Cmp3.yN, .static Cmp3.yN, .methodLink ST 47 CodL.yN, .static CodL.yN,
  .code Cmp3.yN Cmp3.yB 6 (some (.array .byte)), .initialized U16, .arrayClass .byte, .methodLink U16 115 Cmp5.yN, .static Cmp5.yN, .code Cmp5.yN Cmp5.yB 7 (some .int), .code CodL.yN CodL.yB 2 (some .byte)]
theorem tab_of {a : Array Value} {s : State} (h : ∀ w ∈ words, w.before a s = true) : New1.tab.before a s = true := by
  have h5 : Cmp5.tab.before a s = true := unparts (wk h (.code Cmp5.yN Cmp5.yB 7 (some .int))) (wks h (.initialized Cmp5.yN.cls :: Cmp5.site))
  have hc : CodL.tab.before a s = true := unparts (wk h (.code CodL.yN CodL.yB 2 (some .byte))) (wks h (.initialized CodL.yN.cls :: CodL.site))
  have q5 : ∀ w ∈ Cmp5.tab :: words, w.before a s = true := fun w hw => (List.mem_cons.mp hw).elim (fun e => e ▸ h5) (h w)
  have h3 : Cmp3.tab.before a s = true := unparts (wk q5 (.code Cmp3.yN Cmp3.yB 6 (some (.array .byte)))) (wks q5 (.initialized Cmp3.yN.cls :: Cmp3.site))
  have q3 : ∀ w ∈ Cmp3.tab :: CodL.tab :: words, w.before a s = true := fun w hw => (List.mem_cons.mp hw).elim (fun e => e ▸ h3) fun hw => (List.mem_cons.mp hw).elim (fun e => e ▸ hc) (h w)
  have h4 : New4.tab.before a s = true := unparts (wk q3 (.code New4.yN New4.yB 6 none)) (wks q3 (.initialized New4.yN.cls :: New4.site))
  have q4 : ∀ w ∈ New4.tab :: words, w.before a s = true := fun w hw => (List.mem_cons.mp hw).elim (fun e => e ▸ h4) (h w)
  exact unparts (wk q4 (.code New1.yN New1.yB 2 none)) (wks q4 (.initialized New1.yN.cls :: New1.site))
/-- the words ride from the start Z to the walk's own state -/
theorem moved {Z s : State} {a0 args : Array Value} (hZ : Z.Warmed39 s.vm) (hw : ∀ d ∈ words, d.before a0 Z = true) : ∀ d ∈ words, d.before args s = true := fun d hd => by
  have q := hw d hd
  have t : ∀ d ∈ words, d = .arrayClass .byte ∨ (d.onTables && d.keepsFace) = true := by decide +kernel
  rcases t d hd with rfl | t
  · exact RoadKit.mvA hZ q
  · exact RoadKit.mv hZ q t
/-- WHAT COMES BACK, over the tables of the start Z: h the heap at the call, h' behind it -/
def Q (Z : State) (x : Addr) (A : Cell) (h : Heap) (v : Option Value) (h' : Heap) (L : List Loc) : Prop := v = none ∧ (∀ y ∈ L, y.base = x) ∧ RoadKit.Keep h h' [x] ∧ h'.size = h.size + 1 ∧ RoadKit.Exa Z h' x ST ∧ RoadKit.Fld Z h' x ST "value" "[B" (.ref h.size) ∧ RoadKit.Fld Z h' x ST "coder" "B" (.int 0) ∧
  (∃ V : Cell, RoadKit.Arr Z h' h.size V .byte ∧ V.vm = .none ∧ Z.vm.findClass "[B" = some V.cls ∧ V.slots.size = A.slots.size ∧ ∀ j, j < A.slots.size → V.slots[j]? = some (.int (lo8 (cv A j)))) ∧
  ∀ (O n d : String) (w : Value), RoadKit.Fld Z h x O n d w → RoadKit.slotOf Z O n d ≠ RoadKit.slotOf Z ST "value" "[B" → RoadKit.slotOf Z O n d ≠ RoadKit.slotOf Z ST "coder" "B" → RoadKit.Fld Z h' x O n d w
/-- **new String(chars) AT A CALL, IN THE ROAD'S FORM**: for specialBack behind newO: x the fresh String, b the char[] with the cell A -/
theorem back {p : Program} {l : Launch} {e : Env} {R : Room} {s : State} {args : Array Value} {below : List Frame} {len W : Nat} {Z : State} {a0 : Array Value} {h : Heap} (hZ : Z.Warmed39 s.vm) (hw : ∀ d ∈ words, d.before a0 Z = true) {kI : Nat} (wi : (Jvm.Cond.instantiable ST kI).before a0 Z = true)
    {x b : Addr} {A : Cell} {z : Int32} {v0 c0 : Value} (E : RoadKit.Exa Z h x ST) (V : RoadKit.Fld Z h x ST "value" "[B" v0) (C : RoadKit.Fld Z h x ST "coder" "B" c0) (K : RoadKit.Arr Z h b A .char) (hty : Typed .char A) (S : RoadKit.Sta Z h ST "COMPACT_STRINGS" "Z" (.int z)) (hz : ¬ z = 0)
    (l0 : 0 < A.slots.size) (l2 : A.slots.size ≤ 536870912) (hp : ∀ i, i < A.slots.size → ¬ 255 < cv A i) (hfr : 4 ≤ R.frames) (hlo : W + 65 ≤ R.locals) :
    Back l R p e below s args New1.yN len W (fun P a => a = #[.ref x, .ref b] ∧ P.U.heap = h ∧ P.cells + 1 ≤ R.cells ∧ P.slots + A.slots.size ≤ R.slots)
      (fun P _ v B => ∃ L, Q Z x A h v B.U.heap L ∧ B.locs = P.locs ++ L ∧ B.cells = P.cells + 1 ∧ B.slots = P.slots + A.slots.size) := by
  intro m meth c P g ig mk a X hg hsize hdg hW hn hp'
  obtain ⟨rfl, rfl, r1, r2⟩ := hp'
  have al : Z.vm.Alike P.U.vm := hZ.alike.trans X.warmed.alike
  obtain ⟨D, cfV, kV, iV, fV, hD, gV, stV, knV, obV, asV, slV⟩ := id V
  obtain ⟨D', cfC, kC, iC, fC, hD', gC, stC, -, -, asC, slC⟩ := id C
  cases hD.symm.trans hD'
  obtain ⟨D2, kD, e1, e2, e3, e4, e5⟩ := id E
  cases hD.symm.trans e1
  obtain ⟨c2, k2, i1, i2, i3, -⟩ := Cond.instantiable_spec wi
  cases e2.symm.trans i1
  cases e3.symm.trans i2
  obtain ⟨kU, u1, u2⟩ := al.2.2 _ _ e3
  have hB : Blank ST x D P.U := ⟨hD, ⟨knV, fun q hq => by rw [hq] at obV; cases obV⟩, by rw [al.findClass]; exact e2, kU, u1, by rw [u2]; exact i3, by rw [u2]; exact e5 i3⟩
  have F1 : Found ST "value" "[B" fV P.U := ⟨SBG.found_only al ⟨cfV, kV, iV, gV⟩, stV⟩
  have F2 : Found ST "coder" "B" fC P.U := ⟨SBG.found_only al ⟨cfC, kC, iC, gC⟩, stC⟩
  have hA : Ch b A P.U := ⟨⟨K.1, State.isArrayOf_alike al K.2.1, K.2.2, by omega⟩, hty⟩
  have hS : StaticIs P.U ST "COMPACT_STRINGS" "Z" (.int z) := by
    obtain ⟨cfS, iS, kS, fS, st, cS, t1, t2, t3, t4, t5, t6, t7⟩ := S
    exact StaticIs.there (s := { Z with heap := P.U.heap }) ⟨cfS, iS, kS, fS, st, cS, t1, t2, t3, t4, t5, (fun q => by rw [q] at t6; cases t6), t7⟩ al rfl
  obtain ⟨v, B, X', ⟨⟨hv, E', V', q1, q2, q3, q4, q5, q6, q7, q8, q9, q10, q11⟩, hl, hc, hs⟩, st⟩ := New1.pays x D fV fC b A z (tab_of (moved hZ hw)) hfr hlo m meth c P g ig mk _ X hg hsize hdg hW hn ⟨r1, r2, rfl, hB, F1, F2, hA, hS, hz, l0, l2, hp⟩
  have al' : Z.vm.Alike B.U.vm := hZ.alike.trans X'.warmed.alike
  have hsz : E'.slots.size = D.slots.size := by
    obtain ⟨-, -, -, kB, w1, w2, w3⟩ := q1
    obtain ⟨kB', y1, y2⟩ := al'.2.2 _ _ e3
    rw [q2.2.1] at w1
    cases w1.symm.trans y1
    rw [w3, e5 i3, y2]
  refine ⟨v, B, X', ⟨_, ⟨hv, ?_, ⟨by omega, fun y cy hy hn' => q10 y cy (by simpa using hn') hy, fun y cy hy => ?_⟩, q11, ⟨E', _, q1.1, by rw [q2.2.1]; exact e2, by rw [q2.2.1]; exact e3, by rw [q2.1]; exact obV, fun _ => by rw [hsz]; exact e5 i3⟩,
    ⟨E', cfV, kV, iV, fV, q1.1, gV, stV, by rw [q2.1]; exact knV, by rw [q2.1]; exact obV, by rw [q2.2.1]; exact asV, q3⟩, ⟨E', cfC, kC, iC, fC, q1.1, gC, stC, by rw [q2.1]; exact knV, by rw [q2.1]; exact obV, by rw [q2.2.1]; exact asC, q4⟩,
    ⟨V', ⟨q5.1, State.isArrayOf_alike al'.symm q5.2.1, q5.2.2.1⟩, q6, by rw [← al'.findClass]; exact q7, q8, fun j hj => by have := q9 j hj; rwa [Nat.zero_add] at this⟩, fun O n d w F n1 n2 => ?_⟩, hl, hc, hs⟩, st⟩
  · intro y hy
    simp only [List.mem_cons, List.not_mem_nil, or_false] at hy
    rcases hy with rfl | rfl <;> rfl
  · by_cases q : y = x
    · subst q
      cases hD.symm.trans hy
      exact ⟨E', q1.1, q2.2.1, q2.1, hsz⟩
    · exact ⟨cy, q10 y cy q hy, rfl, rfl, rfl⟩
  · obtain ⟨D3, cf, k, i, f, g1, g2, g3, g4, g5, g6, g7⟩ := F
    cases hD.symm.trans g1
    simp only [RoadKit.slotOf, g2, gV, gC, Option.map_some, Option.getD_some] at n1 n2
    exact ⟨E', cf, k, i, f, q1.1, g2, g3, by rw [q2.1]; exact g4, by rw [q2.1]; exact g5, by rw [q2.2.1]; exact g6, by rw [q2.2.2 f.slot (by simp [n1, n2])]; exact g7⟩
end StrChars.Road
namespace StrChars.Road
open Jvm Sem ClassFile Op Lib Jvm.Stand Jvm.Free Jvm.Free.XT
/-- WHAT COMES BACK, the byte[] as a list of values -/
def QA (Z : State) (x : Addr) (zn : Int32) (cs : List Int32) (h : Heap) (v : Option Value) (h' : Heap) (L : List Loc) : Prop := v = none ∧ (∀ y ∈ L, y.base = x) ∧ RoadKit.Keep h h' [x] ∧ h'.size = h.size + 1 ∧ RoadKit.Exa Z h' x ST ∧ RoadKit.Fld Z h' x ST "value" "[B" (.ref h.size) ∧ RoadKit.Fld Z h' x ST "coder" "B" (.int 0) ∧
  (∃ kb, Z.vm.findClass "[B" = some kb ∧ RoadKit.Arv Z h' h.size kb .byte zn (cs.map fun c => .int (lo8 c)) (.int 0)) ∧
  ∀ (O n d : String) (w : Value), RoadKit.Fld Z h x O n d w → RoadKit.slotOf Z O n d ≠ RoadKit.slotOf Z ST "value" "[B" → RoadKit.slotOf Z O n d ≠ RoadKit.slotOf Z ST "coder" "B" → RoadKit.Fld Z h' x O n d w
/-- **new String(chars) AT A CALL, THE ARRAYS AS LISTS**: the char[] at b holds cs, not empty, no char above 255 -/
theorem backArv {p : Program} {l : Launch} {e : Env} {R : Room} {s : State} {args : Array Value} {below : List Frame} {len W : Nat} {Z : State} {a0 : Array Value} {h : Heap} (hZ : Z.Warmed39 s.vm) (hw : ∀ d ∈ words, d.before a0 Z = true) {kI : Nat} (wi : (Jvm.Cond.instantiable ST kI).before a0 Z = true)
    {x b : Addr} {k : ClassId} {zn z : Int32} {cs : List Int32} {dv v0 c0 : Value} (E : RoadKit.Exa Z h x ST) (V : RoadKit.Fld Z h x ST "value" "[B" v0) (C : RoadKit.Fld Z h x ST "coder" "B" c0) (K : RoadKit.Arv Z h b k .char zn (cs.map Value.int) dv) (S : RoadKit.Sta Z h ST "COMPACT_STRINGS" "Z" (.int z)) (hz : ¬ z = 0)
    (hlen : zn.toNatClampNeg = cs.length) (h0 : 0 < cs.length) (hbig : cs.length ≤ 536870912) (hall : ∀ c ∈ cs, ¬ 255 < c) (hfr : 4 ≤ R.frames) (hlo : W + 65 ≤ R.locals) :
    Back l R p e below s args New1.yN len W (fun P a => a = #[.ref x, .ref b] ∧ P.U.heap = h ∧ P.cells + 1 ≤ R.cells ∧ P.slots + cs.length ≤ R.slots)
      (fun P _ v B => ∃ L, QA Z x zn cs h v B.U.heap L ∧ B.locs = P.locs ++ L ∧ B.cells = P.cells + 1 ∧ B.slots = P.slots + cs.length) := by
  obtain ⟨A, K1, K2, K3, K4, K5, K6⟩ := K
  have e : A.slots.size = cs.length := K3.trans hlen
  have hat : ∀ (i : Nat) (hi : i < cs.length), A.slots[i]? = some (.int cs[i]) := fun i hi => by rw [K5 i (by omega)]; simp [List.getD_eq_getElem?_getD, hi]
  have hcv : ∀ (i : Nat) (hi : i < cs.length), cv A i = cs[i] := fun i hi => by unfold cv; rw [hat i hi]
  have hty : Typed .char A := fun i v hv => by
    have hi : i < A.slots.size := (Array.getElem?_eq_some_iff.mp hv).1
    have q := K5 i hi
    rw [hv] at q
    rw [Option.some.inj q]
    exact K6 i hi
  refine Back.mono (back hZ hw wi E V C K1 hty S hz (by omega) (by omega) (fun i hi => by rw [hcv i (by omega)]; exact hall _ (List.getElem_mem _)) hfr hlo) (fun P a hp => ⟨hp.1, hp.2.1, hp.2.2.1, by rw [e]; exact hp.2.2.2⟩) (fun P a v B hp hq => ?_)
  obtain ⟨L, ⟨q1, q2, q3, q4, q5, q6, q7, ⟨V', v1, v2, v3, v4, v5⟩, q9⟩, hl, hc, hs⟩ := hq
  refine ⟨L, ⟨q1, q2, q3, q4, q5, q6, q7, ⟨V'.cls, v3, V', v1, rfl, by rw [v4, e, hlen], K4, fun i hi => ?_, fun i hi => ?_⟩, q9⟩, hl, hc, by rw [hs, e]⟩
  · have hi' : i < cs.length := by omega
    rw [v5 i (by omega), hcv i hi']; simp [List.getD_eq_getElem?_getD, hi']
  · have hi' : i < cs.length := by omega
    simp only [List.getD_eq_getElem?_getD, List.getElem?_map, List.getElem?_eq_getElem hi', Option.map_some, Option.getD_some]
    exact fits_lo8 _
end StrChars.Road
namespace StrChars.Road
open Jvm Sem ClassFile Op Lib Jvm.Stand Jvm.Free Jvm.Free.XT
/-- WHAT COMES BACK, in the writer's own shape -/
def QV (Z : State) (x : Addr) (N : Int32) (bs : List Int32) (h : Heap) (n0 : Nat) (v : Option Value) (h' : Heap) (L : List Loc) : Prop := v = none ∧ RoadKit.Fr n0 L ∧ RoadKit.Keep h h' [x] ∧ RoadKit.Exa Z h' x ST ∧ RoadKit.Fld Z h' x ST "coder" "B" (.int 0) ∧
  ∃ (t : Addr) (kb : ClassId), n0 ≤ t ∧ h.size ≤ t ∧ ¬ t = x ∧ RoadKit.Fld Z h' x ST "value" "[B" (.ref t) ∧ RoadKit.Arv Z h' t kb .byte N (bs.map Value.int) (.int 0)
/-- **new String(chars) AT A CALL, FOR THE WRITER**: a char[] of n known ints, each 0 to 255 -/
theorem backV {p : Program} {l : Launch} {e : Env} {R : Room} {s : State} {args : Array Value} {below : List Frame} {len W : Nat} {Z : State} {a0 : Array Value} {h : Heap} (hZ : Z.Warmed39 s.vm) (hw : ∀ d ∈ words, d.before a0 Z = true) {kI : Nat} (wi : (Jvm.Cond.instantiable ST kI).before a0 Z = true)
    {x b : Addr} {kC : ClassId} {cs bs : List Int32} {d v0 c0 : Value} {z N : Int32} {n n0 : Nat} (hx0 : n0 ≤ x) (hh0 : n0 ≤ h.size) (E : RoadKit.Exa Z h x ST) (V : RoadKit.Fld Z h x ST "value" "[B" v0) (C : RoadKit.Fld Z h x ST "coder" "B" c0) (K : RoadKit.Arv Z h b kC .char N (cs.map Value.int) d) (S : RoadKit.Sta Z h ST "COMPACT_STRINGS" "Z" (.int z)) (hz : ¬ z = 0)
    (hn : cs.length = n) (hN : N = Int32.ofNat n) (l0 : 0 < n) (l2 : n ≤ 4000) (hp : ∀ c ∈ cs, ¬ c < 0 ∧ ¬ (255 : Int32) < c) (hb : bs = cs.map (fun c => c.toInt8.toInt32)) (hfr : 4 ≤ R.frames) (hlo : W + 65 ≤ R.locals) :
    Back l R p e below s args (⟨"java/lang/String", "<init>", "([C)V"⟩ : MethodName) len W (fun P a => a = #[.ref x, .ref b] ∧ P.U.heap = h ∧ P.cells + 1 ≤ R.cells ∧ P.slots + n ≤ R.slots)
      (fun P _ v B => ∃ L, QV Z x N bs h n0 v B.U.heap L ∧ B.locs = P.locs ++ L ∧ B.cells = P.cells + 1 ∧ B.slots = P.slots + n) := by
  subst hn hN hb
  refine Back.mono (backArv hZ hw wi E V C K S hz (n32 (by omega)) l0 (by omega) (fun c hc => (hp c hc).2) hfr hlo) (fun P a hp => hp) (fun P a v B hp hq => ?_)
  obtain ⟨L, ⟨q1, q2, q3, q4, q5, q6, q7, ⟨kb, v1, v2⟩, q9⟩, hl, hc, hs⟩ := hq
  exact ⟨L, ⟨q1, fun y hy => by rw [q2 y hy]; exact hx0, q3, q5, q7, h.size, kb, hh0, Nat.le_refl _, Nat.ne_of_gt E.lt, q6, by rw [List.map_map]; exact v2⟩, hl, hc, hs⟩
end StrChars.Road
namespace StrChars
open Jvm Sem ClassFile Op Lib Jvm.Stand Jvm.Free.XT Jvm.Free.ALB Jvm.Free.JM Jvm.Free
open Jvm.Lib.Cold (StaticIs)
def hi8 (x : Int32) : Int32 := lo8 (x >>> ((8 : Int32) &&& 31))
/-- what StringUTF16.getChar makes of two bytes -/
def pairCh (u v : Int32) : Int32 := (((u &&& 255) <<< ((0 : Int32) &&& 31)) ||| ((v &&& 255) <<< ((8 : Int32) &&& 31))).toUInt32.toUInt16.toUInt32.toInt32
theorem shr0 (c : Int32) : c >>> ((0 : Int32) &&& 31) = c := by
  have e : ((0 : Int32) &&& 31) = 0 := by decide
  rw [e]
  apply Int32.toBitVec_inj.mp
  rw [Int32.toBitVec_shiftRight]
  have e1 : ((0 : Int32).toBitVec.smod 32) = 0#32 := by decide
  rw [e1, BitVec.sshiftRight_eq']
  exact BitVec.sshiftRight_zero
theorem lo8_and (x : Int32) : (lo8 x &&& 255).toBitVec.toNat = x.toBitVec.toNat % 256 := by
  have h : (lo8 x).toBitVec = (x.toBitVec.signExtend 8).signExtend 32 := by rw [lo8, Int8.toBitVec_toInt32, Int32.toBitVec_toInt8]
  rw [Int32.toBitVec_and, BitVec.toNat_and, h]
  have e : ((x.toBitVec.signExtend 8).signExtend 32).toNat % 256 = x.toBitVec.toNat % 256 := by
    rw [BitVec.toNat_signExtend]
    have hlt := x.toBitVec.isLt
    simp only [BitVec.toNat_setWidth, BitVec.toNat_signExtend]
    split <;> split <;> omega
  rw [← e]
  exact Nat.and_two_pow_sub_one_eq_mod _ 8
theorem pair_says {c : Int32} (h0 : ¬ c < 0) (h1 : ¬ 65535 < c) : pairCh (lo8 c) (hi8 c) = c := by
  rw [Int32.lt_iff_toInt_lt] at h0 h1
  have e0 : (0 : Int32).toInt = 0 := rfl
  have e1 : (65535 : Int32).toInt = 65535 := rfl
  have hc : c.toInt = c.toBitVec.toNat := by
    have := c.toBitVec.isLt
    have e : c.toInt = c.toBitVec.toInt := rfl
    rw [e] at h0 h1
    rw [e]
    rw [BitVec.toInt_eq_toNat_cond] at h0 h1 ⊢
    split at h0 <;> split <;> omega
  have hn : c.toBitVec.toNat < 65536 := by omega
  have a1 := lo8_and c
  have a2 : (hi8 c &&& 255).toBitVec.toNat = c.toBitVec.toNat / 256 := by
    rw [hi8, lo8_and]
    have e : ((8 : Int32) &&& 31) = 8 := by decide
    rw [e, Int32.toBitVec_shiftRight]
    have e2 : ((8 : Int32).toBitVec.smod 32) = 8#32 := by decide
    rw [e2, BitVec.sshiftRight_eq', BitVec.toNat_sshiftRight_of_msb_false (by rw [BitVec.msb_eq_false_iff_two_mul_lt]; omega)]
    show c.toBitVec.toNat >>> 8 % 256 = _
    rw [Nat.shiftRight_eq_div_pow]
    omega
  unfold pairCh
  apply Int32.toBitVec_inj.mp
  apply BitVec.eq_of_toNat_eq
  have f0 : ((0 : Int32) &&& 31) = 0 := by decide
  have f8 : ((8 : Int32) &&& 31) = 8 := by decide
  rw [f0, f8]
  have g : (((lo8 c &&& 255) <<< (0 : Int32)) ||| ((hi8 c &&& 255) <<< (8 : Int32))).toBitVec.toNat = c.toBitVec.toNat := by
    rw [Int32.toBitVec_or, Int32.toBitVec_shiftLeft, Int32.toBitVec_shiftLeft]
    have s0 : ((0 : Int32).toBitVec.smod 32) = 0#32 := by decide
    have s8 : ((8 : Int32).toBitVec.smod 32) = 8#32 := by decide
    rw [s0, s8, BitVec.toNat_or]
    simp only [BitVec.shiftLeft_eq', BitVec.toNat_shiftLeft, a1, a2]
    show (c.toBitVec.toNat % 256) <<< 0 % 2 ^ 32 ||| (c.toBitVec.toNat / 256) <<< 8 % 2 ^ 32 = _
    rw [Nat.shiftLeft_zero, Nat.mod_eq_of_lt (show c.toBitVec.toNat % 256 < 2 ^ 32 by omega), Nat.mod_eq_of_lt (show (c.toBitVec.toNat / 256) <<< 8 < 2 ^ 32 by rw [Nat.shiftLeft_eq]; omega), Nat.or_comm, ← Nat.shiftLeft_add_eq_or_of_lt (by omega), Nat.shiftLeft_eq]
    omega
  show BitVec.toNat (((((lo8 c &&& 255) <<< (0 : Int32)) ||| ((hi8 c &&& 255) <<< (8 : Int32))).toBitVec.setWidth 16).setWidth 32) = _
  rw [BitVec.toNat_setWidth, BitVec.toNat_setWidth, g]
  omega
end StrChars
namespace StrChars
open Jvm Sem ClassFile Op Lib Jvm.Stand Jvm.Free.XT Jvm.Free.ALB Jvm.Free.JM Jvm.Free
open Jvm.Lib.Cold (StaticIs)
theorem shr1 {n : Nat} (h : 2 * n < 2 ^ 31) : Int32.ofNat (2 * n) >>> ((1 : Int32) &&& 31) = Int32.ofNat n := by
  have e : ((1 : Int32) &&& 31) = 1 := by decide
  rw [e]
  apply Int32.toBitVec_inj.mp
  rw [Int32.toBitVec_shiftRight]
  have e1 : ((1 : Int32).toBitVec.smod 32) = 1#32 := by decide
  have hm : (BitVec.ofNat 32 (2 * n)).toNat = 2 * n := by rw [BitVec.toNat_ofNat, Nat.mod_eq_of_lt (by omega)]
  rw [e1, BitVec.sshiftRight_eq']
  apply BitVec.eq_of_toNat_eq
  show ((BitVec.ofNat 32 (2 * n)).sshiftRight 1).toNat = (BitVec.ofNat 32 n).toNat
  rw [BitVec.toNat_sshiftRight_of_msb_false (by rw [BitVec.msb_eq_false_iff_two_mul_lt, hm]; omega), hm, BitVec.toNat_ofNat, Nat.shiftRight_eq_div_pow]
  omega
/-- charAt's cast of a byte read back -/
def chr8 (u : Int32) : Int32 := (u &&& 255).toUInt32.toUInt16.toUInt32.toInt32
theorem chr8_lo8 {c : Int32} (h0 : ¬ c < 0) (h1 : ¬ 255 < c) : chr8 (lo8 c) = c := by
  have t : ∀ k : Fin 256, (Int32.ofNat k.val).toUInt32.toUInt16.toUInt32.toInt32 = Int32.ofNat k.val := by decide +kernel
  unfold chr8
  rw [lo8_mask h0 h1]
  rw [Int32.lt_iff_toInt_lt] at h0 h1
  have e0 : (0 : Int32).toInt = 0 := rfl
  have e1 : (255 : Int32).toInt = 255 := rfl
  obtain ⟨k, hk⟩ : ∃ k : Nat, c.toInt = k := ⟨c.toInt.toNat, by omega⟩
  have hx : c = Int32.ofNat k := Int32.toInt_inj.mp (by rw [hk, Int32.toInt_ofNat_small (by omega)])
  rw [hx]
  exact t ⟨k, by omega⟩
theorem narrow_ch {c : Int32} (h0 : ¬ c < 0) (h1 : ¬ 65535 < c) : narrow .char (.int c) = .int c := by
  have q : narrow .char (.int (pairCh (lo8 c) (hi8 c))) = .int (pairCh (lo8 c) (hi8 c)) := narrow_c _
  rwa [pair_says h0 h1] at q
/-- the array's cell V codes the n chars f 0 .. f (n - 1) by the coder cd, as the JDK does: coder 1 just where some char is above 255 -/
def Cod (cd : Int32) (n : Nat) (f : Nat → Int32) (V : Cell) : Prop := (cd = 0 ∧ V.slots.size = n ∧ ∀ j, j < n → V.slots[j]? = some (.int (lo8 (f j))) ∧ ¬ 255 < f j) ∨ (cd = 1 ∧ V.slots.size = 2 * n ∧ (∀ j, j < n → V.slots[2 * j]? = some (.int (lo8 (f j))) ∧ V.slots[2 * j + 1]? = some (.int (hi8 (f j)))) ∧ ∃ j, j < n ∧ 255 < f j)
theorem Cod.cd {cd : Int32} {n : Nat} {f : Nat → Int32} {V : Cell} (h : Cod cd n f V) : cd = 0 ∨ cd = 1 := h.imp (fun q => q.1) fun q => q.1
theorem Cod.len {cd : Int32} {n : Nat} {f : Nat → Int32} {V : Cell} (h : Cod cd n f V) (hs : V.slots.size < 2 ^ 31) : Int32.ofNat V.slots.size >>> (cd &&& 31) = Int32.ofNat n := by
  rcases h with ⟨rfl, h, -⟩ | ⟨rfl, h, -⟩
  · rw [shr0, h]
  · rw [h, shr1 (by omega)]
/-- **x is a String of the n chars f 0 .. f (n - 1)**, Latin-1 or UTF-16; its array at t has the cell V -/
def Txt (x t : Addr) (V : Cell) (cd : Int32) (n : Nat) (f : Nat → Int32) (U : State) : Prop := Exact "java/lang/String" x U ∧ Has x "java/lang/String" "value" "[B" (.ref t) U ∧ Has x "java/lang/String" "coder" "B" (.int cd) U ∧ XT.Arr .byte t V U ∧ Cod cd n f V ∧ ∀ j, j < n → ¬ f j < 0 ∧ ¬ 65535 < f j
theorem Txt.mv {x t : Addr} {V : Cell} {cd : Int32} {n : Nat} {f : Nat → Int32} {U U' : State} (h : Txt x t V cd n f U) (hal : U.vm.Alike U'.vm) (hh : U'.heap = U.heap) : Txt x t V cd n f U' := ⟨h.1.mv hal hh, h.2.1.mv hal hh, h.2.2.1.mv hal hh, h.2.2.2.1.mv hal hh, h.2.2.2.2⟩
namespace Cdr
def yN : MethodName := ⟨"java/lang/String", "coder", "()B"⟩
abbrev yB : ByteArray := jdk_42_method_152_code
theorem d0 : decode yB 0 = .ok (.getstatic 38, 3) := by decide +kernel
theorem d3 : decode yB 3 = .ok (.ifCond (.eq) 10, 3) := by decide +kernel
theorem d6 : decode yB 6 = .ok (.aload_n 0, 1) := by decide +kernel
theorem d7 : decode yB 7 = .ok (.getfield 15, 3) := by decide +kernel
theorem d10 : decode yB 10 = .ok (.goto 4, 3) := by decide +kernel
theorem d14 : decode yB 14 = .ok (.ireturn, 1) := by decide +kernel
def site : List Cond := [.fieldLink "java/lang/String" 38 "java/lang/String" "COMPACT_STRINGS" "Z", .fieldLink "java/lang/String" 15 "java/lang/String" "coder" "B"]
def tab : Cond := tabOf yN yB 1 (some .byte) site
def P (x : Addr) (cd z : Int32) (args : Array Value) (s : State) : Prop := args = #[.ref x] ∧ Has x "java/lang/String" "coder" "B" (.int cd) s ∧ (cd = 0 ∨ cd = 1) ∧ StaticIs s "java/lang/String" "COMPACT_STRINGS" "Z" (.int z) ∧ ¬ z = 0
def E (cd : Int32) (r : Option Value) (s u : State) : Prop := XT.PureE (some (.int cd)) r s u
theorem law (l : Launch) (x : Addr) (cd z : Int32) : Law l yN 1 0 0 0 yB 1 (some .byte) site (P x cd z) (E cd) [] 0 0 := by
  refine Law.of_walk (plainFor_of_name (by decide +kernel)) (by decide +kernel) (by decide +kernel) (by decide) (fun _ _ h => by rw [h.1]; rfl) (fun _ U U' hal hh h => ⟨h.1, h.2.1.mv hal hh, h.2.2.1, h.2.2.2.1.there hal hh, h.2.2.2.2⟩) (fun r U U' V V' h1 hal h2 h => XT.PureE.mv r U U' V V' h1 hal h2 h) ?_
  intro p e s m args below meth c s₁ X0 hexec hbytes hml hret hlk hnm hown hh0 W hP
  obtain ⟨rfl, hx, hc, s1, hz⟩ := hP
  have c1 : Steps p.tables e below (s₁.setTop (entryFrame m #[.ref x] 1)) (s₁.setTop (mkF m 0 #[.val (.ref x)] [])) := entry rfl
  obtain ⟨T2, X2, q2, st2⟩ := X0.sget hexec hown (wk W (.fieldLink "java/lang/String" 38 "java/lang/String" "COMPACT_STRINGS" "Z")) s1 (fun _ _ h => by rw [hh0]; exact h) (g := (mkF m 0 #[.val (.ref x)] [])) rfl (hb hbytes d0)
  have hh2 := q2.trans hh0
  have c3 : Steps p.tables e below (s₁.setTop (entryFrame m #[.ref x] 1)) (T2.setTop (mkF m 7 #[.val (.ref x)] [.ref x])) := (c1.trans (st2 _ (Steps.refl _))).trans (by
    refine XS.ifNo X2.here hexec rfl (hb hbytes d3) rfl (i0_eq_f hz) ?_
    refine XS.aloadN X2.here hexec rfl (hb hbytes d6) rfl rfl ?_
    exact Steps.refl _)
  obtain ⟨T4, X4, q4, st4⟩ := X2.hget hexec hown (wk W (.fieldLink "java/lang/String" 15 "java/lang/String" "coder" "B")) (hx.mv X2.warmed.alike hh2) (g := (mkF m 7 #[.val (.ref x)] [.ref x])) rfl (rest := []) rfl (hb hbytes d7)
  have c5 : Steps p.tables e below (s₁.setTop (entryFrame m #[.ref x] 1)) (T4.setTop (mkF m 14 #[.val (.ref x)] [.int cd])) := (c3.trans (st4 _ (Steps.refl _))).trans (by
    refine XS.goto X4.here hexec rfl (pc0 := 10) rfl (hb hbytes d10) (by decide) rfl ?_
    exact Steps.refl _)
  exact ⟨T4, some (.int cd), _, _, _, X4, rfl, rfl, rfl, (fun h => by cases h), ⟨rfl, q4.trans hh2⟩, fun fs hl => c5.trans (X4.ireturnOut hexec hret (by rcases hc with rfl | rfl <;> rfl) (Or.inr (Or.inr (Or.inl rfl))) (hb hbytes d14) hl)⟩
end Cdr
namespace Len
def yN : MethodName := ⟨"java/lang/String", "length", "()I"⟩
abbrev yB : ByteArray := jdk_42_method_54_code
theorem d0 : decode yB 0 = .ok (.aload_n 0, 1) := by decide +kernel
theorem d1 : decode yB 1 = .ok (.getfield 9, 3) := by decide +kernel
theorem d4 : decode yB 4 = .ok (.arraylength, 1) := by decide +kernel
theorem d5 : decode yB 5 = .ok (.aload_n 0, 1) := by decide +kernel
theorem d6 : decode yB 6 = .ok (.invokevirtual 335, 3) := by decide +kernel
theorem d9 : decode yB 9 = .ok (.ishr, 1) := by decide +kernel
theorem d10 : decode yB 10 = .ok (.ireturn, 1) := by decide +kernel
def site : List Cond := [.fieldLink "java/lang/String" 9 "java/lang/String" "value" "[B", Cdr.tab] ++ virtW "java/lang/String" 335 "java/lang/String" Cdr.yN Cdr.yN
def tab : Cond := tabOf yN yB 1 (some .int) site
def P (x t : Addr) (V : Cell) (cd : Int32) (n : Nat) (f : Nat → Int32) (z : Int32) (args : Array Value) (s : State) : Prop := args = #[.ref x] ∧ Txt x t V cd n f s ∧ StaticIs s "java/lang/String" "COMPACT_STRINGS" "Z" (.int z) ∧ ¬ z = 0
def E (n : Nat) (r : Option Value) (s u : State) : Prop := XT.PureE (some (.int (Int32.ofNat n))) r s u
/-- length() of a String of n chars, in either coding -/
theorem law (l : Launch) (x t : Addr) (V : Cell) (cd : Int32) (n : Nat) (f : Nat → Int32) (z : Int32) : Law l yN 1 0 1 13 yB 1 (some .int) site (P x t V cd n f z) (E n) [] 0 0 := by
  refine Law.of_walk (plainFor_of_name (by decide +kernel)) (by decide +kernel) (by decide +kernel) (by decide) (fun _ _ h => by rw [h.1]; rfl) (fun _ U U' hal hh h => ⟨h.1, h.2.1.mv hal hh, h.2.2.1.there hal hh, h.2.2.2⟩) (fun r U U' V V' h1 hal h2 h => XT.PureE.mv r U U' V V' h1 hal h2 h) ?_
  intro p e s m args below meth c s₁ X0 hexec hbytes hml hret hlk hnm hown hh0 W hP
  obtain ⟨rfl, hx, s1, hz⟩ := hP
  have v31 := hx.2.2.2.1.2.2.2
  have c1 : Steps p.tables e below (s₁.setTop (entryFrame m #[.ref x] 1)) (s₁.setTop (mkF m 1 #[.val (.ref x)] [.ref x])) := Steps.trans (entry rfl) (by
    show Steps p.tables e below (s₁.setTop (mkF m 0 #[.val (.ref x)] [])) _
    refine XS.aloadN X0.here hexec rfl (hb hbytes d0) rfl rfl ?_
    exact Steps.refl _)
  obtain ⟨T2, X2, q2, st2⟩ := X0.hget hexec hown (wk W (.fieldLink "java/lang/String" 9 "java/lang/String" "value" "[B")) (hx.mv X0.warmed.alike hh0).2.1 (g := (mkF m 1 #[.val (.ref x)] [.ref x])) rfl (rest := []) rfl (hb hbytes d1)
  have hh2 := q2.trans hh0
  have hx2 := hx.mv X2.warmed.alike hh2
  have c3 : Steps p.tables e below (s₁.setTop (entryFrame m #[.ref x] 1)) (T2.setTop (mkF m 6 #[.val (.ref x)] [.ref x, .int (Int32.ofNat V.slots.size)])) := (c1.trans (st2 _ (Steps.refl _))).trans (by
    refine X2.alen hexec hx2.2.2.2.1 rfl rfl (hb hbytes d4) ?_
    refine XS.aloadN X2.here hexec rfl (hb hbytes d5) rfl rfl ?_
    exact Steps.refl _)
  obtain ⟨v4, T4, X4, E4, g4⟩ := X2.callV hexec (Cdr.law l x cd z) hown (wks W (virtW "java/lang/String" 335 "java/lang/String" Cdr.yN Cdr.yN)) rfl (by decide) (wk W Cdr.tab) (W := 1) (Nat.le_of_ble_eq_true rfl) (Nat.le_of_ble_eq_true rfl) (Nat.le_refl _) (Nat.le_refl _) (hx2.1.fc X2.warmed.alike) hx2.1.is (g := (mkF m 6 #[.val (.ref x)] [.ref x, .int (Int32.ofNat V.slots.size)])) rfl (by rw [hml]; rfl) c3 (argsL := []) (rest := [.int (Int32.ofNat V.slots.size)]) rfl rfl (by show 2 * 0 + (1 + 0) ≤ _; decide) (hb hbytes d6) (⟨rfl, hx2.2.2.1, hx.2.2.2.2.1.cd, s1.there X2.warmed.alike hh2, hz⟩)
  obtain ⟨rfl, q4⟩ := E4
  have c5 : Steps p.tables e below (s₁.setTop (entryFrame m #[.ref x] 1)) (T4.setTop (mkF m 10 #[.val (.ref x)] [.int (Int32.ofNat V.slots.size >>> (cd &&& 31))])) := Steps.trans g4 (by
    refine ishr X4.here hexec rfl (hb hbytes d9) rfl ?_
    exact Steps.refl _)
  rw [hx.2.2.2.2.1.len v31] at c5
  exact ⟨T4, some (.int (Int32.ofNat n)), _, _, _, X4, rfl, rfl, rfl, (fun h => by cases h), ⟨rfl, q4.trans hh2⟩, fun fs hl => c5.trans (X4.ireturnOut hexec hret rfl (Or.inl rfl) (hb hbytes d10) hl)⟩
theorem pays {l : Launch} {R : Room} {p : Program} {e : Env} {below : List Frame} {s : State} {sargs : Array Value} {len W : Nat} (x t : Addr) (V : Cell) (cd : Int32) (n : Nat) (f : Nat → Int32) (z : Int32) (htab : tab.before sargs s = true) (hfr : 2 ≤ R.frames) (hlo : W + 25 ≤ R.locals) :
    Back l R p e below s sargs yN len W (fun A₁ a₁ => A₁.cells + 0 ≤ R.cells ∧ A₁.slots + 0 ≤ R.slots ∧ P x t V cd n f z a₁ A₁.U) (fun A₁ _ v₁ B₁ => E n v₁ A₁.U B₁.U ∧ B₁.locs = A₁.locs ++ [] ∧ B₁.cells = A₁.cells + 0 ∧ B₁.slots = A₁.slots + 0) :=
  (law l x t V cd n f z).pays htab hfr (by omega)
end Len
namespace IsL
def yN : MethodName := ⟨"java/lang/String", "isLatin1", "()Z"⟩
abbrev yB : ByteArray := jdk_42_method_154_code
theorem d0 : decode yB 0 = .ok (.getstatic 38, 3) := by decide +kernel
theorem d3 : decode yB 3 = .ok (.ifCond (.eq) 14, 3) := by decide +kernel
theorem d6 : decode yB 6 = .ok (.aload_n 0, 1) := by decide +kernel
theorem d7 : decode yB 7 = .ok (.getfield 15, 3) := by decide +kernel
theorem d10 : decode yB 10 = .ok (.ifCond (.ne) 7, 3) := by decide +kernel
theorem d13 : decode yB 13 = .ok (.iconst 1, 1) := by decide +kernel
theorem d14 : decode yB 14 = .ok (.goto 4, 3) := by decide +kernel
theorem d17 : decode yB 17 = .ok (.iconst 0, 1) := by decide +kernel
theorem d18 : decode yB 18 = .ok (.ireturn, 1) := by decide +kernel
def site : List Cond := [.fieldLink "java/lang/String" 38 "java/lang/String" "COMPACT_STRINGS" "Z", .fieldLink "java/lang/String" 15 "java/lang/String" "coder" "B"]
def tab : Cond := tabOf yN yB 1 (some .boolean) site
def P (x : Addr) (cd z : Int32) (args : Array Value) (s : State) : Prop := args = #[.ref x] ∧ Has x "java/lang/String" "coder" "B" (.int cd) s ∧ (cd = 0 ∨ cd = 1) ∧ StaticIs s "java/lang/String" "COMPACT_STRINGS" "Z" (.int z) ∧ ¬ z = 0
def E (cd : Int32) (r : Option Value) (s u : State) : Prop := XT.PureE (some (.int (1 - cd))) r s u
theorem law (l : Launch) (x : Addr) (cd z : Int32) : Law l yN 1 0 0 0 yB 1 (some .boolean) site (P x cd z) (E cd) [] 0 0 := by
  refine Law.of_walk (plainFor_of_name (by decide +kernel)) (by decide +kernel) (by decide +kernel) (by decide) (fun _ _ h => by rw [h.1]; rfl) (fun _ U U' hal hh h => ⟨h.1, h.2.1.mv hal hh, h.2.2.1, h.2.2.2.1.there hal hh, h.2.2.2.2⟩) (fun r U U' V V' h1 hal h2 h => XT.PureE.mv r U U' V V' h1 hal h2 h) ?_
  intro p e s m args below meth c s₁ X0 hexec hbytes hml hret hlk hnm hown hh0 W hP
  obtain ⟨rfl, hx, hc, s1, hz⟩ := hP
  have c1 : Steps p.tables e below (s₁.setTop (entryFrame m #[.ref x] 1)) (s₁.setTop (mkF m 0 #[.val (.ref x)] [])) := entry rfl
  obtain ⟨T2, X2, q2, st2⟩ := X0.sget hexec hown (wk W (.fieldLink "java/lang/String" 38 "java/lang/String" "COMPACT_STRINGS" "Z")) s1 (fun _ _ h => by rw [hh0]; exact h) (g := (mkF m 0 #[.val (.ref x)] [])) rfl (hb hbytes d0)
  have hh2 := q2.trans hh0
  have c3 : Steps p.tables e below (s₁.setTop (entryFrame m #[.ref x] 1)) (T2.setTop (mkF m 7 #[.val (.ref x)] [.ref x])) := (c1.trans (st2 _ (Steps.refl _))).trans (by
    refine XS.ifNo X2.here hexec rfl (hb hbytes d3) rfl (i0_eq_f hz) ?_
    refine XS.aloadN X2.here hexec rfl (hb hbytes d6) rfl rfl ?_
    exact Steps.refl _)
  obtain ⟨T4, X4, q4, st4⟩ := X2.hget hexec hown (wk W (.fieldLink "java/lang/String" 15 "java/lang/String" "coder" "B")) (hx.mv X2.warmed.alike hh2) (g := (mkF m 7 #[.val (.ref x)] [.ref x])) rfl (rest := []) rfl (hb hbytes d7)
  have c5 : Steps p.tables e below (s₁.setTop (entryFrame m #[.ref x] 1)) (T4.setTop (mkF m 10 #[.val (.ref x)] [.int cd])) := c3.trans (st4 _ (Steps.refl _))
  have c6 : Steps p.tables e below (s₁.setTop (entryFrame m #[.ref x] 1)) (T4.setTop (mkF m 18 #[.val (.ref x)] [.int (1 - cd)])) := by
    rcases hc with rfl | rfl
    · exact c5.trans (by
        refine XS.ifNo X4.here hexec rfl (hb hbytes d10) rfl (i0_ne_f rfl) ?_
        refine iconstV X4.here hexec rfl 1 (hb hbytes d13) (by decide) ?_
        refine XS.goto X4.here hexec rfl (pc0 := 14) rfl (hb hbytes d14) (by decide) rfl ?_
        exact Steps.refl _)
    · exact c5.trans (by
        refine XS.ifYes X4.here hexec rfl (pc0 := 10) rfl (hb hbytes d10) rfl (i0_ne_t (by decide)) (by decide) rfl ?_
        refine iconstV X4.here hexec rfl 0 (hb hbytes d17) (by decide) ?_
        exact Steps.refl _)
  exact ⟨T4, some (.int (1 - cd)), _, _, _, X4, rfl, rfl, rfl, (fun h => by cases h), ⟨rfl, q4.trans hh2⟩, fun fs hl => c6.trans (X4.ireturnOut hexec hret (by rcases hc with rfl | rfl <;> rfl) (Or.inr (Or.inl rfl)) (hb hbytes d18) hl)⟩
end IsL
namespace LChA
def yN : MethodName := ⟨"java/lang/StringLatin1", "charAt", "([BI)C"⟩
abbrev yB : ByteArray := jdk_43_method_2_code
theorem d0 : decode yB 0 = .ok (.iload_n 1, 1) := by decide +kernel
theorem d1 : decode yB 1 = .ok (.aload_n 0, 1) := by decide +kernel
theorem d2 : decode yB 2 = .ok (.arraylength, 1) := by decide +kernel
theorem d3 : decode yB 3 = .ok (.invokestatic 9, 3) := by decide +kernel
theorem d6 : decode yB 6 = .ok (.aload_n 0, 1) := by decide +kernel
theorem d7 : decode yB 7 = .ok (.iload_n 1, 1) := by decide +kernel
theorem d8 : decode yB 8 = .ok (.baload, 1) := by decide +kernel
theorem d9 : decode yB 9 = .ok (.sipush 255, 3) := by decide +kernel
theorem d12 : decode yB 12 = .ok (.iand, 1) := by decide +kernel
theorem d13 : decode yB 13 = .ok (.i2c, 1) := by decide +kernel
theorem d14 : decode yB 14 = .ok (.ireturn, 1) := by decide +kernel
def site : List Cond := [JO.Str_checkIndex.tab] ++ staticW "java/lang/StringLatin1" 9 JO.Str_checkIndex.yN
def tab : Cond := tabOf yN yB 2 (some .char) site
def P (t : Addr) (V : Cell) (i : Nat) (u : Int32) (fm : Value) (args : Array Value) (s : State) : Prop := args = #[.ref t, .int (Int32.ofNat i)] ∧ XT.Arr .byte t V s ∧ V.slots[i]? = some (.int u) ∧ (StaticIs s "jdk/internal/util/Preconditions" "SIOOBE_FORMATTER" "Ljava/util/function/BiFunction;" fm ∧ fm.isRef = true)
def E (u : Int32) (r : Option Value) (s w : State) : Prop := XT.PureE (some (.int (chr8 u))) r s w
theorem law (l : Launch) (t : Addr) (V : Cell) (i : Nat) (u : Int32) (fm : Value) : Law l yN 2 2 2 27 yB 2 (some .char) site (P t V i u fm) (E u) [] 0 0 := by
  refine Law.of_walk (plainFor_of_name (by decide +kernel)) (by decide +kernel) (by decide +kernel) (by decide) (fun _ _ h => by rw [h.1]; rfl) (fun _ U U' hal hh h => ⟨h.1, h.2.1.mv hal hh, h.2.2.1, h.2.2.2.1.there hal hh, h.2.2.2.2⟩) (fun r U U' V V' h1 hal h2 h => XT.PureE.mv r U U' V V' h1 hal h2 h) ?_
  intro p e s m args below meth c s₁ X0 hexec hbytes hml hret hlk hnm hown hh0 W hP
  obtain ⟨rfl, hV, hu, s1, rf⟩ := hP
  have v31 := hV.2.2.2
  have hi : i < V.slots.size := (Array.getElem?_eq_some_iff.mp hu).1
  have c1 : Steps p.tables e below (s₁.setTop (entryFrame m #[.ref t, .int (Int32.ofNat i)] 2)) (s₁.setTop (mkF m 0 #[.val (.ref t), .val (.int (Int32.ofNat i))] [])) := entry rfl
  have c2 : Steps p.tables e below (s₁.setTop (entryFrame m #[.ref t, .int (Int32.ofNat i)] 2)) (s₁.setTop (mkF m 3 #[.val (.ref t), .val (.int (Int32.ofNat i))] [.int (Int32.ofNat V.slots.size), .int (Int32.ofNat i)])) := c1.trans (by
    refine XS.iloadN X0.here hexec rfl (hb hbytes d0) rfl ?_
    refine XS.aloadN X0.here hexec rfl (hb hbytes d1) rfl rfl ?_
    refine X0.alen hexec (hV.mv X0.warmed.alike hh0) rfl rfl (hb hbytes d2) ?_
    exact Steps.refl _)
  obtain ⟨v3, T3, X3, E3, g3⟩ := X0.callS hexec (JO.Str_checkIndex.law l (Int32.ofNat i) (Int32.ofNat V.slots.size) fm) hown (wks W (staticW "java/lang/StringLatin1" 9 JO.Str_checkIndex.yN)) (wk W JO.Str_checkIndex.tab) (W := 0) (Nat.le_of_ble_eq_true rfl) (Nat.le_of_ble_eq_true rfl) (Nat.le_refl _) (Nat.le_refl _) (g := (mkF m 3 #[.val (.ref t), .val (.int (Int32.ofNat i))] [.int (Int32.ofNat V.slots.size), .int (Int32.ofNat i)])) rfl (by rw [hml]; rfl) c2 (argsL := [.int (Int32.ofNat i), .int (Int32.ofNat V.slots.size)]) (rest := []) rfl rfl (by show 2 * 0 + 0 ≤ _; decide) (hb hbytes d3) (⟨rfl, rf, s1.there X0.warmed.alike hh0, Int32.ofNat_not_neg (by omega), lt32 v31 hi⟩)
  obtain ⟨rfl, q3⟩ := E3
  have hh3 := q3.trans hh0
  have c4 : Steps p.tables e below (s₁.setTop (entryFrame m #[.ref t, .int (Int32.ofNat i)] 2)) (T3.setTop (mkF m 14 #[.val (.ref t), .val (.int (Int32.ofNat i))] [.int (chr8 u)])) := Steps.trans g3 (by
    refine XS.aloadN X3.here hexec rfl (hb hbytes d6) rfl rfl ?_
    refine XS.iloadN X3.here hexec rfl (hb hbytes d7) rfl ?_
    refine X3.aget hexec (hV.mv X3.warmed.alike hh3) rfl hu rfl rfl (hb hbytes d8) ?_
    refine sipushV X3.here hexec rfl 255 (hb hbytes d9) (by decide) ?_
    refine XS.iand X3.here hexec rfl (hb hbytes d12) rfl ?_
    refine i2c X3.here hexec rfl (hb hbytes d13) rfl ?_
    exact Steps.refl _)
  exact ⟨T3, some (.int (chr8 u)), _, _, _, X3, rfl, rfl, rfl, (fun h => by cases h), ⟨rfl, hh3⟩, fun fs hl => c4.trans (X3.ireturnOut hexec hret (narrow_c _) (Or.inr (Or.inr (Or.inr (Or.inl rfl)))) (hb hbytes d14) hl)⟩
end LChA
end StrChars
namespace StrChars.Road
open Jvm Sem ClassFile Op Lib Jvm.Stand Jvm.Free Jvm.Free.XT
open Jvm.Lib.Cold (StaticIs)
theorem consq {a : Array Value} {s : State} {c : Jvm.Cond} {L : List Jvm.Cond} (h0 : c.before a s = true) (h : ∀ w ∈ L, w.before a s = true) : ∀ w ∈ c :: L, w.before a s = true := fun w hw => (List.mem_cons.mp hw).elim (fun e => e ▸ h0) (h w)
/-- the words of String.length(), either coding -/
abbrev wordsLen : List Jvm.Cond := [.code Len.yN Len.yB 1 (some .int), .initialized ST, .fieldLink ST 9 ST "value" "[B", .fieldLink ST 38 ST "COMPACT_STRINGS" "Z", .fieldLink ST 15 ST "coder" "B", .code Cdr.yN Cdr.yB 1 (some .byte), .methodLink ST 335 Cdr.yN, .declares Cdr.yN, .selects ST Cdr.yN Cdr.yN, .instanceMethod Cdr.yN]
theorem tabLen_of {a : Array Value} {s : State} (h : ∀ w ∈ wordsLen, w.before a s = true) : Len.tab.before a s = true := by
  have hc : Cdr.tab.before a s = true := unparts (wk h (.code Cdr.yN Cdr.yB 1 (some .byte))) (wks h (.initialized Cdr.yN.cls :: Cdr.site))
  have q := consq hc h
  exact unparts (wk q (.code Len.yN Len.yB 1 (some .int))) (wks q (.initialized Len.yN.cls :: Len.site))
theorem movedLen {Z s : State} {a0 args : Array Value} (hZ : Z.Warmed39 s.vm) (hw : ∀ d ∈ wordsLen, d.before a0 Z = true) : ∀ d ∈ wordsLen, d.before args s = true := fun d hd => by
  have q := hw d hd
  have t : ∀ d ∈ wordsLen, d = .arrayClass .byte ∨ (d.onTables && d.keepsFace) = true := by decide +kernel
  rcases t d hd with rfl | t
  · exact RoadKit.mvA hZ q
  · exact RoadKit.mv hZ q t
/-- the bytes of the chars cs, low before high -/
def wideBytes : List Int32 → List Value
  | [] => []
  | c :: cs => .int (lo8 c) :: .int (hi8 c) :: wideBytes cs
theorem wide_lo (d : Value) : ∀ (cs : List Int32) (j : Nat), j < cs.length → (wideBytes cs).getD (2 * j) d = .int (lo8 (cs.getD j 0))
  | [], j, h => absurd h (Nat.not_lt_zero j)
  | c :: cs, 0, _ => rfl
  | c :: cs, j + 1, h => by
    have q := wide_lo d cs j (by simpa using h)
    rw [show 2 * (j + 1) = 2 * j + 1 + 1 from by omega]
    simpa [wideBytes] using q
theorem wide_hi (d : Value) : ∀ (cs : List Int32) (j : Nat), j < cs.length → (wideBytes cs).getD (2 * j + 1) d = .int (hi8 (cs.getD j 0))
  | [], j, h => absurd h (Nat.not_lt_zero j)
  | c :: cs, 0, _ => rfl
  | c :: cs, j + 1, h => by
    have q := wide_hi d cs j (by simpa using h)
    rw [show 2 * (j + 1) + 1 = 2 * j + 1 + 1 + 1 from by omega]
    simpa [wideBytes] using q
theorem low_at (d : Value) (cs : List Int32) (j : Nat) (h : j < cs.length) : (cs.map fun c => Value.int (lo8 c)).getD j d = .int (lo8 (cs.getD j 0)) := by
  simp [List.getD_eq_getElem?_getD, h]
/-- an array of N2 bytes vs codes the chars cs by the coder cd -/
def CodA (cs : List Int32) (cd N2 : Int32) (vs : List Value) : Prop := (cd = 0 ∧ N2 = Int32.ofNat cs.length ∧ vs = (cs.map fun c => Value.int (lo8 c)) ∧ ∀ c ∈ cs, ¬ 255 < c) ∨ (cd = 1 ∧ N2 = Int32.ofNat (2 * cs.length) ∧ vs = wideBytes cs ∧ ∃ c ∈ cs, 255 < c)
theorem CodA.cod {cs : List Int32} {cd N2 : Int32} {vs : List Value} {V : Cell} (h : CodA cs cd N2 vs) (hn : 2 * cs.length < 2 ^ 31) (hs : V.slots.size = N2.toNatClampNeg) (hv : RoadKit.Has V vs (.int 0)) : Cod cd cs.length (fun j => cs.getD j 0) V := by
  rcases h with ⟨rfl, rfl, rfl, h⟩ | ⟨rfl, rfl, rfl, c, hc, hw⟩
  · rw [n32 (by omega)] at hs
    exact Or.inl ⟨rfl, hs, fun j hj => ⟨by rw [hv j (by omega), low_at _ _ _ hj], by
      have e : cs.getD j 0 = cs[j] := by simp [List.getD_eq_getElem?_getD, hj]
      show ¬ 255 < cs.getD j 0
      rw [e]; exact h _ (List.getElem_mem _)⟩⟩
  · rw [n32 (by omega)] at hs
    obtain ⟨j, hj, rfl⟩ := List.getElem_of_mem hc
    exact Or.inr ⟨rfl, hs, fun j hj => ⟨by rw [hv _ (by omega), wide_lo _ _ _ hj], by rw [hv _ (by omega), wide_hi _ _ _ hj]⟩, j, hj, by
      have e : cs.getD j 0 = cs[j] := by simp [List.getD_eq_getElem?_getD, hj]
      show 255 < cs.getD j 0
      rw [e]; exact hw⟩
/-- an object of exactly java/lang/String, its two fields found: as the laws ask it -/
theorem strObj {Z U : State} {a0 : Array Value} {kI : Nat} (wi : (Jvm.Cond.instantiable ST kI).before a0 Z = true) (al : Z.vm.Alike U.vm) {x : Addr} {v0 c0 : Value} (E : RoadKit.Exa Z U.heap x ST) (V : RoadKit.Fld Z U.heap x ST "value" "[B" v0) (C : RoadKit.Fld Z U.heap x ST "coder" "B" c0) :
    ∃ (D : Cell) (fV fC : Field), Blank ST x D U ∧ Found ST "value" "[B" fV U ∧ Found ST "coder" "B" fC U ∧ D.slots[fV.slot]? = some v0 ∧ D.slots[fC.slot]? = some c0 ∧ RoadKit.slotOf Z ST "value" "[B" = fV.slot ∧ RoadKit.slotOf Z ST "coder" "B" = fC.slot := by
  obtain ⟨D, cfV, kV, iV, fV, hD, gV, stV, knV, obV, asV, slV⟩ := V
  obtain ⟨D', cfC, kC, iC, fC, hD', gC, stC, -, -, asC, slC⟩ := C
  cases hD.symm.trans hD'
  obtain ⟨D2, kD, e1, e2, e3, e4, e5⟩ := E
  cases hD.symm.trans e1
  obtain ⟨c2, k2, i1, i2, i3, -⟩ := Cond.instantiable_spec wi
  cases e2.symm.trans i1
  cases e3.symm.trans i2
  obtain ⟨kU, u1, u2⟩ := al.2.2 _ _ e3
  exact ⟨D, fV, fC, ⟨hD, ⟨knV, fun q hq => by rw [hq] at obV; cases obV⟩, by rw [al.findClass]; exact e2, kU, u1, by rw [u2]; exact i3, by rw [u2]; exact e5 i3⟩, ⟨SBG.found_only al ⟨cfV, kV, iV, gV⟩, stV⟩, ⟨SBG.found_only al ⟨cfC, kC, iC, gC⟩, stC⟩, slV, slC, by simp [RoadKit.slotOf, gV], by simp [RoadKit.slotOf, gC]⟩
theorem sta_is {Z U : State} (al : Z.vm.Alike U.vm) {C n d : String} {v : Value} (S : RoadKit.Sta Z U.heap C n d v) : StaticIs U C n d v := by
  obtain ⟨cfS, iS, kS, fS, st, cS, t1, t2, t3, t4, t5, t6, t7⟩ := S
  exact StaticIs.there (s := { Z with heap := U.heap }) ⟨cfS, iS, kS, fS, st, cS, t1, t2, t3, t4, t5, (fun q => by rw [q] at t6; cases t6), t7⟩ al rfl
/-- **length() OF SUCH A STRING** -/
theorem lenW {p : Program} {l : Launch} {e : Env} {R : Room} {s : State} {args : Array Value} {below : List Frame} {len W : Nat} {Z : State} {a0 : Array Value} {h : Heap} (hZ : Z.Warmed39 s.vm) (hw : ∀ d ∈ wordsLen, d.before a0 Z = true) {kI : Nat} (wi : (Jvm.Cond.instantiable ST kI).before a0 Z = true)
    {x t : Addr} {kb : ClassId} {cs : List Int32} {cd N2 z : Int32} {vs : List Value} (E : RoadKit.Exa Z h x ST) (V : RoadKit.Fld Z h x ST "value" "[B" (.ref t)) (C : RoadKit.Fld Z h x ST "coder" "B" (.int cd)) (K : RoadKit.Arv Z h t kb .byte N2 vs (.int 0)) (hc : CodA cs cd N2 vs) (hb : ∀ c ∈ cs, ¬ c < 0 ∧ ¬ (65535 : Int32) < c)
    (S : RoadKit.Sta Z h ST "COMPACT_STRINGS" "Z" (.int z)) (hz : ¬ z = 0) (l2 : cs.length ≤ 4000) (hfr : 2 ≤ R.frames) (hlo : W + 25 ≤ R.locals) :
    Back l R p e below s args (⟨"java/lang/String", "length", "()I"⟩ : MethodName) len W (fun P a => a = #[.ref x] ∧ P.U.heap = h ∧ P.cells + 0 ≤ R.cells ∧ P.slots + 0 ≤ R.slots)
      (fun P _ v B => ∃ L, (v = some (.int (Int32.ofNat cs.length)) ∧ L = [] ∧ B.U.heap = h) ∧ B.locs = P.locs ++ L ∧ B.cells = P.cells + 0 ∧ B.slots = P.slots + 0) := by
  obtain ⟨A, K1, K2, K3, K4, K5, K6⟩ := K
  have hcod := hc.cod (by omega) K3 K5
  intro m meth c P g ig mk a X hg hsize hdg hW hn hp'
  obtain ⟨rfl, rfl, r1, r2⟩ := hp'
  have al : Z.vm.Alike P.U.vm := hZ.alike.trans X.warmed.alike
  obtain ⟨D, fV, fC, hB, F1, F2, g1, g2, -, -⟩ := strObj wi al E V C
  have hx : Txt x t A cd cs.length (fun j => cs.getD j 0) P.U := ⟨⟨_, hB.2.2.1, D, hB.1, rfl, by cases q : D.vm <;> first | rfl | exact absurd q (hB.2.1.2 _)⟩, Has.of hB F1 g1, Has.of hB F2 g2, ⟨K1.1, State.isArrayOf_alike al K1.2.1, K1.2.2, by rcases hcod with ⟨-, q, -⟩ | ⟨-, q, -⟩ <;> omega⟩, hcod, fun j hj => by
    have e : cs.getD j 0 = cs[j] := by simp [List.getD_eq_getElem?_getD, hj]
    show ¬ cs.getD j 0 < 0 ∧ ¬ 65535 < cs.getD j 0
    rw [e]; exact hb _ (List.getElem_mem _)⟩
  obtain ⟨v, B, X', ⟨⟨hv, hh⟩, hl, hk, hs⟩, st⟩ := Len.pays x t A cd cs.length (fun j => cs.getD j 0) z (tabLen_of (movedLen hZ hw)) hfr hlo m meth c P g ig mk _ X hg hsize hdg hW hn ⟨r1, r2, rfl, hx, sta_is al S, hz⟩
  exact ⟨v, B, X', ⟨[], ⟨hv, rfl, hh⟩, hl, hk, hs⟩, st⟩
end StrChars.Road
namespace StrChars.Road
open Jvm Sem ClassFile Op Lib Jvm.Stand Jvm.Free Jvm.Free.XT
open Jvm.Lib.Cold (StaticIs)
/-- the road's facts of a String, as the laws ask it -/
theorem txt_of {Z U : State} {a0 : Array Value} {kI : Nat} (wi : (Jvm.Cond.instantiable ST kI).before a0 Z = true) (al : Z.vm.Alike U.vm) {x t : Addr} {kb : ClassId} {cs : List Int32} {cd N2 : Int32} {vs : List Value} (E : RoadKit.Exa Z U.heap x ST) (V : RoadKit.Fld Z U.heap x ST "value" "[B" (.ref t)) (C : RoadKit.Fld Z U.heap x ST "coder" "B" (.int cd)) (K : RoadKit.Arv Z U.heap t kb .byte N2 vs (.int 0)) (hc : CodA cs cd N2 vs) (hb : ∀ c ∈ cs, ¬ c < 0 ∧ ¬ (65535 : Int32) < c) (l2 : cs.length ≤ 4000) :
    ∃ A, Txt x t A cd cs.length (fun j => cs.getD j 0) U := by
  obtain ⟨A, K1, K2, K3, K4, K5, K6⟩ := K
  have hcod := hc.cod (by omega) K3 K5
  obtain ⟨D, fV, fC, hB, F1, F2, g1, g2, -, -⟩ := strObj wi al E V C
  exact ⟨A, ⟨_, hB.2.2.1, D, hB.1, rfl, by cases q : D.vm <;> first | rfl | exact absurd q (hB.2.1.2 _)⟩, Has.of hB F1 g1, Has.of hB F2 g2, ⟨K1.1, State.isArrayOf_alike al K1.2.1, K1.2.2, by rcases hcod with ⟨-, q, -⟩ | ⟨-, q, -⟩ <;> omega⟩, hcod, fun j hj => by
    have e : cs.getD j 0 = cs[j] := by simp [List.getD_eq_getElem?_getD, hj]
    show ¬ cs.getD j 0 < 0 ∧ ¬ 65535 < cs.getD j 0
    rw [e]; exact hb _ (List.getElem_mem _)⟩
end StrChars.Road
namespace StrChars
open Jvm Sem ClassFile Op Lib Jvm.Stand Jvm.Free.XT Jvm.Free.ALB Jvm.Free.JM Jvm.Free
open Jvm.Lib.Cold (StaticIs)
namespace ChN
def yN : MethodName := ⟨"java/lang/String", "charAt", "(I)C"⟩
abbrev yB : ByteArray := jdk_42_method_56_code
theorem d0 : decode yB 0 = .ok (.aload_n 0, 1) := by decide +kernel
theorem d1 : decode yB 1 = .ok (.invokevirtual 492, 3) := by decide +kernel
theorem d4 : decode yB 4 = .ok (.ifCond (.eq) 12, 3) := by decide +kernel
theorem d7 : decode yB 7 = .ok (.aload_n 0, 1) := by decide +kernel
theorem d8 : decode yB 8 = .ok (.getfield 9, 3) := by decide +kernel
theorem d11 : decode yB 11 = .ok (.iload_n 1, 1) := by decide +kernel
theorem d12 : decode yB 12 = .ok (.invokestatic 495, 3) := by decide +kernel
theorem d15 : decode yB 15 = .ok (.ireturn, 1) := by decide +kernel
def site : List Cond := [.fieldLink "java/lang/String" 9 "java/lang/String" "value" "[B", IsL.tab, LChA.tab] ++ virtW "java/lang/String" 492 "java/lang/String" IsL.yN IsL.yN ++ staticW "java/lang/String" 495 LChA.yN
def tab : Cond := tabOf yN yB 2 (some .char) site
def P (x t : Addr) (V : Cell) (n : Nat) (f : Nat → Int32) (z : Int32) (fm : Value) (i : Nat) (args : Array Value) (s : State) : Prop := args = #[.ref x, .int (Int32.ofNat i)] ∧ Txt x t V 0 n f s ∧ i < n ∧ StaticIs s "java/lang/String" "COMPACT_STRINGS" "Z" (.int z) ∧ ¬ z = 0 ∧ StaticIs s "jdk/internal/util/Preconditions" "SIOOBE_FORMATTER" "Ljava/util/function/BiFunction;" fm ∧ fm.isRef = true
def E (f : Nat → Int32) (i : Nat) (r : Option Value) (s u : State) : Prop := XT.PureE (some (.int (f i))) r s u
/-- charAt(i) of a Latin-1 String of n chars, i < n: f i -/
theorem law (l : Launch) (x t : Addr) (V : Cell) (n : Nat) (f : Nat → Int32) (z : Int32) (fm : Value) (i : Nat) : Law l yN 2 1 3 40 yB 2 (some .char) site (P x t V n f z fm i) (E f i) [] 0 0 := by
  refine Law.of_walk (plainFor_of_name (by decide +kernel)) (by decide +kernel) (by decide +kernel) (by decide) (fun _ _ h => by rw [h.1]; rfl) (fun _ U U' hal hh h => ⟨h.1, h.2.1.mv hal hh, h.2.2.1, h.2.2.2.1.there hal hh, h.2.2.2.2.1, h.2.2.2.2.2.1.there hal hh, h.2.2.2.2.2.2⟩) (fun r U U' V V' h1 hal h2 h => XT.PureE.mv r U U' V V' h1 hal h2 h) ?_
  intro p e s m args below meth c s₁ X0 hexec hbytes hml hret hlk hnm hown hh0 W hP
  obtain ⟨rfl, hx, hi, s1, hz, s3, rf⟩ := hP
  have v31 := hx.2.2.2.1.2.2.2
  have hr := hx.2.2.2.2.2 i hi
  have hx0 := hx.mv X0.warmed.alike hh0
  have c1 : Steps p.tables e below (s₁.setTop (entryFrame m #[.ref x, .int (Int32.ofNat i)] 2)) (s₁.setTop (mkF m 1 #[.val (.ref x), .val (.int (Int32.ofNat i))] [.ref x])) := Steps.trans (entry rfl) (by
    show Steps p.tables e below (s₁.setTop (mkF m 0 #[.val (.ref x), .val (.int (Int32.ofNat i))] [])) _
    refine XS.aloadN X0.here hexec rfl (hb hbytes d0) rfl rfl ?_
    exact Steps.refl _)
  obtain ⟨v2, T2, X2, E2, g2⟩ := X0.callV hexec (IsL.law l x 0 z) hown (wks W (virtW "java/lang/String" 492 "java/lang/String" IsL.yN IsL.yN)) rfl (by decide) (wk W IsL.tab) (W := 0) (Nat.le_of_ble_eq_true rfl) (Nat.le_of_ble_eq_true rfl) (Nat.le_refl _) (Nat.le_refl _) (hx0.1.fc X0.warmed.alike) hx0.1.is (g := (mkF m 1 #[.val (.ref x), .val (.int (Int32.ofNat i))] [.ref x])) rfl (by rw [hml]; rfl) c1 (argsL := []) (rest := []) rfl rfl (by show 2 * 0 + 0 ≤ _; decide) (hb hbytes d1) (⟨rfl, hx0.2.2.1, hx.2.2.2.2.1.cd, s1.there X0.warmed.alike hh0, hz⟩)
  obtain ⟨rfl, q2⟩ := E2
  have hh2 := q2.trans hh0
  have hx2 := hx.mv X2.warmed.alike hh2
  obtain ⟨-, k1, k2⟩ | ⟨k0, -⟩ := hx.2.2.2.2.1
  · have c3 : Steps p.tables e below (s₁.setTop (entryFrame m #[.ref x, .int (Int32.ofNat i)] 2)) (T2.setTop (mkF m 8 #[.val (.ref x), .val (.int (Int32.ofNat i))] [.ref x])) := Steps.trans g2 (by
      refine XS.ifNo X2.here hexec rfl (hb hbytes d4) rfl (i0_eq_f (by decide)) ?_
      refine XS.aloadN X2.here hexec rfl (hb hbytes d7) rfl rfl ?_
      exact Steps.refl _)
    obtain ⟨T4, X4, q4, st4⟩ := X2.hget hexec hown (wk W (.fieldLink "java/lang/String" 9 "java/lang/String" "value" "[B")) hx2.2.1 (g := (mkF m 8 #[.val (.ref x), .val (.int (Int32.ofNat i))] [.ref x])) rfl (rest := []) rfl (hb hbytes d8)
    have hh4 := q4.trans hh2
    have c5 : Steps p.tables e below (s₁.setTop (entryFrame m #[.ref x, .int (Int32.ofNat i)] 2)) (T4.setTop (mkF m 12 #[.val (.ref x), .val (.int (Int32.ofNat i))] [.int (Int32.ofNat i), .ref t])) := (c3.trans (st4 _ (Steps.refl _))).trans (by
      refine XS.iloadN X4.here hexec rfl (hb hbytes d11) rfl ?_
      exact Steps.refl _)
    obtain ⟨v6, T6, X6, E6, g6⟩ := X4.callS hexec (LChA.law l t V i (lo8 (f i)) fm) hown (wks W (staticW "java/lang/String" 495 LChA.yN)) (wk W LChA.tab) (W := 0) (Nat.le_of_ble_eq_true rfl) (Nat.le_of_ble_eq_true rfl) (Nat.le_refl _) (Nat.le_refl _) (g := (mkF m 12 #[.val (.ref x), .val (.int (Int32.ofNat i))] [.int (Int32.ofNat i), .ref t])) rfl (by rw [hml]; rfl) c5 (argsL := [.ref t, .int (Int32.ofNat i)]) (rest := []) rfl rfl (by show 2 * 0 + 0 ≤ _; decide) (hb hbytes d12) (⟨rfl, hx.2.2.2.1.mv X4.warmed.alike hh4, (k2 i hi).1, s3.there X4.warmed.alike hh4, rf⟩)
    obtain ⟨rfl, q6⟩ := E6
    rw [chr8_lo8 hr.1 (k2 i hi).2] at g6
    exact ⟨T6, some (.int (f i)), _, _, _, X6, rfl, rfl, rfl, (fun h => by cases h), ⟨rfl, q6.trans hh4⟩, fun fs hl => Steps.trans g6 (X6.ireturnOut hexec hret (narrow_ch hr.1 hr.2) (Or.inr (Or.inr (Or.inr (Or.inl rfl)))) (hb hbytes d15) hl)⟩
  · exact absurd k0 (by decide)
theorem pays {l : Launch} {R : Room} {p : Program} {e : Env} {below : List Frame} {s : State} {sargs : Array Value} {len W : Nat} (x t : Addr) (V : Cell) (n : Nat) (f : Nat → Int32) (z : Int32) (fm : Value) (i : Nat) (htab : tab.before sargs s = true) (hfr : 4 ≤ R.frames) (hlo : W + 53 ≤ R.locals) :
    Back l R p e below s sargs yN len W (fun A₁ a₁ => A₁.cells + 0 ≤ R.cells ∧ A₁.slots + 0 ≤ R.slots ∧ P x t V n f z fm i a₁ A₁.U) (fun A₁ _ v₁ B₁ => E f i v₁ A₁.U B₁.U ∧ B₁.locs = A₁.locs ++ [] ∧ B₁.cells = A₁.cells + 0 ∧ B₁.slots = A₁.slots + 0) :=
  (law l x t V n f z fm i).pays htab hfr (by omega)
end ChN
end StrChars
namespace StrChars.Road
open Jvm Sem ClassFile Op Lib Jvm.Stand Jvm.Free Jvm.Free.XT
open Jvm.Lib.Cold (StaticIs)
/-- the words of String.charAt(int), the Latin-1 road alone -/
abbrev wordsChN : List Jvm.Cond := [.code ChN.yN ChN.yB 2 (some .char), .initialized ST, .fieldLink ST 9 ST "value" "[B", .fieldLink ST 38 ST "COMPACT_STRINGS" "Z", .fieldLink ST 15 ST "coder" "B", .code IsL.yN IsL.yB 1 (some .boolean), .methodLink ST 492 IsL.yN, .declares IsL.yN, .selects ST IsL.yN IsL.yN, .instanceMethod IsL.yN,
  .methodLink ST 495 LChA.yN, .static LChA.yN, .code LChA.yN LChA.yB 2 (some .char), .initialized "java/lang/StringLatin1", .methodLink "java/lang/StringLatin1" 9 JO.Str_checkIndex.yN, .static JO.Str_checkIndex.yN, .code JO.Str_checkIndex.yN JO.Str_checkIndex.yB 2 none,
  .fieldLink ST 1053 "jdk/internal/util/Preconditions" "SIOOBE_FORMATTER" "Ljava/util/function/BiFunction;", .methodLink ST 1059 JC.PreCheck.yN, .static JC.PreCheck.yN, .code JC.PreCheck.yN JC.PreCheck.yB 3 (some .int), .initialized "jdk/internal/util/Preconditions"]
theorem tabChN_of {a : Array Value} {s : State} (h : ∀ w ∈ wordsChN, w.before a s = true) : ChN.tab.before a s = true := by
  have hp : JC.PreCheck.tab.before a s = true := unparts (wk h (.code JC.PreCheck.yN JC.PreCheck.yB 3 (some .int))) (wks h (.initialized JC.PreCheck.yN.cls :: JC.PreCheck.site))
  have qk := consq hp h
  have hk : JO.Str_checkIndex.tab.before a s = true := unparts (wk qk (.code JO.Str_checkIndex.yN JO.Str_checkIndex.yB 2 none)) (wks qk (.initialized JO.Str_checkIndex.yN.cls :: JO.Str_checkIndex.site))
  have ql := consq hk h
  have hl : LChA.tab.before a s = true := unparts (wk ql (.code LChA.yN LChA.yB 2 (some .char))) (wks ql (.initialized LChA.yN.cls :: LChA.site))
  have hi : IsL.tab.before a s = true := unparts (wk h (.code IsL.yN IsL.yB 1 (some .boolean))) (wks h (.initialized IsL.yN.cls :: IsL.site))
  have q := consq hi (consq hl h)
  exact unparts (wk q (.code ChN.yN ChN.yB 2 (some .char))) (wks q (.initialized ChN.yN.cls :: ChN.site))
theorem movedChN {Z s : State} {a0 args : Array Value} (hZ : Z.Warmed39 s.vm) (hw : ∀ d ∈ wordsChN, d.before a0 Z = true) : ∀ d ∈ wordsChN, d.before args s = true := fun d hd => by
  have t : ∀ d ∈ wordsChN, (d.onTables && d.keepsFace) = true := by decide +kernel
  exact RoadKit.mv hZ (hw d hd) (t d hd)
/-- **charAt(i) OF A LATIN-1 STRING**, i < n: the char -/
theorem chN {p : Program} {l : Launch} {e : Env} {R : Room} {s : State} {args : Array Value} {below : List Frame} {len W : Nat} {Z : State} {a0 : Array Value} {h : Heap} (hZ : Z.Warmed39 s.vm) (hw : ∀ d ∈ wordsChN, d.before a0 Z = true) {kI : Nat} (wi : (Jvm.Cond.instantiable ST kI).before a0 Z = true)
    {x t : Addr} {kb : ClassId} {cs : List Int32} {N2 z : Int32} {vs : List Value} {fm : Value} {i : Nat} {j : Int32} (E : RoadKit.Exa Z h x ST) (V : RoadKit.Fld Z h x ST "value" "[B" (.ref t)) (C : RoadKit.Fld Z h x ST "coder" "B" (.int 0)) (K : RoadKit.Arv Z h t kb .byte N2 vs (.int 0)) (hc : CodA cs 0 N2 vs) (hb : ∀ c ∈ cs, ¬ c < 0 ∧ ¬ (65535 : Int32) < c)
    (S : RoadKit.Sta Z h ST "COMPACT_STRINGS" "Z" (.int z)) (hz : ¬ z = 0) (F : RoadKit.Sta Z h "jdk/internal/util/Preconditions" "SIOOBE_FORMATTER" "Ljava/util/function/BiFunction;" fm) (rf : fm.isRef = true) (l2 : cs.length ≤ 4000) (hi : i < cs.length) (hj : j = Int32.ofNat i) (hfr : 4 ≤ R.frames) (hlo : W + 53 ≤ R.locals) :
    Back l R p e below s args (⟨"java/lang/String", "charAt", "(I)C"⟩ : MethodName) len W (fun P a => a = #[.ref x, .int j] ∧ P.U.heap = h ∧ P.cells + 0 ≤ R.cells ∧ P.slots + 0 ≤ R.slots)
      (fun P _ v B => ∃ L, (v = some (.int (cs.getD i 0)) ∧ L = [] ∧ B.U.heap = h) ∧ B.locs = P.locs ++ L ∧ B.cells = P.cells + 0 ∧ B.slots = P.slots + 0) := by
  subst hj
  intro m meth c P g ig mk a X hg hsize hdg hW hn hp'
  obtain ⟨rfl, rfl, r1, r2⟩ := hp'
  have al : Z.vm.Alike P.U.vm := hZ.alike.trans X.warmed.alike
  obtain ⟨A, hx⟩ := txt_of wi al E V C K hc hb l2
  obtain ⟨v, B, X', ⟨⟨hv, hh⟩, hl, hk, hs⟩, st⟩ := ChN.pays x t A cs.length (fun j => cs.getD j 0) z fm i (tabChN_of (movedChN hZ hw)) hfr hlo m meth c P g ig mk _ X hg hsize hdg hW hn ⟨r1, r2, rfl, hx, hi, sta_is al S, hz, sta_is al F, rf⟩
  exact ⟨v, B, X', ⟨[], ⟨hv, rfl, hh⟩, hl, hk, hs⟩, st⟩
end StrChars.Road
end Jvm.Pilot.@@N@@
namespace Jvm.Pilot.@@N@@
open Jvm Jvm.ClassFile Sem Op Lib Jvm.Free Jvm.Stand Jvm.LawKit Jvm.RoadKit Bundle Jvm.Free.Fl Jvm.Pilot.@@N@@.Jvm.D
abbrev vU : Slot := .unset
abbrev vI (x : Int32) : Slot := .val (.int x)
abbrev vJ (x : Int64) : Slot := .val (.long x)
abbrev vD (x : UInt64) : Slot := .val (.double x)
abbrev vR (x : Addr) : Slot := .val (.ref x)
/-- a step's goal -/
abbrev Sp (p : Program) (e : Env) (below : List Frame) (T : State) (g : JFrame) (t : State) : Prop := Steps p.tables e below (T.setTop g) t
theorem own_h {a0 : Array Value} {Z : State} (hw : ∀ d ∈ tables_1, d.before a0 Z = true) (i : Nat) {d : Jvm.Cond} (h : tables_1[i]? = some d) : d.before a0 Z = true := hw d (List.mem_of_getElem? h)
/-- the run comes from the frame g0 (over T0) to the frame g (over T) -/
abbrev Go (p : Program) (e : Env) (below : List Frame) (T0 : State) (g0 : JFrame) (T : State) (g : JFrame) : Prop :=
  ∀ t, Steps p.tables e below (T.setTop g) t → Steps p.tables e below (T0.setTop g0) t
theorem own_neArr {Z : State} {h : Heap} {x y : Addr} {k k' : ClassId} {t t' : FieldType} {n n' : Int32} {vs vs' : List Value} {d d' : Value} (A : Arv Z h x k t n vs d) (B : Arv Z h y k' t' n' vs' d') (ht : t ≠ t') : x ≠ y := by
  rintro rfl
  obtain ⟨c1, A1, -⟩ := A
  obtain ⟨c2, B1, -⟩ := B
  have e := Option.some.inj (A1.1.symm.trans B1.1)
  subst e
  obtain ⟨-, k1, hk1, p1, q1⟩ := A1.2.1
  obtain ⟨-, k2, hk2, p2, q2⟩ := B1.2.1
  cases hk1.symm.trans hk2
  rw [q1] at q2
  cases q2
  exact ht rfl
theorem own_neStr {Z : State} {a0 : Array Value} {h : Heap} {x y : Addr} {C : String} {k : ClassId} {t : FieldType} {n : Int32} {vs : List Value} {d : Value} {sl : Nat} (E : Exa Z h x C) (B : Arv Z h y k t n vs d) (wi : (Jvm.Cond.instantiable C sl).before a0 Z = true) : x ≠ y := by
  rintro rfl
  obtain ⟨c1, k1, e1, e2, e3, -⟩ := E
  obtain ⟨c2, B1, -⟩ := B
  have e := Option.some.inj (e1.symm.trans B1.1)
  subst e
  obtain ⟨-, k2, hk2, p2, q2⟩ := B1.2.1
  obtain ⟨c3, k3, h1, h2, h3, -⟩ := Jvm.Cond.instantiable_spec wi
  cases e2.symm.trans h1
  cases e3.symm.trans h2
  cases e3.symm.trans hk2
  rw [q2] at h3
  cases h3
theorem own_selp {Z s : State} {a0 args : Array Value} {y : MethodName} {k : Nat} (hZ : Z.Warmed39 s.vm) (wi : (Jvm.Cond.instantiable y.cls k).before a0 Z = true) (wp : (Jvm.Cond.privateMethod y).before a0 Z = true) (wm : (Jvm.Cond.instanceMethod y).before a0 Z = true) (hy : y.cls ≠ "java/lang/invoke/MethodHandle" ∧ y.cls ≠ "java/lang/invoke/VarHandle") : (Jvm.Cond.selects y.cls y y).before args s = true := by
  have hi : (Jvm.Cond.instantiable y.cls k).before args s = true := mvT hZ wi
  obtain ⟨c, kk, h1, h2, h3, h4, -⟩ := Jvm.Cond.instantiable_spec hi
  exact selects_self_of_private h1 h2 (by simp only [Bool.or_eq_false_iff] at h4; exact h4.1) (Cond.privateMethod_at (mvP hZ wp (args := #[]))) (mvT hZ wm) hy
/-- a call's outcome, its point opened -/
theorem own_outV {p : Program} {l : Launch} {e : Env} {R : Room} {s : State} {m : MethodId} {args : Array Value} {below : List Frame} {meth : Method} {c : Code} {s₀ : State} {locs : List Loc} {cells slots : Nat} {Q : Option Value → Heap → List Loc → Prop} {kc ks : Nat} {g' : Option Value → JFrame}
    (H : ∃ (v : Option Value) (vm₁ : Vm) (B : Pt), s.WarmedH vm₁ ∧ Stand p l e R s m args below meth c B.U B.locs B.cells B.slots ∧ (∃ L, Q v B.U.heap L ∧ B.locs = locs ++ L ∧ B.cells = cells + kc ∧ B.slots = slots + ks) ∧ Steps p.tables e below s₀ (B.U.setTop (g' v))) :
    ∃ (v : Option Value) (T' : State) (L : List Loc), Stand p l e R s m args below meth c T' (locs ++ L) (cells + kc) (slots + ks) ∧ Q v T'.heap L ∧ ∀ t, Steps p.tables e below (T'.setTop (g' v)) t → Steps p.tables e below s₀ t := by
  obtain ⟨v, vm, ⟨T', L', k', n'⟩, -, X, ⟨L, hQ, e1, e2, e3⟩, st⟩ := H
  subst e1 e2 e3
  exact ⟨v, T', L, X, hQ, fun t k => st.trans k⟩
theorem own_outS {p : Program} {l : Launch} {e : Env} {R : Room} {s : State} {m : MethodId} {args : Array Value} {below : List Frame} {meth : Method} {c : Code} {s₀ : State} {locs : List Loc} {cells slots : Nat} {Q : Option Value → Heap → List Loc → Prop} {kc ks : Nat} {g' : Option Value → JFrame}
    (H : ∃ (v : Option Value) (vm₁ : Vm) (B : Pt), s.WarmedH vm₁ ∧ Stand p l e R s m args below meth c B.U B.locs B.cells B.slots ∧ (∃ L, Q v B.U.heap L ∧ B.locs = locs ++ L ∧ B.cells = cells + kc ∧ B.slots = slots + ks) ∧ ∀ t, Steps p.tables e below (B.U.setTop (g' v)) t → Steps p.tables e below s₀ t) :
    ∃ (v : Option Value) (T' : State) (L : List Loc), Stand p l e R s m args below meth c T' (locs ++ L) (cells + kc) (slots + ks) ∧ Q v T'.heap L ∧ ∀ t, Steps p.tables e below (T'.setTop (g' v)) t → Steps p.tables e below s₀ t := by
  obtain ⟨v, vm, ⟨T', L', k', n'⟩, -, X, ⟨L, hQ, e1, e2, e3⟩, st⟩ := H
  subst e1 e2 e3
  exact ⟨v, T', L, X, hQ, st⟩
theorem d1_0 : decode method_2_code 0 = .ok (.bipush 10, 2) := by decide +kernel
theorem d1_2 : decode method_2_code 2 = .ok (.newarray .char, 2) := by decide +kernel
theorem d1_4 : decode method_2_code 4 = .ok (.astore_n 3, 1) := by decide +kernel
theorem d1_5 : decode method_2_code 5 = .ok (.aload_n 3, 1) := by decide +kernel
theorem d1_6 : decode method_2_code 6 = .ok (.iconst 0, 1) := by decide +kernel
theorem d1_7 : decode method_2_code 7 = .ok (.bipush 48, 2) := by decide +kernel
theorem d1_9 : decode method_2_code 9 = .ok (.iload_n 0, 1) := by decide +kernel
theorem d1_10 : decode method_2_code 10 = .ok (.sipush 1000, 3) := by decide +kernel
theorem d1_13 : decode method_2_code 13 = .ok (.idiv, 1) := by decide +kernel
theorem d1_14 : decode method_2_code 14 = .ok (.iadd, 1) := by decide +kernel
theorem d1_15 : decode method_2_code 15 = .ok (.i2c, 1) := by decide +kernel
theorem d1_16 : decode method_2_code 16 = .ok (.castore, 1) := by decide +kernel
theorem d1_17 : decode method_2_code 17 = .ok (.aload_n 3, 1) := by decide +kernel
theorem d1_18 : decode method_2_code 18 = .ok (.iconst 1, 1) := by decide +kernel
theorem d1_19 : decode method_2_code 19 = .ok (.bipush 48, 2) := by decide +kernel
theorem d1_21 : decode method_2_code 21 = .ok (.iload_n 0, 1) := by decide +kernel
theorem d1_22 : decode method_2_code 22 = .ok (.bipush 100, 2) := by decide +kernel
theorem d1_24 : decode method_2_code 24 = .ok (.idiv, 1) := by decide +kernel
theorem d1_25 : decode method_2_code 25 = .ok (.bipush 10, 2) := by decide +kernel
theorem d1_27 : decode method_2_code 27 = .ok (.irem, 1) := by decide +kernel
theorem d1_28 : decode method_2_code 28 = .ok (.iadd, 1) := by decide +kernel
theorem d1_29 : decode method_2_code 29 = .ok (.i2c, 1) := by decide +kernel
theorem d1_30 : decode method_2_code 30 = .ok (.castore, 1) := by decide +kernel
theorem d1_31 : decode method_2_code 31 = .ok (.aload_n 3, 1) := by decide +kernel
theorem d1_32 : decode method_2_code 32 = .ok (.iconst 2, 1) := by decide +kernel
theorem d1_33 : decode method_2_code 33 = .ok (.bipush 48, 2) := by decide +kernel
theorem d1_35 : decode method_2_code 35 = .ok (.iload_n 0, 1) := by decide +kernel
theorem d1_36 : decode method_2_code 36 = .ok (.bipush 10, 2) := by decide +kernel
theorem d1_38 : decode method_2_code 38 = .ok (.idiv, 1) := by decide +kernel
theorem d1_39 : decode method_2_code 39 = .ok (.bipush 10, 2) := by decide +kernel
theorem d1_41 : decode method_2_code 41 = .ok (.irem, 1) := by decide +kernel
theorem d1_42 : decode method_2_code 42 = .ok (.iadd, 1) := by decide +kernel
theorem d1_43 : decode method_2_code 43 = .ok (.i2c, 1) := by decide +kernel
theorem d1_44 : decode method_2_code 44 = .ok (.castore, 1) := by decide +kernel
theorem d1_45 : decode method_2_code 45 = .ok (.aload_n 3, 1) := by decide +kernel
theorem d1_46 : decode method_2_code 46 = .ok (.iconst 3, 1) := by decide +kernel
theorem d1_47 : decode method_2_code 47 = .ok (.bipush 48, 2) := by decide +kernel
theorem d1_49 : decode method_2_code 49 = .ok (.iload_n 0, 1) := by decide +kernel
theorem d1_50 : decode method_2_code 50 = .ok (.bipush 10, 2) := by decide +kernel
theorem d1_52 : decode method_2_code 52 = .ok (.irem, 1) := by decide +kernel
theorem d1_53 : decode method_2_code 53 = .ok (.iadd, 1) := by decide +kernel
theorem d1_54 : decode method_2_code 54 = .ok (.i2c, 1) := by decide +kernel
theorem d1_55 : decode method_2_code 55 = .ok (.castore, 1) := by decide +kernel
theorem d1_56 : decode method_2_code 56 = .ok (.aload_n 3, 1) := by decide +kernel
theorem d1_57 : decode method_2_code 57 = .ok (.iconst 4, 1) := by decide +kernel
theorem d1_58 : decode method_2_code 58 = .ok (.bipush 45, 2) := by decide +kernel
theorem d1_60 : decode method_2_code 60 = .ok (.castore, 1) := by decide +kernel
theorem d1_61 : decode method_2_code 61 = .ok (.aload_n 3, 1) := by decide +kernel
theorem d1_62 : decode method_2_code 62 = .ok (.iconst 5, 1) := by decide +kernel
theorem d1_63 : decode method_2_code 63 = .ok (.bipush 48, 2) := by decide +kernel
theorem d1_65 : decode method_2_code 65 = .ok (.iload_n 1, 1) := by decide +kernel
theorem d1_66 : decode method_2_code 66 = .ok (.bipush 10, 2) := by decide +kernel
theorem d1_68 : decode method_2_code 68 = .ok (.idiv, 1) := by decide +kernel
theorem d1_69 : decode method_2_code 69 = .ok (.iadd, 1) := by decide +kernel
theorem d1_70 : decode method_2_code 70 = .ok (.i2c, 1) := by decide +kernel
theorem d1_71 : decode method_2_code 71 = .ok (.castore, 1) := by decide +kernel
theorem d1_72 : decode method_2_code 72 = .ok (.aload_n 3, 1) := by decide +kernel
theorem d1_73 : decode method_2_code 73 = .ok (.bipush 6, 2) := by decide +kernel
theorem d1_75 : decode method_2_code 75 = .ok (.bipush 48, 2) := by decide +kernel
theorem d1_77 : decode method_2_code 77 = .ok (.iload_n 1, 1) := by decide +kernel
theorem d1_78 : decode method_2_code 78 = .ok (.bipush 10, 2) := by decide +kernel
theorem d1_80 : decode method_2_code 80 = .ok (.irem, 1) := by decide +kernel
theorem d1_81 : decode method_2_code 81 = .ok (.iadd, 1) := by decide +kernel
theorem d1_82 : decode method_2_code 82 = .ok (.i2c, 1) := by decide +kernel
theorem d1_83 : decode method_2_code 83 = .ok (.castore, 1) := by decide +kernel
theorem d1_84 : decode method_2_code 84 = .ok (.aload_n 3, 1) := by decide +kernel
theorem d1_85 : decode method_2_code 85 = .ok (.bipush 7, 2) := by decide +kernel
theorem d1_87 : decode method_2_code 87 = .ok (.bipush 45, 2) := by decide +kernel
theorem d1_89 : decode method_2_code 89 = .ok (.castore, 1) := by decide +kernel
theorem d1_90 : decode method_2_code 90 = .ok (.aload_n 3, 1) := by decide +kernel
theorem d1_91 : decode method_2_code 91 = .ok (.bipush 8, 2) := by decide +kernel
theorem d1_93 : decode method_2_code 93 = .ok (.bipush 48, 2) := by decide +kernel
theorem d1_95 : decode method_2_code 95 = .ok (.iload_n 2, 1) := by decide +kernel
theorem d1_96 : decode method_2_code 96 = .ok (.bipush 10, 2) := by decide +kernel
theorem d1_98 : decode method_2_code 98 = .ok (.idiv, 1) := by decide +kernel
theorem d1_99 : decode method_2_code 99 = .ok (.iadd, 1) := by decide +kernel
theorem d1_100 : decode method_2_code 100 = .ok (.i2c, 1) := by decide +kernel
theorem d1_101 : decode method_2_code 101 = .ok (.castore, 1) := by decide +kernel
theorem d1_102 : decode method_2_code 102 = .ok (.aload_n 3, 1) := by decide +kernel
theorem d1_103 : decode method_2_code 103 = .ok (.bipush 9, 2) := by decide +kernel
theorem d1_105 : decode method_2_code 105 = .ok (.bipush 48, 2) := by decide +kernel
theorem d1_107 : decode method_2_code 107 = .ok (.iload_n 2, 1) := by decide +kernel
theorem d1_108 : decode method_2_code 108 = .ok (.bipush 10, 2) := by decide +kernel
theorem d1_110 : decode method_2_code 110 = .ok (.irem, 1) := by decide +kernel
theorem d1_111 : decode method_2_code 111 = .ok (.iadd, 1) := by decide +kernel
theorem d1_112 : decode method_2_code 112 = .ok (.i2c, 1) := by decide +kernel
theorem d1_113 : decode method_2_code 113 = .ok (.castore, 1) := by decide +kernel
theorem d1_114 : decode method_2_code 114 = .ok (.new 7, 3) := by decide +kernel
theorem d1_117 : decode method_2_code 117 = .ok (.dup, 1) := by decide +kernel
theorem d1_118 : decode method_2_code 118 = .ok (.aload_n 3, 1) := by decide +kernel
theorem d1_119 : decode method_2_code 119 = .ok (.invokespecial 9, 3) := by decide +kernel
theorem d1_122 : decode method_2_code 122 = .ok (.areturn, 1) := by decide +kernel
theorem d8_0 : decode prog_34_method_2_code 0 = .ok (.aload_n 0, 1) := by decide +kernel
theorem d8_1 : decode prog_34_method_2_code 1 = .ok (.invokevirtual 7, 3) := by decide +kernel
theorem d8_4 : decode prog_34_method_2_code 4 = .ok (.bipush 10, 2) := by decide +kernel
theorem d8_6 : decode prog_34_method_2_code 6 = .ok (.if_icmp .ne 32, 3) := by decide +kernel
theorem d8_9 : decode prog_34_method_2_code 9 = .ok (.aload_n 0, 1) := by decide +kernel
theorem d8_10 : decode prog_34_method_2_code 10 = .ok (.invokestatic 15, 3) := by decide +kernel
theorem d8_13 : decode prog_34_method_2_code 13 = .ok (.ifCond .eq 25, 3) := by decide +kernel
theorem d8_16 : decode prog_34_method_2_code 16 = .ok (.aload_n 0, 1) := by decide +kernel
theorem d8_17 : decode prog_34_method_2_code 17 = .ok (.bipush 7, 2) := by decide +kernel
theorem d8_19 : decode prog_34_method_2_code 19 = .ok (.invokevirtual 19, 3) := by decide +kernel
theorem d8_22 : decode prog_34_method_2_code 22 = .ok (.bipush 45, 2) := by decide +kernel
theorem d8_24 : decode prog_34_method_2_code 24 = .ok (.if_icmp .ne 14, 3) := by decide +kernel
theorem d8_27 : decode prog_34_method_2_code 27 = .ok (.aload_n 0, 1) := by decide +kernel
theorem d8_28 : decode prog_34_method_2_code 28 = .ok (.bipush 8, 2) := by decide +kernel
theorem d8_30 : decode prog_34_method_2_code 30 = .ok (.bipush 10, 2) := by decide +kernel
theorem d8_32 : decode prog_34_method_2_code 32 = .ok (.invokestatic 23, 3) := by decide +kernel
theorem d8_35 : decode prog_34_method_2_code 35 = .ok (.ifCond .ne 17, 3) := by decide +kernel
theorem d8_52 : decode prog_34_method_2_code 52 = .ok (.aload_n 0, 1) := by decide +kernel
theorem d8_53 : decode prog_34_method_2_code 53 = .ok (.iconst 0, 1) := by decide +kernel
theorem d8_54 : decode prog_34_method_2_code 54 = .ok (.iconst 4, 1) := by decide +kernel
theorem d8_55 : decode prog_34_method_2_code 55 = .ok (.invokestatic 36, 3) := by decide +kernel
theorem d8_58 : decode prog_34_method_2_code 58 = .ok (.aload_n 0, 1) := by decide +kernel
theorem d8_59 : decode prog_34_method_2_code 59 = .ok (.iconst 5, 1) := by decide +kernel
theorem d8_60 : decode prog_34_method_2_code 60 = .ok (.bipush 7, 2) := by decide +kernel
theorem d8_62 : decode prog_34_method_2_code 62 = .ok (.invokestatic 36, 3) := by decide +kernel
theorem d8_65 : decode prog_34_method_2_code 65 = .ok (.aload_n 0, 1) := by decide +kernel
theorem d8_66 : decode prog_34_method_2_code 66 = .ok (.bipush 8, 2) := by decide +kernel
theorem d8_68 : decode prog_34_method_2_code 68 = .ok (.bipush 10, 2) := by decide +kernel
theorem d8_70 : decode prog_34_method_2_code 70 = .ok (.invokestatic 36, 3) := by decide +kernel
theorem d8_73 : decode prog_34_method_2_code 73 = .ok (.invokestatic 40, 3) := by decide +kernel
theorem d8_76 : decode prog_34_method_2_code 76 = .ok (.areturn, 1) := by decide +kernel
theorem d11_0 : decode prog_34_method_16_code 0 = .ok (.aload_n 0, 1) := by decide +kernel
theorem d11_1 : decode prog_34_method_16_code 1 = .ok (.iconst 0, 1) := by decide +kernel
theorem d11_2 : decode prog_34_method_16_code 2 = .ok (.iconst 4, 1) := by decide +kernel
theorem d11_3 : decode prog_34_method_16_code 3 = .ok (.invokestatic 23, 3) := by decide +kernel
theorem d11_6 : decode prog_34_method_16_code 6 = .ok (.ifCond .eq 27, 3) := by decide +kernel
theorem d11_9 : decode prog_34_method_16_code 9 = .ok (.aload_n 0, 1) := by decide +kernel
theorem d11_10 : decode prog_34_method_16_code 10 = .ok (.iconst 4, 1) := by decide +kernel
theorem d11_11 : decode prog_34_method_16_code 11 = .ok (.invokevirtual 19, 3) := by decide +kernel
theorem d11_14 : decode prog_34_method_16_code 14 = .ok (.bipush 45, 2) := by decide +kernel
theorem d11_16 : decode prog_34_method_16_code 16 = .ok (.if_icmp .ne 17, 3) := by decide +kernel
theorem d11_19 : decode prog_34_method_16_code 19 = .ok (.aload_n 0, 1) := by decide +kernel
theorem d11_20 : decode prog_34_method_16_code 20 = .ok (.iconst 5, 1) := by decide +kernel
theorem d11_21 : decode prog_34_method_16_code 21 = .ok (.bipush 7, 2) := by decide +kernel
theorem d11_23 : decode prog_34_method_16_code 23 = .ok (.invokestatic 23, 3) := by decide +kernel
theorem d11_26 : decode prog_34_method_16_code 26 = .ok (.ifCond .eq 7, 3) := by decide +kernel
theorem d11_29 : decode prog_34_method_16_code 29 = .ok (.iconst 1, 1) := by decide +kernel
theorem d11_30 : decode prog_34_method_16_code 30 = .ok (.goto 4, 3) := by decide +kernel
theorem d11_34 : decode prog_34_method_16_code 34 = .ok (.ireturn, 1) := by decide +kernel
theorem d12_0 : decode prog_34_method_19_code 0 = .ok (.iload_n 1, 1) := by decide +kernel
theorem d12_1 : decode prog_34_method_19_code 1 = .ok (.iload_n 2, 1) := by decide +kernel
theorem d12_2 : decode prog_34_method_19_code 2 = .ok (.if_icmp .ge 11, 3) := by decide +kernel
theorem d12_5 : decode prog_34_method_19_code 5 = .ok (.iload_n 2, 1) := by decide +kernel
theorem d12_6 : decode prog_34_method_19_code 6 = .ok (.aload_n 0, 1) := by decide +kernel
theorem d12_7 : decode prog_34_method_19_code 7 = .ok (.invokevirtual 7, 3) := by decide +kernel
theorem d12_10 : decode prog_34_method_19_code 10 = .ok (.if_icmp .le 5, 3) := by decide +kernel
theorem d12_15 : decode prog_34_method_19_code 15 = .ok (.iload_n 1, 1) := by decide +kernel
theorem d12_16 : decode prog_34_method_19_code 16 = .ok (.istore_n 3, 1) := by decide +kernel
theorem d12_17 : decode prog_34_method_19_code 17 = .ok (.iload_n 3, 1) := by decide +kernel
theorem d12_18 : decode prog_34_method_19_code 18 = .ok (.iload_n 2, 1) := by decide +kernel
theorem d12_19 : decode prog_34_method_19_code 19 = .ok (.if_icmp .ge 22, 3) := by decide +kernel
theorem d12_22 : decode prog_34_method_19_code 22 = .ok (.aload_n 0, 1) := by decide +kernel
theorem d12_23 : decode prog_34_method_19_code 23 = .ok (.iload_n 3, 1) := by decide +kernel
theorem d12_24 : decode prog_34_method_19_code 24 = .ok (.invokevirtual 19, 3) := by decide +kernel
theorem d12_27 : decode prog_34_method_19_code 27 = .ok (.invokestatic 158, 3) := by decide +kernel
theorem d12_30 : decode prog_34_method_19_code 30 = .ok (.ifCond .ne 5, 3) := by decide +kernel
theorem d12_35 : decode prog_34_method_19_code 35 = .ok (.iinc 3 1, 3) := by decide +kernel
theorem d12_38 : decode prog_34_method_19_code 38 = .ok (.goto (-21), 3) := by decide +kernel
theorem d12_41 : decode prog_34_method_19_code 41 = .ok (.iconst 1, 1) := by decide +kernel
theorem d12_42 : decode prog_34_method_19_code 42 = .ok (.ireturn, 1) := by decide +kernel
theorem d18_0 : decode prog_34_method_20_code 0 = .ok (.iload_n 0, 1) := by decide +kernel
theorem d18_1 : decode prog_34_method_20_code 1 = .ok (.bipush 48, 2) := by decide +kernel
theorem d18_3 : decode prog_34_method_20_code 3 = .ok (.if_icmp .lt 13, 3) := by decide +kernel
theorem d18_6 : decode prog_34_method_20_code 6 = .ok (.iload_n 0, 1) := by decide +kernel
theorem d18_7 : decode prog_34_method_20_code 7 = .ok (.bipush 57, 2) := by decide +kernel
theorem d18_9 : decode prog_34_method_20_code 9 = .ok (.if_icmp .gt 7, 3) := by decide +kernel
theorem d18_12 : decode prog_34_method_20_code 12 = .ok (.iconst 1, 1) := by decide +kernel
theorem d18_13 : decode prog_34_method_20_code 13 = .ok (.goto 4, 3) := by decide +kernel
theorem d18_17 : decode prog_34_method_20_code 17 = .ok (.ireturn, 1) := by decide +kernel
theorem d19_0 : decode prog_34_method_21_code 0 = .ok (.iconst 0, 1) := by decide +kernel
theorem d19_1 : decode prog_34_method_21_code 1 = .ok (.istore_n 3, 1) := by decide +kernel
theorem d19_2 : decode prog_34_method_21_code 2 = .ok (.iload_n 1, 1) := by decide +kernel
theorem d19_3 : decode prog_34_method_21_code 3 = .ok (.istore 4, 2) := by decide +kernel
theorem d19_5 : decode prog_34_method_21_code 5 = .ok (.iload 4, 2) := by decide +kernel
theorem d19_7 : decode prog_34_method_21_code 7 = .ok (.iload_n 2, 1) := by decide +kernel
theorem d19_8 : decode prog_34_method_21_code 8 = .ok (.if_icmp .ge 24, 3) := by decide +kernel
theorem d19_11 : decode prog_34_method_21_code 11 = .ok (.iload_n 3, 1) := by decide +kernel
theorem d19_12 : decode prog_34_method_21_code 12 = .ok (.bipush 10, 2) := by decide +kernel
theorem d19_14 : decode prog_34_method_21_code 14 = .ok (.imul, 1) := by decide +kernel
theorem d19_15 : decode prog_34_method_21_code 15 = .ok (.aload_n 0, 1) := by decide +kernel
theorem d19_16 : decode prog_34_method_21_code 16 = .ok (.iload 4, 2) := by decide +kernel
theorem d19_18 : decode prog_34_method_21_code 18 = .ok (.invokevirtual 19, 3) := by decide +kernel
theorem d19_21 : decode prog_34_method_21_code 21 = .ok (.iadd, 1) := by decide +kernel
theorem d19_22 : decode prog_34_method_21_code 22 = .ok (.bipush 48, 2) := by decide +kernel
theorem d19_24 : decode prog_34_method_21_code 24 = .ok (.isub, 1) := by decide +kernel
theorem d19_25 : decode prog_34_method_21_code 25 = .ok (.istore_n 3, 1) := by decide +kernel
theorem d19_26 : decode prog_34_method_21_code 26 = .ok (.iinc 4 1, 3) := by decide +kernel
theorem d19_29 : decode prog_34_method_21_code 29 = .ok (.goto (-24), 3) := by decide +kernel
theorem d19_32 : decode prog_34_method_21_code 32 = .ok (.iload_n 3, 1) := by decide +kernel
theorem d19_33 : decode prog_34_method_21_code 33 = .ok (.ireturn, 1) := by decide +kernel
theorem d20_0 : decode jdk_2323_method_5_code 0 = .ok (.getstatic 39, 3) := by decide +kernel
theorem d20_3 : decode jdk_2323_method_5_code 3 = .ok (.iload_n 0, 1) := by decide +kernel
theorem d20_4 : decode jdk_2323_method_5_code 4 = .ok (.i2l, 1) := by decide +kernel
theorem d20_5 : decode jdk_2323_method_5_code 5 = .ok (.invokevirtual 45, 3) := by decide +kernel
theorem d20_8 : decode jdk_2323_method_5_code 8 = .ok (.pop2, 1) := by decide +kernel
theorem d20_9 : decode jdk_2323_method_5_code 9 = .ok (.getstatic 64, 3) := by decide +kernel
theorem d20_12 : decode jdk_2323_method_5_code 12 = .ok (.iload_n 1, 1) := by decide +kernel
theorem d20_13 : decode jdk_2323_method_5_code 13 = .ok (.i2l, 1) := by decide +kernel
theorem d20_14 : decode jdk_2323_method_5_code 14 = .ok (.invokevirtual 45, 3) := by decide +kernel
theorem d20_17 : decode jdk_2323_method_5_code 17 = .ok (.pop2, 1) := by decide +kernel
theorem d20_18 : decode jdk_2323_method_5_code 18 = .ok (.getstatic 51, 3) := by decide +kernel
theorem d20_21 : decode jdk_2323_method_5_code 21 = .ok (.iload_n 2, 1) := by decide +kernel
theorem d20_22 : decode jdk_2323_method_5_code 22 = .ok (.i2l, 1) := by decide +kernel
theorem d20_23 : decode jdk_2323_method_5_code 23 = .ok (.invokevirtual 45, 3) := by decide +kernel
theorem d20_26 : decode jdk_2323_method_5_code 26 = .ok (.pop2, 1) := by decide +kernel
theorem d20_27 : decode jdk_2323_method_5_code 27 = .ok (.iload_n 0, 1) := by decide +kernel
theorem d20_28 : decode jdk_2323_method_5_code 28 = .ok (.iload_n 1, 1) := by decide +kernel
theorem d20_29 : decode jdk_2323_method_5_code 29 = .ok (.iload_n 2, 1) := by decide +kernel
theorem d20_30 : decode jdk_2323_method_5_code 30 = .ok (.invokestatic 60, 3) := by decide +kernel
theorem d20_33 : decode jdk_2323_method_5_code 33 = .ok (.areturn, 1) := by decide +kernel
theorem d21_0 : decode jdk_2395_method_11_code 0 = .ok (.aload_n 0, 1) := by decide +kernel
theorem d21_1 : decode jdk_2395_method_11_code 1 = .ok (.invokevirtual 190, 3) := by decide +kernel
theorem d21_4 : decode jdk_2395_method_11_code 4 = .ok (.lload_n 1, 1) := by decide +kernel
theorem d21_5 : decode jdk_2395_method_11_code 5 = .ok (.aload_n 0, 1) := by decide +kernel
theorem d21_6 : decode jdk_2395_method_11_code 6 = .ok (.invokevirtual 193, 3) := by decide +kernel
theorem d21_9 : decode jdk_2395_method_11_code 9 = .ok (.lreturn, 1) := by decide +kernel
theorem d22_0 : decode jdk_2395_method_8_code 0 = .ok (.aload_n 0, 1) := by decide +kernel
theorem d22_1 : decode jdk_2395_method_8_code 1 = .ok (.getfield 124, 3) := by decide +kernel
theorem d22_4 : decode jdk_2395_method_8_code 4 = .ok (.areturn, 1) := by decide +kernel
theorem d23_0 : decode jdk_2423_method_13_code 0 = .ok (.aload_n 0, 1) := by decide +kernel
theorem d23_1 : decode jdk_2423_method_13_code 1 = .ok (.lload_n 1, 1) := by decide +kernel
theorem d23_2 : decode jdk_2423_method_13_code 2 = .ok (.invokevirtual 63, 3) := by decide +kernel
theorem d23_5 : decode jdk_2423_method_13_code 5 = .ok (.ifCond .ne 17, 3) := by decide +kernel
theorem d23_22 : decode jdk_2423_method_13_code 22 = .ok (.lload_n 1, 1) := by decide +kernel
theorem d23_23 : decode jdk_2423_method_13_code 23 = .ok (.lreturn, 1) := by decide +kernel
theorem d24_0 : decode jdk_2423_method_11_code 0 = .ok (.lload_n 1, 1) := by decide +kernel
theorem d24_1 : decode jdk_2423_method_11_code 1 = .ok (.aload_n 0, 1) := by decide +kernel
theorem d24_2 : decode jdk_2423_method_11_code 2 = .ok (.invokevirtual 46, 3) := by decide +kernel
theorem d24_5 : decode jdk_2423_method_11_code 5 = .ok (.lcmp, 1) := by decide +kernel
theorem d24_6 : decode jdk_2423_method_11_code 6 = .ok (.ifCond .lt 16, 3) := by decide +kernel
theorem d24_9 : decode jdk_2423_method_11_code 9 = .ok (.lload_n 1, 1) := by decide +kernel
theorem d24_10 : decode jdk_2423_method_11_code 10 = .ok (.aload_n 0, 1) := by decide +kernel
theorem d24_11 : decode jdk_2423_method_11_code 11 = .ok (.invokevirtual 54, 3) := by decide +kernel
theorem d24_14 : decode jdk_2423_method_11_code 14 = .ok (.lcmp, 1) := by decide +kernel
theorem d24_15 : decode jdk_2423_method_11_code 15 = .ok (.ifCond .gt 7, 3) := by decide +kernel
theorem d24_18 : decode jdk_2423_method_11_code 18 = .ok (.iconst 1, 1) := by decide +kernel
theorem d24_19 : decode jdk_2423_method_11_code 19 = .ok (.goto 4, 3) := by decide +kernel
theorem d24_23 : decode jdk_2423_method_11_code 23 = .ok (.ireturn, 1) := by decide +kernel
theorem d25_0 : decode jdk_2423_method_6_code 0 = .ok (.aload_n 0, 1) := by decide +kernel
theorem d25_1 : decode jdk_2423_method_6_code 1 = .ok (.getfield 33, 3) := by decide +kernel
theorem d25_4 : decode jdk_2423_method_6_code 4 = .ok (.lreturn, 1) := by decide +kernel
theorem d26_0 : decode jdk_2423_method_9_code 0 = .ok (.aload_n 0, 1) := by decide +kernel
theorem d26_1 : decode jdk_2423_method_9_code 1 = .ok (.getfield 43, 3) := by decide +kernel
theorem d26_4 : decode jdk_2423_method_9_code 4 = .ok (.lreturn, 1) := by decide +kernel
theorem d27_0 : decode jdk_2323_method_12_code 0 = .ok (.iload_n 2, 1) := by decide +kernel
theorem d27_1 : decode jdk_2323_method_12_code 1 = .ok (.bipush 28, 2) := by decide +kernel
theorem d27_3 : decode jdk_2323_method_12_code 3 = .ok (.if_icmp .le 176, 3) := by decide +kernel
theorem d27_179 : decode jdk_2323_method_12_code 179 = .ok (.new 1, 3) := by decide +kernel
theorem d27_182 : decode jdk_2323_method_12_code 182 = .ok (.dup, 1) := by decide +kernel
theorem d27_183 : decode jdk_2323_method_12_code 183 = .ok (.iload_n 0, 1) := by decide +kernel
theorem d27_184 : decode jdk_2323_method_12_code 184 = .ok (.iload_n 1, 1) := by decide +kernel
theorem d27_185 : decode jdk_2323_method_12_code 185 = .ok (.iload_n 2, 1) := by decide +kernel
theorem d27_186 : decode jdk_2323_method_12_code 186 = .ok (.invokespecial 121, 3) := by decide +kernel
theorem d27_189 : decode jdk_2323_method_12_code 189 = .ok (.areturn, 1) := by decide +kernel
theorem d28_0 : decode jdk_2323_method_14_code 0 = .ok (.aload_n 0, 1) := by decide +kernel
theorem d28_1 : decode jdk_2323_method_14_code 1 = .ok (.invokespecial 243, 3) := by decide +kernel
theorem d28_4 : decode jdk_2323_method_14_code 4 = .ok (.aload_n 0, 1) := by decide +kernel
theorem d28_5 : decode jdk_2323_method_14_code 5 = .ok (.iload_n 1, 1) := by decide +kernel
theorem d28_6 : decode jdk_2323_method_14_code 6 = .ok (.putfield 246, 3) := by decide +kernel
theorem d28_9 : decode jdk_2323_method_14_code 9 = .ok (.aload_n 0, 1) := by decide +kernel
theorem d28_10 : decode jdk_2323_method_14_code 10 = .ok (.iload_n 2, 1) := by decide +kernel
theorem d28_11 : decode jdk_2323_method_14_code 11 = .ok (.i2s, 1) := by decide +kernel
theorem d28_12 : decode jdk_2323_method_14_code 12 = .ok (.putfield 250, 3) := by decide +kernel
theorem d28_15 : decode jdk_2323_method_14_code 15 = .ok (.aload_n 0, 1) := by decide +kernel
theorem d28_16 : decode jdk_2323_method_14_code 16 = .ok (.iload_n 3, 1) := by decide +kernel
theorem d28_17 : decode jdk_2323_method_14_code 17 = .ok (.i2s, 1) := by decide +kernel
theorem d28_18 : decode jdk_2323_method_14_code 18 = .ok (.putfield 253, 3) := by decide +kernel
theorem d28_21 : decode jdk_2323_method_14_code 21 = .ok (.return_, 1) := by decide +kernel
theorem d29_0 : decode prog_23_method_1_code 0 = .ok (.aload_n 0, 1) := by decide +kernel
theorem d29_1 : decode prog_23_method_1_code 1 = .ok (.invokespecial 1, 3) := by decide +kernel
theorem d29_4 : decode prog_23_method_1_code 4 = .ok (.aload_n 0, 1) := by decide +kernel
theorem d29_5 : decode prog_23_method_1_code 5 = .ok (.aload_n 1, 1) := by decide +kernel
theorem d29_6 : decode prog_23_method_1_code 6 = .ok (.putfield 7, 3) := by decide +kernel
theorem d29_9 : decode prog_23_method_1_code 9 = .ok (.aload_n 0, 1) := by decide +kernel
theorem d29_10 : decode prog_23_method_1_code 10 = .ok (.aload_n 2, 1) := by decide +kernel
theorem d29_11 : decode prog_23_method_1_code 11 = .ok (.putfield 13, 3) := by decide +kernel
theorem d29_14 : decode prog_23_method_1_code 14 = .ok (.return_, 1) := by decide +kernel
theorem d30_0 : decode jdk_30_method_1_code 0 = .ok (.aload_n 0, 1) := by decide +kernel
theorem d30_1 : decode jdk_30_method_1_code 1 = .ok (.invokespecial 1, 3) := by decide +kernel
theorem d30_4 : decode jdk_30_method_1_code 4 = .ok (.return_, 1) := by decide +kernel
theorem d31_0 : decode prog_85_method_1_code 0 = .ok (.aload_n 0, 1) := by decide +kernel
theorem d31_1 : decode prog_85_method_1_code 1 = .ok (.invokespecial 1, 3) := by decide +kernel
theorem d31_4 : decode prog_85_method_1_code 4 = .ok (.aload_n 0, 1) := by decide +kernel
theorem d31_5 : decode prog_85_method_1_code 5 = .ok (.new 7, 3) := by decide +kernel
theorem d31_8 : decode prog_85_method_1_code 8 = .ok (.dup, 1) := by decide +kernel
theorem d31_9 : decode prog_85_method_1_code 9 = .ok (.invokespecial 9, 3) := by decide +kernel
theorem d31_12 : decode prog_85_method_1_code 12 = .ok (.putfield 10, 3) := by decide +kernel
theorem d31_15 : decode prog_85_method_1_code 15 = .ok (.aload_n 0, 1) := by decide +kernel
theorem d31_16 : decode prog_85_method_1_code 16 = .ok (.new 16, 3) := by decide +kernel
theorem d31_19 : decode prog_85_method_1_code 19 = .ok (.dup, 1) := by decide +kernel
theorem d31_20 : decode prog_85_method_1_code 20 = .ok (.invokespecial 18, 3) := by decide +kernel
theorem d31_23 : decode prog_85_method_1_code 23 = .ok (.putfield 19, 3) := by decide +kernel
theorem d31_26 : decode prog_85_method_1_code 26 = .ok (.return_, 1) := by decide +kernel
theorem d32_0 : decode prog_47_method_1_code 0 = .ok (.aload_n 0, 1) := by decide +kernel
theorem d32_1 : decode prog_47_method_1_code 1 = .ok (.invokespecial 1, 3) := by decide +kernel
theorem d32_4 : decode prog_47_method_1_code 4 = .ok (.aload_n 0, 1) := by decide +kernel
theorem d32_5 : decode prog_47_method_1_code 5 = .ok (.getstatic 7, 3) := by decide +kernel
theorem d32_8 : decode prog_47_method_1_code 8 = .ok (.putfield 13, 3) := by decide +kernel
theorem d32_11 : decode prog_47_method_1_code 11 = .ok (.aload_n 0, 1) := by decide +kernel
theorem d32_12 : decode prog_47_method_1_code 12 = .ok (.getstatic 16, 3) := by decide +kernel
theorem d32_15 : decode prog_47_method_1_code 15 = .ok (.putfield 20, 3) := by decide +kernel
theorem d32_18 : decode prog_47_method_1_code 18 = .ok (.return_, 1) := by decide +kernel
theorem d33_0 : decode prog_91_method_1_code 0 = .ok (.aload_n 0, 1) := by decide +kernel
theorem d33_1 : decode prog_91_method_1_code 1 = .ok (.invokespecial 1, 3) := by decide +kernel
theorem d33_4 : decode prog_91_method_1_code 4 = .ok (.aload_n 0, 1) := by decide +kernel
theorem d33_5 : decode prog_91_method_1_code 5 = .ok (.iconst 4, 1) := by decide +kernel
theorem d33_6 : decode prog_91_method_1_code 6 = .ok (.newarray .long, 2) := by decide +kernel
theorem d33_8 : decode prog_91_method_1_code 8 = .ok (.putfield 9, 3) := by decide +kernel
theorem d33_11 : decode prog_91_method_1_code 11 = .ok (.aload_n 0, 1) := by decide +kernel
theorem d33_12 : decode prog_91_method_1_code 12 = .ok (.iconst 4, 1) := by decide +kernel
theorem d33_13 : decode prog_91_method_1_code 13 = .ok (.anewarray 13, 3) := by decide +kernel
theorem d33_16 : decode prog_91_method_1_code 16 = .ok (.putfield 15, 3) := by decide +kernel
theorem d33_19 : decode prog_91_method_1_code 19 = .ok (.aload_n 0, 1) := by decide +kernel
theorem d33_20 : decode prog_91_method_1_code 20 = .ok (.iconst 4, 1) := by decide +kernel
theorem d33_21 : decode prog_91_method_1_code 21 = .ok (.anewarray 2, 3) := by decide +kernel
theorem d33_24 : decode prog_91_method_1_code 24 = .ok (.putfield 19, 3) := by decide +kernel
theorem d33_27 : decode prog_91_method_1_code 27 = .ok (.return_, 1) := by decide +kernel
theorem d34_0 : decode prog_85_method_2_code 0 = .ok (.aload_n 0, 1) := by decide +kernel
theorem d34_1 : decode prog_85_method_2_code 1 = .ok (.getfield 19, 3) := by decide +kernel
theorem d34_4 : decode prog_85_method_2_code 4 = .ok (.invokevirtual 23, 3) := by decide +kernel
theorem d34_7 : decode prog_85_method_2_code 7 = .ok (.ifCond .le 7, 3) := by decide +kernel
theorem d34_10 : decode prog_85_method_2_code 10 = .ok (.iconst 1, 1) := by decide +kernel
theorem d34_11 : decode prog_85_method_2_code 11 = .ok (.goto 4, 3) := by decide +kernel
theorem d34_14 : decode prog_85_method_2_code 14 = .ok (.iconst 0, 1) := by decide +kernel
theorem d34_15 : decode prog_85_method_2_code 15 = .ok (.ireturn, 1) := by decide +kernel
theorem d35_0 : decode prog_91_method_7_code 0 = .ok (.aload_n 0, 1) := by decide +kernel
theorem d35_1 : decode prog_91_method_7_code 1 = .ok (.getfield 27, 3) := by decide +kernel
theorem d35_4 : decode prog_91_method_7_code 4 = .ok (.ireturn, 1) := by decide +kernel
theorem d36_0 : decode prog_85_method_3_code 0 = .ok (.aload_n 0, 1) := by decide +kernel
theorem d36_1 : decode prog_85_method_3_code 1 = .ok (.getfield 19, 3) := by decide +kernel
theorem d36_4 : decode prog_85_method_3_code 4 = .ok (.aload_n 1, 1) := by decide +kernel
theorem d36_5 : decode prog_85_method_3_code 5 = .ok (.aload_n 2, 1) := by decide +kernel
theorem d36_6 : decode prog_85_method_3_code 6 = .ok (.invokevirtual 27, 3) := by decide +kernel
theorem d36_9 : decode prog_85_method_3_code 9 = .ok (.aload_n 0, 1) := by decide +kernel
theorem d36_10 : decode prog_85_method_3_code 10 = .ok (.aload_n 0, 1) := by decide +kernel
theorem d36_11 : decode prog_85_method_3_code 11 = .ok (.getfield 10, 3) := by decide +kernel
theorem d36_14 : decode prog_85_method_3_code 14 = .ok (.invokevirtual 31, 3) := by decide +kernel
theorem d36_17 : decode prog_85_method_3_code 17 = .ok (.invokevirtual 35, 3) := by decide +kernel
theorem d36_20 : decode prog_85_method_3_code 20 = .ok (.aload_n 0, 1) := by decide +kernel
theorem d36_21 : decode prog_85_method_3_code 21 = .ok (.invokevirtual 39, 3) := by decide +kernel
theorem d36_24 : decode prog_85_method_3_code 24 = .ok (.return_, 1) := by decide +kernel
theorem d37_0 : decode prog_91_method_2_code 0 = .ok (.aload_n 1, 1) := by decide +kernel
theorem d37_1 : decode prog_91_method_2_code 1 = .ok (.invokevirtual 23, 3) := by decide +kernel
theorem d37_4 : decode prog_91_method_2_code 4 = .ok (.lstore_n 3, 1) := by decide +kernel
theorem d37_5 : decode prog_91_method_2_code 5 = .ok (.aload_n 0, 1) := by decide +kernel
theorem d37_6 : decode prog_91_method_2_code 6 = .ok (.getfield 27, 3) := by decide +kernel
theorem d37_9 : decode prog_91_method_2_code 9 = .ok (.ifCond .le 50, 3) := by decide +kernel
theorem d37_12 : decode prog_91_method_2_code 12 = .ok (.lload_n 3, 1) := by decide +kernel
theorem d37_13 : decode prog_91_method_2_code 13 = .ok (.aload_n 0, 1) := by decide +kernel
theorem d37_14 : decode prog_91_method_2_code 14 = .ok (.getfield 9, 3) := by decide +kernel
theorem d37_17 : decode prog_91_method_2_code 17 = .ok (.aload_n 0, 1) := by decide +kernel
theorem d37_18 : decode prog_91_method_2_code 18 = .ok (.getfield 27, 3) := by decide +kernel
theorem d37_21 : decode prog_91_method_2_code 21 = .ok (.iconst 1, 1) := by decide +kernel
theorem d37_22 : decode prog_91_method_2_code 22 = .ok (.isub, 1) := by decide +kernel
theorem d37_23 : decode prog_91_method_2_code 23 = .ok (.laload, 1) := by decide +kernel
theorem d37_24 : decode prog_91_method_2_code 24 = .ok (.lcmp, 1) := by decide +kernel
theorem d37_25 : decode prog_91_method_2_code 25 = .ok (.ifCond .ge 34, 3) := by decide +kernel
theorem d37_59 : decode prog_91_method_2_code 59 = .ok (.aload_n 0, 1) := by decide +kernel
theorem d37_60 : decode prog_91_method_2_code 60 = .ok (.getfield 27, 3) := by decide +kernel
theorem d37_63 : decode prog_91_method_2_code 63 = .ok (.ifCond .le 32, 3) := by decide +kernel
theorem d37_66 : decode prog_91_method_2_code 66 = .ok (.lload_n 3, 1) := by decide +kernel
theorem d37_67 : decode prog_91_method_2_code 67 = .ok (.aload_n 0, 1) := by decide +kernel
theorem d37_68 : decode prog_91_method_2_code 68 = .ok (.getfield 9, 3) := by decide +kernel
theorem d37_71 : decode prog_91_method_2_code 71 = .ok (.aload_n 0, 1) := by decide +kernel
theorem d37_72 : decode prog_91_method_2_code 72 = .ok (.getfield 27, 3) := by decide +kernel
theorem d37_75 : decode prog_91_method_2_code 75 = .ok (.iconst 1, 1) := by decide +kernel
theorem d37_76 : decode prog_91_method_2_code 76 = .ok (.isub, 1) := by decide +kernel
theorem d37_77 : decode prog_91_method_2_code 77 = .ok (.laload, 1) := by decide +kernel
theorem d37_78 : decode prog_91_method_2_code 78 = .ok (.lcmp, 1) := by decide +kernel
theorem d37_79 : decode prog_91_method_2_code 79 = .ok (.ifCond .ne 16, 3) := by decide +kernel
theorem d37_82 : decode prog_91_method_2_code 82 = .ok (.aload_n 0, 1) := by decide +kernel
theorem d37_83 : decode prog_91_method_2_code 83 = .ok (.getfield 19, 3) := by decide +kernel
theorem d37_86 : decode prog_91_method_2_code 86 = .ok (.aload_n 0, 1) := by decide +kernel
theorem d37_87 : decode prog_91_method_2_code 87 = .ok (.getfield 27, 3) := by decide +kernel
theorem d37_90 : decode prog_91_method_2_code 90 = .ok (.iconst 1, 1) := by decide +kernel
theorem d37_91 : decode prog_91_method_2_code 91 = .ok (.isub, 1) := by decide +kernel
theorem d37_92 : decode prog_91_method_2_code 92 = .ok (.aload_n 2, 1) := by decide +kernel
theorem d37_93 : decode prog_91_method_2_code 93 = .ok (.aastore, 1) := by decide +kernel
theorem d37_94 : decode prog_91_method_2_code 94 = .ok (.return_, 1) := by decide +kernel
theorem d37_95 : decode prog_91_method_2_code 95 = .ok (.aload_n 0, 1) := by decide +kernel
theorem d37_96 : decode prog_91_method_2_code 96 = .ok (.getfield 27, 3) := by decide +kernel
theorem d37_99 : decode prog_91_method_2_code 99 = .ok (.aload_n 0, 1) := by decide +kernel
theorem d37_100 : decode prog_91_method_2_code 100 = .ok (.getfield 9, 3) := by decide +kernel
theorem d37_103 : decode prog_91_method_2_code 103 = .ok (.arraylength, 1) := by decide +kernel
theorem d37_104 : decode prog_91_method_2_code 104 = .ok (.if_icmp .ne 57, 3) := by decide +kernel
theorem d37_161 : decode prog_91_method_2_code 161 = .ok (.aload_n 0, 1) := by decide +kernel
theorem d37_162 : decode prog_91_method_2_code 162 = .ok (.getfield 9, 3) := by decide +kernel
theorem d37_165 : decode prog_91_method_2_code 165 = .ok (.aload_n 0, 1) := by decide +kernel
theorem d37_166 : decode prog_91_method_2_code 166 = .ok (.getfield 27, 3) := by decide +kernel
theorem d37_169 : decode prog_91_method_2_code 169 = .ok (.lload_n 3, 1) := by decide +kernel
theorem d37_170 : decode prog_91_method_2_code 170 = .ok (.lastore, 1) := by decide +kernel
theorem d37_171 : decode prog_91_method_2_code 171 = .ok (.aload_n 0, 1) := by decide +kernel
theorem d37_172 : decode prog_91_method_2_code 172 = .ok (.getfield 15, 3) := by decide +kernel
theorem d37_175 : decode prog_91_method_2_code 175 = .ok (.aload_n 0, 1) := by decide +kernel
theorem d37_176 : decode prog_91_method_2_code 176 = .ok (.getfield 27, 3) := by decide +kernel
theorem d37_179 : decode prog_91_method_2_code 179 = .ok (.aload_n 1, 1) := by decide +kernel
theorem d37_180 : decode prog_91_method_2_code 180 = .ok (.aastore, 1) := by decide +kernel
theorem d37_181 : decode prog_91_method_2_code 181 = .ok (.aload_n 0, 1) := by decide +kernel
theorem d37_182 : decode prog_91_method_2_code 182 = .ok (.getfield 19, 3) := by decide +kernel
theorem d37_185 : decode prog_91_method_2_code 185 = .ok (.aload_n 0, 1) := by decide +kernel
theorem d37_186 : decode prog_91_method_2_code 186 = .ok (.getfield 27, 3) := by decide +kernel
theorem d37_189 : decode prog_91_method_2_code 189 = .ok (.aload_n 2, 1) := by decide +kernel
theorem d37_190 : decode prog_91_method_2_code 190 = .ok (.aastore, 1) := by decide +kernel
theorem d37_191 : decode prog_91_method_2_code 191 = .ok (.aload_n 0, 1) := by decide +kernel
theorem d37_192 : decode prog_91_method_2_code 192 = .ok (.dup, 1) := by decide +kernel
theorem d37_193 : decode prog_91_method_2_code 193 = .ok (.getfield 27, 3) := by decide +kernel
theorem d37_196 : decode prog_91_method_2_code 196 = .ok (.iconst 1, 1) := by decide +kernel
theorem d37_197 : decode prog_91_method_2_code 197 = .ok (.iadd, 1) := by decide +kernel
theorem d37_198 : decode prog_91_method_2_code 198 = .ok (.putfield 27, 3) := by decide +kernel
theorem d37_201 : decode prog_91_method_2_code 201 = .ok (.return_, 1) := by decide +kernel
theorem d38_0 : decode jdk_2323_method_67_code 0 = .ok (.aload_n 0, 1) := by decide +kernel
theorem d38_1 : decode jdk_2323_method_67_code 1 = .ok (.getfield 246, 3) := by decide +kernel
theorem d38_4 : decode jdk_2323_method_67_code 4 = .ok (.i2l, 1) := by decide +kernel
theorem d38_5 : decode jdk_2323_method_67_code 5 = .ok (.lstore_n 1, 1) := by decide +kernel
theorem d38_6 : decode jdk_2323_method_67_code 6 = .ok (.aload_n 0, 1) := by decide +kernel
theorem d38_7 : decode jdk_2323_method_67_code 7 = .ok (.getfield 250, 3) := by decide +kernel
theorem d38_10 : decode jdk_2323_method_67_code 10 = .ok (.i2l, 1) := by decide +kernel
theorem d38_11 : decode jdk_2323_method_67_code 11 = .ok (.lstore_n 3, 1) := by decide +kernel
theorem d38_12 : decode jdk_2323_method_67_code 12 = .ok (.lconst 0, 1) := by decide +kernel
theorem d38_13 : decode jdk_2323_method_67_code 13 = .ok (.lstore 5, 2) := by decide +kernel
theorem d38_15 : decode jdk_2323_method_67_code 15 = .ok (.lload 5, 2) := by decide +kernel
theorem d38_17 : decode jdk_2323_method_67_code 17 = .ok (.ldc2_w 174, 3) := by decide +kernel
theorem d38_20 : decode jdk_2323_method_67_code 20 = .ok (.lload_n 1, 1) := by decide +kernel
theorem d38_21 : decode jdk_2323_method_67_code 21 = .ok (.lmul, 1) := by decide +kernel
theorem d38_22 : decode jdk_2323_method_67_code 22 = .ok (.ladd, 1) := by decide +kernel
theorem d38_23 : decode jdk_2323_method_67_code 23 = .ok (.lstore 5, 2) := by decide +kernel
theorem d38_25 : decode jdk_2323_method_67_code 25 = .ok (.lload_n 1, 1) := by decide +kernel
theorem d38_26 : decode jdk_2323_method_67_code 26 = .ok (.lconst 0, 1) := by decide +kernel
theorem d38_27 : decode jdk_2323_method_67_code 27 = .ok (.lcmp, 1) := by decide +kernel
theorem d38_28 : decode jdk_2323_method_67_code 28 = .ok (.ifCond .lt 40, 3) := by decide +kernel
theorem d38_31 : decode jdk_2323_method_67_code 31 = .ok (.lload 5, 2) := by decide +kernel
theorem d38_33 : decode jdk_2323_method_67_code 33 = .ok (.lload_n 1, 1) := by decide +kernel
theorem d38_34 : decode jdk_2323_method_67_code 34 = .ok (.ldc2_w 370, 3) := by decide +kernel
theorem d38_37 : decode jdk_2323_method_67_code 37 = .ok (.ladd, 1) := by decide +kernel
theorem d38_38 : decode jdk_2323_method_67_code 38 = .ok (.ldc2_w 176, 3) := by decide +kernel
theorem d38_41 : decode jdk_2323_method_67_code 41 = .ok (.ldiv, 1) := by decide +kernel
theorem d38_42 : decode jdk_2323_method_67_code 42 = .ok (.lload_n 1, 1) := by decide +kernel
theorem d38_43 : decode jdk_2323_method_67_code 43 = .ok (.ldc2_w 654, 3) := by decide +kernel
theorem d38_46 : decode jdk_2323_method_67_code 46 = .ok (.ladd, 1) := by decide +kernel
theorem d38_47 : decode jdk_2323_method_67_code 47 = .ok (.ldc2_w 178, 3) := by decide +kernel
theorem d38_50 : decode jdk_2323_method_67_code 50 = .ok (.ldiv, 1) := by decide +kernel
theorem d38_51 : decode jdk_2323_method_67_code 51 = .ok (.lsub, 1) := by decide +kernel
theorem d38_52 : decode jdk_2323_method_67_code 52 = .ok (.lload_n 1, 1) := by decide +kernel
theorem d38_53 : decode jdk_2323_method_67_code 53 = .ok (.ldc2_w 656, 3) := by decide +kernel
theorem d38_56 : decode jdk_2323_method_67_code 56 = .ok (.ladd, 1) := by decide +kernel
theorem d38_57 : decode jdk_2323_method_67_code 57 = .ok (.ldc2_w 170, 3) := by decide +kernel
theorem d38_60 : decode jdk_2323_method_67_code 60 = .ok (.ldiv, 1) := by decide +kernel
theorem d38_61 : decode jdk_2323_method_67_code 61 = .ok (.ladd, 1) := by decide +kernel
theorem d38_62 : decode jdk_2323_method_67_code 62 = .ok (.ladd, 1) := by decide +kernel
theorem d38_63 : decode jdk_2323_method_67_code 63 = .ok (.lstore 5, 2) := by decide +kernel
theorem d38_65 : decode jdk_2323_method_67_code 65 = .ok (.goto 25, 3) := by decide +kernel
theorem d38_90 : decode jdk_2323_method_67_code 90 = .ok (.lload 5, 2) := by decide +kernel
theorem d38_92 : decode jdk_2323_method_67_code 92 = .ok (.ldc2_w 664, 3) := by decide +kernel
theorem d38_95 : decode jdk_2323_method_67_code 95 = .ok (.lload_n 3, 1) := by decide +kernel
theorem d38_96 : decode jdk_2323_method_67_code 96 = .ok (.lmul, 1) := by decide +kernel
theorem d38_97 : decode jdk_2323_method_67_code 97 = .ok (.ldc2_w 666, 3) := by decide +kernel
theorem d38_100 : decode jdk_2323_method_67_code 100 = .ok (.lsub, 1) := by decide +kernel
theorem d38_101 : decode jdk_2323_method_67_code 101 = .ok (.ldc2_w 359, 3) := by decide +kernel
theorem d38_104 : decode jdk_2323_method_67_code 104 = .ok (.ldiv, 1) := by decide +kernel
theorem d38_105 : decode jdk_2323_method_67_code 105 = .ok (.ladd, 1) := by decide +kernel
theorem d38_106 : decode jdk_2323_method_67_code 106 = .ok (.lstore 5, 2) := by decide +kernel
theorem d38_108 : decode jdk_2323_method_67_code 108 = .ok (.lload 5, 2) := by decide +kernel
theorem d38_110 : decode jdk_2323_method_67_code 110 = .ok (.aload_n 0, 1) := by decide +kernel
theorem d38_111 : decode jdk_2323_method_67_code 111 = .ok (.getfield 253, 3) := by decide +kernel
theorem d38_114 : decode jdk_2323_method_67_code 114 = .ok (.iconst 1, 1) := by decide +kernel
theorem d38_115 : decode jdk_2323_method_67_code 115 = .ok (.isub, 1) := by decide +kernel
theorem d38_116 : decode jdk_2323_method_67_code 116 = .ok (.i2l, 1) := by decide +kernel
theorem d38_117 : decode jdk_2323_method_67_code 117 = .ok (.ladd, 1) := by decide +kernel
theorem d38_118 : decode jdk_2323_method_67_code 118 = .ok (.lstore 5, 2) := by decide +kernel
theorem d38_120 : decode jdk_2323_method_67_code 120 = .ok (.lload_n 3, 1) := by decide +kernel
theorem d38_121 : decode jdk_2323_method_67_code 121 = .ok (.ldc2_w 668, 3) := by decide +kernel
theorem d38_124 : decode jdk_2323_method_67_code 124 = .ok (.lcmp, 1) := by decide +kernel
theorem d38_125 : decode jdk_2323_method_67_code 125 = .ok (.ifCond .le 22, 3) := by decide +kernel
theorem d38_128 : decode jdk_2323_method_67_code 128 = .ok (.lload 5, 2) := by decide +kernel
theorem d38_130 : decode jdk_2323_method_67_code 130 = .ok (.lconst 1, 1) := by decide +kernel
theorem d38_131 : decode jdk_2323_method_67_code 131 = .ok (.lsub, 1) := by decide +kernel
theorem d38_132 : decode jdk_2323_method_67_code 132 = .ok (.lstore 5, 2) := by decide +kernel
theorem d38_134 : decode jdk_2323_method_67_code 134 = .ok (.aload_n 0, 1) := by decide +kernel
theorem d38_135 : decode jdk_2323_method_67_code 135 = .ok (.invokevirtual 297, 3) := by decide +kernel
theorem d38_138 : decode jdk_2323_method_67_code 138 = .ok (.ifCond .ne 9, 3) := by decide +kernel
theorem d38_141 : decode jdk_2323_method_67_code 141 = .ok (.lload 5, 2) := by decide +kernel
theorem d38_143 : decode jdk_2323_method_67_code 143 = .ok (.lconst 1, 1) := by decide +kernel
theorem d38_144 : decode jdk_2323_method_67_code 144 = .ok (.lsub, 1) := by decide +kernel
theorem d38_145 : decode jdk_2323_method_67_code 145 = .ok (.lstore 5, 2) := by decide +kernel
theorem d38_147 : decode jdk_2323_method_67_code 147 = .ok (.lload 5, 2) := by decide +kernel
theorem d38_149 : decode jdk_2323_method_67_code 149 = .ok (.ldc2_w 164, 3) := by decide +kernel
theorem d38_152 : decode jdk_2323_method_67_code 152 = .ok (.lsub, 1) := by decide +kernel
theorem d38_153 : decode jdk_2323_method_67_code 153 = .ok (.lreturn, 1) := by decide +kernel
theorem d39_0 : decode jdk_2323_method_30_code 0 = .ok (.getstatic 70, 3) := by decide +kernel
theorem d39_3 : decode jdk_2323_method_30_code 3 = .ok (.aload_n 0, 1) := by decide +kernel
theorem d39_4 : decode jdk_2323_method_30_code 4 = .ok (.getfield 246, 3) := by decide +kernel
theorem d39_7 : decode jdk_2323_method_30_code 7 = .ok (.i2l, 1) := by decide +kernel
theorem d39_8 : decode jdk_2323_method_30_code 8 = .ok (.invokevirtual 76, 3) := by decide +kernel
theorem d39_11 : decode jdk_2323_method_30_code 11 = .ok (.ireturn, 1) := by decide +kernel
theorem d40_0 : decode jdk_2369_method_18_code 0 = .ok (.lload_n 1, 1) := by decide +kernel
theorem d40_1 : decode jdk_2369_method_18_code 1 = .ok (.ldc2_w 117, 3) := by decide +kernel
theorem d40_4 : decode jdk_2369_method_18_code 4 = .ok (.land, 1) := by decide +kernel
theorem d40_5 : decode jdk_2369_method_18_code 5 = .ok (.lconst 0, 1) := by decide +kernel
theorem d40_6 : decode jdk_2369_method_18_code 6 = .ok (.lcmp, 1) := by decide +kernel
theorem d40_7 : decode jdk_2369_method_18_code 7 = .ok (.ifCond .ne 27, 3) := by decide +kernel
theorem d40_10 : decode jdk_2369_method_18_code 10 = .ok (.lload_n 1, 1) := by decide +kernel
theorem d40_11 : decode jdk_2369_method_18_code 11 = .ok (.ldc2_w 123, 3) := by decide +kernel
theorem d40_14 : decode jdk_2369_method_18_code 14 = .ok (.lrem, 1) := by decide +kernel
theorem d40_15 : decode jdk_2369_method_18_code 15 = .ok (.lconst 0, 1) := by decide +kernel
theorem d40_16 : decode jdk_2369_method_18_code 16 = .ok (.lcmp, 1) := by decide +kernel
theorem d40_17 : decode jdk_2369_method_18_code 17 = .ok (.ifCond .ne 13, 3) := by decide +kernel
theorem d40_20 : decode jdk_2369_method_18_code 20 = .ok (.lload_n 1, 1) := by decide +kernel
theorem d40_21 : decode jdk_2369_method_18_code 21 = .ok (.ldc2_w 127, 3) := by decide +kernel
theorem d40_24 : decode jdk_2369_method_18_code 24 = .ok (.lrem, 1) := by decide +kernel
theorem d40_25 : decode jdk_2369_method_18_code 25 = .ok (.lconst 0, 1) := by decide +kernel
theorem d40_26 : decode jdk_2369_method_18_code 26 = .ok (.lcmp, 1) := by decide +kernel
theorem d40_27 : decode jdk_2369_method_18_code 27 = .ok (.ifCond .ne 7, 3) := by decide +kernel
theorem d40_30 : decode jdk_2369_method_18_code 30 = .ok (.iconst 1, 1) := by decide +kernel
theorem d40_31 : decode jdk_2369_method_18_code 31 = .ok (.goto 4, 3) := by decide +kernel
theorem d40_34 : decode jdk_2369_method_18_code 34 = .ok (.iconst 0, 1) := by decide +kernel
theorem d40_35 : decode jdk_2369_method_18_code 35 = .ok (.ireturn, 1) := by decide +kernel
theorem d41_0 : decode prog_47_method_10_code 0 = .ok (.aload_n 0, 1) := by decide +kernel
theorem d41_1 : decode prog_47_method_10_code 1 = .ok (.getfield 23, 3) := by decide +kernel
theorem d41_4 : decode prog_47_method_10_code 4 = .ok (.ifCond .ne 7, 3) := by decide +kernel
theorem d41_7 : decode prog_47_method_10_code 7 = .ok (.invokestatic 73, 3) := by decide +kernel
theorem d41_10 : decode prog_47_method_10_code 10 = .ok (.areturn, 1) := by decide +kernel
theorem d42_0 : decode jdk_40_method_36_code 0 = .ok (.getstatic 90, 3) := by decide +kernel
theorem d42_3 : decode jdk_40_method_36_code 3 = .ok (.areturn, 1) := by decide +kernel
theorem d43_0 : decode prog_85_method_15_code 0 = .ok (.aload_n 1, 1) := by decide +kernel
theorem d43_1 : decode prog_85_method_15_code 1 = .ok (.invokeinterface 148 1, 5) := by decide +kernel
theorem d43_6 : decode prog_85_method_15_code 6 = .ok (.astore_n 2, 1) := by decide +kernel
theorem d43_7 : decode prog_85_method_15_code 7 = .ok (.aload_n 2, 1) := by decide +kernel
theorem d43_8 : decode prog_85_method_15_code 8 = .ok (.invokeinterface 165 1, 5) := by decide +kernel
theorem d43_13 : decode prog_85_method_15_code 13 = .ok (.ifCond .eq 33, 3) := by decide +kernel
theorem d43_46 : decode prog_85_method_15_code 46 = .ok (.return_, 1) := by decide +kernel
theorem d44_0 : decode jdk_46_method_10_code 0 = .ok (.new 61, 3) := by decide +kernel
theorem d44_3 : decode jdk_46_method_10_code 3 = .ok (.dup, 1) := by decide +kernel
theorem d44_4 : decode jdk_46_method_10_code 4 = .ok (.aload_n 0, 1) := by decide +kernel
theorem d44_5 : decode jdk_46_method_10_code 5 = .ok (.aload_n 0, 1) := by decide +kernel
theorem d44_6 : decode jdk_46_method_10_code 6 = .ok (.invokevirtual 13, 3) := by decide +kernel
theorem d44_9 : decode jdk_46_method_10_code 9 = .ok (.invokespecial 63, 3) := by decide +kernel
theorem d44_12 : decode jdk_46_method_10_code 12 = .ok (.areturn, 1) := by decide +kernel
theorem d45_0 : decode jdk_45_method_3_code 0 = .ok (.aload_n 0, 1) := by decide +kernel
theorem d45_1 : decode jdk_45_method_3_code 1 = .ok (.getfield 7, 3) := by decide +kernel
theorem d45_4 : decode jdk_45_method_3_code 4 = .ok (.arraylength, 1) := by decide +kernel
theorem d45_5 : decode jdk_45_method_3_code 5 = .ok (.ireturn, 1) := by decide +kernel
theorem d46_0 : decode jdk_53_method_1_code 0 = .ok (.aload_n 0, 1) := by decide +kernel
theorem d46_1 : decode jdk_53_method_1_code 1 = .ok (.invokespecial 1, 3) := by decide +kernel
theorem d46_4 : decode jdk_53_method_1_code 4 = .ok (.aload_n 0, 1) := by decide +kernel
theorem d46_5 : decode jdk_53_method_1_code 5 = .ok (.aload_n 1, 1) := by decide +kernel
theorem d46_6 : decode jdk_53_method_1_code 6 = .ok (.putfield 7, 3) := by decide +kernel
theorem d46_9 : decode jdk_53_method_1_code 9 = .ok (.aload_n 0, 1) := by decide +kernel
theorem d46_10 : decode jdk_53_method_1_code 10 = .ok (.iload_n 2, 1) := by decide +kernel
theorem d46_11 : decode jdk_53_method_1_code 11 = .ok (.putfield 13, 3) := by decide +kernel
theorem d46_14 : decode jdk_53_method_1_code 14 = .ok (.aload_n 0, 1) := by decide +kernel
theorem d46_15 : decode jdk_53_method_1_code 15 = .ok (.iconst 0, 1) := by decide +kernel
theorem d46_16 : decode jdk_53_method_1_code 16 = .ok (.putfield 17, 3) := by decide +kernel
theorem d46_19 : decode jdk_53_method_1_code 19 = .ok (.aload_n 0, 1) := by decide +kernel
theorem d46_20 : decode jdk_53_method_1_code 20 = .ok (.iconst 0, 1) := by decide +kernel
theorem d46_21 : decode jdk_53_method_1_code 21 = .ok (.putfield 20, 3) := by decide +kernel
theorem d46_24 : decode jdk_53_method_1_code 24 = .ok (.return_, 1) := by decide +kernel
theorem d47_0 : decode jdk_53_method_3_code 0 = .ok (.aload_n 0, 1) := by decide +kernel
theorem d47_1 : decode jdk_53_method_3_code 1 = .ok (.getfield 17, 3) := by decide +kernel
theorem d47_4 : decode jdk_53_method_3_code 4 = .ok (.aload_n 0, 1) := by decide +kernel
theorem d47_5 : decode jdk_53_method_3_code 5 = .ok (.getfield 13, 3) := by decide +kernel
theorem d47_8 : decode jdk_53_method_3_code 8 = .ok (.if_icmp .eq 7, 3) := by decide +kernel
theorem d47_15 : decode jdk_53_method_3_code 15 = .ok (.iconst 0, 1) := by decide +kernel
theorem d47_16 : decode jdk_53_method_3_code 16 = .ok (.ireturn, 1) := by decide +kernel
theorem d48_0 : decode prog_85_method_16_code 0 = .ok (.aload_n 0, 1) := by decide +kernel
theorem d48_1 : decode prog_85_method_16_code 1 = .ok (.getfield 83, 3) := by decide +kernel
theorem d48_4 : decode prog_85_method_16_code 4 = .ok (.ifnull 18, 3) := by decide +kernel
theorem d48_22 : decode prog_85_method_16_code 22 = .ok (.return_, 1) := by decide +kernel
theorem pd___C_V : parseMethodDescriptor "([C)V" = some ⟨[(.array .char)], none⟩ := by decide +kernel
theorem pd___I : parseMethodDescriptor "()I" = some ⟨[], some .int⟩ := by decide +kernel
theorem pd__I_C : parseMethodDescriptor "(I)C" = some ⟨[.int], some .char⟩ := by decide +kernel
theorem pd__C_Z : parseMethodDescriptor "(C)Z" = some ⟨[.char], some .boolean⟩ := by decide +kernel
theorem pd__Ljava_lang_String_II_Z : parseMethodDescriptor "(Ljava/lang/String;II)Z" = some ⟨[(.object "java/lang/String"), .int, .int], some .boolean⟩ := by decide +kernel
theorem pd___J : parseMethodDescriptor "()J" = some ⟨[], some .long⟩ := by decide +kernel
theorem pd__J_Z : parseMethodDescriptor "(J)Z" = some ⟨[.long], some .boolean⟩ := by decide +kernel
theorem pd___Ljava_time_temporal_ValueRange_ : parseMethodDescriptor "()Ljava/time/temporal/ValueRange;" = some ⟨[], some (.object "java/time/temporal/ValueRange")⟩ := by decide +kernel
theorem pd__JLjava_time_temporal_TemporalField__J : parseMethodDescriptor "(JLjava/time/temporal/TemporalField;)J" = some ⟨[.long, (.object "java/time/temporal/TemporalField")], some .long⟩ := by decide +kernel
theorem pd__III_V : parseMethodDescriptor "(III)V" = some ⟨[.int, .int, .int], none⟩ := by decide +kernel
theorem pd__J_J : parseMethodDescriptor "(J)J" = some ⟨[.long], some .long⟩ := by decide +kernel
theorem pd__III_Ljava_time_LocalDate_ : parseMethodDescriptor "(III)Ljava/time/LocalDate;" = some ⟨[.int, .int, .int], some (.object "java/time/LocalDate")⟩ := by decide +kernel
theorem pd__Ljava_lang_String__Z : parseMethodDescriptor "(Ljava/lang/String;)Z" = some ⟨[(.object "java/lang/String")], some .boolean⟩ := by decide +kernel
theorem pd__Ljava_lang_String_II_I : parseMethodDescriptor "(Ljava/lang/String;II)I" = some ⟨[(.object "java/lang/String"), .int, .int], some .int⟩ := by decide +kernel
theorem pd___V : parseMethodDescriptor "()V" = some ⟨[], none⟩ := by decide +kernel
theorem pd___Z : parseMethodDescriptor "()Z" = some ⟨[], some .boolean⟩ := by decide +kernel
theorem pd___Ljava_util_List_ : parseMethodDescriptor "()Ljava/util/List;" = some ⟨[], some (.object "java/util/List")⟩ := by decide +kernel
theorem pd__Ljava_util_List_I_V : parseMethodDescriptor "(Ljava/util/List;I)V" = some ⟨[(.object "java/util/List"), .int], none⟩ := by decide +kernel
theorem pd___Ljava_util_Iterator_ : parseMethodDescriptor "()Ljava/util/Iterator;" = some ⟨[], some (.object "java/util/Iterator")⟩ := by decide +kernel
theorem pd__Ljava_time_LocalDate_Ljava_lang_Object__V : parseMethodDescriptor "(Ljava/time/LocalDate;Ljava/lang/Object;)V" = some ⟨[(.object "java/time/LocalDate"), (.object "java/lang/Object")], none⟩ := by decide +kernel
theorem pd__Ljava_util_List__V : parseMethodDescriptor "(Ljava/util/List;)V" = some ⟨[(.object "java/util/List")], none⟩ := by decide +kernel
theorem pd__III_Ljava_lang_String_ : parseMethodDescriptor "(III)Ljava/lang/String;" = some ⟨[.int, .int, .int], some (.object "java/lang/String")⟩ := by decide +kernel
theorem pd__Ljava_lang_String__Ljava_time_LocalDate_ : parseMethodDescriptor "(Ljava/lang/String;)Ljava/time/LocalDate;" = some ⟨[(.object "java/lang/String")], some (.object "java/time/LocalDate")⟩ := by decide +kernel
theorem pd__Lcom_example_tranchery_tranchery_journal_BusinessCalendar_Lcom_example_tranchery_tranchery_journal_Roll__V : parseMethodDescriptor "(Lcom/example/tranchery/tranchery/journal/BusinessCalendar;Lcom/example/tranchery/tranchery/journal/Roll;)V" = some ⟨[(.object "com/example/tranchery/tranchery/journal/BusinessCalendar"), (.object "com/example/tranchery/tranchery/journal/Roll")], none⟩ := by decide +kernel
theorem pd__Ljava_time_LocalDate_Lcom_example_tranchery_tranchery_journal_BusinessDays__V : parseMethodDescriptor "(Ljava/time/LocalDate;Lcom/example/tranchery/tranchery/journal/BusinessDays;)V" = some ⟨[(.object "java/time/LocalDate"), (.object "com/example/tranchery/tranchery/journal/BusinessDays")], none⟩ := by decide +kernel
theorem own_wLen : ∀ d ∈ StrChars.Road.wordsLen, d ∈ tables_1 := by decide +kernel
theorem own_wChN : ∀ d ∈ StrChars.Road.wordsChN, d ∈ tables_1 := by decide +kernel
theorem own_w : ∀ d ∈ StrChars.Road.words, d ∈ tables_1 := by decide +kernel
def own_c (k : Nat) : Int32 := Int32.ofNat (48 + k)
def own_tx (yn mn dn : Nat) : List Int32 := [own_c (yn / 1000), own_c (yn / 100 % 10), own_c (yn / 10 % 10), own_c (yn % 10), 45, own_c (mn / 10), own_c (mn % 10), 45, own_c (dn / 10), own_c (dn % 10)]
def own_vs (cs : List Int32) : List Value := cs.map fun z => Value.int (StrChars.lo8 z)
theorem own_toI {j : Nat} (h : j < 2147483648) : (Int32.ofNat j).toInt = j := Int32.toInt_ofNat_of_lt (by omega)
theorem own_lt {z k : Int32} (n : Int) (hk : k.toInt = n) : z < k ↔ z.toInt < n := by rw [Int32.lt_iff_toInt_lt, hk]
theorem own_gt {z k : Int32} (n : Int) (hk : k.toInt = n) : k < z ↔ n < z.toInt := by rw [Int32.lt_iff_toInt_lt, hk]
theorem own_eq {z k : Int32} (n : Int) (hk : k.toInt = n) : z = k ↔ z.toInt = n := by rw [← Int32.toInt_inj, hk]
theorem own_cI {k : Nat} (h : k < 10) : (own_c k).toInt = 48 + (k : Int) := by rw [own_c, own_toI (by omega)]; omega
theorem own_c8 {z : Int32} (h : 0 ≤ z.toInt ∧ z.toInt ≤ 255) : (¬ z < 0 ∧ ¬ (255 : Int32) < z) ∧ (¬ z < 0 ∧ ¬ (65535 : Int32) < z) := by
  rw [own_lt (k := 0) 0 rfl, own_gt (k := 255) 255 rfl, own_gt (k := 65535) 65535 rfl]; omega
theorem own_nc {z : Int32} (h : 0 ≤ z.toInt ∧ z.toInt ≤ 255) : nar .char z = z := Value.int.inj (StrChars.narrow_ch (own_c8 h).2.1 (own_c8 h).2.2)
theorem own_nc2 {z : Int32} (h : 0 ≤ z.toInt ∧ z.toInt ≤ 255) : z.toUInt32.toUInt16.toUInt32.toInt32 = z := own_nc h
theorem own_cr {k : Nat} (h : k < 10) : 0 ≤ (own_c k).toInt ∧ (own_c k).toInt ≤ 255 := by rw [own_cI h]; omega
theorem own_divN {n : Nat} (k : Nat) (hn : n < 100000) (hk : 0 < k) (hk2 : k < 100000) : Int32.ofNat n / Int32.ofNat k = Int32.ofNat (n / k) := (Int32.ofNat_div (by omega) (by omega)).symm
theorem own_modN {n : Nat} (k : Nat) (hn : n < 100000) (hk : 0 < k) (hk2 : k < 100000) : Int32.ofNat n % Int32.ofNat k = Int32.ofNat (n % k) := by
  apply Int32.toInt_inj.mp
  have hq : n % k < 100000 := Nat.lt_of_le_of_lt (Nat.mod_le n k) hn
  rw [Int32.toInt_mod, own_toI (by omega), own_toI (by omega), own_toI (by omega)]
  exact (Int.ofNat_tmod n k).symm
theorem own_d1 {n : Nat} (k : Nat) (hn : n < 100000) (hk : 0 < k) (hk2 : k < 100000) : (48 : Int32) + Int32.ofNat n / Int32.ofNat k = own_c (n / k) := by
  rw [own_divN k hn hk hk2]; exact (Int32.ofNat_add 48 (n / k)).symm
theorem own_d2 {n : Nat} (k : Nat) (hn : n < 100000) (hk : 0 < k) (hk2 : k < 100000) : (48 : Int32) + Int32.ofNat n / Int32.ofNat k % (10 : Int32) = own_c (n / k % 10) := by
  have hq : n / k < 100000 := Nat.lt_of_le_of_lt (Nat.div_le_self n k) hn
  rw [own_divN k hn hk hk2, show (10 : Int32) = Int32.ofNat 10 from rfl, own_modN 10 hq (by omega) (by omega)]; exact (Int32.ofNat_add 48 (n / k % 10)).symm
theorem own_d3 {n : Nat} (hn : n < 100000) : (48 : Int32) + Int32.ofNat n % (10 : Int32) = own_c (n % 10) := by
  rw [show (10 : Int32) = Int32.ofNat 10 from rfl, own_modN 10 hn (by omega) (by omega)]; exact (Int32.ofNat_add 48 (n % 10)).symm
theorem own_acc (n k : Nat) : ((Int32.ofNat n * (10 : Int32)) + own_c k) - (48 : Int32) = Int32.ofNat (n * 10 + k) := by
  rw [own_c, show (10 : Int32) = Int32.ofNat 10 from rfl, show (48 : Int32) = Int32.ofNat 48 from rfl, ← Int32.ofNat_mul, ← Int32.ofNat_add, ← Int32.ofNat_sub _ _ (by omega)]
  exact congrArg Int32.ofNat (by omega)
theorem own_txr {yn mn dn : Nat} (h1 : yn ≤ 9999) (h2 : mn ≤ 12) (h3 : dn ≤ 28) : ∀ z ∈ own_tx yn mn dn, 0 ≤ z.toInt ∧ z.toInt ≤ 255 := by
  intro z hz
  simp only [own_tx, List.mem_cons, List.not_mem_nil, or_false] at hz
  rcases hz with rfl | rfl | rfl | rfl | rfl | rfl | rfl | rfl | rfl | rfl
  all_goals first | exact own_cr (by omega) | decide
theorem own_coda {yn mn dn : Nat} (h1 : yn ≤ 9999) (h2 : mn ≤ 12) (h3 : dn ≤ 28) : StrChars.Road.CodA (own_tx yn mn dn) 0 (10 : Int32) (own_vs (own_tx yn mn dn)) := Or.inl ⟨rfl, rfl, rfl, fun z hz => (own_c8 (own_txr h1 h2 h3 z hz)).1.2⟩
theorem own_hb {yn mn dn : Nat} (h1 : yn ≤ 9999) (h2 : mn ≤ 12) (h3 : dn ≤ 28) : ∀ z ∈ own_tx yn mn dn, ¬ z < 0 ∧ ¬ (65535 : Int32) < z := fun z hz => (own_c8 (own_txr h1 h2 h3 z hz)).2
theorem own_and (x : Int32) : 0 ≤ (x &&& 2147483647).toInt := by
  have h : (x &&& 2147483647).toBitVec.toNat ≤ 2147483647 := by
    rw [Int32.toBitVec_and, BitVec.toNat_and]; exact Nat.and_le_right
  have e : (x &&& 2147483647).toInt = (x &&& 2147483647).toBitVec.toInt := rfl
  rw [e, BitVec.toInt_eq_toNat_cond, if_pos (by omega)]
  omega
theorem own_mod (x : Int32) {k : Int32} (n : Nat) (hk : k.toInt = n) (h0 : 0 < n) (h1 : n < 100000) : ∃ j : Nat, j < n ∧ (x &&& 2147483647) % k = Int32.ofNat j := by
  have h := own_and x
  have a := Int.emod_lt_of_pos (x &&& 2147483647).toInt (show (0 : Int) < n by omega)
  have b := Int.emod_nonneg (x &&& 2147483647).toInt (show (n : Int) ≠ 0 by omega)
  refine ⟨((x &&& 2147483647).toInt % n).toNat, by omega, ?_⟩
  apply Int32.toInt_inj.mp
  rw [own_toI (by omega), Int32.toInt_mod, hk, Int.tmod_eq_emod_of_nonneg h]
  omega
theorem own_and1 (x : Int32) : ∃ j : Nat, j < 2 ∧ x &&& 1 = Int32.ofNat j := by
  rcases and_one x with h | h
  · exact ⟨0, by omega, h⟩
  · exact ⟨1, by omega, h⟩
theorem own_addN (a b : Nat) : Int32.ofNat a + Int32.ofNat b = Int32.ofNat (a + b) := (Int32.ofNat_add a b).symm
theorem own_s16 {n : Nat} (h : n < 100) : (Int32.ofNat n).toInt16.toInt32 = Int32.ofNat n := by
  have t : ∀ k : Fin 100, (Int32.ofNat k.val).toInt16.toInt32 = Int32.ofNat k.val := by decide +kernel
  exact t ⟨n, h⟩
theorem own_toJ {j : Nat} (h : j < 2147483648) : (Int64.ofNat j).toInt = j := Int64.toInt_ofNat_of_lt (by omega)
theorem own_i2l {n : Nat} (h : n < 2147483648) : (Int32.ofNat n).toInt64 = Int64.ofNat n := by
  apply Int64.toInt_inj.mp
  rw [Int32.toInt_toInt64, own_toI h, own_toJ h]
theorem own_lcl {x y : Int64} : lcmpW x y < (0 : Int32) ↔ x.toInt < y.toInt := by
  show (if x > y then (1 : Int32) else if x = y then 0 else -1) < 0 ↔ _
  by_cases h1 : x > y
  · rw [if_pos h1]
    have := Int64.lt_iff_toInt_lt.mp h1
    exact ⟨fun q => absurd q (by decide), fun q => by omega⟩
  · rw [if_neg h1]
    have h3 : ¬ y.toInt < x.toInt := fun q => h1 (Int64.lt_iff_toInt_lt.mpr q)
    by_cases h2 : x = y
    · rw [if_pos h2]
      subst h2
      exact ⟨fun q => absurd q (by decide), fun q => by omega⟩
    · rw [if_neg h2]
      have h4 : ¬ x.toInt = y.toInt := fun q => h2 (Int64.toInt_inj.mp q)
      exact ⟨fun _ => by omega, fun _ => by decide⟩
theorem own_lcg {x y : Int64} : (0 : Int32) < lcmpW x y ↔ y.toInt < x.toInt := by
  show (0 : Int32) < (if x > y then (1 : Int32) else if x = y then 0 else -1) ↔ _
  by_cases h1 : x > y
  · rw [if_pos h1]
    exact ⟨fun _ => Int64.lt_iff_toInt_lt.mp h1, fun _ => by decide⟩
  · rw [if_neg h1]
    have h3 : ¬ y.toInt < x.toInt := fun q => h1 (Int64.lt_iff_toInt_lt.mpr q)
    by_cases h2 : x = y
    · rw [if_pos h2]
      exact ⟨fun q => absurd q (by decide), fun q => absurd q h3⟩
    · rw [if_neg h2]
      exact ⟨fun q => absurd q (by decide), fun q => absurd q h3⟩
/-- is the year a leap year, as IsoChronology says it -/
def own_lp (x : Int64) : Bool := decide (lcmpW (x &&& 3) 0 = (0 : Int32)) && (!decide (lcmpW (x % 100) 0 = (0 : Int32)) || decide (lcmpW (x % 400) 0 = (0 : Int32)))
theorem own_l0 {x : Int64} (h1 : ¬ lcmpW (x &&& 3) 0 = (0 : Int32)) : own_lp x = false := by unfold own_lp; rw [decide_eq_false h1]; rfl
theorem own_l1 {x : Int64} (h1 : lcmpW (x &&& 3) 0 = (0 : Int32)) (h2 : ¬ lcmpW (x % 100) 0 = (0 : Int32)) : own_lp x = true := by unfold own_lp; rw [decide_eq_true h1, decide_eq_false h2]; rfl
theorem own_l2 {x : Int64} (h1 : lcmpW (x &&& 3) 0 = (0 : Int32)) (h2 : lcmpW (x % 100) 0 = (0 : Int32)) (h3 : lcmpW (x % 400) 0 = (0 : Int32)) : own_lp x = true := by unfold own_lp; rw [decide_eq_true h1, decide_eq_true h2, decide_eq_true h3]; rfl
theorem own_l3 {x : Int64} (h1 : lcmpW (x &&& 3) 0 = (0 : Int32)) (h2 : lcmpW (x % 100) 0 = (0 : Int32)) (h3 : ¬ lcmpW (x % 400) 0 = (0 : Int32)) : own_lp x = false := by unfold own_lp; rw [decide_eq_true h1, decide_eq_true h2, decide_eq_false h3]; rfl
def own_b0 (yn mn dn : Nat) : Nat := 365 * yn + ((yn + 3) / 4 - (yn + 99) / 100 + (yn + 399) / 400) + (367 * mn - 362) / 12 + (dn - 1)
/-- what March and later months take off again -/
def own_dl (yn mn : Nat) : Nat := if 2 < mn then (if own_lp (Int64.ofNat yn) then 1 else 2) else 0
def own_t (yn mn dn : Nat) : Nat := own_b0 yn mn dn - own_dl yn mn
theorem own_a64 (a b : Nat) : Int64.ofNat a + Int64.ofNat b = Int64.ofNat (a + b) := (Int64.ofNat_add a b).symm
theorem own_m64 (a b : Nat) : Int64.ofNat a * Int64.ofNat b = Int64.ofNat (a * b) := (Int64.ofNat_mul a b).symm
theorem own_s64 {a b : Nat} (h : b ≤ a) : Int64.ofNat a - Int64.ofNat b = Int64.ofNat (a - b) := (Int64.ofNat_sub a b h).symm
theorem own_q64 {a : Nat} (k : Nat) (h : a < 2147483648) (hk : 0 < k) (hk2 : k < 100000) : Int64.ofNat a / Int64.ofNat k = Int64.ofNat (a / k) := (Int64.ofNat_div (by omega) (by omega)).symm
theorem own_e1 {yn : Nat} (h : yn ≤ 9999) : ((0 : Int64) + ((365 : Int64) * Int64.ofNat yn)) + ((((Int64.ofNat yn + (3 : Int64)) / (4 : Int64)) - ((Int64.ofNat yn + (99 : Int64)) / (100 : Int64))) + ((Int64.ofNat yn + (399 : Int64)) / (400 : Int64))) = Int64.ofNat (365 * yn + ((yn + 3) / 4 - (yn + 99) / 100 + (yn + 399) / 400)) := by
  rw [show (0 : Int64) = Int64.ofNat 0 from rfl, show (365 : Int64) = Int64.ofNat 365 from rfl, show (3 : Int64) = Int64.ofNat 3 from rfl, show (4 : Int64) = Int64.ofNat 4 from rfl, show (99 : Int64) = Int64.ofNat 99 from rfl, show (100 : Int64) = Int64.ofNat 100 from rfl, show (399 : Int64) = Int64.ofNat 399 from rfl, show (400 : Int64) = Int64.ofNat 400 from rfl,
    own_m64, own_a64, own_a64, own_a64, own_a64, own_q64 4 (by omega) (by omega) (by omega), own_q64 100 (by omega) (by omega) (by omega), own_q64 400 (by omega) (by omega) (by omega), own_s64 (by omega), own_a64, own_a64]
  exact congrArg Int64.ofNat (by omega)
theorem own_e2 {yn mn : Nat} (t : Nat) (h : 1 ≤ mn) (h2 : mn ≤ 12) : Int64.ofNat t + ((((367 : Int64) * Int64.ofNat mn) - (362 : Int64)) / (12 : Int64)) = Int64.ofNat (t + (367 * mn - 362) / 12) := by
  rw [show (367 : Int64) = Int64.ofNat 367 from rfl, show (362 : Int64) = Int64.ofNat 362 from rfl, show (12 : Int64) = Int64.ofNat 12 from rfl, own_m64, own_s64 (by omega), own_q64 12 (by omega) (by omega) (by omega), own_a64]
theorem own_e3 {dn : Nat} (t : Nat) (h : 1 ≤ dn) (h2 : dn ≤ 28) : Int64.ofNat t + (Int32.ofNat dn - (1 : Int32)).toInt64 = Int64.ofNat (t + (dn - 1)) := by
  have e : Int32.ofNat dn - (1 : Int32) = Int32.ofNat (dn - 1) := (Int32.ofNat_sub dn 1 h).symm
  rw [e, own_i2l (by omega), own_a64]
theorem own_e4 {t : Nat} (h : 1 ≤ t) : Int64.ofNat t - (1 : Int64) = Int64.ofNat (t - 1) := own_s64 h
theorem own_rI {t : Nat} (h : t < 100000000) : (Int64.ofNat t - (719528 : Int64)).toInt = (t : Int) - 719528 := by
  rw [Int64.toInt_sub, own_toJ (by omega), show (719528 : Int64).toInt = 719528 from rfl, Int.bmod_eq_of_le (by omega) (by omega)]
theorem own_dl2 (yn mn : Nat) : own_dl yn mn ≤ 2 := by
  unfold own_dl
  split
  · split <;> omega
  · omega
theorem own_mono {yn mn dn : Nat} (h : 1 ≤ mn) : own_t yn mn dn ≤ own_t (yn + 1) mn dn := by
  have a := own_dl2 yn mn
  have b := own_dl2 (yn + 1) mn
  unfold own_t own_b0
  omega
theorem own_tb {yn mn dn : Nat} (h : yn ≤ 9999) (h2 : mn ≤ 12) (h3 : dn ≤ 28) : own_t yn mn dn < 100000000 := by
  unfold own_t own_b0
  omega
theorem own_cmp {y1 y2 mn dn : Nat} (h : y2 = y1 ∨ y2 = y1 + 1) (h1 : y1 ≤ 9999) (h1' : y2 ≤ 9999) (hm : 1 ≤ mn) (h2 : mn ≤ 12) (h3 : dn ≤ 28) : ¬ lcmpW (Int64.ofNat (own_t y2 mn dn) - (719528 : Int64)) (Int64.ofNat (own_t y1 mn dn) - (719528 : Int64)) < (0 : Int32) := by
  rw [own_lcl, own_rI (own_tb h1' h2 h3), own_rI (own_tb h1 h2 h3)]
  rcases h with rfl | rfl
  · omega
  · have := own_mono (yn := y1) (dn := dn) hm; omega
def own_CF (Z : State) (f : String) (lo hi : Int64) (a r : Addr) : Prop := Sta Z Z.heap "java/time/temporal/ChronoField" f "Ljava/time/temporal/ChronoField;" (.ref a) ∧ Exa Z Z.heap a "java/time/temporal/ChronoField" ∧ Fld Z Z.heap a "java/time/temporal/ChronoField" "range" "Ljava/time/temporal/ValueRange;" (.ref r) ∧ Exa Z Z.heap r "java/time/temporal/ValueRange" ∧ Fld Z Z.heap r "java/time/temporal/ValueRange" "minSmallest" "J" (.long lo) ∧ Fld Z Z.heap r "java/time/temporal/ValueRange" "maxLargest" "J" (.long hi)
def own_St (Z : State) : Prop := (∃ z : Int32, Sta Z Z.heap "java/lang/String" "COMPACT_STRINGS" "Z" (.int z) ∧ ¬ z = 0) ∧ (∃ v : Value, Sta Z Z.heap "jdk/internal/util/Preconditions" "SIOOBE_FORMATTER" "Ljava/util/function/BiFunction;" v ∧ v.isRef = true) ∧ (∃ a r, own_CF Z "YEAR" (-999999999) 999999999 a r) ∧ (∃ a r, own_CF Z "MONTH_OF_YEAR" 1 12 a r) ∧ (∃ a r, own_CF Z "DAY_OF_MONTH" 1 31 a r) ∧
  (∃ a, Sta Z Z.heap "java/time/chrono/IsoChronology" "INSTANCE" "Ljava/time/chrono/IsoChronology;" (.ref a) ∧ Exa Z Z.heap a "java/time/chrono/IsoChronology") ∧ (∃ (a el : Addr) (k : ClassId), Sta Z Z.heap "java/util/ImmutableCollections" "EMPTY_LIST" "Ljava/util/ImmutableCollections$ListN;" (.ref a) ∧ Exa Z Z.heap a "java/util/ImmutableCollections$ListN" ∧ Fld Z Z.heap a "java/util/ImmutableCollections$ListN" "elements" "[Ljava/lang/Object;" (.ref el) ∧ Arv Z Z.heap el k (.object "java/lang/Object") (0 : Int32) [] .null) ∧
  (∃ a, Sta Z Z.heap "com/example/tranchery/tranchery/journal/InstallmentQueue" "NO_RUNS" "[Lcom/example/tranchery/tranchery/journal/InstallmentQueue$Run;" (.ref a)) ∧ (∃ a, Sta Z Z.heap "com/example/tranchery/tranchery/journal/InstallmentQueue" "NO_KEYS" "[J" (.ref a))
section OwnSt
variable {args : Array Value} {s : State}
theorem own_eqv {t : Term} {w x : Value} (h : (Jvm.Cond.eq t (.int 0)).value args s none s [] = some true) : t.eval args s none [] s = some (.int 0) := by
  obtain ⟨x, y, ha, hb, k1, k2⟩ := cmp_v (Or.inl h)
  have hy : y = .int 0 := Option.some.inj (hb.symm.trans (rfl : (Term.int 0).eval args s none [] s = some (.int 0)))
  subst hy
  obtain ⟨z, rfl⟩ := k2
  have e : z = 0 := of_decide_eq_true (Option.some.inj ((Cond.eq_ints ha hb).symm.trans h))
  rw [ha, e]
theorem own_eqL {t : Term} {k : Int64} (h : (Jvm.Cond.eq t (.long k)).value args s none s [] = some true) : t.eval args s none [] s = some (.long k) := by
  obtain ⟨x, y, ha, hb, k1, k2⟩ := cmp_v (Or.inl h)
  have hy : y = .long k := Option.some.inj (hb.symm.trans (rfl : (Term.long k).eval args s none [] s = some (.long k)))
  subst hy
  obtain ⟨z, rfl⟩ := k2
  have q : (Jvm.Cond.eq t (.long k)).value args s none s [] = some (decide (z = k)) := by simp [Jvm.Cond.value, ha, hb]
  have e : z = k := of_decide_eq_true (Option.some.inj (q.symm.trans h))
  rw [ha, e]
theorem own_cf {f : String} {lo hi : Int64} (h1 : (Jvm.Cond.exactly (.static "java/time/temporal/ChronoField" f "Ljava/time/temporal/ChronoField;") "java/time/temporal/ChronoField").before args s = true) (h2 : (Jvm.Cond.exactly (.field (.static "java/time/temporal/ChronoField" f "Ljava/time/temporal/ChronoField;") "java/time/temporal/ChronoField" "range" "Ljava/time/temporal/ValueRange;") "java/time/temporal/ValueRange").before args s = true)
    (h3 : (Jvm.Cond.eq (.field (.field (.static "java/time/temporal/ChronoField" f "Ljava/time/temporal/ChronoField;") "java/time/temporal/ChronoField" "range" "Ljava/time/temporal/ValueRange;") "java/time/temporal/ValueRange" "minSmallest" "J") (.long lo)).before args s = true) (h4 : (Jvm.Cond.eq (.field (.field (.static "java/time/temporal/ChronoField" f "Ljava/time/temporal/ChronoField;") "java/time/temporal/ChronoField" "range" "Ljava/time/temporal/ValueRange;") "java/time/temporal/ValueRange" "maxLargest" "J") (.long hi)).before args s = true)
    (hi0 : (Jvm.Cond.initializedFor "java/time/temporal/ChronoField" f "Ljava/time/temporal/ChronoField;").before args s = true) : ∃ a r, own_CF s f lo hi a r := by
  obtain ⟨a, ea⟩ := exa_v (Cond.before_iff.mp h1)
  obtain ⟨r, er⟩ := exa_v (Cond.before_iff.mp h2)
  have e3 := own_eqL (Cond.before_iff.mp h3)
  have e4 := own_eqL (Cond.before_iff.mp h4)
  exact ⟨a, r, Sta.start ea (Or.inl hi0), Exa.start ea (Cond.before_iff.mp h1), Fld.start ((fld_at ea).symm.trans er), Exa.start er (Cond.before_iff.mp h2), Fld.start ((fld_at er).symm.trans e3), Fld.start ((fld_at er).symm.trans e4)⟩
theorem own_len {t : Term} {el : Addr} {cl : Cell} {w : Value} (e3 : (Term.length t).eval args s none [] s = some w) (ee : t.eval args s none [] s = some (.ref el)) (e7 : s.arrayAt? el = some cl) : cl.slots.size < 2 ^ 31 := by
  refine Decidable.byContradiction fun hn => ?_
  have hn' : ¬ cl.slots.size < 2147483648 := hn
  simp [Term.eval, ee, e7, hn'] at e3
theorem own_el (hf : Fit s) (h1 : (Jvm.Cond.exactly (.static "java/util/ImmutableCollections" "EMPTY_LIST" "Ljava/util/ImmutableCollections$ListN;") "java/util/ImmutableCollections$ListN").before args s = true) (h2 : (Jvm.Cond.arrayOf (.field (.static "java/util/ImmutableCollections" "EMPTY_LIST" "Ljava/util/ImmutableCollections$ListN;") "java/util/ImmutableCollections$ListN" "elements" "[Ljava/lang/Object;") (.object "java/lang/Object")).before args s = true)
    (h3 : (Jvm.Cond.eq (.length (.field (.static "java/util/ImmutableCollections" "EMPTY_LIST" "Ljava/util/ImmutableCollections$ListN;") "java/util/ImmutableCollections$ListN" "elements" "[Ljava/lang/Object;")) (.int 0)).before args s = true) (hi0 : (Jvm.Cond.initializedFor "java/util/ImmutableCollections" "EMPTY_LIST" "Ljava/util/ImmutableCollections$ListN;").before args s = true) :
    ∃ (a el : Addr) (k : ClassId), Sta s s.heap "java/util/ImmutableCollections" "EMPTY_LIST" "Ljava/util/ImmutableCollections$ListN;" (.ref a) ∧ Exa s s.heap a "java/util/ImmutableCollections$ListN" ∧ Fld s s.heap a "java/util/ImmutableCollections$ListN" "elements" "[Ljava/lang/Object;" (.ref el) ∧ Arv s s.heap el k (.object "java/lang/Object") (0 : Int32) [] .null := by
  obtain ⟨a, ea⟩ := exa_v (Cond.before_iff.mp h1)
  obtain ⟨el, ee⟩ := arr_v (Cond.before_iff.mp h2)
  obtain ⟨cl, A⟩ := Arr.start ee (Cond.before_iff.mp h2)
  have e3 := own_eqv (w := .null) (x := .null) (Cond.before_iff.mp h3)
  obtain ⟨el', cl', e4, e5, e6⟩ := Term.length_spec e3
  cases Option.some.inj (ee.symm.trans e4)
  have e7 : s.arrayAt? el = some cl := Arr.fin (U := s) (Vm.Alike.refl s.vm) A
  cases Option.some.inj (e7.symm.trans e5)
  have q : cl.slots.size < 2 ^ 31 := own_len e3 ee e7
  have e8 : cl.slots.size.toInt32 = 0 := (Value.int.inj e6).symm
  exact ⟨a, el, cl.cls, Sta.start ea (Or.inl hi0), Exa.start ea (Cond.before_iff.mp h1), Fld.start ((fld_at ea).symm.trans ee), Arv.start hf A q e8 (by decide) rfl trivial⟩
theorem own_ss (hsets : ∀ d ∈ jdkStatics_1, d.before args s = true) (hw : ∀ d ∈ tables_1, d.before args s = true) (hf : Fit s) (hn : narrow_1.value args s none s [] = some true) : own_St s := by
  obtain ⟨i, e1⟩ := is_v (Cond.before_iff.mp (hsets _ (List.mem_of_getElem? (i := 1) rfl)))
  obtain ⟨v, e2, r2⟩ := isR_v (Cond.before_iff.mp (hsets _ (List.mem_of_getElem? (i := 8) rfl)))
  have n5 := not_v (Cond.before_iff.mp (hsets _ (List.mem_of_getElem? (i := 2) rfl)))
  have hI := hsets _ (List.mem_of_getElem? (i := 95) rfl)
  obtain ⟨ia, eia⟩ := exa_v (Cond.before_iff.mp hI)
  obtain ⟨n1, n2⟩ := and_e hn
  obtain ⟨n3, n4⟩ := and_e n2
  obtain ⟨n6, -⟩ := and_e n4
  obtain ⟨ra, era⟩ := arr_v n1
  obtain ⟨ka, eka⟩ := arr_v n6
  exact ⟨⟨i, Sta.start e1 (Or.inl (hsets _ (List.mem_of_getElem? (i := 0) rfl))), gotF (Cond.eq_ints e1 (Term.int_eval (0))) n5⟩, ⟨v, Sta.start e2 (Or.inl (hsets _ (List.mem_of_getElem? (i := 7) rfl))), r2⟩,
    own_cf (hsets _ (List.mem_of_getElem? (i := 15) rfl)) (hsets _ (List.mem_of_getElem? (i := 31) rfl)) (hsets _ (List.mem_of_getElem? (i := 32) rfl)) (hsets _ (List.mem_of_getElem? (i := 35) rfl)) (hsets _ (List.mem_of_getElem? (i := 10) rfl)),
    own_cf (hsets _ (List.mem_of_getElem? (i := 43) rfl)) (hsets _ (List.mem_of_getElem? (i := 59) rfl)) (hsets _ (List.mem_of_getElem? (i := 60) rfl)) (hsets _ (List.mem_of_getElem? (i := 63) rfl)) (hsets _ (List.mem_of_getElem? (i := 38) rfl)),
    own_cf (hsets _ (List.mem_of_getElem? (i := 71) rfl)) (hsets _ (List.mem_of_getElem? (i := 87) rfl)) (hsets _ (List.mem_of_getElem? (i := 88) rfl)) (hsets _ (List.mem_of_getElem? (i := 91) rfl)) (hsets _ (List.mem_of_getElem? (i := 66) rfl)),
    ⟨ia, Sta.start eia (Or.inl (hsets _ (List.mem_of_getElem? (i := 94) rfl))), Exa.start eia (Cond.before_iff.mp hI)⟩, own_el hf (hsets _ (List.mem_of_getElem? (i := 98) rfl)) (hsets _ (List.mem_of_getElem? (i := 99) rfl)) (hsets _ (List.mem_of_getElem? (i := 101) rfl)) (hsets _ (List.mem_of_getElem? (i := 97) rfl)),
    ⟨ra, Sta.start era (Or.inr ⟨own_h hw 169 rfl, own_h hw 175 rfl⟩)⟩, ⟨ka, Sta.start eka (Or.inr ⟨own_h hw 169 rfl, own_h hw 179 rfl⟩)⟩⟩
end OwnSt
theorem own_t0 {yn mn dn : Nat} (h : ¬ 2 < mn) : own_t yn mn dn = own_b0 yn mn dn := by unfold own_t own_dl; rw [if_neg h, Nat.sub_zero]
theorem own_t1 {yn mn dn : Nat} (h : 2 < mn) (hl : own_lp (Int64.ofNat yn) = true) : own_t yn mn dn = own_b0 yn mn dn - 1 := by unfold own_t own_dl; rw [if_pos h, if_pos hl]
theorem own_t2 {yn mn dn : Nat} (h : 2 < mn) (hl : own_lp (Int64.ofNat yn) = false) : own_t yn mn dn = own_b0 yn mn dn - 1 - 1 := by
  unfold own_t own_dl; rw [if_pos h, if_neg (by rw [hl]; decide)]; omega
theorem own_staeq {Z : State} {h : Heap} {C n d : String} {a b : Addr} (A : Sta Z h C n d (.ref a)) (B : Sta Z h C n d (.ref b)) : a = b := by
  obtain ⟨cf, i, k, f, st, cell, h1, h2, h3, h4, h5, h6, h7⟩ := A
  obtain ⟨cf', i', k', f', st', cell', g1, g2, g3, g4, g5, g6, g7⟩ := B
  cases h1.symm.trans g1
  cases h4.symm.trans g4
  cases h5.symm.trans g5
  exact Value.ref.inj (Option.some.inj (h7.symm.trans g7))
abbrev eF_text (m : MethodId) (x0 : Int32) (x1 : Int32) (x2 : Int32) : JFrame := entryFrame m #[(.int x0), (.int x1), (.int x2)] 4
theorem ef_text (m : MethodId) (x0 : Int32) (x1 : Int32) (x2 : Int32) : entryFrame m #[(.int x0), (.int x1), (.int x2)] 4 = mkF m 0 #[.val (.int x0), .val (.int x1), .val (.int x2), .unset] [] := by first | (simp [entryFrame, mkF, argsToLocals, Value.category]; done) | rfl
theorem pn_text : plainName "com/example/tranchery/tranchery/journal/ScheduleHasRulePinLaw" = true := by first | (simp [plainName, overriddenIn]; done) | decide +kernel
def Q_text (Z : State) (yn : Nat) (mn : Nat) (dn : Nat) (h0 : Heap) (n0 : Nat) (v : Option Value) (h : Heap) (L : List Loc) : Prop := ∃ (x t : Addr) (kb : ClassId), v = some (.ref x) ∧ Fr n0 L ∧ Keep h0 h [] ∧ h0.size ≤ x ∧ h0.size ≤ t ∧ Exa Z h x "java/lang/String" ∧ Fld Z h x "java/lang/String" "coder" "B" (.int (0 : Int32)) ∧ Fld Z h x "java/lang/String" "value" "[B" (.ref t) ∧ Arv Z h t kb .byte (10 : Int32) (own_vs (own_tx yn mn dn)) (.int (0 : Int32))
set_option maxRecDepth 65536 in
set_option maxHeartbeats 40000000 in
theorem rm_text (l : Launch) (Z : State) (a0 : Array Value) (hw : ∀ d ∈ tables_1, d.before a0 Z = true) (ws : List Jvm.Cond) (yn : Nat) (mn : Nat) (dn : Nat) (h0 : Heap) (n0 : Nat) (Z0 : n0 ≤ h0.size) (SS : own_St Z) (O0 : Old Z n0 h0)(hy : yn ≤ 9999) (hm : 1 ≤ mn) (hm2 : mn ≤ 12) (hd : 1 ≤ dn) (hd2 : dn ≤ 28) :
    MetFree l (⟨"com/example/tranchery/tranchery/journal/ScheduleHasRulePinLaw", "text", "(III)Ljava/lang/String;"⟩ : MethodName) (head1 (Jvm.Cond.code (⟨"com/example/tranchery/tranchery/journal/ScheduleHasRulePinLaw", "text", "(III)Ljava/lang/String;"⟩ : MethodName) method_2_code 4 (some (.object "java/lang/String")) :: ws) ({ frames := 4, cells := 3, slots := 24, locals := 66 } : Room)) (fun aa U => aa = #[(.int (Int32.ofNat yn)), (.int (Int32.ofNat mn)), (.int (Int32.ofNat dn))] ∧ Z.Warmed39 U.vm ∧ U.heap = h0) (fun _ _ _ _ _ => True) (fun _ U o U' => ∃ v L, o = .returned v ∧ Q_text Z yn mn dn h0 n0 v U'.heap L ∧ FrameEnd U o U' L ({ frames := 4, cells := 3, slots := 24, locals := 66 } : Room).cells ({ frames := 4, cells := 3, slots := 24, locals := 66 } : Room).slots) := by
  refine MetFree.of_bodySF (plainFor_of_name pn_text) hisR ?_
  intro p e s m args below meth c s₁ Bd hml0 hP hK
  obtain ⟨rfl, hZ, hh⟩ := hP
  have hx := Bd.exec
  have hby := Bd.bytes
  have hml : c.maxLocals = 4 := hml0
  have hown : s.vm.findClass "com/example/tranchery/tranchery/journal/ScheduleHasRulePinLaw" = some m.cls := findClass_of_methodNamed Bd.named
  have hnm := (name_of_methodNamed Bd.named Bd.method).1
  have X0 : Stand p l e ({ frames := 4, cells := 3, slots := 24, locals := 66 } : Room) s m #[(.int (Int32.ofNat yn)), (.int (Int32.ofNat mn)), (.int (Int32.ofNat dn))] below meth c s₁ [] 0 0 := Stand.of_body Bd
  have e0 : s₁.heap = h0 := by rw [← hh, Bd.state]; rfl
  have N0 := Fr.nil n0
  have S0 : Go p e below s₁ (eF_text m (Int32.ofNat yn) (Int32.ofNat mn) (Int32.ofNat dn)) s₁ (mkF m 0 #[vI (Int32.ofNat yn), vI (Int32.ofNat mn), vI (Int32.ofNat dn), vU] []) := fun t k => castTop (ef_text m (Int32.ofNat yn) (Int32.ofNat mn) (Int32.ofNat dn)) k
  obtain ⟨⟨cz, S_cs, hcz⟩, ⟨fm, S_fm, hfm⟩, ⟨yr, yrr, S_yr, E_yr, F_yr, E_yrr, L_yr, H_yr⟩, ⟨mr, mrr, S_mr, E_mr, F_mr, E_mrr, L_mr, H_mr⟩, ⟨dr, drr, S_dr, E_dr, F_dr, E_drr, L_dr, H_dr⟩, ⟨iso, S_is, E_is⟩, ⟨em, el, kel, S_em, E_em, F_em, V_em⟩, ⟨nr, S_nr⟩, ⟨nk, S_nk⟩⟩ := id SS
  have hws : ∀ d ∈ StrChars.Road.words, d.before a0 Z = true := fun d hd => hw d (own_w d hd)
  have S1 : Go p e below s₁ (eF_text m (Int32.ofNat yn) (Int32.ofNat mn) (Int32.ofNat dn)) s₁ (mkF m 2 #[vI (Int32.ofNat yn), vI (Int32.ofNat mn), vI (Int32.ofNat dn), vU] [(.int (10 : Int32))]) := fun t kt => S0 t (by
    refine XS.bipush X0.here hx rfl (hb hby d1_0) ?_
    exact kt)
  clear S0
  obtain ⟨T2, h2, k2, X2, e2, E2, A2, st2⟩ := newP X0 hx hZ (own_h hw 5 rfl) e0 (g := (mkF m 2 #[vI (Int32.ofNat yn), vI (Int32.ofNat mn), vI (Int32.ofNat dn), vU] [(.int (10 : Int32))])) rfl (hb hby d1_2) rfl (by decide) (cap := 10) (by decide) (by decide) (by decide) (by decide)
  obtain ⟨ar, g2⟩ : ∃ z, z = h0.size := ⟨_, rfl⟩
  rw [← g2] at A2 st2
  have g_ar : n0 ≤ ar := Nat.le_trans Z0 (Nat.le_of_eq g2.symm)
  have sz_ar : h0.size ≤ ar := Nat.le_trans (Keep.refl h0 []).1 (Nat.le_of_eq g2.symm)
  have K2 : Keep h0 h2 [] := (Keep.refl h0 []).ext E2
  have V2 : Arv Z h2 ar k2 .char (10 : Int32) [(.int (0 : Int32)), (.int (0 : Int32)), (.int (0 : Int32)), (.int (0 : Int32)), (.int (0 : Int32)), (.int (0 : Int32)), (.int (0 : Int32)), (.int (0 : Int32)), (.int (0 : Int32)), (.int (0 : Int32))] (.int (0 : Int32)) := (Arv.new A2 (by decide)).pad (pad_rep [] _ 10)
  have S3 : Go p e below s₁ (eF_text m (Int32.ofNat yn) (Int32.ofNat mn) (Int32.ofNat dn)) T2 (mkF m 4 #[vI (Int32.ofNat yn), vI (Int32.ofNat mn), vI (Int32.ofNat dn), vU] [(.ref ar)]) := fun t kt => S1 t (st2 t kt)
  clear S1 st2 X0 e0
  have S4 : Go p e below s₁ (eF_text m (Int32.ofNat yn) (Int32.ofNat mn) (Int32.ofNat dn)) T2 (mkF m 15 #[vI (Int32.ofNat yn), vI (Int32.ofNat mn), vI (Int32.ofNat dn), vR ar] [(.int ((48 : Int32) + ((Int32.ofNat yn) / (1000 : Int32)))), (.int (0 : Int32)), (.ref ar)]) := fun t kt => S3 t (by
    refine XS.astoreN X2.here hx rfl (hb hby d1_4) rfl rfl (l' := #[vI (Int32.ofNat yn), vI (Int32.ofNat mn), vI (Int32.ofNat dn), vR ar]) rfl ?_
    refine XS.aloadN X2.here hx rfl (hb hby d1_5) rfl rfl ?_
    show Sp p e below T2 (mkF m 6 #[vI (Int32.ofNat yn), vI (Int32.ofNat mn), vI (Int32.ofNat dn), vR ar] [(.ref ar)]) _
    refine XS.iconst X2.here hx rfl (hb hby d1_6) ?_
    refine XS.bipush X2.here hx rfl (hb hby d1_7) ?_
    show Sp p e below T2 (mkF m 9 #[vI (Int32.ofNat yn), vI (Int32.ofNat mn), vI (Int32.ofNat dn), vR ar] [(.int (48 : Int32)), (.int (0 : Int32)), (.ref ar)]) _
    refine XS.iloadN X2.here hx rfl (hb hby d1_9) rfl ?_
    refine XS.sipush X2.here hx rfl (hb hby d1_10) ?_
    show Sp p e below T2 (mkF m 13 #[vI (Int32.ofNat yn), vI (Int32.ofNat mn), vI (Int32.ofNat dn), vR ar] [(.int (1000 : Int32)), (.int (Int32.ofNat yn)), (.int (48 : Int32)), (.int (0 : Int32)), (.ref ar)]) _
    refine XS.idiv X2.here hx rfl (hb hby d1_13) rfl (by decide) ?_
    refine XS.iadd X2.here hx rfl (hb hby d1_14) rfl ?_
    show Sp p e below T2 (mkF m 15 #[vI (Int32.ofNat yn), vI (Int32.ofNat mn), vI (Int32.ofNat dn), vR ar] [(.int ((48 : Int32) + ((Int32.ofNat yn) / (1000 : Int32)))), (.int (0 : Int32)), (.ref ar)]) _
    exact kt)
  clear S3
  have q6 : ((48 : Int32) + ((Int32.ofNat yn) / (1000 : Int32))) = (own_c (yn / 1000)) := own_d1 1000 (by omega) (by omega) (by omega)
  have S5 : Go p e below s₁ (eF_text m (Int32.ofNat yn) (Int32.ofNat mn) (Int32.ofNat dn)) T2 (mkF m 15 #[vI (Int32.ofNat yn), vI (Int32.ofNat mn), vI (Int32.ofNat dn), vR ar] [(.int (own_c (yn / 1000))), (.int (0 : Int32)), (.ref ar)]) := by have h := S4; rw [q6] at h; exact h
  clear S4
  have S7 : Go p e below s₁ (eF_text m (Int32.ofNat yn) (Int32.ofNat mn) (Int32.ofNat dn)) T2 (mkF m 16 #[vI (Int32.ofNat yn), vI (Int32.ofNat mn), vI (Int32.ofNat dn), vR ar] [(.int ((own_c (yn / 1000)).toUInt32.toUInt16.toUInt32.toInt32)), (.int (0 : Int32)), (.ref ar)]) := fun t kt => S5 t (by
    refine XS.i2c X2.here hx rfl (hb hby d1_15) rfl ?_
    exact kt)
  clear S5
  have q9 : ((own_c (yn / 1000)).toUInt32.toUInt16.toUInt32.toInt32) = (own_c (yn / 1000)) := own_nc2 (own_cr (by omega))
  have S8 : Go p e below s₁ (eF_text m (Int32.ofNat yn) (Int32.ofNat mn) (Int32.ofNat dn)) T2 (mkF m 16 #[vI (Int32.ofNat yn), vI (Int32.ofNat mn), vI (Int32.ofNat dn), vR ar] [(.int (own_c (yn / 1000))), (.int (0 : Int32)), (.ref ar)]) := by have h := S7; rw [q9] at h; exact h
  clear S7
  obtain ⟨co10, Ao10, qo10, So10, No10, Ho10, Go10⟩ := id V2
  have hino10 : ¬ ((0 : Int32) < 0 ∨ co10.slots.size ≤ ((0 : Int32)).toNatClampNeg) := inb_of So10 ⟨by decide, by decide⟩
  obtain ⟨T11, h11, X11, e11, W11, st11⟩ := stC X2 hx hZ e2 Ao10 (j := (0 : Int32)) hino10 (g := (mkF m 16 #[vI (Int32.ofNat yn), vI (Int32.ofNat mn), vI (Int32.ofNat dn), vR ar] [(.int (own_c (yn / 1000))), (.int (0 : Int32)), (.ref ar)])) rfl rfl (hb hby d1_16)
  have N11 := Fr.snoc X11 N0 g_ar
  have K11 : Keep h0 h11 [] := K2.wr W11 (Or.inr sz_ar)
  have V11 : Arv Z h11 ar k2 .char (10 : Int32) [(.int ((own_c (yn / 1000)).toUInt32.toUInt16.toUInt32.toInt32)), (.int (0 : Int32)), (.int (0 : Int32)), (.int (0 : Int32)), (.int (0 : Int32)), (.int (0 : Int32)), (.int (0 : Int32)), (.int (0 : Int32)), (.int (0 : Int32)), (.int (0 : Int32))] (.int (0 : Int32)) := Arv.set Ao10 qo10 So10 No10 Ho10 Go10 (fits_nar_char _) W11 0 rfl (Nat.le_of_ble_eq_true rfl)
  rw [own_nc2 (own_cr (show yn / 1000 < 10 by omega))] at V11
  have S12 : Go p e below s₁ (eF_text m (Int32.ofNat yn) (Int32.ofNat mn) (Int32.ofNat dn)) T11 (mkF m 17 #[vI (Int32.ofNat yn), vI (Int32.ofNat mn), vI (Int32.ofNat dn), vR ar] []) := fun t kt => S8 t (st11 t kt)
  clear S8 st11 X2 e2
  have S13 : Go p e below s₁ (eF_text m (Int32.ofNat yn) (Int32.ofNat mn) (Int32.ofNat dn)) T11 (mkF m 29 #[vI (Int32.ofNat yn), vI (Int32.ofNat mn), vI (Int32.ofNat dn), vR ar] [(.int ((48 : Int32) + (((Int32.ofNat yn) / (100 : Int32)) % (10 : Int32)))), (.int (1 : Int32)), (.ref ar)]) := fun t kt => S12 t (by
    refine XS.aloadN X11.here hx rfl (hb hby d1_17) rfl rfl ?_
    refine XS.iconst X11.here hx rfl (hb hby d1_18) ?_
    show Sp p e below T11 (mkF m 19 #[vI (Int32.ofNat yn), vI (Int32.ofNat mn), vI (Int32.ofNat dn), vR ar] [(.int (1 : Int32)), (.ref ar)]) _
    refine XS.bipush X11.here hx rfl (hb hby d1_19) ?_
    refine XS.iloadN X11.here hx rfl (hb hby d1_21) rfl ?_
    show Sp p e below T11 (mkF m 22 #[vI (Int32.ofNat yn), vI (Int32.ofNat mn), vI (Int32.ofNat dn), vR ar] [(.int (Int32.ofNat yn)), (.int (48 : Int32)), (.int (1 : Int32)), (.ref ar)]) _
    refine XS.bipush X11.here hx rfl (hb hby d1_22) ?_
    refine XS.idiv X11.here hx rfl (hb hby d1_24) rfl (by decide) ?_
    show Sp p e below T11 (mkF m 25 #[vI (Int32.ofNat yn), vI (Int32.ofNat mn), vI (Int32.ofNat dn), vR ar] [(.int ((Int32.ofNat yn) / (100 : Int32))), (.int (48 : Int32)), (.int (1 : Int32)), (.ref ar)]) _
    refine XS.bipush X11.here hx rfl (hb hby d1_25) ?_
    refine iremM X11 hx rfl (hb hby d1_27) rfl (by decide) ?_
    show Sp p e below T11 (mkF m 28 #[vI (Int32.ofNat yn), vI (Int32.ofNat mn), vI (Int32.ofNat dn), vR ar] [(.int (((Int32.ofNat yn) / (100 : Int32)) % (10 : Int32))), (.int (48 : Int32)), (.int (1 : Int32)), (.ref ar)]) _
    refine XS.iadd X11.here hx rfl (hb hby d1_28) rfl ?_
    exact kt)
  clear S12
  have q15 : ((48 : Int32) + (((Int32.ofNat yn) / (100 : Int32)) % (10 : Int32))) = (own_c (yn / 100 % 10)) := own_d2 100 (by omega) (by omega) (by omega)
  have S14 : Go p e below s₁ (eF_text m (Int32.ofNat yn) (Int32.ofNat mn) (Int32.ofNat dn)) T11 (mkF m 29 #[vI (Int32.ofNat yn), vI (Int32.ofNat mn), vI (Int32.ofNat dn), vR ar] [(.int (own_c (yn / 100 % 10))), (.int (1 : Int32)), (.ref ar)]) := by have h := S13; rw [q15] at h; exact h
  clear S13
  have S16 : Go p e below s₁ (eF_text m (Int32.ofNat yn) (Int32.ofNat mn) (Int32.ofNat dn)) T11 (mkF m 30 #[vI (Int32.ofNat yn), vI (Int32.ofNat mn), vI (Int32.ofNat dn), vR ar] [(.int ((own_c (yn / 100 % 10)).toUInt32.toUInt16.toUInt32.toInt32)), (.int (1 : Int32)), (.ref ar)]) := fun t kt => S14 t (by
    refine XS.i2c X11.here hx rfl (hb hby d1_29) rfl ?_
    exact kt)
  clear S14
  have q18 : ((own_c (yn / 100 % 10)).toUInt32.toUInt16.toUInt32.toInt32) = (own_c (yn / 100 % 10)) := own_nc2 (own_cr (by omega))
  have S17 : Go p e below s₁ (eF_text m (Int32.ofNat yn) (Int32.ofNat mn) (Int32.ofNat dn)) T11 (mkF m 30 #[vI (Int32.ofNat yn), vI (Int32.ofNat mn), vI (Int32.ofNat dn), vR ar] [(.int (own_c (yn / 100 % 10))), (.int (1 : Int32)), (.ref ar)]) := by have h := S16; rw [q18] at h; exact h
  clear S16
  obtain ⟨co19, Ao19, qo19, So19, No19, Ho19, Go19⟩ := id V11
  have hino19 : ¬ ((1 : Int32) < 0 ∨ co19.slots.size ≤ ((1 : Int32)).toNatClampNeg) := inb_of So19 ⟨by decide, by decide⟩
  obtain ⟨T20, h20, X20, e20, W20, st20⟩ := stC X11 hx hZ e11 Ao19 (j := (1 : Int32)) hino19 (g := (mkF m 30 #[vI (Int32.ofNat yn), vI (Int32.ofNat mn), vI (Int32.ofNat dn), vR ar] [(.int (own_c (yn / 100 % 10))), (.int (1 : Int32)), (.ref ar)])) rfl rfl (hb hby d1_30)
  have N20 := Fr.snoc X20 N11 g_ar
  have K20 : Keep h0 h20 [] := K11.wr W20 (Or.inr sz_ar)
  have V20 : Arv Z h20 ar k2 .char (10 : Int32) [(.int (own_c (yn / 1000))), (.int ((own_c (yn / 100 % 10)).toUInt32.toUInt16.toUInt32.toInt32)), (.int (0 : Int32)), (.int (0 : Int32)), (.int (0 : Int32)), (.int (0 : Int32)), (.int (0 : Int32)), (.int (0 : Int32)), (.int (0 : Int32)), (.int (0 : Int32))] (.int (0 : Int32)) := Arv.set Ao19 qo19 So19 No19 Ho19 Go19 (fits_nar_char _) W20 1 rfl (Nat.le_of_ble_eq_true rfl)
  rw [own_nc2 (own_cr (show yn / 100 % 10 < 10 by omega))] at V20
  have S21 : Go p e below s₁ (eF_text m (Int32.ofNat yn) (Int32.ofNat mn) (Int32.ofNat dn)) T20 (mkF m 31 #[vI (Int32.ofNat yn), vI (Int32.ofNat mn), vI (Int32.ofNat dn), vR ar] []) := fun t kt => S17 t (st20 t kt)
  clear S17 st20 X11 e11
  have S22 : Go p e below s₁ (eF_text m (Int32.ofNat yn) (Int32.ofNat mn) (Int32.ofNat dn)) T20 (mkF m 43 #[vI (Int32.ofNat yn), vI (Int32.ofNat mn), vI (Int32.ofNat dn), vR ar] [(.int ((48 : Int32) + (((Int32.ofNat yn) / (10 : Int32)) % (10 : Int32)))), (.int (2 : Int32)), (.ref ar)]) := fun t kt => S21 t (by
    refine XS.aloadN X20.here hx rfl (hb hby d1_31) rfl rfl ?_
    refine XS.iconst X20.here hx rfl (hb hby d1_32) ?_
    show Sp p e below T20 (mkF m 33 #[vI (Int32.ofNat yn), vI (Int32.ofNat mn), vI (Int32.ofNat dn), vR ar] [(.int (2 : Int32)), (.ref ar)]) _
    refine XS.bipush X20.here hx rfl (hb hby d1_33) ?_
    refine XS.iloadN X20.here hx rfl (hb hby d1_35) rfl ?_
    show Sp p e below T20 (mkF m 36 #[vI (Int32.ofNat yn), vI (Int32.ofNat mn), vI (Int32.ofNat dn), vR ar] [(.int (Int32.ofNat yn)), (.int (48 : Int32)), (.int (2 : Int32)), (.ref ar)]) _
    refine XS.bipush X20.here hx rfl (hb hby d1_36) ?_
    refine XS.idiv X20.here hx rfl (hb hby d1_38) rfl (by decide) ?_
    show Sp p e below T20 (mkF m 39 #[vI (Int32.ofNat yn), vI (Int32.ofNat mn), vI (Int32.ofNat dn), vR ar] [(.int ((Int32.ofNat yn) / (10 : Int32))), (.int (48 : Int32)), (.int (2 : Int32)), (.ref ar)]) _
    refine XS.bipush X20.here hx rfl (hb hby d1_39) ?_
    refine iremM X20 hx rfl (hb hby d1_41) rfl (by decide) ?_
    show Sp p e below T20 (mkF m 42 #[vI (Int32.ofNat yn), vI (Int32.ofNat mn), vI (Int32.ofNat dn), vR ar] [(.int (((Int32.ofNat yn) / (10 : Int32)) % (10 : Int32))), (.int (48 : Int32)), (.int (2 : Int32)), (.ref ar)]) _
    refine XS.iadd X20.here hx rfl (hb hby d1_42) rfl ?_
    exact kt)
  clear S21
  have q24 : ((48 : Int32) + (((Int32.ofNat yn) / (10 : Int32)) % (10 : Int32))) = (own_c (yn / 10 % 10)) := own_d2 10 (by omega) (by omega) (by omega)
  have S23 : Go p e below s₁ (eF_text m (Int32.ofNat yn) (Int32.ofNat mn) (Int32.ofNat dn)) T20 (mkF m 43 #[vI (Int32.ofNat yn), vI (Int32.ofNat mn), vI (Int32.ofNat dn), vR ar] [(.int (own_c (yn / 10 % 10))), (.int (2 : Int32)), (.ref ar)]) := by have h := S22; rw [q24] at h; exact h
  clear S22
  have S25 : Go p e below s₁ (eF_text m (Int32.ofNat yn) (Int32.ofNat mn) (Int32.ofNat dn)) T20 (mkF m 44 #[vI (Int32.ofNat yn), vI (Int32.ofNat mn), vI (Int32.ofNat dn), vR ar] [(.int ((own_c (yn / 10 % 10)).toUInt32.toUInt16.toUInt32.toInt32)), (.int (2 : Int32)), (.ref ar)]) := fun t kt => S23 t (by
    refine XS.i2c X20.here hx rfl (hb hby d1_43) rfl ?_
    exact kt)
  clear S23
  have q27 : ((own_c (yn / 10 % 10)).toUInt32.toUInt16.toUInt32.toInt32) = (own_c (yn / 10 % 10)) := own_nc2 (own_cr (by omega))
  have S26 : Go p e below s₁ (eF_text m (Int32.ofNat yn) (Int32.ofNat mn) (Int32.ofNat dn)) T20 (mkF m 44 #[vI (Int32.ofNat yn), vI (Int32.ofNat mn), vI (Int32.ofNat dn), vR ar] [(.int (own_c (yn / 10 % 10))), (.int (2 : Int32)), (.ref ar)]) := by have h := S25; rw [q27] at h; exact h
  clear S25
  obtain ⟨co28, Ao28, qo28, So28, No28, Ho28, Go28⟩ := id V20
  have hino28 : ¬ ((2 : Int32) < 0 ∨ co28.slots.size ≤ ((2 : Int32)).toNatClampNeg) := inb_of So28 ⟨by decide, by decide⟩
  obtain ⟨T29, h29, X29, e29, W29, st29⟩ := stC X20 hx hZ e20 Ao28 (j := (2 : Int32)) hino28 (g := (mkF m 44 #[vI (Int32.ofNat yn), vI (Int32.ofNat mn), vI (Int32.ofNat dn), vR ar] [(.int (own_c (yn / 10 % 10))), (.int (2 : Int32)), (.ref ar)])) rfl rfl (hb hby d1_44)
  have N29 := Fr.snoc X29 N20 g_ar
  have K29 : Keep h0 h29 [] := K20.wr W29 (Or.inr sz_ar)
  have V29 : Arv Z h29 ar k2 .char (10 : Int32) [(.int (own_c (yn / 1000))), (.int (own_c (yn / 100 % 10))), (.int ((own_c (yn / 10 % 10)).toUInt32.toUInt16.toUInt32.toInt32)), (.int (0 : Int32)), (.int (0 : Int32)), (.int (0 : Int32)), (.int (0 : Int32)), (.int (0 : Int32)), (.int (0 : Int32)), (.int (0 : Int32))] (.int (0 : Int32)) := Arv.set Ao28 qo28 So28 No28 Ho28 Go28 (fits_nar_char _) W29 2 rfl (Nat.le_of_ble_eq_true rfl)
  rw [own_nc2 (own_cr (show yn / 10 % 10 < 10 by omega))] at V29
  have S30 : Go p e below s₁ (eF_text m (Int32.ofNat yn) (Int32.ofNat mn) (Int32.ofNat dn)) T29 (mkF m 45 #[vI (Int32.ofNat yn), vI (Int32.ofNat mn), vI (Int32.ofNat dn), vR ar] []) := fun t kt => S26 t (st29 t kt)
  clear S26 st29 X20 e20
  have S31 : Go p e below s₁ (eF_text m (Int32.ofNat yn) (Int32.ofNat mn) (Int32.ofNat dn)) T29 (mkF m 54 #[vI (Int32.ofNat yn), vI (Int32.ofNat mn), vI (Int32.ofNat dn), vR ar] [(.int ((48 : Int32) + ((Int32.ofNat yn) % (10 : Int32)))), (.int (3 : Int32)), (.ref ar)]) := fun t kt => S30 t (by
    refine XS.aloadN X29.here hx rfl (hb hby d1_45) rfl rfl ?_
    refine XS.iconst X29.here hx rfl (hb hby d1_46) ?_
    show Sp p e below T29 (mkF m 47 #[vI (Int32.ofNat yn), vI (Int32.ofNat mn), vI (Int32.ofNat dn), vR ar] [(.int (3 : Int32)), (.ref ar)]) _
    refine XS.bipush X29.here hx rfl (hb hby d1_47) ?_
    refine XS.iloadN X29.here hx rfl (hb hby d1_49) rfl ?_
    show Sp p e below T29 (mkF m 50 #[vI (Int32.ofNat yn), vI (Int32.ofNat mn), vI (Int32.ofNat dn), vR ar] [(.int (Int32.ofNat yn)), (.int (48 : Int32)), (.int (3 : Int32)), (.ref ar)]) _
    refine XS.bipush X29.here hx rfl (hb hby d1_50) ?_
    refine iremM X29 hx rfl (hb hby d1_52) rfl (by decide) ?_
    show Sp p e below T29 (mkF m 53 #[vI (Int32.ofNat yn), vI (Int32.ofNat mn), vI (Int32.ofNat dn), vR ar] [(.int ((Int32.ofNat yn) % (10 : Int32))), (.int (48 : Int32)), (.int (3 : Int32)), (.ref ar)]) _
    refine XS.iadd X29.here hx rfl (hb hby d1_53) rfl ?_
    exact kt)
  clear S30
  have q33 : ((48 : Int32) + ((Int32.ofNat yn) % (10 : Int32))) = (own_c (yn % 10)) := own_d3 (by omega)
  have S32 : Go p e below s₁ (eF_text m (Int32.ofNat yn) (Int32.ofNat mn) (Int32.ofNat dn)) T29 (mkF m 54 #[vI (Int32.ofNat yn), vI (Int32.ofNat mn), vI (Int32.ofNat dn), vR ar] [(.int (own_c (yn % 10))), (.int (3 : Int32)), (.ref ar)]) := by have h := S31; rw [q33] at h; exact h
  clear S31
  have S34 : Go p e below s₁ (eF_text m (Int32.ofNat yn) (Int32.ofNat mn) (Int32.ofNat dn)) T29 (mkF m 55 #[vI (Int32.ofNat yn), vI (Int32.ofNat mn), vI (Int32.ofNat dn), vR ar] [(.int ((own_c (yn % 10)).toUInt32.toUInt16.toUInt32.toInt32)), (.int (3 : Int32)), (.ref ar)]) := fun t kt => S32 t (by
    refine XS.i2c X29.here hx rfl (hb hby d1_54) rfl ?_
    exact kt)
  clear S32
  have q36 : ((own_c (yn % 10)).toUInt32.toUInt16.toUInt32.toInt32) = (own_c (yn % 10)) := own_nc2 (own_cr (by omega))
  have S35 : Go p e below s₁ (eF_text m (Int32.ofNat yn) (Int32.ofNat mn) (Int32.ofNat dn)) T29 (mkF m 55 #[vI (Int32.ofNat yn), vI (Int32.ofNat mn), vI (Int32.ofNat dn), vR ar] [(.int (own_c (yn % 10))), (.int (3 : Int32)), (.ref ar)]) := by have h := S34; rw [q36] at h; exact h
  clear S34
  obtain ⟨co37, Ao37, qo37, So37, No37, Ho37, Go37⟩ := id V29
  have hino37 : ¬ ((3 : Int32) < 0 ∨ co37.slots.size ≤ ((3 : Int32)).toNatClampNeg) := inb_of So37 ⟨by decide, by decide⟩
  obtain ⟨T38, h38, X38, e38, W38, st38⟩ := stC X29 hx hZ e29 Ao37 (j := (3 : Int32)) hino37 (g := (mkF m 55 #[vI (Int32.ofNat yn), vI (Int32.ofNat mn), vI (Int32.ofNat dn), vR ar] [(.int (own_c (yn % 10))), (.int (3 : Int32)), (.ref ar)])) rfl rfl (hb hby d1_55)
  have N38 := Fr.snoc X38 N29 g_ar
  have K38 : Keep h0 h38 [] := K29.wr W38 (Or.inr sz_ar)
  have V38 : Arv Z h38 ar k2 .char (10 : Int32) [(.int (own_c (yn / 1000))), (.int (own_c (yn / 100 % 10))), (.int (own_c (yn / 10 % 10))), (.int ((own_c (yn % 10)).toUInt32.toUInt16.toUInt32.toInt32)), (.int (0 : Int32)), (.int (0 : Int32)), (.int (0 : Int32)), (.int (0 : Int32)), (.int (0 : Int32)), (.int (0 : Int32))] (.int (0 : Int32)) := Arv.set Ao37 qo37 So37 No37 Ho37 Go37 (fits_nar_char _) W38 3 rfl (Nat.le_of_ble_eq_true rfl)
  rw [own_nc2 (own_cr (show yn % 10 < 10 by omega))] at V38
  have S39 : Go p e below s₁ (eF_text m (Int32.ofNat yn) (Int32.ofNat mn) (Int32.ofNat dn)) T38 (mkF m 56 #[vI (Int32.ofNat yn), vI (Int32.ofNat mn), vI (Int32.ofNat dn), vR ar] []) := fun t kt => S35 t (st38 t kt)
  clear S35 st38 X29 e29
  have S40 : Go p e below s₁ (eF_text m (Int32.ofNat yn) (Int32.ofNat mn) (Int32.ofNat dn)) T38 (mkF m 60 #[vI (Int32.ofNat yn), vI (Int32.ofNat mn), vI (Int32.ofNat dn), vR ar] [(.int (45 : Int32)), (.int (4 : Int32)), (.ref ar)]) := fun t kt => S39 t (by
    refine XS.aloadN X38.here hx rfl (hb hby d1_56) rfl rfl ?_
    refine XS.iconst X38.here hx rfl (hb hby d1_57) ?_
    show Sp p e below T38 (mkF m 58 #[vI (Int32.ofNat yn), vI (Int32.ofNat mn), vI (Int32.ofNat dn), vR ar] [(.int (4 : Int32)), (.ref ar)]) _
    refine XS.bipush X38.here hx rfl (hb hby d1_58) ?_
    exact kt)
  clear S39
  obtain ⟨co41, Ao41, qo41, So41, No41, Ho41, Go41⟩ := id V38
  have hino41 : ¬ ((4 : Int32) < 0 ∨ co41.slots.size ≤ ((4 : Int32)).toNatClampNeg) := inb_of So41 ⟨by decide, by decide⟩
  obtain ⟨T42, h42, X42, e42, W42, st42⟩ := stC X38 hx hZ e38 Ao41 (j := (4 : Int32)) hino41 (g := (mkF m 60 #[vI (Int32.ofNat yn), vI (Int32.ofNat mn), vI (Int32.ofNat dn), vR ar] [(.int (45 : Int32)), (.int (4 : Int32)), (.ref ar)])) rfl rfl (hb hby d1_60)
  have N42 := Fr.snoc X42 N38 g_ar
  have K42 : Keep h0 h42 [] := K38.wr W42 (Or.inr sz_ar)
  have V42 : Arv Z h42 ar k2 .char (10 : Int32) [(.int (own_c (yn / 1000))), (.int (own_c (yn / 100 % 10))), (.int (own_c (yn / 10 % 10))), (.int (own_c (yn % 10))), (.int ((45 : Int32).toUInt32.toUInt16.toUInt32.toInt32)), (.int (0 : Int32)), (.int (0 : Int32)), (.int (0 : Int32)), (.int (0 : Int32)), (.int (0 : Int32))] (.int (0 : Int32)) := Arv.set Ao41 qo41 So41 No41 Ho41 Go41 (fits_nar_char _) W42 4 rfl (Nat.le_of_ble_eq_true rfl)
  rw [(by decide : (45 : Int32).toUInt32.toUInt16.toUInt32.toInt32 = 45)] at V42
  have S43 : Go p e below s₁ (eF_text m (Int32.ofNat yn) (Int32.ofNat mn) (Int32.ofNat dn)) T42 (mkF m 61 #[vI (Int32.ofNat yn), vI (Int32.ofNat mn), vI (Int32.ofNat dn), vR ar] []) := fun t kt => S40 t (st42 t kt)
  clear S40 st42 X38 e38
  have S44 : Go p e below s₁ (eF_text m (Int32.ofNat yn) (Int32.ofNat mn) (Int32.ofNat dn)) T42 (mkF m 70 #[vI (Int32.ofNat yn), vI (Int32.ofNat mn), vI (Int32.ofNat dn), vR ar] [(.int ((48 : Int32) + ((Int32.ofNat mn) / (10 : Int32)))), (.int (5 : Int32)), (.ref ar)]) := fun t kt => S43 t (by
    refine XS.aloadN X42.here hx rfl (hb hby d1_61) rfl rfl ?_
    refine XS.iconst X42.here hx rfl (hb hby d1_62) ?_
    show Sp p e below T42 (mkF m 63 #[vI (Int32.ofNat yn), vI (Int32.ofNat mn), vI (Int32.ofNat dn), vR ar] [(.int (5 : Int32)), (.ref ar)]) _
    refine XS.bipush X42.here hx rfl (hb hby d1_63) ?_
    refine XS.iloadN X42.here hx rfl (hb hby d1_65) rfl ?_
    show Sp p e below T42 (mkF m 66 #[vI (Int32.ofNat yn), vI (Int32.ofNat mn), vI (Int32.ofNat dn), vR ar] [(.int (Int32.ofNat mn)), (.int (48 : Int32)), (.int (5 : Int32)), (.ref ar)]) _
    refine XS.bipush X42.here hx rfl (hb hby d1_66) ?_
    refine XS.idiv X42.here hx rfl (hb hby d1_68) rfl (by decide) ?_
    show Sp p e below T42 (mkF m 69 #[vI (Int32.ofNat yn), vI (Int32.ofNat mn), vI (Int32.ofNat dn), vR ar] [(.int ((Int32.ofNat mn) / (10 : Int32))), (.int (48 : Int32)), (.int (5 : Int32)), (.ref ar)]) _
    refine XS.iadd X42.here hx rfl (hb hby d1_69) rfl ?_
    exact kt)
  clear S43
  have q46 : ((48 : Int32) + ((Int32.ofNat mn) / (10 : Int32))) = (own_c (mn / 10)) := own_d1 10 (by omega) (by omega) (by omega)
  have S45 : Go p e below s₁ (eF_text m (Int32.ofNat yn) (Int32.ofNat mn) (Int32.ofNat dn)) T42 (mkF m 70 #[vI (Int32.ofNat yn), vI (Int32.ofNat mn), vI (Int32.ofNat dn), vR ar] [(.int (own_c (mn / 10))), (.int (5 : Int32)), (.ref ar)]) := by have h := S44; rw [q46] at h; exact h
  clear S44
  have S47 : Go p e below s₁ (eF_text m (Int32.ofNat yn) (Int32.ofNat mn) (Int32.ofNat dn)) T42 (mkF m 71 #[vI (Int32.ofNat yn), vI (Int32.ofNat mn), vI (Int32.ofNat dn), vR ar] [(.int ((own_c (mn / 10)).toUInt32.toUInt16.toUInt32.toInt32)), (.int (5 : Int32)), (.ref ar)]) := fun t kt => S45 t (by
    refine XS.i2c X42.here hx rfl (hb hby d1_70) rfl ?_
    exact kt)
  clear S45
  have q49 : ((own_c (mn / 10)).toUInt32.toUInt16.toUInt32.toInt32) = (own_c (mn / 10)) := own_nc2 (own_cr (by omega))
  have S48 : Go p e below s₁ (eF_text m (Int32.ofNat yn) (Int32.ofNat mn) (Int32.ofNat dn)) T42 (mkF m 71 #[vI (Int32.ofNat yn), vI (Int32.ofNat mn), vI (Int32.ofNat dn), vR ar] [(.int (own_c (mn / 10))), (.int (5 : Int32)), (.ref ar)]) := by have h := S47; rw [q49] at h; exact h
  clear S47
  obtain ⟨co50, Ao50, qo50, So50, No50, Ho50, Go50⟩ := id V42
  have hino50 : ¬ ((5 : Int32) < 0 ∨ co50.slots.size ≤ ((5 : Int32)).toNatClampNeg) := inb_of So50 ⟨by decide, by decide⟩
  obtain ⟨T51, h51, X51, e51, W51, st51⟩ := stC X42 hx hZ e42 Ao50 (j := (5 : Int32)) hino50 (g := (mkF m 71 #[vI (Int32.ofNat yn), vI (Int32.ofNat mn), vI (Int32.ofNat dn), vR ar] [(.int (own_c (mn / 10))), (.int (5 : Int32)), (.ref ar)])) rfl rfl (hb hby d1_71)
  have N51 := Fr.snoc X51 N42 g_ar
  have K51 : Keep h0 h51 [] := K42.wr W51 (Or.inr sz_ar)
  have V51 : Arv Z h51 ar k2 .char (10 : Int32) [(.int (own_c (yn / 1000))), (.int (own_c (yn / 100 % 10))), (.int (own_c (yn / 10 % 10))), (.int (own_c (yn % 10))), (.int (45 : Int32)), (.int ((own_c (mn / 10)).toUInt32.toUInt16.toUInt32.toInt32)), (.int (0 : Int32)), (.int (0 : Int32)), (.int (0 : Int32)), (.int (0 : Int32))] (.int (0 : Int32)) := Arv.set Ao50 qo50 So50 No50 Ho50 Go50 (fits_nar_char _) W51 5 rfl (Nat.le_of_ble_eq_true rfl)
  rw [own_nc2 (own_cr (show mn / 10 < 10 by omega))] at V51
  have S52 : Go p e below s₁ (eF_text m (Int32.ofNat yn) (Int32.ofNat mn) (Int32.ofNat dn)) T51 (mkF m 72 #[vI (Int32.ofNat yn), vI (Int32.ofNat mn), vI (Int32.ofNat dn), vR ar] []) := fun t kt => S48 t (st51 t kt)
  clear S48 st51 X42 e42
  have S53 : Go p e below s₁ (eF_text m (Int32.ofNat yn) (Int32.ofNat mn) (Int32.ofNat dn)) T51 (mkF m 82 #[vI (Int32.ofNat yn), vI (Int32.ofNat mn), vI (Int32.ofNat dn), vR ar] [(.int ((48 : Int32) + ((Int32.ofNat mn) % (10 : Int32)))), (.int (6 : Int32)), (.ref ar)]) := fun t kt => S52 t (by
    refine XS.aloadN X51.here hx rfl (hb hby d1_72) rfl rfl ?_
    refine XS.bipush X51.here hx rfl (hb hby d1_73) ?_
    show Sp p e below T51 (mkF m 75 #[vI (Int32.ofNat yn), vI (Int32.ofNat mn), vI (Int32.ofNat dn), vR ar] [(.int (6 : Int32)), (.ref ar)]) _
    refine XS.bipush X51.here hx rfl (hb hby d1_75) ?_
    refine XS.iloadN X51.here hx rfl (hb hby d1_77) rfl ?_
    show Sp p e below T51 (mkF m 78 #[vI (Int32.ofNat yn), vI (Int32.ofNat mn), vI (Int32.ofNat dn), vR ar] [(.int (Int32.ofNat mn)), (.int (48 : Int32)), (.int (6 : Int32)), (.ref ar)]) _
    refine XS.bipush X51.here hx rfl (hb hby d1_78) ?_
    refine iremM X51 hx rfl (hb hby d1_80) rfl (by decide) ?_
    show Sp p e below T51 (mkF m 81 #[vI (Int32.ofNat yn), vI (Int32.ofNat mn), vI (Int32.ofNat dn), vR ar] [(.int ((Int32.ofNat mn) % (10 : Int32))), (.int (48 : Int32)), (.int (6 : Int32)), (.ref ar)]) _
    refine XS.iadd X51.here hx rfl (hb hby d1_81) rfl ?_
    exact kt)
  clear S52
  have q55 : ((48 : Int32) + ((Int32.ofNat mn) % (10 : Int32))) = (own_c (mn % 10)) := own_d3 (by omega)
  have S54 : Go p e below s₁ (eF_text m (Int32.ofNat yn) (Int32.ofNat mn) (Int32.ofNat dn)) T51 (mkF m 82 #[vI (Int32.ofNat yn), vI (Int32.ofNat mn), vI (Int32.ofNat dn), vR ar] [(.int (own_c (mn % 10))), (.int (6 : Int32)), (.ref ar)]) := by have h := S53; rw [q55] at h; exact h
  clear S53
  have S56 : Go p e below s₁ (eF_text m (Int32.ofNat yn) (Int32.ofNat mn) (Int32.ofNat dn)) T51 (mkF m 83 #[vI (Int32.ofNat yn), vI (Int32.ofNat mn), vI (Int32.ofNat dn), vR ar] [(.int ((own_c (mn % 10)).toUInt32.toUInt16.toUInt32.toInt32)), (.int (6 : Int32)), (.ref ar)]) := fun t kt => S54 t (by
    refine XS.i2c X51.here hx rfl (hb hby d1_82) rfl ?_
    exact kt)
  clear S54
  have q58 : ((own_c (mn % 10)).toUInt32.toUInt16.toUInt32.toInt32) = (own_c (mn % 10)) := own_nc2 (own_cr (by omega))
  have S57 : Go p e below s₁ (eF_text m (Int32.ofNat yn) (Int32.ofNat mn) (Int32.ofNat dn)) T51 (mkF m 83 #[vI (Int32.ofNat yn), vI (Int32.ofNat mn), vI (Int32.ofNat dn), vR ar] [(.int (own_c (mn % 10))), (.int (6 : Int32)), (.ref ar)]) := by have h := S56; rw [q58] at h; exact h
  clear S56
  obtain ⟨co59, Ao59, qo59, So59, No59, Ho59, Go59⟩ := id V51
  have hino59 : ¬ ((6 : Int32) < 0 ∨ co59.slots.size ≤ ((6 : Int32)).toNatClampNeg) := inb_of So59 ⟨by decide, by decide⟩
  obtain ⟨T60, h60, X60, e60, W60, st60⟩ := stC X51 hx hZ e51 Ao59 (j := (6 : Int32)) hino59 (g := (mkF m 83 #[vI (Int32.ofNat yn), vI (Int32.ofNat mn), vI (Int32.ofNat dn), vR ar] [(.int (own_c (mn % 10))), (.int (6 : Int32)), (.ref ar)])) rfl rfl (hb hby d1_83)
  have N60 := Fr.snoc X60 N51 g_ar
  have K60 : Keep h0 h60 [] := K51.wr W60 (Or.inr sz_ar)
  have V60 : Arv Z h60 ar k2 .char (10 : Int32) [(.int (own_c (yn / 1000))), (.int (own_c (yn / 100 % 10))), (.int (own_c (yn / 10 % 10))), (.int (own_c (yn % 10))), (.int (45 : Int32)), (.int (own_c (mn / 10))), (.int ((own_c (mn % 10)).toUInt32.toUInt16.toUInt32.toInt32)), (.int (0 : Int32)), (.int (0 : Int32)), (.int (0 : Int32))] (.int (0 : Int32)) := Arv.set Ao59 qo59 So59 No59 Ho59 Go59 (fits_nar_char _) W60 6 rfl (Nat.le_of_ble_eq_true rfl)
  rw [own_nc2 (own_cr (show mn % 10 < 10 by omega))] at V60
  have S61 : Go p e below s₁ (eF_text m (Int32.ofNat yn) (Int32.ofNat mn) (Int32.ofNat dn)) T60 (mkF m 84 #[vI (Int32.ofNat yn), vI (Int32.ofNat mn), vI (Int32.ofNat dn), vR ar] []) := fun t kt => S57 t (st60 t kt)
  clear S57 st60 X51 e51
  have S62 : Go p e below s₁ (eF_text m (Int32.ofNat yn) (Int32.ofNat mn) (Int32.ofNat dn)) T60 (mkF m 89 #[vI (Int32.ofNat yn), vI (Int32.ofNat mn), vI (Int32.ofNat dn), vR ar] [(.int (45 : Int32)), (.int (7 : Int32)), (.ref ar)]) := fun t kt => S61 t (by
    refine XS.aloadN X60.here hx rfl (hb hby d1_84) rfl rfl ?_
    refine XS.bipush X60.here hx rfl (hb hby d1_85) ?_
    show Sp p e below T60 (mkF m 87 #[vI (Int32.ofNat yn), vI (Int32.ofNat mn), vI (Int32.ofNat dn), vR ar] [(.int (7 : Int32)), (.ref ar)]) _
    refine XS.bipush X60.here hx rfl (hb hby d1_87) ?_
    exact kt)
  clear S61
  obtain ⟨co63, Ao63, qo63, So63, No63, Ho63, Go63⟩ := id V60
  have hino63 : ¬ ((7 : Int32) < 0 ∨ co63.slots.size ≤ ((7 : Int32)).toNatClampNeg) := inb_of So63 ⟨by decide, by decide⟩
  obtain ⟨T64, h64, X64, e64, W64, st64⟩ := stC X60 hx hZ e60 Ao63 (j := (7 : Int32)) hino63 (g := (mkF m 89 #[vI (Int32.ofNat yn), vI (Int32.ofNat mn), vI (Int32.ofNat dn), vR ar] [(.int (45 : Int32)), (.int (7 : Int32)), (.ref ar)])) rfl rfl (hb hby d1_89)
  have N64 := Fr.snoc X64 N60 g_ar
  have K64 : Keep h0 h64 [] := K60.wr W64 (Or.inr sz_ar)
  have V64 : Arv Z h64 ar k2 .char (10 : Int32) [(.int (own_c (yn / 1000))), (.int (own_c (yn / 100 % 10))), (.int (own_c (yn / 10 % 10))), (.int (own_c (yn % 10))), (.int (45 : Int32)), (.int (own_c (mn / 10))), (.int (own_c (mn % 10))), (.int ((45 : Int32).toUInt32.toUInt16.toUInt32.toInt32)), (.int (0 : Int32)), (.int (0 : Int32))] (.int (0 : Int32)) := Arv.set Ao63 qo63 So63 No63 Ho63 Go63 (fits_nar_char _) W64 7 rfl (Nat.le_of_ble_eq_true rfl)
  rw [(by decide : (45 : Int32).toUInt32.toUInt16.toUInt32.toInt32 = 45)] at V64
  have S65 : Go p e below s₁ (eF_text m (Int32.ofNat yn) (Int32.ofNat mn) (Int32.ofNat dn)) T64 (mkF m 90 #[vI (Int32.ofNat yn), vI (Int32.ofNat mn), vI (Int32.ofNat dn), vR ar] []) := fun t kt => S62 t (st64 t kt)
  clear S62 st64 X60 e60
  have S66 : Go p e below s₁ (eF_text m (Int32.ofNat yn) (Int32.ofNat mn) (Int32.ofNat dn)) T64 (mkF m 100 #[vI (Int32.ofNat yn), vI (Int32.ofNat mn), vI (Int32.ofNat dn), vR ar] [(.int ((48 : Int32) + ((Int32.ofNat dn) / (10 : Int32)))), (.int (8 : Int32)), (.ref ar)]) := fun t kt => S65 t (by
    refine XS.aloadN X64.here hx rfl (hb hby d1_90) rfl rfl ?_
    refine XS.bipush X64.here hx rfl (hb hby d1_91) ?_
    show Sp p e below T64 (mkF m 93 #[vI (Int32.ofNat yn), vI (Int32.ofNat mn), vI (Int32.ofNat dn), vR ar] [(.int (8 : Int32)), (.ref ar)]) _
    refine XS.bipush X64.here hx rfl (hb hby d1_93) ?_
    refine XS.iloadN X64.here hx rfl (hb hby d1_95) rfl ?_
    show Sp p e below T64 (mkF m 96 #[vI (Int32.ofNat yn), vI (Int32.ofNat mn), vI (Int32.ofNat dn), vR ar] [(.int (Int32.ofNat dn)), (.int (48 : Int32)), (.int (8 : Int32)), (.ref ar)]) _
    refine XS.bipush X64.here hx rfl (hb hby d1_96) ?_
    refine XS.idiv X64.here hx rfl (hb hby d1_98) rfl (by decide) ?_
    show Sp p e below T64 (mkF m 99 #[vI (Int32.ofNat yn), vI (Int32.ofNat mn), vI (Int32.ofNat dn), vR ar] [(.int ((Int32.ofNat dn) / (10 : Int32))), (.int (48 : Int32)), (.int (8 : Int32)), (.ref ar)]) _
    refine XS.iadd X64.here hx rfl (hb hby d1_99) rfl ?_
    exact kt)
  clear S65
  have q68 : ((48 : Int32) + ((Int32.ofNat dn) / (10 : Int32))) = (own_c (dn / 10)) := own_d1 10 (by omega) (by omega) (by omega)
  have S67 : Go p e below s₁ (eF_text m (Int32.ofNat yn) (Int32.ofNat mn) (Int32.ofNat dn)) T64 (mkF m 100 #[vI (Int32.ofNat yn), vI (Int32.ofNat mn), vI (Int32.ofNat dn), vR ar] [(.int (own_c (dn / 10))), (.int (8 : Int32)), (.ref ar)]) := by have h := S66; rw [q68] at h; exact h
  clear S66
  have S69 : Go p e below s₁ (eF_text m (Int32.ofNat yn) (Int32.ofNat mn) (Int32.ofNat dn)) T64 (mkF m 101 #[vI (Int32.ofNat yn), vI (Int32.ofNat mn), vI (Int32.ofNat dn), vR ar] [(.int ((own_c (dn / 10)).toUInt32.toUInt16.toUInt32.toInt32)), (.int (8 : Int32)), (.ref ar)]) := fun t kt => S67 t (by
    refine XS.i2c X64.here hx rfl (hb hby d1_100) rfl ?_
    exact kt)
  clear S67
  have q71 : ((own_c (dn / 10)).toUInt32.toUInt16.toUInt32.toInt32) = (own_c (dn / 10)) := own_nc2 (own_cr (by omega))
  have S70 : Go p e below s₁ (eF_text m (Int32.ofNat yn) (Int32.ofNat mn) (Int32.ofNat dn)) T64 (mkF m 101 #[vI (Int32.ofNat yn), vI (Int32.ofNat mn), vI (Int32.ofNat dn), vR ar] [(.int (own_c (dn / 10))), (.int (8 : Int32)), (.ref ar)]) := by have h := S69; rw [q71] at h; exact h
  clear S69
  obtain ⟨co72, Ao72, qo72, So72, No72, Ho72, Go72⟩ := id V64
  have hino72 : ¬ ((8 : Int32) < 0 ∨ co72.slots.size ≤ ((8 : Int32)).toNatClampNeg) := inb_of So72 ⟨by decide, by decide⟩
  obtain ⟨T73, h73, X73, e73, W73, st73⟩ := stC X64 hx hZ e64 Ao72 (j := (8 : Int32)) hino72 (g := (mkF m 101 #[vI (Int32.ofNat yn), vI (Int32.ofNat mn), vI (Int32.ofNat dn), vR ar] [(.int (own_c (dn / 10))), (.int (8 : Int32)), (.ref ar)])) rfl rfl (hb hby d1_101)
  have N73 := Fr.snoc X73 N64 g_ar
  have K73 : Keep h0 h73 [] := K64.wr W73 (Or.inr sz_ar)
  have V73 : Arv Z h73 ar k2 .char (10 : Int32) [(.int (own_c (yn / 1000))), (.int (own_c (yn / 100 % 10))), (.int (own_c (yn / 10 % 10))), (.int (own_c (yn % 10))), (.int (45 : Int32)), (.int (own_c (mn / 10))), (.int (own_c (mn % 10))), (.int (45 : Int32)), (.int ((own_c (dn / 10)).toUInt32.toUInt16.toUInt32.toInt32)), (.int (0 : Int32))] (.int (0 : Int32)) := Arv.set Ao72 qo72 So72 No72 Ho72 Go72 (fits_nar_char _) W73 8 rfl (Nat.le_of_ble_eq_true rfl)
  rw [own_nc2 (own_cr (show dn / 10 < 10 by omega))] at V73
  have S74 : Go p e below s₁ (eF_text m (Int32.ofNat yn) (Int32.ofNat mn) (Int32.ofNat dn)) T73 (mkF m 102 #[vI (Int32.ofNat yn), vI (Int32.ofNat mn), vI (Int32.ofNat dn), vR ar] []) := fun t kt => S70 t (st73 t kt)
  clear S70 st73 X64 e64
  have S75 : Go p e below s₁ (eF_text m (Int32.ofNat yn) (Int32.ofNat mn) (Int32.ofNat dn)) T73 (mkF m 112 #[vI (Int32.ofNat yn), vI (Int32.ofNat mn), vI (Int32.ofNat dn), vR ar] [(.int ((48 : Int32) + ((Int32.ofNat dn) % (10 : Int32)))), (.int (9 : Int32)), (.ref ar)]) := fun t kt => S74 t (by
    refine XS.aloadN X73.here hx rfl (hb hby d1_102) rfl rfl ?_
    refine XS.bipush X73.here hx rfl (hb hby d1_103) ?_
    show Sp p e below T73 (mkF m 105 #[vI (Int32.ofNat yn), vI (Int32.ofNat mn), vI (Int32.ofNat dn), vR ar] [(.int (9 : Int32)), (.ref ar)]) _
    refine XS.bipush X73.here hx rfl (hb hby d1_105) ?_
    refine XS.iloadN X73.here hx rfl (hb hby d1_107) rfl ?_
    show Sp p e below T73 (mkF m 108 #[vI (Int32.ofNat yn), vI (Int32.ofNat mn), vI (Int32.ofNat dn), vR ar] [(.int (Int32.ofNat dn)), (.int (48 : Int32)), (.int (9 : Int32)), (.ref ar)]) _
    refine XS.bipush X73.here hx rfl (hb hby d1_108) ?_
    refine iremM X73 hx rfl (hb hby d1_110) rfl (by decide) ?_
    show Sp p e below T73 (mkF m 111 #[vI (Int32.ofNat yn), vI (Int32.ofNat mn), vI (Int32.ofNat dn), vR ar] [(.int ((Int32.ofNat dn) % (10 : Int32))), (.int (48 : Int32)), (.int (9 : Int32)), (.ref ar)]) _
    refine XS.iadd X73.here hx rfl (hb hby d1_111) rfl ?_
    exact kt)
  clear S74
  have q77 : ((48 : Int32) + ((Int32.ofNat dn) % (10 : Int32))) = (own_c (dn % 10)) := own_d3 (by omega)
  have S76 : Go p e below s₁ (eF_text m (Int32.ofNat yn) (Int32.ofNat mn) (Int32.ofNat dn)) T73 (mkF m 112 #[vI (Int32.ofNat yn), vI (Int32.ofNat mn), vI (Int32.ofNat dn), vR ar] [(.int (own_c (dn % 10))), (.int (9 : Int32)), (.ref ar)]) := by have h := S75; rw [q77] at h; exact h
  clear S75
  have S78 : Go p e below s₁ (eF_text m (Int32.ofNat yn) (Int32.ofNat mn) (Int32.ofNat dn)) T73 (mkF m 113 #[vI (Int32.ofNat yn), vI (Int32.ofNat mn), vI (Int32.ofNat dn), vR ar] [(.int ((own_c (dn % 10)).toUInt32.toUInt16.toUInt32.toInt32)), (.int (9 : Int32)), (.ref ar)]) := fun t kt => S76 t (by
    refine XS.i2c X73.here hx rfl (hb hby d1_112) rfl ?_
    exact kt)
  clear S76
  have q80 : ((own_c (dn % 10)).toUInt32.toUInt16.toUInt32.toInt32) = (own_c (dn % 10)) := own_nc2 (own_cr (by omega))
  have S79 : Go p e below s₁ (eF_text m (Int32.ofNat yn) (Int32.ofNat mn) (Int32.ofNat dn)) T73 (mkF m 113 #[vI (Int32.ofNat yn), vI (Int32.ofNat mn), vI (Int32.ofNat dn), vR ar] [(.int (own_c (dn % 10))), (.int (9 : Int32)), (.ref ar)]) := by have h := S78; rw [q80] at h; exact h
  clear S78
  obtain ⟨co81, Ao81, qo81, So81, No81, Ho81, Go81⟩ := id V73
  have hino81 : ¬ ((9 : Int32) < 0 ∨ co81.slots.size ≤ ((9 : Int32)).toNatClampNeg) := inb_of So81 ⟨by decide, by decide⟩
  obtain ⟨T82, h82, X82, e82, W82, st82⟩ := stC X73 hx hZ e73 Ao81 (j := (9 : Int32)) hino81 (g := (mkF m 113 #[vI (Int32.ofNat yn), vI (Int32.ofNat mn), vI (Int32.ofNat dn), vR ar] [(.int (own_c (dn % 10))), (.int (9 : Int32)), (.ref ar)])) rfl rfl (hb hby d1_113)
  have N82 := Fr.snoc X82 N73 g_ar
  have K82 : Keep h0 h82 [] := K73.wr W82 (Or.inr sz_ar)
  have V82 : Arv Z h82 ar k2 .char (10 : Int32) [(.int (own_c (yn / 1000))), (.int (own_c (yn / 100 % 10))), (.int (own_c (yn / 10 % 10))), (.int (own_c (yn % 10))), (.int (45 : Int32)), (.int (own_c (mn / 10))), (.int (own_c (mn % 10))), (.int (45 : Int32)), (.int (own_c (dn / 10))), (.int ((own_c (dn % 10)).toUInt32.toUInt16.toUInt32.toInt32))] (.int (0 : Int32)) := Arv.set Ao81 qo81 So81 No81 Ho81 Go81 (fits_nar_char _) W82 9 rfl (Nat.le_of_ble_eq_true rfl)
  rw [own_nc2 (own_cr (show dn % 10 < 10 by omega))] at V82
  have S83 : Go p e below s₁ (eF_text m (Int32.ofNat yn) (Int32.ofNat mn) (Int32.ofNat dn)) T82 (mkF m 114 #[vI (Int32.ofNat yn), vI (Int32.ofNat mn), vI (Int32.ofNat dn), vR ar] []) := fun t kt => S79 t (st82 t kt)
  clear S79 st82 X73 e73
  obtain ⟨T84, h84, X84, e84, E84, A84, D84, -, st84⟩ := newO X82 hx hZ hown (own_h hw 6 rfl) (own_h hw 7 rfl) (own_h hw 8 rfl) e82 (g := (mkF m 114 #[vI (Int32.ofNat yn), vI (Int32.ofNat mn), vI (Int32.ofNat dn), vR ar] [])) rfl (hb hby d1_114) (by decide) (by decide)
  obtain ⟨x1, g84⟩ : ∃ z, z = h82.size := ⟨_, rfl⟩
  rw [← g84] at A84 D84 st84
  have ne85 : ar ≠ x1 := by rw [g84]; exact Nat.ne_of_lt V82.lt
  have g_x1 : n0 ≤ x1 := Nat.le_trans (Nat.le_trans (Nat.le_trans (Nat.le_trans (Nat.le_trans (Nat.le_trans (Nat.le_trans (Nat.le_trans (Nat.le_trans (Nat.le_trans (Nat.le_trans (Nat.le_trans Z0 E2.1) (Keep.of_wr W11).1) (Keep.of_wr W20).1) (Keep.of_wr W29).1) (Keep.of_wr W38).1) (Keep.of_wr W42).1) (Keep.of_wr W51).1) (Keep.of_wr W60).1) (Keep.of_wr W64).1) (Keep.of_wr W73).1) (Keep.of_wr W82).1) (Nat.le_of_eq g84.symm)
  have sz_x1 : h0.size ≤ x1 := Nat.le_trans K82.1 (Nat.le_of_eq g84.symm)
  have K84 : Keep h0 h84 [] := K82.ext E84
  have F_coder_x1 : Fld Z h84 x1 "java/lang/String" "coder" "B" (.int (0 : Int32)) := D84 (Or.inr (own_h hw 32 rfl)) (ty := .byte) (by decide)
  have F_value_x1 : Fld Z h84 x1 "java/lang/String" "value" "[B" .null := D84 (Or.inr (own_h hw 34 rfl)) (ty := (.array .byte)) (by decide)
  have S86 : Go p e below s₁ (eF_text m (Int32.ofNat yn) (Int32.ofNat mn) (Int32.ofNat dn)) T84 (mkF m 117 #[vI (Int32.ofNat yn), vI (Int32.ofNat mn), vI (Int32.ofNat dn), vR ar] [(.ref x1)]) := fun t kt => S83 t (st84 t kt)
  clear S83 st84 X82 e82
  have S87 : Go p e below s₁ (eF_text m (Int32.ofNat yn) (Int32.ofNat mn) (Int32.ofNat dn)) T84 (mkF m 119 #[vI (Int32.ofNat yn), vI (Int32.ofNat mn), vI (Int32.ofNat dn), vR ar] [(.ref ar), (.ref x1), (.ref x1)]) := fun t kt => S86 t (by
    refine XS.dup X84.here hx rfl (hb hby d1_117) rfl rfl ?_
    refine XS.aloadN X84.here hx rfl (hb hby d1_118) rfl rfl ?_
    show Sp p e below T84 (mkF m 119 #[vI (Int32.ofNat yn), vI (Int32.ofNat mn), vI (Int32.ofNat dn), vR ar] [(.ref ar), (.ref x1), (.ref x1)]) _
    exact kt)
  clear S86
  have f88 := (V82.ext E84)
  have f89 := ((((((((((((O0.ext E2).wr W11 g_ar).wr W20 g_ar).wr W29 g_ar).wr W38 g_ar).wr W42 g_ar).wr W51 g_ar).wr W60 g_ar).wr W64 g_ar).wr W73 g_ar).wr W82 g_ar).ext E84)
  obtain ⟨v90, T90, L90, X90, hQ90, st90⟩ := own_outV (X84.specialBack hx (y := (⟨"java/lang/String", "<init>", "([C)V"⟩ : MethodName)) rfl hown (mvT hZ (own_h hw 9 rfl)) (mvT hZ (own_h hw 10 rfl)) (mvT hZ (own_h hw 11 rfl)) (by decide) (StrChars.Road.backV (W := 1) hZ hws (kI := 4) (own_h hw 7 rfl) (cs := (own_tx yn mn dn)) (bs := (own_tx yn mn dn).map (fun c => c.toInt8.toInt32)) (n := 10) (n0 := n0) g_x1 (Nat.le_trans (Nat.le_trans (Nat.le_trans (Nat.le_trans (Nat.le_trans (Nat.le_trans (Nat.le_trans (Nat.le_trans (Nat.le_trans (Nat.le_trans (Nat.le_trans (Nat.le_trans Z0 E2.1) (Keep.of_wr W11).1) (Keep.of_wr W20).1) (Keep.of_wr W29).1) (Keep.of_wr W38).1) (Keep.of_wr W42).1) (Keep.of_wr W51).1) (Keep.of_wr W60).1) (Keep.of_wr W64).1) (Keep.of_wr W73).1) (Keep.of_wr W82).1) E84.1) A84 F_value_x1 F_coder_x1 f88 (S_cs.ext f89.2) hcz rfl rfl (by decide) (by decide) (fun z hz => (own_c8 (own_txr hy hm2 hd2 z hz)).1) rfl (by decide) (by decide)) (g := (mkF m 119 #[vI (Int32.ofNat yn), vI (Int32.ofNat mn), vI (Int32.ofNat dn), vR ar] [(.ref ar), (.ref x1), (.ref x1)])) rfl (by rw [hml]; rfl) (Steps.refl _) (a := x1) (argsL := [(.ref ar)]) (rest := [(.ref x1)]) (lenOf pd___C_V rfl) rfl (by show 2 * 0 + _ ≤ _; exact Nat.le_of_eq rfl) (hb hby d1_119) (fun _ _ => ⟨rfl, e84, (by decide : 2 + 1 ≤ _), (by decide : 14 + 10 ≤ _)⟩))
  obtain ⟨rfl, N90q, K90, E90, F90, t1, kb90, g_t1, sz90, ntx90, G90, V90⟩ := hQ90
  have N90 := Fr.app N82 N90q
  have KK90 : Keep h0 T90.heap [] := K84.trans K90 (allS (Or.inr sz_x1) all0)
  have sz_t1 : h0.size ≤ t1 := Nat.le_trans K84.1 sz90
  have V90' : Arv Z T90.heap t1 kb90 .byte (10 : Int32) (own_vs (own_tx yn mn dn)) (.int (0 : Int32)) := by have q := V90; rw [List.map_map] at q; exact q
  have S91 : Go p e below s₁ (eF_text m (Int32.ofNat yn) (Int32.ofNat mn) (Int32.ofNat dn)) T90 (mkF m 122 #[vI (Int32.ofNat yn), vI (Int32.ofNat mn), vI (Int32.ofNat dn), vR ar] [(.ref x1)]) := fun t kt => S87 t (st90 t kt)
  clear S87 st90 X84 e84
  obtain ⟨fs, hr, hrun, hended, hW, hsame⟩ := X90.leave (v := some (.ref x1)) (fun h => by first | rfl | (rw [Bd.returns] at h; cases h))
  refine ⟨_, _, S91 _ ?_, hrun, hended, _, _, rfl, ?_, ⟨_, rfl⟩, hW, hsame.mono (by decide) (by decide)⟩
  · exact retOut X90 hx Bd.returns rfl (Or.inr (Or.inr (Or.inr (Or.inr ⟨rfl, rfl, rfl⟩)))) (hb hby d1_122) hr
  · show Q_text Z yn mn dn h0 n0 _ T90.heap _
    exact ⟨x1, t1, _, rfl, N90, KK90, sz_x1, sz_t1, E90, F90, G90, V90'⟩
abbrev eF_isd (m : MethodId) (x0 : Int32) : JFrame := entryFrame m #[(.int x0)] 1
theorem ef_isd (m : MethodId) (x0 : Int32) : entryFrame m #[(.int x0)] 1 = mkF m 0 #[.val (.int x0)] [] := by first | (simp [entryFrame, mkF, argsToLocals, Value.category]; done) | rfl
theorem pn_isd : plainName "com/example/tranchery/tranchery/journal/Fields" = true := by first | (simp [plainName, overriddenIn]; done) | decide +kernel
def Q_isd (Z : State)  (h0 : Heap) (n0 : Nat) (v : Option Value) (h : Heap) (L : List Loc) : Prop := v = some (.int (1 : Int32)) ∧ Fr n0 L ∧ h = h0
set_option maxRecDepth 65536 in
set_option maxHeartbeats 40000000 in
theorem rm_isd (l : Launch) (Z : State) (a0 : Array Value) (hw : ∀ d ∈ tables_1, d.before a0 Z = true) (ws : List Jvm.Cond) (ch : Int32) (h0 : Heap) (n0 : Nat) (Z0 : n0 ≤ h0.size) (h1 : 48 ≤ ch.toInt) (h2 : ch.toInt ≤ 57) :
    MetFree l (⟨"com/example/tranchery/tranchery/journal/Fields", "isDigit", "(C)Z"⟩ : MethodName) (head1 (Jvm.Cond.code (⟨"com/example/tranchery/tranchery/journal/Fields", "isDigit", "(C)Z"⟩ : MethodName) prog_34_method_20_code 1 (some .boolean) :: ws) ({ frames := 0, cells := 0, slots := 0, locals := 0 } : Room)) (fun aa U => aa = #[(.int ch)] ∧ Z.Warmed39 U.vm ∧ U.heap = h0) (fun _ _ _ _ _ => True) (fun _ U o U' => ∃ v L, o = .returned v ∧ Q_isd Z  h0 n0 v U'.heap L ∧ FrameEnd U o U' L ({ frames := 0, cells := 0, slots := 0, locals := 0 } : Room).cells ({ frames := 0, cells := 0, slots := 0, locals := 0 } : Room).slots) := by
  refine MetFree.of_bodySF (plainFor_of_name pn_isd) hisR ?_
  intro p e s m args below meth c s₁ Bd hml0 hP hK
  obtain ⟨rfl, hZ, hh⟩ := hP
  have hx := Bd.exec
  have hby := Bd.bytes
  have hml : c.maxLocals = 1 := hml0
  have hown : s.vm.findClass "com/example/tranchery/tranchery/journal/Fields" = some m.cls := findClass_of_methodNamed Bd.named
  have hnm := (name_of_methodNamed Bd.named Bd.method).1
  have X0 : Stand p l e ({ frames := 0, cells := 0, slots := 0, locals := 0 } : Room) s m #[(.int ch)] below meth c s₁ [] 0 0 := Stand.of_body Bd
  have e0 : s₁.heap = h0 := by rw [← hh, Bd.state]; rfl
  have N0 := Fr.nil n0
  have S0 : Go p e below s₁ (eF_isd m ch) s₁ (mkF m 0 #[vI ch] []) := fun t k => castTop (ef_isd m ch) k
  have S92 : Go p e below s₁ (eF_isd m ch) s₁ (mkF m 3 #[vI ch] [(.int (48 : Int32)), (.int ch)]) := fun t kt => S0 t (by
    refine XS.iloadN X0.here hx rfl (hb hby d18_0) rfl ?_
    refine XS.bipush X0.here hx rfl (hb hby d18_1) ?_
    show Sp p e below s₁ (mkF m 3 #[vI ch] [(.int (48 : Int32)), (.int ch)]) _
    exact kt)
  clear S0
  have S93 : Go p e below s₁ (eF_isd m ch) s₁ (mkF m 9 #[vI ch] [(.int (57 : Int32)), (.int ch)]) := fun t kt => S92 t (by
    refine XS.icmpNo X0.here hx rfl (hb hby d18_3) rfl (flt (show ¬ (ch < (48 : Int32)) from (fun q => absurd ((own_lt (k := 48) 48 rfl).mp q) (by omega)))).1 ?_
    refine XS.iloadN X0.here hx rfl (hb hby d18_6) rfl ?_
    show Sp p e below s₁ (mkF m 7 #[vI ch] [(.int ch)]) _
    refine XS.bipush X0.here hx rfl (hb hby d18_7) ?_
    exact kt)
  clear S92
  have S94 : Go p e below s₁ (eF_isd m ch) s₁ (mkF m 17 #[vI ch] [(.int (1 : Int32))]) := fun t kt => S93 t (by
    refine XS.icmpNo X0.here hx rfl (hb hby d18_9) rfl (flt (show ¬ ((57 : Int32) < ch) from (fun q => absurd ((own_gt (k := 57) 57 rfl).mp q) (by omega)))).2.2.1 ?_
    refine XS.iconst X0.here hx rfl (hb hby d18_12) ?_
    show Sp p e below s₁ (mkF m 13 #[vI ch] [(.int (1 : Int32))]) _
    refine XS.goto X0.here hx rfl (pc0 := 13) (pc' := 17) rfl (hb hby d18_13) (by decide) (by decide) ?_
    exact kt)
  clear S93
  obtain ⟨fs, hr, hrun, hended, hW, hsame⟩ := X0.leave (v := some (.int (1 : Int32))) (fun h => by first | rfl | (rw [Bd.returns] at h; cases h))
  refine ⟨_, _, S94 _ ?_, hrun, hended, _, _, rfl, ?_, ⟨_, rfl⟩, hW, hsame.mono (by decide) (by decide)⟩
  · exact retN X0 hx (t := .boolean) Bd.returns (by simp) (hb hby d18_17) hr
  · show Q_isd Z  h0 n0 _ s₁.heap _
    rw [e0]
    exact ⟨rfl, N0, rfl⟩
abbrev eF_ids0 (m : MethodId) (x0 : Addr) (x1 : Int32) (x2 : Int32) : JFrame := entryFrame m #[(.ref x0), (.int x1), (.int x2)] 4
theorem ef_ids0 (m : MethodId) (x0 : Addr) (x1 : Int32) (x2 : Int32) : entryFrame m #[(.ref x0), (.int x1), (.int x2)] 4 = mkF m 0 #[.val (.ref x0), .val (.int x1), .val (.int x2), .unset] [] := by first | (simp [entryFrame, mkF, argsToLocals, Value.category]; done) | rfl
theorem pn_ids0 : plainName "com/example/tranchery/tranchery/journal/Fields" = true := by first | (simp [plainName, overriddenIn]; done) | decide +kernel
def Q_ids0 (Z : State)  (h0 : Heap) (n0 : Nat) (v : Option Value) (h : Heap) (L : List Loc) : Prop := v = some (.int (1 : Int32)) ∧ Fr n0 L ∧ h = h0
set_option maxRecDepth 65536 in
set_option maxHeartbeats 40000000 in
theorem rm_ids0 (l : Launch) (Z : State) (a0 : Array Value) (hw : ∀ d ∈ tables_1, d.before a0 Z = true) (ws : List Jvm.Cond) (a : Addr) (b : Addr) (k : ClassId) (yn : Nat) (mn : Nat) (dn : Nat) (h0 : Heap) (n0 : Nat) (Z0 : n0 ≤ h0.size) (SS : own_St Z) (O0 : Old Z n0 h0) (E : Exa Z h0 a "java/lang/String") (F : Fld Z h0 a "java/lang/String" "coder" "B" (.int (0 : Int32))) (G : Fld Z h0 a "java/lang/String" "value" "[B" (.ref b)) (V : Arv Z h0 b k .byte (10 : Int32) (own_vs (own_tx yn mn dn)) (.int (0 : Int32))) (hy : yn ≤ 9999) (hm : 1 ≤ mn) (hm2 : mn ≤ 12) (hd : 1 ≤ dn) (hd2 : dn ≤ 28) :
    MetFree l (⟨"com/example/tranchery/tranchery/journal/Fields", "isDigits", "(Ljava/lang/String;II)Z"⟩ : MethodName) (head1 (Jvm.Cond.code (⟨"com/example/tranchery/tranchery/journal/Fields", "isDigits", "(Ljava/lang/String;II)Z"⟩ : MethodName) prog_34_method_19_code 4 (some .boolean) :: ws) ({ frames := 4, cells := 0, slots := 0, locals := 53 } : Room)) (fun aa U => aa = #[(.ref a), (.int (0 : Int32)), (.int (4 : Int32))] ∧ Z.Warmed39 U.vm ∧ U.heap = h0) (fun _ _ _ _ _ => True) (fun _ U o U' => ∃ v L, o = .returned v ∧ Q_ids0 Z  h0 n0 v U'.heap L ∧ FrameEnd U o U' L ({ frames := 4, cells := 0, slots := 0, locals := 53 } : Room).cells ({ frames := 4, cells := 0, slots := 0, locals := 53 } : Room).slots) := by
  refine MetFree.of_bodySF (plainFor_of_name pn_ids0) hisR ?_
  intro p e s m args below meth c s₁ Bd hml0 hP hK
  obtain ⟨rfl, hZ, hh⟩ := hP
  have hx := Bd.exec
  have hby := Bd.bytes
  have hml : c.maxLocals = 4 := hml0
  have hown : s.vm.findClass "com/example/tranchery/tranchery/journal/Fields" = some m.cls := findClass_of_methodNamed Bd.named
  have hnm := (name_of_methodNamed Bd.named Bd.method).1
  have X0 : Stand p l e ({ frames := 4, cells := 0, slots := 0, locals := 53 } : Room) s m #[(.ref a), (.int (0 : Int32)), (.int (4 : Int32))] below meth c s₁ [] 0 0 := Stand.of_body Bd
  have e0 : s₁.heap = h0 := by rw [← hh, Bd.state]; rfl
  have N0 := Fr.nil n0
  have S0 : Go p e below s₁ (eF_ids0 m a (0 : Int32) (4 : Int32)) s₁ (mkF m 0 #[vR a, vI (0 : Int32), vI (4 : Int32), vU] []) := fun t k => castTop (ef_ids0 m a (0 : Int32) (4 : Int32)) k
  obtain ⟨⟨cz, S_cs, hcz⟩, ⟨fm, S_fm, hfm⟩, ⟨yr, yrr, S_yr, E_yr, F_yr, E_yrr, L_yr, H_yr⟩, ⟨mr, mrr, S_mr, E_mr, F_mr, E_mrr, L_mr, H_mr⟩, ⟨dr, drr, S_dr, E_dr, F_dr, E_drr, L_dr, H_dr⟩, ⟨iso, S_is, E_is⟩, ⟨em, el, kel, S_em, E_em, F_em, V_em⟩, ⟨nr, S_nr⟩, ⟨nk, S_nk⟩⟩ := id SS
  have hln : ∀ d ∈ StrChars.Road.wordsLen, d.before a0 Z = true := fun d hd => hw d (own_wLen d hd)
  have hch : ∀ d ∈ StrChars.Road.wordsChN, d.before a0 Z = true := fun d hd => hw d (own_wChN d hd)
  have hcd := own_coda (yn := yn) (mn := mn) (dn := dn) hy hm2 hd2
  have hb0 := own_hb (yn := yn) (mn := mn) (dn := dn) hy hm2 hd2
  have S95 : Go p e below s₁ (eF_ids0 m a (0 : Int32) (4 : Int32)) s₁ (mkF m 7 #[vR a, vI (0 : Int32), vI (4 : Int32), vU] [(.ref a), (.int (4 : Int32))]) := fun t kt => S0 t (by
    refine XS.iloadN X0.here hx rfl (hb hby d12_0) rfl ?_
    refine XS.iloadN X0.here hx rfl (hb hby d12_1) rfl ?_
    show Sp p e below s₁ (mkF m 2 #[vR a, vI (0 : Int32), vI (4 : Int32), vU] [(.int (4 : Int32)), (.int (0 : Int32))]) _
    refine XS.icmpNo X0.here hx rfl (hb hby d12_2) rfl (tlt (show (0 : Int32) < (4 : Int32) from (by decide))).2.1 ?_
    refine XS.iloadN X0.here hx rfl (hb hby d12_5) rfl ?_
    show Sp p e below s₁ (mkF m 6 #[vR a, vI (0 : Int32), vI (4 : Int32), vU] [(.int (4 : Int32))]) _
    refine XS.aloadN X0.here hx rfl (hb hby d12_6) rfl rfl ?_
    exact kt)
  clear S0
  obtain ⟨cq96, kq96, q96a, q96b, q96c⟩ := isOf hZ e0 E
  obtain ⟨v96, T96, L96, X96, hQ96, st96⟩ := own_outV (Q := (fun v h' L => v = some (.int (Int32.ofNat (own_tx yn mn dn).length)) ∧ L = [] ∧ h' = h0)) (X0.virtualBack hx (y := (⟨"java/lang/String", "length", "()I"⟩ : MethodName)) (z := (⟨"java/lang/String", "length", "()I"⟩ : MethodName)) hown (mvT hZ (own_h hw 39 rfl)) (mvT hZ (own_h hw 40 rfl)) (notFace_of_selects (args := #[]) (mvT hZ (own_h hw 42 rfl))) (mvT hZ (own_h hw 42 rfl)) (mvT hZ (own_h hw 41 rfl)) (by decide) (StrChars.Road.lenW (W := 1) hZ hln (kI := 4) (own_h hw 7 rfl) E G F V hcd hb0 (S_cs.ext O0.2) hcz (Nat.le_of_ble_eq_true rfl) (by decide) (by decide)) q96a q96c (g := (mkF m 7 #[vR a, vI (0 : Int32), vI (4 : Int32), vU] [(.ref a), (.int (4 : Int32))])) rfl (by rw [hml]; rfl) (Steps.refl _) (argsL := []) (rest := [(.int (4 : Int32))]) (lenOf pd___I rfl) rfl (by show 2 * 0 + _ ≤ _; exact Nat.le_of_eq rfl) (hb hby d12_7) (fun _ _ => ⟨rfl, e0, (by decide : 0 + 0 ≤ _), (by decide : 0 + 0 ≤ _)⟩))
  obtain ⟨rfl, rfl, e96⟩ := hQ96
  have N96 := Fr.app N0 (Fr.nil n0)
  have S97 : Go p e below s₁ (eF_ids0 m a (0 : Int32) (4 : Int32)) T96 (mkF m 10 #[vR a, vI (0 : Int32), vI (4 : Int32), vU] [(.int (Int32.ofNat (own_tx yn mn dn).length)), (.int (4 : Int32))]) := fun t kt => S95 t (st96 t kt)
  clear S95 st96 X0 e0
  have q99 : (Int32.ofNat (own_tx yn mn dn).length) = (10 : Int32) := rfl
  have S98 : Go p e below s₁ (eF_ids0 m a (0 : Int32) (4 : Int32)) T96 (mkF m 10 #[vR a, vI (0 : Int32), vI (4 : Int32), vU] [(.int (10 : Int32)), (.int (4 : Int32))]) := by have h := S97; rw [q99] at h; exact h
  clear S97
  have S100 : Go p e below s₁ (eF_ids0 m a (0 : Int32) (4 : Int32)) T96 (mkF m 24 #[vR a, vI (0 : Int32), vI (4 : Int32), vI (0 : Int32)] [(.int (0 : Int32)), (.ref a)]) := fun t kt => S98 t (by
    refine XS.icmpYes X96.here hx rfl (pc0 := 10) (pc' := 15) rfl (hb hby d12_10) rfl (flt (show ¬ ((10 : Int32) < (4 : Int32)) from (by decide))).2.2.2 (by decide) (by decide) ?_
    refine XS.iloadN X96.here hx rfl (hb hby d12_15) rfl ?_
    show Sp p e below T96 (mkF m 16 #[vR a, vI (0 : Int32), vI (4 : Int32), vU] [(.int (0 : Int32))]) _
    refine XS.istoreN X96.here hx rfl (hb hby d12_16) rfl (l' := #[vR a, vI (0 : Int32), vI (4 : Int32), vI (0 : Int32)]) rfl ?_
    refine XS.iloadN X96.here hx rfl (hb hby d12_17) rfl ?_
    show Sp p e below T96 (mkF m 18 #[vR a, vI (0 : Int32), vI (4 : Int32), vI (0 : Int32)] [(.int (0 : Int32))]) _
    refine XS.iloadN X96.here hx rfl (hb hby d12_18) rfl ?_
    refine XS.icmpNo X96.here hx rfl (hb hby d12_19) rfl (tlt (show (0 : Int32) < (4 : Int32) from (by decide))).2.1 ?_
    show Sp p e below T96 (mkF m 22 #[vR a, vI (0 : Int32), vI (4 : Int32), vI (0 : Int32)] []) _
    refine XS.aloadN X96.here hx rfl (hb hby d12_22) rfl rfl ?_
    refine XS.iloadN X96.here hx rfl (hb hby d12_23) rfl ?_
    show Sp p e below T96 (mkF m 24 #[vR a, vI (0 : Int32), vI (4 : Int32), vI (0 : Int32)] [(.int (0 : Int32)), (.ref a)]) _
    exact kt)
  clear S98
  obtain ⟨cq101, kq101, q101a, q101b, q101c⟩ := isOf hZ e96 E
  obtain ⟨v101, T101, L101, X101, hQ101, st101⟩ := own_outV (Q := (fun v h' L => v = some (.int ((own_tx yn mn dn).getD 0 0)) ∧ L = [] ∧ h' = h0)) (X96.virtualBack hx (y := (⟨"java/lang/String", "charAt", "(I)C"⟩ : MethodName)) (z := (⟨"java/lang/String", "charAt", "(I)C"⟩ : MethodName)) hown (mvT hZ (own_h hw 55 rfl)) (mvT hZ (own_h hw 56 rfl)) (notFace_of_selects (args := #[]) (mvT hZ (own_h hw 58 rfl))) (mvT hZ (own_h hw 58 rfl)) (mvT hZ (own_h hw 57 rfl)) (by decide) (StrChars.Road.chN (W := 0) hZ hch (kI := 4) (own_h hw 7 rfl) E G F V hcd hb0 (S_cs.ext O0.2) hcz (S_fm.ext O0.2) hfm (Nat.le_of_ble_eq_true rfl) (i := 0) (Nat.le_of_ble_eq_true rfl) (j := (0 : Int32)) rfl (by decide) (by decide)) q101a q101c (g := (mkF m 24 #[vR a, vI (0 : Int32), vI (4 : Int32), vI (0 : Int32)] [(.int (0 : Int32)), (.ref a)])) rfl (by rw [hml]; rfl) (Steps.refl _) (argsL := [(.int (0 : Int32))]) (rest := []) (lenOf pd__I_C rfl) rfl (by show 2 * 0 + _ ≤ _; exact Nat.le_of_eq rfl) (hb hby d12_24) (fun _ _ => ⟨rfl, e96, (by decide : 0 + 0 ≤ _), (by decide : 0 + 0 ≤ _)⟩))
  obtain ⟨rfl, rfl, e101⟩ := hQ101
  have N101 := Fr.app N96 (Fr.nil n0)
  have S102 : Go p e below s₁ (eF_ids0 m a (0 : Int32) (4 : Int32)) T101 (mkF m 27 #[vR a, vI (0 : Int32), vI (4 : Int32), vI (0 : Int32)] [(.int ((own_tx yn mn dn).getD 0 0))]) := fun t kt => S100 t (st101 t kt)
  clear S100 st101 X96 e96
  have q104 : ((own_tx yn mn dn).getD 0 0) = (own_c (yn / 1000)) := rfl
  have S103 : Go p e below s₁ (eF_ids0 m a (0 : Int32) (4 : Int32)) T101 (mkF m 27 #[vR a, vI (0 : Int32), vI (4 : Int32), vI (0 : Int32)] [(.int (own_c (yn / 1000)))]) := by have h := S102; rw [q104] at h; exact h
  clear S102
  have hI0 := own_cI (k := yn / 1000) (by omega)
  obtain ⟨v105, T105, L105, X105, hQ105, st105⟩ := own_outS (Jvm.LawKit.callS X101 hx (y := (⟨"com/example/tranchery/tranchery/journal/Fields", "isDigit", "(C)Z"⟩ : MethodName)) hown (mvT hZ (own_h hw 77 rfl)) (mvT hZ (own_h hw 78 rfl)) (mvT hZ (own_h hw 37 rfl)) (mvT hZ (own_h hw 79 rfl)) (by decide) (backOf (W := 0) (rm_isd l Z a0 hw [] (own_c (yn / 1000)) h0 n0 Z0 (by omega) (by omega)) hZ (own_h hw 79 rfl) (own_h hw 37 rfl) (by decide) (by decide)) (g := (mkF m 27 #[vR a, vI (0 : Int32), vI (4 : Int32), vI (0 : Int32)] [(.int (own_c (yn / 1000)))])) rfl (by rw [hml]; rfl) (argsL := [(.int (own_c (yn / 1000)))]) (rest := []) (lenOf pd__C_Z rfl) rfl (by show 2 * 0 + _ ≤ _; exact Nat.le_of_eq rfl) (hb hby d12_27) (fun _ _ => ⟨rfl, e101, (by decide : 0 + 0 ≤ _), (by decide : 0 + 0 ≤ _)⟩))
  obtain ⟨rfl, N105q, e105⟩ := hQ105
  have N105 := Fr.app N101 N105q
  have S106 : Go p e below s₁ (eF_ids0 m a (0 : Int32) (4 : Int32)) T105 (mkF m 30 #[vR a, vI (0 : Int32), vI (4 : Int32), vI (0 : Int32)] [(.int (1 : Int32))]) := fun t kt => S103 t (st105 t kt)
  clear S103 st105 X101 e101
  have S107 : Go p e below s₁ (eF_ids0 m a (0 : Int32) (4 : Int32)) T105 (mkF m 17 #[vR a, vI (0 : Int32), vI (4 : Int32), vI ((0 : Int32) + (1 : Int32))] []) := fun t kt => S106 t (by
    refine XS.ifYes X105.here hx rfl (pc0 := 30) (pc' := 35) rfl (hb hby d12_30) rfl ((if0 _ _).trans (feq (show ¬ ((1 : Int32) = (0 : Int32)) from (by decide))).2) (by decide) (by decide) ?_
    refine XS.iinc X105.here hx rfl (hb hby d12_35) rfl (l' := #[vR a, vI (0 : Int32), vI (4 : Int32), vI ((0 : Int32) + (1 : Int32))]) rfl ?_
    show Sp p e below T105 (mkF m 38 #[vR a, vI (0 : Int32), vI (4 : Int32), vI ((0 : Int32) + (1 : Int32))] []) _
    refine XS.goto X105.here hx rfl (pc0 := 38) (pc' := 17) rfl (hb hby d12_38) (by decide) (by decide) ?_
    exact kt)
  clear S106
  have q109 : ((0 : Int32) + (1 : Int32)) = (1 : Int32) := by decide
  have S108 : Go p e below s₁ (eF_ids0 m a (0 : Int32) (4 : Int32)) T105 (mkF m 17 #[vR a, vI (0 : Int32), vI (4 : Int32), vI (1 : Int32)] []) := by have h := S107; rw [q109] at h; exact h
  clear S107
  have S110 : Go p e below s₁ (eF_ids0 m a (0 : Int32) (4 : Int32)) T105 (mkF m 24 #[vR a, vI (0 : Int32), vI (4 : Int32), vI (1 : Int32)] [(.int (1 : Int32)), (.ref a)]) := fun t kt => S108 t (by
    refine XS.iloadN X105.here hx rfl (hb hby d12_17) rfl ?_
    refine XS.iloadN X105.here hx rfl (hb hby d12_18) rfl ?_
    show Sp p e below T105 (mkF m 19 #[vR a, vI (0 : Int32), vI (4 : Int32), vI (1 : Int32)] [(.int (4 : Int32)), (.int (1 : Int32))]) _
    refine XS.icmpNo X105.here hx rfl (hb hby d12_19) rfl (tlt (show (1 : Int32) < (4 : Int32) from (by decide))).2.1 ?_
    refine XS.aloadN X105.here hx rfl (hb hby d12_22) rfl rfl ?_
    show Sp p e below T105 (mkF m 23 #[vR a, vI (0 : Int32), vI (4 : Int32), vI (1 : Int32)] [(.ref a)]) _
    refine XS.iloadN X105.here hx rfl (hb hby d12_23) rfl ?_
    exact kt)
  clear S108
  obtain ⟨cq111, kq111, q111a, q111b, q111c⟩ := isOf hZ e105 E
  obtain ⟨v111, T111, L111, X111, hQ111, st111⟩ := own_outV (Q := (fun v h' L => v = some (.int ((own_tx yn mn dn).getD 1 0)) ∧ L = [] ∧ h' = h0)) (X105.virtualBack hx (y := (⟨"java/lang/String", "charAt", "(I)C"⟩ : MethodName)) (z := (⟨"java/lang/String", "charAt", "(I)C"⟩ : MethodName)) hown (mvT hZ (own_h hw 55 rfl)) (mvT hZ (own_h hw 56 rfl)) (notFace_of_selects (args := #[]) (mvT hZ (own_h hw 58 rfl))) (mvT hZ (own_h hw 58 rfl)) (mvT hZ (own_h hw 57 rfl)) (by decide) (StrChars.Road.chN (W := 0) hZ hch (kI := 4) (own_h hw 7 rfl) E G F V hcd hb0 (S_cs.ext O0.2) hcz (S_fm.ext O0.2) hfm (Nat.le_of_ble_eq_true rfl) (i := 1) (Nat.le_of_ble_eq_true rfl) (j := (1 : Int32)) rfl (by decide) (by decide)) q111a q111c (g := (mkF m 24 #[vR a, vI (0 : Int32), vI (4 : Int32), vI (1 : Int32)] [(.int (1 : Int32)), (.ref a)])) rfl (by rw [hml]; rfl) (Steps.refl _) (argsL := [(.int (1 : Int32))]) (rest := []) (lenOf pd__I_C rfl) rfl (by show 2 * 0 + _ ≤ _; exact Nat.le_of_eq rfl) (hb hby d12_24) (fun _ _ => ⟨rfl, e105, (by decide : 0 + 0 ≤ _), (by decide : 0 + 0 ≤ _)⟩))
  obtain ⟨rfl, rfl, e111⟩ := hQ111
  have N111 := Fr.app N105 (Fr.nil n0)
  have S112 : Go p e below s₁ (eF_ids0 m a (0 : Int32) (4 : Int32)) T111 (mkF m 27 #[vR a, vI (0 : Int32), vI (4 : Int32), vI (1 : Int32)] [(.int ((own_tx yn mn dn).getD 1 0))]) := fun t kt => S110 t (st111 t kt)
  clear S110 st111 X105 e105
  have q114 : ((own_tx yn mn dn).getD 1 0) = (own_c (yn / 100 % 10)) := rfl
  have S113 : Go p e below s₁ (eF_ids0 m a (0 : Int32) (4 : Int32)) T111 (mkF m 27 #[vR a, vI (0 : Int32), vI (4 : Int32), vI (1 : Int32)] [(.int (own_c (yn / 100 % 10)))]) := by have h := S112; rw [q114] at h; exact h
  clear S112
  have hI1 := own_cI (k := yn / 100 % 10) (by omega)
  obtain ⟨v115, T115, L115, X115, hQ115, st115⟩ := own_outS (Jvm.LawKit.callS X111 hx (y := (⟨"com/example/tranchery/tranchery/journal/Fields", "isDigit", "(C)Z"⟩ : MethodName)) hown (mvT hZ (own_h hw 77 rfl)) (mvT hZ (own_h hw 78 rfl)) (mvT hZ (own_h hw 37 rfl)) (mvT hZ (own_h hw 79 rfl)) (by decide) (backOf (W := 0) (rm_isd l Z a0 hw [] (own_c (yn / 100 % 10)) h0 n0 Z0 (by omega) (by omega)) hZ (own_h hw 79 rfl) (own_h hw 37 rfl) (by decide) (by decide)) (g := (mkF m 27 #[vR a, vI (0 : Int32), vI (4 : Int32), vI (1 : Int32)] [(.int (own_c (yn / 100 % 10)))])) rfl (by rw [hml]; rfl) (argsL := [(.int (own_c (yn / 100 % 10)))]) (rest := []) (lenOf pd__C_Z rfl) rfl (by show 2 * 0 + _ ≤ _; exact Nat.le_of_eq rfl) (hb hby d12_27) (fun _ _ => ⟨rfl, e111, (by decide : 0 + 0 ≤ _), (by decide : 0 + 0 ≤ _)⟩))
  obtain ⟨rfl, N115q, e115⟩ := hQ115
  have N115 := Fr.app N111 N115q
  have S116 : Go p e below s₁ (eF_ids0 m a (0 : Int32) (4 : Int32)) T115 (mkF m 30 #[vR a, vI (0 : Int32), vI (4 : Int32), vI (1 : Int32)] [(.int (1 : Int32))]) := fun t kt => S113 t (st115 t kt)
  clear S113 st115 X111 e111
  have S117 : Go p e below s₁ (eF_ids0 m a (0 : Int32) (4 : Int32)) T115 (mkF m 17 #[vR a, vI (0 : Int32), vI (4 : Int32), vI ((1 : Int32) + (1 : Int32))] []) := fun t kt => S116 t (by
    refine XS.ifYes X115.here hx rfl (pc0 := 30) (pc' := 35) rfl (hb hby d12_30) rfl ((if0 _ _).trans (feq (show ¬ ((1 : Int32) = (0 : Int32)) from (by decide))).2) (by decide) (by decide) ?_
    refine XS.iinc X115.here hx rfl (hb hby d12_35) rfl (l' := #[vR a, vI (0 : Int32), vI (4 : Int32), vI ((1 : Int32) + (1 : Int32))]) rfl ?_
    show Sp p e below T115 (mkF m 38 #[vR a, vI (0 : Int32), vI (4 : Int32), vI ((1 : Int32) + (1 : Int32))] []) _
    refine XS.goto X115.here hx rfl (pc0 := 38) (pc' := 17) rfl (hb hby d12_38) (by decide) (by decide) ?_
    exact kt)
  clear S116
  have q119 : ((1 : Int32) + (1 : Int32)) = (2 : Int32) := by decide
  have S118 : Go p e below s₁ (eF_ids0 m a (0 : Int32) (4 : Int32)) T115 (mkF m 17 #[vR a, vI (0 : Int32), vI (4 : Int32), vI (2 : Int32)] []) := by have h := S117; rw [q119] at h; exact h
  clear S117
  have S120 : Go p e below s₁ (eF_ids0 m a (0 : Int32) (4 : Int32)) T115 (mkF m 24 #[vR a, vI (0 : Int32), vI (4 : Int32), vI (2 : Int32)] [(.int (2 : Int32)), (.ref a)]) := fun t kt => S118 t (by
    refine XS.iloadN X115.here hx rfl (hb hby d12_17) rfl ?_
    refine XS.iloadN X115.here hx rfl (hb hby d12_18) rfl ?_
    show Sp p e below T115 (mkF m 19 #[vR a, vI (0 : Int32), vI (4 : Int32), vI (2 : Int32)] [(.int (4 : Int32)), (.int (2 : Int32))]) _
    refine XS.icmpNo X115.here hx rfl (hb hby d12_19) rfl (tlt (show (2 : Int32) < (4 : Int32) from (by decide))).2.1 ?_
    refine XS.aloadN X115.here hx rfl (hb hby d12_22) rfl rfl ?_
    show Sp p e below T115 (mkF m 23 #[vR a, vI (0 : Int32), vI (4 : Int32), vI (2 : Int32)] [(.ref a)]) _
    refine XS.iloadN X115.here hx rfl (hb hby d12_23) rfl ?_
    exact kt)
  clear S118
  obtain ⟨cq121, kq121, q121a, q121b, q121c⟩ := isOf hZ e115 E
  obtain ⟨v121, T121, L121, X121, hQ121, st121⟩ := own_outV (Q := (fun v h' L => v = some (.int ((own_tx yn mn dn).getD 2 0)) ∧ L = [] ∧ h' = h0)) (X115.virtualBack hx (y := (⟨"java/lang/String", "charAt", "(I)C"⟩ : MethodName)) (z := (⟨"java/lang/String", "charAt", "(I)C"⟩ : MethodName)) hown (mvT hZ (own_h hw 55 rfl)) (mvT hZ (own_h hw 56 rfl)) (notFace_of_selects (args := #[]) (mvT hZ (own_h hw 58 rfl))) (mvT hZ (own_h hw 58 rfl)) (mvT hZ (own_h hw 57 rfl)) (by decide) (StrChars.Road.chN (W := 0) hZ hch (kI := 4) (own_h hw 7 rfl) E G F V hcd hb0 (S_cs.ext O0.2) hcz (S_fm.ext O0.2) hfm (Nat.le_of_ble_eq_true rfl) (i := 2) (Nat.le_of_ble_eq_true rfl) (j := (2 : Int32)) rfl (by decide) (by decide)) q121a q121c (g := (mkF m 24 #[vR a, vI (0 : Int32), vI (4 : Int32), vI (2 : Int32)] [(.int (2 : Int32)), (.ref a)])) rfl (by rw [hml]; rfl) (Steps.refl _) (argsL := [(.int (2 : Int32))]) (rest := []) (lenOf pd__I_C rfl) rfl (by show 2 * 0 + _ ≤ _; exact Nat.le_of_eq rfl) (hb hby d12_24) (fun _ _ => ⟨rfl, e115, (by decide : 0 + 0 ≤ _), (by decide : 0 + 0 ≤ _)⟩))
  obtain ⟨rfl, rfl, e121⟩ := hQ121
  have N121 := Fr.app N115 (Fr.nil n0)
  have S122 : Go p e below s₁ (eF_ids0 m a (0 : Int32) (4 : Int32)) T121 (mkF m 27 #[vR a, vI (0 : Int32), vI (4 : Int32), vI (2 : Int32)] [(.int ((own_tx yn mn dn).getD 2 0))]) := fun t kt => S120 t (st121 t kt)
  clear S120 st121 X115 e115
  have q124 : ((own_tx yn mn dn).getD 2 0) = (own_c (yn / 10 % 10)) := rfl
  have S123 : Go p e below s₁ (eF_ids0 m a (0 : Int32) (4 : Int32)) T121 (mkF m 27 #[vR a, vI (0 : Int32), vI (4 : Int32), vI (2 : Int32)] [(.int (own_c (yn / 10 % 10)))]) := by have h := S122; rw [q124] at h; exact h
  clear S122
  have hI2 := own_cI (k := yn / 10 % 10) (by omega)
  obtain ⟨v125, T125, L125, X125, hQ125, st125⟩ := own_outS (Jvm.LawKit.callS X121 hx (y := (⟨"com/example/tranchery/tranchery/journal/Fields", "isDigit", "(C)Z"⟩ : MethodName)) hown (mvT hZ (own_h hw 77 rfl)) (mvT hZ (own_h hw 78 rfl)) (mvT hZ (own_h hw 37 rfl)) (mvT hZ (own_h hw 79 rfl)) (by decide) (backOf (W := 0) (rm_isd l Z a0 hw [] (own_c (yn / 10 % 10)) h0 n0 Z0 (by omega) (by omega)) hZ (own_h hw 79 rfl) (own_h hw 37 rfl) (by decide) (by decide)) (g := (mkF m 27 #[vR a, vI (0 : Int32), vI (4 : Int32), vI (2 : Int32)] [(.int (own_c (yn / 10 % 10)))])) rfl (by rw [hml]; rfl) (argsL := [(.int (own_c (yn / 10 % 10)))]) (rest := []) (lenOf pd__C_Z rfl) rfl (by show 2 * 0 + _ ≤ _; exact Nat.le_of_eq rfl) (hb hby d12_27) (fun _ _ => ⟨rfl, e121, (by decide : 0 + 0 ≤ _), (by decide : 0 + 0 ≤ _)⟩))
  obtain ⟨rfl, N125q, e125⟩ := hQ125
  have N125 := Fr.app N121 N125q
  have S126 : Go p e below s₁ (eF_ids0 m a (0 : Int32) (4 : Int32)) T125 (mkF m 30 #[vR a, vI (0 : Int32), vI (4 : Int32), vI (2 : Int32)] [(.int (1 : Int32))]) := fun t kt => S123 t (st125 t kt)
  clear S123 st125 X121 e121
  have S127 : Go p e below s₁ (eF_ids0 m a (0 : Int32) (4 : Int32)) T125 (mkF m 17 #[vR a, vI (0 : Int32), vI (4 : Int32), vI ((2 : Int32) + (1 : Int32))] []) := fun t kt => S126 t (by
    refine XS.ifYes X125.here hx rfl (pc0 := 30) (pc' := 35) rfl (hb hby d12_30) rfl ((if0 _ _).trans (feq (show ¬ ((1 : Int32) = (0 : Int32)) from (by decide))).2) (by decide) (by decide) ?_
    refine XS.iinc X125.here hx rfl (hb hby d12_35) rfl (l' := #[vR a, vI (0 : Int32), vI (4 : Int32), vI ((2 : Int32) + (1 : Int32))]) rfl ?_
    show Sp p e below T125 (mkF m 38 #[vR a, vI (0 : Int32), vI (4 : Int32), vI ((2 : Int32) + (1 : Int32))] []) _
    refine XS.goto X125.here hx rfl (pc0 := 38) (pc' := 17) rfl (hb hby d12_38) (by decide) (by decide) ?_
    exact kt)
  clear S126
  have q129 : ((2 : Int32) + (1 : Int32)) = (3 : Int32) := by decide
  have S128 : Go p e below s₁ (eF_ids0 m a (0 : Int32) (4 : Int32)) T125 (mkF m 17 #[vR a, vI (0 : Int32), vI (4 : Int32), vI (3 : Int32)] []) := by have h := S127; rw [q129] at h; exact h
  clear S127
  have S130 : Go p e below s₁ (eF_ids0 m a (0 : Int32) (4 : Int32)) T125 (mkF m 24 #[vR a, vI (0 : Int32), vI (4 : Int32), vI (3 : Int32)] [(.int (3 : Int32)), (.ref a)]) := fun t kt => S128 t (by
    refine XS.iloadN X125.here hx rfl (hb hby d12_17) rfl ?_
    refine XS.iloadN X125.here hx rfl (hb hby d12_18) rfl ?_
    show Sp p e below T125 (mkF m 19 #[vR a, vI (0 : Int32), vI (4 : Int32), vI (3 : Int32)] [(.int (4 : Int32)), (.int (3 : Int32))]) _
    refine XS.icmpNo X125.here hx rfl (hb hby d12_19) rfl (tlt (show (3 : Int32) < (4 : Int32) from (by decide))).2.1 ?_
    refine XS.aloadN X125.here hx rfl (hb hby d12_22) rfl rfl ?_
    show Sp p e below T125 (mkF m 23 #[vR a, vI (0 : Int32), vI (4 : Int32), vI (3 : Int32)] [(.ref a)]) _
    refine XS.iloadN X125.here hx rfl (hb hby d12_23) rfl ?_
    exact kt)
  clear S128
  obtain ⟨cq131, kq131, q131a, q131b, q131c⟩ := isOf hZ e125 E
  obtain ⟨v131, T131, L131, X131, hQ131, st131⟩ := own_outV (Q := (fun v h' L => v = some (.int ((own_tx yn mn dn).getD 3 0)) ∧ L = [] ∧ h' = h0)) (X125.virtualBack hx (y := (⟨"java/lang/String", "charAt", "(I)C"⟩ : MethodName)) (z := (⟨"java/lang/String", "charAt", "(I)C"⟩ : MethodName)) hown (mvT hZ (own_h hw 55 rfl)) (mvT hZ (own_h hw 56 rfl)) (notFace_of_selects (args := #[]) (mvT hZ (own_h hw 58 rfl))) (mvT hZ (own_h hw 58 rfl)) (mvT hZ (own_h hw 57 rfl)) (by decide) (StrChars.Road.chN (W := 0) hZ hch (kI := 4) (own_h hw 7 rfl) E G F V hcd hb0 (S_cs.ext O0.2) hcz (S_fm.ext O0.2) hfm (Nat.le_of_ble_eq_true rfl) (i := 3) (Nat.le_of_ble_eq_true rfl) (j := (3 : Int32)) rfl (by decide) (by decide)) q131a q131c (g := (mkF m 24 #[vR a, vI (0 : Int32), vI (4 : Int32), vI (3 : Int32)] [(.int (3 : Int32)), (.ref a)])) rfl (by rw [hml]; rfl) (Steps.refl _) (argsL := [(.int (3 : Int32))]) (rest := []) (lenOf pd__I_C rfl) rfl (by show 2 * 0 + _ ≤ _; exact Nat.le_of_eq rfl) (hb hby d12_24) (fun _ _ => ⟨rfl, e125, (by decide : 0 + 0 ≤ _), (by decide : 0 + 0 ≤ _)⟩))
  obtain ⟨rfl, rfl, e131⟩ := hQ131
  have N131 := Fr.app N125 (Fr.nil n0)
  have S132 : Go p e below s₁ (eF_ids0 m a (0 : Int32) (4 : Int32)) T131 (mkF m 27 #[vR a, vI (0 : Int32), vI (4 : Int32), vI (3 : Int32)] [(.int ((own_tx yn mn dn).getD 3 0))]) := fun t kt => S130 t (st131 t kt)
  clear S130 st131 X125 e125
  have q134 : ((own_tx yn mn dn).getD 3 0) = (own_c (yn % 10)) := rfl
  have S133 : Go p e below s₁ (eF_ids0 m a (0 : Int32) (4 : Int32)) T131 (mkF m 27 #[vR a, vI (0 : Int32), vI (4 : Int32), vI (3 : Int32)] [(.int (own_c (yn % 10)))]) := by have h := S132; rw [q134] at h; exact h
  clear S132
  have hI3 := own_cI (k := yn % 10) (by omega)
  obtain ⟨v135, T135, L135, X135, hQ135, st135⟩ := own_outS (Jvm.LawKit.callS X131 hx (y := (⟨"com/example/tranchery/tranchery/journal/Fields", "isDigit", "(C)Z"⟩ : MethodName)) hown (mvT hZ (own_h hw 77 rfl)) (mvT hZ (own_h hw 78 rfl)) (mvT hZ (own_h hw 37 rfl)) (mvT hZ (own_h hw 79 rfl)) (by decide) (backOf (W := 0) (rm_isd l Z a0 hw [] (own_c (yn % 10)) h0 n0 Z0 (by omega) (by omega)) hZ (own_h hw 79 rfl) (own_h hw 37 rfl) (by decide) (by decide)) (g := (mkF m 27 #[vR a, vI (0 : Int32), vI (4 : Int32), vI (3 : Int32)] [(.int (own_c (yn % 10)))])) rfl (by rw [hml]; rfl) (argsL := [(.int (own_c (yn % 10)))]) (rest := []) (lenOf pd__C_Z rfl) rfl (by show 2 * 0 + _ ≤ _; exact Nat.le_of_eq rfl) (hb hby d12_27) (fun _ _ => ⟨rfl, e131, (by decide : 0 + 0 ≤ _), (by decide : 0 + 0 ≤ _)⟩))
  obtain ⟨rfl, N135q, e135⟩ := hQ135
  have N135 := Fr.app N131 N135q
  have S136 : Go p e below s₁ (eF_ids0 m a (0 : Int32) (4 : Int32)) T135 (mkF m 30 #[vR a, vI (0 : Int32), vI (4 : Int32), vI (3 : Int32)] [(.int (1 : Int32))]) := fun t kt => S133 t (st135 t kt)
  clear S133 st135 X131 e131
  have S137 : Go p e below s₁ (eF_ids0 m a (0 : Int32) (4 : Int32)) T135 (mkF m 17 #[vR a, vI (0 : Int32), vI (4 : Int32), vI ((3 : Int32) + (1 : Int32))] []) := fun t kt => S136 t (by
    refine XS.ifYes X135.here hx rfl (pc0 := 30) (pc' := 35) rfl (hb hby d12_30) rfl ((if0 _ _).trans (feq (show ¬ ((1 : Int32) = (0 : Int32)) from (by decide))).2) (by decide) (by decide) ?_
    refine XS.iinc X135.here hx rfl (hb hby d12_35) rfl (l' := #[vR a, vI (0 : Int32), vI (4 : Int32), vI ((3 : Int32) + (1 : Int32))]) rfl ?_
    show Sp p e below T135 (mkF m 38 #[vR a, vI (0 : Int32), vI (4 : Int32), vI ((3 : Int32) + (1 : Int32))] []) _
    refine XS.goto X135.here hx rfl (pc0 := 38) (pc' := 17) rfl (hb hby d12_38) (by decide) (by decide) ?_
    exact kt)
  clear S136
  have q139 : ((3 : Int32) + (1 : Int32)) = (4 : Int32) := by decide
  have S138 : Go p e below s₁ (eF_ids0 m a (0 : Int32) (4 : Int32)) T135 (mkF m 17 #[vR a, vI (0 : Int32), vI (4 : Int32), vI (4 : Int32)] []) := by have h := S137; rw [q139] at h; exact h
  clear S137
  have S140 : Go p e below s₁ (eF_ids0 m a (0 : Int32) (4 : Int32)) T135 (mkF m 42 #[vR a, vI (0 : Int32), vI (4 : Int32), vI (4 : Int32)] [(.int (1 : Int32))]) := fun t kt => S138 t (by
    refine XS.iloadN X135.here hx rfl (hb hby d12_17) rfl ?_
    refine XS.iloadN X135.here hx rfl (hb hby d12_18) rfl ?_
    show Sp p e below T135 (mkF m 19 #[vR a, vI (0 : Int32), vI (4 : Int32), vI (4 : Int32)] [(.int (4 : Int32)), (.int (4 : Int32))]) _
    refine XS.icmpYes X135.here hx rfl (pc0 := 19) (pc' := 41) rfl (hb hby d12_19) rfl (flt (show ¬ ((4 : Int32) < (4 : Int32)) from (by decide))).2.1 (by decide) (by decide) ?_
    refine XS.iconst X135.here hx rfl (hb hby d12_41) ?_
    show Sp p e below T135 (mkF m 42 #[vR a, vI (0 : Int32), vI (4 : Int32), vI (4 : Int32)] [(.int (1 : Int32))]) _
    exact kt)
  clear S138
  obtain ⟨fs, hr, hrun, hended, hW, hsame⟩ := X135.leave (v := some (.int (1 : Int32))) (fun h => by first | rfl | (rw [Bd.returns] at h; cases h))
  refine ⟨_, _, S140 _ ?_, hrun, hended, _, _, rfl, ?_, ⟨_, rfl⟩, hW, hsame.mono (by decide) (by decide)⟩
  · exact retN X135 hx (t := .boolean) Bd.returns (by simp) (hb hby d12_42) hr
  · show Q_ids0 Z  h0 n0 _ T135.heap _
    rw [e135]
    exact ⟨rfl, N135, rfl⟩
abbrev eF_ids5 (m : MethodId) (x0 : Addr) (x1 : Int32) (x2 : Int32) : JFrame := entryFrame m #[(.ref x0), (.int x1), (.int x2)] 4
theorem ef_ids5 (m : MethodId) (x0 : Addr) (x1 : Int32) (x2 : Int32) : entryFrame m #[(.ref x0), (.int x1), (.int x2)] 4 = mkF m 0 #[.val (.ref x0), .val (.int x1), .val (.int x2), .unset] [] := by first | (simp [entryFrame, mkF, argsToLocals, Value.category]; done) | rfl
theorem pn_ids5 : plainName "com/example/tranchery/tranchery/journal/Fields" = true := by first | (simp [plainName, overriddenIn]; done) | decide +kernel
def Q_ids5 (Z : State)  (h0 : Heap) (n0 : Nat) (v : Option Value) (h : Heap) (L : List Loc) : Prop := v = some (.int (1 : Int32)) ∧ Fr n0 L ∧ h = h0
set_option maxRecDepth 65536 in
set_option maxHeartbeats 40000000 in
theorem rm_ids5 (l : Launch) (Z : State) (a0 : Array Value) (hw : ∀ d ∈ tables_1, d.before a0 Z = true) (ws : List Jvm.Cond) (a : Addr) (b : Addr) (k : ClassId) (yn : Nat) (mn : Nat) (dn : Nat) (h0 : Heap) (n0 : Nat) (Z0 : n0 ≤ h0.size) (SS : own_St Z) (O0 : Old Z n0 h0) (E : Exa Z h0 a "java/lang/String") (F : Fld Z h0 a "java/lang/String" "coder" "B" (.int (0 : Int32))) (G : Fld Z h0 a "java/lang/String" "value" "[B" (.ref b)) (V : Arv Z h0 b k .byte (10 : Int32) (own_vs (own_tx yn mn dn)) (.int (0 : Int32))) (hy : yn ≤ 9999) (hm : 1 ≤ mn) (hm2 : mn ≤ 12) (hd : 1 ≤ dn) (hd2 : dn ≤ 28) :
    MetFree l (⟨"com/example/tranchery/tranchery/journal/Fields", "isDigits", "(Ljava/lang/String;II)Z"⟩ : MethodName) (head1 (Jvm.Cond.code (⟨"com/example/tranchery/tranchery/journal/Fields", "isDigits", "(Ljava/lang/String;II)Z"⟩ : MethodName) prog_34_method_19_code 4 (some .boolean) :: ws) ({ frames := 4, cells := 0, slots := 0, locals := 53 } : Room)) (fun aa U => aa = #[(.ref a), (.int (5 : Int32)), (.int (7 : Int32))] ∧ Z.Warmed39 U.vm ∧ U.heap = h0) (fun _ _ _ _ _ => True) (fun _ U o U' => ∃ v L, o = .returned v ∧ Q_ids5 Z  h0 n0 v U'.heap L ∧ FrameEnd U o U' L ({ frames := 4, cells := 0, slots := 0, locals := 53 } : Room).cells ({ frames := 4, cells := 0, slots := 0, locals := 53 } : Room).slots) := by
  refine MetFree.of_bodySF (plainFor_of_name pn_ids5) hisR ?_
  intro p e s m args below meth c s₁ Bd hml0 hP hK
  obtain ⟨rfl, hZ, hh⟩ := hP
  have hx := Bd.exec
  have hby := Bd.bytes
  have hml : c.maxLocals = 4 := hml0
  have hown : s.vm.findClass "com/example/tranchery/tranchery/journal/Fields" = some m.cls := findClass_of_methodNamed Bd.named
  have hnm := (name_of_methodNamed Bd.named Bd.method).1
  have X0 : Stand p l e ({ frames := 4, cells := 0, slots := 0, locals := 53 } : Room) s m #[(.ref a), (.int (5 : Int32)), (.int (7 : Int32))] below meth c s₁ [] 0 0 := Stand.of_body Bd
  have e0 : s₁.heap = h0 := by rw [← hh, Bd.state]; rfl
  have N0 := Fr.nil n0
  have S0 : Go p e below s₁ (eF_ids5 m a (5 : Int32) (7 : Int32)) s₁ (mkF m 0 #[vR a, vI (5 : Int32), vI (7 : Int32), vU] []) := fun t k => castTop (ef_ids5 m a (5 : Int32) (7 : Int32)) k
  obtain ⟨⟨cz, S_cs, hcz⟩, ⟨fm, S_fm, hfm⟩, ⟨yr, yrr, S_yr, E_yr, F_yr, E_yrr, L_yr, H_yr⟩, ⟨mr, mrr, S_mr, E_mr, F_mr, E_mrr, L_mr, H_mr⟩, ⟨dr, drr, S_dr, E_dr, F_dr, E_drr, L_dr, H_dr⟩, ⟨iso, S_is, E_is⟩, ⟨em, el, kel, S_em, E_em, F_em, V_em⟩, ⟨nr, S_nr⟩, ⟨nk, S_nk⟩⟩ := id SS
  have hln : ∀ d ∈ StrChars.Road.wordsLen, d.before a0 Z = true := fun d hd => hw d (own_wLen d hd)
  have hch : ∀ d ∈ StrChars.Road.wordsChN, d.before a0 Z = true := fun d hd => hw d (own_wChN d hd)
  have hcd := own_coda (yn := yn) (mn := mn) (dn := dn) hy hm2 hd2
  have hb0 := own_hb (yn := yn) (mn := mn) (dn := dn) hy hm2 hd2
  have S141 : Go p e below s₁ (eF_ids5 m a (5 : Int32) (7 : Int32)) s₁ (mkF m 7 #[vR a, vI (5 : Int32), vI (7 : Int32), vU] [(.ref a), (.int (7 : Int32))]) := fun t kt => S0 t (by
    refine XS.iloadN X0.here hx rfl (hb hby d12_0) rfl ?_
    refine XS.iloadN X0.here hx rfl (hb hby d12_1) rfl ?_
    show Sp p e below s₁ (mkF m 2 #[vR a, vI (5 : Int32), vI (7 : Int32), vU] [(.int (7 : Int32)), (.int (5 : Int32))]) _
    refine XS.icmpNo X0.here hx rfl (hb hby d12_2) rfl (tlt (show (5 : Int32) < (7 : Int32) from (by decide))).2.1 ?_
    refine XS.iloadN X0.here hx rfl (hb hby d12_5) rfl ?_
    show Sp p e below s₁ (mkF m 6 #[vR a, vI (5 : Int32), vI (7 : Int32), vU] [(.int (7 : Int32))]) _
    refine XS.aloadN X0.here hx rfl (hb hby d12_6) rfl rfl ?_
    exact kt)
  clear S0
  obtain ⟨cq142, kq142, q142a, q142b, q142c⟩ := isOf hZ e0 E
  obtain ⟨v142, T142, L142, X142, hQ142, st142⟩ := own_outV (Q := (fun v h' L => v = some (.int (Int32.ofNat (own_tx yn mn dn).length)) ∧ L = [] ∧ h' = h0)) (X0.virtualBack hx (y := (⟨"java/lang/String", "length", "()I"⟩ : MethodName)) (z := (⟨"java/lang/String", "length", "()I"⟩ : MethodName)) hown (mvT hZ (own_h hw 39 rfl)) (mvT hZ (own_h hw 40 rfl)) (notFace_of_selects (args := #[]) (mvT hZ (own_h hw 42 rfl))) (mvT hZ (own_h hw 42 rfl)) (mvT hZ (own_h hw 41 rfl)) (by decide) (StrChars.Road.lenW (W := 1) hZ hln (kI := 4) (own_h hw 7 rfl) E G F V hcd hb0 (S_cs.ext O0.2) hcz (Nat.le_of_ble_eq_true rfl) (by decide) (by decide)) q142a q142c (g := (mkF m 7 #[vR a, vI (5 : Int32), vI (7 : Int32), vU] [(.ref a), (.int (7 : Int32))])) rfl (by rw [hml]; rfl) (Steps.refl _) (argsL := []) (rest := [(.int (7 : Int32))]) (lenOf pd___I rfl) rfl (by show 2 * 0 + _ ≤ _; exact Nat.le_of_eq rfl) (hb hby d12_7) (fun _ _ => ⟨rfl, e0, (by decide : 0 + 0 ≤ _), (by decide : 0 + 0 ≤ _)⟩))
  obtain ⟨rfl, rfl, e142⟩ := hQ142
  have N142 := Fr.app N0 (Fr.nil n0)
  have S143 : Go p e below s₁ (eF_ids5 m a (5 : Int32) (7 : Int32)) T142 (mkF m 10 #[vR a, vI (5 : Int32), vI (7 : Int32), vU] [(.int (Int32.ofNat (own_tx yn mn dn).length)), (.int (7 : Int32))]) := fun t kt => S141 t (st142 t kt)
  clear S141 st142 X0 e0
  have q145 : (Int32.ofNat (own_tx yn mn dn).length) = (10 : Int32) := rfl
  have S144 : Go p e below s₁ (eF_ids5 m a (5 : Int32) (7 : Int32)) T142 (mkF m 10 #[vR a, vI (5 : Int32), vI (7 : Int32), vU] [(.int (10 : Int32)), (.int (7 : Int32))]) := by have h := S143; rw [q145] at h; exact h
  clear S143
  have S146 : Go p e below s₁ (eF_ids5 m a (5 : Int32) (7 : Int32)) T142 (mkF m 24 #[vR a, vI (5 : Int32), vI (7 : Int32), vI (5 : Int32)] [(.int (5 : Int32)), (.ref a)]) := fun t kt => S144 t (by
    refine XS.icmpYes X142.here hx rfl (pc0 := 10) (pc' := 15) rfl (hb hby d12_10) rfl (flt (show ¬ ((10 : Int32) < (7 : Int32)) from (by decide))).2.2.2 (by decide) (by decide) ?_
    refine XS.iloadN X142.here hx rfl (hb hby d12_15) rfl ?_
    show Sp p e below T142 (mkF m 16 #[vR a, vI (5 : Int32), vI (7 : Int32), vU] [(.int (5 : Int32))]) _
    refine XS.istoreN X142.here hx rfl (hb hby d12_16) rfl (l' := #[vR a, vI (5 : Int32), vI (7 : Int32), vI (5 : Int32)]) rfl ?_
    refine XS.iloadN X142.here hx rfl (hb hby d12_17) rfl ?_
    show Sp p e below T142 (mkF m 18 #[vR a, vI (5 : Int32), vI (7 : Int32), vI (5 : Int32)] [(.int (5 : Int32))]) _
    refine XS.iloadN X142.here hx rfl (hb hby d12_18) rfl ?_
    refine XS.icmpNo X142.here hx rfl (hb hby d12_19) rfl (tlt (show (5 : Int32) < (7 : Int32) from (by decide))).2.1 ?_
    show Sp p e below T142 (mkF m 22 #[vR a, vI (5 : Int32), vI (7 : Int32), vI (5 : Int32)] []) _
    refine XS.aloadN X142.here hx rfl (hb hby d12_22) rfl rfl ?_
    refine XS.iloadN X142.here hx rfl (hb hby d12_23) rfl ?_
    show Sp p e below T142 (mkF m 24 #[vR a, vI (5 : Int32), vI (7 : Int32), vI (5 : Int32)] [(.int (5 : Int32)), (.ref a)]) _
    exact kt)
  clear S144
  obtain ⟨cq147, kq147, q147a, q147b, q147c⟩ := isOf hZ e142 E
  obtain ⟨v147, T147, L147, X147, hQ147, st147⟩ := own_outV (Q := (fun v h' L => v = some (.int ((own_tx yn mn dn).getD 5 0)) ∧ L = [] ∧ h' = h0)) (X142.virtualBack hx (y := (⟨"java/lang/String", "charAt", "(I)C"⟩ : MethodName)) (z := (⟨"java/lang/String", "charAt", "(I)C"⟩ : MethodName)) hown (mvT hZ (own_h hw 55 rfl)) (mvT hZ (own_h hw 56 rfl)) (notFace_of_selects (args := #[]) (mvT hZ (own_h hw 58 rfl))) (mvT hZ (own_h hw 58 rfl)) (mvT hZ (own_h hw 57 rfl)) (by decide) (StrChars.Road.chN (W := 0) hZ hch (kI := 4) (own_h hw 7 rfl) E G F V hcd hb0 (S_cs.ext O0.2) hcz (S_fm.ext O0.2) hfm (Nat.le_of_ble_eq_true rfl) (i := 5) (Nat.le_of_ble_eq_true rfl) (j := (5 : Int32)) rfl (by decide) (by decide)) q147a q147c (g := (mkF m 24 #[vR a, vI (5 : Int32), vI (7 : Int32), vI (5 : Int32)] [(.int (5 : Int32)), (.ref a)])) rfl (by rw [hml]; rfl) (Steps.refl _) (argsL := [(.int (5 : Int32))]) (rest := []) (lenOf pd__I_C rfl) rfl (by show 2 * 0 + _ ≤ _; exact Nat.le_of_eq rfl) (hb hby d12_24) (fun _ _ => ⟨rfl, e142, (by decide : 0 + 0 ≤ _), (by decide : 0 + 0 ≤ _)⟩))
  obtain ⟨rfl, rfl, e147⟩ := hQ147
  have N147 := Fr.app N142 (Fr.nil n0)
  have S148 : Go p e below s₁ (eF_ids5 m a (5 : Int32) (7 : Int32)) T147 (mkF m 27 #[vR a, vI (5 : Int32), vI (7 : Int32), vI (5 : Int32)] [(.int ((own_tx yn mn dn).getD 5 0))]) := fun t kt => S146 t (st147 t kt)
  clear S146 st147 X142 e142
  have q150 : ((own_tx yn mn dn).getD 5 0) = (own_c (mn / 10)) := rfl
  have S149 : Go p e below s₁ (eF_ids5 m a (5 : Int32) (7 : Int32)) T147 (mkF m 27 #[vR a, vI (5 : Int32), vI (7 : Int32), vI (5 : Int32)] [(.int (own_c (mn / 10)))]) := by have h := S148; rw [q150] at h; exact h
  clear S148
  have hI5 := own_cI (k := mn / 10) (by omega)
  obtain ⟨v151, T151, L151, X151, hQ151, st151⟩ := own_outS (Jvm.LawKit.callS X147 hx (y := (⟨"com/example/tranchery/tranchery/journal/Fields", "isDigit", "(C)Z"⟩ : MethodName)) hown (mvT hZ (own_h hw 77 rfl)) (mvT hZ (own_h hw 78 rfl)) (mvT hZ (own_h hw 37 rfl)) (mvT hZ (own_h hw 79 rfl)) (by decide) (backOf (W := 0) (rm_isd l Z a0 hw [] (own_c (mn / 10)) h0 n0 Z0 (by omega) (by omega)) hZ (own_h hw 79 rfl) (own_h hw 37 rfl) (by decide) (by decide)) (g := (mkF m 27 #[vR a, vI (5 : Int32), vI (7 : Int32), vI (5 : Int32)] [(.int (own_c (mn / 10)))])) rfl (by rw [hml]; rfl) (argsL := [(.int (own_c (mn / 10)))]) (rest := []) (lenOf pd__C_Z rfl) rfl (by show 2 * 0 + _ ≤ _; exact Nat.le_of_eq rfl) (hb hby d12_27) (fun _ _ => ⟨rfl, e147, (by decide : 0 + 0 ≤ _), (by decide : 0 + 0 ≤ _)⟩))
  obtain ⟨rfl, N151q, e151⟩ := hQ151
  have N151 := Fr.app N147 N151q
  have S152 : Go p e below s₁ (eF_ids5 m a (5 : Int32) (7 : Int32)) T151 (mkF m 30 #[vR a, vI (5 : Int32), vI (7 : Int32), vI (5 : Int32)] [(.int (1 : Int32))]) := fun t kt => S149 t (st151 t kt)
  clear S149 st151 X147 e147
  have S153 : Go p e below s₁ (eF_ids5 m a (5 : Int32) (7 : Int32)) T151 (mkF m 17 #[vR a, vI (5 : Int32), vI (7 : Int32), vI ((5 : Int32) + (1 : Int32))] []) := fun t kt => S152 t (by
    refine XS.ifYes X151.here hx rfl (pc0 := 30) (pc' := 35) rfl (hb hby d12_30) rfl ((if0 _ _).trans (feq (show ¬ ((1 : Int32) = (0 : Int32)) from (by decide))).2) (by decide) (by decide) ?_
    refine XS.iinc X151.here hx rfl (hb hby d12_35) rfl (l' := #[vR a, vI (5 : Int32), vI (7 : Int32), vI ((5 : Int32) + (1 : Int32))]) rfl ?_
    show Sp p e below T151 (mkF m 38 #[vR a, vI (5 : Int32), vI (7 : Int32), vI ((5 : Int32) + (1 : Int32))] []) _
    refine XS.goto X151.here hx rfl (pc0 := 38) (pc' := 17) rfl (hb hby d12_38) (by decide) (by decide) ?_
    exact kt)
  clear S152
  have q155 : ((5 : Int32) + (1 : Int32)) = (6 : Int32) := by decide
  have S154 : Go p e below s₁ (eF_ids5 m a (5 : Int32) (7 : Int32)) T151 (mkF m 17 #[vR a, vI (5 : Int32), vI (7 : Int32), vI (6 : Int32)] []) := by have h := S153; rw [q155] at h; exact h
  clear S153
  have S156 : Go p e below s₁ (eF_ids5 m a (5 : Int32) (7 : Int32)) T151 (mkF m 24 #[vR a, vI (5 : Int32), vI (7 : Int32), vI (6 : Int32)] [(.int (6 : Int32)), (.ref a)]) := fun t kt => S154 t (by
    refine XS.iloadN X151.here hx rfl (hb hby d12_17) rfl ?_
    refine XS.iloadN X151.here hx rfl (hb hby d12_18) rfl ?_
    show Sp p e below T151 (mkF m 19 #[vR a, vI (5 : Int32), vI (7 : Int32), vI (6 : Int32)] [(.int (7 : Int32)), (.int (6 : Int32))]) _
    refine XS.icmpNo X151.here hx rfl (hb hby d12_19) rfl (tlt (show (6 : Int32) < (7 : Int32) from (by decide))).2.1 ?_
    refine XS.aloadN X151.here hx rfl (hb hby d12_22) rfl rfl ?_
    show Sp p e below T151 (mkF m 23 #[vR a, vI (5 : Int32), vI (7 : Int32), vI (6 : Int32)] [(.ref a)]) _
    refine XS.iloadN X151.here hx rfl (hb hby d12_23) rfl ?_
    exact kt)
  clear S154
  obtain ⟨cq157, kq157, q157a, q157b, q157c⟩ := isOf hZ e151 E
  obtain ⟨v157, T157, L157, X157, hQ157, st157⟩ := own_outV (Q := (fun v h' L => v = some (.int ((own_tx yn mn dn).getD 6 0)) ∧ L = [] ∧ h' = h0)) (X151.virtualBack hx (y := (⟨"java/lang/String", "charAt", "(I)C"⟩ : MethodName)) (z := (⟨"java/lang/String", "charAt", "(I)C"⟩ : MethodName)) hown (mvT hZ (own_h hw 55 rfl)) (mvT hZ (own_h hw 56 rfl)) (notFace_of_selects (args := #[]) (mvT hZ (own_h hw 58 rfl))) (mvT hZ (own_h hw 58 rfl)) (mvT hZ (own_h hw 57 rfl)) (by decide) (StrChars.Road.chN (W := 0) hZ hch (kI := 4) (own_h hw 7 rfl) E G F V hcd hb0 (S_cs.ext O0.2) hcz (S_fm.ext O0.2) hfm (Nat.le_of_ble_eq_true rfl) (i := 6) (Nat.le_of_ble_eq_true rfl) (j := (6 : Int32)) rfl (by decide) (by decide)) q157a q157c (g := (mkF m 24 #[vR a, vI (5 : Int32), vI (7 : Int32), vI (6 : Int32)] [(.int (6 : Int32)), (.ref a)])) rfl (by rw [hml]; rfl) (Steps.refl _) (argsL := [(.int (6 : Int32))]) (rest := []) (lenOf pd__I_C rfl) rfl (by show 2 * 0 + _ ≤ _; exact Nat.le_of_eq rfl) (hb hby d12_24) (fun _ _ => ⟨rfl, e151, (by decide : 0 + 0 ≤ _), (by decide : 0 + 0 ≤ _)⟩))
  obtain ⟨rfl, rfl, e157⟩ := hQ157
  have N157 := Fr.app N151 (Fr.nil n0)
  have S158 : Go p e below s₁ (eF_ids5 m a (5 : Int32) (7 : Int32)) T157 (mkF m 27 #[vR a, vI (5 : Int32), vI (7 : Int32), vI (6 : Int32)] [(.int ((own_tx yn mn dn).getD 6 0))]) := fun t kt => S156 t (st157 t kt)
  clear S156 st157 X151 e151
  have q160 : ((own_tx yn mn dn).getD 6 0) = (own_c (mn % 10)) := rfl
  have S159 : Go p e below s₁ (eF_ids5 m a (5 : Int32) (7 : Int32)) T157 (mkF m 27 #[vR a, vI (5 : Int32), vI (7 : Int32), vI (6 : Int32)] [(.int (own_c (mn % 10)))]) := by have h := S158; rw [q160] at h; exact h
  clear S158
  have hI6 := own_cI (k := mn % 10) (by omega)
  obtain ⟨v161, T161, L161, X161, hQ161, st161⟩ := own_outS (Jvm.LawKit.callS X157 hx (y := (⟨"com/example/tranchery/tranchery/journal/Fields", "isDigit", "(C)Z"⟩ : MethodName)) hown (mvT hZ (own_h hw 77 rfl)) (mvT hZ (own_h hw 78 rfl)) (mvT hZ (own_h hw 37 rfl)) (mvT hZ (own_h hw 79 rfl)) (by decide) (backOf (W := 0) (rm_isd l Z a0 hw [] (own_c (mn % 10)) h0 n0 Z0 (by omega) (by omega)) hZ (own_h hw 79 rfl) (own_h hw 37 rfl) (by decide) (by decide)) (g := (mkF m 27 #[vR a, vI (5 : Int32), vI (7 : Int32), vI (6 : Int32)] [(.int (own_c (mn % 10)))])) rfl (by rw [hml]; rfl) (argsL := [(.int (own_c (mn % 10)))]) (rest := []) (lenOf pd__C_Z rfl) rfl (by show 2 * 0 + _ ≤ _; exact Nat.le_of_eq rfl) (hb hby d12_27) (fun _ _ => ⟨rfl, e157, (by decide : 0 + 0 ≤ _), (by decide : 0 + 0 ≤ _)⟩))
  obtain ⟨rfl, N161q, e161⟩ := hQ161
  have N161 := Fr.app N157 N161q
  have S162 : Go p e below s₁ (eF_ids5 m a (5 : Int32) (7 : Int32)) T161 (mkF m 30 #[vR a, vI (5 : Int32), vI (7 : Int32), vI (6 : Int32)] [(.int (1 : Int32))]) := fun t kt => S159 t (st161 t kt)
  clear S159 st161 X157 e157
  have S163 : Go p e below s₁ (eF_ids5 m a (5 : Int32) (7 : Int32)) T161 (mkF m 17 #[vR a, vI (5 : Int32), vI (7 : Int32), vI ((6 : Int32) + (1 : Int32))] []) := fun t kt => S162 t (by
    refine XS.ifYes X161.here hx rfl (pc0 := 30) (pc' := 35) rfl (hb hby d12_30) rfl ((if0 _ _).trans (feq (show ¬ ((1 : Int32) = (0 : Int32)) from (by decide))).2) (by decide) (by decide) ?_
    refine XS.iinc X161.here hx rfl (hb hby d12_35) rfl (l' := #[vR a, vI (5 : Int32), vI (7 : Int32), vI ((6 : Int32) + (1 : Int32))]) rfl ?_
    show Sp p e below T161 (mkF m 38 #[vR a, vI (5 : Int32), vI (7 : Int32), vI ((6 : Int32) + (1 : Int32))] []) _
    refine XS.goto X161.here hx rfl (pc0 := 38) (pc' := 17) rfl (hb hby d12_38) (by decide) (by decide) ?_
    exact kt)
  clear S162
  have q165 : ((6 : Int32) + (1 : Int32)) = (7 : Int32) := by decide
  have S164 : Go p e below s₁ (eF_ids5 m a (5 : Int32) (7 : Int32)) T161 (mkF m 17 #[vR a, vI (5 : Int32), vI (7 : Int32), vI (7 : Int32)] []) := by have h := S163; rw [q165] at h; exact h
  clear S163
  have S166 : Go p e below s₁ (eF_ids5 m a (5 : Int32) (7 : Int32)) T161 (mkF m 42 #[vR a, vI (5 : Int32), vI (7 : Int32), vI (7 : Int32)] [(.int (1 : Int32))]) := fun t kt => S164 t (by
    refine XS.iloadN X161.here hx rfl (hb hby d12_17) rfl ?_
    refine XS.iloadN X161.here hx rfl (hb hby d12_18) rfl ?_
    show Sp p e below T161 (mkF m 19 #[vR a, vI (5 : Int32), vI (7 : Int32), vI (7 : Int32)] [(.int (7 : Int32)), (.int (7 : Int32))]) _
    refine XS.icmpYes X161.here hx rfl (pc0 := 19) (pc' := 41) rfl (hb hby d12_19) rfl (flt (show ¬ ((7 : Int32) < (7 : Int32)) from (by decide))).2.1 (by decide) (by decide) ?_
    refine XS.iconst X161.here hx rfl (hb hby d12_41) ?_
    show Sp p e below T161 (mkF m 42 #[vR a, vI (5 : Int32), vI (7 : Int32), vI (7 : Int32)] [(.int (1 : Int32))]) _
    exact kt)
  clear S164
  obtain ⟨fs, hr, hrun, hended, hW, hsame⟩ := X161.leave (v := some (.int (1 : Int32))) (fun h => by first | rfl | (rw [Bd.returns] at h; cases h))
  refine ⟨_, _, S166 _ ?_, hrun, hended, _, _, rfl, ?_, ⟨_, rfl⟩, hW, hsame.mono (by decide) (by decide)⟩
  · exact retN X161 hx (t := .boolean) Bd.returns (by simp) (hb hby d12_42) hr
  · show Q_ids5 Z  h0 n0 _ T161.heap _
    rw [e161]
    exact ⟨rfl, N161, rfl⟩
abbrev eF_ids8 (m : MethodId) (x0 : Addr) (x1 : Int32) (x2 : Int32) : JFrame := entryFrame m #[(.ref x0), (.int x1), (.int x2)] 4
theorem ef_ids8 (m : MethodId) (x0 : Addr) (x1 : Int32) (x2 : Int32) : entryFrame m #[(.ref x0), (.int x1), (.int x2)] 4 = mkF m 0 #[.val (.ref x0), .val (.int x1), .val (.int x2), .unset] [] := by first | (simp [entryFrame, mkF, argsToLocals, Value.category]; done) | rfl
theorem pn_ids8 : plainName "com/example/tranchery/tranchery/journal/Fields" = true := by first | (simp [plainName, overriddenIn]; done) | decide +kernel
def Q_ids8 (Z : State)  (h0 : Heap) (n0 : Nat) (v : Option Value) (h : Heap) (L : List Loc) : Prop := v = some (.int (1 : Int32)) ∧ Fr n0 L ∧ h = h0
set_option maxRecDepth 65536 in
set_option maxHeartbeats 40000000 in
theorem rm_ids8 (l : Launch) (Z : State) (a0 : Array Value) (hw : ∀ d ∈ tables_1, d.before a0 Z = true) (ws : List Jvm.Cond) (a : Addr) (b : Addr) (k : ClassId) (yn : Nat) (mn : Nat) (dn : Nat) (h0 : Heap) (n0 : Nat) (Z0 : n0 ≤ h0.size) (SS : own_St Z) (O0 : Old Z n0 h0) (E : Exa Z h0 a "java/lang/String") (F : Fld Z h0 a "java/lang/String" "coder" "B" (.int (0 : Int32))) (G : Fld Z h0 a "java/lang/String" "value" "[B" (.ref b)) (V : Arv Z h0 b k .byte (10 : Int32) (own_vs (own_tx yn mn dn)) (.int (0 : Int32))) (hy : yn ≤ 9999) (hm : 1 ≤ mn) (hm2 : mn ≤ 12) (hd : 1 ≤ dn) (hd2 : dn ≤ 28) :
    MetFree l (⟨"com/example/tranchery/tranchery/journal/Fields", "isDigits", "(Ljava/lang/String;II)Z"⟩ : MethodName) (head1 (Jvm.Cond.code (⟨"com/example/tranchery/tranchery/journal/Fields", "isDigits", "(Ljava/lang/String;II)Z"⟩ : MethodName) prog_34_method_19_code 4 (some .boolean) :: ws) ({ frames := 4, cells := 0, slots := 0, locals := 53 } : Room)) (fun aa U => aa = #[(.ref a), (.int (8 : Int32)), (.int (10 : Int32))] ∧ Z.Warmed39 U.vm ∧ U.heap = h0) (fun _ _ _ _ _ => True) (fun _ U o U' => ∃ v L, o = .returned v ∧ Q_ids8 Z  h0 n0 v U'.heap L ∧ FrameEnd U o U' L ({ frames := 4, cells := 0, slots := 0, locals := 53 } : Room).cells ({ frames := 4, cells := 0, slots := 0, locals := 53 } : Room).slots) := by
  refine MetFree.of_bodySF (plainFor_of_name pn_ids8) hisR ?_
  intro p e s m args below meth c s₁ Bd hml0 hP hK
  obtain ⟨rfl, hZ, hh⟩ := hP
  have hx := Bd.exec
  have hby := Bd.bytes
  have hml : c.maxLocals = 4 := hml0
  have hown : s.vm.findClass "com/example/tranchery/tranchery/journal/Fields" = some m.cls := findClass_of_methodNamed Bd.named
  have hnm := (name_of_methodNamed Bd.named Bd.method).1
  have X0 : Stand p l e ({ frames := 4, cells := 0, slots := 0, locals := 53 } : Room) s m #[(.ref a), (.int (8 : Int32)), (.int (10 : Int32))] below meth c s₁ [] 0 0 := Stand.of_body Bd
  have e0 : s₁.heap = h0 := by rw [← hh, Bd.state]; rfl
  have N0 := Fr.nil n0
  have S0 : Go p e below s₁ (eF_ids8 m a (8 : Int32) (10 : Int32)) s₁ (mkF m 0 #[vR a, vI (8 : Int32), vI (10 : Int32), vU] []) := fun t k => castTop (ef_ids8 m a (8 : Int32) (10 : Int32)) k
  obtain ⟨⟨cz, S_cs, hcz⟩, ⟨fm, S_fm, hfm⟩, ⟨yr, yrr, S_yr, E_yr, F_yr, E_yrr, L_yr, H_yr⟩, ⟨mr, mrr, S_mr, E_mr, F_mr, E_mrr, L_mr, H_mr⟩, ⟨dr, drr, S_dr, E_dr, F_dr, E_drr, L_dr, H_dr⟩, ⟨iso, S_is, E_is⟩, ⟨em, el, kel, S_em, E_em, F_em, V_em⟩, ⟨nr, S_nr⟩, ⟨nk, S_nk⟩⟩ := id SS
  have hln : ∀ d ∈ StrChars.Road.wordsLen, d.before a0 Z = true := fun d hd => hw d (own_wLen d hd)
  have hch : ∀ d ∈ StrChars.Road.wordsChN, d.before a0 Z = true := fun d hd => hw d (own_wChN d hd)
  have hcd := own_coda (yn := yn) (mn := mn) (dn := dn) hy hm2 hd2
  have hb0 := own_hb (yn := yn) (mn := mn) (dn := dn) hy hm2 hd2
  have S167 : Go p e below s₁ (eF_ids8 m a (8 : Int32) (10 : Int32)) s₁ (mkF m 7 #[vR a, vI (8 : Int32), vI (10 : Int32), vU] [(.ref a), (.int (10 : Int32))]) := fun t kt => S0 t (by
    refine XS.iloadN X0.here hx rfl (hb hby d12_0) rfl ?_
    refine XS.iloadN X0.here hx rfl (hb hby d12_1) rfl ?_
    show Sp p e below s₁ (mkF m 2 #[vR a, vI (8 : Int32), vI (10 : Int32), vU] [(.int (10 : Int32)), (.int (8 : Int32))]) _
    refine XS.icmpNo X0.here hx rfl (hb hby d12_2) rfl (tlt (show (8 : Int32) < (10 : Int32) from (by decide))).2.1 ?_
    refine XS.iloadN X0.here hx rfl (hb hby d12_5) rfl ?_
    show Sp p e below s₁ (mkF m 6 #[vR a, vI (8 : Int32), vI (10 : Int32), vU] [(.int (10 : Int32))]) _
    refine XS.aloadN X0.here hx rfl (hb hby d12_6) rfl rfl ?_
    exact kt)
  clear S0
  obtain ⟨cq168, kq168, q168a, q168b, q168c⟩ := isOf hZ e0 E
  obtain ⟨v168, T168, L168, X168, hQ168, st168⟩ := own_outV (Q := (fun v h' L => v = some (.int (Int32.ofNat (own_tx yn mn dn).length)) ∧ L = [] ∧ h' = h0)) (X0.virtualBack hx (y := (⟨"java/lang/String", "length", "()I"⟩ : MethodName)) (z := (⟨"java/lang/String", "length", "()I"⟩ : MethodName)) hown (mvT hZ (own_h hw 39 rfl)) (mvT hZ (own_h hw 40 rfl)) (notFace_of_selects (args := #[]) (mvT hZ (own_h hw 42 rfl))) (mvT hZ (own_h hw 42 rfl)) (mvT hZ (own_h hw 41 rfl)) (by decide) (StrChars.Road.lenW (W := 1) hZ hln (kI := 4) (own_h hw 7 rfl) E G F V hcd hb0 (S_cs.ext O0.2) hcz (Nat.le_of_ble_eq_true rfl) (by decide) (by decide)) q168a q168c (g := (mkF m 7 #[vR a, vI (8 : Int32), vI (10 : Int32), vU] [(.ref a), (.int (10 : Int32))])) rfl (by rw [hml]; rfl) (Steps.refl _) (argsL := []) (rest := [(.int (10 : Int32))]) (lenOf pd___I rfl) rfl (by show 2 * 0 + _ ≤ _; exact Nat.le_of_eq rfl) (hb hby d12_7) (fun _ _ => ⟨rfl, e0, (by decide : 0 + 0 ≤ _), (by decide : 0 + 0 ≤ _)⟩))
  obtain ⟨rfl, rfl, e168⟩ := hQ168
  have N168 := Fr.app N0 (Fr.nil n0)
  have S169 : Go p e below s₁ (eF_ids8 m a (8 : Int32) (10 : Int32)) T168 (mkF m 10 #[vR a, vI (8 : Int32), vI (10 : Int32), vU] [(.int (Int32.ofNat (own_tx yn mn dn).length)), (.int (10 : Int32))]) := fun t kt => S167 t (st168 t kt)
  clear S167 st168 X0 e0
  have q171 : (Int32.ofNat (own_tx yn mn dn).length) = (10 : Int32) := rfl
  have S170 : Go p e below s₁ (eF_ids8 m a (8 : Int32) (10 : Int32)) T168 (mkF m 10 #[vR a, vI (8 : Int32), vI (10 : Int32), vU] [(.int (10 : Int32)), (.int (10 : Int32))]) := by have h := S169; rw [q171] at h; exact h
  clear S169
  have S172 : Go p e below s₁ (eF_ids8 m a (8 : Int32) (10 : Int32)) T168 (mkF m 24 #[vR a, vI (8 : Int32), vI (10 : Int32), vI (8 : Int32)] [(.int (8 : Int32)), (.ref a)]) := fun t kt => S170 t (by
    refine XS.icmpYes X168.here hx rfl (pc0 := 10) (pc' := 15) rfl (hb hby d12_10) rfl (flt (show ¬ ((10 : Int32) < (10 : Int32)) from (by decide))).2.2.2 (by decide) (by decide) ?_
    refine XS.iloadN X168.here hx rfl (hb hby d12_15) rfl ?_
    show Sp p e below T168 (mkF m 16 #[vR a, vI (8 : Int32), vI (10 : Int32), vU] [(.int (8 : Int32))]) _
    refine XS.istoreN X168.here hx rfl (hb hby d12_16) rfl (l' := #[vR a, vI (8 : Int32), vI (10 : Int32), vI (8 : Int32)]) rfl ?_
    refine XS.iloadN X168.here hx rfl (hb hby d12_17) rfl ?_
    show Sp p e below T168 (mkF m 18 #[vR a, vI (8 : Int32), vI (10 : Int32), vI (8 : Int32)] [(.int (8 : Int32))]) _
    refine XS.iloadN X168.here hx rfl (hb hby d12_18) rfl ?_
    refine XS.icmpNo X168.here hx rfl (hb hby d12_19) rfl (tlt (show (8 : Int32) < (10 : Int32) from (by decide))).2.1 ?_
    show Sp p e below T168 (mkF m 22 #[vR a, vI (8 : Int32), vI (10 : Int32), vI (8 : Int32)] []) _
    refine XS.aloadN X168.here hx rfl (hb hby d12_22) rfl rfl ?_
    refine XS.iloadN X168.here hx rfl (hb hby d12_23) rfl ?_
    show Sp p e below T168 (mkF m 24 #[vR a, vI (8 : Int32), vI (10 : Int32), vI (8 : Int32)] [(.int (8 : Int32)), (.ref a)]) _
    exact kt)
  clear S170
  obtain ⟨cq173, kq173, q173a, q173b, q173c⟩ := isOf hZ e168 E
  obtain ⟨v173, T173, L173, X173, hQ173, st173⟩ := own_outV (Q := (fun v h' L => v = some (.int ((own_tx yn mn dn).getD 8 0)) ∧ L = [] ∧ h' = h0)) (X168.virtualBack hx (y := (⟨"java/lang/String", "charAt", "(I)C"⟩ : MethodName)) (z := (⟨"java/lang/String", "charAt", "(I)C"⟩ : MethodName)) hown (mvT hZ (own_h hw 55 rfl)) (mvT hZ (own_h hw 56 rfl)) (notFace_of_selects (args := #[]) (mvT hZ (own_h hw 58 rfl))) (mvT hZ (own_h hw 58 rfl)) (mvT hZ (own_h hw 57 rfl)) (by decide) (StrChars.Road.chN (W := 0) hZ hch (kI := 4) (own_h hw 7 rfl) E G F V hcd hb0 (S_cs.ext O0.2) hcz (S_fm.ext O0.2) hfm (Nat.le_of_ble_eq_true rfl) (i := 8) (Nat.le_of_ble_eq_true rfl) (j := (8 : Int32)) rfl (by decide) (by decide)) q173a q173c (g := (mkF m 24 #[vR a, vI (8 : Int32), vI (10 : Int32), vI (8 : Int32)] [(.int (8 : Int32)), (.ref a)])) rfl (by rw [hml]; rfl) (Steps.refl _) (argsL := [(.int (8 : Int32))]) (rest := []) (lenOf pd__I_C rfl) rfl (by show 2 * 0 + _ ≤ _; exact Nat.le_of_eq rfl) (hb hby d12_24) (fun _ _ => ⟨rfl, e168, (by decide : 0 + 0 ≤ _), (by decide : 0 + 0 ≤ _)⟩))
  obtain ⟨rfl, rfl, e173⟩ := hQ173
  have N173 := Fr.app N168 (Fr.nil n0)
  have S174 : Go p e below s₁ (eF_ids8 m a (8 : Int32) (10 : Int32)) T173 (mkF m 27 #[vR a, vI (8 : Int32), vI (10 : Int32), vI (8 : Int32)] [(.int ((own_tx yn mn dn).getD 8 0))]) := fun t kt => S172 t (st173 t kt)
  clear S172 st173 X168 e168
  have q176 : ((own_tx yn mn dn).getD 8 0) = (own_c (dn / 10)) := rfl
  have S175 : Go p e below s₁ (eF_ids8 m a (8 : Int32) (10 : Int32)) T173 (mkF m 27 #[vR a, vI (8 : Int32), vI (10 : Int32), vI (8 : Int32)] [(.int (own_c (dn / 10)))]) := by have h := S174; rw [q176] at h; exact h
  clear S174
  have hI8 := own_cI (k := dn / 10) (by omega)
  obtain ⟨v177, T177, L177, X177, hQ177, st177⟩ := own_outS (Jvm.LawKit.callS X173 hx (y := (⟨"com/example/tranchery/tranchery/journal/Fields", "isDigit", "(C)Z"⟩ : MethodName)) hown (mvT hZ (own_h hw 77 rfl)) (mvT hZ (own_h hw 78 rfl)) (mvT hZ (own_h hw 37 rfl)) (mvT hZ (own_h hw 79 rfl)) (by decide) (backOf (W := 0) (rm_isd l Z a0 hw [] (own_c (dn / 10)) h0 n0 Z0 (by omega) (by omega)) hZ (own_h hw 79 rfl) (own_h hw 37 rfl) (by decide) (by decide)) (g := (mkF m 27 #[vR a, vI (8 : Int32), vI (10 : Int32), vI (8 : Int32)] [(.int (own_c (dn / 10)))])) rfl (by rw [hml]; rfl) (argsL := [(.int (own_c (dn / 10)))]) (rest := []) (lenOf pd__C_Z rfl) rfl (by show 2 * 0 + _ ≤ _; exact Nat.le_of_eq rfl) (hb hby d12_27) (fun _ _ => ⟨rfl, e173, (by decide : 0 + 0 ≤ _), (by decide : 0 + 0 ≤ _)⟩))
  obtain ⟨rfl, N177q, e177⟩ := hQ177
  have N177 := Fr.app N173 N177q
  have S178 : Go p e below s₁ (eF_ids8 m a (8 : Int32) (10 : Int32)) T177 (mkF m 30 #[vR a, vI (8 : Int32), vI (10 : Int32), vI (8 : Int32)] [(.int (1 : Int32))]) := fun t kt => S175 t (st177 t kt)
  clear S175 st177 X173 e173
  have S179 : Go p e below s₁ (eF_ids8 m a (8 : Int32) (10 : Int32)) T177 (mkF m 17 #[vR a, vI (8 : Int32), vI (10 : Int32), vI ((8 : Int32) + (1 : Int32))] []) := fun t kt => S178 t (by
    refine XS.ifYes X177.here hx rfl (pc0 := 30) (pc' := 35) rfl (hb hby d12_30) rfl ((if0 _ _).trans (feq (show ¬ ((1 : Int32) = (0 : Int32)) from (by decide))).2) (by decide) (by decide) ?_
    refine XS.iinc X177.here hx rfl (hb hby d12_35) rfl (l' := #[vR a, vI (8 : Int32), vI (10 : Int32), vI ((8 : Int32) + (1 : Int32))]) rfl ?_
    show Sp p e below T177 (mkF m 38 #[vR a, vI (8 : Int32), vI (10 : Int32), vI ((8 : Int32) + (1 : Int32))] []) _
    refine XS.goto X177.here hx rfl (pc0 := 38) (pc' := 17) rfl (hb hby d12_38) (by decide) (by decide) ?_
    exact kt)
  clear S178
  have q181 : ((8 : Int32) + (1 : Int32)) = (9 : Int32) := by decide
  have S180 : Go p e below s₁ (eF_ids8 m a (8 : Int32) (10 : Int32)) T177 (mkF m 17 #[vR a, vI (8 : Int32), vI (10 : Int32), vI (9 : Int32)] []) := by have h := S179; rw [q181] at h; exact h
  clear S179
  have S182 : Go p e below s₁ (eF_ids8 m a (8 : Int32) (10 : Int32)) T177 (mkF m 24 #[vR a, vI (8 : Int32), vI (10 : Int32), vI (9 : Int32)] [(.int (9 : Int32)), (.ref a)]) := fun t kt => S180 t (by
    refine XS.iloadN X177.here hx rfl (hb hby d12_17) rfl ?_
    refine XS.iloadN X177.here hx rfl (hb hby d12_18) rfl ?_
    show Sp p e below T177 (mkF m 19 #[vR a, vI (8 : Int32), vI (10 : Int32), vI (9 : Int32)] [(.int (10 : Int32)), (.int (9 : Int32))]) _
    refine XS.icmpNo X177.here hx rfl (hb hby d12_19) rfl (tlt (show (9 : Int32) < (10 : Int32) from (by decide))).2.1 ?_
    refine XS.aloadN X177.here hx rfl (hb hby d12_22) rfl rfl ?_
    show Sp p e below T177 (mkF m 23 #[vR a, vI (8 : Int32), vI (10 : Int32), vI (9 : Int32)] [(.ref a)]) _
    refine XS.iloadN X177.here hx rfl (hb hby d12_23) rfl ?_
    exact kt)
  clear S180
  obtain ⟨cq183, kq183, q183a, q183b, q183c⟩ := isOf hZ e177 E
  obtain ⟨v183, T183, L183, X183, hQ183, st183⟩ := own_outV (Q := (fun v h' L => v = some (.int ((own_tx yn mn dn).getD 9 0)) ∧ L = [] ∧ h' = h0)) (X177.virtualBack hx (y := (⟨"java/lang/String", "charAt", "(I)C"⟩ : MethodName)) (z := (⟨"java/lang/String", "charAt", "(I)C"⟩ : MethodName)) hown (mvT hZ (own_h hw 55 rfl)) (mvT hZ (own_h hw 56 rfl)) (notFace_of_selects (args := #[]) (mvT hZ (own_h hw 58 rfl))) (mvT hZ (own_h hw 58 rfl)) (mvT hZ (own_h hw 57 rfl)) (by decide) (StrChars.Road.chN (W := 0) hZ hch (kI := 4) (own_h hw 7 rfl) E G F V hcd hb0 (S_cs.ext O0.2) hcz (S_fm.ext O0.2) hfm (Nat.le_of_ble_eq_true rfl) (i := 9) (Nat.le_of_ble_eq_true rfl) (j := (9 : Int32)) rfl (by decide) (by decide)) q183a q183c (g := (mkF m 24 #[vR a, vI (8 : Int32), vI (10 : Int32), vI (9 : Int32)] [(.int (9 : Int32)), (.ref a)])) rfl (by rw [hml]; rfl) (Steps.refl _) (argsL := [(.int (9 : Int32))]) (rest := []) (lenOf pd__I_C rfl) rfl (by show 2 * 0 + _ ≤ _; exact Nat.le_of_eq rfl) (hb hby d12_24) (fun _ _ => ⟨rfl, e177, (by decide : 0 + 0 ≤ _), (by decide : 0 + 0 ≤ _)⟩))
  obtain ⟨rfl, rfl, e183⟩ := hQ183
  have N183 := Fr.app N177 (Fr.nil n0)
  have S184 : Go p e below s₁ (eF_ids8 m a (8 : Int32) (10 : Int32)) T183 (mkF m 27 #[vR a, vI (8 : Int32), vI (10 : Int32), vI (9 : Int32)] [(.int ((own_tx yn mn dn).getD 9 0))]) := fun t kt => S182 t (st183 t kt)
  clear S182 st183 X177 e177
  have q186 : ((own_tx yn mn dn).getD 9 0) = (own_c (dn % 10)) := rfl
  have S185 : Go p e below s₁ (eF_ids8 m a (8 : Int32) (10 : Int32)) T183 (mkF m 27 #[vR a, vI (8 : Int32), vI (10 : Int32), vI (9 : Int32)] [(.int (own_c (dn % 10)))]) := by have h := S184; rw [q186] at h; exact h
  clear S184
  have hI9 := own_cI (k := dn % 10) (by omega)
  obtain ⟨v187, T187, L187, X187, hQ187, st187⟩ := own_outS (Jvm.LawKit.callS X183 hx (y := (⟨"com/example/tranchery/tranchery/journal/Fields", "isDigit", "(C)Z"⟩ : MethodName)) hown (mvT hZ (own_h hw 77 rfl)) (mvT hZ (own_h hw 78 rfl)) (mvT hZ (own_h hw 37 rfl)) (mvT hZ (own_h hw 79 rfl)) (by decide) (backOf (W := 0) (rm_isd l Z a0 hw [] (own_c (dn % 10)) h0 n0 Z0 (by omega) (by omega)) hZ (own_h hw 79 rfl) (own_h hw 37 rfl) (by decide) (by decide)) (g := (mkF m 27 #[vR a, vI (8 : Int32), vI (10 : Int32), vI (9 : Int32)] [(.int (own_c (dn % 10)))])) rfl (by rw [hml]; rfl) (argsL := [(.int (own_c (dn % 10)))]) (rest := []) (lenOf pd__C_Z rfl) rfl (by show 2 * 0 + _ ≤ _; exact Nat.le_of_eq rfl) (hb hby d12_27) (fun _ _ => ⟨rfl, e183, (by decide : 0 + 0 ≤ _), (by decide : 0 + 0 ≤ _)⟩))
  obtain ⟨rfl, N187q, e187⟩ := hQ187
  have N187 := Fr.app N183 N187q
  have S188 : Go p e below s₁ (eF_ids8 m a (8 : Int32) (10 : Int32)) T187 (mkF m 30 #[vR a, vI (8 : Int32), vI (10 : Int32), vI (9 : Int32)] [(.int (1 : Int32))]) := fun t kt => S185 t (st187 t kt)
  clear S185 st187 X183 e183
  have S189 : Go p e below s₁ (eF_ids8 m a (8 : Int32) (10 : Int32)) T187 (mkF m 17 #[vR a, vI (8 : Int32), vI (10 : Int32), vI ((9 : Int32) + (1 : Int32))] []) := fun t kt => S188 t (by
    refine XS.ifYes X187.here hx rfl (pc0 := 30) (pc' := 35) rfl (hb hby d12_30) rfl ((if0 _ _).trans (feq (show ¬ ((1 : Int32) = (0 : Int32)) from (by decide))).2) (by decide) (by decide) ?_
    refine XS.iinc X187.here hx rfl (hb hby d12_35) rfl (l' := #[vR a, vI (8 : Int32), vI (10 : Int32), vI ((9 : Int32) + (1 : Int32))]) rfl ?_
    show Sp p e below T187 (mkF m 38 #[vR a, vI (8 : Int32), vI (10 : Int32), vI ((9 : Int32) + (1 : Int32))] []) _
    refine XS.goto X187.here hx rfl (pc0 := 38) (pc' := 17) rfl (hb hby d12_38) (by decide) (by decide) ?_
    exact kt)
  clear S188
  have q191 : ((9 : Int32) + (1 : Int32)) = (10 : Int32) := by decide
  have S190 : Go p e below s₁ (eF_ids8 m a (8 : Int32) (10 : Int32)) T187 (mkF m 17 #[vR a, vI (8 : Int32), vI (10 : Int32), vI (10 : Int32)] []) := by have h := S189; rw [q191] at h; exact h
  clear S189
  have S192 : Go p e below s₁ (eF_ids8 m a (8 : Int32) (10 : Int32)) T187 (mkF m 42 #[vR a, vI (8 : Int32), vI (10 : Int32), vI (10 : Int32)] [(.int (1 : Int32))]) := fun t kt => S190 t (by
    refine XS.iloadN X187.here hx rfl (hb hby d12_17) rfl ?_
    refine XS.iloadN X187.here hx rfl (hb hby d12_18) rfl ?_
    show Sp p e below T187 (mkF m 19 #[vR a, vI (8 : Int32), vI (10 : Int32), vI (10 : Int32)] [(.int (10 : Int32)), (.int (10 : Int32))]) _
    refine XS.icmpYes X187.here hx rfl (pc0 := 19) (pc' := 41) rfl (hb hby d12_19) rfl (flt (show ¬ ((10 : Int32) < (10 : Int32)) from (by decide))).2.1 (by decide) (by decide) ?_
    refine XS.iconst X187.here hx rfl (hb hby d12_41) ?_
    show Sp p e below T187 (mkF m 42 #[vR a, vI (8 : Int32), vI (10 : Int32), vI (10 : Int32)] [(.int (1 : Int32))]) _
    exact kt)
  clear S190
  obtain ⟨fs, hr, hrun, hended, hW, hsame⟩ := X187.leave (v := some (.int (1 : Int32))) (fun h => by first | rfl | (rw [Bd.returns] at h; cases h))
  refine ⟨_, _, S192 _ ?_, hrun, hended, _, _, rfl, ?_, ⟨_, rfl⟩, hW, hsame.mono (by decide) (by decide)⟩
  · exact retN X187 hx (t := .boolean) Bd.returns (by simp) (hb hby d12_42) hr
  · show Q_ids8 Z  h0 n0 _ T187.heap _
    rw [e187]
    exact ⟨rfl, N187, rfl⟩
abbrev eF_ism (m : MethodId) (x0 : Addr) : JFrame := entryFrame m #[(.ref x0)] 1
theorem ef_ism (m : MethodId) (x0 : Addr) : entryFrame m #[(.ref x0)] 1 = mkF m 0 #[.val (.ref x0)] [] := by first | (simp [entryFrame, mkF, argsToLocals, Value.category]; done) | rfl
theorem pn_ism : plainName "com/example/tranchery/tranchery/journal/Fields" = true := by first | (simp [plainName, overriddenIn]; done) | decide +kernel
def Q_ism (Z : State)  (h0 : Heap) (n0 : Nat) (v : Option Value) (h : Heap) (L : List Loc) : Prop := v = some (.int (1 : Int32)) ∧ Fr n0 L ∧ h = h0
set_option maxRecDepth 65536 in
set_option maxHeartbeats 40000000 in
theorem rm_ism (l : Launch) (Z : State) (a0 : Array Value) (hw : ∀ d ∈ tables_1, d.before a0 Z = true) (ws : List Jvm.Cond) (a : Addr) (b : Addr) (k : ClassId) (yn : Nat) (mn : Nat) (dn : Nat) (h0 : Heap) (n0 : Nat) (Z0 : n0 ≤ h0.size) (SS : own_St Z) (O0 : Old Z n0 h0) (E : Exa Z h0 a "java/lang/String") (F : Fld Z h0 a "java/lang/String" "coder" "B" (.int (0 : Int32))) (G : Fld Z h0 a "java/lang/String" "value" "[B" (.ref b)) (V : Arv Z h0 b k .byte (10 : Int32) (own_vs (own_tx yn mn dn)) (.int (0 : Int32))) (hy : yn ≤ 9999) (hm : 1 ≤ mn) (hm2 : mn ≤ 12) (hd : 1 ≤ dn) (hd2 : dn ≤ 28) :
    MetFree l (⟨"com/example/tranchery/tranchery/journal/Fields", "isMonth", "(Ljava/lang/String;)Z"⟩ : MethodName) (head1 (Jvm.Cond.code (⟨"com/example/tranchery/tranchery/journal/Fields", "isMonth", "(Ljava/lang/String;)Z"⟩ : MethodName) prog_34_method_16_code 1 (some .boolean) :: ws) ({ frames := 5, cells := 0, slots := 0, locals := 68 } : Room)) (fun aa U => aa = #[(.ref a)] ∧ Z.Warmed39 U.vm ∧ U.heap = h0) (fun _ _ _ _ _ => True) (fun _ U o U' => ∃ v L, o = .returned v ∧ Q_ism Z  h0 n0 v U'.heap L ∧ FrameEnd U o U' L ({ frames := 5, cells := 0, slots := 0, locals := 68 } : Room).cells ({ frames := 5, cells := 0, slots := 0, locals := 68 } : Room).slots) := by
  refine MetFree.of_bodySF (plainFor_of_name pn_ism) hisR ?_
  intro p e s m args below meth c s₁ Bd hml0 hP hK
  obtain ⟨rfl, hZ, hh⟩ := hP
  have hx := Bd.exec
  have hby := Bd.bytes
  have hml : c.maxLocals = 1 := hml0
  have hown : s.vm.findClass "com/example/tranchery/tranchery/journal/Fields" = some m.cls := findClass_of_methodNamed Bd.named
  have hnm := (name_of_methodNamed Bd.named Bd.method).1
  have X0 : Stand p l e ({ frames := 5, cells := 0, slots := 0, locals := 68 } : Room) s m #[(.ref a)] below meth c s₁ [] 0 0 := Stand.of_body Bd
  have e0 : s₁.heap = h0 := by rw [← hh, Bd.state]; rfl
  have N0 := Fr.nil n0
  have S0 : Go p e below s₁ (eF_ism m a) s₁ (mkF m 0 #[vR a] []) := fun t k => castTop (ef_ism m a) k
  obtain ⟨⟨cz, S_cs, hcz⟩, ⟨fm, S_fm, hfm⟩, ⟨yr, yrr, S_yr, E_yr, F_yr, E_yrr, L_yr, H_yr⟩, ⟨mr, mrr, S_mr, E_mr, F_mr, E_mrr, L_mr, H_mr⟩, ⟨dr, drr, S_dr, E_dr, F_dr, E_drr, L_dr, H_dr⟩, ⟨iso, S_is, E_is⟩, ⟨em, el, kel, S_em, E_em, F_em, V_em⟩, ⟨nr, S_nr⟩, ⟨nk, S_nk⟩⟩ := id SS
  have hch : ∀ d ∈ StrChars.Road.wordsChN, d.before a0 Z = true := fun d hd => hw d (own_wChN d hd)
  have hcd := own_coda (yn := yn) (mn := mn) (dn := dn) hy hm2 hd2
  have hb0 := own_hb (yn := yn) (mn := mn) (dn := dn) hy hm2 hd2
  have S193 : Go p e below s₁ (eF_ism m a) s₁ (mkF m 3 #[vR a] [(.int (4 : Int32)), (.int (0 : Int32)), (.ref a)]) := fun t kt => S0 t (by
    refine XS.aloadN X0.here hx rfl (hb hby d11_0) rfl rfl ?_
    refine XS.iconst X0.here hx rfl (hb hby d11_1) ?_
    show Sp p e below s₁ (mkF m 2 #[vR a] [(.int (0 : Int32)), (.ref a)]) _
    refine XS.iconst X0.here hx rfl (hb hby d11_2) ?_
    exact kt)
  clear S0
  obtain ⟨v194, T194, L194, X194, hQ194, st194⟩ := own_outS (Jvm.LawKit.callS X0 hx (y := (⟨"com/example/tranchery/tranchery/journal/Fields", "isDigits", "(Ljava/lang/String;II)Z"⟩ : MethodName)) hown (mvT hZ (own_h hw 52 rfl)) (mvT hZ (own_h hw 53 rfl)) (mvT hZ (own_h hw 37 rfl)) (mvT hZ (own_h hw 54 rfl)) (by decide) (backOf (W := 0) (rm_ids0 l Z a0 hw [] a b k yn mn dn h0 n0 Z0 SS O0 E F G V hy hm hm2 hd hd2) hZ (own_h hw 54 rfl) (own_h hw 37 rfl) (by decide) (by decide)) (g := (mkF m 3 #[vR a] [(.int (4 : Int32)), (.int (0 : Int32)), (.ref a)])) rfl (by rw [hml]; rfl) (argsL := [(.ref a), (.int (0 : Int32)), (.int (4 : Int32))]) (rest := []) (lenOf pd__Ljava_lang_String_II_Z rfl) rfl (by show 2 * 0 + _ ≤ _; exact Nat.le_of_eq rfl) (hb hby d11_3) (fun _ _ => ⟨rfl, e0, (by decide : 0 + 0 ≤ _), (by decide : 0 + 0 ≤ _)⟩))
  obtain ⟨rfl, N194q, e194⟩ := hQ194
  have N194 := Fr.app N0 N194q
  have S195 : Go p e below s₁ (eF_ism m a) T194 (mkF m 6 #[vR a] [(.int (1 : Int32))]) := fun t kt => S193 t (st194 t kt)
  clear S193 st194 X0 e0
  have S196 : Go p e below s₁ (eF_ism m a) T194 (mkF m 11 #[vR a] [(.int (4 : Int32)), (.ref a)]) := fun t kt => S195 t (by
    refine XS.ifNo X194.here hx rfl (hb hby d11_6) rfl ((if0 _ _).trans (feq (show ¬ ((1 : Int32) = (0 : Int32)) from (by decide))).1) ?_
    refine XS.aloadN X194.here hx rfl (hb hby d11_9) rfl rfl ?_
    show Sp p e below T194 (mkF m 10 #[vR a] [(.ref a)]) _
    refine XS.iconst X194.here hx rfl (hb hby d11_10) ?_
    exact kt)
  clear S195
  obtain ⟨cq197, kq197, q197a, q197b, q197c⟩ := isOf hZ e194 E
  obtain ⟨v197, T197, L197, X197, hQ197, st197⟩ := own_outV (Q := (fun v h' L => v = some (.int ((own_tx yn mn dn).getD 4 0)) ∧ L = [] ∧ h' = h0)) (X194.virtualBack hx (y := (⟨"java/lang/String", "charAt", "(I)C"⟩ : MethodName)) (z := (⟨"java/lang/String", "charAt", "(I)C"⟩ : MethodName)) hown (mvT hZ (own_h hw 55 rfl)) (mvT hZ (own_h hw 56 rfl)) (notFace_of_selects (args := #[]) (mvT hZ (own_h hw 58 rfl))) (mvT hZ (own_h hw 58 rfl)) (mvT hZ (own_h hw 57 rfl)) (by decide) (StrChars.Road.chN (W := 0) hZ hch (kI := 4) (own_h hw 7 rfl) E G F V hcd hb0 (S_cs.ext O0.2) hcz (S_fm.ext O0.2) hfm (Nat.le_of_ble_eq_true rfl) (i := 4) (Nat.le_of_ble_eq_true rfl) (j := (4 : Int32)) rfl (by decide) (by decide)) q197a q197c (g := (mkF m 11 #[vR a] [(.int (4 : Int32)), (.ref a)])) rfl (by rw [hml]; rfl) (Steps.refl _) (argsL := [(.int (4 : Int32))]) (rest := []) (lenOf pd__I_C rfl) rfl (by show 2 * 0 + _ ≤ _; exact Nat.le_of_eq rfl) (hb hby d11_11) (fun _ _ => ⟨rfl, e194, (by decide : 0 + 0 ≤ _), (by decide : 0 + 0 ≤ _)⟩))
  obtain ⟨rfl, rfl, e197⟩ := hQ197
  have N197 := Fr.app N194 (Fr.nil n0)
  have S198 : Go p e below s₁ (eF_ism m a) T197 (mkF m 14 #[vR a] [(.int ((own_tx yn mn dn).getD 4 0))]) := fun t kt => S196 t (st197 t kt)
  clear S196 st197 X194 e194
  have q200 : ((own_tx yn mn dn).getD 4 0) = (45 : Int32) := rfl
  have S199 : Go p e below s₁ (eF_ism m a) T197 (mkF m 14 #[vR a] [(.int (45 : Int32))]) := by have h := S198; rw [q200] at h; exact h
  clear S198
  have S201 : Go p e below s₁ (eF_ism m a) T197 (mkF m 23 #[vR a] [(.int (7 : Int32)), (.int (5 : Int32)), (.ref a)]) := fun t kt => S199 t (by
    refine XS.bipush X197.here hx rfl (hb hby d11_14) ?_
    refine XS.icmpNo X197.here hx rfl (hb hby d11_16) rfl (teq (show (45 : Int32) = (45 : Int32) from (by decide))).2 ?_
    show Sp p e below T197 (mkF m 19 #[vR a] []) _
    refine XS.aloadN X197.here hx rfl (hb hby d11_19) rfl rfl ?_
    refine XS.iconst X197.here hx rfl (hb hby d11_20) ?_
    show Sp p e below T197 (mkF m 21 #[vR a] [(.int (5 : Int32)), (.ref a)]) _
    refine XS.bipush X197.here hx rfl (hb hby d11_21) ?_
    exact kt)
  clear S199
  obtain ⟨v202, T202, L202, X202, hQ202, st202⟩ := own_outS (Jvm.LawKit.callS X197 hx (y := (⟨"com/example/tranchery/tranchery/journal/Fields", "isDigits", "(Ljava/lang/String;II)Z"⟩ : MethodName)) hown (mvT hZ (own_h hw 52 rfl)) (mvT hZ (own_h hw 53 rfl)) (mvT hZ (own_h hw 37 rfl)) (mvT hZ (own_h hw 54 rfl)) (by decide) (backOf (W := 0) (rm_ids5 l Z a0 hw [] a b k yn mn dn h0 n0 Z0 SS O0 E F G V hy hm hm2 hd hd2) hZ (own_h hw 54 rfl) (own_h hw 37 rfl) (by decide) (by decide)) (g := (mkF m 23 #[vR a] [(.int (7 : Int32)), (.int (5 : Int32)), (.ref a)])) rfl (by rw [hml]; rfl) (argsL := [(.ref a), (.int (5 : Int32)), (.int (7 : Int32))]) (rest := []) (lenOf pd__Ljava_lang_String_II_Z rfl) rfl (by show 2 * 0 + _ ≤ _; exact Nat.le_of_eq rfl) (hb hby d11_23) (fun _ _ => ⟨rfl, e197, (by decide : 0 + 0 ≤ _), (by decide : 0 + 0 ≤ _)⟩))
  obtain ⟨rfl, N202q, e202⟩ := hQ202
  have N202 := Fr.app N197 N202q
  have S203 : Go p e below s₁ (eF_ism m a) T202 (mkF m 26 #[vR a] [(.int (1 : Int32))]) := fun t kt => S201 t (st202 t kt)
  clear S201 st202 X197 e197
  have S204 : Go p e below s₁ (eF_ism m a) T202 (mkF m 34 #[vR a] [(.int (1 : Int32))]) := fun t kt => S203 t (by
    refine XS.ifNo X202.here hx rfl (hb hby d11_26) rfl ((if0 _ _).trans (feq (show ¬ ((1 : Int32) = (0 : Int32)) from (by decide))).1) ?_
    refine XS.iconst X202.here hx rfl (hb hby d11_29) ?_
    show Sp p e below T202 (mkF m 30 #[vR a] [(.int (1 : Int32))]) _
    refine XS.goto X202.here hx rfl (pc0 := 30) (pc' := 34) rfl (hb hby d11_30) (by decide) (by decide) ?_
    exact kt)
  clear S203
  obtain ⟨fs, hr, hrun, hended, hW, hsame⟩ := X202.leave (v := some (.int (1 : Int32))) (fun h => by first | rfl | (rw [Bd.returns] at h; cases h))
  refine ⟨_, _, S204 _ ?_, hrun, hended, _, _, rfl, ?_, ⟨_, rfl⟩, hW, hsame.mono (by decide) (by decide)⟩
  · exact retN X202 hx (t := .boolean) Bd.returns (by simp) (hb hby d11_34) hr
  · show Q_ism Z  h0 n0 _ T202.heap _
    rw [e202]
    exact ⟨rfl, N202, rfl⟩
abbrev eF_num0 (m : MethodId) (x0 : Addr) (x1 : Int32) (x2 : Int32) : JFrame := entryFrame m #[(.ref x0), (.int x1), (.int x2)] 5
theorem ef_num0 (m : MethodId) (x0 : Addr) (x1 : Int32) (x2 : Int32) : entryFrame m #[(.ref x0), (.int x1), (.int x2)] 5 = mkF m 0 #[.val (.ref x0), .val (.int x1), .val (.int x2), .unset, .unset] [] := by first | (simp [entryFrame, mkF, argsToLocals, Value.category]; done) | rfl
theorem pn_num0 : plainName "com/example/tranchery/tranchery/journal/Fields" = true := by first | (simp [plainName, overriddenIn]; done) | decide +kernel
def Q_num0 (Z : State) (yn : Nat) (mn : Nat) (dn : Nat) (h0 : Heap) (n0 : Nat) (v : Option Value) (h : Heap) (L : List Loc) : Prop := v = some (.int (Int32.ofNat yn)) ∧ Fr n0 L ∧ h = h0
set_option maxRecDepth 65536 in
set_option maxHeartbeats 40000000 in
theorem rm_num0 (l : Launch) (Z : State) (a0 : Array Value) (hw : ∀ d ∈ tables_1, d.before a0 Z = true) (ws : List Jvm.Cond) (a : Addr) (b : Addr) (k : ClassId) (yn : Nat) (mn : Nat) (dn : Nat) (h0 : Heap) (n0 : Nat) (Z0 : n0 ≤ h0.size) (SS : own_St Z) (O0 : Old Z n0 h0) (E : Exa Z h0 a "java/lang/String") (F : Fld Z h0 a "java/lang/String" "coder" "B" (.int (0 : Int32))) (G : Fld Z h0 a "java/lang/String" "value" "[B" (.ref b)) (V : Arv Z h0 b k .byte (10 : Int32) (own_vs (own_tx yn mn dn)) (.int (0 : Int32))) (hy : yn ≤ 9999) (hm : 1 ≤ mn) (hm2 : mn ≤ 12) (hd : 1 ≤ dn) (hd2 : dn ≤ 28) :
    MetFree l (⟨"com/example/tranchery/tranchery/journal/Fields", "number", "(Ljava/lang/String;II)I"⟩ : MethodName) (head1 (Jvm.Cond.code (⟨"com/example/tranchery/tranchery/journal/Fields", "number", "(Ljava/lang/String;II)I"⟩ : MethodName) prog_34_method_21_code 5 (some .int) :: ws) ({ frames := 4, cells := 0, slots := 0, locals := 54 } : Room)) (fun aa U => aa = #[(.ref a), (.int (0 : Int32)), (.int (4 : Int32))] ∧ Z.Warmed39 U.vm ∧ U.heap = h0) (fun _ _ _ _ _ => True) (fun _ U o U' => ∃ v L, o = .returned v ∧ Q_num0 Z yn mn dn h0 n0 v U'.heap L ∧ FrameEnd U o U' L ({ frames := 4, cells := 0, slots := 0, locals := 54 } : Room).cells ({ frames := 4, cells := 0, slots := 0, locals := 54 } : Room).slots) := by
  refine MetFree.of_bodySF (plainFor_of_name pn_num0) hisR ?_
  intro p e s m args below meth c s₁ Bd hml0 hP hK
  obtain ⟨rfl, hZ, hh⟩ := hP
  have hx := Bd.exec
  have hby := Bd.bytes
  have hml : c.maxLocals = 5 := hml0
  have hown : s.vm.findClass "com/example/tranchery/tranchery/journal/Fields" = some m.cls := findClass_of_methodNamed Bd.named
  have hnm := (name_of_methodNamed Bd.named Bd.method).1
  have X0 : Stand p l e ({ frames := 4, cells := 0, slots := 0, locals := 54 } : Room) s m #[(.ref a), (.int (0 : Int32)), (.int (4 : Int32))] below meth c s₁ [] 0 0 := Stand.of_body Bd
  have e0 : s₁.heap = h0 := by rw [← hh, Bd.state]; rfl
  have N0 := Fr.nil n0
  have S0 : Go p e below s₁ (eF_num0 m a (0 : Int32) (4 : Int32)) s₁ (mkF m 0 #[vR a, vI (0 : Int32), vI (4 : Int32), vU, vU] []) := fun t k => castTop (ef_num0 m a (0 : Int32) (4 : Int32)) k
  obtain ⟨⟨cz, S_cs, hcz⟩, ⟨fm, S_fm, hfm⟩, ⟨yr, yrr, S_yr, E_yr, F_yr, E_yrr, L_yr, H_yr⟩, ⟨mr, mrr, S_mr, E_mr, F_mr, E_mrr, L_mr, H_mr⟩, ⟨dr, drr, S_dr, E_dr, F_dr, E_drr, L_dr, H_dr⟩, ⟨iso, S_is, E_is⟩, ⟨em, el, kel, S_em, E_em, F_em, V_em⟩, ⟨nr, S_nr⟩, ⟨nk, S_nk⟩⟩ := id SS
  have hch : ∀ d ∈ StrChars.Road.wordsChN, d.before a0 Z = true := fun d hd => hw d (own_wChN d hd)
  have hcd := own_coda (yn := yn) (mn := mn) (dn := dn) hy hm2 hd2
  have hb0 := own_hb (yn := yn) (mn := mn) (dn := dn) hy hm2 hd2
  have S205 : Go p e below s₁ (eF_num0 m a (0 : Int32) (4 : Int32)) s₁ (mkF m 5 #[vR a, vI (0 : Int32), vI (4 : Int32), vI (0 : Int32), vI (0 : Int32)] []) := fun t kt => S0 t (by
    refine XS.iconst X0.here hx rfl (hb hby d19_0) ?_
    refine XS.istoreN X0.here hx rfl (hb hby d19_1) rfl (l' := #[vR a, vI (0 : Int32), vI (4 : Int32), vI (0 : Int32), vU]) rfl ?_
    show Sp p e below s₁ (mkF m 2 #[vR a, vI (0 : Int32), vI (4 : Int32), vI (0 : Int32), vU] []) _
    refine XS.iloadN X0.here hx rfl (hb hby d19_2) rfl ?_
    refine XS.istore X0.here hx rfl (hb hby d19_3) rfl (l' := #[vR a, vI (0 : Int32), vI (4 : Int32), vI (0 : Int32), vI (0 : Int32)]) rfl ?_
    show Sp p e below s₁ (mkF m 5 #[vR a, vI (0 : Int32), vI (4 : Int32), vI (0 : Int32), vI (0 : Int32)] []) _
    exact kt)
  clear S0
  have S0z : Go p e below s₁ (eF_num0 m a (0 : Int32) (4 : Int32)) s₁ (mkF m 5 #[vR a, vI (0 : Int32), vI (4 : Int32), vI (Int32.ofNat 0), vI (0 : Int32)] []) := S205
  have S206 : Go p e below s₁ (eF_num0 m a (0 : Int32) (4 : Int32)) s₁ (mkF m 18 #[vR a, vI (0 : Int32), vI (4 : Int32), vI (Int32.ofNat 0), vI (0 : Int32)] [(.int (0 : Int32)), (.ref a), (.int ((Int32.ofNat 0) * (10 : Int32)))]) := fun t kt => S0z t (by
    refine XS.iload X0.here hx rfl (hb hby d19_5) rfl ?_
    refine XS.iloadN X0.here hx rfl (hb hby d19_7) rfl ?_
    show Sp p e below s₁ (mkF m 8 #[vR a, vI (0 : Int32), vI (4 : Int32), vI (Int32.ofNat 0), vI (0 : Int32)] [(.int (4 : Int32)), (.int (0 : Int32))]) _
    refine XS.icmpNo X0.here hx rfl (hb hby d19_8) rfl (tlt (show (0 : Int32) < (4 : Int32) from (by decide))).2.1 ?_
    refine XS.iloadN X0.here hx rfl (hb hby d19_11) rfl ?_
    show Sp p e below s₁ (mkF m 12 #[vR a, vI (0 : Int32), vI (4 : Int32), vI (Int32.ofNat 0), vI (0 : Int32)] [(.int (Int32.ofNat 0))]) _
    refine XS.bipush X0.here hx rfl (hb hby d19_12) ?_
    refine XS.imul X0.here hx rfl (hb hby d19_14) rfl ?_
    show Sp p e below s₁ (mkF m 15 #[vR a, vI (0 : Int32), vI (4 : Int32), vI (Int32.ofNat 0), vI (0 : Int32)] [(.int ((Int32.ofNat 0) * (10 : Int32)))]) _
    refine XS.aloadN X0.here hx rfl (hb hby d19_15) rfl rfl ?_
    refine XS.iload X0.here hx rfl (hb hby d19_16) rfl ?_
    show Sp p e below s₁ (mkF m 18 #[vR a, vI (0 : Int32), vI (4 : Int32), vI (Int32.ofNat 0), vI (0 : Int32)] [(.int (0 : Int32)), (.ref a), (.int ((Int32.ofNat 0) * (10 : Int32)))]) _
    exact kt)
  clear S0z
  obtain ⟨cq207, kq207, q207a, q207b, q207c⟩ := isOf hZ e0 E
  obtain ⟨v207, T207, L207, X207, hQ207, st207⟩ := own_outV (Q := (fun v h' L => v = some (.int ((own_tx yn mn dn).getD 0 0)) ∧ L = [] ∧ h' = h0)) (X0.virtualBack hx (y := (⟨"java/lang/String", "charAt", "(I)C"⟩ : MethodName)) (z := (⟨"java/lang/String", "charAt", "(I)C"⟩ : MethodName)) hown (mvT hZ (own_h hw 55 rfl)) (mvT hZ (own_h hw 56 rfl)) (notFace_of_selects (args := #[]) (mvT hZ (own_h hw 58 rfl))) (mvT hZ (own_h hw 58 rfl)) (mvT hZ (own_h hw 57 rfl)) (by decide) (StrChars.Road.chN (W := 1) hZ hch (kI := 4) (own_h hw 7 rfl) E G F V hcd hb0 (S_cs.ext O0.2) hcz (S_fm.ext O0.2) hfm (Nat.le_of_ble_eq_true rfl) (i := 0) (Nat.le_of_ble_eq_true rfl) (j := (0 : Int32)) rfl (by decide) (by decide)) q207a q207c (g := (mkF m 18 #[vR a, vI (0 : Int32), vI (4 : Int32), vI (Int32.ofNat 0), vI (0 : Int32)] [(.int (0 : Int32)), (.ref a), (.int ((Int32.ofNat 0) * (10 : Int32)))])) rfl (by rw [hml]; rfl) (Steps.refl _) (argsL := [(.int (0 : Int32))]) (rest := [(.int ((Int32.ofNat 0) * (10 : Int32)))]) (lenOf pd__I_C rfl) rfl (by show 2 * 0 + _ ≤ _; exact Nat.le_of_eq rfl) (hb hby d19_18) (fun _ _ => ⟨rfl, e0, (by decide : 0 + 0 ≤ _), (by decide : 0 + 0 ≤ _)⟩))
  obtain ⟨rfl, rfl, e207⟩ := hQ207
  have N207 := Fr.app N0 (Fr.nil n0)
  have S208 : Go p e below s₁ (eF_num0 m a (0 : Int32) (4 : Int32)) T207 (mkF m 21 #[vR a, vI (0 : Int32), vI (4 : Int32), vI (Int32.ofNat 0), vI (0 : Int32)] [(.int ((own_tx yn mn dn).getD 0 0)), (.int ((Int32.ofNat 0) * (10 : Int32)))]) := fun t kt => S206 t (st207 t kt)
  clear S206 st207 X0 e0
  have q210 : ((own_tx yn mn dn).getD 0 0) = (own_c (yn / 1000)) := rfl
  have S209 : Go p e below s₁ (eF_num0 m a (0 : Int32) (4 : Int32)) T207 (mkF m 21 #[vR a, vI (0 : Int32), vI (4 : Int32), vI (Int32.ofNat 0), vI (0 : Int32)] [(.int (own_c (yn / 1000))), (.int ((Int32.ofNat 0) * (10 : Int32)))]) := by have h := S208; rw [q210] at h; exact h
  clear S208
  have S211 : Go p e below s₁ (eF_num0 m a (0 : Int32) (4 : Int32)) T207 (mkF m 25 #[vR a, vI (0 : Int32), vI (4 : Int32), vI (Int32.ofNat 0), vI (0 : Int32)] [(.int ((((Int32.ofNat 0) * (10 : Int32)) + (own_c (yn / 1000))) - (48 : Int32)))]) := fun t kt => S209 t (by
    refine XS.iadd X207.here hx rfl (hb hby d19_21) rfl ?_
    refine XS.bipush X207.here hx rfl (hb hby d19_22) ?_
    show Sp p e below T207 (mkF m 24 #[vR a, vI (0 : Int32), vI (4 : Int32), vI (Int32.ofNat 0), vI (0 : Int32)] [(.int (48 : Int32)), (.int (((Int32.ofNat 0) * (10 : Int32)) + (own_c (yn / 1000))))]) _
    refine XS.isub X207.here hx rfl (hb hby d19_24) rfl ?_
    exact kt)
  clear S209
  have q213 : ((((Int32.ofNat 0) * (10 : Int32)) + (own_c (yn / 1000))) - (48 : Int32)) = (Int32.ofNat ((0) * 10 + (yn / 1000))) := own_acc _ _
  have S212 : Go p e below s₁ (eF_num0 m a (0 : Int32) (4 : Int32)) T207 (mkF m 25 #[vR a, vI (0 : Int32), vI (4 : Int32), vI (Int32.ofNat 0), vI (0 : Int32)] [(.int (Int32.ofNat ((0) * 10 + (yn / 1000))))]) := by have h := S211; rw [q213] at h; exact h
  clear S211
  have S214 : Go p e below s₁ (eF_num0 m a (0 : Int32) (4 : Int32)) T207 (mkF m 5 #[vR a, vI (0 : Int32), vI (4 : Int32), vI (Int32.ofNat ((0) * 10 + (yn / 1000))), vI ((0 : Int32) + (1 : Int32))] []) := fun t kt => S212 t (by
    refine XS.istoreN X207.here hx rfl (hb hby d19_25) rfl (l' := #[vR a, vI (0 : Int32), vI (4 : Int32), vI (Int32.ofNat ((0) * 10 + (yn / 1000))), vI (0 : Int32)]) rfl ?_
    refine XS.iinc X207.here hx rfl (hb hby d19_26) rfl (l' := #[vR a, vI (0 : Int32), vI (4 : Int32), vI (Int32.ofNat ((0) * 10 + (yn / 1000))), vI ((0 : Int32) + (1 : Int32))]) rfl ?_
    show Sp p e below T207 (mkF m 29 #[vR a, vI (0 : Int32), vI (4 : Int32), vI (Int32.ofNat ((0) * 10 + (yn / 1000))), vI ((0 : Int32) + (1 : Int32))] []) _
    refine XS.goto X207.here hx rfl (pc0 := 29) (pc' := 5) rfl (hb hby d19_29) (by decide) (by decide) ?_
    exact kt)
  clear S212
  have q216 : ((0 : Int32) + (1 : Int32)) = (1 : Int32) := by decide
  have S215 : Go p e below s₁ (eF_num0 m a (0 : Int32) (4 : Int32)) T207 (mkF m 5 #[vR a, vI (0 : Int32), vI (4 : Int32), vI (Int32.ofNat ((0) * 10 + (yn / 1000))), vI (1 : Int32)] []) := by have h := S214; rw [q216] at h; exact h
  clear S214
  have S217 : Go p e below s₁ (eF_num0 m a (0 : Int32) (4 : Int32)) T207 (mkF m 18 #[vR a, vI (0 : Int32), vI (4 : Int32), vI (Int32.ofNat ((0) * 10 + (yn / 1000))), vI (1 : Int32)] [(.int (1 : Int32)), (.ref a), (.int ((Int32.ofNat ((0) * 10 + (yn / 1000))) * (10 : Int32)))]) := fun t kt => S215 t (by
    refine XS.iload X207.here hx rfl (hb hby d19_5) rfl ?_
    refine XS.iloadN X207.here hx rfl (hb hby d19_7) rfl ?_
    show Sp p e below T207 (mkF m 8 #[vR a, vI (0 : Int32), vI (4 : Int32), vI (Int32.ofNat ((0) * 10 + (yn / 1000))), vI (1 : Int32)] [(.int (4 : Int32)), (.int (1 : Int32))]) _
    refine XS.icmpNo X207.here hx rfl (hb hby d19_8) rfl (tlt (show (1 : Int32) < (4 : Int32) from (by decide))).2.1 ?_
    refine XS.iloadN X207.here hx rfl (hb hby d19_11) rfl ?_
    show Sp p e below T207 (mkF m 12 #[vR a, vI (0 : Int32), vI (4 : Int32), vI (Int32.ofNat ((0) * 10 + (yn / 1000))), vI (1 : Int32)] [(.int (Int32.ofNat ((0) * 10 + (yn / 1000))))]) _
    refine XS.bipush X207.here hx rfl (hb hby d19_12) ?_
    refine XS.imul X207.here hx rfl (hb hby d19_14) rfl ?_
    show Sp p e below T207 (mkF m 15 #[vR a, vI (0 : Int32), vI (4 : Int32), vI (Int32.ofNat ((0) * 10 + (yn / 1000))), vI (1 : Int32)] [(.int ((Int32.ofNat ((0) * 10 + (yn / 1000))) * (10 : Int32)))]) _
    refine XS.aloadN X207.here hx rfl (hb hby d19_15) rfl rfl ?_
    refine XS.iload X207.here hx rfl (hb hby d19_16) rfl ?_
    show Sp p e below T207 (mkF m 18 #[vR a, vI (0 : Int32), vI (4 : Int32), vI (Int32.ofNat ((0) * 10 + (yn / 1000))), vI (1 : Int32)] [(.int (1 : Int32)), (.ref a), (.int ((Int32.ofNat ((0) * 10 + (yn / 1000))) * (10 : Int32)))]) _
    exact kt)
  clear S215
  obtain ⟨cq218, kq218, q218a, q218b, q218c⟩ := isOf hZ e207 E
  obtain ⟨v218, T218, L218, X218, hQ218, st218⟩ := own_outV (Q := (fun v h' L => v = some (.int ((own_tx yn mn dn).getD 1 0)) ∧ L = [] ∧ h' = h0)) (X207.virtualBack hx (y := (⟨"java/lang/String", "charAt", "(I)C"⟩ : MethodName)) (z := (⟨"java/lang/String", "charAt", "(I)C"⟩ : MethodName)) hown (mvT hZ (own_h hw 55 rfl)) (mvT hZ (own_h hw 56 rfl)) (notFace_of_selects (args := #[]) (mvT hZ (own_h hw 58 rfl))) (mvT hZ (own_h hw 58 rfl)) (mvT hZ (own_h hw 57 rfl)) (by decide) (StrChars.Road.chN (W := 1) hZ hch (kI := 4) (own_h hw 7 rfl) E G F V hcd hb0 (S_cs.ext O0.2) hcz (S_fm.ext O0.2) hfm (Nat.le_of_ble_eq_true rfl) (i := 1) (Nat.le_of_ble_eq_true rfl) (j := (1 : Int32)) rfl (by decide) (by decide)) q218a q218c (g := (mkF m 18 #[vR a, vI (0 : Int32), vI (4 : Int32), vI (Int32.ofNat ((0) * 10 + (yn / 1000))), vI (1 : Int32)] [(.int (1 : Int32)), (.ref a), (.int ((Int32.ofNat ((0) * 10 + (yn / 1000))) * (10 : Int32)))])) rfl (by rw [hml]; rfl) (Steps.refl _) (argsL := [(.int (1 : Int32))]) (rest := [(.int ((Int32.ofNat ((0) * 10 + (yn / 1000))) * (10 : Int32)))]) (lenOf pd__I_C rfl) rfl (by show 2 * 0 + _ ≤ _; exact Nat.le_of_eq rfl) (hb hby d19_18) (fun _ _ => ⟨rfl, e207, (by decide : 0 + 0 ≤ _), (by decide : 0 + 0 ≤ _)⟩))
  obtain ⟨rfl, rfl, e218⟩ := hQ218
  have N218 := Fr.app N207 (Fr.nil n0)
  have S219 : Go p e below s₁ (eF_num0 m a (0 : Int32) (4 : Int32)) T218 (mkF m 21 #[vR a, vI (0 : Int32), vI (4 : Int32), vI (Int32.ofNat ((0) * 10 + (yn / 1000))), vI (1 : Int32)] [(.int ((own_tx yn mn dn).getD 1 0)), (.int ((Int32.ofNat ((0) * 10 + (yn / 1000))) * (10 : Int32)))]) := fun t kt => S217 t (st218 t kt)
  clear S217 st218 X207 e207
  have q221 : ((own_tx yn mn dn).getD 1 0) = (own_c (yn / 100 % 10)) := rfl
  have S220 : Go p e below s₁ (eF_num0 m a (0 : Int32) (4 : Int32)) T218 (mkF m 21 #[vR a, vI (0 : Int32), vI (4 : Int32), vI (Int32.ofNat ((0) * 10 + (yn / 1000))), vI (1 : Int32)] [(.int (own_c (yn / 100 % 10))), (.int ((Int32.ofNat ((0) * 10 + (yn / 1000))) * (10 : Int32)))]) := by have h := S219; rw [q221] at h; exact h
  clear S219
  have S222 : Go p e below s₁ (eF_num0 m a (0 : Int32) (4 : Int32)) T218 (mkF m 25 #[vR a, vI (0 : Int32), vI (4 : Int32), vI (Int32.ofNat ((0) * 10 + (yn / 1000))), vI (1 : Int32)] [(.int ((((Int32.ofNat ((0) * 10 + (yn / 1000))) * (10 : Int32)) + (own_c (yn / 100 % 10))) - (48 : Int32)))]) := fun t kt => S220 t (by
    refine XS.iadd X218.here hx rfl (hb hby d19_21) rfl ?_
    refine XS.bipush X218.here hx rfl (hb hby d19_22) ?_
    show Sp p e below T218 (mkF m 24 #[vR a, vI (0 : Int32), vI (4 : Int32), vI (Int32.ofNat ((0) * 10 + (yn / 1000))), vI (1 : Int32)] [(.int (48 : Int32)), (.int (((Int32.ofNat ((0) * 10 + (yn / 1000))) * (10 : Int32)) + (own_c (yn / 100 % 10))))]) _
    refine XS.isub X218.here hx rfl (hb hby d19_24) rfl ?_
    exact kt)
  clear S220
  have q224 : ((((Int32.ofNat ((0) * 10 + (yn / 1000))) * (10 : Int32)) + (own_c (yn / 100 % 10))) - (48 : Int32)) = (Int32.ofNat (((0) * 10 + (yn / 1000)) * 10 + (yn / 100 % 10))) := own_acc _ _
  have S223 : Go p e below s₁ (eF_num0 m a (0 : Int32) (4 : Int32)) T218 (mkF m 25 #[vR a, vI (0 : Int32), vI (4 : Int32), vI (Int32.ofNat ((0) * 10 + (yn / 1000))), vI (1 : Int32)] [(.int (Int32.ofNat (((0) * 10 + (yn / 1000)) * 10 + (yn / 100 % 10))))]) := by have h := S222; rw [q224] at h; exact h
  clear S222
  have S225 : Go p e below s₁ (eF_num0 m a (0 : Int32) (4 : Int32)) T218 (mkF m 5 #[vR a, vI (0 : Int32), vI (4 : Int32), vI (Int32.ofNat (((0) * 10 + (yn / 1000)) * 10 + (yn / 100 % 10))), vI ((1 : Int32) + (1 : Int32))] []) := fun t kt => S223 t (by
    refine XS.istoreN X218.here hx rfl (hb hby d19_25) rfl (l' := #[vR a, vI (0 : Int32), vI (4 : Int32), vI (Int32.ofNat (((0) * 10 + (yn / 1000)) * 10 + (yn / 100 % 10))), vI (1 : Int32)]) rfl ?_
    refine XS.iinc X218.here hx rfl (hb hby d19_26) rfl (l' := #[vR a, vI (0 : Int32), vI (4 : Int32), vI (Int32.ofNat (((0) * 10 + (yn / 1000)) * 10 + (yn / 100 % 10))), vI ((1 : Int32) + (1 : Int32))]) rfl ?_
    show Sp p e below T218 (mkF m 29 #[vR a, vI (0 : Int32), vI (4 : Int32), vI (Int32.ofNat (((0) * 10 + (yn / 1000)) * 10 + (yn / 100 % 10))), vI ((1 : Int32) + (1 : Int32))] []) _
    refine XS.goto X218.here hx rfl (pc0 := 29) (pc' := 5) rfl (hb hby d19_29) (by decide) (by decide) ?_
    exact kt)
  clear S223
  have q227 : ((1 : Int32) + (1 : Int32)) = (2 : Int32) := by decide
  have S226 : Go p e below s₁ (eF_num0 m a (0 : Int32) (4 : Int32)) T218 (mkF m 5 #[vR a, vI (0 : Int32), vI (4 : Int32), vI (Int32.ofNat (((0) * 10 + (yn / 1000)) * 10 + (yn / 100 % 10))), vI (2 : Int32)] []) := by have h := S225; rw [q227] at h; exact h
  clear S225
  have S228 : Go p e below s₁ (eF_num0 m a (0 : Int32) (4 : Int32)) T218 (mkF m 18 #[vR a, vI (0 : Int32), vI (4 : Int32), vI (Int32.ofNat (((0) * 10 + (yn / 1000)) * 10 + (yn / 100 % 10))), vI (2 : Int32)] [(.int (2 : Int32)), (.ref a), (.int ((Int32.ofNat (((0) * 10 + (yn / 1000)) * 10 + (yn / 100 % 10))) * (10 : Int32)))]) := fun t kt => S226 t (by
    refine XS.iload X218.here hx rfl (hb hby d19_5) rfl ?_
    refine XS.iloadN X218.here hx rfl (hb hby d19_7) rfl ?_
    show Sp p e below T218 (mkF m 8 #[vR a, vI (0 : Int32), vI (4 : Int32), vI (Int32.ofNat (((0) * 10 + (yn / 1000)) * 10 + (yn / 100 % 10))), vI (2 : Int32)] [(.int (4 : Int32)), (.int (2 : Int32))]) _
    refine XS.icmpNo X218.here hx rfl (hb hby d19_8) rfl (tlt (show (2 : Int32) < (4 : Int32) from (by decide))).2.1 ?_
    refine XS.iloadN X218.here hx rfl (hb hby d19_11) rfl ?_
    show Sp p e below T218 (mkF m 12 #[vR a, vI (0 : Int32), vI (4 : Int32), vI (Int32.ofNat (((0) * 10 + (yn / 1000)) * 10 + (yn / 100 % 10))), vI (2 : Int32)] [(.int (Int32.ofNat (((0) * 10 + (yn / 1000)) * 10 + (yn / 100 % 10))))]) _
    refine XS.bipush X218.here hx rfl (hb hby d19_12) ?_
    refine XS.imul X218.here hx rfl (hb hby d19_14) rfl ?_
    show Sp p e below T218 (mkF m 15 #[vR a, vI (0 : Int32), vI (4 : Int32), vI (Int32.ofNat (((0) * 10 + (yn / 1000)) * 10 + (yn / 100 % 10))), vI (2 : Int32)] [(.int ((Int32.ofNat (((0) * 10 + (yn / 1000)) * 10 + (yn / 100 % 10))) * (10 : Int32)))]) _
    refine XS.aloadN X218.here hx rfl (hb hby d19_15) rfl rfl ?_
    refine XS.iload X218.here hx rfl (hb hby d19_16) rfl ?_
    show Sp p e below T218 (mkF m 18 #[vR a, vI (0 : Int32), vI (4 : Int32), vI (Int32.ofNat (((0) * 10 + (yn / 1000)) * 10 + (yn / 100 % 10))), vI (2 : Int32)] [(.int (2 : Int32)), (.ref a), (.int ((Int32.ofNat (((0) * 10 + (yn / 1000)) * 10 + (yn / 100 % 10))) * (10 : Int32)))]) _
    exact kt)
  clear S226
  obtain ⟨cq229, kq229, q229a, q229b, q229c⟩ := isOf hZ e218 E
  obtain ⟨v229, T229, L229, X229, hQ229, st229⟩ := own_outV (Q := (fun v h' L => v = some (.int ((own_tx yn mn dn).getD 2 0)) ∧ L = [] ∧ h' = h0)) (X218.virtualBack hx (y := (⟨"java/lang/String", "charAt", "(I)C"⟩ : MethodName)) (z := (⟨"java/lang/String", "charAt", "(I)C"⟩ : MethodName)) hown (mvT hZ (own_h hw 55 rfl)) (mvT hZ (own_h hw 56 rfl)) (notFace_of_selects (args := #[]) (mvT hZ (own_h hw 58 rfl))) (mvT hZ (own_h hw 58 rfl)) (mvT hZ (own_h hw 57 rfl)) (by decide) (StrChars.Road.chN (W := 1) hZ hch (kI := 4) (own_h hw 7 rfl) E G F V hcd hb0 (S_cs.ext O0.2) hcz (S_fm.ext O0.2) hfm (Nat.le_of_ble_eq_true rfl) (i := 2) (Nat.le_of_ble_eq_true rfl) (j := (2 : Int32)) rfl (by decide) (by decide)) q229a q229c (g := (mkF m 18 #[vR a, vI (0 : Int32), vI (4 : Int32), vI (Int32.ofNat (((0) * 10 + (yn / 1000)) * 10 + (yn / 100 % 10))), vI (2 : Int32)] [(.int (2 : Int32)), (.ref a), (.int ((Int32.ofNat (((0) * 10 + (yn / 1000)) * 10 + (yn / 100 % 10))) * (10 : Int32)))])) rfl (by rw [hml]; rfl) (Steps.refl _) (argsL := [(.int (2 : Int32))]) (rest := [(.int ((Int32.ofNat (((0) * 10 + (yn / 1000)) * 10 + (yn / 100 % 10))) * (10 : Int32)))]) (lenOf pd__I_C rfl) rfl (by show 2 * 0 + _ ≤ _; exact Nat.le_of_eq rfl) (hb hby d19_18) (fun _ _ => ⟨rfl, e218, (by decide : 0 + 0 ≤ _), (by decide : 0 + 0 ≤ _)⟩))
  obtain ⟨rfl, rfl, e229⟩ := hQ229
  have N229 := Fr.app N218 (Fr.nil n0)
  have S230 : Go p e below s₁ (eF_num0 m a (0 : Int32) (4 : Int32)) T229 (mkF m 21 #[vR a, vI (0 : Int32), vI (4 : Int32), vI (Int32.ofNat (((0) * 10 + (yn / 1000)) * 10 + (yn / 100 % 10))), vI (2 : Int32)] [(.int ((own_tx yn mn dn).getD 2 0)), (.int ((Int32.ofNat (((0) * 10 + (yn / 1000)) * 10 + (yn / 100 % 10))) * (10 : Int32)))]) := fun t kt => S228 t (st229 t kt)
  clear S228 st229 X218 e218
  have q232 : ((own_tx yn mn dn).getD 2 0) = (own_c (yn / 10 % 10)) := rfl
  have S231 : Go p e below s₁ (eF_num0 m a (0 : Int32) (4 : Int32)) T229 (mkF m 21 #[vR a, vI (0 : Int32), vI (4 : Int32), vI (Int32.ofNat (((0) * 10 + (yn / 1000)) * 10 + (yn / 100 % 10))), vI (2 : Int32)] [(.int (own_c (yn / 10 % 10))), (.int ((Int32.ofNat (((0) * 10 + (yn / 1000)) * 10 + (yn / 100 % 10))) * (10 : Int32)))]) := by have h := S230; rw [q232] at h; exact h
  clear S230
  have S233 : Go p e below s₁ (eF_num0 m a (0 : Int32) (4 : Int32)) T229 (mkF m 25 #[vR a, vI (0 : Int32), vI (4 : Int32), vI (Int32.ofNat (((0) * 10 + (yn / 1000)) * 10 + (yn / 100 % 10))), vI (2 : Int32)] [(.int ((((Int32.ofNat (((0) * 10 + (yn / 1000)) * 10 + (yn / 100 % 10))) * (10 : Int32)) + (own_c (yn / 10 % 10))) - (48 : Int32)))]) := fun t kt => S231 t (by
    refine XS.iadd X229.here hx rfl (hb hby d19_21) rfl ?_
    refine XS.bipush X229.here hx rfl (hb hby d19_22) ?_
    show Sp p e below T229 (mkF m 24 #[vR a, vI (0 : Int32), vI (4 : Int32), vI (Int32.ofNat (((0) * 10 + (yn / 1000)) * 10 + (yn / 100 % 10))), vI (2 : Int32)] [(.int (48 : Int32)), (.int (((Int32.ofNat (((0) * 10 + (yn / 1000)) * 10 + (yn / 100 % 10))) * (10 : Int32)) + (own_c (yn / 10 % 10))))]) _
    refine XS.isub X229.here hx rfl (hb hby d19_24) rfl ?_
    exact kt)
  clear S231
  have q235 : ((((Int32.ofNat (((0) * 10 + (yn / 1000)) * 10 + (yn / 100 % 10))) * (10 : Int32)) + (own_c (yn / 10 % 10))) - (48 : Int32)) = (Int32.ofNat ((((0) * 10 + (yn / 1000)) * 10 + (yn / 100 % 10)) * 10 + (yn / 10 % 10))) := own_acc _ _
  have S234 : Go p e below s₁ (eF_num0 m a (0 : Int32) (4 : Int32)) T229 (mkF m 25 #[vR a, vI (0 : Int32), vI (4 : Int32), vI (Int32.ofNat (((0) * 10 + (yn / 1000)) * 10 + (yn / 100 % 10))), vI (2 : Int32)] [(.int (Int32.ofNat ((((0) * 10 + (yn / 1000)) * 10 + (yn / 100 % 10)) * 10 + (yn / 10 % 10))))]) := by have h := S233; rw [q235] at h; exact h
  clear S233
  have S236 : Go p e below s₁ (eF_num0 m a (0 : Int32) (4 : Int32)) T229 (mkF m 5 #[vR a, vI (0 : Int32), vI (4 : Int32), vI (Int32.ofNat ((((0) * 10 + (yn / 1000)) * 10 + (yn / 100 % 10)) * 10 + (yn / 10 % 10))), vI ((2 : Int32) + (1 : Int32))] []) := fun t kt => S234 t (by
    refine XS.istoreN X229.here hx rfl (hb hby d19_25) rfl (l' := #[vR a, vI (0 : Int32), vI (4 : Int32), vI (Int32.ofNat ((((0) * 10 + (yn / 1000)) * 10 + (yn / 100 % 10)) * 10 + (yn / 10 % 10))), vI (2 : Int32)]) rfl ?_
    refine XS.iinc X229.here hx rfl (hb hby d19_26) rfl (l' := #[vR a, vI (0 : Int32), vI (4 : Int32), vI (Int32.ofNat ((((0) * 10 + (yn / 1000)) * 10 + (yn / 100 % 10)) * 10 + (yn / 10 % 10))), vI ((2 : Int32) + (1 : Int32))]) rfl ?_
    show Sp p e below T229 (mkF m 29 #[vR a, vI (0 : Int32), vI (4 : Int32), vI (Int32.ofNat ((((0) * 10 + (yn / 1000)) * 10 + (yn / 100 % 10)) * 10 + (yn / 10 % 10))), vI ((2 : Int32) + (1 : Int32))] []) _
    refine XS.goto X229.here hx rfl (pc0 := 29) (pc' := 5) rfl (hb hby d19_29) (by decide) (by decide) ?_
    exact kt)
  clear S234
  have q238 : ((2 : Int32) + (1 : Int32)) = (3 : Int32) := by decide
  have S237 : Go p e below s₁ (eF_num0 m a (0 : Int32) (4 : Int32)) T229 (mkF m 5 #[vR a, vI (0 : Int32), vI (4 : Int32), vI (Int32.ofNat ((((0) * 10 + (yn / 1000)) * 10 + (yn / 100 % 10)) * 10 + (yn / 10 % 10))), vI (3 : Int32)] []) := by have h := S236; rw [q238] at h; exact h
  clear S236
  have S239 : Go p e below s₁ (eF_num0 m a (0 : Int32) (4 : Int32)) T229 (mkF m 18 #[vR a, vI (0 : Int32), vI (4 : Int32), vI (Int32.ofNat ((((0) * 10 + (yn / 1000)) * 10 + (yn / 100 % 10)) * 10 + (yn / 10 % 10))), vI (3 : Int32)] [(.int (3 : Int32)), (.ref a), (.int ((Int32.ofNat ((((0) * 10 + (yn / 1000)) * 10 + (yn / 100 % 10)) * 10 + (yn / 10 % 10))) * (10 : Int32)))]) := fun t kt => S237 t (by
    refine XS.iload X229.here hx rfl (hb hby d19_5) rfl ?_
    refine XS.iloadN X229.here hx rfl (hb hby d19_7) rfl ?_
    show Sp p e below T229 (mkF m 8 #[vR a, vI (0 : Int32), vI (4 : Int32), vI (Int32.ofNat ((((0) * 10 + (yn / 1000)) * 10 + (yn / 100 % 10)) * 10 + (yn / 10 % 10))), vI (3 : Int32)] [(.int (4 : Int32)), (.int (3 : Int32))]) _
    refine XS.icmpNo X229.here hx rfl (hb hby d19_8) rfl (tlt (show (3 : Int32) < (4 : Int32) from (by decide))).2.1 ?_
    refine XS.iloadN X229.here hx rfl (hb hby d19_11) rfl ?_
    show Sp p e below T229 (mkF m 12 #[vR a, vI (0 : Int32), vI (4 : Int32), vI (Int32.ofNat ((((0) * 10 + (yn / 1000)) * 10 + (yn / 100 % 10)) * 10 + (yn / 10 % 10))), vI (3 : Int32)] [(.int (Int32.ofNat ((((0) * 10 + (yn / 1000)) * 10 + (yn / 100 % 10)) * 10 + (yn / 10 % 10))))]) _
    refine XS.bipush X229.here hx rfl (hb hby d19_12) ?_
    refine XS.imul X229.here hx rfl (hb hby d19_14) rfl ?_
    show Sp p e below T229 (mkF m 15 #[vR a, vI (0 : Int32), vI (4 : Int32), vI (Int32.ofNat ((((0) * 10 + (yn / 1000)) * 10 + (yn / 100 % 10)) * 10 + (yn / 10 % 10))), vI (3 : Int32)] [(.int ((Int32.ofNat ((((0) * 10 + (yn / 1000)) * 10 + (yn / 100 % 10)) * 10 + (yn / 10 % 10))) * (10 : Int32)))]) _
    refine XS.aloadN X229.here hx rfl (hb hby d19_15) rfl rfl ?_
    refine XS.iload X229.here hx rfl (hb hby d19_16) rfl ?_
    show Sp p e below T229 (mkF m 18 #[vR a, vI (0 : Int32), vI (4 : Int32), vI (Int32.ofNat ((((0) * 10 + (yn / 1000)) * 10 + (yn / 100 % 10)) * 10 + (yn / 10 % 10))), vI (3 : Int32)] [(.int (3 : Int32)), (.ref a), (.int ((Int32.ofNat ((((0) * 10 + (yn / 1000)) * 10 + (yn / 100 % 10)) * 10 + (yn / 10 % 10))) * (10 : Int32)))]) _
    exact kt)
  clear S237
  obtain ⟨cq240, kq240, q240a, q240b, q240c⟩ := isOf hZ e229 E
  obtain ⟨v240, T240, L240, X240, hQ240, st240⟩ := own_outV (Q := (fun v h' L => v = some (.int ((own_tx yn mn dn).getD 3 0)) ∧ L = [] ∧ h' = h0)) (X229.virtualBack hx (y := (⟨"java/lang/String", "charAt", "(I)C"⟩ : MethodName)) (z := (⟨"java/lang/String", "charAt", "(I)C"⟩ : MethodName)) hown (mvT hZ (own_h hw 55 rfl)) (mvT hZ (own_h hw 56 rfl)) (notFace_of_selects (args := #[]) (mvT hZ (own_h hw 58 rfl))) (mvT hZ (own_h hw 58 rfl)) (mvT hZ (own_h hw 57 rfl)) (by decide) (StrChars.Road.chN (W := 1) hZ hch (kI := 4) (own_h hw 7 rfl) E G F V hcd hb0 (S_cs.ext O0.2) hcz (S_fm.ext O0.2) hfm (Nat.le_of_ble_eq_true rfl) (i := 3) (Nat.le_of_ble_eq_true rfl) (j := (3 : Int32)) rfl (by decide) (by decide)) q240a q240c (g := (mkF m 18 #[vR a, vI (0 : Int32), vI (4 : Int32), vI (Int32.ofNat ((((0) * 10 + (yn / 1000)) * 10 + (yn / 100 % 10)) * 10 + (yn / 10 % 10))), vI (3 : Int32)] [(.int (3 : Int32)), (.ref a), (.int ((Int32.ofNat ((((0) * 10 + (yn / 1000)) * 10 + (yn / 100 % 10)) * 10 + (yn / 10 % 10))) * (10 : Int32)))])) rfl (by rw [hml]; rfl) (Steps.refl _) (argsL := [(.int (3 : Int32))]) (rest := [(.int ((Int32.ofNat ((((0) * 10 + (yn / 1000)) * 10 + (yn / 100 % 10)) * 10 + (yn / 10 % 10))) * (10 : Int32)))]) (lenOf pd__I_C rfl) rfl (by show 2 * 0 + _ ≤ _; exact Nat.le_of_eq rfl) (hb hby d19_18) (fun _ _ => ⟨rfl, e229, (by decide : 0 + 0 ≤ _), (by decide : 0 + 0 ≤ _)⟩))
  obtain ⟨rfl, rfl, e240⟩ := hQ240
  have N240 := Fr.app N229 (Fr.nil n0)
  have S241 : Go p e below s₁ (eF_num0 m a (0 : Int32) (4 : Int32)) T240 (mkF m 21 #[vR a, vI (0 : Int32), vI (4 : Int32), vI (Int32.ofNat ((((0) * 10 + (yn / 1000)) * 10 + (yn / 100 % 10)) * 10 + (yn / 10 % 10))), vI (3 : Int32)] [(.int ((own_tx yn mn dn).getD 3 0)), (.int ((Int32.ofNat ((((0) * 10 + (yn / 1000)) * 10 + (yn / 100 % 10)) * 10 + (yn / 10 % 10))) * (10 : Int32)))]) := fun t kt => S239 t (st240 t kt)
  clear S239 st240 X229 e229
  have q243 : ((own_tx yn mn dn).getD 3 0) = (own_c (yn % 10)) := rfl
  have S242 : Go p e below s₁ (eF_num0 m a (0 : Int32) (4 : Int32)) T240 (mkF m 21 #[vR a, vI (0 : Int32), vI (4 : Int32), vI (Int32.ofNat ((((0) * 10 + (yn / 1000)) * 10 + (yn / 100 % 10)) * 10 + (yn / 10 % 10))), vI (3 : Int32)] [(.int (own_c (yn % 10))), (.int ((Int32.ofNat ((((0) * 10 + (yn / 1000)) * 10 + (yn / 100 % 10)) * 10 + (yn / 10 % 10))) * (10 : Int32)))]) := by have h := S241; rw [q243] at h; exact h
  clear S241
  have S244 : Go p e below s₁ (eF_num0 m a (0 : Int32) (4 : Int32)) T240 (mkF m 25 #[vR a, vI (0 : Int32), vI (4 : Int32), vI (Int32.ofNat ((((0) * 10 + (yn / 1000)) * 10 + (yn / 100 % 10)) * 10 + (yn / 10 % 10))), vI (3 : Int32)] [(.int ((((Int32.ofNat ((((0) * 10 + (yn / 1000)) * 10 + (yn / 100 % 10)) * 10 + (yn / 10 % 10))) * (10 : Int32)) + (own_c (yn % 10))) - (48 : Int32)))]) := fun t kt => S242 t (by
    refine XS.iadd X240.here hx rfl (hb hby d19_21) rfl ?_
    refine XS.bipush X240.here hx rfl (hb hby d19_22) ?_
    show Sp p e below T240 (mkF m 24 #[vR a, vI (0 : Int32), vI (4 : Int32), vI (Int32.ofNat ((((0) * 10 + (yn / 1000)) * 10 + (yn / 100 % 10)) * 10 + (yn / 10 % 10))), vI (3 : Int32)] [(.int (48 : Int32)), (.int (((Int32.ofNat ((((0) * 10 + (yn / 1000)) * 10 + (yn / 100 % 10)) * 10 + (yn / 10 % 10))) * (10 : Int32)) + (own_c (yn % 10))))]) _
    refine XS.isub X240.here hx rfl (hb hby d19_24) rfl ?_
    exact kt)
  clear S242
  have q246 : ((((Int32.ofNat ((((0) * 10 + (yn / 1000)) * 10 + (yn / 100 % 10)) * 10 + (yn / 10 % 10))) * (10 : Int32)) + (own_c (yn % 10))) - (48 : Int32)) = (Int32.ofNat (((((0) * 10 + (yn / 1000)) * 10 + (yn / 100 % 10)) * 10 + (yn / 10 % 10)) * 10 + (yn % 10))) := own_acc _ _
  have S245 : Go p e below s₁ (eF_num0 m a (0 : Int32) (4 : Int32)) T240 (mkF m 25 #[vR a, vI (0 : Int32), vI (4 : Int32), vI (Int32.ofNat ((((0) * 10 + (yn / 1000)) * 10 + (yn / 100 % 10)) * 10 + (yn / 10 % 10))), vI (3 : Int32)] [(.int (Int32.ofNat (((((0) * 10 + (yn / 1000)) * 10 + (yn / 100 % 10)) * 10 + (yn / 10 % 10)) * 10 + (yn % 10))))]) := by have h := S244; rw [q246] at h; exact h
  clear S244
  have S247 : Go p e below s₁ (eF_num0 m a (0 : Int32) (4 : Int32)) T240 (mkF m 5 #[vR a, vI (0 : Int32), vI (4 : Int32), vI (Int32.ofNat (((((0) * 10 + (yn / 1000)) * 10 + (yn / 100 % 10)) * 10 + (yn / 10 % 10)) * 10 + (yn % 10))), vI ((3 : Int32) + (1 : Int32))] []) := fun t kt => S245 t (by
    refine XS.istoreN X240.here hx rfl (hb hby d19_25) rfl (l' := #[vR a, vI (0 : Int32), vI (4 : Int32), vI (Int32.ofNat (((((0) * 10 + (yn / 1000)) * 10 + (yn / 100 % 10)) * 10 + (yn / 10 % 10)) * 10 + (yn % 10))), vI (3 : Int32)]) rfl ?_
    refine XS.iinc X240.here hx rfl (hb hby d19_26) rfl (l' := #[vR a, vI (0 : Int32), vI (4 : Int32), vI (Int32.ofNat (((((0) * 10 + (yn / 1000)) * 10 + (yn / 100 % 10)) * 10 + (yn / 10 % 10)) * 10 + (yn % 10))), vI ((3 : Int32) + (1 : Int32))]) rfl ?_
    show Sp p e below T240 (mkF m 29 #[vR a, vI (0 : Int32), vI (4 : Int32), vI (Int32.ofNat (((((0) * 10 + (yn / 1000)) * 10 + (yn / 100 % 10)) * 10 + (yn / 10 % 10)) * 10 + (yn % 10))), vI ((3 : Int32) + (1 : Int32))] []) _
    refine XS.goto X240.here hx rfl (pc0 := 29) (pc' := 5) rfl (hb hby d19_29) (by decide) (by decide) ?_
    exact kt)
  clear S245
  have q249 : ((3 : Int32) + (1 : Int32)) = (4 : Int32) := by decide
  have S248 : Go p e below s₁ (eF_num0 m a (0 : Int32) (4 : Int32)) T240 (mkF m 5 #[vR a, vI (0 : Int32), vI (4 : Int32), vI (Int32.ofNat (((((0) * 10 + (yn / 1000)) * 10 + (yn / 100 % 10)) * 10 + (yn / 10 % 10)) * 10 + (yn % 10))), vI (4 : Int32)] []) := by have h := S247; rw [q249] at h; exact h
  clear S247
  have S250 : Go p e below s₁ (eF_num0 m a (0 : Int32) (4 : Int32)) T240 (mkF m 33 #[vR a, vI (0 : Int32), vI (4 : Int32), vI (Int32.ofNat (((((0) * 10 + (yn / 1000)) * 10 + (yn / 100 % 10)) * 10 + (yn / 10 % 10)) * 10 + (yn % 10))), vI (4 : Int32)] [(.int (Int32.ofNat (((((0) * 10 + (yn / 1000)) * 10 + (yn / 100 % 10)) * 10 + (yn / 10 % 10)) * 10 + (yn % 10))))]) := fun t kt => S248 t (by
    refine XS.iload X240.here hx rfl (hb hby d19_5) rfl ?_
    refine XS.iloadN X240.here hx rfl (hb hby d19_7) rfl ?_
    show Sp p e below T240 (mkF m 8 #[vR a, vI (0 : Int32), vI (4 : Int32), vI (Int32.ofNat (((((0) * 10 + (yn / 1000)) * 10 + (yn / 100 % 10)) * 10 + (yn / 10 % 10)) * 10 + (yn % 10))), vI (4 : Int32)] [(.int (4 : Int32)), (.int (4 : Int32))]) _
    refine XS.icmpYes X240.here hx rfl (pc0 := 8) (pc' := 32) rfl (hb hby d19_8) rfl (flt (show ¬ ((4 : Int32) < (4 : Int32)) from (by decide))).2.1 (by decide) (by decide) ?_
    refine XS.iloadN X240.here hx rfl (hb hby d19_32) rfl ?_
    show Sp p e below T240 (mkF m 33 #[vR a, vI (0 : Int32), vI (4 : Int32), vI (Int32.ofNat (((((0) * 10 + (yn / 1000)) * 10 + (yn / 100 % 10)) * 10 + (yn / 10 % 10)) * 10 + (yn % 10))), vI (4 : Int32)] [(.int (Int32.ofNat (((((0) * 10 + (yn / 1000)) * 10 + (yn / 100 % 10)) * 10 + (yn / 10 % 10)) * 10 + (yn % 10))))]) _
    exact kt)
  clear S248
  have q252 : (Int32.ofNat (((((0) * 10 + (yn / 1000)) * 10 + (yn / 100 % 10)) * 10 + (yn / 10 % 10)) * 10 + (yn % 10))) = (Int32.ofNat yn) := congrArg Int32.ofNat (by omega)
  have S251 : Go p e below s₁ (eF_num0 m a (0 : Int32) (4 : Int32)) T240 (mkF m 33 #[vR a, vI (0 : Int32), vI (4 : Int32), vI (Int32.ofNat yn), vI (4 : Int32)] [(.int (Int32.ofNat yn))]) := by have h := S250; rw [q252] at h; exact h
  clear S250
  obtain ⟨fs, hr, hrun, hended, hW, hsame⟩ := X240.leave (v := some (.int (Int32.ofNat yn))) (fun h => by first | rfl | (rw [Bd.returns] at h; cases h))
  refine ⟨_, _, S251 _ ?_, hrun, hended, _, _, rfl, ?_, ⟨_, rfl⟩, hW, hsame.mono (by decide) (by decide)⟩
  · exact retI X240 hx Bd.returns (hb hby d19_33) hr
  · show Q_num0 Z yn mn dn h0 n0 _ T240.heap _
    rw [e240]
    exact ⟨rfl, N240, rfl⟩
abbrev eF_num5 (m : MethodId) (x0 : Addr) (x1 : Int32) (x2 : Int32) : JFrame := entryFrame m #[(.ref x0), (.int x1), (.int x2)] 5
theorem ef_num5 (m : MethodId) (x0 : Addr) (x1 : Int32) (x2 : Int32) : entryFrame m #[(.ref x0), (.int x1), (.int x2)] 5 = mkF m 0 #[.val (.ref x0), .val (.int x1), .val (.int x2), .unset, .unset] [] := by first | (simp [entryFrame, mkF, argsToLocals, Value.category]; done) | rfl
theorem pn_num5 : plainName "com/example/tranchery/tranchery/journal/Fields" = true := by first | (simp [plainName, overriddenIn]; done) | decide +kernel
def Q_num5 (Z : State) (yn : Nat) (mn : Nat) (dn : Nat) (h0 : Heap) (n0 : Nat) (v : Option Value) (h : Heap) (L : List Loc) : Prop := v = some (.int (Int32.ofNat mn)) ∧ Fr n0 L ∧ h = h0
set_option maxRecDepth 65536 in
set_option maxHeartbeats 40000000 in
theorem rm_num5 (l : Launch) (Z : State) (a0 : Array Value) (hw : ∀ d ∈ tables_1, d.before a0 Z = true) (ws : List Jvm.Cond) (a : Addr) (b : Addr) (k : ClassId) (yn : Nat) (mn : Nat) (dn : Nat) (h0 : Heap) (n0 : Nat) (Z0 : n0 ≤ h0.size) (SS : own_St Z) (O0 : Old Z n0 h0) (E : Exa Z h0 a "java/lang/String") (F : Fld Z h0 a "java/lang/String" "coder" "B" (.int (0 : Int32))) (G : Fld Z h0 a "java/lang/String" "value" "[B" (.ref b)) (V : Arv Z h0 b k .byte (10 : Int32) (own_vs (own_tx yn mn dn)) (.int (0 : Int32))) (hy : yn ≤ 9999) (hm : 1 ≤ mn) (hm2 : mn ≤ 12) (hd : 1 ≤ dn) (hd2 : dn ≤ 28) :
    MetFree l (⟨"com/example/tranchery/tranchery/journal/Fields", "number", "(Ljava/lang/String;II)I"⟩ : MethodName) (head1 (Jvm.Cond.code (⟨"com/example/tranchery/tranchery/journal/Fields", "number", "(Ljava/lang/String;II)I"⟩ : MethodName) prog_34_method_21_code 5 (some .int) :: ws) ({ frames := 4, cells := 0, slots := 0, locals := 54 } : Room)) (fun aa U => aa = #[(.ref a), (.int (5 : Int32)), (.int (7 : Int32))] ∧ Z.Warmed39 U.vm ∧ U.heap = h0) (fun _ _ _ _ _ => True) (fun _ U o U' => ∃ v L, o = .returned v ∧ Q_num5 Z yn mn dn h0 n0 v U'.heap L ∧ FrameEnd U o U' L ({ frames := 4, cells := 0, slots := 0, locals := 54 } : Room).cells ({ frames := 4, cells := 0, slots := 0, locals := 54 } : Room).slots) := by
  refine MetFree.of_bodySF (plainFor_of_name pn_num5) hisR ?_
  intro p e s m args below meth c s₁ Bd hml0 hP hK
  obtain ⟨rfl, hZ, hh⟩ := hP
  have hx := Bd.exec
  have hby := Bd.bytes
  have hml : c.maxLocals = 5 := hml0
  have hown : s.vm.findClass "com/example/tranchery/tranchery/journal/Fields" = some m.cls := findClass_of_methodNamed Bd.named
  have hnm := (name_of_methodNamed Bd.named Bd.method).1
  have X0 : Stand p l e ({ frames := 4, cells := 0, slots := 0, locals := 54 } : Room) s m #[(.ref a), (.int (5 : Int32)), (.int (7 : Int32))] below meth c s₁ [] 0 0 := Stand.of_body Bd
  have e0 : s₁.heap = h0 := by rw [← hh, Bd.state]; rfl
  have N0 := Fr.nil n0
  have S0 : Go p e below s₁ (eF_num5 m a (5 : Int32) (7 : Int32)) s₁ (mkF m 0 #[vR a, vI (5 : Int32), vI (7 : Int32), vU, vU] []) := fun t k => castTop (ef_num5 m a (5 : Int32) (7 : Int32)) k
  obtain ⟨⟨cz, S_cs, hcz⟩, ⟨fm, S_fm, hfm⟩, ⟨yr, yrr, S_yr, E_yr, F_yr, E_yrr, L_yr, H_yr⟩, ⟨mr, mrr, S_mr, E_mr, F_mr, E_mrr, L_mr, H_mr⟩, ⟨dr, drr, S_dr, E_dr, F_dr, E_drr, L_dr, H_dr⟩, ⟨iso, S_is, E_is⟩, ⟨em, el, kel, S_em, E_em, F_em, V_em⟩, ⟨nr, S_nr⟩, ⟨nk, S_nk⟩⟩ := id SS
  have hch : ∀ d ∈ StrChars.Road.wordsChN, d.before a0 Z = true := fun d hd => hw d (own_wChN d hd)
  have hcd := own_coda (yn := yn) (mn := mn) (dn := dn) hy hm2 hd2
  have hb0 := own_hb (yn := yn) (mn := mn) (dn := dn) hy hm2 hd2
  have S253 : Go p e below s₁ (eF_num5 m a (5 : Int32) (7 : Int32)) s₁ (mkF m 5 #[vR a, vI (5 : Int32), vI (7 : Int32), vI (0 : Int32), vI (5 : Int32)] []) := fun t kt => S0 t (by
    refine XS.iconst X0.here hx rfl (hb hby d19_0) ?_
    refine XS.istoreN X0.here hx rfl (hb hby d19_1) rfl (l' := #[vR a, vI (5 : Int32), vI (7 : Int32), vI (0 : Int32), vU]) rfl ?_
    show Sp p e below s₁ (mkF m 2 #[vR a, vI (5 : Int32), vI (7 : Int32), vI (0 : Int32), vU] []) _
    refine XS.iloadN X0.here hx rfl (hb hby d19_2) rfl ?_
    refine XS.istore X0.here hx rfl (hb hby d19_3) rfl (l' := #[vR a, vI (5 : Int32), vI (7 : Int32), vI (0 : Int32), vI (5 : Int32)]) rfl ?_
    show Sp p e below s₁ (mkF m 5 #[vR a, vI (5 : Int32), vI (7 : Int32), vI (0 : Int32), vI (5 : Int32)] []) _
    exact kt)
  clear S0
  have S0z : Go p e below s₁ (eF_num5 m a (5 : Int32) (7 : Int32)) s₁ (mkF m 5 #[vR a, vI (5 : Int32), vI (7 : Int32), vI (Int32.ofNat 0), vI (5 : Int32)] []) := S253
  have S254 : Go p e below s₁ (eF_num5 m a (5 : Int32) (7 : Int32)) s₁ (mkF m 18 #[vR a, vI (5 : Int32), vI (7 : Int32), vI (Int32.ofNat 0), vI (5 : Int32)] [(.int (5 : Int32)), (.ref a), (.int ((Int32.ofNat 0) * (10 : Int32)))]) := fun t kt => S0z t (by
    refine XS.iload X0.here hx rfl (hb hby d19_5) rfl ?_
    refine XS.iloadN X0.here hx rfl (hb hby d19_7) rfl ?_
    show Sp p e below s₁ (mkF m 8 #[vR a, vI (5 : Int32), vI (7 : Int32), vI (Int32.ofNat 0), vI (5 : Int32)] [(.int (7 : Int32)), (.int (5 : Int32))]) _
    refine XS.icmpNo X0.here hx rfl (hb hby d19_8) rfl (tlt (show (5 : Int32) < (7 : Int32) from (by decide))).2.1 ?_
    refine XS.iloadN X0.here hx rfl (hb hby d19_11) rfl ?_
    show Sp p e below s₁ (mkF m 12 #[vR a, vI (5 : Int32), vI (7 : Int32), vI (Int32.ofNat 0), vI (5 : Int32)] [(.int (Int32.ofNat 0))]) _
    refine XS.bipush X0.here hx rfl (hb hby d19_12) ?_
    refine XS.imul X0.here hx rfl (hb hby d19_14) rfl ?_
    show Sp p e below s₁ (mkF m 15 #[vR a, vI (5 : Int32), vI (7 : Int32), vI (Int32.ofNat 0), vI (5 : Int32)] [(.int ((Int32.ofNat 0) * (10 : Int32)))]) _
    refine XS.aloadN X0.here hx rfl (hb hby d19_15) rfl rfl ?_
    refine XS.iload X0.here hx rfl (hb hby d19_16) rfl ?_
    show Sp p e below s₁ (mkF m 18 #[vR a, vI (5 : Int32), vI (7 : Int32), vI (Int32.ofNat 0), vI (5 : Int32)] [(.int (5 : Int32)), (.ref a), (.int ((Int32.ofNat 0) * (10 : Int32)))]) _
    exact kt)
  clear S0z
  obtain ⟨cq255, kq255, q255a, q255b, q255c⟩ := isOf hZ e0 E
  obtain ⟨v255, T255, L255, X255, hQ255, st255⟩ := own_outV (Q := (fun v h' L => v = some (.int ((own_tx yn mn dn).getD 5 0)) ∧ L = [] ∧ h' = h0)) (X0.virtualBack hx (y := (⟨"java/lang/String", "charAt", "(I)C"⟩ : MethodName)) (z := (⟨"java/lang/String", "charAt", "(I)C"⟩ : MethodName)) hown (mvT hZ (own_h hw 55 rfl)) (mvT hZ (own_h hw 56 rfl)) (notFace_of_selects (args := #[]) (mvT hZ (own_h hw 58 rfl))) (mvT hZ (own_h hw 58 rfl)) (mvT hZ (own_h hw 57 rfl)) (by decide) (StrChars.Road.chN (W := 1) hZ hch (kI := 4) (own_h hw 7 rfl) E G F V hcd hb0 (S_cs.ext O0.2) hcz (S_fm.ext O0.2) hfm (Nat.le_of_ble_eq_true rfl) (i := 5) (Nat.le_of_ble_eq_true rfl) (j := (5 : Int32)) rfl (by decide) (by decide)) q255a q255c (g := (mkF m 18 #[vR a, vI (5 : Int32), vI (7 : Int32), vI (Int32.ofNat 0), vI (5 : Int32)] [(.int (5 : Int32)), (.ref a), (.int ((Int32.ofNat 0) * (10 : Int32)))])) rfl (by rw [hml]; rfl) (Steps.refl _) (argsL := [(.int (5 : Int32))]) (rest := [(.int ((Int32.ofNat 0) * (10 : Int32)))]) (lenOf pd__I_C rfl) rfl (by show 2 * 0 + _ ≤ _; exact Nat.le_of_eq rfl) (hb hby d19_18) (fun _ _ => ⟨rfl, e0, (by decide : 0 + 0 ≤ _), (by decide : 0 + 0 ≤ _)⟩))
  obtain ⟨rfl, rfl, e255⟩ := hQ255
  have N255 := Fr.app N0 (Fr.nil n0)
  have S256 : Go p e below s₁ (eF_num5 m a (5 : Int32) (7 : Int32)) T255 (mkF m 21 #[vR a, vI (5 : Int32), vI (7 : Int32), vI (Int32.ofNat 0), vI (5 : Int32)] [(.int ((own_tx yn mn dn).getD 5 0)), (.int ((Int32.ofNat 0) * (10 : Int32)))]) := fun t kt => S254 t (st255 t kt)
  clear S254 st255 X0 e0
  have q258 : ((own_tx yn mn dn).getD 5 0) = (own_c (mn / 10)) := rfl
  have S257 : Go p e below s₁ (eF_num5 m a (5 : Int32) (7 : Int32)) T255 (mkF m 21 #[vR a, vI (5 : Int32), vI (7 : Int32), vI (Int32.ofNat 0), vI (5 : Int32)] [(.int (own_c (mn / 10))), (.int ((Int32.ofNat 0) * (10 : Int32)))]) := by have h := S256; rw [q258] at h; exact h
  clear S256
  have S259 : Go p e below s₁ (eF_num5 m a (5 : Int32) (7 : Int32)) T255 (mkF m 25 #[vR a, vI (5 : Int32), vI (7 : Int32), vI (Int32.ofNat 0), vI (5 : Int32)] [(.int ((((Int32.ofNat 0) * (10 : Int32)) + (own_c (mn / 10))) - (48 : Int32)))]) := fun t kt => S257 t (by
    refine XS.iadd X255.here hx rfl (hb hby d19_21) rfl ?_
    refine XS.bipush X255.here hx rfl (hb hby d19_22) ?_
    show Sp p e below T255 (mkF m 24 #[vR a, vI (5 : Int32), vI (7 : Int32), vI (Int32.ofNat 0), vI (5 : Int32)] [(.int (48 : Int32)), (.int (((Int32.ofNat 0) * (10 : Int32)) + (own_c (mn / 10))))]) _
    refine XS.isub X255.here hx rfl (hb hby d19_24) rfl ?_
    exact kt)
  clear S257
  have q261 : ((((Int32.ofNat 0) * (10 : Int32)) + (own_c (mn / 10))) - (48 : Int32)) = (Int32.ofNat ((0) * 10 + (mn / 10))) := own_acc _ _
  have S260 : Go p e below s₁ (eF_num5 m a (5 : Int32) (7 : Int32)) T255 (mkF m 25 #[vR a, vI (5 : Int32), vI (7 : Int32), vI (Int32.ofNat 0), vI (5 : Int32)] [(.int (Int32.ofNat ((0) * 10 + (mn / 10))))]) := by have h := S259; rw [q261] at h; exact h
  clear S259
  have S262 : Go p e below s₁ (eF_num5 m a (5 : Int32) (7 : Int32)) T255 (mkF m 5 #[vR a, vI (5 : Int32), vI (7 : Int32), vI (Int32.ofNat ((0) * 10 + (mn / 10))), vI ((5 : Int32) + (1 : Int32))] []) := fun t kt => S260 t (by
    refine XS.istoreN X255.here hx rfl (hb hby d19_25) rfl (l' := #[vR a, vI (5 : Int32), vI (7 : Int32), vI (Int32.ofNat ((0) * 10 + (mn / 10))), vI (5 : Int32)]) rfl ?_
    refine XS.iinc X255.here hx rfl (hb hby d19_26) rfl (l' := #[vR a, vI (5 : Int32), vI (7 : Int32), vI (Int32.ofNat ((0) * 10 + (mn / 10))), vI ((5 : Int32) + (1 : Int32))]) rfl ?_
    show Sp p e below T255 (mkF m 29 #[vR a, vI (5 : Int32), vI (7 : Int32), vI (Int32.ofNat ((0) * 10 + (mn / 10))), vI ((5 : Int32) + (1 : Int32))] []) _
    refine XS.goto X255.here hx rfl (pc0 := 29) (pc' := 5) rfl (hb hby d19_29) (by decide) (by decide) ?_
    exact kt)
  clear S260
  have q264 : ((5 : Int32) + (1 : Int32)) = (6 : Int32) := by decide
  have S263 : Go p e below s₁ (eF_num5 m a (5 : Int32) (7 : Int32)) T255 (mkF m 5 #[vR a, vI (5 : Int32), vI (7 : Int32), vI (Int32.ofNat ((0) * 10 + (mn / 10))), vI (6 : Int32)] []) := by have h := S262; rw [q264] at h; exact h
  clear S262
  have S265 : Go p e below s₁ (eF_num5 m a (5 : Int32) (7 : Int32)) T255 (mkF m 18 #[vR a, vI (5 : Int32), vI (7 : Int32), vI (Int32.ofNat ((0) * 10 + (mn / 10))), vI (6 : Int32)] [(.int (6 : Int32)), (.ref a), (.int ((Int32.ofNat ((0) * 10 + (mn / 10))) * (10 : Int32)))]) := fun t kt => S263 t (by
    refine XS.iload X255.here hx rfl (hb hby d19_5) rfl ?_
    refine XS.iloadN X255.here hx rfl (hb hby d19_7) rfl ?_
    show Sp p e below T255 (mkF m 8 #[vR a, vI (5 : Int32), vI (7 : Int32), vI (Int32.ofNat ((0) * 10 + (mn / 10))), vI (6 : Int32)] [(.int (7 : Int32)), (.int (6 : Int32))]) _
    refine XS.icmpNo X255.here hx rfl (hb hby d19_8) rfl (tlt (show (6 : Int32) < (7 : Int32) from (by decide))).2.1 ?_
    refine XS.iloadN X255.here hx rfl (hb hby d19_11) rfl ?_
    show Sp p e below T255 (mkF m 12 #[vR a, vI (5 : Int32), vI (7 : Int32), vI (Int32.ofNat ((0) * 10 + (mn / 10))), vI (6 : Int32)] [(.int (Int32.ofNat ((0) * 10 + (mn / 10))))]) _
    refine XS.bipush X255.here hx rfl (hb hby d19_12) ?_
    refine XS.imul X255.here hx rfl (hb hby d19_14) rfl ?_
    show Sp p e below T255 (mkF m 15 #[vR a, vI (5 : Int32), vI (7 : Int32), vI (Int32.ofNat ((0) * 10 + (mn / 10))), vI (6 : Int32)] [(.int ((Int32.ofNat ((0) * 10 + (mn / 10))) * (10 : Int32)))]) _
    refine XS.aloadN X255.here hx rfl (hb hby d19_15) rfl rfl ?_
    refine XS.iload X255.here hx rfl (hb hby d19_16) rfl ?_
    show Sp p e below T255 (mkF m 18 #[vR a, vI (5 : Int32), vI (7 : Int32), vI (Int32.ofNat ((0) * 10 + (mn / 10))), vI (6 : Int32)] [(.int (6 : Int32)), (.ref a), (.int ((Int32.ofNat ((0) * 10 + (mn / 10))) * (10 : Int32)))]) _
    exact kt)
  clear S263
  obtain ⟨cq266, kq266, q266a, q266b, q266c⟩ := isOf hZ e255 E
  obtain ⟨v266, T266, L266, X266, hQ266, st266⟩ := own_outV (Q := (fun v h' L => v = some (.int ((own_tx yn mn dn).getD 6 0)) ∧ L = [] ∧ h' = h0)) (X255.virtualBack hx (y := (⟨"java/lang/String", "charAt", "(I)C"⟩ : MethodName)) (z := (⟨"java/lang/String", "charAt", "(I)C"⟩ : MethodName)) hown (mvT hZ (own_h hw 55 rfl)) (mvT hZ (own_h hw 56 rfl)) (notFace_of_selects (args := #[]) (mvT hZ (own_h hw 58 rfl))) (mvT hZ (own_h hw 58 rfl)) (mvT hZ (own_h hw 57 rfl)) (by decide) (StrChars.Road.chN (W := 1) hZ hch (kI := 4) (own_h hw 7 rfl) E G F V hcd hb0 (S_cs.ext O0.2) hcz (S_fm.ext O0.2) hfm (Nat.le_of_ble_eq_true rfl) (i := 6) (Nat.le_of_ble_eq_true rfl) (j := (6 : Int32)) rfl (by decide) (by decide)) q266a q266c (g := (mkF m 18 #[vR a, vI (5 : Int32), vI (7 : Int32), vI (Int32.ofNat ((0) * 10 + (mn / 10))), vI (6 : Int32)] [(.int (6 : Int32)), (.ref a), (.int ((Int32.ofNat ((0) * 10 + (mn / 10))) * (10 : Int32)))])) rfl (by rw [hml]; rfl) (Steps.refl _) (argsL := [(.int (6 : Int32))]) (rest := [(.int ((Int32.ofNat ((0) * 10 + (mn / 10))) * (10 : Int32)))]) (lenOf pd__I_C rfl) rfl (by show 2 * 0 + _ ≤ _; exact Nat.le_of_eq rfl) (hb hby d19_18) (fun _ _ => ⟨rfl, e255, (by decide : 0 + 0 ≤ _), (by decide : 0 + 0 ≤ _)⟩))
  obtain ⟨rfl, rfl, e266⟩ := hQ266
  have N266 := Fr.app N255 (Fr.nil n0)
  have S267 : Go p e below s₁ (eF_num5 m a (5 : Int32) (7 : Int32)) T266 (mkF m 21 #[vR a, vI (5 : Int32), vI (7 : Int32), vI (Int32.ofNat ((0) * 10 + (mn / 10))), vI (6 : Int32)] [(.int ((own_tx yn mn dn).getD 6 0)), (.int ((Int32.ofNat ((0) * 10 + (mn / 10))) * (10 : Int32)))]) := fun t kt => S265 t (st266 t kt)
  clear S265 st266 X255 e255
  have q269 : ((own_tx yn mn dn).getD 6 0) = (own_c (mn % 10)) := rfl
  have S268 : Go p e below s₁ (eF_num5 m a (5 : Int32) (7 : Int32)) T266 (mkF m 21 #[vR a, vI (5 : Int32), vI (7 : Int32), vI (Int32.ofNat ((0) * 10 + (mn / 10))), vI (6 : Int32)] [(.int (own_c (mn % 10))), (.int ((Int32.ofNat ((0) * 10 + (mn / 10))) * (10 : Int32)))]) := by have h := S267; rw [q269] at h; exact h
  clear S267
  have S270 : Go p e below s₁ (eF_num5 m a (5 : Int32) (7 : Int32)) T266 (mkF m 25 #[vR a, vI (5 : Int32), vI (7 : Int32), vI (Int32.ofNat ((0) * 10 + (mn / 10))), vI (6 : Int32)] [(.int ((((Int32.ofNat ((0) * 10 + (mn / 10))) * (10 : Int32)) + (own_c (mn % 10))) - (48 : Int32)))]) := fun t kt => S268 t (by
    refine XS.iadd X266.here hx rfl (hb hby d19_21) rfl ?_
    refine XS.bipush X266.here hx rfl (hb hby d19_22) ?_
    show Sp p e below T266 (mkF m 24 #[vR a, vI (5 : Int32), vI (7 : Int32), vI (Int32.ofNat ((0) * 10 + (mn / 10))), vI (6 : Int32)] [(.int (48 : Int32)), (.int (((Int32.ofNat ((0) * 10 + (mn / 10))) * (10 : Int32)) + (own_c (mn % 10))))]) _
    refine XS.isub X266.here hx rfl (hb hby d19_24) rfl ?_
    exact kt)
  clear S268
  have q272 : ((((Int32.ofNat ((0) * 10 + (mn / 10))) * (10 : Int32)) + (own_c (mn % 10))) - (48 : Int32)) = (Int32.ofNat (((0) * 10 + (mn / 10)) * 10 + (mn % 10))) := own_acc _ _
  have S271 : Go p e below s₁ (eF_num5 m a (5 : Int32) (7 : Int32)) T266 (mkF m 25 #[vR a, vI (5 : Int32), vI (7 : Int32), vI (Int32.ofNat ((0) * 10 + (mn / 10))), vI (6 : Int32)] [(.int (Int32.ofNat (((0) * 10 + (mn / 10)) * 10 + (mn % 10))))]) := by have h := S270; rw [q272] at h; exact h
  clear S270
  have S273 : Go p e below s₁ (eF_num5 m a (5 : Int32) (7 : Int32)) T266 (mkF m 5 #[vR a, vI (5 : Int32), vI (7 : Int32), vI (Int32.ofNat (((0) * 10 + (mn / 10)) * 10 + (mn % 10))), vI ((6 : Int32) + (1 : Int32))] []) := fun t kt => S271 t (by
    refine XS.istoreN X266.here hx rfl (hb hby d19_25) rfl (l' := #[vR a, vI (5 : Int32), vI (7 : Int32), vI (Int32.ofNat (((0) * 10 + (mn / 10)) * 10 + (mn % 10))), vI (6 : Int32)]) rfl ?_
    refine XS.iinc X266.here hx rfl (hb hby d19_26) rfl (l' := #[vR a, vI (5 : Int32), vI (7 : Int32), vI (Int32.ofNat (((0) * 10 + (mn / 10)) * 10 + (mn % 10))), vI ((6 : Int32) + (1 : Int32))]) rfl ?_
    show Sp p e below T266 (mkF m 29 #[vR a, vI (5 : Int32), vI (7 : Int32), vI (Int32.ofNat (((0) * 10 + (mn / 10)) * 10 + (mn % 10))), vI ((6 : Int32) + (1 : Int32))] []) _
    refine XS.goto X266.here hx rfl (pc0 := 29) (pc' := 5) rfl (hb hby d19_29) (by decide) (by decide) ?_
    exact kt)
  clear S271
  have q275 : ((6 : Int32) + (1 : Int32)) = (7 : Int32) := by decide
  have S274 : Go p e below s₁ (eF_num5 m a (5 : Int32) (7 : Int32)) T266 (mkF m 5 #[vR a, vI (5 : Int32), vI (7 : Int32), vI (Int32.ofNat (((0) * 10 + (mn / 10)) * 10 + (mn % 10))), vI (7 : Int32)] []) := by have h := S273; rw [q275] at h; exact h
  clear S273
  have S276 : Go p e below s₁ (eF_num5 m a (5 : Int32) (7 : Int32)) T266 (mkF m 33 #[vR a, vI (5 : Int32), vI (7 : Int32), vI (Int32.ofNat (((0) * 10 + (mn / 10)) * 10 + (mn % 10))), vI (7 : Int32)] [(.int (Int32.ofNat (((0) * 10 + (mn / 10)) * 10 + (mn % 10))))]) := fun t kt => S274 t (by
    refine XS.iload X266.here hx rfl (hb hby d19_5) rfl ?_
    refine XS.iloadN X266.here hx rfl (hb hby d19_7) rfl ?_
    show Sp p e below T266 (mkF m 8 #[vR a, vI (5 : Int32), vI (7 : Int32), vI (Int32.ofNat (((0) * 10 + (mn / 10)) * 10 + (mn % 10))), vI (7 : Int32)] [(.int (7 : Int32)), (.int (7 : Int32))]) _
    refine XS.icmpYes X266.here hx rfl (pc0 := 8) (pc' := 32) rfl (hb hby d19_8) rfl (flt (show ¬ ((7 : Int32) < (7 : Int32)) from (by decide))).2.1 (by decide) (by decide) ?_
    refine XS.iloadN X266.here hx rfl (hb hby d19_32) rfl ?_
    show Sp p e below T266 (mkF m 33 #[vR a, vI (5 : Int32), vI (7 : Int32), vI (Int32.ofNat (((0) * 10 + (mn / 10)) * 10 + (mn % 10))), vI (7 : Int32)] [(.int (Int32.ofNat (((0) * 10 + (mn / 10)) * 10 + (mn % 10))))]) _
    exact kt)
  clear S274
  have q278 : (Int32.ofNat (((0) * 10 + (mn / 10)) * 10 + (mn % 10))) = (Int32.ofNat mn) := congrArg Int32.ofNat (by omega)
  have S277 : Go p e below s₁ (eF_num5 m a (5 : Int32) (7 : Int32)) T266 (mkF m 33 #[vR a, vI (5 : Int32), vI (7 : Int32), vI (Int32.ofNat mn), vI (7 : Int32)] [(.int (Int32.ofNat mn))]) := by have h := S276; rw [q278] at h; exact h
  clear S276
  obtain ⟨fs, hr, hrun, hended, hW, hsame⟩ := X266.leave (v := some (.int (Int32.ofNat mn))) (fun h => by first | rfl | (rw [Bd.returns] at h; cases h))
  refine ⟨_, _, S277 _ ?_, hrun, hended, _, _, rfl, ?_, ⟨_, rfl⟩, hW, hsame.mono (by decide) (by decide)⟩
  · exact retI X266 hx Bd.returns (hb hby d19_33) hr
  · show Q_num5 Z yn mn dn h0 n0 _ T266.heap _
    rw [e266]
    exact ⟨rfl, N266, rfl⟩
abbrev eF_num8 (m : MethodId) (x0 : Addr) (x1 : Int32) (x2 : Int32) : JFrame := entryFrame m #[(.ref x0), (.int x1), (.int x2)] 5
theorem ef_num8 (m : MethodId) (x0 : Addr) (x1 : Int32) (x2 : Int32) : entryFrame m #[(.ref x0), (.int x1), (.int x2)] 5 = mkF m 0 #[.val (.ref x0), .val (.int x1), .val (.int x2), .unset, .unset] [] := by first | (simp [entryFrame, mkF, argsToLocals, Value.category]; done) | rfl
theorem pn_num8 : plainName "com/example/tranchery/tranchery/journal/Fields" = true := by first | (simp [plainName, overriddenIn]; done) | decide +kernel
def Q_num8 (Z : State) (yn : Nat) (mn : Nat) (dn : Nat) (h0 : Heap) (n0 : Nat) (v : Option Value) (h : Heap) (L : List Loc) : Prop := v = some (.int (Int32.ofNat dn)) ∧ Fr n0 L ∧ h = h0
set_option maxRecDepth 65536 in
set_option maxHeartbeats 40000000 in
theorem rm_num8 (l : Launch) (Z : State) (a0 : Array Value) (hw : ∀ d ∈ tables_1, d.before a0 Z = true) (ws : List Jvm.Cond) (a : Addr) (b : Addr) (k : ClassId) (yn : Nat) (mn : Nat) (dn : Nat) (h0 : Heap) (n0 : Nat) (Z0 : n0 ≤ h0.size) (SS : own_St Z) (O0 : Old Z n0 h0) (E : Exa Z h0 a "java/lang/String") (F : Fld Z h0 a "java/lang/String" "coder" "B" (.int (0 : Int32))) (G : Fld Z h0 a "java/lang/String" "value" "[B" (.ref b)) (V : Arv Z h0 b k .byte (10 : Int32) (own_vs (own_tx yn mn dn)) (.int (0 : Int32))) (hy : yn ≤ 9999) (hm : 1 ≤ mn) (hm2 : mn ≤ 12) (hd : 1 ≤ dn) (hd2 : dn ≤ 28) :
    MetFree l (⟨"com/example/tranchery/tranchery/journal/Fields", "number", "(Ljava/lang/String;II)I"⟩ : MethodName) (head1 (Jvm.Cond.code (⟨"com/example/tranchery/tranchery/journal/Fields", "number", "(Ljava/lang/String;II)I"⟩ : MethodName) prog_34_method_21_code 5 (some .int) :: ws) ({ frames := 4, cells := 0, slots := 0, locals := 54 } : Room)) (fun aa U => aa = #[(.ref a), (.int (8 : Int32)), (.int (10 : Int32))] ∧ Z.Warmed39 U.vm ∧ U.heap = h0) (fun _ _ _ _ _ => True) (fun _ U o U' => ∃ v L, o = .returned v ∧ Q_num8 Z yn mn dn h0 n0 v U'.heap L ∧ FrameEnd U o U' L ({ frames := 4, cells := 0, slots := 0, locals := 54 } : Room).cells ({ frames := 4, cells := 0, slots := 0, locals := 54 } : Room).slots) := by
  refine MetFree.of_bodySF (plainFor_of_name pn_num8) hisR ?_
  intro p e s m args below meth c s₁ Bd hml0 hP hK
  obtain ⟨rfl, hZ, hh⟩ := hP
  have hx := Bd.exec
  have hby := Bd.bytes
  have hml : c.maxLocals = 5 := hml0
  have hown : s.vm.findClass "com/example/tranchery/tranchery/journal/Fields" = some m.cls := findClass_of_methodNamed Bd.named
  have hnm := (name_of_methodNamed Bd.named Bd.method).1
  have X0 : Stand p l e ({ frames := 4, cells := 0, slots := 0, locals := 54 } : Room) s m #[(.ref a), (.int (8 : Int32)), (.int (10 : Int32))] below meth c s₁ [] 0 0 := Stand.of_body Bd
  have e0 : s₁.heap = h0 := by rw [← hh, Bd.state]; rfl
  have N0 := Fr.nil n0
  have S0 : Go p e below s₁ (eF_num8 m a (8 : Int32) (10 : Int32)) s₁ (mkF m 0 #[vR a, vI (8 : Int32), vI (10 : Int32), vU, vU] []) := fun t k => castTop (ef_num8 m a (8 : Int32) (10 : Int32)) k
  obtain ⟨⟨cz, S_cs, hcz⟩, ⟨fm, S_fm, hfm⟩, ⟨yr, yrr, S_yr, E_yr, F_yr, E_yrr, L_yr, H_yr⟩, ⟨mr, mrr, S_mr, E_mr, F_mr, E_mrr, L_mr, H_mr⟩, ⟨dr, drr, S_dr, E_dr, F_dr, E_drr, L_dr, H_dr⟩, ⟨iso, S_is, E_is⟩, ⟨em, el, kel, S_em, E_em, F_em, V_em⟩, ⟨nr, S_nr⟩, ⟨nk, S_nk⟩⟩ := id SS
  have hch : ∀ d ∈ StrChars.Road.wordsChN, d.before a0 Z = true := fun d hd => hw d (own_wChN d hd)
  have hcd := own_coda (yn := yn) (mn := mn) (dn := dn) hy hm2 hd2
  have hb0 := own_hb (yn := yn) (mn := mn) (dn := dn) hy hm2 hd2
  have S279 : Go p e below s₁ (eF_num8 m a (8 : Int32) (10 : Int32)) s₁ (mkF m 5 #[vR a, vI (8 : Int32), vI (10 : Int32), vI (0 : Int32), vI (8 : Int32)] []) := fun t kt => S0 t (by
    refine XS.iconst X0.here hx rfl (hb hby d19_0) ?_
    refine XS.istoreN X0.here hx rfl (hb hby d19_1) rfl (l' := #[vR a, vI (8 : Int32), vI (10 : Int32), vI (0 : Int32), vU]) rfl ?_
    show Sp p e below s₁ (mkF m 2 #[vR a, vI (8 : Int32), vI (10 : Int32), vI (0 : Int32), vU] []) _
    refine XS.iloadN X0.here hx rfl (hb hby d19_2) rfl ?_
    refine XS.istore X0.here hx rfl (hb hby d19_3) rfl (l' := #[vR a, vI (8 : Int32), vI (10 : Int32), vI (0 : Int32), vI (8 : Int32)]) rfl ?_
    show Sp p e below s₁ (mkF m 5 #[vR a, vI (8 : Int32), vI (10 : Int32), vI (0 : Int32), vI (8 : Int32)] []) _
    exact kt)
  clear S0
  have S0z : Go p e below s₁ (eF_num8 m a (8 : Int32) (10 : Int32)) s₁ (mkF m 5 #[vR a, vI (8 : Int32), vI (10 : Int32), vI (Int32.ofNat 0), vI (8 : Int32)] []) := S279
  have S280 : Go p e below s₁ (eF_num8 m a (8 : Int32) (10 : Int32)) s₁ (mkF m 18 #[vR a, vI (8 : Int32), vI (10 : Int32), vI (Int32.ofNat 0), vI (8 : Int32)] [(.int (8 : Int32)), (.ref a), (.int ((Int32.ofNat 0) * (10 : Int32)))]) := fun t kt => S0z t (by
    refine XS.iload X0.here hx rfl (hb hby d19_5) rfl ?_
    refine XS.iloadN X0.here hx rfl (hb hby d19_7) rfl ?_
    show Sp p e below s₁ (mkF m 8 #[vR a, vI (8 : Int32), vI (10 : Int32), vI (Int32.ofNat 0), vI (8 : Int32)] [(.int (10 : Int32)), (.int (8 : Int32))]) _
    refine XS.icmpNo X0.here hx rfl (hb hby d19_8) rfl (tlt (show (8 : Int32) < (10 : Int32) from (by decide))).2.1 ?_
    refine XS.iloadN X0.here hx rfl (hb hby d19_11) rfl ?_
    show Sp p e below s₁ (mkF m 12 #[vR a, vI (8 : Int32), vI (10 : Int32), vI (Int32.ofNat 0), vI (8 : Int32)] [(.int (Int32.ofNat 0))]) _
    refine XS.bipush X0.here hx rfl (hb hby d19_12) ?_
    refine XS.imul X0.here hx rfl (hb hby d19_14) rfl ?_
    show Sp p e below s₁ (mkF m 15 #[vR a, vI (8 : Int32), vI (10 : Int32), vI (Int32.ofNat 0), vI (8 : Int32)] [(.int ((Int32.ofNat 0) * (10 : Int32)))]) _
    refine XS.aloadN X0.here hx rfl (hb hby d19_15) rfl rfl ?_
    refine XS.iload X0.here hx rfl (hb hby d19_16) rfl ?_
    show Sp p e below s₁ (mkF m 18 #[vR a, vI (8 : Int32), vI (10 : Int32), vI (Int32.ofNat 0), vI (8 : Int32)] [(.int (8 : Int32)), (.ref a), (.int ((Int32.ofNat 0) * (10 : Int32)))]) _
    exact kt)
  clear S0z
  obtain ⟨cq281, kq281, q281a, q281b, q281c⟩ := isOf hZ e0 E
  obtain ⟨v281, T281, L281, X281, hQ281, st281⟩ := own_outV (Q := (fun v h' L => v = some (.int ((own_tx yn mn dn).getD 8 0)) ∧ L = [] ∧ h' = h0)) (X0.virtualBack hx (y := (⟨"java/lang/String", "charAt", "(I)C"⟩ : MethodName)) (z := (⟨"java/lang/String", "charAt", "(I)C"⟩ : MethodName)) hown (mvT hZ (own_h hw 55 rfl)) (mvT hZ (own_h hw 56 rfl)) (notFace_of_selects (args := #[]) (mvT hZ (own_h hw 58 rfl))) (mvT hZ (own_h hw 58 rfl)) (mvT hZ (own_h hw 57 rfl)) (by decide) (StrChars.Road.chN (W := 1) hZ hch (kI := 4) (own_h hw 7 rfl) E G F V hcd hb0 (S_cs.ext O0.2) hcz (S_fm.ext O0.2) hfm (Nat.le_of_ble_eq_true rfl) (i := 8) (Nat.le_of_ble_eq_true rfl) (j := (8 : Int32)) rfl (by decide) (by decide)) q281a q281c (g := (mkF m 18 #[vR a, vI (8 : Int32), vI (10 : Int32), vI (Int32.ofNat 0), vI (8 : Int32)] [(.int (8 : Int32)), (.ref a), (.int ((Int32.ofNat 0) * (10 : Int32)))])) rfl (by rw [hml]; rfl) (Steps.refl _) (argsL := [(.int (8 : Int32))]) (rest := [(.int ((Int32.ofNat 0) * (10 : Int32)))]) (lenOf pd__I_C rfl) rfl (by show 2 * 0 + _ ≤ _; exact Nat.le_of_eq rfl) (hb hby d19_18) (fun _ _ => ⟨rfl, e0, (by decide : 0 + 0 ≤ _), (by decide : 0 + 0 ≤ _)⟩))
  obtain ⟨rfl, rfl, e281⟩ := hQ281
  have N281 := Fr.app N0 (Fr.nil n0)
  have S282 : Go p e below s₁ (eF_num8 m a (8 : Int32) (10 : Int32)) T281 (mkF m 21 #[vR a, vI (8 : Int32), vI (10 : Int32), vI (Int32.ofNat 0), vI (8 : Int32)] [(.int ((own_tx yn mn dn).getD 8 0)), (.int ((Int32.ofNat 0) * (10 : Int32)))]) := fun t kt => S280 t (st281 t kt)
  clear S280 st281 X0 e0
  have q284 : ((own_tx yn mn dn).getD 8 0) = (own_c (dn / 10)) := rfl
  have S283 : Go p e below s₁ (eF_num8 m a (8 : Int32) (10 : Int32)) T281 (mkF m 21 #[vR a, vI (8 : Int32), vI (10 : Int32), vI (Int32.ofNat 0), vI (8 : Int32)] [(.int (own_c (dn / 10))), (.int ((Int32.ofNat 0) * (10 : Int32)))]) := by have h := S282; rw [q284] at h; exact h
  clear S282
  have S285 : Go p e below s₁ (eF_num8 m a (8 : Int32) (10 : Int32)) T281 (mkF m 25 #[vR a, vI (8 : Int32), vI (10 : Int32), vI (Int32.ofNat 0), vI (8 : Int32)] [(.int ((((Int32.ofNat 0) * (10 : Int32)) + (own_c (dn / 10))) - (48 : Int32)))]) := fun t kt => S283 t (by
    refine XS.iadd X281.here hx rfl (hb hby d19_21) rfl ?_
    refine XS.bipush X281.here hx rfl (hb hby d19_22) ?_
    show Sp p e below T281 (mkF m 24 #[vR a, vI (8 : Int32), vI (10 : Int32), vI (Int32.ofNat 0), vI (8 : Int32)] [(.int (48 : Int32)), (.int (((Int32.ofNat 0) * (10 : Int32)) + (own_c (dn / 10))))]) _
    refine XS.isub X281.here hx rfl (hb hby d19_24) rfl ?_
    exact kt)
  clear S283
  have q287 : ((((Int32.ofNat 0) * (10 : Int32)) + (own_c (dn / 10))) - (48 : Int32)) = (Int32.ofNat ((0) * 10 + (dn / 10))) := own_acc _ _
  have S286 : Go p e below s₁ (eF_num8 m a (8 : Int32) (10 : Int32)) T281 (mkF m 25 #[vR a, vI (8 : Int32), vI (10 : Int32), vI (Int32.ofNat 0), vI (8 : Int32)] [(.int (Int32.ofNat ((0) * 10 + (dn / 10))))]) := by have h := S285; rw [q287] at h; exact h
  clear S285
  have S288 : Go p e below s₁ (eF_num8 m a (8 : Int32) (10 : Int32)) T281 (mkF m 5 #[vR a, vI (8 : Int32), vI (10 : Int32), vI (Int32.ofNat ((0) * 10 + (dn / 10))), vI ((8 : Int32) + (1 : Int32))] []) := fun t kt => S286 t (by
    refine XS.istoreN X281.here hx rfl (hb hby d19_25) rfl (l' := #[vR a, vI (8 : Int32), vI (10 : Int32), vI (Int32.ofNat ((0) * 10 + (dn / 10))), vI (8 : Int32)]) rfl ?_
    refine XS.iinc X281.here hx rfl (hb hby d19_26) rfl (l' := #[vR a, vI (8 : Int32), vI (10 : Int32), vI (Int32.ofNat ((0) * 10 + (dn / 10))), vI ((8 : Int32) + (1 : Int32))]) rfl ?_
    show Sp p e below T281 (mkF m 29 #[vR a, vI (8 : Int32), vI (10 : Int32), vI (Int32.ofNat ((0) * 10 + (dn / 10))), vI ((8 : Int32) + (1 : Int32))] []) _
    refine XS.goto X281.here hx rfl (pc0 := 29) (pc' := 5) rfl (hb hby d19_29) (by decide) (by decide) ?_
    exact kt)
  clear S286
  have q290 : ((8 : Int32) + (1 : Int32)) = (9 : Int32) := by decide
  have S289 : Go p e below s₁ (eF_num8 m a (8 : Int32) (10 : Int32)) T281 (mkF m 5 #[vR a, vI (8 : Int32), vI (10 : Int32), vI (Int32.ofNat ((0) * 10 + (dn / 10))), vI (9 : Int32)] []) := by have h := S288; rw [q290] at h; exact h
  clear S288
  have S291 : Go p e below s₁ (eF_num8 m a (8 : Int32) (10 : Int32)) T281 (mkF m 18 #[vR a, vI (8 : Int32), vI (10 : Int32), vI (Int32.ofNat ((0) * 10 + (dn / 10))), vI (9 : Int32)] [(.int (9 : Int32)), (.ref a), (.int ((Int32.ofNat ((0) * 10 + (dn / 10))) * (10 : Int32)))]) := fun t kt => S289 t (by
    refine XS.iload X281.here hx rfl (hb hby d19_5) rfl ?_
    refine XS.iloadN X281.here hx rfl (hb hby d19_7) rfl ?_
    show Sp p e below T281 (mkF m 8 #[vR a, vI (8 : Int32), vI (10 : Int32), vI (Int32.ofNat ((0) * 10 + (dn / 10))), vI (9 : Int32)] [(.int (10 : Int32)), (.int (9 : Int32))]) _
    refine XS.icmpNo X281.here hx rfl (hb hby d19_8) rfl (tlt (show (9 : Int32) < (10 : Int32) from (by decide))).2.1 ?_
    refine XS.iloadN X281.here hx rfl (hb hby d19_11) rfl ?_
    show Sp p e below T281 (mkF m 12 #[vR a, vI (8 : Int32), vI (10 : Int32), vI (Int32.ofNat ((0) * 10 + (dn / 10))), vI (9 : Int32)] [(.int (Int32.ofNat ((0) * 10 + (dn / 10))))]) _
    refine XS.bipush X281.here hx rfl (hb hby d19_12) ?_
    refine XS.imul X281.here hx rfl (hb hby d19_14) rfl ?_
    show Sp p e below T281 (mkF m 15 #[vR a, vI (8 : Int32), vI (10 : Int32), vI (Int32.ofNat ((0) * 10 + (dn / 10))), vI (9 : Int32)] [(.int ((Int32.ofNat ((0) * 10 + (dn / 10))) * (10 : Int32)))]) _
    refine XS.aloadN X281.here hx rfl (hb hby d19_15) rfl rfl ?_
    refine XS.iload X281.here hx rfl (hb hby d19_16) rfl ?_
    show Sp p e below T281 (mkF m 18 #[vR a, vI (8 : Int32), vI (10 : Int32), vI (Int32.ofNat ((0) * 10 + (dn / 10))), vI (9 : Int32)] [(.int (9 : Int32)), (.ref a), (.int ((Int32.ofNat ((0) * 10 + (dn / 10))) * (10 : Int32)))]) _
    exact kt)
  clear S289
  obtain ⟨cq292, kq292, q292a, q292b, q292c⟩ := isOf hZ e281 E
  obtain ⟨v292, T292, L292, X292, hQ292, st292⟩ := own_outV (Q := (fun v h' L => v = some (.int ((own_tx yn mn dn).getD 9 0)) ∧ L = [] ∧ h' = h0)) (X281.virtualBack hx (y := (⟨"java/lang/String", "charAt", "(I)C"⟩ : MethodName)) (z := (⟨"java/lang/String", "charAt", "(I)C"⟩ : MethodName)) hown (mvT hZ (own_h hw 55 rfl)) (mvT hZ (own_h hw 56 rfl)) (notFace_of_selects (args := #[]) (mvT hZ (own_h hw 58 rfl))) (mvT hZ (own_h hw 58 rfl)) (mvT hZ (own_h hw 57 rfl)) (by decide) (StrChars.Road.chN (W := 1) hZ hch (kI := 4) (own_h hw 7 rfl) E G F V hcd hb0 (S_cs.ext O0.2) hcz (S_fm.ext O0.2) hfm (Nat.le_of_ble_eq_true rfl) (i := 9) (Nat.le_of_ble_eq_true rfl) (j := (9 : Int32)) rfl (by decide) (by decide)) q292a q292c (g := (mkF m 18 #[vR a, vI (8 : Int32), vI (10 : Int32), vI (Int32.ofNat ((0) * 10 + (dn / 10))), vI (9 : Int32)] [(.int (9 : Int32)), (.ref a), (.int ((Int32.ofNat ((0) * 10 + (dn / 10))) * (10 : Int32)))])) rfl (by rw [hml]; rfl) (Steps.refl _) (argsL := [(.int (9 : Int32))]) (rest := [(.int ((Int32.ofNat ((0) * 10 + (dn / 10))) * (10 : Int32)))]) (lenOf pd__I_C rfl) rfl (by show 2 * 0 + _ ≤ _; exact Nat.le_of_eq rfl) (hb hby d19_18) (fun _ _ => ⟨rfl, e281, (by decide : 0 + 0 ≤ _), (by decide : 0 + 0 ≤ _)⟩))
  obtain ⟨rfl, rfl, e292⟩ := hQ292
  have N292 := Fr.app N281 (Fr.nil n0)
  have S293 : Go p e below s₁ (eF_num8 m a (8 : Int32) (10 : Int32)) T292 (mkF m 21 #[vR a, vI (8 : Int32), vI (10 : Int32), vI (Int32.ofNat ((0) * 10 + (dn / 10))), vI (9 : Int32)] [(.int ((own_tx yn mn dn).getD 9 0)), (.int ((Int32.ofNat ((0) * 10 + (dn / 10))) * (10 : Int32)))]) := fun t kt => S291 t (st292 t kt)
  clear S291 st292 X281 e281
  have q295 : ((own_tx yn mn dn).getD 9 0) = (own_c (dn % 10)) := rfl
  have S294 : Go p e below s₁ (eF_num8 m a (8 : Int32) (10 : Int32)) T292 (mkF m 21 #[vR a, vI (8 : Int32), vI (10 : Int32), vI (Int32.ofNat ((0) * 10 + (dn / 10))), vI (9 : Int32)] [(.int (own_c (dn % 10))), (.int ((Int32.ofNat ((0) * 10 + (dn / 10))) * (10 : Int32)))]) := by have h := S293; rw [q295] at h; exact h
  clear S293
  have S296 : Go p e below s₁ (eF_num8 m a (8 : Int32) (10 : Int32)) T292 (mkF m 25 #[vR a, vI (8 : Int32), vI (10 : Int32), vI (Int32.ofNat ((0) * 10 + (dn / 10))), vI (9 : Int32)] [(.int ((((Int32.ofNat ((0) * 10 + (dn / 10))) * (10 : Int32)) + (own_c (dn % 10))) - (48 : Int32)))]) := fun t kt => S294 t (by
    refine XS.iadd X292.here hx rfl (hb hby d19_21) rfl ?_
    refine XS.bipush X292.here hx rfl (hb hby d19_22) ?_
    show Sp p e below T292 (mkF m 24 #[vR a, vI (8 : Int32), vI (10 : Int32), vI (Int32.ofNat ((0) * 10 + (dn / 10))), vI (9 : Int32)] [(.int (48 : Int32)), (.int (((Int32.ofNat ((0) * 10 + (dn / 10))) * (10 : Int32)) + (own_c (dn % 10))))]) _
    refine XS.isub X292.here hx rfl (hb hby d19_24) rfl ?_
    exact kt)
  clear S294
  have q298 : ((((Int32.ofNat ((0) * 10 + (dn / 10))) * (10 : Int32)) + (own_c (dn % 10))) - (48 : Int32)) = (Int32.ofNat (((0) * 10 + (dn / 10)) * 10 + (dn % 10))) := own_acc _ _
  have S297 : Go p e below s₁ (eF_num8 m a (8 : Int32) (10 : Int32)) T292 (mkF m 25 #[vR a, vI (8 : Int32), vI (10 : Int32), vI (Int32.ofNat ((0) * 10 + (dn / 10))), vI (9 : Int32)] [(.int (Int32.ofNat (((0) * 10 + (dn / 10)) * 10 + (dn % 10))))]) := by have h := S296; rw [q298] at h; exact h
  clear S296
  have S299 : Go p e below s₁ (eF_num8 m a (8 : Int32) (10 : Int32)) T292 (mkF m 5 #[vR a, vI (8 : Int32), vI (10 : Int32), vI (Int32.ofNat (((0) * 10 + (dn / 10)) * 10 + (dn % 10))), vI ((9 : Int32) + (1 : Int32))] []) := fun t kt => S297 t (by
    refine XS.istoreN X292.here hx rfl (hb hby d19_25) rfl (l' := #[vR a, vI (8 : Int32), vI (10 : Int32), vI (Int32.ofNat (((0) * 10 + (dn / 10)) * 10 + (dn % 10))), vI (9 : Int32)]) rfl ?_
    refine XS.iinc X292.here hx rfl (hb hby d19_26) rfl (l' := #[vR a, vI (8 : Int32), vI (10 : Int32), vI (Int32.ofNat (((0) * 10 + (dn / 10)) * 10 + (dn % 10))), vI ((9 : Int32) + (1 : Int32))]) rfl ?_
    show Sp p e below T292 (mkF m 29 #[vR a, vI (8 : Int32), vI (10 : Int32), vI (Int32.ofNat (((0) * 10 + (dn / 10)) * 10 + (dn % 10))), vI ((9 : Int32) + (1 : Int32))] []) _
    refine XS.goto X292.here hx rfl (pc0 := 29) (pc' := 5) rfl (hb hby d19_29) (by decide) (by decide) ?_
    exact kt)
  clear S297
  have q301 : ((9 : Int32) + (1 : Int32)) = (10 : Int32) := by decide
  have S300 : Go p e below s₁ (eF_num8 m a (8 : Int32) (10 : Int32)) T292 (mkF m 5 #[vR a, vI (8 : Int32), vI (10 : Int32), vI (Int32.ofNat (((0) * 10 + (dn / 10)) * 10 + (dn % 10))), vI (10 : Int32)] []) := by have h := S299; rw [q301] at h; exact h
  clear S299
  have S302 : Go p e below s₁ (eF_num8 m a (8 : Int32) (10 : Int32)) T292 (mkF m 33 #[vR a, vI (8 : Int32), vI (10 : Int32), vI (Int32.ofNat (((0) * 10 + (dn / 10)) * 10 + (dn % 10))), vI (10 : Int32)] [(.int (Int32.ofNat (((0) * 10 + (dn / 10)) * 10 + (dn % 10))))]) := fun t kt => S300 t (by
    refine XS.iload X292.here hx rfl (hb hby d19_5) rfl ?_
    refine XS.iloadN X292.here hx rfl (hb hby d19_7) rfl ?_
    show Sp p e below T292 (mkF m 8 #[vR a, vI (8 : Int32), vI (10 : Int32), vI (Int32.ofNat (((0) * 10 + (dn / 10)) * 10 + (dn % 10))), vI (10 : Int32)] [(.int (10 : Int32)), (.int (10 : Int32))]) _
    refine XS.icmpYes X292.here hx rfl (pc0 := 8) (pc' := 32) rfl (hb hby d19_8) rfl (flt (show ¬ ((10 : Int32) < (10 : Int32)) from (by decide))).2.1 (by decide) (by decide) ?_
    refine XS.iloadN X292.here hx rfl (hb hby d19_32) rfl ?_
    show Sp p e below T292 (mkF m 33 #[vR a, vI (8 : Int32), vI (10 : Int32), vI (Int32.ofNat (((0) * 10 + (dn / 10)) * 10 + (dn % 10))), vI (10 : Int32)] [(.int (Int32.ofNat (((0) * 10 + (dn / 10)) * 10 + (dn % 10))))]) _
    exact kt)
  clear S300
  have q304 : (Int32.ofNat (((0) * 10 + (dn / 10)) * 10 + (dn % 10))) = (Int32.ofNat dn) := congrArg Int32.ofNat (by omega)
  have S303 : Go p e below s₁ (eF_num8 m a (8 : Int32) (10 : Int32)) T292 (mkF m 33 #[vR a, vI (8 : Int32), vI (10 : Int32), vI (Int32.ofNat dn), vI (10 : Int32)] [(.int (Int32.ofNat dn))]) := by have h := S302; rw [q304] at h; exact h
  clear S302
  obtain ⟨fs, hr, hrun, hended, hW, hsame⟩ := X292.leave (v := some (.int (Int32.ofNat dn))) (fun h => by first | rfl | (rw [Bd.returns] at h; cases h))
  refine ⟨_, _, S303 _ ?_, hrun, hended, _, _, rfl, ?_, ⟨_, rfl⟩, hW, hsame.mono (by decide) (by decide)⟩
  · exact retI X292 hx Bd.returns (hb hby d19_33) hr
  · show Q_num8 Z yn mn dn h0 n0 _ T292.heap _
    rw [e292]
    exact ⟨rfl, N292, rfl⟩
abbrev eF_gmin (m : MethodId) (x0 : Addr) : JFrame := entryFrame m #[(.ref x0)] 1
theorem ef_gmin (m : MethodId) (x0 : Addr) : entryFrame m #[(.ref x0)] 1 = mkF m 0 #[.val (.ref x0)] [] := by first | (simp [entryFrame, mkF, argsToLocals, Value.category]; done) | rfl
theorem pn_gmin : plainName "java/time/temporal/ValueRange" = true := by first | (simp [plainName, overriddenIn]; done) | decide +kernel
def Q_gmin (Z : State) (lo : Int64) (h0 : Heap) (n0 : Nat) (v : Option Value) (h : Heap) (L : List Loc) : Prop := v = some (.long lo) ∧ Fr n0 L ∧ h = h0
set_option maxRecDepth 65536 in
set_option maxHeartbeats 40000000 in
theorem rm_gmin (l : Launch) (Z : State) (a0 : Array Value) (hw : ∀ d ∈ tables_1, d.before a0 Z = true) (ws : List Jvm.Cond) (r : Addr) (lo : Int64) (h0 : Heap) (n0 : Nat) (Z0 : n0 ≤ h0.size) (F0 : Fld Z h0 r "java/time/temporal/ValueRange" "minSmallest" "J" (.long lo)) :
    MetFree l (⟨"java/time/temporal/ValueRange", "getMinimum", "()J"⟩ : MethodName) (head1 (Jvm.Cond.code (⟨"java/time/temporal/ValueRange", "getMinimum", "()J"⟩ : MethodName) jdk_2423_method_6_code 1 (some .long) :: ws) ({ frames := 0, cells := 0, slots := 0, locals := 0 } : Room)) (fun aa U => aa = #[(.ref r)] ∧ Z.Warmed39 U.vm ∧ U.heap = h0) (fun _ _ _ _ _ => True) (fun _ U o U' => ∃ v L, o = .returned v ∧ Q_gmin Z lo h0 n0 v U'.heap L ∧ FrameEnd U o U' L ({ frames := 0, cells := 0, slots := 0, locals := 0 } : Room).cells ({ frames := 0, cells := 0, slots := 0, locals := 0 } : Room).slots) := by
  refine MetFree.of_bodySF (plainFor_of_name pn_gmin) hisR ?_
  intro p e s m args below meth c s₁ Bd hml0 hP hK
  obtain ⟨rfl, hZ, hh⟩ := hP
  have hx := Bd.exec
  have hby := Bd.bytes
  have hml : c.maxLocals = 1 := hml0
  have hown : s.vm.findClass "java/time/temporal/ValueRange" = some m.cls := findClass_of_methodNamed Bd.named
  have hnm := (name_of_methodNamed Bd.named Bd.method).1
  have X0 : Stand p l e ({ frames := 0, cells := 0, slots := 0, locals := 0 } : Room) s m #[(.ref r)] below meth c s₁ [] 0 0 := Stand.of_body Bd
  have e0 : s₁.heap = h0 := by rw [← hh, Bd.state]; rfl
  have N0 := Fr.nil n0
  have S0 : Go p e below s₁ (eF_gmin m r) s₁ (mkF m 0 #[vR r] []) := fun t k => castTop (ef_gmin m r) k
  have S305 : Go p e below s₁ (eF_gmin m r) s₁ (mkF m 1 #[vR r] [(.ref r)]) := fun t kt => S0 t (by
    refine XS.aloadN X0.here hx rfl (hb hby d25_0) rfl rfl ?_
    exact kt)
  clear S0
  obtain ⟨T306, X306, e306, st306⟩ := getF X0 hx hZ hown (host := "") (Or.inl (own_h hw 117 rfl)) Via.refl e0 F0 (g := (mkF m 1 #[vR r] [(.ref r)])) rfl rfl (hb hby d25_1)
  have S307 : Go p e below s₁ (eF_gmin m r) T306 (mkF m 4 #[vR r] [(.long lo)]) := fun t kt => S305 t (st306 t kt)
  clear S305 st306 X0 e0
  obtain ⟨fs, hr, hrun, hended, hW, hsame⟩ := X306.leave (v := some (.long lo)) (fun h => by first | rfl | (rw [Bd.returns] at h; cases h))
  refine ⟨_, _, S307 _ ?_, hrun, hended, _, _, rfl, ?_, ⟨_, rfl⟩, hW, hsame.mono (by decide) (by decide)⟩
  · exact retOut X306 hx Bd.returns rfl (Or.inr (Or.inl ⟨rfl, rfl, _, rfl⟩)) (hb hby d25_4) hr
  · show Q_gmin Z lo h0 n0 _ T306.heap _
    rw [e306]
    exact ⟨rfl, N0, rfl⟩
abbrev eF_gmax (m : MethodId) (x0 : Addr) : JFrame := entryFrame m #[(.ref x0)] 1
theorem ef_gmax (m : MethodId) (x0 : Addr) : entryFrame m #[(.ref x0)] 1 = mkF m 0 #[.val (.ref x0)] [] := by first | (simp [entryFrame, mkF, argsToLocals, Value.category]; done) | rfl
theorem pn_gmax : plainName "java/time/temporal/ValueRange" = true := by first | (simp [plainName, overriddenIn]; done) | decide +kernel
def Q_gmax (Z : State) (lo : Int64) (h0 : Heap) (n0 : Nat) (v : Option Value) (h : Heap) (L : List Loc) : Prop := v = some (.long lo) ∧ Fr n0 L ∧ h = h0
set_option maxRecDepth 65536 in
set_option maxHeartbeats 40000000 in
theorem rm_gmax (l : Launch) (Z : State) (a0 : Array Value) (hw : ∀ d ∈ tables_1, d.before a0 Z = true) (ws : List Jvm.Cond) (r : Addr) (lo : Int64) (h0 : Heap) (n0 : Nat) (Z0 : n0 ≤ h0.size) (F0 : Fld Z h0 r "java/time/temporal/ValueRange" "maxLargest" "J" (.long lo)) :
    MetFree l (⟨"java/time/temporal/ValueRange", "getMaximum", "()J"⟩ : MethodName) (head1 (Jvm.Cond.code (⟨"java/time/temporal/ValueRange", "getMaximum", "()J"⟩ : MethodName) jdk_2423_method_9_code 1 (some .long) :: ws) ({ frames := 0, cells := 0, slots := 0, locals := 0 } : Room)) (fun aa U => aa = #[(.ref r)] ∧ Z.Warmed39 U.vm ∧ U.heap = h0) (fun _ _ _ _ _ => True) (fun _ U o U' => ∃ v L, o = .returned v ∧ Q_gmax Z lo h0 n0 v U'.heap L ∧ FrameEnd U o U' L ({ frames := 0, cells := 0, slots := 0, locals := 0 } : Room).cells ({ frames := 0, cells := 0, slots := 0, locals := 0 } : Room).slots) := by
  refine MetFree.of_bodySF (plainFor_of_name pn_gmax) hisR ?_
  intro p e s m args below meth c s₁ Bd hml0 hP hK
  obtain ⟨rfl, hZ, hh⟩ := hP
  have hx := Bd.exec
  have hby := Bd.bytes
  have hml : c.maxLocals = 1 := hml0
  have hown : s.vm.findClass "java/time/temporal/ValueRange" = some m.cls := findClass_of_methodNamed Bd.named
  have hnm := (name_of_methodNamed Bd.named Bd.method).1
  have X0 : Stand p l e ({ frames := 0, cells := 0, slots := 0, locals := 0 } : Room) s m #[(.ref r)] below meth c s₁ [] 0 0 := Stand.of_body Bd
  have e0 : s₁.heap = h0 := by rw [← hh, Bd.state]; rfl
  have N0 := Fr.nil n0
  have S0 : Go p e below s₁ (eF_gmax m r) s₁ (mkF m 0 #[vR r] []) := fun t k => castTop (ef_gmax m r) k
  have S308 : Go p e below s₁ (eF_gmax m r) s₁ (mkF m 1 #[vR r] [(.ref r)]) := fun t kt => S0 t (by
    refine XS.aloadN X0.here hx rfl (hb hby d26_0) rfl rfl ?_
    exact kt)
  clear S0
  obtain ⟨T309, X309, e309, st309⟩ := getF X0 hx hZ hown (host := "") (Or.inl (own_h hw 124 rfl)) Via.refl e0 F0 (g := (mkF m 1 #[vR r] [(.ref r)])) rfl rfl (hb hby d26_1)
  have S310 : Go p e below s₁ (eF_gmax m r) T309 (mkF m 4 #[vR r] [(.long lo)]) := fun t kt => S308 t (st309 t kt)
  clear S308 st309 X0 e0
  obtain ⟨fs, hr, hrun, hended, hW, hsame⟩ := X309.leave (v := some (.long lo)) (fun h => by first | rfl | (rw [Bd.returns] at h; cases h))
  refine ⟨_, _, S310 _ ?_, hrun, hended, _, _, rfl, ?_, ⟨_, rfl⟩, hW, hsame.mono (by decide) (by decide)⟩
  · exact retOut X309 hx Bd.returns rfl (Or.inr (Or.inl ⟨rfl, rfl, _, rfl⟩)) (hb hby d26_4) hr
  · show Q_gmax Z lo h0 n0 _ T309.heap _
    rw [e309]
    exact ⟨rfl, N0, rfl⟩
abbrev eF_ivv (m : MethodId) (x0 : Addr) (x1 : Int64) : JFrame := entryFrame m #[(.ref x0), (.long x1)] 3
theorem ef_ivv (m : MethodId) (x0 : Addr) (x1 : Int64) : entryFrame m #[(.ref x0), (.long x1)] 3 = mkF m 0 #[.val (.ref x0), .val (.long x1), .second] [] := by first | (simp [entryFrame, mkF, argsToLocals, Value.category]; done) | rfl
theorem pn_ivv : plainName "java/time/temporal/ValueRange" = true := by first | (simp [plainName, overriddenIn]; done) | decide +kernel
def Q_ivv (Z : State)  (h0 : Heap) (n0 : Nat) (v : Option Value) (h : Heap) (L : List Loc) : Prop := v = some (.int (1 : Int32)) ∧ Fr n0 L ∧ h = h0
set_option maxRecDepth 65536 in
set_option maxHeartbeats 40000000 in
theorem rm_ivv (l : Launch) (Z : State) (a0 : Array Value) (hw : ∀ d ∈ tables_1, d.before a0 Z = true) (ws : List Jvm.Cond) (r : Addr) (q : Int64) (lo : Int64) (hi : Int64) (h0 : Heap) (n0 : Nat) (Z0 : n0 ≤ h0.size) (Er : Exa Z h0 r "java/time/temporal/ValueRange") (L0 : Fld Z h0 r "java/time/temporal/ValueRange" "minSmallest" "J" (.long lo)) (M0 : Fld Z h0 r "java/time/temporal/ValueRange" "maxLargest" "J" (.long hi)) (h1 : lo.toInt ≤ q.toInt) (h2 : q.toInt ≤ hi.toInt) :
    MetFree l (⟨"java/time/temporal/ValueRange", "isValidValue", "(J)Z"⟩ : MethodName) (head1 (Jvm.Cond.code (⟨"java/time/temporal/ValueRange", "isValidValue", "(J)Z"⟩ : MethodName) jdk_2423_method_11_code 3 (some .boolean) :: ws) ({ frames := 1, cells := 0, slots := 0, locals := 14 } : Room)) (fun aa U => aa = #[(.ref r), (.long q)] ∧ Z.Warmed39 U.vm ∧ U.heap = h0) (fun _ _ _ _ _ => True) (fun _ U o U' => ∃ v L, o = .returned v ∧ Q_ivv Z  h0 n0 v U'.heap L ∧ FrameEnd U o U' L ({ frames := 1, cells := 0, slots := 0, locals := 14 } : Room).cells ({ frames := 1, cells := 0, slots := 0, locals := 14 } : Room).slots) := by
  refine MetFree.of_bodySF (plainFor_of_name pn_ivv) hisR ?_
  intro p e s m args below meth c s₁ Bd hml0 hP hK
  obtain ⟨rfl, hZ, hh⟩ := hP
  have hx := Bd.exec
  have hby := Bd.bytes
  have hml : c.maxLocals = 3 := hml0
  have hown : s.vm.findClass "java/time/temporal/ValueRange" = some m.cls := findClass_of_methodNamed Bd.named
  have hnm := (name_of_methodNamed Bd.named Bd.method).1
  have X0 : Stand p l e ({ frames := 1, cells := 0, slots := 0, locals := 14 } : Room) s m #[(.ref r), (.long q)] below meth c s₁ [] 0 0 := Stand.of_body Bd
  have e0 : s₁.heap = h0 := by rw [← hh, Bd.state]; rfl
  have N0 := Fr.nil n0
  have S0 : Go p e below s₁ (eF_ivv m r q) s₁ (mkF m 0 #[vR r, vJ q, .second] []) := fun t k => castTop (ef_ivv m r q) k
  have S311 : Go p e below s₁ (eF_ivv m r q) s₁ (mkF m 2 #[vR r, vJ q, .second] [(.ref r), (.long q)]) := fun t kt => S0 t (by
    refine XS.lloadN X0.here hx rfl (hb hby d24_0) rfl ?_
    refine XS.aloadN X0.here hx rfl (hb hby d24_1) rfl rfl ?_
    show Sp p e below s₁ (mkF m 2 #[vR r, vJ q, .second] [(.ref r), (.long q)]) _
    exact kt)
  clear S0
  obtain ⟨cq312, kq312, q312a, q312b, q312c⟩ := isOf hZ e0 Er
  obtain ⟨v312, T312, L312, X312, hQ312, st312⟩ := own_outV (X0.virtualBack hx (y := (⟨"java/time/temporal/ValueRange", "getMinimum", "()J"⟩ : MethodName)) (z := (⟨"java/time/temporal/ValueRange", "getMinimum", "()J"⟩ : MethodName)) hown (mvT hZ (own_h hw 112 rfl)) (mvT hZ (own_h hw 113 rfl)) (notFace_of_selects (args := #[]) (mvT hZ (own_h hw 115 rfl))) (mvT hZ (own_h hw 115 rfl)) (mvT hZ (own_h hw 114 rfl)) (by decide) (backOf (W := 2) (rm_gmin l Z a0 hw [] r lo h0 n0 Z0 L0) hZ (own_h hw 116 rfl) (own_h hw 105 rfl) (by decide) (by decide)) q312a q312c (g := (mkF m 2 #[vR r, vJ q, .second] [(.ref r), (.long q)])) rfl (by rw [hml]; rfl) (Steps.refl _) (argsL := []) (rest := [(.long q)]) (lenOf pd___J rfl) rfl (by show 2 * 0 + _ ≤ _; exact Nat.le_of_eq rfl) (hb hby d24_2) (fun _ _ => ⟨rfl, e0, (by decide : 0 + 0 ≤ _), (by decide : 0 + 0 ≤ _)⟩))
  obtain ⟨rfl, N312q, e312⟩ := hQ312
  have N312 := Fr.app N0 N312q
  have S313 : Go p e below s₁ (eF_ivv m r q) T312 (mkF m 5 #[vR r, vJ q, .second] [(.long lo), (.long q)]) := fun t kt => S311 t (st312 t kt)
  clear S311 st312 X0 e0
  have S314 : Go p e below s₁ (eF_ivv m r q) T312 (mkF m 6 #[vR r, vJ q, .second] [(.int (lcmpW q lo))]) := fun t kt => S313 t (by
    refine XS.lcmp X312.here hx rfl (hb hby d24_5) rfl ?_
    exact kt)
  clear S313
  have S315 : Go p e below s₁ (eF_ivv m r q) T312 (mkF m 11 #[vR r, vJ q, .second] [(.ref r), (.long q)]) := fun t kt => S314 t (by
    refine XS.ifNo X312.here hx rfl (hb hby d24_6) rfl ((if0 _ _).trans (flt (show ¬ ((lcmpW q lo) < (0 : Int32)) from (fun z => absurd (own_lcl.mp z) (by omega)))).1) ?_
    refine XS.lloadN X312.here hx rfl (hb hby d24_9) rfl ?_
    show Sp p e below T312 (mkF m 10 #[vR r, vJ q, .second] [(.long q)]) _
    refine XS.aloadN X312.here hx rfl (hb hby d24_10) rfl rfl ?_
    exact kt)
  clear S314
  obtain ⟨cq316, kq316, q316a, q316b, q316c⟩ := isOf hZ e312 Er
  obtain ⟨v316, T316, L316, X316, hQ316, st316⟩ := own_outV (X312.virtualBack hx (y := (⟨"java/time/temporal/ValueRange", "getMaximum", "()J"⟩ : MethodName)) (z := (⟨"java/time/temporal/ValueRange", "getMaximum", "()J"⟩ : MethodName)) hown (mvT hZ (own_h hw 119 rfl)) (mvT hZ (own_h hw 120 rfl)) (notFace_of_selects (args := #[]) (mvT hZ (own_h hw 122 rfl))) (mvT hZ (own_h hw 122 rfl)) (mvT hZ (own_h hw 121 rfl)) (by decide) (backOf (W := 2) (rm_gmax l Z a0 hw [] r hi h0 n0 Z0 M0) hZ (own_h hw 123 rfl) (own_h hw 105 rfl) (by decide) (by decide)) q316a q316c (g := (mkF m 11 #[vR r, vJ q, .second] [(.ref r), (.long q)])) rfl (by rw [hml]; rfl) (Steps.refl _) (argsL := []) (rest := [(.long q)]) (lenOf pd___J rfl) rfl (by show 2 * 0 + _ ≤ _; exact Nat.le_of_eq rfl) (hb hby d24_11) (fun _ _ => ⟨rfl, e312, (by decide : 0 + 0 ≤ _), (by decide : 0 + 0 ≤ _)⟩))
  obtain ⟨rfl, N316q, e316⟩ := hQ316
  have N316 := Fr.app N312 N316q
  have S317 : Go p e below s₁ (eF_ivv m r q) T316 (mkF m 14 #[vR r, vJ q, .second] [(.long hi), (.long q)]) := fun t kt => S315 t (st316 t kt)
  clear S315 st316 X312 e312
  have S318 : Go p e below s₁ (eF_ivv m r q) T316 (mkF m 15 #[vR r, vJ q, .second] [(.int (lcmpW q hi))]) := fun t kt => S317 t (by
    refine XS.lcmp X316.here hx rfl (hb hby d24_14) rfl ?_
    exact kt)
  clear S317
  have S319 : Go p e below s₁ (eF_ivv m r q) T316 (mkF m 23 #[vR r, vJ q, .second] [(.int (1 : Int32))]) := fun t kt => S318 t (by
    refine XS.ifNo X316.here hx rfl (hb hby d24_15) rfl ((if0 _ _).trans (flt (show ¬ ((0 : Int32) < (lcmpW q hi)) from (fun z => absurd (own_lcg.mp z) (by omega)))).2.2.1) ?_
    refine XS.iconst X316.here hx rfl (hb hby d24_18) ?_
    show Sp p e below T316 (mkF m 19 #[vR r, vJ q, .second] [(.int (1 : Int32))]) _
    refine XS.goto X316.here hx rfl (pc0 := 19) (pc' := 23) rfl (hb hby d24_19) (by decide) (by decide) ?_
    exact kt)
  clear S318
  obtain ⟨fs, hr, hrun, hended, hW, hsame⟩ := X316.leave (v := some (.int (1 : Int32))) (fun h => by first | rfl | (rw [Bd.returns] at h; cases h))
  refine ⟨_, _, S319 _ ?_, hrun, hended, _, _, rfl, ?_, ⟨_, rfl⟩, hW, hsame.mono (by decide) (by decide)⟩
  · exact retN X316 hx (t := .boolean) Bd.returns (by simp) (hb hby d24_23) hr
  · show Q_ivv Z  h0 n0 _ T316.heap _
    rw [e316]
    exact ⟨rfl, N316, rfl⟩
abbrev eF_vcv (m : MethodId) (x0 : Addr) (x1 : Int64) (x2 : Addr) : JFrame := entryFrame m #[(.ref x0), (.long x1), (.ref x2)] 4
theorem ef_vcv (m : MethodId) (x0 : Addr) (x1 : Int64) (x2 : Addr) : entryFrame m #[(.ref x0), (.long x1), (.ref x2)] 4 = mkF m 0 #[.val (.ref x0), .val (.long x1), .second, .val (.ref x2)] [] := by first | (simp [entryFrame, mkF, argsToLocals, Value.category]; done) | rfl
theorem pn_vcv : plainName "java/time/temporal/ValueRange" = true := by first | (simp [plainName, overriddenIn]; done) | decide +kernel
def Q_vcv (Z : State) (q : Int64) (h0 : Heap) (n0 : Nat) (v : Option Value) (h : Heap) (L : List Loc) : Prop := v = some (.long q) ∧ Fr n0 L ∧ h = h0
set_option maxRecDepth 65536 in
set_option maxHeartbeats 40000000 in
theorem rm_vcv (l : Launch) (Z : State) (a0 : Array Value) (hw : ∀ d ∈ tables_1, d.before a0 Z = true) (ws : List Jvm.Cond) (r : Addr) (q : Int64) (a : Addr) (lo : Int64) (hi : Int64) (h0 : Heap) (n0 : Nat) (Z0 : n0 ≤ h0.size) (Er : Exa Z h0 r "java/time/temporal/ValueRange") (L0 : Fld Z h0 r "java/time/temporal/ValueRange" "minSmallest" "J" (.long lo)) (M0 : Fld Z h0 r "java/time/temporal/ValueRange" "maxLargest" "J" (.long hi)) (h1 : lo.toInt ≤ q.toInt) (h2 : q.toInt ≤ hi.toInt) :
    MetFree l (⟨"java/time/temporal/ValueRange", "checkValidValue", "(JLjava/time/temporal/TemporalField;)J"⟩ : MethodName) (head1 (Jvm.Cond.code (⟨"java/time/temporal/ValueRange", "checkValidValue", "(JLjava/time/temporal/TemporalField;)J"⟩ : MethodName) jdk_2423_method_13_code 4 (some .long) :: ws) ({ frames := 2, cells := 0, slots := 0, locals := 28 } : Room)) (fun aa U => aa = #[(.ref r), (.long q), (.ref a)] ∧ Z.Warmed39 U.vm ∧ U.heap = h0) (fun _ _ _ _ _ => True) (fun _ U o U' => ∃ v L, o = .returned v ∧ Q_vcv Z q h0 n0 v U'.heap L ∧ FrameEnd U o U' L ({ frames := 2, cells := 0, slots := 0, locals := 28 } : Room).cells ({ frames := 2, cells := 0, slots := 0, locals := 28 } : Room).slots) := by
  refine MetFree.of_bodySF (plainFor_of_name pn_vcv) hisR ?_
  intro p e s m args below meth c s₁ Bd hml0 hP hK
  obtain ⟨rfl, hZ, hh⟩ := hP
  have hx := Bd.exec
  have hby := Bd.bytes
  have hml : c.maxLocals = 4 := hml0
  have hown : s.vm.findClass "java/time/temporal/ValueRange" = some m.cls := findClass_of_methodNamed Bd.named
  have hnm := (name_of_methodNamed Bd.named Bd.method).1
  have X0 : Stand p l e ({ frames := 2, cells := 0, slots := 0, locals := 28 } : Room) s m #[(.ref r), (.long q), (.ref a)] below meth c s₁ [] 0 0 := Stand.of_body Bd
  have e0 : s₁.heap = h0 := by rw [← hh, Bd.state]; rfl
  have N0 := Fr.nil n0
  have S0 : Go p e below s₁ (eF_vcv m r q a) s₁ (mkF m 0 #[vR r, vJ q, .second, vR a] []) := fun t k => castTop (ef_vcv m r q a) k
  have S320 : Go p e below s₁ (eF_vcv m r q a) s₁ (mkF m 2 #[vR r, vJ q, .second, vR a] [(.long q), (.ref r)]) := fun t kt => S0 t (by
    refine XS.aloadN X0.here hx rfl (hb hby d23_0) rfl rfl ?_
    refine XS.lloadN X0.here hx rfl (hb hby d23_1) rfl ?_
    show Sp p e below s₁ (mkF m 2 #[vR r, vJ q, .second, vR a] [(.long q), (.ref r)]) _
    exact kt)
  clear S0
  obtain ⟨cq321, kq321, q321a, q321b, q321c⟩ := isOf hZ e0 Er
  obtain ⟨v321, T321, L321, X321, hQ321, st321⟩ := own_outV (X0.virtualBack hx (y := (⟨"java/time/temporal/ValueRange", "isValidValue", "(J)Z"⟩ : MethodName)) (z := (⟨"java/time/temporal/ValueRange", "isValidValue", "(J)Z"⟩ : MethodName)) hown (mvT hZ (own_h hw 107 rfl)) (mvT hZ (own_h hw 108 rfl)) (notFace_of_selects (args := #[]) (mvT hZ (own_h hw 110 rfl))) (mvT hZ (own_h hw 110 rfl)) (mvT hZ (own_h hw 109 rfl)) (by decide) (backOf (W := 0) (rm_ivv l Z a0 hw [] r q lo hi h0 n0 Z0 Er L0 M0 h1 h2) hZ (own_h hw 111 rfl) (own_h hw 105 rfl) (by decide) (by decide)) q321a q321c (g := (mkF m 2 #[vR r, vJ q, .second, vR a] [(.long q), (.ref r)])) rfl (by rw [hml]; rfl) (Steps.refl _) (argsL := [(.long q)]) (rest := []) (lenOf pd__J_Z rfl) rfl (by show 2 * 0 + _ ≤ _; exact Nat.le_of_eq rfl) (hb hby d23_2) (fun _ _ => ⟨rfl, e0, (by decide : 0 + 0 ≤ _), (by decide : 0 + 0 ≤ _)⟩))
  obtain ⟨rfl, N321q, e321⟩ := hQ321
  have N321 := Fr.app N0 N321q
  have S322 : Go p e below s₁ (eF_vcv m r q a) T321 (mkF m 5 #[vR r, vJ q, .second, vR a] [(.int (1 : Int32))]) := fun t kt => S320 t (st321 t kt)
  clear S320 st321 X0 e0
  have S323 : Go p e below s₁ (eF_vcv m r q a) T321 (mkF m 23 #[vR r, vJ q, .second, vR a] [(.long q)]) := fun t kt => S322 t (by
    refine XS.ifYes X321.here hx rfl (pc0 := 5) (pc' := 22) rfl (hb hby d23_5) rfl ((if0 _ _).trans (feq (show ¬ ((1 : Int32) = (0 : Int32)) from (by decide))).2) (by decide) (by decide) ?_
    refine XS.lloadN X321.here hx rfl (hb hby d23_22) rfl ?_
    show Sp p e below T321 (mkF m 23 #[vR r, vJ q, .second, vR a] [(.long q)]) _
    exact kt)
  clear S322
  obtain ⟨fs, hr, hrun, hended, hW, hsame⟩ := X321.leave (v := some (.long q)) (fun h => by first | rfl | (rw [Bd.returns] at h; cases h))
  refine ⟨_, _, S323 _ ?_, hrun, hended, _, _, rfl, ?_, ⟨_, rfl⟩, hW, hsame.mono (by decide) (by decide)⟩
  · exact retOut X321 hx Bd.returns rfl (Or.inr (Or.inl ⟨rfl, rfl, _, rfl⟩)) (hb hby d23_23) hr
  · show Q_vcv Z q h0 n0 _ T321.heap _
    rw [e321]
    exact ⟨rfl, N321, rfl⟩
abbrev eF_rng (m : MethodId) (x0 : Addr) : JFrame := entryFrame m #[(.ref x0)] 1
theorem ef_rng (m : MethodId) (x0 : Addr) : entryFrame m #[(.ref x0)] 1 = mkF m 0 #[.val (.ref x0)] [] := by first | (simp [entryFrame, mkF, argsToLocals, Value.category]; done) | rfl
theorem pn_rng : plainName "java/time/temporal/ChronoField" = true := by first | (simp [plainName, overriddenIn]; done) | decide +kernel
def Q_rng (Z : State) (r : Addr) (h0 : Heap) (n0 : Nat) (v : Option Value) (h : Heap) (L : List Loc) : Prop := v = some (.ref r) ∧ Fr n0 L ∧ h = h0
set_option maxRecDepth 65536 in
set_option maxHeartbeats 40000000 in
theorem rm_rng (l : Launch) (Z : State) (a0 : Array Value) (hw : ∀ d ∈ tables_1, d.before a0 Z = true) (ws : List Jvm.Cond) (a : Addr) (r : Addr) (h0 : Heap) (n0 : Nat) (Z0 : n0 ≤ h0.size) (F0 : Fld Z h0 a "java/time/temporal/ChronoField" "range" "Ljava/time/temporal/ValueRange;" (.ref r)) :
    MetFree l (⟨"java/time/temporal/ChronoField", "range", "()Ljava/time/temporal/ValueRange;"⟩ : MethodName) (head1 (Jvm.Cond.code (⟨"java/time/temporal/ChronoField", "range", "()Ljava/time/temporal/ValueRange;"⟩ : MethodName) jdk_2395_method_8_code 1 (some (.object "java/time/temporal/ValueRange")) :: ws) ({ frames := 0, cells := 0, slots := 0, locals := 0 } : Room)) (fun aa U => aa = #[(.ref a)] ∧ Z.Warmed39 U.vm ∧ U.heap = h0) (fun _ _ _ _ _ => True) (fun _ U o U' => ∃ v L, o = .returned v ∧ Q_rng Z r h0 n0 v U'.heap L ∧ FrameEnd U o U' L ({ frames := 0, cells := 0, slots := 0, locals := 0 } : Room).cells ({ frames := 0, cells := 0, slots := 0, locals := 0 } : Room).slots) := by
  refine MetFree.of_bodySF (plainFor_of_name pn_rng) hisR ?_
  intro p e s m args below meth c s₁ Bd hml0 hP hK
  obtain ⟨rfl, hZ, hh⟩ := hP
  have hx := Bd.exec
  have hby := Bd.bytes
  have hml : c.maxLocals = 1 := hml0
  have hown : s.vm.findClass "java/time/temporal/ChronoField" = some m.cls := findClass_of_methodNamed Bd.named
  have hnm := (name_of_methodNamed Bd.named Bd.method).1
  have X0 : Stand p l e ({ frames := 0, cells := 0, slots := 0, locals := 0 } : Room) s m #[(.ref a)] below meth c s₁ [] 0 0 := Stand.of_body Bd
  have e0 : s₁.heap = h0 := by rw [← hh, Bd.state]; rfl
  have N0 := Fr.nil n0
  have S0 : Go p e below s₁ (eF_rng m a) s₁ (mkF m 0 #[vR a] []) := fun t k => castTop (ef_rng m a) k
  have S324 : Go p e below s₁ (eF_rng m a) s₁ (mkF m 1 #[vR a] [(.ref a)]) := fun t kt => S0 t (by
    refine XS.aloadN X0.here hx rfl (hb hby d22_0) rfl rfl ?_
    exact kt)
  clear S0
  obtain ⟨T325, X325, e325, st325⟩ := getF X0 hx hZ hown (host := "") (Or.inl (own_h hw 99 rfl)) Via.refl e0 F0 (g := (mkF m 1 #[vR a] [(.ref a)])) rfl rfl (hb hby d22_1)
  have S326 : Go p e below s₁ (eF_rng m a) T325 (mkF m 4 #[vR a] [(.ref r)]) := fun t kt => S324 t (st325 t kt)
  clear S324 st325 X0 e0
  obtain ⟨fs, hr, hrun, hended, hW, hsame⟩ := X325.leave (v := some (.ref r)) (fun h => by first | rfl | (rw [Bd.returns] at h; cases h))
  refine ⟨_, _, S326 _ ?_, hrun, hended, _, _, rfl, ?_, ⟨_, rfl⟩, hW, hsame.mono (by decide) (by decide)⟩
  · exact retOut X325 hx Bd.returns rfl (Or.inr (Or.inr (Or.inr (Or.inr ⟨rfl, rfl, rfl⟩)))) (hb hby d22_4) hr
  · show Q_rng Z r h0 n0 _ T325.heap _
    rw [e325]
    exact ⟨rfl, N0, rfl⟩
abbrev eF_ccv (m : MethodId) (x0 : Addr) (x1 : Int64) : JFrame := entryFrame m #[(.ref x0), (.long x1)] 3
theorem ef_ccv (m : MethodId) (x0 : Addr) (x1 : Int64) : entryFrame m #[(.ref x0), (.long x1)] 3 = mkF m 0 #[.val (.ref x0), .val (.long x1), .second] [] := by first | (simp [entryFrame, mkF, argsToLocals, Value.category]; done) | rfl
theorem pn_ccv : plainName "java/time/temporal/ChronoField" = true := by first | (simp [plainName, overriddenIn]; done) | decide +kernel
def Q_ccv (Z : State) (q : Int64) (h0 : Heap) (n0 : Nat) (v : Option Value) (h : Heap) (L : List Loc) : Prop := v = some (.long q) ∧ Fr n0 L ∧ h = h0
set_option maxRecDepth 65536 in
set_option maxHeartbeats 40000000 in
theorem rm_ccv (l : Launch) (Z : State) (a0 : Array Value) (hw : ∀ d ∈ tables_1, d.before a0 Z = true) (ws : List Jvm.Cond) (a : Addr) (q : Int64) (r : Addr) (lo : Int64) (hi : Int64) (h0 : Heap) (n0 : Nat) (Z0 : n0 ≤ h0.size) (Ea : Exa Z h0 a "java/time/temporal/ChronoField") (F0 : Fld Z h0 a "java/time/temporal/ChronoField" "range" "Ljava/time/temporal/ValueRange;" (.ref r)) (Er : Exa Z h0 r "java/time/temporal/ValueRange") (L0 : Fld Z h0 r "java/time/temporal/ValueRange" "minSmallest" "J" (.long lo)) (M0 : Fld Z h0 r "java/time/temporal/ValueRange" "maxLargest" "J" (.long hi)) (h1 : lo.toInt ≤ q.toInt) (h2 : q.toInt ≤ hi.toInt) :
    MetFree l (⟨"java/time/temporal/ChronoField", "checkValidValue", "(J)J"⟩ : MethodName) (head1 (Jvm.Cond.code (⟨"java/time/temporal/ChronoField", "checkValidValue", "(J)J"⟩ : MethodName) jdk_2395_method_11_code 3 (some .long) :: ws) ({ frames := 3, cells := 0, slots := 0, locals := 43 } : Room)) (fun aa U => aa = #[(.ref a), (.long q)] ∧ Z.Warmed39 U.vm ∧ U.heap = h0) (fun _ _ _ _ _ => True) (fun _ U o U' => ∃ v L, o = .returned v ∧ Q_ccv Z q h0 n0 v U'.heap L ∧ FrameEnd U o U' L ({ frames := 3, cells := 0, slots := 0, locals := 43 } : Room).cells ({ frames := 3, cells := 0, slots := 0, locals := 43 } : Room).slots) := by
  refine MetFree.of_bodySF (plainFor_of_name pn_ccv) hisR ?_
  intro p e s m args below meth c s₁ Bd hml0 hP hK
  obtain ⟨rfl, hZ, hh⟩ := hP
  have hx := Bd.exec
  have hby := Bd.bytes
  have hml : c.maxLocals = 3 := hml0
  have hown : s.vm.findClass "java/time/temporal/ChronoField" = some m.cls := findClass_of_methodNamed Bd.named
  have hnm := (name_of_methodNamed Bd.named Bd.method).1
  have X0 : Stand p l e ({ frames := 3, cells := 0, slots := 0, locals := 43 } : Room) s m #[(.ref a), (.long q)] below meth c s₁ [] 0 0 := Stand.of_body Bd
  have e0 : s₁.heap = h0 := by rw [← hh, Bd.state]; rfl
  have N0 := Fr.nil n0
  have S0 : Go p e below s₁ (eF_ccv m a q) s₁ (mkF m 0 #[vR a, vJ q, .second] []) := fun t k => castTop (ef_ccv m a q) k
  have S327 : Go p e below s₁ (eF_ccv m a q) s₁ (mkF m 1 #[vR a, vJ q, .second] [(.ref a)]) := fun t kt => S0 t (by
    refine XS.aloadN X0.here hx rfl (hb hby d21_0) rfl rfl ?_
    exact kt)
  clear S0
  obtain ⟨cq328, kq328, q328a, q328b, q328c⟩ := isOf hZ e0 Ea
  obtain ⟨v328, T328, L328, X328, hQ328, st328⟩ := own_outV (X0.virtualBack hx (y := (⟨"java/time/temporal/ChronoField", "range", "()Ljava/time/temporal/ValueRange;"⟩ : MethodName)) (z := (⟨"java/time/temporal/ChronoField", "range", "()Ljava/time/temporal/ValueRange;"⟩ : MethodName)) hown (mvT hZ (own_h hw 94 rfl)) (mvT hZ (own_h hw 95 rfl)) (notFace_of_selects (args := #[]) (mvT hZ (own_h hw 97 rfl))) (mvT hZ (own_h hw 97 rfl)) (mvT hZ (own_h hw 96 rfl)) (by decide) (backOf (W := 0) (rm_rng l Z a0 hw [] a r h0 n0 Z0 F0) hZ (own_h hw 98 rfl) (own_h hw 88 rfl) (by decide) (by decide)) q328a q328c (g := (mkF m 1 #[vR a, vJ q, .second] [(.ref a)])) rfl (by rw [hml]; rfl) (Steps.refl _) (argsL := []) (rest := []) (lenOf pd___Ljava_time_temporal_ValueRange_ rfl) rfl (by show 2 * 0 + _ ≤ _; exact Nat.le_of_eq rfl) (hb hby d21_1) (fun _ _ => ⟨rfl, e0, (by decide : 0 + 0 ≤ _), (by decide : 0 + 0 ≤ _)⟩))
  obtain ⟨rfl, N328q, e328⟩ := hQ328
  have N328 := Fr.app N0 N328q
  have S329 : Go p e below s₁ (eF_ccv m a q) T328 (mkF m 4 #[vR a, vJ q, .second] [(.ref r)]) := fun t kt => S327 t (st328 t kt)
  clear S327 st328 X0 e0
  have S330 : Go p e below s₁ (eF_ccv m a q) T328 (mkF m 6 #[vR a, vJ q, .second] [(.ref a), (.long q), (.ref r)]) := fun t kt => S329 t (by
    refine XS.lloadN X328.here hx rfl (hb hby d21_4) rfl ?_
    refine XS.aloadN X328.here hx rfl (hb hby d21_5) rfl rfl ?_
    show Sp p e below T328 (mkF m 6 #[vR a, vJ q, .second] [(.ref a), (.long q), (.ref r)]) _
    exact kt)
  clear S329
  obtain ⟨cq331, kq331, q331a, q331b, q331c⟩ := isOf hZ e328 Er
  obtain ⟨v331, T331, L331, X331, hQ331, st331⟩ := own_outV (X328.virtualBack hx (y := (⟨"java/time/temporal/ValueRange", "checkValidValue", "(JLjava/time/temporal/TemporalField;)J"⟩ : MethodName)) (z := (⟨"java/time/temporal/ValueRange", "checkValidValue", "(JLjava/time/temporal/TemporalField;)J"⟩ : MethodName)) hown (mvT hZ (own_h hw 101 rfl)) (mvT hZ (own_h hw 102 rfl)) (notFace_of_selects (args := #[]) (mvT hZ (own_h hw 104 rfl))) (mvT hZ (own_h hw 104 rfl)) (mvT hZ (own_h hw 103 rfl)) (by decide) (backOf (W := 0) (rm_vcv l Z a0 hw [] r q a lo hi h0 n0 Z0 Er L0 M0 h1 h2) hZ (own_h hw 106 rfl) (own_h hw 105 rfl) (by decide) (by decide)) q331a q331c (g := (mkF m 6 #[vR a, vJ q, .second] [(.ref a), (.long q), (.ref r)])) rfl (by rw [hml]; rfl) (Steps.refl _) (argsL := [(.long q), (.ref a)]) (rest := []) (lenOf pd__JLjava_time_temporal_TemporalField__J rfl) rfl (by show 2 * 0 + _ ≤ _; exact Nat.le_of_eq rfl) (hb hby d21_6) (fun _ _ => ⟨rfl, e328, (by decide : 0 + 0 ≤ _), (by decide : 0 + 0 ≤ _)⟩))
  obtain ⟨rfl, N331q, e331⟩ := hQ331
  have N331 := Fr.app N328 N331q
  have S332 : Go p e below s₁ (eF_ccv m a q) T331 (mkF m 9 #[vR a, vJ q, .second] [(.long q)]) := fun t kt => S330 t (st331 t kt)
  clear S330 st331 X328 e328
  obtain ⟨fs, hr, hrun, hended, hW, hsame⟩ := X331.leave (v := some (.long q)) (fun h => by first | rfl | (rw [Bd.returns] at h; cases h))
  refine ⟨_, _, S332 _ ?_, hrun, hended, _, _, rfl, ?_, ⟨_, rfl⟩, hW, hsame.mono (by decide) (by decide)⟩
  · exact retOut X331 hx Bd.returns rfl (Or.inr (Or.inl ⟨rfl, rfl, _, rfl⟩)) (hb hby d21_9) hr
  · show Q_ccv Z q h0 n0 _ T331.heap _
    rw [e331]
    exact ⟨rfl, N331, rfl⟩
abbrev eF_ldi (m : MethodId) (x0 : Addr) (x1 : Int32) (x2 : Int32) (x3 : Int32) : JFrame := entryFrame m #[(.ref x0), (.int x1), (.int x2), (.int x3)] 4
theorem ef_ldi (m : MethodId) (x0 : Addr) (x1 : Int32) (x2 : Int32) (x3 : Int32) : entryFrame m #[(.ref x0), (.int x1), (.int x2), (.int x3)] 4 = mkF m 0 #[.val (.ref x0), .val (.int x1), .val (.int x2), .val (.int x3)] [] := by first | (simp [entryFrame, mkF, argsToLocals, Value.category]; done) | rfl
theorem pn_ldi : plainName "java/time/LocalDate" = true := by first | (simp [plainName, overriddenIn]; done) | decide +kernel
def Q_ldi (Z : State) (x : Addr) (yn : Nat) (mn : Nat) (dn : Nat) (h0 : Heap) (n0 : Nat) (v : Option Value) (h : Heap) (L : List Loc) : Prop := v = none ∧ Fr n0 L ∧ Keep h0 h [x] ∧ Exa Z h x "java/time/LocalDate" ∧ Fld Z h x "java/time/LocalDate" "year" "I" (.int (Int32.ofNat yn)) ∧ Fld Z h x "java/time/LocalDate" "month" "S" (.int (Int32.ofNat mn)) ∧ Fld Z h x "java/time/LocalDate" "day" "S" (.int (Int32.ofNat dn))
set_option maxRecDepth 65536 in
set_option maxHeartbeats 40000000 in
theorem rm_ldi (l : Launch) (Z : State) (a0 : Array Value) (hw : ∀ d ∈ tables_1, d.before a0 Z = true) (ws : List Jvm.Cond) (x : Addr) (yn : Nat) (mn : Nat) (dn : Nat) (h0 : Heap) (n0 : Nat) (Z0 : n0 ≤ h0.size) (E0 : Exa Z h0 x "java/time/LocalDate") (F_year : Fld Z h0 x "java/time/LocalDate" "year" "I" (.int (0 : Int32))) (F_month : Fld Z h0 x "java/time/LocalDate" "month" "S" (.int (0 : Int32))) (F_day : Fld Z h0 x "java/time/LocalDate" "day" "S" (.int (0 : Int32))) (g_x : n0 ≤ x) (hy : yn ≤ 9999) (hm : 1 ≤ mn) (hm2 : mn ≤ 12) (hd : 1 ≤ dn) (hd2 : dn ≤ 28) :
    MetFree l (⟨"java/time/LocalDate", "<init>", "(III)V"⟩ : MethodName) (head1 (Jvm.Cond.code (⟨"java/time/LocalDate", "<init>", "(III)V"⟩ : MethodName) jdk_2323_method_14_code 4 none :: ws) ({ frames := 1, cells := 0, slots := 0, locals := 12 } : Room)) (fun aa U => aa = #[(.ref x), (.int (Int32.ofNat yn)), (.int (Int32.ofNat mn)), (.int (Int32.ofNat dn))] ∧ Z.Warmed39 U.vm ∧ U.heap = h0) (fun _ _ _ _ _ => True) (fun _ U o U' => ∃ v L, o = .returned v ∧ Q_ldi Z x yn mn dn h0 n0 v U'.heap L ∧ FrameEnd U o U' L ({ frames := 1, cells := 0, slots := 0, locals := 12 } : Room).cells ({ frames := 1, cells := 0, slots := 0, locals := 12 } : Room).slots) := by
  refine MetFree.of_bodySF (plainFor_of_name pn_ldi) hisR ?_
  intro p e s m args below meth c s₁ Bd hml0 hP hK
  obtain ⟨rfl, hZ, hh⟩ := hP
  have hx := Bd.exec
  have hby := Bd.bytes
  have hml : c.maxLocals = 4 := hml0
  have hown : s.vm.findClass "java/time/LocalDate" = some m.cls := findClass_of_methodNamed Bd.named
  have hnm := (name_of_methodNamed Bd.named Bd.method).1
  have X0 : Stand p l e ({ frames := 1, cells := 0, slots := 0, locals := 12 } : Room) s m #[(.ref x), (.int (Int32.ofNat yn)), (.int (Int32.ofNat mn)), (.int (Int32.ofNat dn))] below meth c s₁ [] 0 0 := Stand.of_body Bd
  have e0 : s₁.heap = h0 := by rw [← hh, Bd.state]; rfl
  have N0 := Fr.nil n0
  have S0 : Go p e below s₁ (eF_ldi m x (Int32.ofNat yn) (Int32.ofNat mn) (Int32.ofNat dn)) s₁ (mkF m 0 #[vR x, vI (Int32.ofNat yn), vI (Int32.ofNat mn), vI (Int32.ofNat dn)] []) := fun t k => castTop (ef_ldi m x (Int32.ofNat yn) (Int32.ofNat mn) (Int32.ofNat dn)) k
  have S333 : Go p e below s₁ (eF_ldi m x (Int32.ofNat yn) (Int32.ofNat mn) (Int32.ofNat dn)) s₁ (mkF m 1 #[vR x, vI (Int32.ofNat yn), vI (Int32.ofNat mn), vI (Int32.ofNat dn)] [(.ref x)]) := fun t kt => S0 t (by
    refine XS.aloadN X0.here hx rfl (hb hby d28_0) rfl rfl ?_
    exact kt)
  clear S0
  obtain ⟨T334, X334, e334, st334⟩ := initO X0 hx hZ hown (own_h hw 137 rfl) (own_h hw 17 rfl) (own_h hw 18 rfl) e0 (g := (mkF m 1 #[vR x, vI (Int32.ofNat yn), vI (Int32.ofNat mn), vI (Int32.ofNat dn)] [(.ref x)])) rfl (by rw [hml]; rfl) rfl (hb hby d28_1) (by decide) (W := 0) (by show 2 * 0 + _ ≤ _; exact Nat.le_of_eq rfl) (by decide)
  have S335 : Go p e below s₁ (eF_ldi m x (Int32.ofNat yn) (Int32.ofNat mn) (Int32.ofNat dn)) T334 (mkF m 4 #[vR x, vI (Int32.ofNat yn), vI (Int32.ofNat mn), vI (Int32.ofNat dn)] []) := fun t kt => S333 t (st334 t kt)
  clear S333 st334 X0 e0
  have S336 : Go p e below s₁ (eF_ldi m x (Int32.ofNat yn) (Int32.ofNat mn) (Int32.ofNat dn)) T334 (mkF m 6 #[vR x, vI (Int32.ofNat yn), vI (Int32.ofNat mn), vI (Int32.ofNat dn)] [(.int (Int32.ofNat yn)), (.ref x)]) := fun t kt => S335 t (by
    refine XS.aloadN X334.here hx rfl (hb hby d28_4) rfl rfl ?_
    refine XS.iloadN X334.here hx rfl (hb hby d28_5) rfl ?_
    show Sp p e below T334 (mkF m 6 #[vR x, vI (Int32.ofNat yn), vI (Int32.ofNat mn), vI (Int32.ofNat dn)] [(.int (Int32.ofNat yn)), (.ref x)]) _
    exact kt)
  clear S335
  obtain ⟨T337, h337, X337, e337, W337, st337⟩ := putF X334 hx hZ hown (host := "") (Or.inl (own_h hw 138 rfl)) Via.refl e334 F_year E0 (Or.inr ⟨(own_h hw 139 rfl), rfl, hnm⟩) (own_h hw 132 rfl) (ty := .int) (by decide) rfl rfl (g := (mkF m 6 #[vR x, vI (Int32.ofNat yn), vI (Int32.ofNat mn), vI (Int32.ofNat dn)] [(.int (Int32.ofNat yn)), (.ref x)])) rfl rfl (hb hby d28_6)
  have N337 := Fr.snoc X337 N0 g_x
  have K337 : Keep h0 h337 [x] := (Keep.refl h0 [x]).wr W337 (Or.inl (by simp))
  have Fw337 := F_year.same W337
  have S338 : Go p e below s₁ (eF_ldi m x (Int32.ofNat yn) (Int32.ofNat mn) (Int32.ofNat dn)) T337 (mkF m 9 #[vR x, vI (Int32.ofNat yn), vI (Int32.ofNat mn), vI (Int32.ofNat dn)] []) := fun t kt => S336 t (st337 t kt)
  clear S336 st337 X334 e334
  have S339 : Go p e below s₁ (eF_ldi m x (Int32.ofNat yn) (Int32.ofNat mn) (Int32.ofNat dn)) T337 (mkF m 12 #[vR x, vI (Int32.ofNat yn), vI (Int32.ofNat mn), vI (Int32.ofNat dn)] [(.int ((Int32.ofNat mn).toInt16.toInt32)), (.ref x)]) := fun t kt => S338 t (by
    refine XS.aloadN X337.here hx rfl (hb hby d28_9) rfl rfl ?_
    refine XS.iloadN X337.here hx rfl (hb hby d28_10) rfl ?_
    show Sp p e below T337 (mkF m 11 #[vR x, vI (Int32.ofNat yn), vI (Int32.ofNat mn), vI (Int32.ofNat dn)] [(.int (Int32.ofNat mn)), (.ref x)]) _
    refine XS.i2s X337.here hx rfl (hb hby d28_11) rfl ?_
    exact kt)
  clear S338
  have q341 : ((Int32.ofNat mn).toInt16.toInt32) = (Int32.ofNat mn) := own_s16 (by omega)
  have S340 : Go p e below s₁ (eF_ldi m x (Int32.ofNat yn) (Int32.ofNat mn) (Int32.ofNat dn)) T337 (mkF m 12 #[vR x, vI (Int32.ofNat yn), vI (Int32.ofNat mn), vI (Int32.ofNat dn)] [(.int (Int32.ofNat mn)), (.ref x)]) := by have h := S339; rw [q341] at h; exact h
  clear S339
  have f342 := (F_month.other W337 (Or.inr (slot_ne (C := "java/time/LocalDate") (Or.inr (own_h hw 141 rfl)) (Or.inr (own_h hw 139 rfl)) (by decide) (t := .short) (t' := .int) (by decide) (by decide))))
  have f343 := (E0.wr W337)
  obtain ⟨T344, h344, X344, e344, W344, st344⟩ := putFN X337 hx hZ hown (own_h hw 140 rfl) Via.refl e337 f342 f343 (Or.inr ⟨(own_h hw 141 rfl), rfl, hnm⟩) (own_h hw 132 rfl) (ty := .short) (v' := .int ((Int32.ofNat mn).toInt16.toInt32)) (by decide) rfl (fits_nar_short _) (g := (mkF m 12 #[vR x, vI (Int32.ofNat yn), vI (Int32.ofNat mn), vI (Int32.ofNat dn)] [(.int (Int32.ofNat mn)), (.ref x)])) rfl rfl (hb hby d28_12)
  rw [show ((Int32.ofNat mn).toInt16.toInt32) = (Int32.ofNat mn) from own_s16 (by omega)] at W344
  have N344 := Fr.snoc X344 N337 g_x
  have K344 : Keep h0 h344 [x] := K337.wr W344 (Or.inl (by simp))
  have Fw344 := f342.same W344
  have S345 : Go p e below s₁ (eF_ldi m x (Int32.ofNat yn) (Int32.ofNat mn) (Int32.ofNat dn)) T344 (mkF m 15 #[vR x, vI (Int32.ofNat yn), vI (Int32.ofNat mn), vI (Int32.ofNat dn)] []) := fun t kt => S340 t (st344 t kt)
  clear S340 st344 X337 e337
  have S346 : Go p e below s₁ (eF_ldi m x (Int32.ofNat yn) (Int32.ofNat mn) (Int32.ofNat dn)) T344 (mkF m 18 #[vR x, vI (Int32.ofNat yn), vI (Int32.ofNat mn), vI (Int32.ofNat dn)] [(.int ((Int32.ofNat dn).toInt16.toInt32)), (.ref x)]) := fun t kt => S345 t (by
    refine XS.aloadN X344.here hx rfl (hb hby d28_15) rfl rfl ?_
    refine XS.iloadN X344.here hx rfl (hb hby d28_16) rfl ?_
    show Sp p e below T344 (mkF m 17 #[vR x, vI (Int32.ofNat yn), vI (Int32.ofNat mn), vI (Int32.ofNat dn)] [(.int (Int32.ofNat dn)), (.ref x)]) _
    refine XS.i2s X344.here hx rfl (hb hby d28_17) rfl ?_
    exact kt)
  clear S345
  have q348 : ((Int32.ofNat dn).toInt16.toInt32) = (Int32.ofNat dn) := own_s16 (by omega)
  have S347 : Go p e below s₁ (eF_ldi m x (Int32.ofNat yn) (Int32.ofNat mn) (Int32.ofNat dn)) T344 (mkF m 18 #[vR x, vI (Int32.ofNat yn), vI (Int32.ofNat mn), vI (Int32.ofNat dn)] [(.int (Int32.ofNat dn)), (.ref x)]) := by have h := S346; rw [q348] at h; exact h
  clear S346
  have f349 := ((F_day.other W337 (Or.inr (slot_ne (C := "java/time/LocalDate") (Or.inr (own_h hw 143 rfl)) (Or.inr (own_h hw 139 rfl)) (by decide) (t := .short) (t' := .int) (by decide) (by decide)))).other W344 (Or.inr (slot_ne (C := "java/time/LocalDate") (Or.inr (own_h hw 143 rfl)) (Or.inr (own_h hw 141 rfl)) (by decide) (t := .short) (t' := .short) (by decide) (by decide))))
  have f350 := (f343.wr W344)
  obtain ⟨T351, h351, X351, e351, W351, st351⟩ := putFN X344 hx hZ hown (own_h hw 142 rfl) Via.refl e344 f349 f350 (Or.inr ⟨(own_h hw 143 rfl), rfl, hnm⟩) (own_h hw 132 rfl) (ty := .short) (v' := .int ((Int32.ofNat dn).toInt16.toInt32)) (by decide) rfl (fits_nar_short _) (g := (mkF m 18 #[vR x, vI (Int32.ofNat yn), vI (Int32.ofNat mn), vI (Int32.ofNat dn)] [(.int (Int32.ofNat dn)), (.ref x)])) rfl rfl (hb hby d28_18)
  rw [show ((Int32.ofNat dn).toInt16.toInt32) = (Int32.ofNat dn) from own_s16 (by omega)] at W351
  have N351 := Fr.snoc X351 N344 g_x
  have K351 : Keep h0 h351 [x] := K344.wr W351 (Or.inl (by simp))
  have Fw351 := f349.same W351
  have S352 : Go p e below s₁ (eF_ldi m x (Int32.ofNat yn) (Int32.ofNat mn) (Int32.ofNat dn)) T351 (mkF m 21 #[vR x, vI (Int32.ofNat yn), vI (Int32.ofNat mn), vI (Int32.ofNat dn)] []) := fun t kt => S347 t (st351 t kt)
  clear S347 st351 X344 e344
  have f353 := (f350.wr W351)
  have f354 := ((Fw337.other W344 (Or.inr (slot_ne (C := "java/time/LocalDate") (Or.inr (own_h hw 139 rfl)) (Or.inr (own_h hw 141 rfl)) (by decide) (t := .int) (t' := .short) (by decide) (by decide)))).other W351 (Or.inr (slot_ne (C := "java/time/LocalDate") (Or.inr (own_h hw 139 rfl)) (Or.inr (own_h hw 143 rfl)) (by decide) (t := .int) (t' := .short) (by decide) (by decide))))
  have f355 := (Fw344.other W351 (Or.inr (slot_ne (C := "java/time/LocalDate") (Or.inr (own_h hw 141 rfl)) (Or.inr (own_h hw 143 rfl)) (by decide) (t := .short) (t' := .short) (by decide) (by decide))))
  obtain ⟨fs, hr, hrun, hended, hW, hsame⟩ := X351.leave (v := none) (fun h => by first | rfl | (rw [Bd.returns] at h; cases h))
  refine ⟨_, _, S352 _ ?_, hrun, hended, _, _, rfl, ?_, ⟨_, rfl⟩, hW, hsame.mono (by decide) (by decide)⟩
  · exact X351.returnOut hx Bd.returns (hb hby d28_21) hr
  · show Q_ldi Z x yn mn dn h0 n0 _ T351.heap _
    rw [e351]
    exact ⟨rfl, N351, K351, f353, f354, f355, Fw351⟩
abbrev eF_cre (m : MethodId) (x0 : Int32) (x1 : Int32) (x2 : Int32) : JFrame := entryFrame m #[(.int x0), (.int x1), (.int x2)] 4
theorem ef_cre (m : MethodId) (x0 : Int32) (x1 : Int32) (x2 : Int32) : entryFrame m #[(.int x0), (.int x1), (.int x2)] 4 = mkF m 0 #[.val (.int x0), .val (.int x1), .val (.int x2), .unset] [] := by first | (simp [entryFrame, mkF, argsToLocals, Value.category]; done) | rfl
theorem pn_cre : plainName "java/time/LocalDate" = true := by first | (simp [plainName, overriddenIn]; done) | decide +kernel
def Q_cre (Z : State) (yn : Nat) (mn : Nat) (dn : Nat) (h0 : Heap) (n0 : Nat) (v : Option Value) (h : Heap) (L : List Loc) : Prop := ∃ x, v = some (.ref x) ∧ Fr n0 L ∧ Keep h0 h [] ∧ h0.size ≤ x ∧ Exa Z h x "java/time/LocalDate" ∧ Fld Z h x "java/time/LocalDate" "year" "I" (.int (Int32.ofNat yn)) ∧ Fld Z h x "java/time/LocalDate" "month" "S" (.int (Int32.ofNat mn)) ∧ Fld Z h x "java/time/LocalDate" "day" "S" (.int (Int32.ofNat dn))
set_option maxRecDepth 65536 in
set_option maxHeartbeats 40000000 in
theorem rm_cre (l : Launch) (Z : State) (a0 : Array Value) (hw : ∀ d ∈ tables_1, d.before a0 Z = true) (ws : List Jvm.Cond) (yn : Nat) (mn : Nat) (dn : Nat) (h0 : Heap) (n0 : Nat) (Z0 : n0 ≤ h0.size) (hy : yn ≤ 9999) (hm : 1 ≤ mn) (hm2 : mn ≤ 12) (hd : 1 ≤ dn) (hd2 : dn ≤ 28) :
    MetFree l (⟨"java/time/LocalDate", "create", "(III)Ljava/time/LocalDate;"⟩ : MethodName) (head1 (Jvm.Cond.code (⟨"java/time/LocalDate", "create", "(III)Ljava/time/LocalDate;"⟩ : MethodName) jdk_2323_method_12_code 4 (some (.object "java/time/LocalDate")) :: ws) ({ frames := 2, cells := 1, slots := 3, locals := 28 } : Room)) (fun aa U => aa = #[(.int (Int32.ofNat yn)), (.int (Int32.ofNat mn)), (.int (Int32.ofNat dn))] ∧ Z.Warmed39 U.vm ∧ U.heap = h0) (fun _ _ _ _ _ => True) (fun _ U o U' => ∃ v L, o = .returned v ∧ Q_cre Z yn mn dn h0 n0 v U'.heap L ∧ FrameEnd U o U' L ({ frames := 2, cells := 1, slots := 3, locals := 28 } : Room).cells ({ frames := 2, cells := 1, slots := 3, locals := 28 } : Room).slots) := by
  refine MetFree.of_bodySF (plainFor_of_name pn_cre) hisR ?_
  intro p e s m args below meth c s₁ Bd hml0 hP hK
  obtain ⟨rfl, hZ, hh⟩ := hP
  have hx := Bd.exec
  have hby := Bd.bytes
  have hml : c.maxLocals = 4 := hml0
  have hown : s.vm.findClass "java/time/LocalDate" = some m.cls := findClass_of_methodNamed Bd.named
  have hnm := (name_of_methodNamed Bd.named Bd.method).1
  have X0 : Stand p l e ({ frames := 2, cells := 1, slots := 3, locals := 28 } : Room) s m #[(.int (Int32.ofNat yn)), (.int (Int32.ofNat mn)), (.int (Int32.ofNat dn))] below meth c s₁ [] 0 0 := Stand.of_body Bd
  have e0 : s₁.heap = h0 := by rw [← hh, Bd.state]; rfl
  have N0 := Fr.nil n0
  have S0 : Go p e below s₁ (eF_cre m (Int32.ofNat yn) (Int32.ofNat mn) (Int32.ofNat dn)) s₁ (mkF m 0 #[vI (Int32.ofNat yn), vI (Int32.ofNat mn), vI (Int32.ofNat dn), vU] []) := fun t k => castTop (ef_cre m (Int32.ofNat yn) (Int32.ofNat mn) (Int32.ofNat dn)) k
  have S356 : Go p e below s₁ (eF_cre m (Int32.ofNat yn) (Int32.ofNat mn) (Int32.ofNat dn)) s₁ (mkF m 3 #[vI (Int32.ofNat yn), vI (Int32.ofNat mn), vI (Int32.ofNat dn), vU] [(.int (28 : Int32)), (.int (Int32.ofNat dn))]) := fun t kt => S0 t (by
    refine XS.iloadN X0.here hx rfl (hb hby d27_0) rfl ?_
    refine XS.bipush X0.here hx rfl (hb hby d27_1) ?_
    show Sp p e below s₁ (mkF m 3 #[vI (Int32.ofNat yn), vI (Int32.ofNat mn), vI (Int32.ofNat dn), vU] [(.int (28 : Int32)), (.int (Int32.ofNat dn))]) _
    exact kt)
  clear S0
  have S357 : Go p e below s₁ (eF_cre m (Int32.ofNat yn) (Int32.ofNat mn) (Int32.ofNat dn)) s₁ (mkF m 179 #[vI (Int32.ofNat yn), vI (Int32.ofNat mn), vI (Int32.ofNat dn), vU] []) := fun t kt => S356 t (by
    refine XS.icmpYes X0.here hx rfl (pc0 := 3) (pc' := 179) rfl (hb hby d27_3) rfl (flt (show ¬ ((28 : Int32) < (Int32.ofNat dn)) from (fun q => absurd ((own_gt (k := 28) 28 rfl).mp q) (by rw [own_toI (by omega)]; omega)))).2.2.2 (by decide) (by decide) ?_
    show Sp p e below s₁ (mkF m 179 #[vI (Int32.ofNat yn), vI (Int32.ofNat mn), vI (Int32.ofNat dn), vU] []) _
    exact kt)
  clear S356
  obtain ⟨T358, h358, X358, e358, E358, A358, D358, -, st358⟩ := newO X0 hx hZ hown (own_h hw 131 rfl) (own_h hw 132 rfl) (own_h hw 85 rfl) e0 (g := (mkF m 179 #[vI (Int32.ofNat yn), vI (Int32.ofNat mn), vI (Int32.ofNat dn), vU] [])) rfl (hb hby d27_179) (by decide) (by decide)
  obtain ⟨x1, g358⟩ : ∃ z, z = h0.size := ⟨_, rfl⟩
  rw [← g358] at A358 D358 st358
  have g_x1 : n0 ≤ x1 := Nat.le_trans Z0 (Nat.le_of_eq g358.symm)
  have sz_x1 : h0.size ≤ x1 := Nat.le_trans (Keep.refl h0 []).1 (Nat.le_of_eq g358.symm)
  have K358 : Keep h0 h358 [] := (Keep.refl h0 []).ext E358
  have F_year_x1 : Fld Z h358 x1 "java/time/LocalDate" "year" "I" (.int (0 : Int32)) := D358 (Or.inr (own_h hw 139 rfl)) (ty := .int) (by decide)
  have F_month_x1 : Fld Z h358 x1 "java/time/LocalDate" "month" "S" (.int (0 : Int32)) := D358 (Or.inr (own_h hw 141 rfl)) (ty := .short) (by decide)
  have F_day_x1 : Fld Z h358 x1 "java/time/LocalDate" "day" "S" (.int (0 : Int32)) := D358 (Or.inr (own_h hw 143 rfl)) (ty := .short) (by decide)
  have S359 : Go p e below s₁ (eF_cre m (Int32.ofNat yn) (Int32.ofNat mn) (Int32.ofNat dn)) T358 (mkF m 182 #[vI (Int32.ofNat yn), vI (Int32.ofNat mn), vI (Int32.ofNat dn), vU] [(.ref x1)]) := fun t kt => S357 t (st358 t kt)
  clear S357 st358 X0 e0
  have S360 : Go p e below s₁ (eF_cre m (Int32.ofNat yn) (Int32.ofNat mn) (Int32.ofNat dn)) T358 (mkF m 186 #[vI (Int32.ofNat yn), vI (Int32.ofNat mn), vI (Int32.ofNat dn), vU] [(.int (Int32.ofNat dn)), (.int (Int32.ofNat mn)), (.int (Int32.ofNat yn)), (.ref x1), (.ref x1)]) := fun t kt => S359 t (by
    refine XS.dup X358.here hx rfl (hb hby d27_182) rfl rfl ?_
    refine XS.iloadN X358.here hx rfl (hb hby d27_183) rfl ?_
    show Sp p e below T358 (mkF m 184 #[vI (Int32.ofNat yn), vI (Int32.ofNat mn), vI (Int32.ofNat dn), vU] [(.int (Int32.ofNat yn)), (.ref x1), (.ref x1)]) _
    refine XS.iloadN X358.here hx rfl (hb hby d27_184) rfl ?_
    refine XS.iloadN X358.here hx rfl (hb hby d27_185) rfl ?_
    show Sp p e below T358 (mkF m 186 #[vI (Int32.ofNat yn), vI (Int32.ofNat mn), vI (Int32.ofNat dn), vU] [(.int (Int32.ofNat dn)), (.int (Int32.ofNat mn)), (.int (Int32.ofNat yn)), (.ref x1), (.ref x1)]) _
    exact kt)
  clear S359
  obtain ⟨v361, T361, L361, X361, hQ361, st361⟩ := own_outV (X358.specialBack hx (y := (⟨"java/time/LocalDate", "<init>", "(III)V"⟩ : MethodName)) rfl hown (mvT hZ (own_h hw 133 rfl)) (mvT hZ (own_h hw 134 rfl)) (mvT hZ (own_h hw 136 rfl)) (by decide) (backOf (W := 1) (rm_ldi l Z a0 hw [] x1 yn mn dn h358 n0 (Nat.le_trans Z0 E358.1) A358 F_year_x1 F_month_x1 F_day_x1 g_x1 hy hm hm2 hd hd2) hZ (own_h hw 136 rfl) (own_h hw 85 rfl) (by decide) (by decide)) (g := (mkF m 186 #[vI (Int32.ofNat yn), vI (Int32.ofNat mn), vI (Int32.ofNat dn), vU] [(.int (Int32.ofNat dn)), (.int (Int32.ofNat mn)), (.int (Int32.ofNat yn)), (.ref x1), (.ref x1)])) rfl (by rw [hml]; rfl) (Steps.refl _) (a := x1) (argsL := [(.int (Int32.ofNat yn)), (.int (Int32.ofNat mn)), (.int (Int32.ofNat dn))]) (rest := [(.ref x1)]) (lenOf pd__III_V rfl) rfl (by show 2 * 0 + _ ≤ _; exact Nat.le_of_eq rfl) (hb hby d27_186) (fun _ _ => ⟨rfl, e358, (by decide : 1 + 0 ≤ _), (by decide : 3 + 0 ≤ _)⟩))
  obtain ⟨rfl, N361q, K361, E361, Fy361, Fm361, Fd361⟩ := hQ361
  have N361 := Fr.app N0 N361q
  have KK361 : Keep h0 T361.heap [] := K358.trans K361 (allS (Or.inr sz_x1) all0)
  have S362 : Go p e below s₁ (eF_cre m (Int32.ofNat yn) (Int32.ofNat mn) (Int32.ofNat dn)) T361 (mkF m 189 #[vI (Int32.ofNat yn), vI (Int32.ofNat mn), vI (Int32.ofNat dn), vU] [(.ref x1)]) := fun t kt => S360 t (st361 t kt)
  clear S360 st361 X358 e358
  obtain ⟨fs, hr, hrun, hended, hW, hsame⟩ := X361.leave (v := some (.ref x1)) (fun h => by first | rfl | (rw [Bd.returns] at h; cases h))
  refine ⟨_, _, S362 _ ?_, hrun, hended, _, _, rfl, ?_, ⟨_, rfl⟩, hW, hsame.mono (by decide) (by decide)⟩
  · exact retOut X361 hx Bd.returns rfl (Or.inr (Or.inr (Or.inr (Or.inr ⟨rfl, rfl, rfl⟩)))) (hb hby d27_189) hr
  · show Q_cre Z yn mn dn h0 n0 _ T361.heap _
    exact ⟨x1, rfl, N361, KK361, sz_x1, E361, Fy361, Fm361, Fd361⟩
abbrev eF_ldo (m : MethodId) (x0 : Int32) (x1 : Int32) (x2 : Int32) : JFrame := entryFrame m #[(.int x0), (.int x1), (.int x2)] 3
theorem ef_ldo (m : MethodId) (x0 : Int32) (x1 : Int32) (x2 : Int32) : entryFrame m #[(.int x0), (.int x1), (.int x2)] 3 = mkF m 0 #[.val (.int x0), .val (.int x1), .val (.int x2)] [] := by first | (simp [entryFrame, mkF, argsToLocals, Value.category]; done) | rfl
theorem pn_ldo : plainName "java/time/LocalDate" = true := by first | (simp [plainName, overriddenIn]; done) | decide +kernel
def Q_ldo (Z : State) (yn : Nat) (mn : Nat) (dn : Nat) (h0 : Heap) (n0 : Nat) (v : Option Value) (h : Heap) (L : List Loc) : Prop := ∃ x, v = some (.ref x) ∧ Fr n0 L ∧ Keep h0 h [] ∧ h0.size ≤ x ∧ Exa Z h x "java/time/LocalDate" ∧ Fld Z h x "java/time/LocalDate" "year" "I" (.int (Int32.ofNat yn)) ∧ Fld Z h x "java/time/LocalDate" "month" "S" (.int (Int32.ofNat mn)) ∧ Fld Z h x "java/time/LocalDate" "day" "S" (.int (Int32.ofNat dn))
set_option maxRecDepth 65536 in
set_option maxHeartbeats 40000000 in
theorem rm_ldo (l : Launch) (Z : State) (a0 : Array Value) (hw : ∀ d ∈ tables_1, d.before a0 Z = true) (ws : List Jvm.Cond) (yn : Nat) (mn : Nat) (dn : Nat) (h0 : Heap) (n0 : Nat) (Z0 : n0 ≤ h0.size) (SS : own_St Z) (O0 : Old Z n0 h0)(hy : yn ≤ 9999) (hm : 1 ≤ mn) (hm2 : mn ≤ 12) (hd : 1 ≤ dn) (hd2 : dn ≤ 28) :
    MetFree l (⟨"java/time/LocalDate", "of", "(III)Ljava/time/LocalDate;"⟩ : MethodName) (head1 (Jvm.Cond.code (⟨"java/time/LocalDate", "of", "(III)Ljava/time/LocalDate;"⟩ : MethodName) jdk_2323_method_5_code 3 (some (.object "java/time/LocalDate")) :: ws) ({ frames := 4, cells := 1, slots := 3, locals := 57 } : Room)) (fun aa U => aa = #[(.int (Int32.ofNat yn)), (.int (Int32.ofNat mn)), (.int (Int32.ofNat dn))] ∧ Z.Warmed39 U.vm ∧ U.heap = h0) (fun _ _ _ _ _ => True) (fun _ U o U' => ∃ v L, o = .returned v ∧ Q_ldo Z yn mn dn h0 n0 v U'.heap L ∧ FrameEnd U o U' L ({ frames := 4, cells := 1, slots := 3, locals := 57 } : Room).cells ({ frames := 4, cells := 1, slots := 3, locals := 57 } : Room).slots) := by
  refine MetFree.of_bodySF (plainFor_of_name pn_ldo) hisR ?_
  intro p e s m args below meth c s₁ Bd hml0 hP hK
  obtain ⟨rfl, hZ, hh⟩ := hP
  have hx := Bd.exec
  have hby := Bd.bytes
  have hml : c.maxLocals = 3 := hml0
  have hown : s.vm.findClass "java/time/LocalDate" = some m.cls := findClass_of_methodNamed Bd.named
  have hnm := (name_of_methodNamed Bd.named Bd.method).1
  have X0 : Stand p l e ({ frames := 4, cells := 1, slots := 3, locals := 57 } : Room) s m #[(.int (Int32.ofNat yn)), (.int (Int32.ofNat mn)), (.int (Int32.ofNat dn))] below meth c s₁ [] 0 0 := Stand.of_body Bd
  have e0 : s₁.heap = h0 := by rw [← hh, Bd.state]; rfl
  have N0 := Fr.nil n0
  have S0 : Go p e below s₁ (eF_ldo m (Int32.ofNat yn) (Int32.ofNat mn) (Int32.ofNat dn)) s₁ (mkF m 0 #[vI (Int32.ofNat yn), vI (Int32.ofNat mn), vI (Int32.ofNat dn)] []) := fun t k => castTop (ef_ldo m (Int32.ofNat yn) (Int32.ofNat mn) (Int32.ofNat dn)) k
  obtain ⟨⟨cz, S_cs, hcz⟩, ⟨fm, S_fm, hfm⟩, ⟨yr, yrr, S_yr, E_yr, F_yr, E_yrr, L_yr, H_yr⟩, ⟨mr, mrr, S_mr, E_mr, F_mr, E_mrr, L_mr, H_mr⟩, ⟨dr, drr, S_dr, E_dr, F_dr, E_drr, L_dr, H_dr⟩, ⟨iso, S_is, E_is⟩, ⟨em, el, kel, S_em, E_em, F_em, V_em⟩, ⟨nr, S_nr⟩, ⟨nk, S_nk⟩⟩ := id SS
  obtain ⟨T363, X363, e363, st363⟩ := getS2 X0 hx hZ hown (host := "") (Or.inl (own_h hw 87 rfl)) Via.refl e0 (S_yr.ext O0.2) (g := (mkF m 0 #[vI (Int32.ofNat yn), vI (Int32.ofNat mn), vI (Int32.ofNat dn)] [])) rfl (hb hby d20_0)
  have S364 : Go p e below s₁ (eF_ldo m (Int32.ofNat yn) (Int32.ofNat mn) (Int32.ofNat dn)) T363 (mkF m 3 #[vI (Int32.ofNat yn), vI (Int32.ofNat mn), vI (Int32.ofNat dn)] [(.ref yr)]) := fun t kt => S0 t (st363 t kt)
  clear S0 st363 X0 e0
  have S365 : Go p e below s₁ (eF_ldo m (Int32.ofNat yn) (Int32.ofNat mn) (Int32.ofNat dn)) T363 (mkF m 5 #[vI (Int32.ofNat yn), vI (Int32.ofNat mn), vI (Int32.ofNat dn)] [(.long ((Int32.ofNat yn).toInt64)), (.ref yr)]) := fun t kt => S364 t (by
    refine XS.iloadN X363.here hx rfl (hb hby d20_3) rfl ?_
    refine XS.i2l X363.here hx rfl (hb hby d20_4) rfl ?_
    show Sp p e below T363 (mkF m 5 #[vI (Int32.ofNat yn), vI (Int32.ofNat mn), vI (Int32.ofNat dn)] [(.long ((Int32.ofNat yn).toInt64)), (.ref yr)]) _
    exact kt)
  clear S364
  have q367 : ((Int32.ofNat yn).toInt64) = (Int64.ofNat yn) := own_i2l (by omega)
  have S366 : Go p e below s₁ (eF_ldo m (Int32.ofNat yn) (Int32.ofNat mn) (Int32.ofNat dn)) T363 (mkF m 5 #[vI (Int32.ofNat yn), vI (Int32.ofNat mn), vI (Int32.ofNat dn)] [(.long (Int64.ofNat yn)), (.ref yr)]) := by have h := S365; rw [q367] at h; exact h
  clear S365
  have hByr : (-999999999 : Int64).toInt ≤ (Int64.ofNat yn).toInt ∧ (Int64.ofNat yn).toInt ≤ (999999999 : Int64).toInt := by rw [own_toJ (by omega), show (-999999999 : Int64).toInt = -999999999 from rfl, show (999999999 : Int64).toInt = 999999999 from rfl]; omega
  obtain ⟨cq368, kq368, q368a, q368b, q368c⟩ := isOf hZ e363 (E_yr.ext O0.2)
  obtain ⟨v368, T368, L368, X368, hQ368, st368⟩ := own_outV (X363.virtualBack hx (y := (⟨"java/time/temporal/ChronoField", "checkValidValue", "(J)J"⟩ : MethodName)) (z := (⟨"java/time/temporal/ChronoField", "checkValidValue", "(J)J"⟩ : MethodName)) hown (mvT hZ (own_h hw 89 rfl)) (mvT hZ (own_h hw 90 rfl)) (notFace_of_selects (args := #[]) (mvT hZ (own_h hw 92 rfl))) (mvT hZ (own_h hw 92 rfl)) (mvT hZ (own_h hw 91 rfl)) (by decide) (backOf (W := 0) (rm_ccv l Z a0 hw [] yr (Int64.ofNat yn) yrr (-999999999 : Int64) (999999999 : Int64) h0 n0 Z0 (E_yr.ext O0.2) (F_yr.ext O0.2) (E_yrr.ext O0.2) (L_yr.ext O0.2) (H_yr.ext O0.2) hByr.1 hByr.2) hZ (own_h hw 93 rfl) (own_h hw 88 rfl) (by decide) (by decide)) q368a q368c (g := (mkF m 5 #[vI (Int32.ofNat yn), vI (Int32.ofNat mn), vI (Int32.ofNat dn)] [(.long (Int64.ofNat yn)), (.ref yr)])) rfl (by rw [hml]; rfl) (Steps.refl _) (argsL := [(.long (Int64.ofNat yn))]) (rest := []) (lenOf pd__J_J rfl) rfl (by show 2 * 0 + _ ≤ _; exact Nat.le_of_eq rfl) (hb hby d20_5) (fun _ _ => ⟨rfl, e363, (by decide : 0 + 0 ≤ _), (by decide : 0 + 0 ≤ _)⟩))
  obtain ⟨rfl, N368q, e368⟩ := hQ368
  have N368 := Fr.app N0 N368q
  have S369 : Go p e below s₁ (eF_ldo m (Int32.ofNat yn) (Int32.ofNat mn) (Int32.ofNat dn)) T368 (mkF m 8 #[vI (Int32.ofNat yn), vI (Int32.ofNat mn), vI (Int32.ofNat dn)] [(.long (Int64.ofNat yn))]) := fun t kt => S366 t (st368 t kt)
  clear S366 st368 X363 e363
  have S370 : Go p e below s₁ (eF_ldo m (Int32.ofNat yn) (Int32.ofNat mn) (Int32.ofNat dn)) T368 (mkF m 9 #[vI (Int32.ofNat yn), vI (Int32.ofNat mn), vI (Int32.ofNat dn)] []) := fun t kt => S369 t (by
    jvm_step X368.here [X368.here.top, hx, (hb hby d20_8), Value.category]
    show Sp p e below T368 (mkF m 9 #[vI (Int32.ofNat yn), vI (Int32.ofNat mn), vI (Int32.ofNat dn)] []) _
    exact kt)
  clear S369
  obtain ⟨T371, X371, e371, st371⟩ := getS2 X368 hx hZ hown (host := "") (Or.inl (own_h hw 126 rfl)) Via.refl e368 (S_mr.ext O0.2) (g := (mkF m 9 #[vI (Int32.ofNat yn), vI (Int32.ofNat mn), vI (Int32.ofNat dn)] [])) rfl (hb hby d20_9)
  have S372 : Go p e below s₁ (eF_ldo m (Int32.ofNat yn) (Int32.ofNat mn) (Int32.ofNat dn)) T371 (mkF m 12 #[vI (Int32.ofNat yn), vI (Int32.ofNat mn), vI (Int32.ofNat dn)] [(.ref mr)]) := fun t kt => S370 t (st371 t kt)
  clear S370 st371 X368 e368
  have S373 : Go p e below s₁ (eF_ldo m (Int32.ofNat yn) (Int32.ofNat mn) (Int32.ofNat dn)) T371 (mkF m 14 #[vI (Int32.ofNat yn), vI (Int32.ofNat mn), vI (Int32.ofNat dn)] [(.long ((Int32.ofNat mn).toInt64)), (.ref mr)]) := fun t kt => S372 t (by
    refine XS.iloadN X371.here hx rfl (hb hby d20_12) rfl ?_
    refine XS.i2l X371.here hx rfl (hb hby d20_13) rfl ?_
    show Sp p e below T371 (mkF m 14 #[vI (Int32.ofNat yn), vI (Int32.ofNat mn), vI (Int32.ofNat dn)] [(.long ((Int32.ofNat mn).toInt64)), (.ref mr)]) _
    exact kt)
  clear S372
  have q375 : ((Int32.ofNat mn).toInt64) = (Int64.ofNat mn) := own_i2l (by omega)
  have S374 : Go p e below s₁ (eF_ldo m (Int32.ofNat yn) (Int32.ofNat mn) (Int32.ofNat dn)) T371 (mkF m 14 #[vI (Int32.ofNat yn), vI (Int32.ofNat mn), vI (Int32.ofNat dn)] [(.long (Int64.ofNat mn)), (.ref mr)]) := by have h := S373; rw [q375] at h; exact h
  clear S373
  have hBmr : (1 : Int64).toInt ≤ (Int64.ofNat mn).toInt ∧ (Int64.ofNat mn).toInt ≤ (12 : Int64).toInt := by rw [own_toJ (by omega), show (1 : Int64).toInt = 1 from rfl, show (12 : Int64).toInt = 12 from rfl]; omega
  obtain ⟨cq376, kq376, q376a, q376b, q376c⟩ := isOf hZ e371 (E_mr.ext O0.2)
  obtain ⟨v376, T376, L376, X376, hQ376, st376⟩ := own_outV (X371.virtualBack hx (y := (⟨"java/time/temporal/ChronoField", "checkValidValue", "(J)J"⟩ : MethodName)) (z := (⟨"java/time/temporal/ChronoField", "checkValidValue", "(J)J"⟩ : MethodName)) hown (mvT hZ (own_h hw 89 rfl)) (mvT hZ (own_h hw 90 rfl)) (notFace_of_selects (args := #[]) (mvT hZ (own_h hw 92 rfl))) (mvT hZ (own_h hw 92 rfl)) (mvT hZ (own_h hw 91 rfl)) (by decide) (backOf (W := 0) (rm_ccv l Z a0 hw [] mr (Int64.ofNat mn) mrr (1 : Int64) (12 : Int64) h0 n0 Z0 (E_mr.ext O0.2) (F_mr.ext O0.2) (E_mrr.ext O0.2) (L_mr.ext O0.2) (H_mr.ext O0.2) hBmr.1 hBmr.2) hZ (own_h hw 93 rfl) (own_h hw 88 rfl) (by decide) (by decide)) q376a q376c (g := (mkF m 14 #[vI (Int32.ofNat yn), vI (Int32.ofNat mn), vI (Int32.ofNat dn)] [(.long (Int64.ofNat mn)), (.ref mr)])) rfl (by rw [hml]; rfl) (Steps.refl _) (argsL := [(.long (Int64.ofNat mn))]) (rest := []) (lenOf pd__J_J rfl) rfl (by show 2 * 0 + _ ≤ _; exact Nat.le_of_eq rfl) (hb hby d20_14) (fun _ _ => ⟨rfl, e371, (by decide : 0 + 0 ≤ _), (by decide : 0 + 0 ≤ _)⟩))
  obtain ⟨rfl, N376q, e376⟩ := hQ376
  have N376 := Fr.app N368 N376q
  have S377 : Go p e below s₁ (eF_ldo m (Int32.ofNat yn) (Int32.ofNat mn) (Int32.ofNat dn)) T376 (mkF m 17 #[vI (Int32.ofNat yn), vI (Int32.ofNat mn), vI (Int32.ofNat dn)] [(.long (Int64.ofNat mn))]) := fun t kt => S374 t (st376 t kt)
  clear S374 st376 X371 e371
  have S378 : Go p e below s₁ (eF_ldo m (Int32.ofNat yn) (Int32.ofNat mn) (Int32.ofNat dn)) T376 (mkF m 18 #[vI (Int32.ofNat yn), vI (Int32.ofNat mn), vI (Int32.ofNat dn)] []) := fun t kt => S377 t (by
    jvm_step X376.here [X376.here.top, hx, (hb hby d20_17), Value.category]
    show Sp p e below T376 (mkF m 18 #[vI (Int32.ofNat yn), vI (Int32.ofNat mn), vI (Int32.ofNat dn)] []) _
    exact kt)
  clear S377
  obtain ⟨T379, X379, e379, st379⟩ := getS2 X376 hx hZ hown (host := "") (Or.inl (own_h hw 127 rfl)) Via.refl e376 (S_dr.ext O0.2) (g := (mkF m 18 #[vI (Int32.ofNat yn), vI (Int32.ofNat mn), vI (Int32.ofNat dn)] [])) rfl (hb hby d20_18)
  have S380 : Go p e below s₁ (eF_ldo m (Int32.ofNat yn) (Int32.ofNat mn) (Int32.ofNat dn)) T379 (mkF m 21 #[vI (Int32.ofNat yn), vI (Int32.ofNat mn), vI (Int32.ofNat dn)] [(.ref dr)]) := fun t kt => S378 t (st379 t kt)
  clear S378 st379 X376 e376
  have S381 : Go p e below s₁ (eF_ldo m (Int32.ofNat yn) (Int32.ofNat mn) (Int32.ofNat dn)) T379 (mkF m 23 #[vI (Int32.ofNat yn), vI (Int32.ofNat mn), vI (Int32.ofNat dn)] [(.long ((Int32.ofNat dn).toInt64)), (.ref dr)]) := fun t kt => S380 t (by
    refine XS.iloadN X379.here hx rfl (hb hby d20_21) rfl ?_
    refine XS.i2l X379.here hx rfl (hb hby d20_22) rfl ?_
    show Sp p e below T379 (mkF m 23 #[vI (Int32.ofNat yn), vI (Int32.ofNat mn), vI (Int32.ofNat dn)] [(.long ((Int32.ofNat dn).toInt64)), (.ref dr)]) _
    exact kt)
  clear S380
  have q383 : ((Int32.ofNat dn).toInt64) = (Int64.ofNat dn) := own_i2l (by omega)
  have S382 : Go p e below s₁ (eF_ldo m (Int32.ofNat yn) (Int32.ofNat mn) (Int32.ofNat dn)) T379 (mkF m 23 #[vI (Int32.ofNat yn), vI (Int32.ofNat mn), vI (Int32.ofNat dn)] [(.long (Int64.ofNat dn)), (.ref dr)]) := by have h := S381; rw [q383] at h; exact h
  clear S381
  have hBdr : (1 : Int64).toInt ≤ (Int64.ofNat dn).toInt ∧ (Int64.ofNat dn).toInt ≤ (31 : Int64).toInt := by rw [own_toJ (by omega), show (1 : Int64).toInt = 1 from rfl, show (31 : Int64).toInt = 31 from rfl]; omega
  obtain ⟨cq384, kq384, q384a, q384b, q384c⟩ := isOf hZ e379 (E_dr.ext O0.2)
  obtain ⟨v384, T384, L384, X384, hQ384, st384⟩ := own_outV (X379.virtualBack hx (y := (⟨"java/time/temporal/ChronoField", "checkValidValue", "(J)J"⟩ : MethodName)) (z := (⟨"java/time/temporal/ChronoField", "checkValidValue", "(J)J"⟩ : MethodName)) hown (mvT hZ (own_h hw 89 rfl)) (mvT hZ (own_h hw 90 rfl)) (notFace_of_selects (args := #[]) (mvT hZ (own_h hw 92 rfl))) (mvT hZ (own_h hw 92 rfl)) (mvT hZ (own_h hw 91 rfl)) (by decide) (backOf (W := 0) (rm_ccv l Z a0 hw [] dr (Int64.ofNat dn) drr (1 : Int64) (31 : Int64) h0 n0 Z0 (E_dr.ext O0.2) (F_dr.ext O0.2) (E_drr.ext O0.2) (L_dr.ext O0.2) (H_dr.ext O0.2) hBdr.1 hBdr.2) hZ (own_h hw 93 rfl) (own_h hw 88 rfl) (by decide) (by decide)) q384a q384c (g := (mkF m 23 #[vI (Int32.ofNat yn), vI (Int32.ofNat mn), vI (Int32.ofNat dn)] [(.long (Int64.ofNat dn)), (.ref dr)])) rfl (by rw [hml]; rfl) (Steps.refl _) (argsL := [(.long (Int64.ofNat dn))]) (rest := []) (lenOf pd__J_J rfl) rfl (by show 2 * 0 + _ ≤ _; exact Nat.le_of_eq rfl) (hb hby d20_23) (fun _ _ => ⟨rfl, e379, (by decide : 0 + 0 ≤ _), (by decide : 0 + 0 ≤ _)⟩))
  obtain ⟨rfl, N384q, e384⟩ := hQ384
  have N384 := Fr.app N376 N384q
  have S385 : Go p e below s₁ (eF_ldo m (Int32.ofNat yn) (Int32.ofNat mn) (Int32.ofNat dn)) T384 (mkF m 26 #[vI (Int32.ofNat yn), vI (Int32.ofNat mn), vI (Int32.ofNat dn)] [(.long (Int64.ofNat dn))]) := fun t kt => S382 t (st384 t kt)
  clear S382 st384 X379 e379
  have S386 : Go p e below s₁ (eF_ldo m (Int32.ofNat yn) (Int32.ofNat mn) (Int32.ofNat dn)) T384 (mkF m 30 #[vI (Int32.ofNat yn), vI (Int32.ofNat mn), vI (Int32.ofNat dn)] [(.int (Int32.ofNat dn)), (.int (Int32.ofNat mn)), (.int (Int32.ofNat yn))]) := fun t kt => S385 t (by
    jvm_step X384.here [X384.here.top, hx, (hb hby d20_26), Value.category]
    show Sp p e below T384 (mkF m 27 #[vI (Int32.ofNat yn), vI (Int32.ofNat mn), vI (Int32.ofNat dn)] []) _
    refine XS.iloadN X384.here hx rfl (hb hby d20_27) rfl ?_
    refine XS.iloadN X384.here hx rfl (hb hby d20_28) rfl ?_
    show Sp p e below T384 (mkF m 29 #[vI (Int32.ofNat yn), vI (Int32.ofNat mn), vI (Int32.ofNat dn)] [(.int (Int32.ofNat mn)), (.int (Int32.ofNat yn))]) _
    refine XS.iloadN X384.here hx rfl (hb hby d20_29) rfl ?_
    exact kt)
  clear S385
  obtain ⟨v387, T387, L387, X387, hQ387, st387⟩ := own_outS (Jvm.LawKit.callS X384 hx (y := (⟨"java/time/LocalDate", "create", "(III)Ljava/time/LocalDate;"⟩ : MethodName)) hown (mvT hZ (own_h hw 128 rfl)) (mvT hZ (own_h hw 129 rfl)) (mvT hZ (own_h hw 85 rfl)) (mvT hZ (own_h hw 130 rfl)) (by decide) (backOf (W := 0) (rm_cre l Z a0 hw [] yn mn dn h0 n0 Z0 hy hm hm2 hd hd2) hZ (own_h hw 130 rfl) (own_h hw 85 rfl) (by decide) (by decide)) (g := (mkF m 30 #[vI (Int32.ofNat yn), vI (Int32.ofNat mn), vI (Int32.ofNat dn)] [(.int (Int32.ofNat dn)), (.int (Int32.ofNat mn)), (.int (Int32.ofNat yn))])) rfl (by rw [hml]; rfl) (argsL := [(.int (Int32.ofNat yn)), (.int (Int32.ofNat mn)), (.int (Int32.ofNat dn))]) (rest := []) (lenOf pd__III_Ljava_time_LocalDate_ rfl) rfl (by show 2 * 0 + _ ≤ _; exact Nat.le_of_eq rfl) (hb hby d20_30) (fun _ _ => ⟨rfl, e384, (by decide : 0 + 1 ≤ _), (by decide : 0 + 3 ≤ _)⟩))
  obtain ⟨x1, rfl, N387q, K387, sz387, hrest387⟩ := hQ387
  have N387 := Fr.app N384 N387q
  have KK387 : Keep h0 T387.heap [] := (Keep.refl h0 []).trans K387 all0
  have S388 : Go p e below s₁ (eF_ldo m (Int32.ofNat yn) (Int32.ofNat mn) (Int32.ofNat dn)) T387 (mkF m 33 #[vI (Int32.ofNat yn), vI (Int32.ofNat mn), vI (Int32.ofNat dn)] [(.ref x1)]) := fun t kt => S386 t (st387 t kt)
  clear S386 st387 X384 e384
  obtain ⟨fs, hr, hrun, hended, hW, hsame⟩ := X387.leave (v := some (.ref x1)) (fun h => by first | rfl | (rw [Bd.returns] at h; cases h))
  refine ⟨_, _, S388 _ ?_, hrun, hended, _, _, rfl, ?_, ⟨_, rfl⟩, hW, hsame.mono (by decide) (by decide)⟩
  · exact retOut X387 hx Bd.returns rfl (Or.inr (Or.inr (Or.inr (Or.inr ⟨rfl, rfl, rfl⟩)))) (hb hby d20_33) hr
  · show Q_ldo Z yn mn dn h0 n0 _ T387.heap _
    exact ⟨x1, rfl, N387, KK387, sz387, hrest387⟩
abbrev eF_dat (m : MethodId) (x0 : Addr) : JFrame := entryFrame m #[(.ref x0)] 2
theorem ef_dat (m : MethodId) (x0 : Addr) : entryFrame m #[(.ref x0)] 2 = mkF m 0 #[.val (.ref x0), .unset] [] := by first | (simp [entryFrame, mkF, argsToLocals, Value.category]; done) | rfl
theorem pn_dat : plainName "com/example/tranchery/tranchery/journal/Fields" = true := by first | (simp [plainName, overriddenIn]; done) | decide +kernel
def Q_dat (Z : State) (yn : Nat) (mn : Nat) (dn : Nat) (h0 : Heap) (n0 : Nat) (v : Option Value) (h : Heap) (L : List Loc) : Prop := ∃ x, v = some (.ref x) ∧ Fr n0 L ∧ Keep h0 h [] ∧ h0.size ≤ x ∧ Exa Z h x "java/time/LocalDate" ∧ Fld Z h x "java/time/LocalDate" "year" "I" (.int (Int32.ofNat yn)) ∧ Fld Z h x "java/time/LocalDate" "month" "S" (.int (Int32.ofNat mn)) ∧ Fld Z h x "java/time/LocalDate" "day" "S" (.int (Int32.ofNat dn))
set_option maxRecDepth 65536 in
set_option maxHeartbeats 40000000 in
theorem rm_dat (l : Launch) (Z : State) (a0 : Array Value) (hw : ∀ d ∈ tables_1, d.before a0 Z = true) (ws : List Jvm.Cond) (a : Addr) (b : Addr) (k : ClassId) (yn : Nat) (mn : Nat) (dn : Nat) (h0 : Heap) (n0 : Nat) (Z0 : n0 ≤ h0.size) (SS : own_St Z) (O0 : Old Z n0 h0) (E : Exa Z h0 a "java/lang/String") (F : Fld Z h0 a "java/lang/String" "coder" "B" (.int (0 : Int32))) (G : Fld Z h0 a "java/lang/String" "value" "[B" (.ref b)) (V : Arv Z h0 b k .byte (10 : Int32) (own_vs (own_tx yn mn dn)) (.int (0 : Int32))) (hy : yn ≤ 9999) (hm : 1 ≤ mn) (hm2 : mn ≤ 12) (hd : 1 ≤ dn) (hd2 : dn ≤ 28) :
    MetFree l (⟨"com/example/tranchery/tranchery/journal/Fields", "date", "(Ljava/lang/String;)Ljava/time/LocalDate;"⟩ : MethodName) (head1 (Jvm.Cond.codeWith (⟨"com/example/tranchery/tranchery/journal/Fields", "date", "(Ljava/lang/String;)Ljava/time/LocalDate;"⟩ : MethodName) prog_34_method_2_code 2 (some (.object "java/time/LocalDate")) [(52, 76, 77, 46)] :: ws) ({ frames := 6, cells := 1, slots := 3, locals := 80 } : Room)) (fun aa U => aa = #[(.ref a)] ∧ Z.Warmed39 U.vm ∧ U.heap = h0) (fun _ _ _ _ _ => True) (fun _ U o U' => ∃ v L, o = .returned v ∧ Q_dat Z yn mn dn h0 n0 v U'.heap L ∧ FrameEnd U o U' L ({ frames := 6, cells := 1, slots := 3, locals := 80 } : Room).cells ({ frames := 6, cells := 1, slots := 3, locals := 80 } : Room).slots) := by
  refine MetFree.of_bodySF (plainFor_of_name pn_dat) hisWith ?_
  intro p e s m args below meth c s₁ Bd hml0 hP hK
  obtain ⟨rfl, hZ, hh⟩ := hP
  have hx := Bd.exec
  have hby := Bd.bytes
  have hml : c.maxLocals = 2 := hml0
  have hown : s.vm.findClass "com/example/tranchery/tranchery/journal/Fields" = some m.cls := findClass_of_methodNamed Bd.named
  have hnm := (name_of_methodNamed Bd.named Bd.method).1
  have X0 : Stand p l e ({ frames := 6, cells := 1, slots := 3, locals := 80 } : Room) s m #[(.ref a)] below meth c s₁ [] 0 0 := Stand.of_body Bd
  have e0 : s₁.heap = h0 := by rw [← hh, Bd.state]; rfl
  have N0 := Fr.nil n0
  have S0 : Go p e below s₁ (eF_dat m a) s₁ (mkF m 0 #[vR a, vU] []) := fun t k => castTop (ef_dat m a) k
  obtain ⟨⟨cz, S_cs, hcz⟩, ⟨fm, S_fm, hfm⟩, ⟨yr, yrr, S_yr, E_yr, F_yr, E_yrr, L_yr, H_yr⟩, ⟨mr, mrr, S_mr, E_mr, F_mr, E_mrr, L_mr, H_mr⟩, ⟨dr, drr, S_dr, E_dr, F_dr, E_drr, L_dr, H_dr⟩, ⟨iso, S_is, E_is⟩, ⟨em, el, kel, S_em, E_em, F_em, V_em⟩, ⟨nr, S_nr⟩, ⟨nk, S_nk⟩⟩ := id SS
  have hln : ∀ d ∈ StrChars.Road.wordsLen, d.before a0 Z = true := fun d hd => hw d (own_wLen d hd)
  have hch : ∀ d ∈ StrChars.Road.wordsChN, d.before a0 Z = true := fun d hd => hw d (own_wChN d hd)
  have hcd := own_coda (yn := yn) (mn := mn) (dn := dn) hy hm2 hd2
  have hb0 := own_hb (yn := yn) (mn := mn) (dn := dn) hy hm2 hd2
  have S389 : Go p e below s₁ (eF_dat m a) s₁ (mkF m 1 #[vR a, vU] [(.ref a)]) := fun t kt => S0 t (by
    refine XS.aloadN X0.here hx rfl (hb hby d8_0) rfl rfl ?_
    exact kt)
  clear S0
  obtain ⟨cq390, kq390, q390a, q390b, q390c⟩ := isOf hZ e0 E
  obtain ⟨v390, T390, L390, X390, hQ390, st390⟩ := own_outV (Q := (fun v h' L => v = some (.int (Int32.ofNat (own_tx yn mn dn).length)) ∧ L = [] ∧ h' = h0)) (X0.virtualBack hx (y := (⟨"java/lang/String", "length", "()I"⟩ : MethodName)) (z := (⟨"java/lang/String", "length", "()I"⟩ : MethodName)) hown (mvT hZ (own_h hw 39 rfl)) (mvT hZ (own_h hw 40 rfl)) (notFace_of_selects (args := #[]) (mvT hZ (own_h hw 42 rfl))) (mvT hZ (own_h hw 42 rfl)) (mvT hZ (own_h hw 41 rfl)) (by decide) (StrChars.Road.lenW (W := 0) hZ hln (kI := 4) (own_h hw 7 rfl) E G F V hcd hb0 (S_cs.ext O0.2) hcz (Nat.le_of_ble_eq_true rfl) (by decide) (by decide)) q390a q390c (g := (mkF m 1 #[vR a, vU] [(.ref a)])) rfl (by rw [hml]; rfl) (Steps.refl _) (argsL := []) (rest := []) (lenOf pd___I rfl) rfl (by show 2 * 0 + _ ≤ _; exact Nat.le_of_eq rfl) (hb hby d8_1) (fun _ _ => ⟨rfl, e0, (by decide : 0 + 0 ≤ _), (by decide : 0 + 0 ≤ _)⟩))
  obtain ⟨rfl, rfl, e390⟩ := hQ390
  have N390 := Fr.app N0 (Fr.nil n0)
  have S391 : Go p e below s₁ (eF_dat m a) T390 (mkF m 4 #[vR a, vU] [(.int (Int32.ofNat (own_tx yn mn dn).length))]) := fun t kt => S389 t (st390 t kt)
  clear S389 st390 X0 e0
  have q393 : (Int32.ofNat (own_tx yn mn dn).length) = (10 : Int32) := rfl
  have S392 : Go p e below s₁ (eF_dat m a) T390 (mkF m 4 #[vR a, vU] [(.int (10 : Int32))]) := by have h := S391; rw [q393] at h; exact h
  clear S391
  have S394 : Go p e below s₁ (eF_dat m a) T390 (mkF m 10 #[vR a, vU] [(.ref a)]) := fun t kt => S392 t (by
    refine XS.bipush X390.here hx rfl (hb hby d8_4) ?_
    refine XS.icmpNo X390.here hx rfl (hb hby d8_6) rfl (teq (show (10 : Int32) = (10 : Int32) from (by decide))).2 ?_
    show Sp p e below T390 (mkF m 9 #[vR a, vU] []) _
    refine XS.aloadN X390.here hx rfl (hb hby d8_9) rfl rfl ?_
    exact kt)
  clear S392
  obtain ⟨v395, T395, L395, X395, hQ395, st395⟩ := own_outS (Jvm.LawKit.callS X390 hx (y := (⟨"com/example/tranchery/tranchery/journal/Fields", "isMonth", "(Ljava/lang/String;)Z"⟩ : MethodName)) hown (mvT hZ (own_h hw 49 rfl)) (mvT hZ (own_h hw 50 rfl)) (mvT hZ (own_h hw 37 rfl)) (mvT hZ (own_h hw 51 rfl)) (by decide) (backOf (W := 0) (rm_ism l Z a0 hw [] a b k yn mn dn h0 n0 Z0 SS O0 E F G V hy hm hm2 hd hd2) hZ (own_h hw 51 rfl) (own_h hw 37 rfl) (by decide) (by decide)) (g := (mkF m 10 #[vR a, vU] [(.ref a)])) rfl (by rw [hml]; rfl) (argsL := [(.ref a)]) (rest := []) (lenOf pd__Ljava_lang_String__Z rfl) rfl (by show 2 * 0 + _ ≤ _; exact Nat.le_of_eq rfl) (hb hby d8_10) (fun _ _ => ⟨rfl, e390, (by decide : 0 + 0 ≤ _), (by decide : 0 + 0 ≤ _)⟩))
  obtain ⟨rfl, N395q, e395⟩ := hQ395
  have N395 := Fr.app N390 N395q
  have S396 : Go p e below s₁ (eF_dat m a) T395 (mkF m 13 #[vR a, vU] [(.int (1 : Int32))]) := fun t kt => S394 t (st395 t kt)
  clear S394 st395 X390 e390
  have S397 : Go p e below s₁ (eF_dat m a) T395 (mkF m 19 #[vR a, vU] [(.int (7 : Int32)), (.ref a)]) := fun t kt => S396 t (by
    refine XS.ifNo X395.here hx rfl (hb hby d8_13) rfl ((if0 _ _).trans (feq (show ¬ ((1 : Int32) = (0 : Int32)) from (by decide))).1) ?_
    refine XS.aloadN X395.here hx rfl (hb hby d8_16) rfl rfl ?_
    show Sp p e below T395 (mkF m 17 #[vR a, vU] [(.ref a)]) _
    refine XS.bipush X395.here hx rfl (hb hby d8_17) ?_
    exact kt)
  clear S396
  obtain ⟨cq398, kq398, q398a, q398b, q398c⟩ := isOf hZ e395 E
  obtain ⟨v398, T398, L398, X398, hQ398, st398⟩ := own_outV (Q := (fun v h' L => v = some (.int ((own_tx yn mn dn).getD 7 0)) ∧ L = [] ∧ h' = h0)) (X395.virtualBack hx (y := (⟨"java/lang/String", "charAt", "(I)C"⟩ : MethodName)) (z := (⟨"java/lang/String", "charAt", "(I)C"⟩ : MethodName)) hown (mvT hZ (own_h hw 55 rfl)) (mvT hZ (own_h hw 56 rfl)) (notFace_of_selects (args := #[]) (mvT hZ (own_h hw 58 rfl))) (mvT hZ (own_h hw 58 rfl)) (mvT hZ (own_h hw 57 rfl)) (by decide) (StrChars.Road.chN (W := 0) hZ hch (kI := 4) (own_h hw 7 rfl) E G F V hcd hb0 (S_cs.ext O0.2) hcz (S_fm.ext O0.2) hfm (Nat.le_of_ble_eq_true rfl) (i := 7) (Nat.le_of_ble_eq_true rfl) (j := (7 : Int32)) rfl (by decide) (by decide)) q398a q398c (g := (mkF m 19 #[vR a, vU] [(.int (7 : Int32)), (.ref a)])) rfl (by rw [hml]; rfl) (Steps.refl _) (argsL := [(.int (7 : Int32))]) (rest := []) (lenOf pd__I_C rfl) rfl (by show 2 * 0 + _ ≤ _; exact Nat.le_of_eq rfl) (hb hby d8_19) (fun _ _ => ⟨rfl, e395, (by decide : 0 + 0 ≤ _), (by decide : 0 + 0 ≤ _)⟩))
  obtain ⟨rfl, rfl, e398⟩ := hQ398
  have N398 := Fr.app N395 (Fr.nil n0)
  have S399 : Go p e below s₁ (eF_dat m a) T398 (mkF m 22 #[vR a, vU] [(.int ((own_tx yn mn dn).getD 7 0))]) := fun t kt => S397 t (st398 t kt)
  clear S397 st398 X395 e395
  have q401 : ((own_tx yn mn dn).getD 7 0) = (45 : Int32) := rfl
  have S400 : Go p e below s₁ (eF_dat m a) T398 (mkF m 22 #[vR a, vU] [(.int (45 : Int32))]) := by have h := S399; rw [q401] at h; exact h
  clear S399
  have S402 : Go p e below s₁ (eF_dat m a) T398 (mkF m 32 #[vR a, vU] [(.int (10 : Int32)), (.int (8 : Int32)), (.ref a)]) := fun t kt => S400 t (by
    refine XS.bipush X398.here hx rfl (hb hby d8_22) ?_
    refine XS.icmpNo X398.here hx rfl (hb hby d8_24) rfl (teq (show (45 : Int32) = (45 : Int32) from (by decide))).2 ?_
    show Sp p e below T398 (mkF m 27 #[vR a, vU] []) _
    refine XS.aloadN X398.here hx rfl (hb hby d8_27) rfl rfl ?_
    refine XS.bipush X398.here hx rfl (hb hby d8_28) ?_
    show Sp p e below T398 (mkF m 30 #[vR a, vU] [(.int (8 : Int32)), (.ref a)]) _
    refine XS.bipush X398.here hx rfl (hb hby d8_30) ?_
    exact kt)
  clear S400
  obtain ⟨v403, T403, L403, X403, hQ403, st403⟩ := own_outS (Jvm.LawKit.callS X398 hx (y := (⟨"com/example/tranchery/tranchery/journal/Fields", "isDigits", "(Ljava/lang/String;II)Z"⟩ : MethodName)) hown (mvT hZ (own_h hw 52 rfl)) (mvT hZ (own_h hw 53 rfl)) (mvT hZ (own_h hw 37 rfl)) (mvT hZ (own_h hw 54 rfl)) (by decide) (backOf (W := 0) (rm_ids8 l Z a0 hw [] a b k yn mn dn h0 n0 Z0 SS O0 E F G V hy hm hm2 hd hd2) hZ (own_h hw 54 rfl) (own_h hw 37 rfl) (by decide) (by decide)) (g := (mkF m 32 #[vR a, vU] [(.int (10 : Int32)), (.int (8 : Int32)), (.ref a)])) rfl (by rw [hml]; rfl) (argsL := [(.ref a), (.int (8 : Int32)), (.int (10 : Int32))]) (rest := []) (lenOf pd__Ljava_lang_String_II_Z rfl) rfl (by show 2 * 0 + _ ≤ _; exact Nat.le_of_eq rfl) (hb hby d8_32) (fun _ _ => ⟨rfl, e398, (by decide : 0 + 0 ≤ _), (by decide : 0 + 0 ≤ _)⟩))
  obtain ⟨rfl, N403q, e403⟩ := hQ403
  have N403 := Fr.app N398 N403q
  have S404 : Go p e below s₁ (eF_dat m a) T403 (mkF m 35 #[vR a, vU] [(.int (1 : Int32))]) := fun t kt => S402 t (st403 t kt)
  clear S402 st403 X398 e398
  have S405 : Go p e below s₁ (eF_dat m a) T403 (mkF m 55 #[vR a, vU] [(.int (4 : Int32)), (.int (0 : Int32)), (.ref a)]) := fun t kt => S404 t (by
    refine XS.ifYes X403.here hx rfl (pc0 := 35) (pc' := 52) rfl (hb hby d8_35) rfl ((if0 _ _).trans (feq (show ¬ ((1 : Int32) = (0 : Int32)) from (by decide))).2) (by decide) (by decide) ?_
    refine XS.aloadN X403.here hx rfl (hb hby d8_52) rfl rfl ?_
    show Sp p e below T403 (mkF m 53 #[vR a, vU] [(.ref a)]) _
    refine XS.iconst X403.here hx rfl (hb hby d8_53) ?_
    refine XS.iconst X403.here hx rfl (hb hby d8_54) ?_
    show Sp p e below T403 (mkF m 55 #[vR a, vU] [(.int (4 : Int32)), (.int (0 : Int32)), (.ref a)]) _
    exact kt)
  clear S404
  obtain ⟨v406, T406, L406, X406, hQ406, st406⟩ := own_outS (Jvm.LawKit.callS X403 hx (y := (⟨"com/example/tranchery/tranchery/journal/Fields", "number", "(Ljava/lang/String;II)I"⟩ : MethodName)) hown (mvT hZ (own_h hw 80 rfl)) (mvT hZ (own_h hw 81 rfl)) (mvT hZ (own_h hw 37 rfl)) (mvT hZ (own_h hw 82 rfl)) (by decide) (backOf (W := 0) (rm_num0 l Z a0 hw [] a b k yn mn dn h0 n0 Z0 SS O0 E F G V hy hm hm2 hd hd2) hZ (own_h hw 82 rfl) (own_h hw 37 rfl) (by decide) (by decide)) (g := (mkF m 55 #[vR a, vU] [(.int (4 : Int32)), (.int (0 : Int32)), (.ref a)])) rfl (by rw [hml]; rfl) (argsL := [(.ref a), (.int (0 : Int32)), (.int (4 : Int32))]) (rest := []) (lenOf pd__Ljava_lang_String_II_I rfl) rfl (by show 2 * 0 + _ ≤ _; exact Nat.le_of_eq rfl) (hb hby d8_55) (fun _ _ => ⟨rfl, e403, (by decide : 0 + 0 ≤ _), (by decide : 0 + 0 ≤ _)⟩))
  obtain ⟨rfl, N406q, e406⟩ := hQ406
  have N406 := Fr.app N403 N406q
  have S407 : Go p e below s₁ (eF_dat m a) T406 (mkF m 58 #[vR a, vU] [(.int (Int32.ofNat yn))]) := fun t kt => S405 t (st406 t kt)
  clear S405 st406 X403 e403
  have S408 : Go p e below s₁ (eF_dat m a) T406 (mkF m 62 #[vR a, vU] [(.int (7 : Int32)), (.int (5 : Int32)), (.ref a), (.int (Int32.ofNat yn))]) := fun t kt => S407 t (by
    refine XS.aloadN X406.here hx rfl (hb hby d8_58) rfl rfl ?_
    refine XS.iconst X406.here hx rfl (hb hby d8_59) ?_
    show Sp p e below T406 (mkF m 60 #[vR a, vU] [(.int (5 : Int32)), (.ref a), (.int (Int32.ofNat yn))]) _
    refine XS.bipush X406.here hx rfl (hb hby d8_60) ?_
    exact kt)
  clear S407
  obtain ⟨v409, T409, L409, X409, hQ409, st409⟩ := own_outS (Jvm.LawKit.callS X406 hx (y := (⟨"com/example/tranchery/tranchery/journal/Fields", "number", "(Ljava/lang/String;II)I"⟩ : MethodName)) hown (mvT hZ (own_h hw 80 rfl)) (mvT hZ (own_h hw 81 rfl)) (mvT hZ (own_h hw 37 rfl)) (mvT hZ (own_h hw 82 rfl)) (by decide) (backOf (W := 1) (rm_num5 l Z a0 hw [] a b k yn mn dn h0 n0 Z0 SS O0 E F G V hy hm hm2 hd hd2) hZ (own_h hw 82 rfl) (own_h hw 37 rfl) (by decide) (by decide)) (g := (mkF m 62 #[vR a, vU] [(.int (7 : Int32)), (.int (5 : Int32)), (.ref a), (.int (Int32.ofNat yn))])) rfl (by rw [hml]; rfl) (argsL := [(.ref a), (.int (5 : Int32)), (.int (7 : Int32))]) (rest := [(.int (Int32.ofNat yn))]) (lenOf pd__Ljava_lang_String_II_I rfl) rfl (by show 2 * 0 + _ ≤ _; exact Nat.le_of_eq rfl) (hb hby d8_62) (fun _ _ => ⟨rfl, e406, (by decide : 0 + 0 ≤ _), (by decide : 0 + 0 ≤ _)⟩))
  obtain ⟨rfl, N409q, e409⟩ := hQ409
  have N409 := Fr.app N406 N409q
  have S410 : Go p e below s₁ (eF_dat m a) T409 (mkF m 65 #[vR a, vU] [(.int (Int32.ofNat mn)), (.int (Int32.ofNat yn))]) := fun t kt => S408 t (st409 t kt)
  clear S408 st409 X406 e406
  have S411 : Go p e below s₁ (eF_dat m a) T409 (mkF m 70 #[vR a, vU] [(.int (10 : Int32)), (.int (8 : Int32)), (.ref a), (.int (Int32.ofNat mn)), (.int (Int32.ofNat yn))]) := fun t kt => S410 t (by
    refine XS.aloadN X409.here hx rfl (hb hby d8_65) rfl rfl ?_
    refine XS.bipush X409.here hx rfl (hb hby d8_66) ?_
    show Sp p e below T409 (mkF m 68 #[vR a, vU] [(.int (8 : Int32)), (.ref a), (.int (Int32.ofNat mn)), (.int (Int32.ofNat yn))]) _
    refine XS.bipush X409.here hx rfl (hb hby d8_68) ?_
    exact kt)
  clear S410
  obtain ⟨v412, T412, L412, X412, hQ412, st412⟩ := own_outS (Jvm.LawKit.callS X409 hx (y := (⟨"com/example/tranchery/tranchery/journal/Fields", "number", "(Ljava/lang/String;II)I"⟩ : MethodName)) hown (mvT hZ (own_h hw 80 rfl)) (mvT hZ (own_h hw 81 rfl)) (mvT hZ (own_h hw 37 rfl)) (mvT hZ (own_h hw 82 rfl)) (by decide) (backOf (W := 2) (rm_num8 l Z a0 hw [] a b k yn mn dn h0 n0 Z0 SS O0 E F G V hy hm hm2 hd hd2) hZ (own_h hw 82 rfl) (own_h hw 37 rfl) (by decide) (by decide)) (g := (mkF m 70 #[vR a, vU] [(.int (10 : Int32)), (.int (8 : Int32)), (.ref a), (.int (Int32.ofNat mn)), (.int (Int32.ofNat yn))])) rfl (by rw [hml]; rfl) (argsL := [(.ref a), (.int (8 : Int32)), (.int (10 : Int32))]) (rest := [(.int (Int32.ofNat mn)), (.int (Int32.ofNat yn))]) (lenOf pd__Ljava_lang_String_II_I rfl) rfl (by show 2 * 0 + _ ≤ _; exact Nat.le_of_eq rfl) (hb hby d8_70) (fun _ _ => ⟨rfl, e409, (by decide : 0 + 0 ≤ _), (by decide : 0 + 0 ≤ _)⟩))
  obtain ⟨rfl, N412q, e412⟩ := hQ412
  have N412 := Fr.app N409 N412q
  have S413 : Go p e below s₁ (eF_dat m a) T412 (mkF m 73 #[vR a, vU] [(.int (Int32.ofNat dn)), (.int (Int32.ofNat mn)), (.int (Int32.ofNat yn))]) := fun t kt => S411 t (st412 t kt)
  clear S411 st412 X409 e409
  obtain ⟨v414, T414, L414, X414, hQ414, st414⟩ := own_outS (Jvm.LawKit.callS X412 hx (y := (⟨"java/time/LocalDate", "of", "(III)Ljava/time/LocalDate;"⟩ : MethodName)) hown (mvT hZ (own_h hw 83 rfl)) (mvT hZ (own_h hw 84 rfl)) (mvT hZ (own_h hw 85 rfl)) (mvT hZ (own_h hw 86 rfl)) (by decide) (backOf (W := 0) (rm_ldo l Z a0 hw [] yn mn dn h0 n0 Z0 SS O0 hy hm hm2 hd hd2) hZ (own_h hw 86 rfl) (own_h hw 85 rfl) (by decide) (by decide)) (g := (mkF m 73 #[vR a, vU] [(.int (Int32.ofNat dn)), (.int (Int32.ofNat mn)), (.int (Int32.ofNat yn))])) rfl (by rw [hml]; rfl) (argsL := [(.int (Int32.ofNat yn)), (.int (Int32.ofNat mn)), (.int (Int32.ofNat dn))]) (rest := []) (lenOf pd__III_Ljava_time_LocalDate_ rfl) rfl (by show 2 * 0 + _ ≤ _; exact Nat.le_of_eq rfl) (hb hby d8_73) (fun _ _ => ⟨rfl, e412, (by decide : 0 + 1 ≤ _), (by decide : 0 + 3 ≤ _)⟩))
  obtain ⟨x1, rfl, N414q, K414, sz414, hrest414⟩ := hQ414
  have N414 := Fr.app N412 N414q
  have KK414 : Keep h0 T414.heap [] := (Keep.refl h0 []).trans K414 all0
  have S415 : Go p e below s₁ (eF_dat m a) T414 (mkF m 76 #[vR a, vU] [(.ref x1)]) := fun t kt => S413 t (st414 t kt)
  clear S413 st414 X412 e412
  obtain ⟨fs, hr, hrun, hended, hW, hsame⟩ := X414.leave (v := some (.ref x1)) (fun h => by first | rfl | (rw [Bd.returns] at h; cases h))
  refine ⟨_, _, S415 _ ?_, hrun, hended, _, _, rfl, ?_, ⟨_, rfl⟩, hW, hsame.mono (by decide) (by decide)⟩
  · exact retOut X414 hx Bd.returns rfl (Or.inr (Or.inr (Or.inr (Or.inr ⟨rfl, rfl, rfl⟩)))) (hb hby d8_76) hr
  · show Q_dat Z yn mn dn h0 n0 _ T414.heap _
    exact ⟨x1, rfl, N414, KK414, sz414, hrest414⟩
abbrev eF_rec (m : MethodId) (x0 : Addr) : JFrame := entryFrame m #[(.ref x0)] 1
theorem ef_rec (m : MethodId) (x0 : Addr) : entryFrame m #[(.ref x0)] 1 = mkF m 0 #[.val (.ref x0)] [] := by first | (simp [entryFrame, mkF, argsToLocals, Value.category]; done) | rfl
theorem pn_rec : plainName "java/lang/Record" = true := by first | (simp [plainName, overriddenIn]; done) | decide +kernel
def Q_rec (Z : State)  (h0 : Heap) (n0 : Nat) (v : Option Value) (h : Heap) (L : List Loc) : Prop := v = none ∧ Fr n0 L ∧ h = h0
set_option maxRecDepth 65536 in
set_option maxHeartbeats 40000000 in
theorem rm_rec (l : Launch) (Z : State) (a0 : Array Value) (hw : ∀ d ∈ tables_1, d.before a0 Z = true) (ws : List Jvm.Cond) (x : Addr) (h0 : Heap) (n0 : Nat) (Z0 : n0 ≤ h0.size)  :
    MetFree l (⟨"java/lang/Record", "<init>", "()V"⟩ : MethodName) (head1 (Jvm.Cond.code (⟨"java/lang/Record", "<init>", "()V"⟩ : MethodName) jdk_30_method_1_code 1 none :: ws) ({ frames := 1, cells := 0, slots := 0, locals := 12 } : Room)) (fun aa U => aa = #[(.ref x)] ∧ Z.Warmed39 U.vm ∧ U.heap = h0) (fun _ _ _ _ _ => True) (fun _ U o U' => ∃ v L, o = .returned v ∧ Q_rec Z  h0 n0 v U'.heap L ∧ FrameEnd U o U' L ({ frames := 1, cells := 0, slots := 0, locals := 12 } : Room).cells ({ frames := 1, cells := 0, slots := 0, locals := 12 } : Room).slots) := by
  refine MetFree.of_bodySF (plainFor_of_name pn_rec) hisR ?_
  intro p e s m args below meth c s₁ Bd hml0 hP hK
  obtain ⟨rfl, hZ, hh⟩ := hP
  have hx := Bd.exec
  have hby := Bd.bytes
  have hml : c.maxLocals = 1 := hml0
  have hown : s.vm.findClass "java/lang/Record" = some m.cls := findClass_of_methodNamed Bd.named
  have hnm := (name_of_methodNamed Bd.named Bd.method).1
  have X0 : Stand p l e ({ frames := 1, cells := 0, slots := 0, locals := 12 } : Room) s m #[(.ref x)] below meth c s₁ [] 0 0 := Stand.of_body Bd
  have e0 : s₁.heap = h0 := by rw [← hh, Bd.state]; rfl
  have N0 := Fr.nil n0
  have S0 : Go p e below s₁ (eF_rec m x) s₁ (mkF m 0 #[vR x] []) := fun t k => castTop (ef_rec m x) k
  have S416 : Go p e below s₁ (eF_rec m x) s₁ (mkF m 1 #[vR x] [(.ref x)]) := fun t kt => S0 t (by
    refine XS.aloadN X0.here hx rfl (hb hby d30_0) rfl rfl ?_
    exact kt)
  clear S0
  obtain ⟨T417, X417, e417, st417⟩ := initO X0 hx hZ hown (own_h hw 155 rfl) (own_h hw 17 rfl) (own_h hw 18 rfl) e0 (g := (mkF m 1 #[vR x] [(.ref x)])) rfl (by rw [hml]; rfl) rfl (hb hby d30_1) (by decide) (W := 0) (by show 2 * 0 + _ ≤ _; exact Nat.le_of_eq rfl) (by decide)
  have S418 : Go p e below s₁ (eF_rec m x) T417 (mkF m 4 #[vR x] []) := fun t kt => S416 t (st417 t kt)
  clear S416 st417 X0 e0
  obtain ⟨fs, hr, hrun, hended, hW, hsame⟩ := X417.leave (v := none) (fun h => by first | rfl | (rw [Bd.returns] at h; cases h))
  refine ⟨_, _, S418 _ ?_, hrun, hended, _, _, rfl, ?_, ⟨_, rfl⟩, hW, hsame.mono (by decide) (by decide)⟩
  · exact X417.returnOut hx Bd.returns (hb hby d30_4) hr
  · show Q_rec Z  h0 n0 _ T417.heap _
    rw [e417]
    exact ⟨rfl, N0, rfl⟩
abbrev eF_bdi (m : MethodId) (x0 : Addr) : JFrame := entryFrame m #[(.ref x0), .null, .null] 3
theorem ef_bdi (m : MethodId) (x0 : Addr) : entryFrame m #[(.ref x0), .null, .null] 3 = mkF m 0 #[.val (.ref x0), .val .null, .val .null] [] := by first | (simp [entryFrame, mkF, argsToLocals, Value.category]; done) | rfl
theorem pn_bdi : plainName "com/example/tranchery/tranchery/journal/BusinessDays" = true := by first | (simp [plainName, overriddenIn]; done) | decide +kernel
def Q_bdi (Z : State) (x : Addr) (h0 : Heap) (n0 : Nat) (v : Option Value) (h : Heap) (L : List Loc) : Prop := v = none ∧ Fr n0 L ∧ Keep h0 h [x] ∧ Exa Z h x "com/example/tranchery/tranchery/journal/BusinessDays"
set_option maxRecDepth 65536 in
set_option maxHeartbeats 40000000 in
theorem rm_bdi (l : Launch) (Z : State) (a0 : Array Value) (hw : ∀ d ∈ tables_1, d.before a0 Z = true) (ws : List Jvm.Cond) (x : Addr) (h0 : Heap) (n0 : Nat) (Z0 : n0 ≤ h0.size) (E0 : Exa Z h0 x "com/example/tranchery/tranchery/journal/BusinessDays") (F_calendar : Fld Z h0 x "com/example/tranchery/tranchery/journal/BusinessDays" "calendar" "Lcom/example/tranchery/tranchery/journal/BusinessCalendar;" .null) (F_roll : Fld Z h0 x "com/example/tranchery/tranchery/journal/BusinessDays" "roll" "Lcom/example/tranchery/tranchery/journal/Roll;" .null) (g_x : n0 ≤ x) :
    MetFree l (⟨"com/example/tranchery/tranchery/journal/BusinessDays", "<init>", "(Lcom/example/tranchery/tranchery/journal/BusinessCalendar;Lcom/example/tranchery/tranchery/journal/Roll;)V"⟩ : MethodName) (head1 (Jvm.Cond.code (⟨"com/example/tranchery/tranchery/journal/BusinessDays", "<init>", "(Lcom/example/tranchery/tranchery/journal/BusinessCalendar;Lcom/example/tranchery/tranchery/journal/Roll;)V"⟩ : MethodName) prog_23_method_1_code 3 none :: ws) ({ frames := 2, cells := 0, slots := 0, locals := 24 } : Room)) (fun aa U => aa = #[(.ref x), .null, .null] ∧ Z.Warmed39 U.vm ∧ U.heap = h0) (fun _ _ _ _ _ => True) (fun _ U o U' => ∃ v L, o = .returned v ∧ Q_bdi Z x h0 n0 v U'.heap L ∧ FrameEnd U o U' L ({ frames := 2, cells := 0, slots := 0, locals := 24 } : Room).cells ({ frames := 2, cells := 0, slots := 0, locals := 24 } : Room).slots) := by
  refine MetFree.of_bodySF (plainFor_of_name pn_bdi) hisR ?_
  intro p e s m args below meth c s₁ Bd hml0 hP hK
  obtain ⟨rfl, hZ, hh⟩ := hP
  have hx := Bd.exec
  have hby := Bd.bytes
  have hml : c.maxLocals = 3 := hml0
  have hown : s.vm.findClass "com/example/tranchery/tranchery/journal/BusinessDays" = some m.cls := findClass_of_methodNamed Bd.named
  have hnm := (name_of_methodNamed Bd.named Bd.method).1
  have X0 : Stand p l e ({ frames := 2, cells := 0, slots := 0, locals := 24 } : Room) s m #[(.ref x), .null, .null] below meth c s₁ [] 0 0 := Stand.of_body Bd
  have e0 : s₁.heap = h0 := by rw [← hh, Bd.state]; rfl
  have N0 := Fr.nil n0
  have S0 : Go p e below s₁ (eF_bdi m x) s₁ (mkF m 0 #[vR x, .val .null, .val .null] []) := fun t k => castTop (ef_bdi m x) k
  have S419 : Go p e below s₁ (eF_bdi m x) s₁ (mkF m 1 #[vR x, .val .null, .val .null] [(.ref x)]) := fun t kt => S0 t (by
    refine XS.aloadN X0.here hx rfl (hb hby d29_0) rfl rfl ?_
    exact kt)
  clear S0
  obtain ⟨v420, T420, L420, X420, hQ420, st420⟩ := own_outV (X0.specialBack hx (y := (⟨"java/lang/Record", "<init>", "()V"⟩ : MethodName)) rfl hown (mvT hZ (own_h hw 150 rfl)) (mvT hZ (own_h hw 151 rfl)) (mvT hZ (own_h hw 154 rfl)) (by decide) (backOf (W := 0) (rm_rec l Z a0 hw [] x h0 n0 Z0) hZ (own_h hw 154 rfl) (own_h hw 153 rfl) (by decide) (by decide)) (g := (mkF m 1 #[vR x, .val .null, .val .null] [(.ref x)])) rfl (by rw [hml]; rfl) (Steps.refl _) (a := x) (argsL := []) (rest := []) (lenOf pd___V rfl) rfl (by show 2 * 0 + _ ≤ _; exact Nat.le_of_eq rfl) (hb hby d29_1) (fun _ _ => ⟨rfl, e0, (by decide : 0 + 0 ≤ _), (by decide : 0 + 0 ≤ _)⟩))
  obtain ⟨rfl, N420q, e420⟩ := hQ420
  have N420 := Fr.app N0 N420q
  have S421 : Go p e below s₁ (eF_bdi m x) T420 (mkF m 4 #[vR x, .val .null, .val .null] []) := fun t kt => S419 t (st420 t kt)
  clear S419 st420 X0 e0
  have S422 : Go p e below s₁ (eF_bdi m x) T420 (mkF m 6 #[vR x, .val .null, .val .null] [.null, (.ref x)]) := fun t kt => S421 t (by
    refine XS.aloadN X420.here hx rfl (hb hby d29_4) rfl rfl ?_
    refine XS.aloadN X420.here hx rfl (hb hby d29_5) rfl rfl ?_
    show Sp p e below T420 (mkF m 6 #[vR x, .val .null, .val .null] [.null, (.ref x)]) _
    exact kt)
  clear S421
  obtain ⟨T423, h423, X423, e423, W423, st423⟩ := putF X420 hx hZ hown (host := "") (Or.inl (own_h hw 156 rfl)) Via.refl e420 F_calendar E0 (Or.inr ⟨(own_h hw 157 rfl), rfl, hnm⟩) (own_h hw 145 rfl) (ty := (.object "com/example/tranchery/tranchery/journal/BusinessCalendar")) (by decide) rfl rfl (g := (mkF m 6 #[vR x, .val .null, .val .null] [.null, (.ref x)])) rfl rfl (hb hby d29_6)
  have N423 := Fr.snoc X423 N420 g_x
  have K423 : Keep h0 h423 [x] := (Keep.refl h0 [x]).wr W423 (Or.inl (by simp))
  have Fw423 := F_calendar.same W423
  have S424 : Go p e below s₁ (eF_bdi m x) T423 (mkF m 9 #[vR x, .val .null, .val .null] []) := fun t kt => S422 t (st423 t kt)
  clear S422 st423 X420 e420
  have S425 : Go p e below s₁ (eF_bdi m x) T423 (mkF m 11 #[vR x, .val .null, .val .null] [.null, (.ref x)]) := fun t kt => S424 t (by
    refine XS.aloadN X423.here hx rfl (hb hby d29_9) rfl rfl ?_
    refine XS.aloadN X423.here hx rfl (hb hby d29_10) rfl rfl ?_
    show Sp p e below T423 (mkF m 11 #[vR x, .val .null, .val .null] [.null, (.ref x)]) _
    exact kt)
  clear S424
  have f426 := (F_roll.other W423 (Or.inr (slot_ne (C := "com/example/tranchery/tranchery/journal/BusinessDays") (Or.inr (own_h hw 159 rfl)) (Or.inr (own_h hw 157 rfl)) (by decide) (t := (.object "com/example/tranchery/tranchery/journal/Roll")) (t' := (.object "com/example/tranchery/tranchery/journal/BusinessCalendar")) (by decide) (by decide))))
  have f427 := (E0.wr W423)
  obtain ⟨T428, h428, X428, e428, W428, st428⟩ := putF X423 hx hZ hown (host := "") (Or.inl (own_h hw 158 rfl)) Via.refl e423 f426 f427 (Or.inr ⟨(own_h hw 159 rfl), rfl, hnm⟩) (own_h hw 145 rfl) (ty := (.object "com/example/tranchery/tranchery/journal/Roll")) (by decide) rfl rfl (g := (mkF m 11 #[vR x, .val .null, .val .null] [.null, (.ref x)])) rfl rfl (hb hby d29_11)
  have N428 := Fr.snoc X428 N423 g_x
  have K428 : Keep h0 h428 [x] := K423.wr W428 (Or.inl (by simp))
  have Fw428 := f426.same W428
  have S429 : Go p e below s₁ (eF_bdi m x) T428 (mkF m 14 #[vR x, .val .null, .val .null] []) := fun t kt => S425 t (st428 t kt)
  clear S425 st428 X423 e423
  have f430 := (f427.wr W428)
  obtain ⟨fs, hr, hrun, hended, hW, hsame⟩ := X428.leave (v := none) (fun h => by first | rfl | (rw [Bd.returns] at h; cases h))
  refine ⟨_, _, S429 _ ?_, hrun, hended, _, _, rfl, ?_, ⟨_, rfl⟩, hW, hsame.mono (by decide) (by decide)⟩
  · exact X428.returnOut hx Bd.returns (hb hby d29_14) hr
  · show Q_bdi Z x h0 n0 _ T428.heap _
    rw [e428]
    exact ⟨rfl, N428, K428, f430⟩
abbrev eF_iqi (m : MethodId) (x0 : Addr) : JFrame := entryFrame m #[(.ref x0)] 1
theorem ef_iqi (m : MethodId) (x0 : Addr) : entryFrame m #[(.ref x0)] 1 = mkF m 0 #[.val (.ref x0)] [] := by first | (simp [entryFrame, mkF, argsToLocals, Value.category]; done) | rfl
theorem pn_iqi : plainName "com/example/tranchery/tranchery/journal/InstallmentQueue" = true := by first | (simp [plainName, overriddenIn]; done) | decide +kernel
def Q_iqi (Z : State) (x : Addr) (h0 : Heap) (n0 : Nat) (v : Option Value) (h : Heap) (L : List Loc) : Prop := v = none ∧ Fr n0 L ∧ Keep h0 h [x] ∧ Exa Z h x "com/example/tranchery/tranchery/journal/InstallmentQueue" ∧ Fld Z h x "com/example/tranchery/tranchery/journal/InstallmentQueue" "count" "I" (.int (0 : Int32))
set_option maxRecDepth 65536 in
set_option maxHeartbeats 40000000 in
theorem rm_iqi (l : Launch) (Z : State) (a0 : Array Value) (hw : ∀ d ∈ tables_1, d.before a0 Z = true) (ws : List Jvm.Cond) (x : Addr) (h0 : Heap) (n0 : Nat) (Z0 : n0 ≤ h0.size) (SS : own_St Z) (O0 : Old Z n0 h0)(E0 : Exa Z h0 x "com/example/tranchery/tranchery/journal/InstallmentQueue") (F_runs_x : Fld Z h0 x "com/example/tranchery/tranchery/journal/InstallmentQueue" "runs" "[Lcom/example/tranchery/tranchery/journal/InstallmentQueue$Run;" .null) (F_keys_x : Fld Z h0 x "com/example/tranchery/tranchery/journal/InstallmentQueue" "keys" "[J" .null) (F_count_x : Fld Z h0 x "com/example/tranchery/tranchery/journal/InstallmentQueue" "count" "I" (.int (0 : Int32))) (g_x : n0 ≤ x) :
    MetFree l (⟨"com/example/tranchery/tranchery/journal/InstallmentQueue", "<init>", "()V"⟩ : MethodName) (head1 (Jvm.Cond.code (⟨"com/example/tranchery/tranchery/journal/InstallmentQueue", "<init>", "()V"⟩ : MethodName) prog_47_method_1_code 1 none :: ws) ({ frames := 1, cells := 0, slots := 0, locals := 12 } : Room)) (fun aa U => aa = #[(.ref x)] ∧ Z.Warmed39 U.vm ∧ U.heap = h0) (fun _ _ _ _ _ => True) (fun _ U o U' => ∃ v L, o = .returned v ∧ Q_iqi Z x h0 n0 v U'.heap L ∧ FrameEnd U o U' L ({ frames := 1, cells := 0, slots := 0, locals := 12 } : Room).cells ({ frames := 1, cells := 0, slots := 0, locals := 12 } : Room).slots) := by
  refine MetFree.of_bodySF (plainFor_of_name pn_iqi) hisR ?_
  intro p e s m args below meth c s₁ Bd hml0 hP hK
  obtain ⟨rfl, hZ, hh⟩ := hP
  have hx := Bd.exec
  have hby := Bd.bytes
  have hml : c.maxLocals = 1 := hml0
  have hown : s.vm.findClass "com/example/tranchery/tranchery/journal/InstallmentQueue" = some m.cls := findClass_of_methodNamed Bd.named
  have hnm := (name_of_methodNamed Bd.named Bd.method).1
  have X0 : Stand p l e ({ frames := 1, cells := 0, slots := 0, locals := 12 } : Room) s m #[(.ref x)] below meth c s₁ [] 0 0 := Stand.of_body Bd
  have e0 : s₁.heap = h0 := by rw [← hh, Bd.state]; rfl
  have N0 := Fr.nil n0
  have S0 : Go p e below s₁ (eF_iqi m x) s₁ (mkF m 0 #[vR x] []) := fun t k => castTop (ef_iqi m x) k
  obtain ⟨⟨cz, S_cs, hcz⟩, ⟨fm, S_fm, hfm⟩, ⟨yr, yrr, S_yr, E_yr, F_yr, E_yrr, L_yr, H_yr⟩, ⟨mr, mrr, S_mr, E_mr, F_mr, E_mrr, L_mr, H_mr⟩, ⟨dr, drr, S_dr, E_dr, F_dr, E_drr, L_dr, H_dr⟩, ⟨iso, S_is, E_is⟩, ⟨em, el, kel, S_em, E_em, F_em, V_em⟩, ⟨nr, S_nr⟩, ⟨nk, S_nk⟩⟩ := id SS
  have S431 : Go p e below s₁ (eF_iqi m x) s₁ (mkF m 1 #[vR x] [(.ref x)]) := fun t kt => S0 t (by
    refine XS.aloadN X0.here hx rfl (hb hby d32_0) rfl rfl ?_
    exact kt)
  clear S0
  obtain ⟨T432, X432, e432, st432⟩ := initO X0 hx hZ hown (own_h hw 173 rfl) (own_h hw 17 rfl) (own_h hw 18 rfl) e0 (g := (mkF m 1 #[vR x] [(.ref x)])) rfl (by rw [hml]; rfl) rfl (hb hby d32_1) (by decide) (W := 0) (by show 2 * 0 + _ ≤ _; exact Nat.le_of_eq rfl) (by decide)
  have S433 : Go p e below s₁ (eF_iqi m x) T432 (mkF m 4 #[vR x] []) := fun t kt => S431 t (st432 t kt)
  clear S431 st432 X0 e0
  have S434 : Go p e below s₁ (eF_iqi m x) T432 (mkF m 5 #[vR x] [(.ref x)]) := fun t kt => S433 t (by
    refine XS.aloadN X432.here hx rfl (hb hby d32_4) rfl rfl ?_
    exact kt)
  clear S433
  obtain ⟨T435, X435, e435, st435⟩ := getS2 X432 hx hZ hown (host := "") (Or.inl (own_h hw 174 rfl)) Via.refl e432 (S_nr.ext O0.2) (g := (mkF m 5 #[vR x] [(.ref x)])) rfl (hb hby d32_5)
  have S436 : Go p e below s₁ (eF_iqi m x) T435 (mkF m 8 #[vR x] [(.ref nr), (.ref x)]) := fun t kt => S434 t (st435 t kt)
  clear S434 st435 X432 e432
  obtain ⟨T437, h437, X437, e437, W437, st437⟩ := putF X435 hx hZ hown (host := "") (Or.inl (own_h hw 176 rfl)) Via.refl e435 F_runs_x E0 (Or.inl (own_h hw 177 rfl)) (own_h hw 168 rfl) (ty := (.array (.object "com/example/tranchery/tranchery/journal/InstallmentQueue$Run"))) (by decide) rfl rfl (g := (mkF m 8 #[vR x] [(.ref nr), (.ref x)])) rfl rfl (hb hby d32_8)
  have N437 := Fr.snoc X437 N0 g_x
  have K437 : Keep h0 h437 [x] := (Keep.refl h0 [x]).wr W437 (Or.inl (by simp))
  have Fw437 := F_runs_x.same W437
  have S438 : Go p e below s₁ (eF_iqi m x) T437 (mkF m 11 #[vR x] []) := fun t kt => S436 t (st437 t kt)
  clear S436 st437 X435 e435
  have S439 : Go p e below s₁ (eF_iqi m x) T437 (mkF m 12 #[vR x] [(.ref x)]) := fun t kt => S438 t (by
    refine XS.aloadN X437.here hx rfl (hb hby d32_11) rfl rfl ?_
    exact kt)
  clear S438
  have f440 := (O0.wr W437 g_x)
  obtain ⟨T441, X441, e441, st441⟩ := getS2 X437 hx hZ hown (host := "") (Or.inl (own_h hw 178 rfl)) Via.refl e437 (S_nk.ext f440.2) (g := (mkF m 12 #[vR x] [(.ref x)])) rfl (hb hby d32_12)
  have S442 : Go p e below s₁ (eF_iqi m x) T441 (mkF m 15 #[vR x] [(.ref nk), (.ref x)]) := fun t kt => S439 t (st441 t kt)
  clear S439 st441 X437 e437
  have f443 := (F_keys_x.other W437 (Or.inr (slot_ne (C := "com/example/tranchery/tranchery/journal/InstallmentQueue") (Or.inl (own_h hw 181 rfl)) (Or.inl (own_h hw 177 rfl)) (by decide) (t := (.array .long)) (t' := (.array (.object "com/example/tranchery/tranchery/journal/InstallmentQueue$Run"))) (by decide) (by decide))))
  have f444 := (E0.wr W437)
  obtain ⟨T445, h445, X445, e445, W445, st445⟩ := putF X441 hx hZ hown (host := "") (Or.inl (own_h hw 180 rfl)) Via.refl e441 f443 f444 (Or.inl (own_h hw 181 rfl)) (own_h hw 168 rfl) (ty := (.array .long)) (by decide) rfl rfl (g := (mkF m 15 #[vR x] [(.ref nk), (.ref x)])) rfl rfl (hb hby d32_15)
  have N445 := Fr.snoc X445 N437 g_x
  have K445 : Keep h0 h445 [x] := K437.wr W445 (Or.inl (by simp))
  have Fw445 := f443.same W445
  have S446 : Go p e below s₁ (eF_iqi m x) T445 (mkF m 18 #[vR x] []) := fun t kt => S442 t (st445 t kt)
  clear S442 st445 X441 e441
  have f447 := (f444.wr W445)
  have f448 := ((F_count_x.other W437 (Or.inr (slot_ne (C := "com/example/tranchery/tranchery/journal/InstallmentQueue") (Or.inl (own_h hw 265 rfl)) (Or.inl (own_h hw 177 rfl)) (by decide) (t := .int) (t' := (.array (.object "com/example/tranchery/tranchery/journal/InstallmentQueue$Run"))) (by decide) (by decide)))).other W445 (Or.inr (slot_ne (C := "com/example/tranchery/tranchery/journal/InstallmentQueue") (Or.inl (own_h hw 265 rfl)) (Or.inl (own_h hw 181 rfl)) (by decide) (t := .int) (t' := (.array .long)) (by decide) (by decide))))
  obtain ⟨fs, hr, hrun, hended, hW, hsame⟩ := X445.leave (v := none) (fun h => by first | rfl | (rw [Bd.returns] at h; cases h))
  refine ⟨_, _, S446 _ ?_, hrun, hended, _, _, rfl, ?_, ⟨_, rfl⟩, hW, hsame.mono (by decide) (by decide)⟩
  · exact X445.returnOut hx Bd.returns (hb hby d32_18) hr
  · show Q_iqi Z x h0 n0 _ T445.heap _
    rw [e445]
    exact ⟨rfl, N445, K445, f447, f448⟩
abbrev eF_tli (m : MethodId) (x0 : Addr) : JFrame := entryFrame m #[(.ref x0)] 1
theorem ef_tli (m : MethodId) (x0 : Addr) : entryFrame m #[(.ref x0)] 1 = mkF m 0 #[.val (.ref x0)] [] := by first | (simp [entryFrame, mkF, argsToLocals, Value.category]; done) | rfl
theorem pn_tli : plainName "com/example/tranchery/tranchery/journal/Timeline" = true := by first | (simp [plainName, overriddenIn]; done) | decide +kernel
def Q_tli (Z : State) (x : Addr) (h0 : Heap) (n0 : Nat) (v : Option Value) (h : Heap) (L : List Loc) : Prop := v = none ∧ Fr n0 L ∧ Keep h0 h [x] ∧ ∃ (da fa va : Addr) (kd kf kv : ClassId), h0.size ≤ da ∧ h0.size ≤ fa ∧ h0.size ≤ va ∧ da ≠ fa ∧ da ≠ va ∧ fa ≠ va ∧ Exa Z h x "com/example/tranchery/tranchery/journal/Timeline" ∧ Fld Z h x "com/example/tranchery/tranchery/journal/Timeline" "days" "[J" (.ref da) ∧ Fld Z h x "com/example/tranchery/tranchery/journal/Timeline" "firstDays" "[Ljava/time/LocalDate;" (.ref fa) ∧ Fld Z h x "com/example/tranchery/tranchery/journal/Timeline" "values" "[Ljava/lang/Object;" (.ref va) ∧ Fld Z h x "com/example/tranchery/tranchery/journal/Timeline" "size" "I" (.int (0 : Int32)) ∧ Arv Z h da kd .long (4 : Int32) [(.long (0 : Int64)), (.long (0 : Int64)), (.long (0 : Int64)), (.long (0 : Int64))] (.long (0 : Int64)) ∧ Arv Z h fa kf (.object "java/time/LocalDate") (4 : Int32) [.null, .null, .null, .null] .null ∧ Arv Z h va kv (.object "java/lang/Object") (4 : Int32) [.null, .null, .null, .null] .null ∧ Ovr Z kf "java/time/LocalDate" ∧ Ovr Z kv "java/lang/Object"
set_option maxRecDepth 65536 in
set_option maxHeartbeats 40000000 in
theorem rm_tli (l : Launch) (Z : State) (a0 : Array Value) (hw : ∀ d ∈ tables_1, d.before a0 Z = true) (ws : List Jvm.Cond) (x : Addr) (h0 : Heap) (n0 : Nat) (Z0 : n0 ≤ h0.size) (E0 : Exa Z h0 x "com/example/tranchery/tranchery/journal/Timeline") (F_days_x : Fld Z h0 x "com/example/tranchery/tranchery/journal/Timeline" "days" "[J" .null) (F_firstDays_x : Fld Z h0 x "com/example/tranchery/tranchery/journal/Timeline" "firstDays" "[Ljava/time/LocalDate;" .null) (F_values_x : Fld Z h0 x "com/example/tranchery/tranchery/journal/Timeline" "values" "[Ljava/lang/Object;" .null) (F_size_x : Fld Z h0 x "com/example/tranchery/tranchery/journal/Timeline" "size" "I" (.int (0 : Int32))) (g_x : n0 ≤ x) :
    MetFree l (⟨"com/example/tranchery/tranchery/journal/Timeline", "<init>", "()V"⟩ : MethodName) (head1 (Jvm.Cond.code (⟨"com/example/tranchery/tranchery/journal/Timeline", "<init>", "()V"⟩ : MethodName) prog_91_method_1_code 1 none :: ws) ({ frames := 1, cells := 3, slots := 12, locals := 12 } : Room)) (fun aa U => aa = #[(.ref x)] ∧ Z.Warmed39 U.vm ∧ U.heap = h0) (fun _ _ _ _ _ => True) (fun _ U o U' => ∃ v L, o = .returned v ∧ Q_tli Z x h0 n0 v U'.heap L ∧ FrameEnd U o U' L ({ frames := 1, cells := 3, slots := 12, locals := 12 } : Room).cells ({ frames := 1, cells := 3, slots := 12, locals := 12 } : Room).slots) := by
  refine MetFree.of_bodySF (plainFor_of_name pn_tli) hisR ?_
  intro p e s m args below meth c s₁ Bd hml0 hP hK
  obtain ⟨rfl, hZ, hh⟩ := hP
  have hx := Bd.exec
  have hby := Bd.bytes
  have hml : c.maxLocals = 1 := hml0
  have hown : s.vm.findClass "com/example/tranchery/tranchery/journal/Timeline" = some m.cls := findClass_of_methodNamed Bd.named
  have hnm := (name_of_methodNamed Bd.named Bd.method).1
  have X0 : Stand p l e ({ frames := 1, cells := 3, slots := 12, locals := 12 } : Room) s m #[(.ref x)] below meth c s₁ [] 0 0 := Stand.of_body Bd
  have e0 : s₁.heap = h0 := by rw [← hh, Bd.state]; rfl
  have N0 := Fr.nil n0
  have S0 : Go p e below s₁ (eF_tli m x) s₁ (mkF m 0 #[vR x] []) := fun t k => castTop (ef_tli m x) k
  have S449 : Go p e below s₁ (eF_tli m x) s₁ (mkF m 1 #[vR x] [(.ref x)]) := fun t kt => S0 t (by
    refine XS.aloadN X0.here hx rfl (hb hby d33_0) rfl rfl ?_
    exact kt)
  clear S0
  obtain ⟨T450, X450, e450, st450⟩ := initO X0 hx hZ hown (own_h hw 190 rfl) (own_h hw 17 rfl) (own_h hw 18 rfl) e0 (g := (mkF m 1 #[vR x] [(.ref x)])) rfl (by rw [hml]; rfl) rfl (hb hby d33_1) (by decide) (W := 0) (by show 2 * 0 + _ ≤ _; exact Nat.le_of_eq rfl) (by decide)
  have S451 : Go p e below s₁ (eF_tli m x) T450 (mkF m 4 #[vR x] []) := fun t kt => S449 t (st450 t kt)
  clear S449 st450 X0 e0
  have S452 : Go p e below s₁ (eF_tli m x) T450 (mkF m 6 #[vR x] [(.int (4 : Int32)), (.ref x)]) := fun t kt => S451 t (by
    refine XS.aloadN X450.here hx rfl (hb hby d33_4) rfl rfl ?_
    refine XS.iconst X450.here hx rfl (hb hby d33_5) ?_
    show Sp p e below T450 (mkF m 6 #[vR x] [(.int (4 : Int32)), (.ref x)]) _
    exact kt)
  clear S451
  obtain ⟨T453, h453, k453, X453, e453, E453, A453, st453⟩ := newP X450 hx hZ (own_h hw 191 rfl) e450 (g := (mkF m 6 #[vR x] [(.int (4 : Int32)), (.ref x)])) rfl (hb hby d33_6) rfl (by decide) (cap := 4) (by decide) (by decide) (by decide) (by decide)
  obtain ⟨da, g453⟩ : ∃ z, z = h0.size := ⟨_, rfl⟩
  rw [← g453] at A453 st453
  have ne454 : x ≠ da := by rw [g453]; exact Nat.ne_of_lt E0.lt
  have g_da : n0 ≤ da := Nat.le_trans Z0 (Nat.le_of_eq g453.symm)
  have sz_da : h0.size ≤ da := Nat.le_trans (Keep.refl h0 [x]).1 (Nat.le_of_eq g453.symm)
  have K453 : Keep h0 h453 [x] := (Keep.refl h0 [x]).ext E453
  have V453 : Arv Z h453 da k453 .long (4 : Int32) [(.long (0 : Int64)), (.long (0 : Int64)), (.long (0 : Int64)), (.long (0 : Int64))] (.long (0 : Int64)) := (Arv.new A453 (by decide)).pad (pad_rep [] _ 4)
  have S455 : Go p e below s₁ (eF_tli m x) T453 (mkF m 8 #[vR x] [(.ref da), (.ref x)]) := fun t kt => S452 t (st453 t kt)
  clear S452 st453 X450 e450
  have f456 := (F_days_x.ext E453)
  have f457 := (E0.ext E453)
  obtain ⟨T458, h458, X458, e458, W458, st458⟩ := putF X453 hx hZ hown (host := "") (Or.inl (own_h hw 192 rfl)) Via.refl e453 f456 f457 (Or.inl (own_h hw 193 rfl)) (own_h hw 185 rfl) (ty := (.array .long)) (by decide) rfl rfl (g := (mkF m 8 #[vR x] [(.ref da), (.ref x)])) rfl rfl (hb hby d33_8)
  have N458 := Fr.snoc X458 N0 g_x
  have K458 : Keep h0 h458 [x] := K453.wr W458 (Or.inl (by simp))
  have Fw458 := f456.same W458
  have S459 : Go p e below s₁ (eF_tli m x) T458 (mkF m 11 #[vR x] []) := fun t kt => S455 t (st458 t kt)
  clear S455 st458 X453 e453
  have S460 : Go p e below s₁ (eF_tli m x) T458 (mkF m 13 #[vR x] [(.int (4 : Int32)), (.ref x)]) := fun t kt => S459 t (by
    refine XS.aloadN X458.here hx rfl (hb hby d33_11) rfl rfl ?_
    refine XS.iconst X458.here hx rfl (hb hby d33_12) ?_
    show Sp p e below T458 (mkF m 13 #[vR x] [(.int (4 : Int32)), (.ref x)]) _
    exact kt)
  clear S459
  obtain ⟨T461, h461, k461, X461, e461, E461, A461, O461, st461⟩ := newR X458 hx hZ hown (own_h hw 194 rfl) (own_h hw 195 rfl) e458 (g := (mkF m 13 #[vR x] [(.int (4 : Int32)), (.ref x)])) rfl (hb hby d33_13) rfl (by decide) (cap := 4) (by decide) (by decide) (by decide) (by decide)
  obtain ⟨fa, g461⟩ : ∃ z, z = h458.size := ⟨_, rfl⟩
  rw [← g461] at A461 st461
  have f462 := (f457.wr W458)
  have ne463 : x ≠ fa := by rw [g461]; exact Nat.ne_of_lt f462.lt
  have f464 := (V453.other W458 (Ne.symm ne454))
  have ne465 : da ≠ fa := by rw [g461]; exact Nat.ne_of_lt f464.lt
  have g_fa : n0 ≤ fa := Nat.le_trans (Nat.le_trans (Nat.le_trans Z0 E453.1) (Keep.of_wr W458).1) (Nat.le_of_eq g461.symm)
  have sz_fa : h0.size ≤ fa := Nat.le_trans K458.1 (Nat.le_of_eq g461.symm)
  have K461 : Keep h0 h461 [x] := K458.ext E461
  have V461 : Arv Z h461 fa k461 (.object "java/time/LocalDate") (4 : Int32) [.null, .null, .null, .null] .null := (Arv.new A461 (by decide)).pad (pad_rep [] _ 4)
  have S466 : Go p e below s₁ (eF_tli m x) T461 (mkF m 16 #[vR x] [(.ref fa), (.ref x)]) := fun t kt => S460 t (st461 t kt)
  clear S460 st461 X458 e458
  have f467 := (((F_firstDays_x.ext E453).other W458 (Or.inr (slot_ne (C := "com/example/tranchery/tranchery/journal/Timeline") (Or.inl (own_h hw 197 rfl)) (Or.inl (own_h hw 193 rfl)) (by decide) (t := (.array (.object "java/time/LocalDate"))) (t' := (.array .long)) (by decide) (by decide)))).ext E461)
  have f468 := (f462.ext E461)
  obtain ⟨T469, h469, X469, e469, W469, st469⟩ := putF X461 hx hZ hown (host := "") (Or.inl (own_h hw 196 rfl)) Via.refl e461 f467 f468 (Or.inl (own_h hw 197 rfl)) (own_h hw 185 rfl) (ty := (.array (.object "java/time/LocalDate"))) (by decide) rfl rfl (g := (mkF m 16 #[vR x] [(.ref fa), (.ref x)])) rfl rfl (hb hby d33_16)
  have N469 := Fr.snoc X469 N458 g_x
  have K469 : Keep h0 h469 [x] := K461.wr W469 (Or.inl (by simp))
  have Fw469 := f467.same W469
  have S470 : Go p e below s₁ (eF_tli m x) T469 (mkF m 19 #[vR x] []) := fun t kt => S466 t (st469 t kt)
  clear S466 st469 X461 e461
  have S471 : Go p e below s₁ (eF_tli m x) T469 (mkF m 21 #[vR x] [(.int (4 : Int32)), (.ref x)]) := fun t kt => S470 t (by
    refine XS.aloadN X469.here hx rfl (hb hby d33_19) rfl rfl ?_
    refine XS.iconst X469.here hx rfl (hb hby d33_20) ?_
    show Sp p e below T469 (mkF m 21 #[vR x] [(.int (4 : Int32)), (.ref x)]) _
    exact kt)
  clear S470
  obtain ⟨T472, h472, k472, X472, e472, E472, A472, O472, st472⟩ := newR X469 hx hZ hown (own_h hw 198 rfl) (own_h hw 199 rfl) e469 (g := (mkF m 21 #[vR x] [(.int (4 : Int32)), (.ref x)])) rfl (hb hby d33_21) rfl (by decide) (cap := 4) (by decide) (by decide) (by decide) (by decide)
  obtain ⟨va, g472⟩ : ∃ z, z = h469.size := ⟨_, rfl⟩
  rw [← g472] at A472 st472
  have f473 := (f468.wr W469)
  have ne474 : x ≠ va := by rw [g472]; exact Nat.ne_of_lt f473.lt
  have f475 := ((f464.ext E461).other W469 (Ne.symm ne454))
  have ne476 : da ≠ va := by rw [g472]; exact Nat.ne_of_lt f475.lt
  have f477 := (V461.other W469 (Ne.symm ne463))
  have ne478 : fa ≠ va := by rw [g472]; exact Nat.ne_of_lt f477.lt
  have g_va : n0 ≤ va := Nat.le_trans (Nat.le_trans (Nat.le_trans (Nat.le_trans (Nat.le_trans Z0 E453.1) (Keep.of_wr W458).1) E461.1) (Keep.of_wr W469).1) (Nat.le_of_eq g472.symm)
  have sz_va : h0.size ≤ va := Nat.le_trans K469.1 (Nat.le_of_eq g472.symm)
  have K472 : Keep h0 h472 [x] := K469.ext E472
  have V472 : Arv Z h472 va k472 (.object "java/lang/Object") (4 : Int32) [.null, .null, .null, .null] .null := (Arv.new A472 (by decide)).pad (pad_rep [] _ 4)
  have S479 : Go p e below s₁ (eF_tli m x) T472 (mkF m 24 #[vR x] [(.ref va), (.ref x)]) := fun t kt => S471 t (st472 t kt)
  clear S471 st472 X469 e469
  have f480 := (((((F_values_x.ext E453).other W458 (Or.inr (slot_ne (C := "com/example/tranchery/tranchery/journal/Timeline") (Or.inl (own_h hw 201 rfl)) (Or.inl (own_h hw 193 rfl)) (by decide) (t := (.array (.object "java/lang/Object"))) (t' := (.array .long)) (by decide) (by decide)))).ext E461).other W469 (Or.inr (slot_ne (C := "com/example/tranchery/tranchery/journal/Timeline") (Or.inl (own_h hw 201 rfl)) (Or.inl (own_h hw 197 rfl)) (by decide) (t := (.array (.object "java/lang/Object"))) (t' := (.array (.object "java/time/LocalDate"))) (by decide) (by decide)))).ext E472)
  have f481 := (f473.ext E472)
  obtain ⟨T482, h482, X482, e482, W482, st482⟩ := putF X472 hx hZ hown (host := "") (Or.inl (own_h hw 200 rfl)) Via.refl e472 f480 f481 (Or.inl (own_h hw 201 rfl)) (own_h hw 185 rfl) (ty := (.array (.object "java/lang/Object"))) (by decide) rfl rfl (g := (mkF m 24 #[vR x] [(.ref va), (.ref x)])) rfl rfl (hb hby d33_24)
  have N482 := Fr.snoc X482 N469 g_x
  have K482 : Keep h0 h482 [x] := K472.wr W482 (Or.inl (by simp))
  have Fw482 := f480.same W482
  have S483 : Go p e below s₁ (eF_tli m x) T482 (mkF m 27 #[vR x] []) := fun t kt => S479 t (st482 t kt)
  clear S479 st482 X472 e472
  have f484 := (f481.wr W482)
  have f485 := ((((Fw458.ext E461).other W469 (Or.inr (slot_ne (C := "com/example/tranchery/tranchery/journal/Timeline") (Or.inl (own_h hw 193 rfl)) (Or.inl (own_h hw 197 rfl)) (by decide) (t := (.array .long)) (t' := (.array (.object "java/time/LocalDate"))) (by decide) (by decide)))).ext E472).other W482 (Or.inr (slot_ne (C := "com/example/tranchery/tranchery/journal/Timeline") (Or.inl (own_h hw 193 rfl)) (Or.inl (own_h hw 201 rfl)) (by decide) (t := (.array .long)) (t' := (.array (.object "java/lang/Object"))) (by decide) (by decide))))
  have f486 := ((Fw469.ext E472).other W482 (Or.inr (slot_ne (C := "com/example/tranchery/tranchery/journal/Timeline") (Or.inl (own_h hw 197 rfl)) (Or.inl (own_h hw 201 rfl)) (by decide) (t := (.array (.object "java/time/LocalDate"))) (t' := (.array (.object "java/lang/Object"))) (by decide) (by decide))))
  have f487 := ((((((F_size_x.ext E453).other W458 (Or.inr (slot_ne (C := "com/example/tranchery/tranchery/journal/Timeline") (Or.inl (own_h hw 215 rfl)) (Or.inl (own_h hw 193 rfl)) (by decide) (t := .int) (t' := (.array .long)) (by decide) (by decide)))).ext E461).other W469 (Or.inr (slot_ne (C := "com/example/tranchery/tranchery/journal/Timeline") (Or.inl (own_h hw 215 rfl)) (Or.inl (own_h hw 197 rfl)) (by decide) (t := .int) (t' := (.array (.object "java/time/LocalDate"))) (by decide) (by decide)))).ext E472).other W482 (Or.inr (slot_ne (C := "com/example/tranchery/tranchery/journal/Timeline") (Or.inl (own_h hw 215 rfl)) (Or.inl (own_h hw 201 rfl)) (by decide) (t := .int) (t' := (.array (.object "java/lang/Object"))) (by decide) (by decide))))
  have f488 := ((f475.ext E472).other W482 (Ne.symm ne454))
  have f489 := ((f477.ext E472).other W482 (Ne.symm ne463))
  have f490 := (V472.other W482 (Ne.symm ne474))
  obtain ⟨fs, hr, hrun, hended, hW, hsame⟩ := X482.leave (v := none) (fun h => by first | rfl | (rw [Bd.returns] at h; cases h))
  refine ⟨_, _, S483 _ ?_, hrun, hended, _, _, rfl, ?_, ⟨_, rfl⟩, hW, hsame.mono (by decide) (by decide)⟩
  · exact X482.returnOut hx Bd.returns (hb hby d33_27) hr
  · show Q_tli Z x h0 n0 _ T482.heap _
    rw [e482]
    exact ⟨rfl, N482, K482, da, fa, va, _, _, _, sz_da, sz_fa, sz_va, ne465, ne476, ne478, f484, f485, f486, Fw482, f487, f488, f489, f490, O461, O472⟩
abbrev eF_sci (m : MethodId) (x0 : Addr) : JFrame := entryFrame m #[(.ref x0)] 1
theorem ef_sci (m : MethodId) (x0 : Addr) : entryFrame m #[(.ref x0)] 1 = mkF m 0 #[.val (.ref x0)] [] := by first | (simp [entryFrame, mkF, argsToLocals, Value.category]; done) | rfl
theorem pn_sci : plainName "com/example/tranchery/tranchery/journal/Schedule" = true := by first | (simp [plainName, overriddenIn]; done) | decide +kernel
def Q_sci (Z : State) (x : Addr) (h0 : Heap) (n0 : Nat) (v : Option Value) (h : Heap) (L : List Loc) : Prop := v = none ∧ Fr n0 L ∧ Keep h0 h [x] ∧ ∃ (iq tl da fa va : Addr) (kd kf kv : ClassId), h0.size ≤ iq ∧ h0.size ≤ tl ∧ h0.size ≤ da ∧ h0.size ≤ fa ∧ h0.size ≤ va ∧ da ≠ fa ∧ da ≠ va ∧ fa ≠ va ∧ iq ≠ tl ∧ iq ≠ da ∧ iq ≠ fa ∧ iq ≠ va ∧ tl ≠ da ∧ tl ≠ fa ∧ tl ≠ va ∧ Exa Z h x "com/example/tranchery/tranchery/journal/Schedule" ∧ Fld Z h x "com/example/tranchery/tranchery/journal/Schedule" "waiting" "Lcom/example/tranchery/tranchery/journal/InstallmentQueue;" (.ref iq) ∧ Fld Z h x "com/example/tranchery/tranchery/journal/Schedule" "rules" "Lcom/example/tranchery/tranchery/journal/Timeline;" (.ref tl) ∧ Fld Z h x "com/example/tranchery/tranchery/journal/Schedule" "maturity" "Ljava/time/LocalDate;" .null ∧ Exa Z h iq "com/example/tranchery/tranchery/journal/InstallmentQueue" ∧ Fld Z h iq "com/example/tranchery/tranchery/journal/InstallmentQueue" "count" "I" (.int (0 : Int32)) ∧ Exa Z h tl "com/example/tranchery/tranchery/journal/Timeline" ∧ Fld Z h tl "com/example/tranchery/tranchery/journal/Timeline" "days" "[J" (.ref da) ∧ Fld Z h tl "com/example/tranchery/tranchery/journal/Timeline" "firstDays" "[Ljava/time/LocalDate;" (.ref fa) ∧ Fld Z h tl "com/example/tranchery/tranchery/journal/Timeline" "values" "[Ljava/lang/Object;" (.ref va) ∧ Fld Z h tl "com/example/tranchery/tranchery/journal/Timeline" "size" "I" (.int (0 : Int32)) ∧ Arv Z h da kd .long (4 : Int32) [(.long (0 : Int64)), (.long (0 : Int64)), (.long (0 : Int64)), (.long (0 : Int64))] (.long (0 : Int64)) ∧ Arv Z h fa kf (.object "java/time/LocalDate") (4 : Int32) [.null, .null, .null, .null] .null ∧ Arv Z h va kv (.object "java/lang/Object") (4 : Int32) [.null, .null, .null, .null] .null ∧ Ovr Z kf "java/time/LocalDate" ∧ Ovr Z kv "java/lang/Object"
set_option maxRecDepth 65536 in
set_option maxHeartbeats 40000000 in
theorem rm_sci (l : Launch) (Z : State) (a0 : Array Value) (hw : ∀ d ∈ tables_1, d.before a0 Z = true) (ws : List Jvm.Cond) (x : Addr) (h0 : Heap) (n0 : Nat) (Z0 : n0 ≤ h0.size) (SS : own_St Z) (O0 : Old Z n0 h0)(E0 : Exa Z h0 x "com/example/tranchery/tranchery/journal/Schedule") (F_waiting_x : Fld Z h0 x "com/example/tranchery/tranchery/journal/Schedule" "waiting" "Lcom/example/tranchery/tranchery/journal/InstallmentQueue;" .null) (F_rules_x : Fld Z h0 x "com/example/tranchery/tranchery/journal/Schedule" "rules" "Lcom/example/tranchery/tranchery/journal/Timeline;" .null) (F_maturity_x : Fld Z h0 x "com/example/tranchery/tranchery/journal/Schedule" "maturity" "Ljava/time/LocalDate;" .null) (g_x : n0 ≤ x) :
    MetFree l (⟨"com/example/tranchery/tranchery/journal/Schedule", "<init>", "()V"⟩ : MethodName) (head1 (Jvm.Cond.code (⟨"com/example/tranchery/tranchery/journal/Schedule", "<init>", "()V"⟩ : MethodName) prog_85_method_1_code 1 none :: ws) ({ frames := 2, cells := 5, slots := 21, locals := 26 } : Room)) (fun aa U => aa = #[(.ref x)] ∧ Z.Warmed39 U.vm ∧ U.heap = h0) (fun _ _ _ _ _ => True) (fun _ U o U' => ∃ v L, o = .returned v ∧ Q_sci Z x h0 n0 v U'.heap L ∧ FrameEnd U o U' L ({ frames := 2, cells := 5, slots := 21, locals := 26 } : Room).cells ({ frames := 2, cells := 5, slots := 21, locals := 26 } : Room).slots) := by
  refine MetFree.of_bodySF (plainFor_of_name pn_sci) hisR ?_
  intro p e s m args below meth c s₁ Bd hml0 hP hK
  obtain ⟨rfl, hZ, hh⟩ := hP
  have hx := Bd.exec
  have hby := Bd.bytes
  have hml : c.maxLocals = 1 := hml0
  have hown : s.vm.findClass "com/example/tranchery/tranchery/journal/Schedule" = some m.cls := findClass_of_methodNamed Bd.named
  have hnm := (name_of_methodNamed Bd.named Bd.method).1
  have X0 : Stand p l e ({ frames := 2, cells := 5, slots := 21, locals := 26 } : Room) s m #[(.ref x)] below meth c s₁ [] 0 0 := Stand.of_body Bd
  have e0 : s₁.heap = h0 := by rw [← hh, Bd.state]; rfl
  have N0 := Fr.nil n0
  have S0 : Go p e below s₁ (eF_sci m x) s₁ (mkF m 0 #[vR x] []) := fun t k => castTop (ef_sci m x) k
  obtain ⟨⟨cz, S_cs, hcz⟩, ⟨fm, S_fm, hfm⟩, ⟨yr, yrr, S_yr, E_yr, F_yr, E_yrr, L_yr, H_yr⟩, ⟨mr, mrr, S_mr, E_mr, F_mr, E_mrr, L_mr, H_mr⟩, ⟨dr, drr, S_dr, E_dr, F_dr, E_drr, L_dr, H_dr⟩, ⟨iso, S_is, E_is⟩, ⟨em, el, kel, S_em, E_em, F_em, V_em⟩, ⟨nr, S_nr⟩, ⟨nk, S_nk⟩⟩ := id SS
  have S491 : Go p e below s₁ (eF_sci m x) s₁ (mkF m 1 #[vR x] [(.ref x)]) := fun t kt => S0 t (by
    refine XS.aloadN X0.here hx rfl (hb hby d31_0) rfl rfl ?_
    exact kt)
  clear S0
  obtain ⟨T492, X492, e492, st492⟩ := initO X0 hx hZ hown (own_h hw 166 rfl) (own_h hw 17 rfl) (own_h hw 18 rfl) e0 (g := (mkF m 1 #[vR x] [(.ref x)])) rfl (by rw [hml]; rfl) rfl (hb hby d31_1) (by decide) (W := 0) (by show 2 * 0 + _ ≤ _; exact Nat.le_of_eq rfl) (by decide)
  have S493 : Go p e below s₁ (eF_sci m x) T492 (mkF m 4 #[vR x] []) := fun t kt => S491 t (st492 t kt)
  clear S491 st492 X0 e0
  have S494 : Go p e below s₁ (eF_sci m x) T492 (mkF m 5 #[vR x] [(.ref x)]) := fun t kt => S493 t (by
    refine XS.aloadN X492.here hx rfl (hb hby d31_4) rfl rfl ?_
    exact kt)
  clear S493
  obtain ⟨T495, h495, X495, e495, E495, A495, D495, -, st495⟩ := newO X492 hx hZ hown (own_h hw 167 rfl) (own_h hw 168 rfl) (own_h hw 169 rfl) e492 (g := (mkF m 5 #[vR x] [(.ref x)])) rfl (hb hby d31_5) (by decide) (by decide)
  obtain ⟨iq, g495⟩ : ∃ z, z = h0.size := ⟨_, rfl⟩
  rw [← g495] at A495 D495 st495
  have ne496 : x ≠ iq := by rw [g495]; exact Nat.ne_of_lt E0.lt
  have g_iq : n0 ≤ iq := Nat.le_trans Z0 (Nat.le_of_eq g495.symm)
  have sz_iq : h0.size ≤ iq := Nat.le_trans (Keep.refl h0 [x]).1 (Nat.le_of_eq g495.symm)
  have K495 : Keep h0 h495 [x] := (Keep.refl h0 [x]).ext E495
  have F_runs_iq : Fld Z h495 iq "com/example/tranchery/tranchery/journal/InstallmentQueue" "runs" "[Lcom/example/tranchery/tranchery/journal/InstallmentQueue$Run;" .null := D495 (Or.inl (own_h hw 177 rfl)) (ty := (.array (.object "com/example/tranchery/tranchery/journal/InstallmentQueue$Run"))) (by decide)
  have F_keys_iq : Fld Z h495 iq "com/example/tranchery/tranchery/journal/InstallmentQueue" "keys" "[J" .null := D495 (Or.inl (own_h hw 181 rfl)) (ty := (.array .long)) (by decide)
  have F_count_iq : Fld Z h495 iq "com/example/tranchery/tranchery/journal/InstallmentQueue" "count" "I" (.int (0 : Int32)) := D495 (Or.inl (own_h hw 265 rfl)) (ty := .int) (by decide)
  have S497 : Go p e below s₁ (eF_sci m x) T495 (mkF m 8 #[vR x] [(.ref iq), (.ref x)]) := fun t kt => S494 t (st495 t kt)
  clear S494 st495 X492 e492
  have S498 : Go p e below s₁ (eF_sci m x) T495 (mkF m 9 #[vR x] [(.ref iq), (.ref iq), (.ref x)]) := fun t kt => S497 t (by
    refine XS.dup X495.here hx rfl (hb hby d31_8) rfl rfl ?_
    exact kt)
  clear S497
  have f499 := (O0.ext E495)
  obtain ⟨v500, T500, L500, X500, hQ500, st500⟩ := own_outV (X495.specialBack hx (y := (⟨"com/example/tranchery/tranchery/journal/InstallmentQueue", "<init>", "()V"⟩ : MethodName)) rfl hown (mvT hZ (own_h hw 170 rfl)) (mvT hZ (own_h hw 171 rfl)) (mvT hZ (own_h hw 172 rfl)) (by decide) (backOf (W := 2) (rm_iqi l Z a0 hw [] iq h495 n0 (Nat.le_trans Z0 E495.1) SS f499 A495 F_runs_iq F_keys_iq F_count_iq g_iq) hZ (own_h hw 172 rfl) (own_h hw 169 rfl) (by decide) (by decide)) (g := (mkF m 9 #[vR x] [(.ref iq), (.ref iq), (.ref x)])) rfl (by rw [hml]; rfl) (Steps.refl _) (a := iq) (argsL := []) (rest := [(.ref iq), (.ref x)]) (lenOf pd___V rfl) rfl (by show 2 * 0 + _ ≤ _; exact Nat.le_of_eq rfl) (hb hby d31_9) (fun _ _ => ⟨rfl, e495, (by decide : 1 + 0 ≤ _), (by decide : 5 + 0 ≤ _)⟩))
  obtain ⟨rfl, N500q, K500, E500, Fc500⟩ := hQ500
  have N500 := Fr.app N0 N500q
  have KK500 : Keep h0 T500.heap [x] := K495.trans K500 (allS (Or.inr sz_iq) all0)
  have S501 : Go p e below s₁ (eF_sci m x) T500 (mkF m 12 #[vR x] [(.ref iq), (.ref x)]) := fun t kt => S498 t (st500 t kt)
  clear S498 st500 X495 e495
  have f502 := ((F_waiting_x.ext E495).keep K500 (ninS ne496 nin0))
  have f503 := ((E0.ext E495).keep K500)
  obtain ⟨T504, h504, X504, e504, W504, st504⟩ := putF X500 hx hZ hown (host := "") (Or.inl (own_h hw 182 rfl)) Via.refl rfl f502 f503 (Or.inr ⟨(own_h hw 183 rfl), rfl, hnm⟩) (own_h hw 161 rfl) (ty := (.object "com/example/tranchery/tranchery/journal/InstallmentQueue")) (by decide) rfl rfl (g := (mkF m 12 #[vR x] [(.ref iq), (.ref x)])) rfl rfl (hb hby d31_12)
  have N504 := Fr.snoc X504 N500 g_x
  have K504 : Keep h0 h504 [x] := KK500.wr W504 (Or.inl (by simp))
  have Fw504 := f502.same W504
  have S505 : Go p e below s₁ (eF_sci m x) T504 (mkF m 15 #[vR x] []) := fun t kt => S501 t (st504 t kt)
  clear S501 st504 X500
  have S506 : Go p e below s₁ (eF_sci m x) T504 (mkF m 16 #[vR x] [(.ref x)]) := fun t kt => S505 t (by
    refine XS.aloadN X504.here hx rfl (hb hby d31_15) rfl rfl ?_
    exact kt)
  clear S505
  obtain ⟨T507, h507, X507, e507, E507, A507, D507, -, st507⟩ := newO X504 hx hZ hown (own_h hw 184 rfl) (own_h hw 185 rfl) (own_h hw 186 rfl) e504 (g := (mkF m 16 #[vR x] [(.ref x)])) rfl (hb hby d31_16) (by decide) (by decide)
  obtain ⟨tl, g507⟩ : ∃ z, z = h504.size := ⟨_, rfl⟩
  rw [← g507] at A507 D507 st507
  have f508 := (f503.wr W504)
  have ne509 : x ≠ tl := by rw [g507]; exact Nat.ne_of_lt f508.lt
  have f510 := (E500.wr W504)
  have ne511 : iq ≠ tl := by rw [g507]; exact Nat.ne_of_lt f510.lt
  have g_tl : n0 ≤ tl := Nat.le_trans (Nat.le_trans (Nat.le_trans (Nat.le_trans Z0 E495.1) K500.1) (Keep.of_wr W504).1) (Nat.le_of_eq g507.symm)
  have sz_tl : h0.size ≤ tl := Nat.le_trans K504.1 (Nat.le_of_eq g507.symm)
  have K507 : Keep h0 h507 [x] := K504.ext E507
  have F_days_tl : Fld Z h507 tl "com/example/tranchery/tranchery/journal/Timeline" "days" "[J" .null := D507 (Or.inl (own_h hw 193 rfl)) (ty := (.array .long)) (by decide)
  have F_firstDays_tl : Fld Z h507 tl "com/example/tranchery/tranchery/journal/Timeline" "firstDays" "[Ljava/time/LocalDate;" .null := D507 (Or.inl (own_h hw 197 rfl)) (ty := (.array (.object "java/time/LocalDate"))) (by decide)
  have F_values_tl : Fld Z h507 tl "com/example/tranchery/tranchery/journal/Timeline" "values" "[Ljava/lang/Object;" .null := D507 (Or.inl (own_h hw 201 rfl)) (ty := (.array (.object "java/lang/Object"))) (by decide)
  have F_size_tl : Fld Z h507 tl "com/example/tranchery/tranchery/journal/Timeline" "size" "I" (.int (0 : Int32)) := D507 (Or.inl (own_h hw 215 rfl)) (ty := .int) (by decide)
  have S512 : Go p e below s₁ (eF_sci m x) T507 (mkF m 19 #[vR x] [(.ref tl), (.ref x)]) := fun t kt => S506 t (st507 t kt)
  clear S506 st507 X504 e504
  have S513 : Go p e below s₁ (eF_sci m x) T507 (mkF m 20 #[vR x] [(.ref tl), (.ref tl), (.ref x)]) := fun t kt => S512 t (by
    refine XS.dup X507.here hx rfl (hb hby d31_19) rfl rfl ?_
    exact kt)
  clear S512
  obtain ⟨v514, T514, L514, X514, hQ514, st514⟩ := own_outV (X507.specialBack hx (y := (⟨"com/example/tranchery/tranchery/journal/Timeline", "<init>", "()V"⟩ : MethodName)) rfl hown (mvT hZ (own_h hw 187 rfl)) (mvT hZ (own_h hw 188 rfl)) (mvT hZ (own_h hw 189 rfl)) (by decide) (backOf (W := 2) (rm_tli l Z a0 hw [] tl h507 n0 (Nat.le_trans (Nat.le_trans (Nat.le_trans (Nat.le_trans Z0 E495.1) K500.1) (Keep.of_wr W504).1) E507.1) A507 F_days_tl F_firstDays_tl F_values_tl F_size_tl g_tl) hZ (own_h hw 189 rfl) (own_h hw 186 rfl) (by decide) (by decide)) (g := (mkF m 20 #[vR x] [(.ref tl), (.ref tl), (.ref x)])) rfl (by rw [hml]; rfl) (Steps.refl _) (a := tl) (argsL := []) (rest := [(.ref tl), (.ref x)]) (lenOf pd___V rfl) rfl (by show 2 * 0 + _ ≤ _; exact Nat.le_of_eq rfl) (hb hby d31_20) (fun _ _ => ⟨rfl, e507, (by decide : 2 + 3 ≤ _), (by decide : 9 + 12 ≤ _)⟩))
  obtain ⟨rfl, N514q, K514, da, fa, va, kd, kf, kv, szda514, szfa514, szva514, ndf514, ndv514, nfv514, E514, Fd514, Ff514, Fv514, Fz514, Vd514, Vf514, Vv514, Of514, Ov514⟩ := hQ514
  have N514 := Fr.app N504 N514q
  have KK514 : Keep h0 T514.heap [x] := K507.trans K514 (allS (Or.inr sz_tl) all0)
  have sz_da : h0.size ≤ da := Nat.le_trans K507.1 szda514
  have g_da : n0 ≤ da := Nat.le_trans (Nat.le_trans (Nat.le_trans (Nat.le_trans (Nat.le_trans Z0 E495.1) K500.1) (Keep.of_wr W504).1) E507.1) szda514
  have sz_fa : h0.size ≤ fa := Nat.le_trans K507.1 szfa514
  have g_fa : n0 ≤ fa := Nat.le_trans (Nat.le_trans (Nat.le_trans (Nat.le_trans (Nat.le_trans Z0 E495.1) K500.1) (Keep.of_wr W504).1) E507.1) szfa514
  have sz_va : h0.size ≤ va := Nat.le_trans K507.1 szva514
  have g_va : n0 ≤ va := Nat.le_trans (Nat.le_trans (Nat.le_trans (Nat.le_trans (Nat.le_trans Z0 E495.1) K500.1) (Keep.of_wr W504).1) E507.1) szva514
  have S515 : Go p e below s₁ (eF_sci m x) T514 (mkF m 23 #[vR x] [(.ref tl), (.ref x)]) := fun t kt => S513 t (st514 t kt)
  clear S513 st514 X507 e507
  have f516 := (((((F_rules_x.ext E495).keep K500 (ninS ne496 nin0)).other W504 (Or.inr (slot_ne (C := "com/example/tranchery/tranchery/journal/Schedule") (Or.inr (own_h hw 203 rfl)) (Or.inr (own_h hw 183 rfl)) (by decide) (t := (.object "com/example/tranchery/tranchery/journal/Timeline")) (t' := (.object "com/example/tranchery/tranchery/journal/InstallmentQueue")) (by decide) (by decide)))).ext E507).keep K514 (ninS ne509 nin0))
  have f517 := ((f508.ext E507).keep K514)
  obtain ⟨T518, h518, X518, e518, W518, st518⟩ := putF X514 hx hZ hown (host := "") (Or.inl (own_h hw 202 rfl)) Via.refl rfl f516 f517 (Or.inr ⟨(own_h hw 203 rfl), rfl, hnm⟩) (own_h hw 161 rfl) (ty := (.object "com/example/tranchery/tranchery/journal/Timeline")) (by decide) rfl rfl (g := (mkF m 23 #[vR x] [(.ref tl), (.ref x)])) rfl rfl (hb hby d31_23)
  have N518 := Fr.snoc X518 N514 g_x
  have K518 : Keep h0 h518 [x] := KK514.wr W518 (Or.inl (by simp))
  have Fw518 := f516.same W518
  have S519 : Go p e below s₁ (eF_sci m x) T518 (mkF m 26 #[vR x] []) := fun t kt => S515 t (st518 t kt)
  clear S515 st518 X514
  have ne520 : iq ≠ da := Nat.ne_of_lt (Nat.lt_of_lt_of_le ((f510.ext E507).lt) szda514)
  have ne521 : iq ≠ fa := Nat.ne_of_lt (Nat.lt_of_lt_of_le ((f510.ext E507).lt) szfa514)
  have ne522 : iq ≠ va := Nat.ne_of_lt (Nat.lt_of_lt_of_le ((f510.ext E507).lt) szva514)
  have ne523 : tl ≠ da := Nat.ne_of_lt (Nat.lt_of_lt_of_le (A507.lt) szda514)
  have ne524 : tl ≠ fa := Nat.ne_of_lt (Nat.lt_of_lt_of_le (A507.lt) szfa514)
  have ne525 : tl ≠ va := Nat.ne_of_lt (Nat.lt_of_lt_of_le (A507.lt) szva514)
  have f526 := (f517.wr W518)
  have f527 := (((Fw504.ext E507).keep K514 (ninS ne509 nin0)).other W518 (Or.inr (slot_ne (C := "com/example/tranchery/tranchery/journal/Schedule") (Or.inr (own_h hw 183 rfl)) (Or.inr (own_h hw 203 rfl)) (by decide) (t := (.object "com/example/tranchery/tranchery/journal/InstallmentQueue")) (t' := (.object "com/example/tranchery/tranchery/journal/Timeline")) (by decide) (by decide))))
  have f528 := ((((((F_maturity_x.ext E495).keep K500 (ninS ne496 nin0)).other W504 (Or.inr (slot_ne (C := "com/example/tranchery/tranchery/journal/Schedule") (Or.inl (own_h hw 325 rfl)) (Or.inr (own_h hw 183 rfl)) (by decide) (t := (.object "java/time/LocalDate")) (t' := (.object "com/example/tranchery/tranchery/journal/InstallmentQueue")) (by decide) (by decide)))).ext E507).keep K514 (ninS ne509 nin0)).other W518 (Or.inr (slot_ne (C := "com/example/tranchery/tranchery/journal/Schedule") (Or.inl (own_h hw 325 rfl)) (Or.inr (own_h hw 203 rfl)) (by decide) (t := (.object "java/time/LocalDate")) (t' := (.object "com/example/tranchery/tranchery/journal/Timeline")) (by decide) (by decide))))
  have f529 := (((f510.ext E507).keep K514).wr W518)
  have f530 := ((((Fc500.other W504 (Or.inl (Ne.symm ne496))).ext E507).keep K514 (ninS ne511 nin0)).other W518 (Or.inl (Ne.symm ne496)))
  have f531 := (E514.wr W518)
  have f532 := (Fd514.other W518 (Or.inl (Ne.symm ne509)))
  have f533 := (Ff514.other W518 (Or.inl (Ne.symm ne509)))
  have f534 := (Fv514.other W518 (Or.inl (Ne.symm ne509)))
  have f535 := (Fz514.other W518 (Or.inl (Ne.symm ne509)))
  have ne536 : x ≠ da := Nat.ne_of_lt (Nat.lt_of_lt_of_le ((f508.ext E507).lt) szda514)
  have f537 := (Vd514.other W518 (Ne.symm ne536))
  have ne538 : x ≠ fa := Nat.ne_of_lt (Nat.lt_of_lt_of_le ((f508.ext E507).lt) szfa514)
  have f539 := (Vf514.other W518 (Ne.symm ne538))
  have ne540 : x ≠ va := Nat.ne_of_lt (Nat.lt_of_lt_of_le ((f508.ext E507).lt) szva514)
  have f541 := (Vv514.other W518 (Ne.symm ne540))
  obtain ⟨fs, hr, hrun, hended, hW, hsame⟩ := X518.leave (v := none) (fun h => by first | rfl | (rw [Bd.returns] at h; cases h))
  refine ⟨_, _, S519 _ ?_, hrun, hended, _, _, rfl, ?_, ⟨_, rfl⟩, hW, hsame.mono (by decide) (by decide)⟩
  · exact X518.returnOut hx Bd.returns (hb hby d31_26) hr
  · show Q_sci Z x h0 n0 _ T518.heap _
    rw [e518]
    exact ⟨rfl, N518, K518, iq, tl, da, fa, va, kd, kf, kv, sz_iq, sz_tl, sz_da, sz_fa, sz_va, ndf514, ndv514, nfv514, ne511, ne520, ne521, ne522, ne523, ne524, ne525, f526, f527, Fw518, f528, f529, f530, f531, f532, f533, f534, f535, f537, f539, f541, Of514, Ov514⟩
abbrev eF_tsz (m : MethodId) (x0 : Addr) : JFrame := entryFrame m #[(.ref x0)] 1
theorem ef_tsz (m : MethodId) (x0 : Addr) : entryFrame m #[(.ref x0)] 1 = mkF m 0 #[.val (.ref x0)] [] := by first | (simp [entryFrame, mkF, argsToLocals, Value.category]; done) | rfl
theorem pn_tsz : plainName "com/example/tranchery/tranchery/journal/Timeline" = true := by first | (simp [plainName, overriddenIn]; done) | decide +kernel
def Q_tsz (Z : State) (z : Int32) (h0 : Heap) (n0 : Nat) (v : Option Value) (h : Heap) (L : List Loc) : Prop := v = some (.int z) ∧ Fr n0 L ∧ h = h0
set_option maxRecDepth 65536 in
set_option maxHeartbeats 40000000 in
theorem rm_tsz (l : Launch) (Z : State) (a0 : Array Value) (hw : ∀ d ∈ tables_1, d.before a0 Z = true) (ws : List Jvm.Cond) (x : Addr) (z : Int32) (h0 : Heap) (n0 : Nat) (Z0 : n0 ≤ h0.size) (F0 : Fld Z h0 x "com/example/tranchery/tranchery/journal/Timeline" "size" "I" (.int z)) :
    MetFree l (⟨"com/example/tranchery/tranchery/journal/Timeline", "size", "()I"⟩ : MethodName) (head1 (Jvm.Cond.code (⟨"com/example/tranchery/tranchery/journal/Timeline", "size", "()I"⟩ : MethodName) prog_91_method_7_code 1 (some .int) :: ws) ({ frames := 0, cells := 0, slots := 0, locals := 0 } : Room)) (fun aa U => aa = #[(.ref x)] ∧ Z.Warmed39 U.vm ∧ U.heap = h0) (fun _ _ _ _ _ => True) (fun _ U o U' => ∃ v L, o = .returned v ∧ Q_tsz Z z h0 n0 v U'.heap L ∧ FrameEnd U o U' L ({ frames := 0, cells := 0, slots := 0, locals := 0 } : Room).cells ({ frames := 0, cells := 0, slots := 0, locals := 0 } : Room).slots) := by
  refine MetFree.of_bodySF (plainFor_of_name pn_tsz) hisR ?_
  intro p e s m args below meth c s₁ Bd hml0 hP hK
  obtain ⟨rfl, hZ, hh⟩ := hP
  have hx := Bd.exec
  have hby := Bd.bytes
  have hml : c.maxLocals = 1 := hml0
  have hown : s.vm.findClass "com/example/tranchery/tranchery/journal/Timeline" = some m.cls := findClass_of_methodNamed Bd.named
  have hnm := (name_of_methodNamed Bd.named Bd.method).1
  have X0 : Stand p l e ({ frames := 0, cells := 0, slots := 0, locals := 0 } : Room) s m #[(.ref x)] below meth c s₁ [] 0 0 := Stand.of_body Bd
  have e0 : s₁.heap = h0 := by rw [← hh, Bd.state]; rfl
  have N0 := Fr.nil n0
  have S0 : Go p e below s₁ (eF_tsz m x) s₁ (mkF m 0 #[vR x] []) := fun t k => castTop (ef_tsz m x) k
  have S542 : Go p e below s₁ (eF_tsz m x) s₁ (mkF m 1 #[vR x] [(.ref x)]) := fun t kt => S0 t (by
    refine XS.aloadN X0.here hx rfl (hb hby d35_0) rfl rfl ?_
    exact kt)
  clear S0
  obtain ⟨T543, X543, e543, st543⟩ := getF X0 hx hZ hown (host := "") (Or.inl (own_h hw 214 rfl)) Via.refl e0 F0 (g := (mkF m 1 #[vR x] [(.ref x)])) rfl rfl (hb hby d35_1)
  have S544 : Go p e below s₁ (eF_tsz m x) T543 (mkF m 4 #[vR x] [(.int z)]) := fun t kt => S542 t (st543 t kt)
  clear S542 st543 X0 e0
  obtain ⟨fs, hr, hrun, hended, hW, hsame⟩ := X543.leave (v := some (.int z)) (fun h => by first | rfl | (rw [Bd.returns] at h; cases h))
  refine ⟨_, _, S544 _ ?_, hrun, hended, _, _, rfl, ?_, ⟨_, rfl⟩, hW, hsame.mono (by decide) (by decide)⟩
  · exact retI X543 hx Bd.returns (hb hby d35_4) hr
  · show Q_tsz Z z h0 n0 _ T543.heap _
    rw [e543]
    exact ⟨rfl, N0, rfl⟩
abbrev eF_hr0 (m : MethodId) (x0 : Addr) : JFrame := entryFrame m #[(.ref x0)] 1
theorem ef_hr0 (m : MethodId) (x0 : Addr) : entryFrame m #[(.ref x0)] 1 = mkF m 0 #[.val (.ref x0)] [] := by first | (simp [entryFrame, mkF, argsToLocals, Value.category]; done) | rfl
theorem pn_hr0 : plainName "com/example/tranchery/tranchery/journal/Schedule" = true := by first | (simp [plainName, overriddenIn]; done) | decide +kernel
def Q_hr0 (Z : State)  (h0 : Heap) (n0 : Nat) (v : Option Value) (h : Heap) (L : List Loc) : Prop := v = some (.int (0 : Int32)) ∧ Fr n0 L ∧ h = h0
set_option maxRecDepth 65536 in
set_option maxHeartbeats 40000000 in
theorem rm_hr0 (l : Launch) (Z : State) (a0 : Array Value) (hw : ∀ d ∈ tables_1, d.before a0 Z = true) (ws : List Jvm.Cond) (x : Addr) (tl : Addr) (h0 : Heap) (n0 : Nat) (Z0 : n0 ≤ h0.size) (F0 : Fld Z h0 x "com/example/tranchery/tranchery/journal/Schedule" "rules" "Lcom/example/tranchery/tranchery/journal/Timeline;" (.ref tl)) (Et : Exa Z h0 tl "com/example/tranchery/tranchery/journal/Timeline") (Fz : Fld Z h0 tl "com/example/tranchery/tranchery/journal/Timeline" "size" "I" (.int (0 : Int32))) :
    MetFree l (⟨"com/example/tranchery/tranchery/journal/Schedule", "hasRule", "()Z"⟩ : MethodName) (head1 (Jvm.Cond.code (⟨"com/example/tranchery/tranchery/journal/Schedule", "hasRule", "()Z"⟩ : MethodName) prog_85_method_2_code 1 (some .boolean) :: ws) ({ frames := 1, cells := 0, slots := 0, locals := 12 } : Room)) (fun aa U => aa = #[(.ref x)] ∧ Z.Warmed39 U.vm ∧ U.heap = h0) (fun _ _ _ _ _ => True) (fun _ U o U' => ∃ v L, o = .returned v ∧ Q_hr0 Z  h0 n0 v U'.heap L ∧ FrameEnd U o U' L ({ frames := 1, cells := 0, slots := 0, locals := 12 } : Room).cells ({ frames := 1, cells := 0, slots := 0, locals := 12 } : Room).slots) := by
  refine MetFree.of_bodySF (plainFor_of_name pn_hr0) hisR ?_
  intro p e s m args below meth c s₁ Bd hml0 hP hK
  obtain ⟨rfl, hZ, hh⟩ := hP
  have hx := Bd.exec
  have hby := Bd.bytes
  have hml : c.maxLocals = 1 := hml0
  have hown : s.vm.findClass "com/example/tranchery/tranchery/journal/Schedule" = some m.cls := findClass_of_methodNamed Bd.named
  have hnm := (name_of_methodNamed Bd.named Bd.method).1
  have X0 : Stand p l e ({ frames := 1, cells := 0, slots := 0, locals := 12 } : Room) s m #[(.ref x)] below meth c s₁ [] 0 0 := Stand.of_body Bd
  have e0 : s₁.heap = h0 := by rw [← hh, Bd.state]; rfl
  have N0 := Fr.nil n0
  have S0 : Go p e below s₁ (eF_hr0 m x) s₁ (mkF m 0 #[vR x] []) := fun t k => castTop (ef_hr0 m x) k
  have S545 : Go p e below s₁ (eF_hr0 m x) s₁ (mkF m 1 #[vR x] [(.ref x)]) := fun t kt => S0 t (by
    refine XS.aloadN X0.here hx rfl (hb hby d34_0) rfl rfl ?_
    exact kt)
  clear S0
  obtain ⟨T546, X546, e546, st546⟩ := getF X0 hx hZ hown (host := "") (Or.inl (own_h hw 202 rfl)) Via.refl e0 F0 (g := (mkF m 1 #[vR x] [(.ref x)])) rfl rfl (hb hby d34_1)
  have S547 : Go p e below s₁ (eF_hr0 m x) T546 (mkF m 4 #[vR x] [(.ref tl)]) := fun t kt => S545 t (st546 t kt)
  clear S545 st546 X0 e0
  obtain ⟨cq548, kq548, q548a, q548b, q548c⟩ := isOf hZ e546 Et
  obtain ⟨v548, T548, L548, X548, hQ548, st548⟩ := own_outV (X546.virtualBack hx (y := (⟨"com/example/tranchery/tranchery/journal/Timeline", "size", "()I"⟩ : MethodName)) (z := (⟨"com/example/tranchery/tranchery/journal/Timeline", "size", "()I"⟩ : MethodName)) hown (mvT hZ (own_h hw 209 rfl)) (mvT hZ (own_h hw 210 rfl)) (notFace_of_selects (args := #[]) (mvT hZ (own_h hw 212 rfl))) (mvT hZ (own_h hw 212 rfl)) (mvT hZ (own_h hw 211 rfl)) (by decide) (backOf (W := 0) (rm_tsz l Z a0 hw [] tl (0 : Int32) h0 n0 Z0 Fz) hZ (own_h hw 213 rfl) (own_h hw 186 rfl) (by decide) (by decide)) q548a q548c (g := (mkF m 4 #[vR x] [(.ref tl)])) rfl (by rw [hml]; rfl) (Steps.refl _) (argsL := []) (rest := []) (lenOf pd___I rfl) rfl (by show 2 * 0 + _ ≤ _; exact Nat.le_of_eq rfl) (hb hby d34_4) (fun _ _ => ⟨rfl, e546, (by decide : 0 + 0 ≤ _), (by decide : 0 + 0 ≤ _)⟩))
  obtain ⟨rfl, N548q, e548⟩ := hQ548
  have N548 := Fr.app N0 N548q
  have S549 : Go p e below s₁ (eF_hr0 m x) T548 (mkF m 7 #[vR x] [(.int (0 : Int32))]) := fun t kt => S547 t (st548 t kt)
  clear S547 st548 X546 e546
  have S550 : Go p e below s₁ (eF_hr0 m x) T548 (mkF m 15 #[vR x] [(.int (0 : Int32))]) := fun t kt => S549 t (by
    refine XS.ifYes X548.here hx rfl (pc0 := 7) (pc' := 14) rfl (hb hby d34_7) rfl ((if0 _ _).trans (flt (show ¬ ((0 : Int32) < (0 : Int32)) from (by decide))).2.2.2) (by decide) (by decide) ?_
    refine XS.iconst X548.here hx rfl (hb hby d34_14) ?_
    show Sp p e below T548 (mkF m 15 #[vR x] [(.int (0 : Int32))]) _
    exact kt)
  clear S549
  obtain ⟨fs, hr, hrun, hended, hW, hsame⟩ := X548.leave (v := some (.int (0 : Int32))) (fun h => by first | rfl | (rw [Bd.returns] at h; cases h))
  refine ⟨_, _, S550 _ ?_, hrun, hended, _, _, rfl, ?_, ⟨_, rfl⟩, hW, hsame.mono (by decide) (by decide)⟩
  · exact retN X548 hx (t := .boolean) Bd.returns (by simp) (hb hby d34_15) hr
  · show Q_hr0 Z  h0 n0 _ T548.heap _
    rw [e548]
    exact ⟨rfl, N548, rfl⟩
abbrev eF_hr1 (m : MethodId) (x0 : Addr) : JFrame := entryFrame m #[(.ref x0)] 1
theorem ef_hr1 (m : MethodId) (x0 : Addr) : entryFrame m #[(.ref x0)] 1 = mkF m 0 #[.val (.ref x0)] [] := by first | (simp [entryFrame, mkF, argsToLocals, Value.category]; done) | rfl
theorem pn_hr1 : plainName "com/example/tranchery/tranchery/journal/Schedule" = true := by first | (simp [plainName, overriddenIn]; done) | decide +kernel
def Q_hr1 (Z : State)  (h0 : Heap) (n0 : Nat) (v : Option Value) (h : Heap) (L : List Loc) : Prop := v = some (.int (1 : Int32)) ∧ Fr n0 L ∧ h = h0
set_option maxRecDepth 65536 in
set_option maxHeartbeats 40000000 in
theorem rm_hr1 (l : Launch) (Z : State) (a0 : Array Value) (hw : ∀ d ∈ tables_1, d.before a0 Z = true) (ws : List Jvm.Cond) (x : Addr) (tl : Addr) (h0 : Heap) (n0 : Nat) (Z0 : n0 ≤ h0.size) (F0 : Fld Z h0 x "com/example/tranchery/tranchery/journal/Schedule" "rules" "Lcom/example/tranchery/tranchery/journal/Timeline;" (.ref tl)) (Et : Exa Z h0 tl "com/example/tranchery/tranchery/journal/Timeline") (Fz : Fld Z h0 tl "com/example/tranchery/tranchery/journal/Timeline" "size" "I" (.int (1 : Int32))) :
    MetFree l (⟨"com/example/tranchery/tranchery/journal/Schedule", "hasRule", "()Z"⟩ : MethodName) (head1 (Jvm.Cond.code (⟨"com/example/tranchery/tranchery/journal/Schedule", "hasRule", "()Z"⟩ : MethodName) prog_85_method_2_code 1 (some .boolean) :: ws) ({ frames := 1, cells := 0, slots := 0, locals := 12 } : Room)) (fun aa U => aa = #[(.ref x)] ∧ Z.Warmed39 U.vm ∧ U.heap = h0) (fun _ _ _ _ _ => True) (fun _ U o U' => ∃ v L, o = .returned v ∧ Q_hr1 Z  h0 n0 v U'.heap L ∧ FrameEnd U o U' L ({ frames := 1, cells := 0, slots := 0, locals := 12 } : Room).cells ({ frames := 1, cells := 0, slots := 0, locals := 12 } : Room).slots) := by
  refine MetFree.of_bodySF (plainFor_of_name pn_hr1) hisR ?_
  intro p e s m args below meth c s₁ Bd hml0 hP hK
  obtain ⟨rfl, hZ, hh⟩ := hP
  have hx := Bd.exec
  have hby := Bd.bytes
  have hml : c.maxLocals = 1 := hml0
  have hown : s.vm.findClass "com/example/tranchery/tranchery/journal/Schedule" = some m.cls := findClass_of_methodNamed Bd.named
  have hnm := (name_of_methodNamed Bd.named Bd.method).1
  have X0 : Stand p l e ({ frames := 1, cells := 0, slots := 0, locals := 12 } : Room) s m #[(.ref x)] below meth c s₁ [] 0 0 := Stand.of_body Bd
  have e0 : s₁.heap = h0 := by rw [← hh, Bd.state]; rfl
  have N0 := Fr.nil n0
  have S0 : Go p e below s₁ (eF_hr1 m x) s₁ (mkF m 0 #[vR x] []) := fun t k => castTop (ef_hr1 m x) k
  have S551 : Go p e below s₁ (eF_hr1 m x) s₁ (mkF m 1 #[vR x] [(.ref x)]) := fun t kt => S0 t (by
    refine XS.aloadN X0.here hx rfl (hb hby d34_0) rfl rfl ?_
    exact kt)
  clear S0
  obtain ⟨T552, X552, e552, st552⟩ := getF X0 hx hZ hown (host := "") (Or.inl (own_h hw 202 rfl)) Via.refl e0 F0 (g := (mkF m 1 #[vR x] [(.ref x)])) rfl rfl (hb hby d34_1)
  have S553 : Go p e below s₁ (eF_hr1 m x) T552 (mkF m 4 #[vR x] [(.ref tl)]) := fun t kt => S551 t (st552 t kt)
  clear S551 st552 X0 e0
  obtain ⟨cq554, kq554, q554a, q554b, q554c⟩ := isOf hZ e552 Et
  obtain ⟨v554, T554, L554, X554, hQ554, st554⟩ := own_outV (X552.virtualBack hx (y := (⟨"com/example/tranchery/tranchery/journal/Timeline", "size", "()I"⟩ : MethodName)) (z := (⟨"com/example/tranchery/tranchery/journal/Timeline", "size", "()I"⟩ : MethodName)) hown (mvT hZ (own_h hw 209 rfl)) (mvT hZ (own_h hw 210 rfl)) (notFace_of_selects (args := #[]) (mvT hZ (own_h hw 212 rfl))) (mvT hZ (own_h hw 212 rfl)) (mvT hZ (own_h hw 211 rfl)) (by decide) (backOf (W := 0) (rm_tsz l Z a0 hw [] tl (1 : Int32) h0 n0 Z0 Fz) hZ (own_h hw 213 rfl) (own_h hw 186 rfl) (by decide) (by decide)) q554a q554c (g := (mkF m 4 #[vR x] [(.ref tl)])) rfl (by rw [hml]; rfl) (Steps.refl _) (argsL := []) (rest := []) (lenOf pd___I rfl) rfl (by show 2 * 0 + _ ≤ _; exact Nat.le_of_eq rfl) (hb hby d34_4) (fun _ _ => ⟨rfl, e552, (by decide : 0 + 0 ≤ _), (by decide : 0 + 0 ≤ _)⟩))
  obtain ⟨rfl, N554q, e554⟩ := hQ554
  have N554 := Fr.app N0 N554q
  have S555 : Go p e below s₁ (eF_hr1 m x) T554 (mkF m 7 #[vR x] [(.int (1 : Int32))]) := fun t kt => S553 t (st554 t kt)
  clear S553 st554 X552 e552
  have S556 : Go p e below s₁ (eF_hr1 m x) T554 (mkF m 15 #[vR x] [(.int (1 : Int32))]) := fun t kt => S555 t (by
    refine XS.ifNo X554.here hx rfl (hb hby d34_7) rfl ((if0 _ _).trans (tlt (show (0 : Int32) < (1 : Int32) from (by decide))).2.2.2) ?_
    refine XS.iconst X554.here hx rfl (hb hby d34_10) ?_
    show Sp p e below T554 (mkF m 11 #[vR x] [(.int (1 : Int32))]) _
    refine XS.goto X554.here hx rfl (pc0 := 11) (pc' := 15) rfl (hb hby d34_11) (by decide) (by decide) ?_
    exact kt)
  clear S555
  obtain ⟨fs, hr, hrun, hended, hW, hsame⟩ := X554.leave (v := some (.int (1 : Int32))) (fun h => by first | rfl | (rw [Bd.returns] at h; cases h))
  refine ⟨_, _, S556 _ ?_, hrun, hended, _, _, rfl, ?_, ⟨_, rfl⟩, hW, hsame.mono (by decide) (by decide)⟩
  · exact retN X554 hx (t := .boolean) Bd.returns (by simp) (hb hby d34_15) hr
  · show Q_hr1 Z  h0 n0 _ T554.heap _
    rw [e554]
    exact ⟨rfl, N554, rfl⟩
abbrev eF_hr2 (m : MethodId) (x0 : Addr) : JFrame := entryFrame m #[(.ref x0)] 1
theorem ef_hr2 (m : MethodId) (x0 : Addr) : entryFrame m #[(.ref x0)] 1 = mkF m 0 #[.val (.ref x0)] [] := by first | (simp [entryFrame, mkF, argsToLocals, Value.category]; done) | rfl
theorem pn_hr2 : plainName "com/example/tranchery/tranchery/journal/Schedule" = true := by first | (simp [plainName, overriddenIn]; done) | decide +kernel
def Q_hr2 (Z : State)  (h0 : Heap) (n0 : Nat) (v : Option Value) (h : Heap) (L : List Loc) : Prop := v = some (.int (1 : Int32)) ∧ Fr n0 L ∧ h = h0
set_option maxRecDepth 65536 in
set_option maxHeartbeats 40000000 in
theorem rm_hr2 (l : Launch) (Z : State) (a0 : Array Value) (hw : ∀ d ∈ tables_1, d.before a0 Z = true) (ws : List Jvm.Cond) (x : Addr) (tl : Addr) (h0 : Heap) (n0 : Nat) (Z0 : n0 ≤ h0.size) (F0 : Fld Z h0 x "com/example/tranchery/tranchery/journal/Schedule" "rules" "Lcom/example/tranchery/tranchery/journal/Timeline;" (.ref tl)) (Et : Exa Z h0 tl "com/example/tranchery/tranchery/journal/Timeline") (Fz : Fld Z h0 tl "com/example/tranchery/tranchery/journal/Timeline" "size" "I" (.int (2 : Int32))) :
    MetFree l (⟨"com/example/tranchery/tranchery/journal/Schedule", "hasRule", "()Z"⟩ : MethodName) (head1 (Jvm.Cond.code (⟨"com/example/tranchery/tranchery/journal/Schedule", "hasRule", "()Z"⟩ : MethodName) prog_85_method_2_code 1 (some .boolean) :: ws) ({ frames := 1, cells := 0, slots := 0, locals := 12 } : Room)) (fun aa U => aa = #[(.ref x)] ∧ Z.Warmed39 U.vm ∧ U.heap = h0) (fun _ _ _ _ _ => True) (fun _ U o U' => ∃ v L, o = .returned v ∧ Q_hr2 Z  h0 n0 v U'.heap L ∧ FrameEnd U o U' L ({ frames := 1, cells := 0, slots := 0, locals := 12 } : Room).cells ({ frames := 1, cells := 0, slots := 0, locals := 12 } : Room).slots) := by
  refine MetFree.of_bodySF (plainFor_of_name pn_hr2) hisR ?_
  intro p e s m args below meth c s₁ Bd hml0 hP hK
  obtain ⟨rfl, hZ, hh⟩ := hP
  have hx := Bd.exec
  have hby := Bd.bytes
  have hml : c.maxLocals = 1 := hml0
  have hown : s.vm.findClass "com/example/tranchery/tranchery/journal/Schedule" = some m.cls := findClass_of_methodNamed Bd.named
  have hnm := (name_of_methodNamed Bd.named Bd.method).1
  have X0 : Stand p l e ({ frames := 1, cells := 0, slots := 0, locals := 12 } : Room) s m #[(.ref x)] below meth c s₁ [] 0 0 := Stand.of_body Bd
  have e0 : s₁.heap = h0 := by rw [← hh, Bd.state]; rfl
  have N0 := Fr.nil n0
  have S0 : Go p e below s₁ (eF_hr2 m x) s₁ (mkF m 0 #[vR x] []) := fun t k => castTop (ef_hr2 m x) k
  have S557 : Go p e below s₁ (eF_hr2 m x) s₁ (mkF m 1 #[vR x] [(.ref x)]) := fun t kt => S0 t (by
    refine XS.aloadN X0.here hx rfl (hb hby d34_0) rfl rfl ?_
    exact kt)
  clear S0
  obtain ⟨T558, X558, e558, st558⟩ := getF X0 hx hZ hown (host := "") (Or.inl (own_h hw 202 rfl)) Via.refl e0 F0 (g := (mkF m 1 #[vR x] [(.ref x)])) rfl rfl (hb hby d34_1)
  have S559 : Go p e below s₁ (eF_hr2 m x) T558 (mkF m 4 #[vR x] [(.ref tl)]) := fun t kt => S557 t (st558 t kt)
  clear S557 st558 X0 e0
  obtain ⟨cq560, kq560, q560a, q560b, q560c⟩ := isOf hZ e558 Et
  obtain ⟨v560, T560, L560, X560, hQ560, st560⟩ := own_outV (X558.virtualBack hx (y := (⟨"com/example/tranchery/tranchery/journal/Timeline", "size", "()I"⟩ : MethodName)) (z := (⟨"com/example/tranchery/tranchery/journal/Timeline", "size", "()I"⟩ : MethodName)) hown (mvT hZ (own_h hw 209 rfl)) (mvT hZ (own_h hw 210 rfl)) (notFace_of_selects (args := #[]) (mvT hZ (own_h hw 212 rfl))) (mvT hZ (own_h hw 212 rfl)) (mvT hZ (own_h hw 211 rfl)) (by decide) (backOf (W := 0) (rm_tsz l Z a0 hw [] tl (2 : Int32) h0 n0 Z0 Fz) hZ (own_h hw 213 rfl) (own_h hw 186 rfl) (by decide) (by decide)) q560a q560c (g := (mkF m 4 #[vR x] [(.ref tl)])) rfl (by rw [hml]; rfl) (Steps.refl _) (argsL := []) (rest := []) (lenOf pd___I rfl) rfl (by show 2 * 0 + _ ≤ _; exact Nat.le_of_eq rfl) (hb hby d34_4) (fun _ _ => ⟨rfl, e558, (by decide : 0 + 0 ≤ _), (by decide : 0 + 0 ≤ _)⟩))
  obtain ⟨rfl, N560q, e560⟩ := hQ560
  have N560 := Fr.app N0 N560q
  have S561 : Go p e below s₁ (eF_hr2 m x) T560 (mkF m 7 #[vR x] [(.int (2 : Int32))]) := fun t kt => S559 t (st560 t kt)
  clear S559 st560 X558 e558
  have S562 : Go p e below s₁ (eF_hr2 m x) T560 (mkF m 15 #[vR x] [(.int (1 : Int32))]) := fun t kt => S561 t (by
    refine XS.ifNo X560.here hx rfl (hb hby d34_7) rfl ((if0 _ _).trans (tlt (show (0 : Int32) < (2 : Int32) from (by decide))).2.2.2) ?_
    refine XS.iconst X560.here hx rfl (hb hby d34_10) ?_
    show Sp p e below T560 (mkF m 11 #[vR x] [(.int (1 : Int32))]) _
    refine XS.goto X560.here hx rfl (pc0 := 11) (pc' := 15) rfl (hb hby d34_11) (by decide) (by decide) ?_
    exact kt)
  clear S561
  obtain ⟨fs, hr, hrun, hended, hW, hsame⟩ := X560.leave (v := some (.int (1 : Int32))) (fun h => by first | rfl | (rw [Bd.returns] at h; cases h))
  refine ⟨_, _, S562 _ ?_, hrun, hended, _, _, rfl, ?_, ⟨_, rfl⟩, hW, hsame.mono (by decide) (by decide)⟩
  · exact retN X560 hx (t := .boolean) Bd.returns (by simp) (hb hby d34_15) hr
  · show Q_hr2 Z  h0 n0 _ T560.heap _
    rw [e560]
    exact ⟨rfl, N560, rfl⟩
abbrev eF_ily (m : MethodId) (x0 : Addr) (x1 : Int64) : JFrame := entryFrame m #[(.ref x0), (.long x1)] 3
theorem ef_ily (m : MethodId) (x0 : Addr) (x1 : Int64) : entryFrame m #[(.ref x0), (.long x1)] 3 = mkF m 0 #[.val (.ref x0), .val (.long x1), .second] [] := by first | (simp [entryFrame, mkF, argsToLocals, Value.category]; done) | rfl
theorem pn_ily : plainName "java/time/chrono/IsoChronology" = true := by first | (simp [plainName, overriddenIn]; done) | decide +kernel
def Q_ily (Z : State) (q : Int64) (h0 : Heap) (n0 : Nat) (v : Option Value) (h : Heap) (L : List Loc) : Prop := v = some (.int (if own_lp q then 1 else 0)) ∧ Fr n0 L ∧ h = h0
set_option maxRecDepth 65536 in
set_option maxHeartbeats 40000000 in
theorem rm_ily (l : Launch) (Z : State) (a0 : Array Value) (hw : ∀ d ∈ tables_1, d.before a0 Z = true) (ws : List Jvm.Cond) (a : Addr) (q : Int64) (h0 : Heap) (n0 : Nat) (Z0 : n0 ≤ h0.size)  :
    MetFree l (⟨"java/time/chrono/IsoChronology", "isLeapYear", "(J)Z"⟩ : MethodName) (head1 (Jvm.Cond.code (⟨"java/time/chrono/IsoChronology", "isLeapYear", "(J)Z"⟩ : MethodName) jdk_2369_method_18_code 3 (some .boolean) :: ws) ({ frames := 0, cells := 0, slots := 0, locals := 0 } : Room)) (fun aa U => aa = #[(.ref a), (.long q)] ∧ Z.Warmed39 U.vm ∧ U.heap = h0) (fun _ _ _ _ _ => True) (fun _ U o U' => ∃ v L, o = .returned v ∧ Q_ily Z q h0 n0 v U'.heap L ∧ FrameEnd U o U' L ({ frames := 0, cells := 0, slots := 0, locals := 0 } : Room).cells ({ frames := 0, cells := 0, slots := 0, locals := 0 } : Room).slots) := by
  refine MetFree.of_bodySF (plainFor_of_name pn_ily) hisR ?_
  intro p e s m args below meth c s₁ Bd hml0 hP hK
  obtain ⟨rfl, hZ, hh⟩ := hP
  have hx := Bd.exec
  have hby := Bd.bytes
  have hml : c.maxLocals = 3 := hml0
  have hown : s.vm.findClass "java/time/chrono/IsoChronology" = some m.cls := findClass_of_methodNamed Bd.named
  have hnm := (name_of_methodNamed Bd.named Bd.method).1
  have X0 : Stand p l e ({ frames := 0, cells := 0, slots := 0, locals := 0 } : Room) s m #[(.ref a), (.long q)] below meth c s₁ [] 0 0 := Stand.of_body Bd
  have e0 : s₁.heap = h0 := by rw [← hh, Bd.state]; rfl
  have N0 := Fr.nil n0
  have S0 : Go p e below s₁ (eF_ily m a q) s₁ (mkF m 0 #[vR a, vJ q, .second] []) := fun t k => castTop (ef_ily m a q) k
  have S563 : Go p e below s₁ (eF_ily m a q) s₁ (mkF m 7 #[vR a, vJ q, .second] [(.int (lcmpW (q &&& (3 : Int64)) (0 : Int64)))]) := fun t kt => S0 t (by
    refine XS.lloadN X0.here hx rfl (hb hby d40_0) rfl ?_
    refine X0.ldc2Long hx hown (mvT hZ (own_h hw 254 rfl)) (g := (mkF m 1 #[vR a, vJ q, .second] [(.long q)])) rfl (hb hby d40_1) _ ?_
    show Sp p e below s₁ (mkF m 4 #[vR a, vJ q, .second] [(.long (3 : Int64)), (.long q)]) _
    refine XS.land X0.here hx rfl (hb hby d40_4) rfl ?_
    refine XS.lconst X0.here hx rfl (hb hby d40_5) ?_
    show Sp p e below s₁ (mkF m 6 #[vR a, vJ q, .second] [(.long (0 : Int64)), (.long (q &&& (3 : Int64)))]) _
    refine XS.lcmp X0.here hx rfl (hb hby d40_6) rfl ?_
    exact kt)
  clear S0
  by_cases h1 : (lcmpW (q &&& (3 : Int64)) (0 : Int64)) = (0 : Int32)
  · have S565 : Go p e below s₁ (eF_ily m a q) s₁ (mkF m 17 #[vR a, vJ q, .second] [(.int (lcmpW (q % (100 : Int64)) (0 : Int64)))]) := fun t kt => S563 t (by
      refine XS.ifNo X0.here hx rfl (hb hby d40_7) rfl ((if0 _ _).trans (teq (show (lcmpW (q &&& (3 : Int64)) (0 : Int64)) = (0 : Int32) from h1)).2) ?_
      refine XS.lloadN X0.here hx rfl (hb hby d40_10) rfl ?_
      show Sp p e below s₁ (mkF m 11 #[vR a, vJ q, .second] [(.long q)]) _
      refine X0.ldc2Long hx hown (mvT hZ (own_h hw 255 rfl)) (g := (mkF m 11 #[vR a, vJ q, .second] [(.long q)])) rfl (hb hby d40_11) _ ?_
      refine XS.lrem X0.here hx rfl (hb hby d40_14) rfl (by decide) ?_
      rw [lrem_mod]
      show Sp p e below s₁ (mkF m 15 #[vR a, vJ q, .second] [(.long (q % (100 : Int64)))]) _
      refine XS.lconst X0.here hx rfl (hb hby d40_15) ?_
      refine XS.lcmp X0.here hx rfl (hb hby d40_16) rfl ?_
      show Sp p e below s₁ (mkF m 17 #[vR a, vJ q, .second] [(.int (lcmpW (q % (100 : Int64)) (0 : Int64)))]) _
      exact kt)
    clear S563
    by_cases h2 : (lcmpW (q % (100 : Int64)) (0 : Int64)) = (0 : Int32)
    · have S567 : Go p e below s₁ (eF_ily m a q) s₁ (mkF m 27 #[vR a, vJ q, .second] [(.int (lcmpW (q % (400 : Int64)) (0 : Int64)))]) := fun t kt => S565 t (by
        refine XS.ifNo X0.here hx rfl (hb hby d40_17) rfl ((if0 _ _).trans (teq (show (lcmpW (q % (100 : Int64)) (0 : Int64)) = (0 : Int32) from h2)).2) ?_
        refine XS.lloadN X0.here hx rfl (hb hby d40_20) rfl ?_
        show Sp p e below s₁ (mkF m 21 #[vR a, vJ q, .second] [(.long q)]) _
        refine X0.ldc2Long hx hown (mvT hZ (own_h hw 256 rfl)) (g := (mkF m 21 #[vR a, vJ q, .second] [(.long q)])) rfl (hb hby d40_21) _ ?_
        refine XS.lrem X0.here hx rfl (hb hby d40_24) rfl (by decide) ?_
        rw [lrem_mod]
        show Sp p e below s₁ (mkF m 25 #[vR a, vJ q, .second] [(.long (q % (400 : Int64)))]) _
        refine XS.lconst X0.here hx rfl (hb hby d40_25) ?_
        refine XS.lcmp X0.here hx rfl (hb hby d40_26) rfl ?_
        show Sp p e below s₁ (mkF m 27 #[vR a, vJ q, .second] [(.int (lcmpW (q % (400 : Int64)) (0 : Int64)))]) _
        exact kt)
      clear S565
      by_cases h3 : (lcmpW (q % (400 : Int64)) (0 : Int64)) = (0 : Int32)
      · have S568 : Go p e below s₁ (eF_ily m a q) s₁ (mkF m 35 #[vR a, vJ q, .second] [(.int (1 : Int32))]) := fun t kt => S567 t (by
          refine XS.ifNo X0.here hx rfl (hb hby d40_27) rfl ((if0 _ _).trans (teq (show (lcmpW (q % (400 : Int64)) (0 : Int64)) = (0 : Int32) from h3)).2) ?_
          refine XS.iconst X0.here hx rfl (hb hby d40_30) ?_
          show Sp p e below s₁ (mkF m 31 #[vR a, vJ q, .second] [(.int (1 : Int32))]) _
          refine XS.goto X0.here hx rfl (pc0 := 31) (pc' := 35) rfl (hb hby d40_31) (by decide) (by decide) ?_
          exact kt)
        clear S567
        obtain ⟨fs, hr, hrun, hended, hW, hsame⟩ := X0.leave (v := some (.int (1 : Int32))) (fun h => by first | rfl | (rw [Bd.returns] at h; cases h))
        refine ⟨_, _, S568 _ ?_, hrun, hended, _, _, rfl, ?_, ⟨_, rfl⟩, hW, hsame.mono (by decide) (by decide)⟩
        · exact retN X0 hx (t := .boolean) Bd.returns (by simp) (hb hby d40_35) hr
        · show Q_ily Z q h0 n0 _ s₁.heap _
          rw [e0]
          exact ⟨by simp [own_l2 h1 h2 h3], N0, rfl⟩
      · have S569 : Go p e below s₁ (eF_ily m a q) s₁ (mkF m 35 #[vR a, vJ q, .second] [(.int (0 : Int32))]) := fun t kt => S567 t (by
          refine XS.ifYes X0.here hx rfl (pc0 := 27) (pc' := 34) rfl (hb hby d40_27) rfl ((if0 _ _).trans (feq (show ¬ ((lcmpW (q % (400 : Int64)) (0 : Int64)) = (0 : Int32)) from h3)).2) (by decide) (by decide) ?_
          refine XS.iconst X0.here hx rfl (hb hby d40_34) ?_
          show Sp p e below s₁ (mkF m 35 #[vR a, vJ q, .second] [(.int (0 : Int32))]) _
          exact kt)
        clear S567
        obtain ⟨fs, hr, hrun, hended, hW, hsame⟩ := X0.leave (v := some (.int (0 : Int32))) (fun h => by first | rfl | (rw [Bd.returns] at h; cases h))
        refine ⟨_, _, S569 _ ?_, hrun, hended, _, _, rfl, ?_, ⟨_, rfl⟩, hW, hsame.mono (by decide) (by decide)⟩
        · exact retN X0 hx (t := .boolean) Bd.returns (by simp) (hb hby d40_35) hr
        · show Q_ily Z q h0 n0 _ s₁.heap _
          rw [e0]
          exact ⟨by simp [own_l3 h1 h2 h3], N0, rfl⟩
    · have S566 : Go p e below s₁ (eF_ily m a q) s₁ (mkF m 35 #[vR a, vJ q, .second] [(.int (1 : Int32))]) := fun t kt => S565 t (by
        refine XS.ifYes X0.here hx rfl (pc0 := 17) (pc' := 30) rfl (hb hby d40_17) rfl ((if0 _ _).trans (feq (show ¬ ((lcmpW (q % (100 : Int64)) (0 : Int64)) = (0 : Int32)) from h2)).2) (by decide) (by decide) ?_
        refine XS.iconst X0.here hx rfl (hb hby d40_30) ?_
        show Sp p e below s₁ (mkF m 31 #[vR a, vJ q, .second] [(.int (1 : Int32))]) _
        refine XS.goto X0.here hx rfl (pc0 := 31) (pc' := 35) rfl (hb hby d40_31) (by decide) (by decide) ?_
        exact kt)
      clear S565
      obtain ⟨fs, hr, hrun, hended, hW, hsame⟩ := X0.leave (v := some (.int (1 : Int32))) (fun h => by first | rfl | (rw [Bd.returns] at h; cases h))
      refine ⟨_, _, S566 _ ?_, hrun, hended, _, _, rfl, ?_, ⟨_, rfl⟩, hW, hsame.mono (by decide) (by decide)⟩
      · exact retN X0 hx (t := .boolean) Bd.returns (by simp) (hb hby d40_35) hr
      · show Q_ily Z q h0 n0 _ s₁.heap _
        rw [e0]
        exact ⟨by simp [own_l1 h1 h2], N0, rfl⟩
  · have S564 : Go p e below s₁ (eF_ily m a q) s₁ (mkF m 35 #[vR a, vJ q, .second] [(.int (0 : Int32))]) := fun t kt => S563 t (by
      refine XS.ifYes X0.here hx rfl (pc0 := 7) (pc' := 34) rfl (hb hby d40_7) rfl ((if0 _ _).trans (feq (show ¬ ((lcmpW (q &&& (3 : Int64)) (0 : Int64)) = (0 : Int32)) from h1)).2) (by decide) (by decide) ?_
      refine XS.iconst X0.here hx rfl (hb hby d40_34) ?_
      show Sp p e below s₁ (mkF m 35 #[vR a, vJ q, .second] [(.int (0 : Int32))]) _
      exact kt)
    clear S563
    obtain ⟨fs, hr, hrun, hended, hW, hsame⟩ := X0.leave (v := some (.int (0 : Int32))) (fun h => by first | rfl | (rw [Bd.returns] at h; cases h))
    refine ⟨_, _, S564 _ ?_, hrun, hended, _, _, rfl, ?_, ⟨_, rfl⟩, hW, hsame.mono (by decide) (by decide)⟩
    · exact retN X0 hx (t := .boolean) Bd.returns (by simp) (hb hby d40_35) hr
    · show Q_ily Z q h0 n0 _ s₁.heap _
      rw [e0]
      exact ⟨by simp [own_l0 h1], N0, rfl⟩
abbrev eF_lly (m : MethodId) (x0 : Addr) : JFrame := entryFrame m #[(.ref x0)] 1
theorem ef_lly (m : MethodId) (x0 : Addr) : entryFrame m #[(.ref x0)] 1 = mkF m 0 #[.val (.ref x0)] [] := by first | (simp [entryFrame, mkF, argsToLocals, Value.category]; done) | rfl
theorem pn_lly : plainName "java/time/LocalDate" = true := by first | (simp [plainName, overriddenIn]; done) | decide +kernel
def Q_lly (Z : State) (yn : Nat) (mn : Nat) (dn : Nat) (h0 : Heap) (n0 : Nat) (v : Option Value) (h : Heap) (L : List Loc) : Prop := v = some (.int (if own_lp (Int64.ofNat yn) then 1 else 0)) ∧ Fr n0 L ∧ h = h0
set_option maxRecDepth 65536 in
set_option maxHeartbeats 40000000 in
theorem rm_lly (l : Launch) (Z : State) (a0 : Array Value) (hw : ∀ d ∈ tables_1, d.before a0 Z = true) (ws : List Jvm.Cond) (x : Addr) (yn : Nat) (mn : Nat) (dn : Nat) (h0 : Heap) (n0 : Nat) (Z0 : n0 ≤ h0.size) (SS : own_St Z) (O0 : Old Z n0 h0)(Ex : Exa Z h0 x "java/time/LocalDate") (Fy : Fld Z h0 x "java/time/LocalDate" "year" "I" (.int (Int32.ofNat yn))) (Fm : Fld Z h0 x "java/time/LocalDate" "month" "S" (.int (Int32.ofNat mn))) (Fd : Fld Z h0 x "java/time/LocalDate" "day" "S" (.int (Int32.ofNat dn))) (hy : yn ≤ 9999) (hm : 1 ≤ mn) (hm2 : mn ≤ 12) (hd : 1 ≤ dn) (hd2 : dn ≤ 28) :
    MetFree l (⟨"java/time/LocalDate", "isLeapYear", "()Z"⟩ : MethodName) (head1 (Jvm.Cond.code (⟨"java/time/LocalDate", "isLeapYear", "()Z"⟩ : MethodName) jdk_2323_method_30_code 1 (some .boolean) :: ws) ({ frames := 1, cells := 0, slots := 0, locals := 14 } : Room)) (fun aa U => aa = #[(.ref x)] ∧ Z.Warmed39 U.vm ∧ U.heap = h0) (fun _ _ _ _ _ => True) (fun _ U o U' => ∃ v L, o = .returned v ∧ Q_lly Z yn mn dn h0 n0 v U'.heap L ∧ FrameEnd U o U' L ({ frames := 1, cells := 0, slots := 0, locals := 14 } : Room).cells ({ frames := 1, cells := 0, slots := 0, locals := 14 } : Room).slots) := by
  refine MetFree.of_bodySF (plainFor_of_name pn_lly) hisR ?_
  intro p e s m args below meth c s₁ Bd hml0 hP hK
  obtain ⟨rfl, hZ, hh⟩ := hP
  have hx := Bd.exec
  have hby := Bd.bytes
  have hml : c.maxLocals = 1 := hml0
  have hown : s.vm.findClass "java/time/LocalDate" = some m.cls := findClass_of_methodNamed Bd.named
  have hnm := (name_of_methodNamed Bd.named Bd.method).1
  have X0 : Stand p l e ({ frames := 1, cells := 0, slots := 0, locals := 14 } : Room) s m #[(.ref x)] below meth c s₁ [] 0 0 := Stand.of_body Bd
  have e0 : s₁.heap = h0 := by rw [← hh, Bd.state]; rfl
  have N0 := Fr.nil n0
  have S0 : Go p e below s₁ (eF_lly m x) s₁ (mkF m 0 #[vR x] []) := fun t k => castTop (ef_lly m x) k
  obtain ⟨⟨cz, S_cs, hcz⟩, ⟨fm, S_fm, hfm⟩, ⟨yr, yrr, S_yr, E_yr, F_yr, E_yrr, L_yr, H_yr⟩, ⟨mr, mrr, S_mr, E_mr, F_mr, E_mrr, L_mr, H_mr⟩, ⟨dr, drr, S_dr, E_dr, F_dr, E_drr, L_dr, H_dr⟩, ⟨iso, S_is, E_is⟩, ⟨em, el, kel, S_em, E_em, F_em, V_em⟩, ⟨nr, S_nr⟩, ⟨nk, S_nk⟩⟩ := id SS
  obtain ⟨T570, X570, e570, st570⟩ := getS2 X0 hx hZ hown (host := "") (Or.inl (own_h hw 247 rfl)) Via.refl e0 (S_is.ext O0.2) (g := (mkF m 0 #[vR x] [])) rfl (hb hby d39_0)
  have S571 : Go p e below s₁ (eF_lly m x) T570 (mkF m 3 #[vR x] [(.ref iso)]) := fun t kt => S0 t (st570 t kt)
  clear S0 st570 X0 e0
  have S572 : Go p e below s₁ (eF_lly m x) T570 (mkF m 4 #[vR x] [(.ref x), (.ref iso)]) := fun t kt => S571 t (by
    refine XS.aloadN X570.here hx rfl (hb hby d39_3) rfl rfl ?_
    exact kt)
  clear S571
  obtain ⟨T573, X573, e573, st573⟩ := getF X570 hx hZ hown (host := "") (Or.inl (own_h hw 138 rfl)) Via.refl e570 Fy (g := (mkF m 4 #[vR x] [(.ref x), (.ref iso)])) rfl rfl (hb hby d39_4)
  have S574 : Go p e below s₁ (eF_lly m x) T573 (mkF m 7 #[vR x] [(.int (Int32.ofNat yn)), (.ref iso)]) := fun t kt => S572 t (st573 t kt)
  clear S572 st573 X570 e570
  have S575 : Go p e below s₁ (eF_lly m x) T573 (mkF m 8 #[vR x] [(.long ((Int32.ofNat yn).toInt64)), (.ref iso)]) := fun t kt => S574 t (by
    refine XS.i2l X573.here hx rfl (hb hby d39_7) rfl ?_
    exact kt)
  clear S574
  have q577 : ((Int32.ofNat yn).toInt64) = (Int64.ofNat yn) := own_i2l (by omega)
  have S576 : Go p e below s₁ (eF_lly m x) T573 (mkF m 8 #[vR x] [(.long (Int64.ofNat yn)), (.ref iso)]) := by have h := S575; rw [q577] at h; exact h
  clear S575
  obtain ⟨cq578, kq578, q578a, q578b, q578c⟩ := isOf hZ e573 (E_is.ext O0.2)
  obtain ⟨v578, T578, L578, X578, hQ578, st578⟩ := own_outV (X573.virtualBack hx (y := (⟨"java/time/chrono/IsoChronology", "isLeapYear", "(J)Z"⟩ : MethodName)) (z := (⟨"java/time/chrono/IsoChronology", "isLeapYear", "(J)Z"⟩ : MethodName)) hown (mvT hZ (own_h hw 249 rfl)) (mvT hZ (own_h hw 250 rfl)) (notFace_of_selects (args := #[]) (mvT hZ (own_h hw 252 rfl))) (mvT hZ (own_h hw 252 rfl)) (mvT hZ (own_h hw 251 rfl)) (by decide) (backOf (W := 0) (rm_ily l Z a0 hw [] iso (Int64.ofNat yn) h0 n0 Z0) hZ (own_h hw 253 rfl) (own_h hw 248 rfl) (by decide) (by decide)) q578a q578c (g := (mkF m 8 #[vR x] [(.long (Int64.ofNat yn)), (.ref iso)])) rfl (by rw [hml]; rfl) (Steps.refl _) (argsL := [(.long (Int64.ofNat yn))]) (rest := []) (lenOf pd__J_Z rfl) rfl (by show 2 * 0 + _ ≤ _; exact Nat.le_of_eq rfl) (hb hby d39_8) (fun _ _ => ⟨rfl, e573, (by decide : 0 + 0 ≤ _), (by decide : 0 + 0 ≤ _)⟩))
  obtain ⟨rfl, N578q, e578⟩ := hQ578
  have N578 := Fr.app N0 N578q
  have S579 : Go p e below s₁ (eF_lly m x) T578 (mkF m 11 #[vR x] [(.int (if own_lp (Int64.ofNat yn) then 1 else 0))]) := fun t kt => S576 t (st578 t kt)
  clear S576 st578 X573 e573
  cases hlp : own_lp (Int64.ofNat yn)
  · have q581 : (if own_lp (Int64.ofNat yn) then 1 else 0) = (0 : Int32) := by simp [hlp]
    have S580 : Go p e below s₁ (eF_lly m x) T578 (mkF m 11 #[vR x] [(.int (0 : Int32))]) := by have h := S579; rw [q581] at h; exact h
    clear S579
    obtain ⟨fs, hr, hrun, hended, hW, hsame⟩ := X578.leave (v := some (.int (0 : Int32))) (fun h => by first | rfl | (rw [Bd.returns] at h; cases h))
    refine ⟨_, _, S580 _ ?_, hrun, hended, _, _, rfl, ?_, ⟨_, rfl⟩, hW, hsame.mono (by decide) (by decide)⟩
    · exact retN X578 hx (t := .boolean) Bd.returns (by simp) (hb hby d39_11) hr
    · show Q_lly Z yn mn dn h0 n0 _ T578.heap _
      rw [e578]
      exact ⟨by simp [hlp], N578, rfl⟩
  · have q583 : (if own_lp (Int64.ofNat yn) then 1 else 0) = (1 : Int32) := by simp [hlp]
    have S582 : Go p e below s₁ (eF_lly m x) T578 (mkF m 11 #[vR x] [(.int (1 : Int32))]) := by have h := S579; rw [q583] at h; exact h
    clear S579
    obtain ⟨fs, hr, hrun, hended, hW, hsame⟩ := X578.leave (v := some (.int (1 : Int32))) (fun h => by first | rfl | (rw [Bd.returns] at h; cases h))
    refine ⟨_, _, S582 _ ?_, hrun, hended, _, _, rfl, ?_, ⟨_, rfl⟩, hW, hsame.mono (by decide) (by decide)⟩
    · exact retN X578 hx (t := .boolean) Bd.returns (by simp) (hb hby d39_11) hr
    · show Q_lly Z yn mn dn h0 n0 _ T578.heap _
      rw [e578]
      exact ⟨by simp [hlp], N578, rfl⟩
abbrev eF_ted (m : MethodId) (x0 : Addr) : JFrame := entryFrame m #[(.ref x0)] 7
theorem ef_ted (m : MethodId) (x0 : Addr) : entryFrame m #[(.ref x0)] 7 = mkF m 0 #[.val (.ref x0), .unset, .unset, .unset, .unset, .unset, .unset] [] := by first | (simp [entryFrame, mkF, argsToLocals, Value.category]; done) | rfl
theorem pn_ted : plainName "java/time/LocalDate" = true := by first | (simp [plainName, overriddenIn]; done) | decide +kernel
def Q_ted (Z : State) (yn : Nat) (mn : Nat) (dn : Nat) (h0 : Heap) (n0 : Nat) (v : Option Value) (h : Heap) (L : List Loc) : Prop := v = some (.long (Int64.ofNat (own_t yn mn dn) - (719528 : Int64))) ∧ Fr n0 L ∧ h = h0
set_option maxRecDepth 65536 in
set_option maxHeartbeats 40000000 in
theorem rm_ted (l : Launch) (Z : State) (a0 : Array Value) (hw : ∀ d ∈ tables_1, d.before a0 Z = true) (ws : List Jvm.Cond) (x : Addr) (yn : Nat) (mn : Nat) (dn : Nat) (h0 : Heap) (n0 : Nat) (Z0 : n0 ≤ h0.size) (SS : own_St Z) (O0 : Old Z n0 h0)(Ex : Exa Z h0 x "java/time/LocalDate") (Fy : Fld Z h0 x "java/time/LocalDate" "year" "I" (.int (Int32.ofNat yn))) (Fm : Fld Z h0 x "java/time/LocalDate" "month" "S" (.int (Int32.ofNat mn))) (Fd : Fld Z h0 x "java/time/LocalDate" "day" "S" (.int (Int32.ofNat dn))) (hy : yn ≤ 9999) (hm : 1 ≤ mn) (hm2 : mn ≤ 12) (hd : 1 ≤ dn) (hd2 : dn ≤ 28) :
    MetFree l (⟨"java/time/LocalDate", "toEpochDay", "()J"⟩ : MethodName) (head1 (Jvm.Cond.code (⟨"java/time/LocalDate", "toEpochDay", "()J"⟩ : MethodName) jdk_2323_method_67_code 7 (some .long) :: ws) ({ frames := 2, cells := 0, slots := 0, locals := 26 } : Room)) (fun aa U => aa = #[(.ref x)] ∧ Z.Warmed39 U.vm ∧ U.heap = h0) (fun _ _ _ _ _ => True) (fun _ U o U' => ∃ v L, o = .returned v ∧ Q_ted Z yn mn dn h0 n0 v U'.heap L ∧ FrameEnd U o U' L ({ frames := 2, cells := 0, slots := 0, locals := 26 } : Room).cells ({ frames := 2, cells := 0, slots := 0, locals := 26 } : Room).slots) := by
  refine MetFree.of_bodySF (plainFor_of_name pn_ted) hisR ?_
  intro p e s m args below meth c s₁ Bd hml0 hP hK
  obtain ⟨rfl, hZ, hh⟩ := hP
  have hx := Bd.exec
  have hby := Bd.bytes
  have hml : c.maxLocals = 7 := hml0
  have hown : s.vm.findClass "java/time/LocalDate" = some m.cls := findClass_of_methodNamed Bd.named
  have hnm := (name_of_methodNamed Bd.named Bd.method).1
  have X0 : Stand p l e ({ frames := 2, cells := 0, slots := 0, locals := 26 } : Room) s m #[(.ref x)] below meth c s₁ [] 0 0 := Stand.of_body Bd
  have e0 : s₁.heap = h0 := by rw [← hh, Bd.state]; rfl
  have N0 := Fr.nil n0
  have S0 : Go p e below s₁ (eF_ted m x) s₁ (mkF m 0 #[vR x, vU, vU, vU, vU, vU, vU] []) := fun t k => castTop (ef_ted m x) k
  obtain ⟨⟨cz, S_cs, hcz⟩, ⟨fm, S_fm, hfm⟩, ⟨yr, yrr, S_yr, E_yr, F_yr, E_yrr, L_yr, H_yr⟩, ⟨mr, mrr, S_mr, E_mr, F_mr, E_mrr, L_mr, H_mr⟩, ⟨dr, drr, S_dr, E_dr, F_dr, E_drr, L_dr, H_dr⟩, ⟨iso, S_is, E_is⟩, ⟨em, el, kel, S_em, E_em, F_em, V_em⟩, ⟨nr, S_nr⟩, ⟨nk, S_nk⟩⟩ := id SS
  have S584 : Go p e below s₁ (eF_ted m x) s₁ (mkF m 1 #[vR x, vU, vU, vU, vU, vU, vU] [(.ref x)]) := fun t kt => S0 t (by
    refine XS.aloadN X0.here hx rfl (hb hby d38_0) rfl rfl ?_
    exact kt)
  clear S0
  obtain ⟨T585, X585, e585, st585⟩ := getF X0 hx hZ hown (host := "") (Or.inl (own_h hw 138 rfl)) Via.refl e0 Fy (g := (mkF m 1 #[vR x, vU, vU, vU, vU, vU, vU] [(.ref x)])) rfl rfl (hb hby d38_1)
  have S586 : Go p e below s₁ (eF_ted m x) T585 (mkF m 4 #[vR x, vU, vU, vU, vU, vU, vU] [(.int (Int32.ofNat yn))]) := fun t kt => S584 t (st585 t kt)
  clear S584 st585 X0 e0
  have S587 : Go p e below s₁ (eF_ted m x) T585 (mkF m 5 #[vR x, vU, vU, vU, vU, vU, vU] [(.long ((Int32.ofNat yn).toInt64))]) := fun t kt => S586 t (by
    refine XS.i2l X585.here hx rfl (hb hby d38_4) rfl ?_
    exact kt)
  clear S586
  have q589 : ((Int32.ofNat yn).toInt64) = (Int64.ofNat yn) := own_i2l (by omega)
  have S588 : Go p e below s₁ (eF_ted m x) T585 (mkF m 5 #[vR x, vU, vU, vU, vU, vU, vU] [(.long (Int64.ofNat yn))]) := by have h := S587; rw [q589] at h; exact h
  clear S587
  have S590 : Go p e below s₁ (eF_ted m x) T585 (mkF m 7 #[vR x, vJ (Int64.ofNat yn), .second, vU, vU, vU, vU] [(.ref x)]) := fun t kt => S588 t (by
    refine XS.lstoreN X585.here hx rfl (hb hby d38_5) rfl (l' := #[vR x, vJ (Int64.ofNat yn), .second, vU, vU, vU, vU]) rfl ?_
    refine XS.aloadN X585.here hx rfl (hb hby d38_6) rfl rfl ?_
    show Sp p e below T585 (mkF m 7 #[vR x, vJ (Int64.ofNat yn), .second, vU, vU, vU, vU] [(.ref x)]) _
    exact kt)
  clear S588
  obtain ⟨T591, X591, e591, st591⟩ := getF X585 hx hZ hown (host := "") (Or.inl (own_h hw 140 rfl)) Via.refl e585 Fm (g := (mkF m 7 #[vR x, vJ (Int64.ofNat yn), .second, vU, vU, vU, vU] [(.ref x)])) rfl rfl (hb hby d38_7)
  have S592 : Go p e below s₁ (eF_ted m x) T591 (mkF m 10 #[vR x, vJ (Int64.ofNat yn), .second, vU, vU, vU, vU] [(.int (Int32.ofNat mn))]) := fun t kt => S590 t (st591 t kt)
  clear S590 st591 X585 e585
  have S593 : Go p e below s₁ (eF_ted m x) T591 (mkF m 11 #[vR x, vJ (Int64.ofNat yn), .second, vU, vU, vU, vU] [(.long ((Int32.ofNat mn).toInt64))]) := fun t kt => S592 t (by
    refine XS.i2l X591.here hx rfl (hb hby d38_10) rfl ?_
    exact kt)
  clear S592
  have q595 : ((Int32.ofNat mn).toInt64) = (Int64.ofNat mn) := own_i2l (by omega)
  have S594 : Go p e below s₁ (eF_ted m x) T591 (mkF m 11 #[vR x, vJ (Int64.ofNat yn), .second, vU, vU, vU, vU] [(.long (Int64.ofNat mn))]) := by have h := S593; rw [q595] at h; exact h
  clear S593
  have S596 : Go p e below s₁ (eF_ted m x) T591 (mkF m 28 #[vR x, vJ (Int64.ofNat yn), .second, vJ (Int64.ofNat mn), .second, vJ ((0 : Int64) + ((365 : Int64) * (Int64.ofNat yn))), .second] [(.int (lcmpW (Int64.ofNat yn) (0 : Int64)))]) := fun t kt => S594 t (by
    refine XS.lstoreN X591.here hx rfl (hb hby d38_11) rfl (l' := #[vR x, vJ (Int64.ofNat yn), .second, vJ (Int64.ofNat mn), .second, vU, vU]) rfl ?_
    refine XS.lconst X591.here hx rfl (hb hby d38_12) ?_
    show Sp p e below T591 (mkF m 13 #[vR x, vJ (Int64.ofNat yn), .second, vJ (Int64.ofNat mn), .second, vU, vU] [(.long (0 : Int64))]) _
    refine XS.lstore X591.here hx rfl (hb hby d38_13) rfl (l' := #[vR x, vJ (Int64.ofNat yn), .second, vJ (Int64.ofNat mn), .second, vJ (0 : Int64), .second]) rfl ?_
    refine XS.lload X591.here hx rfl (hb hby d38_15) rfl ?_
    show Sp p e below T591 (mkF m 17 #[vR x, vJ (Int64.ofNat yn), .second, vJ (Int64.ofNat mn), .second, vJ (0 : Int64), .second] [(.long (0 : Int64))]) _
    refine X591.ldc2Long hx hown (mvT hZ (own_h hw 231 rfl)) (g := (mkF m 17 #[vR x, vJ (Int64.ofNat yn), .second, vJ (Int64.ofNat mn), .second, vJ (0 : Int64), .second] [(.long (0 : Int64))])) rfl (hb hby d38_17) _ ?_
    refine XS.lloadN X591.here hx rfl (hb hby d38_20) rfl ?_
    show Sp p e below T591 (mkF m 21 #[vR x, vJ (Int64.ofNat yn), .second, vJ (Int64.ofNat mn), .second, vJ (0 : Int64), .second] [(.long (Int64.ofNat yn)), (.long (365 : Int64)), (.long (0 : Int64))]) _
    refine XS.lmul X591.here hx rfl (hb hby d38_21) rfl ?_
    refine XS.ladd X591.here hx rfl (hb hby d38_22) rfl ?_
    show Sp p e below T591 (mkF m 23 #[vR x, vJ (Int64.ofNat yn), .second, vJ (Int64.ofNat mn), .second, vJ (0 : Int64), .second] [(.long ((0 : Int64) + ((365 : Int64) * (Int64.ofNat yn))))]) _
    refine XS.lstore X591.here hx rfl (hb hby d38_23) rfl (l' := #[vR x, vJ (Int64.ofNat yn), .second, vJ (Int64.ofNat mn), .second, vJ ((0 : Int64) + ((365 : Int64) * (Int64.ofNat yn))), .second]) rfl ?_
    refine XS.lloadN X591.here hx rfl (hb hby d38_25) rfl ?_
    show Sp p e below T591 (mkF m 26 #[vR x, vJ (Int64.ofNat yn), .second, vJ (Int64.ofNat mn), .second, vJ ((0 : Int64) + ((365 : Int64) * (Int64.ofNat yn))), .second] [(.long (Int64.ofNat yn))]) _
    refine XS.lconst X591.here hx rfl (hb hby d38_26) ?_
    refine XS.lcmp X591.here hx rfl (hb hby d38_27) rfl ?_
    show Sp p e below T591 (mkF m 28 #[vR x, vJ (Int64.ofNat yn), .second, vJ (Int64.ofNat mn), .second, vJ ((0 : Int64) + ((365 : Int64) * (Int64.ofNat yn))), .second] [(.int (lcmpW (Int64.ofNat yn) (0 : Int64)))]) _
    exact kt)
  clear S594
  have S597 : Go p e below s₁ (eF_ted m x) T591 (mkF m 63 #[vR x, vJ (Int64.ofNat yn), .second, vJ (Int64.ofNat mn), .second, vJ ((0 : Int64) + ((365 : Int64) * (Int64.ofNat yn))), .second] [(.long (((0 : Int64) + ((365 : Int64) * (Int64.ofNat yn))) + (((((Int64.ofNat yn) + (3 : Int64)) / (4 : Int64)) - (((Int64.ofNat yn) + (99 : Int64)) / (100 : Int64))) + (((Int64.ofNat yn) + (399 : Int64)) / (400 : Int64)))))]) := fun t kt => S596 t (by
    refine XS.ifNo X591.here hx rfl (hb hby d38_28) rfl ((if0 _ _).trans (flt (show ¬ ((lcmpW (Int64.ofNat yn) (0 : Int64)) < (0 : Int32)) from (fun q => absurd (own_lcl.mp q) (by rw [own_toJ (by omega), show (0 : Int64).toInt = 0 from rfl]; omega)))).1) ?_
    show Sp p e below T591 (mkF m 31 #[vR x, vJ (Int64.ofNat yn), .second, vJ (Int64.ofNat mn), .second, vJ ((0 : Int64) + ((365 : Int64) * (Int64.ofNat yn))), .second] []) _
    refine XS.lload X591.here hx rfl (hb hby d38_31) rfl ?_
    show Sp p e below T591 (mkF m 33 #[vR x, vJ (Int64.ofNat yn), .second, vJ (Int64.ofNat mn), .second, vJ ((0 : Int64) + ((365 : Int64) * (Int64.ofNat yn))), .second] [(.long ((0 : Int64) + ((365 : Int64) * (Int64.ofNat yn))))]) _
    refine XS.lloadN X591.here hx rfl (hb hby d38_33) rfl ?_
    refine X591.ldc2Long hx hown (mvT hZ (own_h hw 232 rfl)) (g := (mkF m 34 #[vR x, vJ (Int64.ofNat yn), .second, vJ (Int64.ofNat mn), .second, vJ ((0 : Int64) + ((365 : Int64) * (Int64.ofNat yn))), .second] [(.long (Int64.ofNat yn)), (.long ((0 : Int64) + ((365 : Int64) * (Int64.ofNat yn))))])) rfl (hb hby d38_34) _ ?_
    show Sp p e below T591 (mkF m 37 #[vR x, vJ (Int64.ofNat yn), .second, vJ (Int64.ofNat mn), .second, vJ ((0 : Int64) + ((365 : Int64) * (Int64.ofNat yn))), .second] [(.long (3 : Int64)), (.long (Int64.ofNat yn)), (.long ((0 : Int64) + ((365 : Int64) * (Int64.ofNat yn))))]) _
    refine XS.ladd X591.here hx rfl (hb hby d38_37) rfl ?_
    refine X591.ldc2Long hx hown (mvT hZ (own_h hw 233 rfl)) (g := (mkF m 38 #[vR x, vJ (Int64.ofNat yn), .second, vJ (Int64.ofNat mn), .second, vJ ((0 : Int64) + ((365 : Int64) * (Int64.ofNat yn))), .second] [(.long ((Int64.ofNat yn) + (3 : Int64))), (.long ((0 : Int64) + ((365 : Int64) * (Int64.ofNat yn))))])) rfl (hb hby d38_38) _ ?_
    show Sp p e below T591 (mkF m 41 #[vR x, vJ (Int64.ofNat yn), .second, vJ (Int64.ofNat mn), .second, vJ ((0 : Int64) + ((365 : Int64) * (Int64.ofNat yn))), .second] [(.long (4 : Int64)), (.long ((Int64.ofNat yn) + (3 : Int64))), (.long ((0 : Int64) + ((365 : Int64) * (Int64.ofNat yn))))]) _
    refine XS.ldiv X591.here hx rfl (hb hby d38_41) rfl (by decide) ?_
    refine XS.lloadN X591.here hx rfl (hb hby d38_42) rfl ?_
    show Sp p e below T591 (mkF m 43 #[vR x, vJ (Int64.ofNat yn), .second, vJ (Int64.ofNat mn), .second, vJ ((0 : Int64) + ((365 : Int64) * (Int64.ofNat yn))), .second] [(.long (Int64.ofNat yn)), (.long (((Int64.ofNat yn) + (3 : Int64)) / (4 : Int64))), (.long ((0 : Int64) + ((365 : Int64) * (Int64.ofNat yn))))]) _
    refine X591.ldc2Long hx hown (mvT hZ (own_h hw 234 rfl)) (g := (mkF m 43 #[vR x, vJ (Int64.ofNat yn), .second, vJ (Int64.ofNat mn), .second, vJ ((0 : Int64) + ((365 : Int64) * (Int64.ofNat yn))), .second] [(.long (Int64.ofNat yn)), (.long (((Int64.ofNat yn) + (3 : Int64)) / (4 : Int64))), (.long ((0 : Int64) + ((365 : Int64) * (Int64.ofNat yn))))])) rfl (hb hby d38_43) _ ?_
    refine XS.ladd X591.here hx rfl (hb hby d38_46) rfl ?_
    show Sp p e below T591 (mkF m 47 #[vR x, vJ (Int64.ofNat yn), .second, vJ (Int64.ofNat mn), .second, vJ ((0 : Int64) + ((365 : Int64) * (Int64.ofNat yn))), .second] [(.long ((Int64.ofNat yn) + (99 : Int64))), (.long (((Int64.ofNat yn) + (3 : Int64)) / (4 : Int64))), (.long ((0 : Int64) + ((365 : Int64) * (Int64.ofNat yn))))]) _
    refine X591.ldc2Long hx hown (mvT hZ (own_h hw 235 rfl)) (g := (mkF m 47 #[vR x, vJ (Int64.ofNat yn), .second, vJ (Int64.ofNat mn), .second, vJ ((0 : Int64) + ((365 : Int64) * (Int64.ofNat yn))), .second] [(.long ((Int64.ofNat yn) + (99 : Int64))), (.long (((Int64.ofNat yn) + (3 : Int64)) / (4 : Int64))), (.long ((0 : Int64) + ((365 : Int64) * (Int64.ofNat yn))))])) rfl (hb hby d38_47) _ ?_
    refine XS.ldiv X591.here hx rfl (hb hby d38_50) rfl (by decide) ?_
    show Sp p e below T591 (mkF m 51 #[vR x, vJ (Int64.ofNat yn), .second, vJ (Int64.ofNat mn), .second, vJ ((0 : Int64) + ((365 : Int64) * (Int64.ofNat yn))), .second] [(.long (((Int64.ofNat yn) + (99 : Int64)) / (100 : Int64))), (.long (((Int64.ofNat yn) + (3 : Int64)) / (4 : Int64))), (.long ((0 : Int64) + ((365 : Int64) * (Int64.ofNat yn))))]) _
    refine XS.lsub X591.here hx rfl (hb hby d38_51) rfl ?_
    refine XS.lloadN X591.here hx rfl (hb hby d38_52) rfl ?_
    show Sp p e below T591 (mkF m 53 #[vR x, vJ (Int64.ofNat yn), .second, vJ (Int64.ofNat mn), .second, vJ ((0 : Int64) + ((365 : Int64) * (Int64.ofNat yn))), .second] [(.long (Int64.ofNat yn)), (.long ((((Int64.ofNat yn) + (3 : Int64)) / (4 : Int64)) - (((Int64.ofNat yn) + (99 : Int64)) / (100 : Int64)))), (.long ((0 : Int64) + ((365 : Int64) * (Int64.ofNat yn))))]) _
    refine X591.ldc2Long hx hown (mvT hZ (own_h hw 236 rfl)) (g := (mkF m 53 #[vR x, vJ (Int64.ofNat yn), .second, vJ (Int64.ofNat mn), .second, vJ ((0 : Int64) + ((365 : Int64) * (Int64.ofNat yn))), .second] [(.long (Int64.ofNat yn)), (.long ((((Int64.ofNat yn) + (3 : Int64)) / (4 : Int64)) - (((Int64.ofNat yn) + (99 : Int64)) / (100 : Int64)))), (.long ((0 : Int64) + ((365 : Int64) * (Int64.ofNat yn))))])) rfl (hb hby d38_53) _ ?_
    refine XS.ladd X591.here hx rfl (hb hby d38_56) rfl ?_
    show Sp p e below T591 (mkF m 57 #[vR x, vJ (Int64.ofNat yn), .second, vJ (Int64.ofNat mn), .second, vJ ((0 : Int64) + ((365 : Int64) * (Int64.ofNat yn))), .second] [(.long ((Int64.ofNat yn) + (399 : Int64))), (.long ((((Int64.ofNat yn) + (3 : Int64)) / (4 : Int64)) - (((Int64.ofNat yn) + (99 : Int64)) / (100 : Int64)))), (.long ((0 : Int64) + ((365 : Int64) * (Int64.ofNat yn))))]) _
    refine X591.ldc2Long hx hown (mvT hZ (own_h hw 237 rfl)) (g := (mkF m 57 #[vR x, vJ (Int64.ofNat yn), .second, vJ (Int64.ofNat mn), .second, vJ ((0 : Int64) + ((365 : Int64) * (Int64.ofNat yn))), .second] [(.long ((Int64.ofNat yn) + (399 : Int64))), (.long ((((Int64.ofNat yn) + (3 : Int64)) / (4 : Int64)) - (((Int64.ofNat yn) + (99 : Int64)) / (100 : Int64)))), (.long ((0 : Int64) + ((365 : Int64) * (Int64.ofNat yn))))])) rfl (hb hby d38_57) _ ?_
    refine XS.ldiv X591.here hx rfl (hb hby d38_60) rfl (by decide) ?_
    show Sp p e below T591 (mkF m 61 #[vR x, vJ (Int64.ofNat yn), .second, vJ (Int64.ofNat mn), .second, vJ ((0 : Int64) + ((365 : Int64) * (Int64.ofNat yn))), .second] [(.long (((Int64.ofNat yn) + (399 : Int64)) / (400 : Int64))), (.long ((((Int64.ofNat yn) + (3 : Int64)) / (4 : Int64)) - (((Int64.ofNat yn) + (99 : Int64)) / (100 : Int64)))), (.long ((0 : Int64) + ((365 : Int64) * (Int64.ofNat yn))))]) _
    refine XS.ladd X591.here hx rfl (hb hby d38_61) rfl ?_
    refine XS.ladd X591.here hx rfl (hb hby d38_62) rfl ?_
    show Sp p e below T591 (mkF m 63 #[vR x, vJ (Int64.ofNat yn), .second, vJ (Int64.ofNat mn), .second, vJ ((0 : Int64) + ((365 : Int64) * (Int64.ofNat yn))), .second] [(.long (((0 : Int64) + ((365 : Int64) * (Int64.ofNat yn))) + (((((Int64.ofNat yn) + (3 : Int64)) / (4 : Int64)) - (((Int64.ofNat yn) + (99 : Int64)) / (100 : Int64))) + (((Int64.ofNat yn) + (399 : Int64)) / (400 : Int64)))))]) _
    exact kt)
  clear S596
  have q599 : (((0 : Int64) + ((365 : Int64) * (Int64.ofNat yn))) + (((((Int64.ofNat yn) + (3 : Int64)) / (4 : Int64)) - (((Int64.ofNat yn) + (99 : Int64)) / (100 : Int64))) + (((Int64.ofNat yn) + (399 : Int64)) / (400 : Int64)))) = (Int64.ofNat (365 * yn + ((yn + 3) / 4 - (yn + 99) / 100 + (yn + 399) / 400))) := own_e1 hy
  have S598 : Go p e below s₁ (eF_ted m x) T591 (mkF m 63 #[vR x, vJ (Int64.ofNat yn), .second, vJ (Int64.ofNat mn), .second, vJ ((0 : Int64) + ((365 : Int64) * (Int64.ofNat yn))), .second] [(.long (Int64.ofNat (365 * yn + ((yn + 3) / 4 - (yn + 99) / 100 + (yn + 399) / 400))))]) := by have h := S597; rw [q599] at h; exact h
  clear S597
  have S600 : Go p e below s₁ (eF_ted m x) T591 (mkF m 106 #[vR x, vJ (Int64.ofNat yn), .second, vJ (Int64.ofNat mn), .second, vJ (Int64.ofNat (365 * yn + ((yn + 3) / 4 - (yn + 99) / 100 + (yn + 399) / 400))), .second] [(.long ((Int64.ofNat (365 * yn + ((yn + 3) / 4 - (yn + 99) / 100 + (yn + 399) / 400))) + ((((367 : Int64) * (Int64.ofNat mn)) - (362 : Int64)) / (12 : Int64))))]) := fun t kt => S598 t (by
    refine XS.lstore X591.here hx rfl (hb hby d38_63) rfl (l' := #[vR x, vJ (Int64.ofNat yn), .second, vJ (Int64.ofNat mn), .second, vJ (Int64.ofNat (365 * yn + ((yn + 3) / 4 - (yn + 99) / 100 + (yn + 399) / 400))), .second]) rfl ?_
    refine XS.goto X591.here hx rfl (pc0 := 65) (pc' := 90) rfl (hb hby d38_65) (by decide) (by decide) ?_
    show Sp p e below T591 (mkF m 90 #[vR x, vJ (Int64.ofNat yn), .second, vJ (Int64.ofNat mn), .second, vJ (Int64.ofNat (365 * yn + ((yn + 3) / 4 - (yn + 99) / 100 + (yn + 399) / 400))), .second] []) _
    refine XS.lload X591.here hx rfl (hb hby d38_90) rfl ?_
    refine X591.ldc2Long hx hown (mvT hZ (own_h hw 238 rfl)) (g := (mkF m 92 #[vR x, vJ (Int64.ofNat yn), .second, vJ (Int64.ofNat mn), .second, vJ (Int64.ofNat (365 * yn + ((yn + 3) / 4 - (yn + 99) / 100 + (yn + 399) / 400))), .second] [(.long (Int64.ofNat (365 * yn + ((yn + 3) / 4 - (yn + 99) / 100 + (yn + 399) / 400))))])) rfl (hb hby d38_92) _ ?_
    show Sp p e below T591 (mkF m 95 #[vR x, vJ (Int64.ofNat yn), .second, vJ (Int64.ofNat mn), .second, vJ (Int64.ofNat (365 * yn + ((yn + 3) / 4 - (yn + 99) / 100 + (yn + 399) / 400))), .second] [(.long (367 : Int64)), (.long (Int64.ofNat (365 * yn + ((yn + 3) / 4 - (yn + 99) / 100 + (yn + 399) / 400))))]) _
    refine XS.lloadN X591.here hx rfl (hb hby d38_95) rfl ?_
    refine XS.lmul X591.here hx rfl (hb hby d38_96) rfl ?_
    show Sp p e below T591 (mkF m 97 #[vR x, vJ (Int64.ofNat yn), .second, vJ (Int64.ofNat mn), .second, vJ (Int64.ofNat (365 * yn + ((yn + 3) / 4 - (yn + 99) / 100 + (yn + 399) / 400))), .second] [(.long ((367 : Int64) * (Int64.ofNat mn))), (.long (Int64.ofNat (365 * yn + ((yn + 3) / 4 - (yn + 99) / 100 + (yn + 399) / 400))))]) _
    refine X591.ldc2Long hx hown (mvT hZ (own_h hw 239 rfl)) (g := (mkF m 97 #[vR x, vJ (Int64.ofNat yn), .second, vJ (Int64.ofNat mn), .second, vJ (Int64.ofNat (365 * yn + ((yn + 3) / 4 - (yn + 99) / 100 + (yn + 399) / 400))), .second] [(.long ((367 : Int64) * (Int64.ofNat mn))), (.long (Int64.ofNat (365 * yn + ((yn + 3) / 4 - (yn + 99) / 100 + (yn + 399) / 400))))])) rfl (hb hby d38_97) _ ?_
    refine XS.lsub X591.here hx rfl (hb hby d38_100) rfl ?_
    show Sp p e below T591 (mkF m 101 #[vR x, vJ (Int64.ofNat yn), .second, vJ (Int64.ofNat mn), .second, vJ (Int64.ofNat (365 * yn + ((yn + 3) / 4 - (yn + 99) / 100 + (yn + 399) / 400))), .second] [(.long (((367 : Int64) * (Int64.ofNat mn)) - (362 : Int64))), (.long (Int64.ofNat (365 * yn + ((yn + 3) / 4 - (yn + 99) / 100 + (yn + 399) / 400))))]) _
    refine X591.ldc2Long hx hown (mvT hZ (own_h hw 240 rfl)) (g := (mkF m 101 #[vR x, vJ (Int64.ofNat yn), .second, vJ (Int64.ofNat mn), .second, vJ (Int64.ofNat (365 * yn + ((yn + 3) / 4 - (yn + 99) / 100 + (yn + 399) / 400))), .second] [(.long (((367 : Int64) * (Int64.ofNat mn)) - (362 : Int64))), (.long (Int64.ofNat (365 * yn + ((yn + 3) / 4 - (yn + 99) / 100 + (yn + 399) / 400))))])) rfl (hb hby d38_101) _ ?_
    refine XS.ldiv X591.here hx rfl (hb hby d38_104) rfl (by decide) ?_
    show Sp p e below T591 (mkF m 105 #[vR x, vJ (Int64.ofNat yn), .second, vJ (Int64.ofNat mn), .second, vJ (Int64.ofNat (365 * yn + ((yn + 3) / 4 - (yn + 99) / 100 + (yn + 399) / 400))), .second] [(.long ((((367 : Int64) * (Int64.ofNat mn)) - (362 : Int64)) / (12 : Int64))), (.long (Int64.ofNat (365 * yn + ((yn + 3) / 4 - (yn + 99) / 100 + (yn + 399) / 400))))]) _
    refine XS.ladd X591.here hx rfl (hb hby d38_105) rfl ?_
    exact kt)
  clear S598
  have q602 : ((Int64.ofNat (365 * yn + ((yn + 3) / 4 - (yn + 99) / 100 + (yn + 399) / 400))) + ((((367 : Int64) * (Int64.ofNat mn)) - (362 : Int64)) / (12 : Int64))) = (Int64.ofNat (365 * yn + ((yn + 3) / 4 - (yn + 99) / 100 + (yn + 399) / 400) + (367 * mn - 362) / 12)) := own_e2 (yn := yn) _ hm hm2
  have S601 : Go p e below s₁ (eF_ted m x) T591 (mkF m 106 #[vR x, vJ (Int64.ofNat yn), .second, vJ (Int64.ofNat mn), .second, vJ (Int64.ofNat (365 * yn + ((yn + 3) / 4 - (yn + 99) / 100 + (yn + 399) / 400))), .second] [(.long (Int64.ofNat (365 * yn + ((yn + 3) / 4 - (yn + 99) / 100 + (yn + 399) / 400) + (367 * mn - 362) / 12)))]) := by have h := S600; rw [q602] at h; exact h
  clear S600
  have S603 : Go p e below s₁ (eF_ted m x) T591 (mkF m 111 #[vR x, vJ (Int64.ofNat yn), .second, vJ (Int64.ofNat mn), .second, vJ (Int64.ofNat (365 * yn + ((yn + 3) / 4 - (yn + 99) / 100 + (yn + 399) / 400) + (367 * mn - 362) / 12)), .second] [(.ref x), (.long (Int64.ofNat (365 * yn + ((yn + 3) / 4 - (yn + 99) / 100 + (yn + 399) / 400) + (367 * mn - 362) / 12)))]) := fun t kt => S601 t (by
    refine XS.lstore X591.here hx rfl (hb hby d38_106) rfl (l' := #[vR x, vJ (Int64.ofNat yn), .second, vJ (Int64.ofNat mn), .second, vJ (Int64.ofNat (365 * yn + ((yn + 3) / 4 - (yn + 99) / 100 + (yn + 399) / 400) + (367 * mn - 362) / 12)), .second]) rfl ?_
    refine XS.lload X591.here hx rfl (hb hby d38_108) rfl ?_
    show Sp p e below T591 (mkF m 110 #[vR x, vJ (Int64.ofNat yn), .second, vJ (Int64.ofNat mn), .second, vJ (Int64.ofNat (365 * yn + ((yn + 3) / 4 - (yn + 99) / 100 + (yn + 399) / 400) + (367 * mn - 362) / 12)), .second] [(.long (Int64.ofNat (365 * yn + ((yn + 3) / 4 - (yn + 99) / 100 + (yn + 399) / 400) + (367 * mn - 362) / 12)))]) _
    refine XS.aloadN X591.here hx rfl (hb hby d38_110) rfl rfl ?_
    exact kt)
  clear S601
  obtain ⟨T604, X604, e604, st604⟩ := getF X591 hx hZ hown (host := "") (Or.inl (own_h hw 142 rfl)) Via.refl e591 Fd (g := (mkF m 111 #[vR x, vJ (Int64.ofNat yn), .second, vJ (Int64.ofNat mn), .second, vJ (Int64.ofNat (365 * yn + ((yn + 3) / 4 - (yn + 99) / 100 + (yn + 399) / 400) + (367 * mn - 362) / 12)), .second] [(.ref x), (.long (Int64.ofNat (365 * yn + ((yn + 3) / 4 - (yn + 99) / 100 + (yn + 399) / 400) + (367 * mn - 362) / 12)))])) rfl rfl (hb hby d38_111)
  have S605 : Go p e below s₁ (eF_ted m x) T604 (mkF m 114 #[vR x, vJ (Int64.ofNat yn), .second, vJ (Int64.ofNat mn), .second, vJ (Int64.ofNat (365 * yn + ((yn + 3) / 4 - (yn + 99) / 100 + (yn + 399) / 400) + (367 * mn - 362) / 12)), .second] [(.int (Int32.ofNat dn)), (.long (Int64.ofNat (365 * yn + ((yn + 3) / 4 - (yn + 99) / 100 + (yn + 399) / 400) + (367 * mn - 362) / 12)))]) := fun t kt => S603 t (st604 t kt)
  clear S603 st604 X591 e591
  have S606 : Go p e below s₁ (eF_ted m x) T604 (mkF m 118 #[vR x, vJ (Int64.ofNat yn), .second, vJ (Int64.ofNat mn), .second, vJ (Int64.ofNat (365 * yn + ((yn + 3) / 4 - (yn + 99) / 100 + (yn + 399) / 400) + (367 * mn - 362) / 12)), .second] [(.long ((Int64.ofNat (365 * yn + ((yn + 3) / 4 - (yn + 99) / 100 + (yn + 399) / 400) + (367 * mn - 362) / 12)) + (((Int32.ofNat dn) - (1 : Int32)).toInt64)))]) := fun t kt => S605 t (by
    refine XS.iconst X604.here hx rfl (hb hby d38_114) ?_
    refine XS.isub X604.here hx rfl (hb hby d38_115) rfl ?_
    show Sp p e below T604 (mkF m 116 #[vR x, vJ (Int64.ofNat yn), .second, vJ (Int64.ofNat mn), .second, vJ (Int64.ofNat (365 * yn + ((yn + 3) / 4 - (yn + 99) / 100 + (yn + 399) / 400) + (367 * mn - 362) / 12)), .second] [(.int ((Int32.ofNat dn) - (1 : Int32))), (.long (Int64.ofNat (365 * yn + ((yn + 3) / 4 - (yn + 99) / 100 + (yn + 399) / 400) + (367 * mn - 362) / 12)))]) _
    refine XS.i2l X604.here hx rfl (hb hby d38_116) rfl ?_
    refine XS.ladd X604.here hx rfl (hb hby d38_117) rfl ?_
    show Sp p e below T604 (mkF m 118 #[vR x, vJ (Int64.ofNat yn), .second, vJ (Int64.ofNat mn), .second, vJ (Int64.ofNat (365 * yn + ((yn + 3) / 4 - (yn + 99) / 100 + (yn + 399) / 400) + (367 * mn - 362) / 12)), .second] [(.long ((Int64.ofNat (365 * yn + ((yn + 3) / 4 - (yn + 99) / 100 + (yn + 399) / 400) + (367 * mn - 362) / 12)) + (((Int32.ofNat dn) - (1 : Int32)).toInt64)))]) _
    exact kt)
  clear S605
  have q608 : ((Int64.ofNat (365 * yn + ((yn + 3) / 4 - (yn + 99) / 100 + (yn + 399) / 400) + (367 * mn - 362) / 12)) + (((Int32.ofNat dn) - (1 : Int32)).toInt64)) = (Int64.ofNat (own_b0 yn mn dn)) := own_e3 _ hd hd2
  have S607 : Go p e below s₁ (eF_ted m x) T604 (mkF m 118 #[vR x, vJ (Int64.ofNat yn), .second, vJ (Int64.ofNat mn), .second, vJ (Int64.ofNat (365 * yn + ((yn + 3) / 4 - (yn + 99) / 100 + (yn + 399) / 400) + (367 * mn - 362) / 12)), .second] [(.long (Int64.ofNat (own_b0 yn mn dn)))]) := by have h := S606; rw [q608] at h; exact h
  clear S606
  have S609 : Go p e below s₁ (eF_ted m x) T604 (mkF m 125 #[vR x, vJ (Int64.ofNat yn), .second, vJ (Int64.ofNat mn), .second, vJ (Int64.ofNat (own_b0 yn mn dn)), .second] [(.int (lcmpW (Int64.ofNat mn) (2 : Int64)))]) := fun t kt => S607 t (by
    refine XS.lstore X604.here hx rfl (hb hby d38_118) rfl (l' := #[vR x, vJ (Int64.ofNat yn), .second, vJ (Int64.ofNat mn), .second, vJ (Int64.ofNat (own_b0 yn mn dn)), .second]) rfl ?_
    refine XS.lloadN X604.here hx rfl (hb hby d38_120) rfl ?_
    show Sp p e below T604 (mkF m 121 #[vR x, vJ (Int64.ofNat yn), .second, vJ (Int64.ofNat mn), .second, vJ (Int64.ofNat (own_b0 yn mn dn)), .second] [(.long (Int64.ofNat mn))]) _
    refine X604.ldc2Long hx hown (mvT hZ (own_h hw 241 rfl)) (g := (mkF m 121 #[vR x, vJ (Int64.ofNat yn), .second, vJ (Int64.ofNat mn), .second, vJ (Int64.ofNat (own_b0 yn mn dn)), .second] [(.long (Int64.ofNat mn))])) rfl (hb hby d38_121) _ ?_
    refine XS.lcmp X604.here hx rfl (hb hby d38_124) rfl ?_
    show Sp p e below T604 (mkF m 125 #[vR x, vJ (Int64.ofNat yn), .second, vJ (Int64.ofNat mn), .second, vJ (Int64.ofNat (own_b0 yn mn dn)), .second] [(.int (lcmpW (Int64.ofNat mn) (2 : Int64)))]) _
    exact kt)
  clear S607
  by_cases h2 : (0 : Int32) < (lcmpW (Int64.ofNat mn) (2 : Int64))
  · have hm3 : 2 < mn := by have q := own_lcg.mp h2; rw [own_toJ (by omega), show (2 : Int64).toInt = 2 from rfl] at q; omega
    have hbb : 2 ≤ own_b0 yn mn dn := by unfold own_b0; omega
    have S611 : Go p e below s₁ (eF_ted m x) T604 (mkF m 135 #[vR x, vJ (Int64.ofNat yn), .second, vJ (Int64.ofNat mn), .second, vJ ((Int64.ofNat (own_b0 yn mn dn)) - (1 : Int64)), .second] [(.ref x)]) := fun t kt => S609 t (by
      refine XS.ifNo X604.here hx rfl (hb hby d38_125) rfl ((if0 _ _).trans (tlt (show (0 : Int32) < (lcmpW (Int64.ofNat mn) (2 : Int64)) from h2)).2.2.2) ?_
      refine XS.lload X604.here hx rfl (hb hby d38_128) rfl ?_
      show Sp p e below T604 (mkF m 130 #[vR x, vJ (Int64.ofNat yn), .second, vJ (Int64.ofNat mn), .second, vJ (Int64.ofNat (own_b0 yn mn dn)), .second] [(.long (Int64.ofNat (own_b0 yn mn dn)))]) _
      refine XS.lconst X604.here hx rfl (hb hby d38_130) ?_
      refine XS.lsub X604.here hx rfl (hb hby d38_131) rfl ?_
      show Sp p e below T604 (mkF m 132 #[vR x, vJ (Int64.ofNat yn), .second, vJ (Int64.ofNat mn), .second, vJ (Int64.ofNat (own_b0 yn mn dn)), .second] [(.long ((Int64.ofNat (own_b0 yn mn dn)) - (1 : Int64)))]) _
      refine XS.lstore X604.here hx rfl (hb hby d38_132) rfl (l' := #[vR x, vJ (Int64.ofNat yn), .second, vJ (Int64.ofNat mn), .second, vJ ((Int64.ofNat (own_b0 yn mn dn)) - (1 : Int64)), .second]) rfl ?_
      refine XS.aloadN X604.here hx rfl (hb hby d38_134) rfl rfl ?_
      show Sp p e below T604 (mkF m 135 #[vR x, vJ (Int64.ofNat yn), .second, vJ (Int64.ofNat mn), .second, vJ ((Int64.ofNat (own_b0 yn mn dn)) - (1 : Int64)), .second] [(.ref x)]) _
      exact kt)
    clear S609
    have q613 : ((Int64.ofNat (own_b0 yn mn dn)) - (1 : Int64)) = (Int64.ofNat (own_b0 yn mn dn - 1)) := own_e4 (by omega)
    have S612 : Go p e below s₁ (eF_ted m x) T604 (mkF m 135 #[vR x, vJ (Int64.ofNat yn), .second, vJ (Int64.ofNat mn), .second, vJ (Int64.ofNat (own_b0 yn mn dn - 1)), .second] [(.ref x)]) := by have h := S611; rw [q613] at h; exact h
    clear S611
    obtain ⟨cq614, kq614, q614a, q614b, q614c⟩ := isOf hZ e604 Ex
    obtain ⟨v614, T614, L614, X614, hQ614, st614⟩ := own_outV (X604.virtualBack hx (y := (⟨"java/time/LocalDate", "isLeapYear", "()Z"⟩ : MethodName)) (z := (⟨"java/time/LocalDate", "isLeapYear", "()Z"⟩ : MethodName)) hown (mvT hZ (own_h hw 242 rfl)) (mvT hZ (own_h hw 243 rfl)) (notFace_of_selects (args := #[]) (mvT hZ (own_h hw 245 rfl))) (mvT hZ (own_h hw 245 rfl)) (mvT hZ (own_h hw 244 rfl)) (by decide) (backOf (W := 0) (rm_lly l Z a0 hw [] x yn mn dn h0 n0 Z0 SS O0 Ex Fy Fm Fd hy hm hm2 hd hd2) hZ (own_h hw 246 rfl) (own_h hw 85 rfl) (by decide) (by decide)) q614a q614c (g := (mkF m 135 #[vR x, vJ (Int64.ofNat yn), .second, vJ (Int64.ofNat mn), .second, vJ (Int64.ofNat (own_b0 yn mn dn - 1)), .second] [(.ref x)])) rfl (by rw [hml]; rfl) (Steps.refl _) (argsL := []) (rest := []) (lenOf pd___Z rfl) rfl (by show 2 * 0 + _ ≤ _; exact Nat.le_of_eq rfl) (hb hby d38_135) (fun _ _ => ⟨rfl, e604, (by decide : 0 + 0 ≤ _), (by decide : 0 + 0 ≤ _)⟩))
    obtain ⟨rfl, N614q, e614⟩ := hQ614
    have N614 := Fr.app N0 N614q
    have S615 : Go p e below s₁ (eF_ted m x) T614 (mkF m 138 #[vR x, vJ (Int64.ofNat yn), .second, vJ (Int64.ofNat mn), .second, vJ (Int64.ofNat (own_b0 yn mn dn - 1)), .second] [(.int (if own_lp (Int64.ofNat yn) then 1 else 0))]) := fun t kt => S612 t (st614 t kt)
    clear S612 st614 X604 e604
    cases hlp : own_lp (Int64.ofNat yn)
    · have q617 : (if own_lp (Int64.ofNat yn) then 1 else 0) = (0 : Int32) := by simp [hlp]
      have S616 : Go p e below s₁ (eF_ted m x) T614 (mkF m 138 #[vR x, vJ (Int64.ofNat yn), .second, vJ (Int64.ofNat mn), .second, vJ (Int64.ofNat (own_b0 yn mn dn - 1)), .second] [(.int (0 : Int32))]) := by have h := S615; rw [q617] at h; exact h
      clear S615
      have S618 : Go p e below s₁ (eF_ted m x) T614 (mkF m 145 #[vR x, vJ (Int64.ofNat yn), .second, vJ (Int64.ofNat mn), .second, vJ (Int64.ofNat (own_b0 yn mn dn - 1)), .second] [(.long ((Int64.ofNat (own_b0 yn mn dn - 1)) - (1 : Int64)))]) := fun t kt => S616 t (by
        refine XS.ifNo X614.here hx rfl (hb hby d38_138) rfl ((if0 _ _).trans (teq (show (0 : Int32) = (0 : Int32) from (by decide))).2) ?_
        refine XS.lload X614.here hx rfl (hb hby d38_141) rfl ?_
        show Sp p e below T614 (mkF m 143 #[vR x, vJ (Int64.ofNat yn), .second, vJ (Int64.ofNat mn), .second, vJ (Int64.ofNat (own_b0 yn mn dn - 1)), .second] [(.long (Int64.ofNat (own_b0 yn mn dn - 1)))]) _
        refine XS.lconst X614.here hx rfl (hb hby d38_143) ?_
        refine XS.lsub X614.here hx rfl (hb hby d38_144) rfl ?_
        show Sp p e below T614 (mkF m 145 #[vR x, vJ (Int64.ofNat yn), .second, vJ (Int64.ofNat mn), .second, vJ (Int64.ofNat (own_b0 yn mn dn - 1)), .second] [(.long ((Int64.ofNat (own_b0 yn mn dn - 1)) - (1 : Int64)))]) _
        exact kt)
      clear S616
      have q620 : ((Int64.ofNat (own_b0 yn mn dn - 1)) - (1 : Int64)) = (Int64.ofNat (own_t yn mn dn)) := (own_e4 (by omega)).trans (congrArg Int64.ofNat (own_t2 hm3 hlp).symm)
      have S619 : Go p e below s₁ (eF_ted m x) T614 (mkF m 145 #[vR x, vJ (Int64.ofNat yn), .second, vJ (Int64.ofNat mn), .second, vJ (Int64.ofNat (own_b0 yn mn dn - 1)), .second] [(.long (Int64.ofNat (own_t yn mn dn)))]) := by have h := S618; rw [q620] at h; exact h
      clear S618
      have S621 : Go p e below s₁ (eF_ted m x) T614 (mkF m 153 #[vR x, vJ (Int64.ofNat yn), .second, vJ (Int64.ofNat mn), .second, vJ (Int64.ofNat (own_t yn mn dn)), .second] [(.long ((Int64.ofNat (own_t yn mn dn)) - (719528 : Int64)))]) := fun t kt => S619 t (by
        refine XS.lstore X614.here hx rfl (hb hby d38_145) rfl (l' := #[vR x, vJ (Int64.ofNat yn), .second, vJ (Int64.ofNat mn), .second, vJ (Int64.ofNat (own_t yn mn dn)), .second]) rfl ?_
        refine XS.lload X614.here hx rfl (hb hby d38_147) rfl ?_
        show Sp p e below T614 (mkF m 149 #[vR x, vJ (Int64.ofNat yn), .second, vJ (Int64.ofNat mn), .second, vJ (Int64.ofNat (own_t yn mn dn)), .second] [(.long (Int64.ofNat (own_t yn mn dn)))]) _
        refine X614.ldc2Long hx hown (mvT hZ (own_h hw 257 rfl)) (g := (mkF m 149 #[vR x, vJ (Int64.ofNat yn), .second, vJ (Int64.ofNat mn), .second, vJ (Int64.ofNat (own_t yn mn dn)), .second] [(.long (Int64.ofNat (own_t yn mn dn)))])) rfl (hb hby d38_149) _ ?_
        refine XS.lsub X614.here hx rfl (hb hby d38_152) rfl ?_
        show Sp p e below T614 (mkF m 153 #[vR x, vJ (Int64.ofNat yn), .second, vJ (Int64.ofNat mn), .second, vJ (Int64.ofNat (own_t yn mn dn)), .second] [(.long ((Int64.ofNat (own_t yn mn dn)) - (719528 : Int64)))]) _
        exact kt)
      clear S619
      obtain ⟨fs, hr, hrun, hended, hW, hsame⟩ := X614.leave (v := some (.long ((Int64.ofNat (own_t yn mn dn)) - (719528 : Int64)))) (fun h => by first | rfl | (rw [Bd.returns] at h; cases h))
      refine ⟨_, _, S621 _ ?_, hrun, hended, _, _, rfl, ?_, ⟨_, rfl⟩, hW, hsame.mono (by decide) (by decide)⟩
      · exact retOut X614 hx Bd.returns rfl (Or.inr (Or.inl ⟨rfl, rfl, _, rfl⟩)) (hb hby d38_153) hr
      · show Q_ted Z yn mn dn h0 n0 _ T614.heap _
        rw [e614]
        exact ⟨rfl, N614, rfl⟩
    · have q623 : (if own_lp (Int64.ofNat yn) then 1 else 0) = (1 : Int32) := by simp [hlp]
      have S622 : Go p e below s₁ (eF_ted m x) T614 (mkF m 138 #[vR x, vJ (Int64.ofNat yn), .second, vJ (Int64.ofNat mn), .second, vJ (Int64.ofNat (own_b0 yn mn dn - 1)), .second] [(.int (1 : Int32))]) := by have h := S615; rw [q623] at h; exact h
      clear S615
      have S624 : Go p e below s₁ (eF_ted m x) T614 (mkF m 147 #[vR x, vJ (Int64.ofNat yn), .second, vJ (Int64.ofNat mn), .second, vJ (Int64.ofNat (own_b0 yn mn dn - 1)), .second] []) := fun t kt => S622 t (by
        refine XS.ifYes X614.here hx rfl (pc0 := 138) (pc' := 147) rfl (hb hby d38_138) rfl ((if0 _ _).trans (feq (show ¬ ((1 : Int32) = (0 : Int32)) from (by decide))).2) (by decide) (by decide) ?_
        exact kt)
      clear S622
      have q626 : (Int64.ofNat (own_b0 yn mn dn - 1)) = (Int64.ofNat (own_t yn mn dn)) := congrArg Int64.ofNat (own_t1 hm3 hlp).symm
      have S625 : Go p e below s₁ (eF_ted m x) T614 (mkF m 147 #[vR x, vJ (Int64.ofNat yn), .second, vJ (Int64.ofNat mn), .second, vJ (Int64.ofNat (own_t yn mn dn)), .second] []) := by have h := S624; rw [q626] at h; exact h
      clear S624
      have S627 : Go p e below s₁ (eF_ted m x) T614 (mkF m 153 #[vR x, vJ (Int64.ofNat yn), .second, vJ (Int64.ofNat mn), .second, vJ (Int64.ofNat (own_t yn mn dn)), .second] [(.long ((Int64.ofNat (own_t yn mn dn)) - (719528 : Int64)))]) := fun t kt => S625 t (by
        refine XS.lload X614.here hx rfl (hb hby d38_147) rfl ?_
        refine X614.ldc2Long hx hown (mvT hZ (own_h hw 257 rfl)) (g := (mkF m 149 #[vR x, vJ (Int64.ofNat yn), .second, vJ (Int64.ofNat mn), .second, vJ (Int64.ofNat (own_t yn mn dn)), .second] [(.long (Int64.ofNat (own_t yn mn dn)))])) rfl (hb hby d38_149) _ ?_
        show Sp p e below T614 (mkF m 152 #[vR x, vJ (Int64.ofNat yn), .second, vJ (Int64.ofNat mn), .second, vJ (Int64.ofNat (own_t yn mn dn)), .second] [(.long (719528 : Int64)), (.long (Int64.ofNat (own_t yn mn dn)))]) _
        refine XS.lsub X614.here hx rfl (hb hby d38_152) rfl ?_
        exact kt)
      clear S625
      obtain ⟨fs, hr, hrun, hended, hW, hsame⟩ := X614.leave (v := some (.long ((Int64.ofNat (own_t yn mn dn)) - (719528 : Int64)))) (fun h => by first | rfl | (rw [Bd.returns] at h; cases h))
      refine ⟨_, _, S627 _ ?_, hrun, hended, _, _, rfl, ?_, ⟨_, rfl⟩, hW, hsame.mono (by decide) (by decide)⟩
      · exact retOut X614 hx Bd.returns rfl (Or.inr (Or.inl ⟨rfl, rfl, _, rfl⟩)) (hb hby d38_153) hr
      · show Q_ted Z yn mn dn h0 n0 _ T614.heap _
        rw [e614]
        exact ⟨rfl, N614, rfl⟩
  · have ht : own_t yn mn dn = own_b0 yn mn dn := own_t0 (fun q => h2 (own_lcg.mpr (by rw [own_toJ (by omega), show (2 : Int64).toInt = 2 from rfl]; omega)))
    have S610 : Go p e below s₁ (eF_ted m x) T604 (mkF m 153 #[vR x, vJ (Int64.ofNat yn), .second, vJ (Int64.ofNat mn), .second, vJ (Int64.ofNat (own_b0 yn mn dn)), .second] [(.long ((Int64.ofNat (own_b0 yn mn dn)) - (719528 : Int64)))]) := fun t kt => S609 t (by
      refine XS.ifYes X604.here hx rfl (pc0 := 125) (pc' := 147) rfl (hb hby d38_125) rfl ((if0 _ _).trans (flt (show ¬ ((0 : Int32) < (lcmpW (Int64.ofNat mn) (2 : Int64))) from h2)).2.2.2) (by decide) (by decide) ?_
      refine XS.lload X604.here hx rfl (hb hby d38_147) rfl ?_
      show Sp p e below T604 (mkF m 149 #[vR x, vJ (Int64.ofNat yn), .second, vJ (Int64.ofNat mn), .second, vJ (Int64.ofNat (own_b0 yn mn dn)), .second] [(.long (Int64.ofNat (own_b0 yn mn dn)))]) _
      refine X604.ldc2Long hx hown (mvT hZ (own_h hw 257 rfl)) (g := (mkF m 149 #[vR x, vJ (Int64.ofNat yn), .second, vJ (Int64.ofNat mn), .second, vJ (Int64.ofNat (own_b0 yn mn dn)), .second] [(.long (Int64.ofNat (own_b0 yn mn dn)))])) rfl (hb hby d38_149) _ ?_
      refine XS.lsub X604.here hx rfl (hb hby d38_152) rfl ?_
      show Sp p e below T604 (mkF m 153 #[vR x, vJ (Int64.ofNat yn), .second, vJ (Int64.ofNat mn), .second, vJ (Int64.ofNat (own_b0 yn mn dn)), .second] [(.long ((Int64.ofNat (own_b0 yn mn dn)) - (719528 : Int64)))]) _
      exact kt)
    clear S609
    obtain ⟨fs, hr, hrun, hended, hW, hsame⟩ := X604.leave (v := some (.long ((Int64.ofNat (own_b0 yn mn dn)) - (719528 : Int64)))) (fun h => by first | rfl | (rw [Bd.returns] at h; cases h))
    refine ⟨_, _, S610 _ ?_, hrun, hended, _, _, rfl, ?_, ⟨_, rfl⟩, hW, hsame.mono (by decide) (by decide)⟩
    · exact retOut X604 hx Bd.returns rfl (Or.inr (Or.inl ⟨rfl, rfl, _, rfl⟩)) (hb hby d38_153) hr
    · show Q_ted Z yn mn dn h0 n0 _ T604.heap _
      rw [e604]
      exact ⟨by rw [ht], N0, rfl⟩
abbrev eF_ts0 (m : MethodId) (x0 : Addr) (x1 : Addr) (x2 : Addr) : JFrame := entryFrame m #[(.ref x0), (.ref x1), (.ref x2)] 5
theorem ef_ts0 (m : MethodId) (x0 : Addr) (x1 : Addr) (x2 : Addr) : entryFrame m #[(.ref x0), (.ref x1), (.ref x2)] 5 = mkF m 0 #[.val (.ref x0), .val (.ref x1), .val (.ref x2), .unset, .unset] [] := by first | (simp [entryFrame, mkF, argsToLocals, Value.category]; done) | rfl
theorem pn_ts0 : plainName "com/example/tranchery/tranchery/journal/Timeline" = true := by first | (simp [plainName, overriddenIn]; done) | decide +kernel
def Q_ts0 (Z : State) (x : Addr) (dt : Addr) (rl : Addr) (da : Addr) (fa : Addr) (va : Addr) (kd : ClassId) (kf : ClassId) (kv : ClassId) (yn : Nat) (mn : Nat) (dn : Nat) (h0 : Heap) (n0 : Nat) (v : Option Value) (h : Heap) (L : List Loc) : Prop := v = none ∧ Fr n0 L ∧ Keep h0 h [x, da, fa, va] ∧ Exa Z h x "com/example/tranchery/tranchery/journal/Timeline" ∧ Fld Z h x "com/example/tranchery/tranchery/journal/Timeline" "days" "[J" (.ref da) ∧ Fld Z h x "com/example/tranchery/tranchery/journal/Timeline" "firstDays" "[Ljava/time/LocalDate;" (.ref fa) ∧ Fld Z h x "com/example/tranchery/tranchery/journal/Timeline" "values" "[Ljava/lang/Object;" (.ref va) ∧ Fld Z h x "com/example/tranchery/tranchery/journal/Timeline" "size" "I" (.int (1 : Int32)) ∧ Arv Z h da kd .long (4 : Int32) [(.long (Int64.ofNat (own_t yn mn dn) - (719528 : Int64))), (.long (0 : Int64)), (.long (0 : Int64)), (.long (0 : Int64))] (.long (0 : Int64)) ∧ Arv Z h fa kf (.object "java/time/LocalDate") (4 : Int32) [(.ref dt), .null, .null, .null] .null ∧ Arv Z h va kv (.object "java/lang/Object") (4 : Int32) [(.ref rl), .null, .null, .null] .null ∧ Ovr Z kf "java/time/LocalDate" ∧ Ovr Z kv "java/lang/Object"
set_option maxRecDepth 65536 in
set_option maxHeartbeats 40000000 in
theorem rm_ts0 (l : Launch) (Z : State) (a0 : Array Value) (hw : ∀ d ∈ tables_1, d.before a0 Z = true) (ws : List Jvm.Cond) (x : Addr) (dt : Addr) (rl : Addr) (da : Addr) (fa : Addr) (va : Addr) (kd : ClassId) (kf : ClassId) (kv : ClassId) (yn : Nat) (mn : Nat) (dn : Nat) (h0 : Heap) (n0 : Nat) (Z0 : n0 ≤ h0.size) (SS : own_St Z) (O0 : Old Z n0 h0)(ET : Exa Z h0 x "com/example/tranchery/tranchery/journal/Timeline") (FdT : Fld Z h0 x "com/example/tranchery/tranchery/journal/Timeline" "days" "[J" (.ref da)) (FfT : Fld Z h0 x "com/example/tranchery/tranchery/journal/Timeline" "firstDays" "[Ljava/time/LocalDate;" (.ref fa)) (FvT : Fld Z h0 x "com/example/tranchery/tranchery/journal/Timeline" "values" "[Ljava/lang/Object;" (.ref va)) (FzT : Fld Z h0 x "com/example/tranchery/tranchery/journal/Timeline" "size" "I" (.int (0 : Int32))) (VdT : Arv Z h0 da kd .long (4 : Int32) [(.long (0 : Int64)), (.long (0 : Int64)), (.long (0 : Int64)), (.long (0 : Int64))] (.long (0 : Int64))) (VfT : Arv Z h0 fa kf (.object "java/time/LocalDate") (4 : Int32) [.null, .null, .null, .null] .null) (VvT : Arv Z h0 va kv (.object "java/lang/Object") (4 : Int32) [.null, .null, .null, .null] .null) (OfT : Ovr Z kf "java/time/LocalDate") (OvT : Ovr Z kv "java/lang/Object")(Ex : Exa Z h0 dt "java/time/LocalDate") (Fy : Fld Z h0 dt "java/time/LocalDate" "year" "I" (.int (Int32.ofNat yn))) (Fm : Fld Z h0 dt "java/time/LocalDate" "month" "S" (.int (Int32.ofNat mn))) (Fd : Fld Z h0 dt "java/time/LocalDate" "day" "S" (.int (Int32.ofNat dn))) (Erl : Exa Z h0 rl "com/example/tranchery/tranchery/journal/BusinessDays") (nxd : x ≠ da) (nxf : x ≠ fa) (nxv : x ≠ va) (ndf : da ≠ fa) (ndv : da ≠ va) (nfv : fa ≠ va) (ntd : dt ≠ da) (ntf : dt ≠ fa) (ntv : dt ≠ va) (ntx : dt ≠ x) (nrd : rl ≠ da) (nrf : rl ≠ fa) (nrv : rl ≠ va) (nrx : rl ≠ x) (g_x : n0 ≤ x) (g_da : n0 ≤ da) (g_fa : n0 ≤ fa) (g_va : n0 ≤ va)(hy : yn ≤ 9999) (hm : 1 ≤ mn) (hm2 : mn ≤ 12) (hd : 1 ≤ dn) (hd2 : dn ≤ 28) :
    MetFree l (⟨"com/example/tranchery/tranchery/journal/Timeline", "set", "(Ljava/time/LocalDate;Ljava/lang/Object;)V"⟩ : MethodName) (head1 (Jvm.Cond.code (⟨"com/example/tranchery/tranchery/journal/Timeline", "set", "(Ljava/time/LocalDate;Ljava/lang/Object;)V"⟩ : MethodName) prog_91_method_2_code 5 none :: ws) ({ frames := 3, cells := 0, slots := 0, locals := 44 } : Room)) (fun aa U => aa = #[(.ref x), (.ref dt), (.ref rl)] ∧ Z.Warmed39 U.vm ∧ U.heap = h0) (fun _ _ _ _ _ => True) (fun _ U o U' => ∃ v L, o = .returned v ∧ Q_ts0 Z x dt rl da fa va kd kf kv yn mn dn h0 n0 v U'.heap L ∧ FrameEnd U o U' L ({ frames := 3, cells := 0, slots := 0, locals := 44 } : Room).cells ({ frames := 3, cells := 0, slots := 0, locals := 44 } : Room).slots) := by
  refine MetFree.of_bodySF (plainFor_of_name pn_ts0) hisR ?_
  intro p e s m args below meth c s₁ Bd hml0 hP hK
  obtain ⟨rfl, hZ, hh⟩ := hP
  have hx := Bd.exec
  have hby := Bd.bytes
  have hml : c.maxLocals = 5 := hml0
  have hown : s.vm.findClass "com/example/tranchery/tranchery/journal/Timeline" = some m.cls := findClass_of_methodNamed Bd.named
  have hnm := (name_of_methodNamed Bd.named Bd.method).1
  have X0 : Stand p l e ({ frames := 3, cells := 0, slots := 0, locals := 44 } : Room) s m #[(.ref x), (.ref dt), (.ref rl)] below meth c s₁ [] 0 0 := Stand.of_body Bd
  have e0 : s₁.heap = h0 := by rw [← hh, Bd.state]; rfl
  have N0 := Fr.nil n0
  have S0 : Go p e below s₁ (eF_ts0 m x dt rl) s₁ (mkF m 0 #[vR x, vR dt, vR rl, vU, vU] []) := fun t k => castTop (ef_ts0 m x dt rl) k
  obtain ⟨⟨cz, S_cs, hcz⟩, ⟨fm, S_fm, hfm⟩, ⟨yr, yrr, S_yr, E_yr, F_yr, E_yrr, L_yr, H_yr⟩, ⟨mr, mrr, S_mr, E_mr, F_mr, E_mrr, L_mr, H_mr⟩, ⟨dr, drr, S_dr, E_dr, F_dr, E_drr, L_dr, H_dr⟩, ⟨iso, S_is, E_is⟩, ⟨em, el, kel, S_em, E_em, F_em, V_em⟩, ⟨nr, S_nr⟩, ⟨nk, S_nk⟩⟩ := id SS
  have S628 : Go p e below s₁ (eF_ts0 m x dt rl) s₁ (mkF m 1 #[vR x, vR dt, vR rl, vU, vU] [(.ref dt)]) := fun t kt => S0 t (by
    refine XS.aloadN X0.here hx rfl (hb hby d37_0) rfl rfl ?_
    exact kt)
  clear S0
  obtain ⟨cq629, kq629, q629a, q629b, q629c⟩ := isOf hZ e0 Ex
  obtain ⟨v629, T629, L629, X629, hQ629, st629⟩ := own_outV (X0.virtualBack hx (y := (⟨"java/time/LocalDate", "toEpochDay", "()J"⟩ : MethodName)) (z := (⟨"java/time/LocalDate", "toEpochDay", "()J"⟩ : MethodName)) hown (mvT hZ (own_h hw 226 rfl)) (mvT hZ (own_h hw 227 rfl)) (notFace_of_selects (args := #[]) (mvT hZ (own_h hw 229 rfl))) (mvT hZ (own_h hw 229 rfl)) (mvT hZ (own_h hw 228 rfl)) (by decide) (backOf (W := 0) (rm_ted l Z a0 hw [] dt yn mn dn h0 n0 Z0 SS O0 Ex Fy Fm Fd hy hm hm2 hd hd2) hZ (own_h hw 230 rfl) (own_h hw 85 rfl) (by decide) (by decide)) q629a q629c (g := (mkF m 1 #[vR x, vR dt, vR rl, vU, vU] [(.ref dt)])) rfl (by rw [hml]; rfl) (Steps.refl _) (argsL := []) (rest := []) (lenOf pd___J rfl) rfl (by show 2 * 0 + _ ≤ _; exact Nat.le_of_eq rfl) (hb hby d37_1) (fun _ _ => ⟨rfl, e0, (by decide : 0 + 0 ≤ _), (by decide : 0 + 0 ≤ _)⟩))
  obtain ⟨rfl, N629q, e629⟩ := hQ629
  have N629 := Fr.app N0 N629q
  have S630 : Go p e below s₁ (eF_ts0 m x dt rl) T629 (mkF m 4 #[vR x, vR dt, vR rl, vU, vU] [(.long (Int64.ofNat (own_t yn mn dn) - (719528 : Int64)))]) := fun t kt => S628 t (st629 t kt)
  clear S628 st629 X0 e0
  have S631 : Go p e below s₁ (eF_ts0 m x dt rl) T629 (mkF m 6 #[vR x, vR dt, vR rl, vJ (Int64.ofNat (own_t yn mn dn) - (719528 : Int64)), .second] [(.ref x)]) := fun t kt => S630 t (by
    refine XS.lstoreN X629.here hx rfl (hb hby d37_4) rfl (l' := #[vR x, vR dt, vR rl, vJ (Int64.ofNat (own_t yn mn dn) - (719528 : Int64)), .second]) rfl ?_
    refine XS.aloadN X629.here hx rfl (hb hby d37_5) rfl rfl ?_
    show Sp p e below T629 (mkF m 6 #[vR x, vR dt, vR rl, vJ (Int64.ofNat (own_t yn mn dn) - (719528 : Int64)), .second] [(.ref x)]) _
    exact kt)
  clear S630
  obtain ⟨T632, X632, e632, st632⟩ := getF X629 hx hZ hown (host := "") (Or.inl (own_h hw 214 rfl)) Via.refl e629 FzT (g := (mkF m 6 #[vR x, vR dt, vR rl, vJ (Int64.ofNat (own_t yn mn dn) - (719528 : Int64)), .second] [(.ref x)])) rfl rfl (hb hby d37_6)
  have S633 : Go p e below s₁ (eF_ts0 m x dt rl) T632 (mkF m 9 #[vR x, vR dt, vR rl, vJ (Int64.ofNat (own_t yn mn dn) - (719528 : Int64)), .second] [(.int (0 : Int32))]) := fun t kt => S631 t (st632 t kt)
  clear S631 st632 X629 e629
  have S634 : Go p e below s₁ (eF_ts0 m x dt rl) T632 (mkF m 60 #[vR x, vR dt, vR rl, vJ (Int64.ofNat (own_t yn mn dn) - (719528 : Int64)), .second] [(.ref x)]) := fun t kt => S633 t (by
    refine XS.ifYes X632.here hx rfl (pc0 := 9) (pc' := 59) rfl (hb hby d37_9) rfl ((if0 _ _).trans (flt (show ¬ ((0 : Int32) < (0 : Int32)) from (by decide))).2.2.2) (by decide) (by decide) ?_
    refine XS.aloadN X632.here hx rfl (hb hby d37_59) rfl rfl ?_
    show Sp p e below T632 (mkF m 60 #[vR x, vR dt, vR rl, vJ (Int64.ofNat (own_t yn mn dn) - (719528 : Int64)), .second] [(.ref x)]) _
    exact kt)
  clear S633
  obtain ⟨T635, X635, e635, st635⟩ := getF X632 hx hZ hown (host := "") (Or.inl (own_h hw 214 rfl)) Via.refl e632 FzT (g := (mkF m 60 #[vR x, vR dt, vR rl, vJ (Int64.ofNat (own_t yn mn dn) - (719528 : Int64)), .second] [(.ref x)])) rfl rfl (hb hby d37_60)
  have S636 : Go p e below s₁ (eF_ts0 m x dt rl) T635 (mkF m 63 #[vR x, vR dt, vR rl, vJ (Int64.ofNat (own_t yn mn dn) - (719528 : Int64)), .second] [(.int (0 : Int32))]) := fun t kt => S634 t (st635 t kt)
  clear S634 st635 X632 e632
  have S637 : Go p e below s₁ (eF_ts0 m x dt rl) T635 (mkF m 96 #[vR x, vR dt, vR rl, vJ (Int64.ofNat (own_t yn mn dn) - (719528 : Int64)), .second] [(.ref x)]) := fun t kt => S636 t (by
    refine XS.ifYes X635.here hx rfl (pc0 := 63) (pc' := 95) rfl (hb hby d37_63) rfl ((if0 _ _).trans (flt (show ¬ ((0 : Int32) < (0 : Int32)) from (by decide))).2.2.2) (by decide) (by decide) ?_
    refine XS.aloadN X635.here hx rfl (hb hby d37_95) rfl rfl ?_
    show Sp p e below T635 (mkF m 96 #[vR x, vR dt, vR rl, vJ (Int64.ofNat (own_t yn mn dn) - (719528 : Int64)), .second] [(.ref x)]) _
    exact kt)
  clear S636
  obtain ⟨T638, X638, e638, st638⟩ := getF X635 hx hZ hown (host := "") (Or.inl (own_h hw 214 rfl)) Via.refl e635 FzT (g := (mkF m 96 #[vR x, vR dt, vR rl, vJ (Int64.ofNat (own_t yn mn dn) - (719528 : Int64)), .second] [(.ref x)])) rfl rfl (hb hby d37_96)
  have S639 : Go p e below s₁ (eF_ts0 m x dt rl) T638 (mkF m 99 #[vR x, vR dt, vR rl, vJ (Int64.ofNat (own_t yn mn dn) - (719528 : Int64)), .second] [(.int (0 : Int32))]) := fun t kt => S637 t (st638 t kt)
  clear S637 st638 X635 e635
  have S640 : Go p e below s₁ (eF_ts0 m x dt rl) T638 (mkF m 100 #[vR x, vR dt, vR rl, vJ (Int64.ofNat (own_t yn mn dn) - (719528 : Int64)), .second] [(.ref x), (.int (0 : Int32))]) := fun t kt => S639 t (by
    refine XS.aloadN X638.here hx rfl (hb hby d37_99) rfl rfl ?_
    exact kt)
  clear S639
  obtain ⟨T641, X641, e641, st641⟩ := getF X638 hx hZ hown (host := "") (Or.inl (own_h hw 192 rfl)) Via.refl e638 FdT (g := (mkF m 100 #[vR x, vR dt, vR rl, vJ (Int64.ofNat (own_t yn mn dn) - (719528 : Int64)), .second] [(.ref x), (.int (0 : Int32))])) rfl rfl (hb hby d37_100)
  have S642 : Go p e below s₁ (eF_ts0 m x dt rl) T641 (mkF m 103 #[vR x, vR dt, vR rl, vJ (Int64.ofNat (own_t yn mn dn) - (719528 : Int64)), .second] [(.ref da), (.int (0 : Int32))]) := fun t kt => S640 t (st641 t kt)
  clear S640 st641 X638 e638
  obtain ⟨co643, Ao643, qo643, So643, No643, Ho643, Go643⟩ := id VdT
  have S644 : Go p e below s₁ (eF_ts0 m x dt rl) T641 (mkF m 162 #[vR x, vR dt, vR rl, vJ (Int64.ofNat (own_t yn mn dn) - (719528 : Int64)), .second] [(.ref x)]) := fun t kt => S642 t (by
    refine X641.arraylength hx (by rw [e641]; exact Ao643.1) (State.isArrayOf_alike hZ.alike Ao643.2.1) (g := (mkF m 103 #[vR x, vR dt, vR rl, vJ (Int64.ofNat (own_t yn mn dn) - (719528 : Int64)), .second] [(.ref da), (.int (0 : Int32))])) rfl rfl (hb hby d37_103) _ ?_
    rw [len_of So643 No643]
    show Sp p e below T641 (mkF m 104 #[vR x, vR dt, vR rl, vJ (Int64.ofNat (own_t yn mn dn) - (719528 : Int64)), .second] [(.int (4 : Int32)), (.int (0 : Int32))]) _
    refine XS.icmpYes X641.here hx rfl (pc0 := 104) (pc' := 161) rfl (hb hby d37_104) rfl (feq (show ¬ ((0 : Int32) = (4 : Int32)) from (by decide))).2 (by decide) (by decide) ?_
    show Sp p e below T641 (mkF m 161 #[vR x, vR dt, vR rl, vJ (Int64.ofNat (own_t yn mn dn) - (719528 : Int64)), .second] []) _
    refine XS.aloadN X641.here hx rfl (hb hby d37_161) rfl rfl ?_
    exact kt)
  clear S642
  obtain ⟨T645, X645, e645, st645⟩ := getF X641 hx hZ hown (host := "") (Or.inl (own_h hw 192 rfl)) Via.refl e641 FdT (g := (mkF m 162 #[vR x, vR dt, vR rl, vJ (Int64.ofNat (own_t yn mn dn) - (719528 : Int64)), .second] [(.ref x)])) rfl rfl (hb hby d37_162)
  have S646 : Go p e below s₁ (eF_ts0 m x dt rl) T645 (mkF m 165 #[vR x, vR dt, vR rl, vJ (Int64.ofNat (own_t yn mn dn) - (719528 : Int64)), .second] [(.ref da)]) := fun t kt => S644 t (st645 t kt)
  clear S644 st645 X641 e641
  have S647 : Go p e below s₁ (eF_ts0 m x dt rl) T645 (mkF m 166 #[vR x, vR dt, vR rl, vJ (Int64.ofNat (own_t yn mn dn) - (719528 : Int64)), .second] [(.ref x), (.ref da)]) := fun t kt => S646 t (by
    refine XS.aloadN X645.here hx rfl (hb hby d37_165) rfl rfl ?_
    exact kt)
  clear S646
  obtain ⟨T648, X648, e648, st648⟩ := getF X645 hx hZ hown (host := "") (Or.inl (own_h hw 214 rfl)) Via.refl e645 FzT (g := (mkF m 166 #[vR x, vR dt, vR rl, vJ (Int64.ofNat (own_t yn mn dn) - (719528 : Int64)), .second] [(.ref x), (.ref da)])) rfl rfl (hb hby d37_166)
  have S649 : Go p e below s₁ (eF_ts0 m x dt rl) T648 (mkF m 169 #[vR x, vR dt, vR rl, vJ (Int64.ofNat (own_t yn mn dn) - (719528 : Int64)), .second] [(.int (0 : Int32)), (.ref da)]) := fun t kt => S647 t (st648 t kt)
  clear S647 st648 X645 e645
  have S650 : Go p e below s₁ (eF_ts0 m x dt rl) T648 (mkF m 170 #[vR x, vR dt, vR rl, vJ (Int64.ofNat (own_t yn mn dn) - (719528 : Int64)), .second] [(.long (Int64.ofNat (own_t yn mn dn) - (719528 : Int64))), (.int (0 : Int32)), (.ref da)]) := fun t kt => S649 t (by
    refine XS.lloadN X648.here hx rfl (hb hby d37_169) rfl ?_
    exact kt)
  clear S649
  obtain ⟨co651, Ao651, qo651, So651, No651, Ho651, Go651⟩ := id VdT
  have hino651 : ¬ ((0 : Int32) < 0 ∨ co651.slots.size ≤ ((0 : Int32)).toNatClampNeg) := inb_of So651 ⟨by decide, by decide⟩
  obtain ⟨T652, h652, X652, e652, W652, st652⟩ := stJ X648 hx hZ e648 Ao651 (j := (0 : Int32)) hino651 (g := (mkF m 170 #[vR x, vR dt, vR rl, vJ (Int64.ofNat (own_t yn mn dn) - (719528 : Int64)), .second] [(.long (Int64.ofNat (own_t yn mn dn) - (719528 : Int64))), (.int (0 : Int32)), (.ref da)])) rfl rfl (hb hby d37_170)
  have N652 := Fr.snoc X652 N629 g_da
  have K652 : Keep h0 h652 [x, da, fa, va] := (Keep.refl h0 [x, da, fa, va]).wr W652 (Or.inl (by simp))
  have V652 : Arv Z h652 da kd .long (4 : Int32) [(.long (Int64.ofNat (own_t yn mn dn) - (719528 : Int64))), (.long (0 : Int64)), (.long (0 : Int64)), (.long (0 : Int64))] (.long (0 : Int64)) := Arv.set Ao651 qo651 So651 No651 Ho651 Go651 rfl W652 0 rfl (Nat.le_of_ble_eq_true rfl)
  have S653 : Go p e below s₁ (eF_ts0 m x dt rl) T652 (mkF m 171 #[vR x, vR dt, vR rl, vJ (Int64.ofNat (own_t yn mn dn) - (719528 : Int64)), .second] []) := fun t kt => S650 t (st652 t kt)
  clear S650 st652 X648 e648
  have S654 : Go p e below s₁ (eF_ts0 m x dt rl) T652 (mkF m 172 #[vR x, vR dt, vR rl, vJ (Int64.ofNat (own_t yn mn dn) - (719528 : Int64)), .second] [(.ref x)]) := fun t kt => S653 t (by
    refine XS.aloadN X652.here hx rfl (hb hby d37_171) rfl rfl ?_
    exact kt)
  clear S653
  have f655 := (FfT.other W652 (Or.inl nxd))
  obtain ⟨T656, X656, e656, st656⟩ := getF X652 hx hZ hown (host := "") (Or.inl (own_h hw 196 rfl)) Via.refl e652 f655 (g := (mkF m 172 #[vR x, vR dt, vR rl, vJ (Int64.ofNat (own_t yn mn dn) - (719528 : Int64)), .second] [(.ref x)])) rfl rfl (hb hby d37_172)
  have S657 : Go p e below s₁ (eF_ts0 m x dt rl) T656 (mkF m 175 #[vR x, vR dt, vR rl, vJ (Int64.ofNat (own_t yn mn dn) - (719528 : Int64)), .second] [(.ref fa)]) := fun t kt => S654 t (st656 t kt)
  clear S654 st656 X652 e652
  have S658 : Go p e below s₁ (eF_ts0 m x dt rl) T656 (mkF m 176 #[vR x, vR dt, vR rl, vJ (Int64.ofNat (own_t yn mn dn) - (719528 : Int64)), .second] [(.ref x), (.ref fa)]) := fun t kt => S657 t (by
    refine XS.aloadN X656.here hx rfl (hb hby d37_175) rfl rfl ?_
    exact kt)
  clear S657
  have f659 := (FzT.other W652 (Or.inl nxd))
  obtain ⟨T660, X660, e660, st660⟩ := getF X656 hx hZ hown (host := "") (Or.inl (own_h hw 214 rfl)) Via.refl e656 f659 (g := (mkF m 176 #[vR x, vR dt, vR rl, vJ (Int64.ofNat (own_t yn mn dn) - (719528 : Int64)), .second] [(.ref x), (.ref fa)])) rfl rfl (hb hby d37_176)
  have S661 : Go p e below s₁ (eF_ts0 m x dt rl) T660 (mkF m 179 #[vR x, vR dt, vR rl, vJ (Int64.ofNat (own_t yn mn dn) - (719528 : Int64)), .second] [(.int (0 : Int32)), (.ref fa)]) := fun t kt => S658 t (st660 t kt)
  clear S658 st660 X656 e656
  have S662 : Go p e below s₁ (eF_ts0 m x dt rl) T660 (mkF m 180 #[vR x, vR dt, vR rl, vJ (Int64.ofNat (own_t yn mn dn) - (719528 : Int64)), .second] [(.ref dt), (.int (0 : Int32)), (.ref fa)]) := fun t kt => S661 t (by
    refine XS.aloadN X660.here hx rfl (hb hby d37_179) rfl rfl ?_
    exact kt)
  clear S661
  have f663 := (VfT.other W652 (Ne.symm ndf))
  obtain ⟨co664, Ao664, qo664, So664, No664, Ho664, Go664⟩ := id f663
  have hino664 : ¬ ((0 : Int32) < 0 ∨ co664.slots.size ≤ ((0 : Int32)).toNatClampNeg) := inb_of So664 ⟨by decide, by decide⟩
  have f665 := (Ex.wr W652)
  obtain ⟨T666, h666, X666, e666, W666, st666⟩ := stR X660 hx hZ e660 Ao664 (j := (0 : Int32)) hino664 rfl (Sto.ofV Ao664 qo664 OfT (Ins.self f665)) (g := (mkF m 180 #[vR x, vR dt, vR rl, vJ (Int64.ofNat (own_t yn mn dn) - (719528 : Int64)), .second] [(.ref dt), (.int (0 : Int32)), (.ref fa)])) rfl rfl (hb hby d37_180)
  have N666 := Fr.snoc X666 N652 g_fa
  have K666 : Keep h0 h666 [x, da, fa, va] := K652.wr W666 (Or.inl (by simp))
  have V666 : Arv Z h666 fa kf (.object "java/time/LocalDate") (4 : Int32) [(.ref dt), .null, .null, .null] .null := Arv.set Ao664 qo664 So664 No664 Ho664 Go664 rfl W666 0 rfl (Nat.le_of_ble_eq_true rfl)
  have S667 : Go p e below s₁ (eF_ts0 m x dt rl) T666 (mkF m 181 #[vR x, vR dt, vR rl, vJ (Int64.ofNat (own_t yn mn dn) - (719528 : Int64)), .second] []) := fun t kt => S662 t (st666 t kt)
  clear S662 st666 X660 e660
  have S668 : Go p e below s₁ (eF_ts0 m x dt rl) T666 (mkF m 182 #[vR x, vR dt, vR rl, vJ (Int64.ofNat (own_t yn mn dn) - (719528 : Int64)), .second] [(.ref x)]) := fun t kt => S667 t (by
    refine XS.aloadN X666.here hx rfl (hb hby d37_181) rfl rfl ?_
    exact kt)
  clear S667
  have f669 := ((FvT.other W652 (Or.inl nxd)).other W666 (Or.inl nxf))
  obtain ⟨T670, X670, e670, st670⟩ := getF X666 hx hZ hown (host := "") (Or.inl (own_h hw 200 rfl)) Via.refl e666 f669 (g := (mkF m 182 #[vR x, vR dt, vR rl, vJ (Int64.ofNat (own_t yn mn dn) - (719528 : Int64)), .second] [(.ref x)])) rfl rfl (hb hby d37_182)
  have S671 : Go p e below s₁ (eF_ts0 m x dt rl) T670 (mkF m 185 #[vR x, vR dt, vR rl, vJ (Int64.ofNat (own_t yn mn dn) - (719528 : Int64)), .second] [(.ref va)]) := fun t kt => S668 t (st670 t kt)
  clear S668 st670 X666 e666
  have S672 : Go p e below s₁ (eF_ts0 m x dt rl) T670 (mkF m 186 #[vR x, vR dt, vR rl, vJ (Int64.ofNat (own_t yn mn dn) - (719528 : Int64)), .second] [(.ref x), (.ref va)]) := fun t kt => S671 t (by
    refine XS.aloadN X670.here hx rfl (hb hby d37_185) rfl rfl ?_
    exact kt)
  clear S671
  have f673 := (f659.other W666 (Or.inl nxf))
  obtain ⟨T674, X674, e674, st674⟩ := getF X670 hx hZ hown (host := "") (Or.inl (own_h hw 214 rfl)) Via.refl e670 f673 (g := (mkF m 186 #[vR x, vR dt, vR rl, vJ (Int64.ofNat (own_t yn mn dn) - (719528 : Int64)), .second] [(.ref x), (.ref va)])) rfl rfl (hb hby d37_186)
  have S675 : Go p e below s₁ (eF_ts0 m x dt rl) T674 (mkF m 189 #[vR x, vR dt, vR rl, vJ (Int64.ofNat (own_t yn mn dn) - (719528 : Int64)), .second] [(.int (0 : Int32)), (.ref va)]) := fun t kt => S672 t (st674 t kt)
  clear S672 st674 X670 e670
  have S676 : Go p e below s₁ (eF_ts0 m x dt rl) T674 (mkF m 190 #[vR x, vR dt, vR rl, vJ (Int64.ofNat (own_t yn mn dn) - (719528 : Int64)), .second] [(.ref rl), (.int (0 : Int32)), (.ref va)]) := fun t kt => S675 t (by
    refine XS.aloadN X674.here hx rfl (hb hby d37_189) rfl rfl ?_
    exact kt)
  clear S675
  have f677 := ((VvT.other W652 (Ne.symm ndv)).other W666 (Ne.symm nfv))
  obtain ⟨co678, Ao678, qo678, So678, No678, Ho678, Go678⟩ := id f677
  have hino678 : ¬ ((0 : Int32) < 0 ∨ co678.slots.size ≤ ((0 : Int32)).toNatClampNeg) := inb_of So678 ⟨by decide, by decide⟩
  have f679 := ((Erl.wr W652).wr W666)
  obtain ⟨T680, h680, X680, e680, W680, st680⟩ := stR X674 hx hZ e674 Ao678 (j := (0 : Int32)) hino678 rfl (Sto.ofV Ao678 qo678 OvT (Ins.of_exa f679 (own_h hw 258 rfl))) (g := (mkF m 190 #[vR x, vR dt, vR rl, vJ (Int64.ofNat (own_t yn mn dn) - (719528 : Int64)), .second] [(.ref rl), (.int (0 : Int32)), (.ref va)])) rfl rfl (hb hby d37_190)
  have N680 := Fr.snoc X680 N666 g_va
  have K680 : Keep h0 h680 [x, da, fa, va] := K666.wr W680 (Or.inl (by simp))
  have V680 : Arv Z h680 va kv (.object "java/lang/Object") (4 : Int32) [(.ref rl), .null, .null, .null] .null := Arv.set Ao678 qo678 So678 No678 Ho678 Go678 rfl W680 0 rfl (Nat.le_of_ble_eq_true rfl)
  have S681 : Go p e below s₁ (eF_ts0 m x dt rl) T680 (mkF m 191 #[vR x, vR dt, vR rl, vJ (Int64.ofNat (own_t yn mn dn) - (719528 : Int64)), .second] []) := fun t kt => S676 t (st680 t kt)
  clear S676 st680 X674 e674
  have S682 : Go p e below s₁ (eF_ts0 m x dt rl) T680 (mkF m 193 #[vR x, vR dt, vR rl, vJ (Int64.ofNat (own_t yn mn dn) - (719528 : Int64)), .second] [(.ref x), (.ref x)]) := fun t kt => S681 t (by
    refine XS.aloadN X680.here hx rfl (hb hby d37_191) rfl rfl ?_
    refine XS.dup X680.here hx rfl (hb hby d37_192) rfl rfl ?_
    show Sp p e below T680 (mkF m 193 #[vR x, vR dt, vR rl, vJ (Int64.ofNat (own_t yn mn dn) - (719528 : Int64)), .second] [(.ref x), (.ref x)]) _
    exact kt)
  clear S681
  have f683 := (f673.other W680 (Or.inl nxv))
  obtain ⟨T684, X684, e684, st684⟩ := getF X680 hx hZ hown (host := "") (Or.inl (own_h hw 214 rfl)) Via.refl e680 f683 (g := (mkF m 193 #[vR x, vR dt, vR rl, vJ (Int64.ofNat (own_t yn mn dn) - (719528 : Int64)), .second] [(.ref x), (.ref x)])) rfl rfl (hb hby d37_193)
  have S685 : Go p e below s₁ (eF_ts0 m x dt rl) T684 (mkF m 196 #[vR x, vR dt, vR rl, vJ (Int64.ofNat (own_t yn mn dn) - (719528 : Int64)), .second] [(.int (0 : Int32)), (.ref x)]) := fun t kt => S682 t (st684 t kt)
  clear S682 st684 X680 e680
  have S686 : Go p e below s₁ (eF_ts0 m x dt rl) T684 (mkF m 198 #[vR x, vR dt, vR rl, vJ (Int64.ofNat (own_t yn mn dn) - (719528 : Int64)), .second] [(.int ((0 : Int32) + (1 : Int32))), (.ref x)]) := fun t kt => S685 t (by
    refine XS.iconst X684.here hx rfl (hb hby d37_196) ?_
    refine XS.iadd X684.here hx rfl (hb hby d37_197) rfl ?_
    show Sp p e below T684 (mkF m 198 #[vR x, vR dt, vR rl, vJ (Int64.ofNat (own_t yn mn dn) - (719528 : Int64)), .second] [(.int ((0 : Int32) + (1 : Int32))), (.ref x)]) _
    exact kt)
  clear S685
  have q688 : ((0 : Int32) + (1 : Int32)) = (1 : Int32) := by decide
  have S687 : Go p e below s₁ (eF_ts0 m x dt rl) T684 (mkF m 198 #[vR x, vR dt, vR rl, vJ (Int64.ofNat (own_t yn mn dn) - (719528 : Int64)), .second] [(.int (1 : Int32)), (.ref x)]) := by have h := S686; rw [q688] at h; exact h
  clear S686
  have f689 := (((ET.wr W652).wr W666).wr W680)
  obtain ⟨T690, h690, X690, e690, W690, st690⟩ := putF X684 hx hZ hown (host := "") (Or.inl (own_h hw 214 rfl)) Via.refl e684 f683 f689 (Or.inl (own_h hw 215 rfl)) (own_h hw 185 rfl) (ty := .int) (by decide) rfl rfl (g := (mkF m 198 #[vR x, vR dt, vR rl, vJ (Int64.ofNat (own_t yn mn dn) - (719528 : Int64)), .second] [(.int (1 : Int32)), (.ref x)])) rfl rfl (hb hby d37_198)
  have N690 := Fr.snoc X690 N680 g_x
  have K690 : Keep h0 h690 [x, da, fa, va] := K680.wr W690 (Or.inl (by simp))
  have Fw690 := f683.same W690
  have S691 : Go p e below s₁ (eF_ts0 m x dt rl) T690 (mkF m 201 #[vR x, vR dt, vR rl, vJ (Int64.ofNat (own_t yn mn dn) - (719528 : Int64)), .second] []) := fun t kt => S687 t (st690 t kt)
  clear S687 st690 X684 e684
  have f692 := (f689.wr W690)
  have f693 := ((((FdT.other W652 (Or.inl nxd)).other W666 (Or.inl nxf)).other W680 (Or.inl nxv)).other W690 (Or.inr (slot_ne (C := "com/example/tranchery/tranchery/journal/Timeline") (Or.inl (own_h hw 193 rfl)) (Or.inl (own_h hw 215 rfl)) (by decide) (t := (.array .long)) (t' := .int) (by decide) (by decide))))
  have f694 := (((f655.other W666 (Or.inl nxf)).other W680 (Or.inl nxv)).other W690 (Or.inr (slot_ne (C := "com/example/tranchery/tranchery/journal/Timeline") (Or.inl (own_h hw 197 rfl)) (Or.inl (own_h hw 215 rfl)) (by decide) (t := (.array (.object "java/time/LocalDate"))) (t' := .int) (by decide) (by decide))))
  have f695 := ((f669.other W680 (Or.inl nxv)).other W690 (Or.inr (slot_ne (C := "com/example/tranchery/tranchery/journal/Timeline") (Or.inl (own_h hw 201 rfl)) (Or.inl (own_h hw 215 rfl)) (by decide) (t := (.array (.object "java/lang/Object"))) (t' := .int) (by decide) (by decide))))
  have f696 := (((V652.other W666 ndf).other W680 ndv).other W690 (Ne.symm nxd))
  have f697 := ((V666.other W680 nfv).other W690 (Ne.symm nxf))
  have f698 := (V680.other W690 (Ne.symm nxv))
  obtain ⟨fs, hr, hrun, hended, hW, hsame⟩ := X690.leave (v := none) (fun h => by first | rfl | (rw [Bd.returns] at h; cases h))
  refine ⟨_, _, S691 _ ?_, hrun, hended, _, _, rfl, ?_, ⟨_, rfl⟩, hW, hsame.mono (by decide) (by decide)⟩
  · exact X690.returnOut hx Bd.returns (hb hby d37_201) hr
  · show Q_ts0 Z x dt rl da fa va kd kf kv yn mn dn h0 n0 _ T690.heap _
    rw [e690]
    exact ⟨rfl, N690, K690, f692, f693, f694, f695, Fw690, f696, f697, f698, OfT, OvT⟩
abbrev eF_ts1 (m : MethodId) (x0 : Addr) (x1 : Addr) (x2 : Addr) : JFrame := entryFrame m #[(.ref x0), (.ref x1), (.ref x2)] 5
theorem ef_ts1 (m : MethodId) (x0 : Addr) (x1 : Addr) (x2 : Addr) : entryFrame m #[(.ref x0), (.ref x1), (.ref x2)] 5 = mkF m 0 #[.val (.ref x0), .val (.ref x1), .val (.ref x2), .unset, .unset] [] := by first | (simp [entryFrame, mkF, argsToLocals, Value.category]; done) | rfl
theorem pn_ts1 : plainName "com/example/tranchery/tranchery/journal/Timeline" = true := by first | (simp [plainName, overriddenIn]; done) | decide +kernel
def Q_ts1 (Z : State) (x : Addr) (da : Addr) (fa : Addr) (va : Addr) (h0 : Heap) (n0 : Nat) (v : Option Value) (h : Heap) (L : List Loc) : Prop := v = none ∧ Fr n0 L ∧ Keep h0 h [x, da, fa, va] ∧ Exa Z h x "com/example/tranchery/tranchery/journal/Timeline" ∧ (Fld Z h x "com/example/tranchery/tranchery/journal/Timeline" "size" "I" (.int (1 : Int32)) ∨ Fld Z h x "com/example/tranchery/tranchery/journal/Timeline" "size" "I" (.int (2 : Int32)))
set_option maxRecDepth 65536 in
set_option maxHeartbeats 40000000 in
theorem rm_ts1 (l : Launch) (Z : State) (a0 : Array Value) (hw : ∀ d ∈ tables_1, d.before a0 Z = true) (ws : List Jvm.Cond) (x : Addr) (dt : Addr) (rl : Addr) (da : Addr) (fa : Addr) (va : Addr) (kd : ClassId) (kf : ClassId) (kv : ClassId) (yn : Nat) (mn : Nat) (dn : Nat) (r1 : Int64) (d1 : Addr) (e1 : Addr) (h0 : Heap) (n0 : Nat) (Z0 : n0 ≤ h0.size) (SS : own_St Z) (O0 : Old Z n0 h0)(ET : Exa Z h0 x "com/example/tranchery/tranchery/journal/Timeline") (FdT : Fld Z h0 x "com/example/tranchery/tranchery/journal/Timeline" "days" "[J" (.ref da)) (FfT : Fld Z h0 x "com/example/tranchery/tranchery/journal/Timeline" "firstDays" "[Ljava/time/LocalDate;" (.ref fa)) (FvT : Fld Z h0 x "com/example/tranchery/tranchery/journal/Timeline" "values" "[Ljava/lang/Object;" (.ref va)) (FzT : Fld Z h0 x "com/example/tranchery/tranchery/journal/Timeline" "size" "I" (.int (1 : Int32))) (VdT : Arv Z h0 da kd .long (4 : Int32) [(.long r1), (.long (0 : Int64)), (.long (0 : Int64)), (.long (0 : Int64))] (.long (0 : Int64))) (VfT : Arv Z h0 fa kf (.object "java/time/LocalDate") (4 : Int32) [(.ref d1), .null, .null, .null] .null) (VvT : Arv Z h0 va kv (.object "java/lang/Object") (4 : Int32) [(.ref e1), .null, .null, .null] .null) (OfT : Ovr Z kf "java/time/LocalDate") (OvT : Ovr Z kv "java/lang/Object")(Ex : Exa Z h0 dt "java/time/LocalDate") (Fy : Fld Z h0 dt "java/time/LocalDate" "year" "I" (.int (Int32.ofNat yn))) (Fm : Fld Z h0 dt "java/time/LocalDate" "month" "S" (.int (Int32.ofNat mn))) (Fd : Fld Z h0 dt "java/time/LocalDate" "day" "S" (.int (Int32.ofNat dn))) (Erl : Exa Z h0 rl "com/example/tranchery/tranchery/journal/BusinessDays") (nxd : x ≠ da) (nxf : x ≠ fa) (nxv : x ≠ va) (ndf : da ≠ fa) (ndv : da ≠ va) (nfv : fa ≠ va) (ntd : dt ≠ da) (ntf : dt ≠ fa) (ntv : dt ≠ va) (ntx : dt ≠ x) (nrd : rl ≠ da) (nrf : rl ≠ fa) (nrv : rl ≠ va) (nrx : rl ≠ x) (g_x : n0 ≤ x) (g_da : n0 ≤ da) (g_fa : n0 ≤ fa) (g_va : n0 ≤ va)(hy : yn ≤ 9999) (hm : 1 ≤ mn) (hm2 : mn ≤ 12) (hd : 1 ≤ dn) (hd2 : dn ≤ 28)(hge : ¬ lcmpW (Int64.ofNat (own_t yn mn dn) - (719528 : Int64)) r1 < (0 : Int32)) :
    MetFree l (⟨"com/example/tranchery/tranchery/journal/Timeline", "set", "(Ljava/time/LocalDate;Ljava/lang/Object;)V"⟩ : MethodName) (head1 (Jvm.Cond.code (⟨"com/example/tranchery/tranchery/journal/Timeline", "set", "(Ljava/time/LocalDate;Ljava/lang/Object;)V"⟩ : MethodName) prog_91_method_2_code 5 none :: ws) ({ frames := 3, cells := 0, slots := 0, locals := 44 } : Room)) (fun aa U => aa = #[(.ref x), (.ref dt), (.ref rl)] ∧ Z.Warmed39 U.vm ∧ U.heap = h0) (fun _ _ _ _ _ => True) (fun _ U o U' => ∃ v L, o = .returned v ∧ Q_ts1 Z x da fa va h0 n0 v U'.heap L ∧ FrameEnd U o U' L ({ frames := 3, cells := 0, slots := 0, locals := 44 } : Room).cells ({ frames := 3, cells := 0, slots := 0, locals := 44 } : Room).slots) := by
  refine MetFree.of_bodySF (plainFor_of_name pn_ts1) hisR ?_
  intro p e s m args below meth c s₁ Bd hml0 hP hK
  obtain ⟨rfl, hZ, hh⟩ := hP
  have hx := Bd.exec
  have hby := Bd.bytes
  have hml : c.maxLocals = 5 := hml0
  have hown : s.vm.findClass "com/example/tranchery/tranchery/journal/Timeline" = some m.cls := findClass_of_methodNamed Bd.named
  have hnm := (name_of_methodNamed Bd.named Bd.method).1
  have X0 : Stand p l e ({ frames := 3, cells := 0, slots := 0, locals := 44 } : Room) s m #[(.ref x), (.ref dt), (.ref rl)] below meth c s₁ [] 0 0 := Stand.of_body Bd
  have e0 : s₁.heap = h0 := by rw [← hh, Bd.state]; rfl
  have N0 := Fr.nil n0
  have S0 : Go p e below s₁ (eF_ts1 m x dt rl) s₁ (mkF m 0 #[vR x, vR dt, vR rl, vU, vU] []) := fun t k => castTop (ef_ts1 m x dt rl) k
  obtain ⟨⟨cz, S_cs, hcz⟩, ⟨fm, S_fm, hfm⟩, ⟨yr, yrr, S_yr, E_yr, F_yr, E_yrr, L_yr, H_yr⟩, ⟨mr, mrr, S_mr, E_mr, F_mr, E_mrr, L_mr, H_mr⟩, ⟨dr, drr, S_dr, E_dr, F_dr, E_drr, L_dr, H_dr⟩, ⟨iso, S_is, E_is⟩, ⟨em, el, kel, S_em, E_em, F_em, V_em⟩, ⟨nr, S_nr⟩, ⟨nk, S_nk⟩⟩ := id SS
  have S699 : Go p e below s₁ (eF_ts1 m x dt rl) s₁ (mkF m 1 #[vR x, vR dt, vR rl, vU, vU] [(.ref dt)]) := fun t kt => S0 t (by
    refine XS.aloadN X0.here hx rfl (hb hby d37_0) rfl rfl ?_
    exact kt)
  clear S0
  obtain ⟨cq700, kq700, q700a, q700b, q700c⟩ := isOf hZ e0 Ex
  obtain ⟨v700, T700, L700, X700, hQ700, st700⟩ := own_outV (X0.virtualBack hx (y := (⟨"java/time/LocalDate", "toEpochDay", "()J"⟩ : MethodName)) (z := (⟨"java/time/LocalDate", "toEpochDay", "()J"⟩ : MethodName)) hown (mvT hZ (own_h hw 226 rfl)) (mvT hZ (own_h hw 227 rfl)) (notFace_of_selects (args := #[]) (mvT hZ (own_h hw 229 rfl))) (mvT hZ (own_h hw 229 rfl)) (mvT hZ (own_h hw 228 rfl)) (by decide) (backOf (W := 0) (rm_ted l Z a0 hw [] dt yn mn dn h0 n0 Z0 SS O0 Ex Fy Fm Fd hy hm hm2 hd hd2) hZ (own_h hw 230 rfl) (own_h hw 85 rfl) (by decide) (by decide)) q700a q700c (g := (mkF m 1 #[vR x, vR dt, vR rl, vU, vU] [(.ref dt)])) rfl (by rw [hml]; rfl) (Steps.refl _) (argsL := []) (rest := []) (lenOf pd___J rfl) rfl (by show 2 * 0 + _ ≤ _; exact Nat.le_of_eq rfl) (hb hby d37_1) (fun _ _ => ⟨rfl, e0, (by decide : 0 + 0 ≤ _), (by decide : 0 + 0 ≤ _)⟩))
  obtain ⟨rfl, N700q, e700⟩ := hQ700
  have N700 := Fr.app N0 N700q
  have S701 : Go p e below s₁ (eF_ts1 m x dt rl) T700 (mkF m 4 #[vR x, vR dt, vR rl, vU, vU] [(.long (Int64.ofNat (own_t yn mn dn) - (719528 : Int64)))]) := fun t kt => S699 t (st700 t kt)
  clear S699 st700 X0 e0
  have S702 : Go p e below s₁ (eF_ts1 m x dt rl) T700 (mkF m 6 #[vR x, vR dt, vR rl, vJ (Int64.ofNat (own_t yn mn dn) - (719528 : Int64)), .second] [(.ref x)]) := fun t kt => S701 t (by
    refine XS.lstoreN X700.here hx rfl (hb hby d37_4) rfl (l' := #[vR x, vR dt, vR rl, vJ (Int64.ofNat (own_t yn mn dn) - (719528 : Int64)), .second]) rfl ?_
    refine XS.aloadN X700.here hx rfl (hb hby d37_5) rfl rfl ?_
    show Sp p e below T700 (mkF m 6 #[vR x, vR dt, vR rl, vJ (Int64.ofNat (own_t yn mn dn) - (719528 : Int64)), .second] [(.ref x)]) _
    exact kt)
  clear S701
  obtain ⟨T703, X703, e703, st703⟩ := getF X700 hx hZ hown (host := "") (Or.inl (own_h hw 214 rfl)) Via.refl e700 FzT (g := (mkF m 6 #[vR x, vR dt, vR rl, vJ (Int64.ofNat (own_t yn mn dn) - (719528 : Int64)), .second] [(.ref x)])) rfl rfl (hb hby d37_6)
  have S704 : Go p e below s₁ (eF_ts1 m x dt rl) T703 (mkF m 9 #[vR x, vR dt, vR rl, vJ (Int64.ofNat (own_t yn mn dn) - (719528 : Int64)), .second] [(.int (1 : Int32))]) := fun t kt => S702 t (st703 t kt)
  clear S702 st703 X700 e700
  have S705 : Go p e below s₁ (eF_ts1 m x dt rl) T703 (mkF m 14 #[vR x, vR dt, vR rl, vJ (Int64.ofNat (own_t yn mn dn) - (719528 : Int64)), .second] [(.ref x), (.long (Int64.ofNat (own_t yn mn dn) - (719528 : Int64)))]) := fun t kt => S704 t (by
    refine XS.ifNo X703.here hx rfl (hb hby d37_9) rfl ((if0 _ _).trans (tlt (show (0 : Int32) < (1 : Int32) from (by decide))).2.2.2) ?_
    refine XS.lloadN X703.here hx rfl (hb hby d37_12) rfl ?_
    show Sp p e below T703 (mkF m 13 #[vR x, vR dt, vR rl, vJ (Int64.ofNat (own_t yn mn dn) - (719528 : Int64)), .second] [(.long (Int64.ofNat (own_t yn mn dn) - (719528 : Int64)))]) _
    refine XS.aloadN X703.here hx rfl (hb hby d37_13) rfl rfl ?_
    exact kt)
  clear S704
  obtain ⟨T706, X706, e706, st706⟩ := getF X703 hx hZ hown (host := "") (Or.inl (own_h hw 192 rfl)) Via.refl e703 FdT (g := (mkF m 14 #[vR x, vR dt, vR rl, vJ (Int64.ofNat (own_t yn mn dn) - (719528 : Int64)), .second] [(.ref x), (.long (Int64.ofNat (own_t yn mn dn) - (719528 : Int64)))])) rfl rfl (hb hby d37_14)
  have S707 : Go p e below s₁ (eF_ts1 m x dt rl) T706 (mkF m 17 #[vR x, vR dt, vR rl, vJ (Int64.ofNat (own_t yn mn dn) - (719528 : Int64)), .second] [(.ref da), (.long (Int64.ofNat (own_t yn mn dn) - (719528 : Int64)))]) := fun t kt => S705 t (st706 t kt)
  clear S705 st706 X703 e703
  have S708 : Go p e below s₁ (eF_ts1 m x dt rl) T706 (mkF m 18 #[vR x, vR dt, vR rl, vJ (Int64.ofNat (own_t yn mn dn) - (719528 : Int64)), .second] [(.ref x), (.ref da), (.long (Int64.ofNat (own_t yn mn dn) - (719528 : Int64)))]) := fun t kt => S707 t (by
    refine XS.aloadN X706.here hx rfl (hb hby d37_17) rfl rfl ?_
    exact kt)
  clear S707
  obtain ⟨T709, X709, e709, st709⟩ := getF X706 hx hZ hown (host := "") (Or.inl (own_h hw 214 rfl)) Via.refl e706 FzT (g := (mkF m 18 #[vR x, vR dt, vR rl, vJ (Int64.ofNat (own_t yn mn dn) - (719528 : Int64)), .second] [(.ref x), (.ref da), (.long (Int64.ofNat (own_t yn mn dn) - (719528 : Int64)))])) rfl rfl (hb hby d37_18)
  have S710 : Go p e below s₁ (eF_ts1 m x dt rl) T709 (mkF m 21 #[vR x, vR dt, vR rl, vJ (Int64.ofNat (own_t yn mn dn) - (719528 : Int64)), .second] [(.int (1 : Int32)), (.ref da), (.long (Int64.ofNat (own_t yn mn dn) - (719528 : Int64)))]) := fun t kt => S708 t (st709 t kt)
  clear S708 st709 X706 e706
  have S711 : Go p e below s₁ (eF_ts1 m x dt rl) T709 (mkF m 23 #[vR x, vR dt, vR rl, vJ (Int64.ofNat (own_t yn mn dn) - (719528 : Int64)), .second] [(.int ((1 : Int32) - (1 : Int32))), (.ref da), (.long (Int64.ofNat (own_t yn mn dn) - (719528 : Int64)))]) := fun t kt => S710 t (by
    refine XS.iconst X709.here hx rfl (hb hby d37_21) ?_
    refine XS.isub X709.here hx rfl (hb hby d37_22) rfl ?_
    show Sp p e below T709 (mkF m 23 #[vR x, vR dt, vR rl, vJ (Int64.ofNat (own_t yn mn dn) - (719528 : Int64)), .second] [(.int ((1 : Int32) - (1 : Int32))), (.ref da), (.long (Int64.ofNat (own_t yn mn dn) - (719528 : Int64)))]) _
    exact kt)
  clear S710
  have q713 : ((1 : Int32) - (1 : Int32)) = (0 : Int32) := by decide
  have S712 : Go p e below s₁ (eF_ts1 m x dt rl) T709 (mkF m 23 #[vR x, vR dt, vR rl, vJ (Int64.ofNat (own_t yn mn dn) - (719528 : Int64)), .second] [(.int (0 : Int32)), (.ref da), (.long (Int64.ofNat (own_t yn mn dn) - (719528 : Int64)))]) := by have h := S711; rw [q713] at h; exact h
  clear S711
  obtain ⟨co714, Ao714, qo714, So714, No714, Ho714, Go714⟩ := id VdT
  have hino714 : ¬ ((0 : Int32) < 0 ∨ co714.slots.size ≤ ((0 : Int32)).toNatClampNeg) := inb_of So714 ⟨by decide, by decide⟩
  have hato714 : co714.slots[((0 : Int32)).toNatClampNeg]? = some (.long r1) := Has.at Ho714 hino714 rfl
  have S715 : Go p e below s₁ (eF_ts1 m x dt rl) T709 (mkF m 25 #[vR x, vR dt, vR rl, vJ (Int64.ofNat (own_t yn mn dn) - (719528 : Int64)), .second] [(.int (lcmpW (Int64.ofNat (own_t yn mn dn) - (719528 : Int64)) r1))]) := fun t kt => S712 t (by
    refine X709.laload hx (j := (0 : Int32)) (v := (.long r1)) (by rw [e709]; exact Ao714.1) (State.isArrayOf_alike hZ.alike Ao714.2.1) Ao714.2.2 hino714 hato714 (g := (mkF m 23 #[vR x, vR dt, vR rl, vJ (Int64.ofNat (own_t yn mn dn) - (719528 : Int64)), .second] [(.int (0 : Int32)), (.ref da), (.long (Int64.ofNat (own_t yn mn dn) - (719528 : Int64)))])) rfl rfl (hb hby d37_23) _ ?_
    show Sp p e below T709 (mkF m 24 #[vR x, vR dt, vR rl, vJ (Int64.ofNat (own_t yn mn dn) - (719528 : Int64)), .second] [(.long r1), (.long (Int64.ofNat (own_t yn mn dn) - (719528 : Int64)))]) _
    refine XS.lcmp X709.here hx rfl (hb hby d37_24) rfl ?_
    show Sp p e below T709 (mkF m 25 #[vR x, vR dt, vR rl, vJ (Int64.ofNat (own_t yn mn dn) - (719528 : Int64)), .second] [(.int (lcmpW (Int64.ofNat (own_t yn mn dn) - (719528 : Int64)) r1))]) _
    exact kt)
  clear S712
  have S716 : Go p e below s₁ (eF_ts1 m x dt rl) T709 (mkF m 60 #[vR x, vR dt, vR rl, vJ (Int64.ofNat (own_t yn mn dn) - (719528 : Int64)), .second] [(.ref x)]) := fun t kt => S715 t (by
    refine XS.ifYes X709.here hx rfl (pc0 := 25) (pc' := 59) rfl (hb hby d37_25) rfl ((if0 _ _).trans (flt (show ¬ ((lcmpW (Int64.ofNat (own_t yn mn dn) - (719528 : Int64)) r1) < (0 : Int32)) from hge)).2.1) (by decide) (by decide) ?_
    refine XS.aloadN X709.here hx rfl (hb hby d37_59) rfl rfl ?_
    show Sp p e below T709 (mkF m 60 #[vR x, vR dt, vR rl, vJ (Int64.ofNat (own_t yn mn dn) - (719528 : Int64)), .second] [(.ref x)]) _
    exact kt)
  clear S715
  obtain ⟨T717, X717, e717, st717⟩ := getF X709 hx hZ hown (host := "") (Or.inl (own_h hw 214 rfl)) Via.refl e709 FzT (g := (mkF m 60 #[vR x, vR dt, vR rl, vJ (Int64.ofNat (own_t yn mn dn) - (719528 : Int64)), .second] [(.ref x)])) rfl rfl (hb hby d37_60)
  have S718 : Go p e below s₁ (eF_ts1 m x dt rl) T717 (mkF m 63 #[vR x, vR dt, vR rl, vJ (Int64.ofNat (own_t yn mn dn) - (719528 : Int64)), .second] [(.int (1 : Int32))]) := fun t kt => S716 t (st717 t kt)
  clear S716 st717 X709 e709
  have S719 : Go p e below s₁ (eF_ts1 m x dt rl) T717 (mkF m 68 #[vR x, vR dt, vR rl, vJ (Int64.ofNat (own_t yn mn dn) - (719528 : Int64)), .second] [(.ref x), (.long (Int64.ofNat (own_t yn mn dn) - (719528 : Int64)))]) := fun t kt => S718 t (by
    refine XS.ifNo X717.here hx rfl (hb hby d37_63) rfl ((if0 _ _).trans (tlt (show (0 : Int32) < (1 : Int32) from (by decide))).2.2.2) ?_
    refine XS.lloadN X717.here hx rfl (hb hby d37_66) rfl ?_
    show Sp p e below T717 (mkF m 67 #[vR x, vR dt, vR rl, vJ (Int64.ofNat (own_t yn mn dn) - (719528 : Int64)), .second] [(.long (Int64.ofNat (own_t yn mn dn) - (719528 : Int64)))]) _
    refine XS.aloadN X717.here hx rfl (hb hby d37_67) rfl rfl ?_
    exact kt)
  clear S718
  obtain ⟨T720, X720, e720, st720⟩ := getF X717 hx hZ hown (host := "") (Or.inl (own_h hw 192 rfl)) Via.refl e717 FdT (g := (mkF m 68 #[vR x, vR dt, vR rl, vJ (Int64.ofNat (own_t yn mn dn) - (719528 : Int64)), .second] [(.ref x), (.long (Int64.ofNat (own_t yn mn dn) - (719528 : Int64)))])) rfl rfl (hb hby d37_68)
  have S721 : Go p e below s₁ (eF_ts1 m x dt rl) T720 (mkF m 71 #[vR x, vR dt, vR rl, vJ (Int64.ofNat (own_t yn mn dn) - (719528 : Int64)), .second] [(.ref da), (.long (Int64.ofNat (own_t yn mn dn) - (719528 : Int64)))]) := fun t kt => S719 t (st720 t kt)
  clear S719 st720 X717 e717
  have S722 : Go p e below s₁ (eF_ts1 m x dt rl) T720 (mkF m 72 #[vR x, vR dt, vR rl, vJ (Int64.ofNat (own_t yn mn dn) - (719528 : Int64)), .second] [(.ref x), (.ref da), (.long (Int64.ofNat (own_t yn mn dn) - (719528 : Int64)))]) := fun t kt => S721 t (by
    refine XS.aloadN X720.here hx rfl (hb hby d37_71) rfl rfl ?_
    exact kt)
  clear S721
  obtain ⟨T723, X723, e723, st723⟩ := getF X720 hx hZ hown (host := "") (Or.inl (own_h hw 214 rfl)) Via.refl e720 FzT (g := (mkF m 72 #[vR x, vR dt, vR rl, vJ (Int64.ofNat (own_t yn mn dn) - (719528 : Int64)), .second] [(.ref x), (.ref da), (.long (Int64.ofNat (own_t yn mn dn) - (719528 : Int64)))])) rfl rfl (hb hby d37_72)
  have S724 : Go p e below s₁ (eF_ts1 m x dt rl) T723 (mkF m 75 #[vR x, vR dt, vR rl, vJ (Int64.ofNat (own_t yn mn dn) - (719528 : Int64)), .second] [(.int (1 : Int32)), (.ref da), (.long (Int64.ofNat (own_t yn mn dn) - (719528 : Int64)))]) := fun t kt => S722 t (st723 t kt)
  clear S722 st723 X720 e720
  have S725 : Go p e below s₁ (eF_ts1 m x dt rl) T723 (mkF m 77 #[vR x, vR dt, vR rl, vJ (Int64.ofNat (own_t yn mn dn) - (719528 : Int64)), .second] [(.int ((1 : Int32) - (1 : Int32))), (.ref da), (.long (Int64.ofNat (own_t yn mn dn) - (719528 : Int64)))]) := fun t kt => S724 t (by
    refine XS.iconst X723.here hx rfl (hb hby d37_75) ?_
    refine XS.isub X723.here hx rfl (hb hby d37_76) rfl ?_
    show Sp p e below T723 (mkF m 77 #[vR x, vR dt, vR rl, vJ (Int64.ofNat (own_t yn mn dn) - (719528 : Int64)), .second] [(.int ((1 : Int32) - (1 : Int32))), (.ref da), (.long (Int64.ofNat (own_t yn mn dn) - (719528 : Int64)))]) _
    exact kt)
  clear S724
  have q727 : ((1 : Int32) - (1 : Int32)) = (0 : Int32) := by decide
  have S726 : Go p e below s₁ (eF_ts1 m x dt rl) T723 (mkF m 77 #[vR x, vR dt, vR rl, vJ (Int64.ofNat (own_t yn mn dn) - (719528 : Int64)), .second] [(.int (0 : Int32)), (.ref da), (.long (Int64.ofNat (own_t yn mn dn) - (719528 : Int64)))]) := by have h := S725; rw [q727] at h; exact h
  clear S725
  obtain ⟨co728, Ao728, qo728, So728, No728, Ho728, Go728⟩ := id VdT
  have hino728 : ¬ ((0 : Int32) < 0 ∨ co728.slots.size ≤ ((0 : Int32)).toNatClampNeg) := inb_of So728 ⟨by decide, by decide⟩
  have hato728 : co728.slots[((0 : Int32)).toNatClampNeg]? = some (.long r1) := Has.at Ho728 hino728 rfl
  have S729 : Go p e below s₁ (eF_ts1 m x dt rl) T723 (mkF m 79 #[vR x, vR dt, vR rl, vJ (Int64.ofNat (own_t yn mn dn) - (719528 : Int64)), .second] [(.int (lcmpW (Int64.ofNat (own_t yn mn dn) - (719528 : Int64)) r1))]) := fun t kt => S726 t (by
    refine X723.laload hx (j := (0 : Int32)) (v := (.long r1)) (by rw [e723]; exact Ao728.1) (State.isArrayOf_alike hZ.alike Ao728.2.1) Ao728.2.2 hino728 hato728 (g := (mkF m 77 #[vR x, vR dt, vR rl, vJ (Int64.ofNat (own_t yn mn dn) - (719528 : Int64)), .second] [(.int (0 : Int32)), (.ref da), (.long (Int64.ofNat (own_t yn mn dn) - (719528 : Int64)))])) rfl rfl (hb hby d37_77) _ ?_
    show Sp p e below T723 (mkF m 78 #[vR x, vR dt, vR rl, vJ (Int64.ofNat (own_t yn mn dn) - (719528 : Int64)), .second] [(.long r1), (.long (Int64.ofNat (own_t yn mn dn) - (719528 : Int64)))]) _
    refine XS.lcmp X723.here hx rfl (hb hby d37_78) rfl ?_
    show Sp p e below T723 (mkF m 79 #[vR x, vR dt, vR rl, vJ (Int64.ofNat (own_t yn mn dn) - (719528 : Int64)), .second] [(.int (lcmpW (Int64.ofNat (own_t yn mn dn) - (719528 : Int64)) r1))]) _
    exact kt)
  clear S726
  by_cases heq : (lcmpW (Int64.ofNat (own_t yn mn dn) - (719528 : Int64)) r1) = (0 : Int32)
  · have S730 : Go p e below s₁ (eF_ts1 m x dt rl) T723 (mkF m 83 #[vR x, vR dt, vR rl, vJ (Int64.ofNat (own_t yn mn dn) - (719528 : Int64)), .second] [(.ref x)]) := fun t kt => S729 t (by
      refine XS.ifNo X723.here hx rfl (hb hby d37_79) rfl ((if0 _ _).trans (teq (show (lcmpW (Int64.ofNat (own_t yn mn dn) - (719528 : Int64)) r1) = (0 : Int32) from heq)).2) ?_
      refine XS.aloadN X723.here hx rfl (hb hby d37_82) rfl rfl ?_
      show Sp p e below T723 (mkF m 83 #[vR x, vR dt, vR rl, vJ (Int64.ofNat (own_t yn mn dn) - (719528 : Int64)), .second] [(.ref x)]) _
      exact kt)
    clear S729
    obtain ⟨T731, X731, e731, st731⟩ := getF X723 hx hZ hown (host := "") (Or.inl (own_h hw 200 rfl)) Via.refl e723 FvT (g := (mkF m 83 #[vR x, vR dt, vR rl, vJ (Int64.ofNat (own_t yn mn dn) - (719528 : Int64)), .second] [(.ref x)])) rfl rfl (hb hby d37_83)
    have S732 : Go p e below s₁ (eF_ts1 m x dt rl) T731 (mkF m 86 #[vR x, vR dt, vR rl, vJ (Int64.ofNat (own_t yn mn dn) - (719528 : Int64)), .second] [(.ref va)]) := fun t kt => S730 t (st731 t kt)
    clear S730 st731 X723 e723
    have S733 : Go p e below s₁ (eF_ts1 m x dt rl) T731 (mkF m 87 #[vR x, vR dt, vR rl, vJ (Int64.ofNat (own_t yn mn dn) - (719528 : Int64)), .second] [(.ref x), (.ref va)]) := fun t kt => S732 t (by
      refine XS.aloadN X731.here hx rfl (hb hby d37_86) rfl rfl ?_
      exact kt)
    clear S732
    obtain ⟨T734, X734, e734, st734⟩ := getF X731 hx hZ hown (host := "") (Or.inl (own_h hw 214 rfl)) Via.refl e731 FzT (g := (mkF m 87 #[vR x, vR dt, vR rl, vJ (Int64.ofNat (own_t yn mn dn) - (719528 : Int64)), .second] [(.ref x), (.ref va)])) rfl rfl (hb hby d37_87)
    have S735 : Go p e below s₁ (eF_ts1 m x dt rl) T734 (mkF m 90 #[vR x, vR dt, vR rl, vJ (Int64.ofNat (own_t yn mn dn) - (719528 : Int64)), .second] [(.int (1 : Int32)), (.ref va)]) := fun t kt => S733 t (st734 t kt)
    clear S733 st734 X731 e731
    have S736 : Go p e below s₁ (eF_ts1 m x dt rl) T734 (mkF m 92 #[vR x, vR dt, vR rl, vJ (Int64.ofNat (own_t yn mn dn) - (719528 : Int64)), .second] [(.int ((1 : Int32) - (1 : Int32))), (.ref va)]) := fun t kt => S735 t (by
      refine XS.iconst X734.here hx rfl (hb hby d37_90) ?_
      refine XS.isub X734.here hx rfl (hb hby d37_91) rfl ?_
      show Sp p e below T734 (mkF m 92 #[vR x, vR dt, vR rl, vJ (Int64.ofNat (own_t yn mn dn) - (719528 : Int64)), .second] [(.int ((1 : Int32) - (1 : Int32))), (.ref va)]) _
      exact kt)
    clear S735
    have q738 : ((1 : Int32) - (1 : Int32)) = (0 : Int32) := by decide
    have S737 : Go p e below s₁ (eF_ts1 m x dt rl) T734 (mkF m 92 #[vR x, vR dt, vR rl, vJ (Int64.ofNat (own_t yn mn dn) - (719528 : Int64)), .second] [(.int (0 : Int32)), (.ref va)]) := by have h := S736; rw [q738] at h; exact h
    clear S736
    have S739 : Go p e below s₁ (eF_ts1 m x dt rl) T734 (mkF m 93 #[vR x, vR dt, vR rl, vJ (Int64.ofNat (own_t yn mn dn) - (719528 : Int64)), .second] [(.ref rl), (.int (0 : Int32)), (.ref va)]) := fun t kt => S737 t (by
      refine XS.aloadN X734.here hx rfl (hb hby d37_92) rfl rfl ?_
      exact kt)
    clear S737
    obtain ⟨co740, Ao740, qo740, So740, No740, Ho740, Go740⟩ := id VvT
    have hino740 : ¬ ((0 : Int32) < 0 ∨ co740.slots.size ≤ ((0 : Int32)).toNatClampNeg) := inb_of So740 ⟨by decide, by decide⟩
    obtain ⟨T741, h741, X741, e741, W741, st741⟩ := stR X734 hx hZ e734 Ao740 (j := (0 : Int32)) hino740 rfl (Sto.ofV Ao740 qo740 OvT (Ins.of_exa Erl (own_h hw 258 rfl))) (g := (mkF m 93 #[vR x, vR dt, vR rl, vJ (Int64.ofNat (own_t yn mn dn) - (719528 : Int64)), .second] [(.ref rl), (.int (0 : Int32)), (.ref va)])) rfl rfl (hb hby d37_93)
    have N741 := Fr.snoc X741 N700 g_va
    have K741 : Keep h0 h741 [x, da, fa, va] := (Keep.refl h0 [x, da, fa, va]).wr W741 (Or.inl (by simp))
    have V741 : Arv Z h741 va kv (.object "java/lang/Object") (4 : Int32) [(.ref rl), .null, .null, .null] .null := Arv.set Ao740 qo740 So740 No740 Ho740 Go740 rfl W741 0 rfl (Nat.le_of_ble_eq_true rfl)
    have S742 : Go p e below s₁ (eF_ts1 m x dt rl) T741 (mkF m 94 #[vR x, vR dt, vR rl, vJ (Int64.ofNat (own_t yn mn dn) - (719528 : Int64)), .second] []) := fun t kt => S739 t (st741 t kt)
    clear S739 st741 X734 e734
    have f743 := (ET.wr W741)
    have f744 := (FzT.other W741 (Or.inl nxv))
    obtain ⟨fs, hr, hrun, hended, hW, hsame⟩ := X741.leave (v := none) (fun h => by first | rfl | (rw [Bd.returns] at h; cases h))
    refine ⟨_, _, S742 _ ?_, hrun, hended, _, _, rfl, ?_, ⟨_, rfl⟩, hW, hsame.mono (by decide) (by decide)⟩
    · exact X741.returnOut hx Bd.returns (hb hby d37_94) hr
    · show Q_ts1 Z x da fa va h0 n0 _ T741.heap _
      rw [e741]
      exact ⟨rfl, N741, K741, f743, Or.inl f744⟩
  · have S745 : Go p e below s₁ (eF_ts1 m x dt rl) T723 (mkF m 96 #[vR x, vR dt, vR rl, vJ (Int64.ofNat (own_t yn mn dn) - (719528 : Int64)), .second] [(.ref x)]) := fun t kt => S729 t (by
      refine XS.ifYes X723.here hx rfl (pc0 := 79) (pc' := 95) rfl (hb hby d37_79) rfl ((if0 _ _).trans (feq (show ¬ ((lcmpW (Int64.ofNat (own_t yn mn dn) - (719528 : Int64)) r1) = (0 : Int32)) from heq)).2) (by decide) (by decide) ?_
      refine XS.aloadN X723.here hx rfl (hb hby d37_95) rfl rfl ?_
      show Sp p e below T723 (mkF m 96 #[vR x, vR dt, vR rl, vJ (Int64.ofNat (own_t yn mn dn) - (719528 : Int64)), .second] [(.ref x)]) _
      exact kt)
    clear S729
    obtain ⟨T746, X746, e746, st746⟩ := getF X723 hx hZ hown (host := "") (Or.inl (own_h hw 214 rfl)) Via.refl e723 FzT (g := (mkF m 96 #[vR x, vR dt, vR rl, vJ (Int64.ofNat (own_t yn mn dn) - (719528 : Int64)), .second] [(.ref x)])) rfl rfl (hb hby d37_96)
    have S747 : Go p e below s₁ (eF_ts1 m x dt rl) T746 (mkF m 99 #[vR x, vR dt, vR rl, vJ (Int64.ofNat (own_t yn mn dn) - (719528 : Int64)), .second] [(.int (1 : Int32))]) := fun t kt => S745 t (st746 t kt)
    clear S745 st746 X723 e723
    have S748 : Go p e below s₁ (eF_ts1 m x dt rl) T746 (mkF m 100 #[vR x, vR dt, vR rl, vJ (Int64.ofNat (own_t yn mn dn) - (719528 : Int64)), .second] [(.ref x), (.int (1 : Int32))]) := fun t kt => S747 t (by
      refine XS.aloadN X746.here hx rfl (hb hby d37_99) rfl rfl ?_
      exact kt)
    clear S747
    obtain ⟨T749, X749, e749, st749⟩ := getF X746 hx hZ hown (host := "") (Or.inl (own_h hw 192 rfl)) Via.refl e746 FdT (g := (mkF m 100 #[vR x, vR dt, vR rl, vJ (Int64.ofNat (own_t yn mn dn) - (719528 : Int64)), .second] [(.ref x), (.int (1 : Int32))])) rfl rfl (hb hby d37_100)
    have S750 : Go p e below s₁ (eF_ts1 m x dt rl) T749 (mkF m 103 #[vR x, vR dt, vR rl, vJ (Int64.ofNat (own_t yn mn dn) - (719528 : Int64)), .second] [(.ref da), (.int (1 : Int32))]) := fun t kt => S748 t (st749 t kt)
    clear S748 st749 X746 e746
    obtain ⟨co751, Ao751, qo751, So751, No751, Ho751, Go751⟩ := id VdT
    have S752 : Go p e below s₁ (eF_ts1 m x dt rl) T749 (mkF m 162 #[vR x, vR dt, vR rl, vJ (Int64.ofNat (own_t yn mn dn) - (719528 : Int64)), .second] [(.ref x)]) := fun t kt => S750 t (by
      refine X749.arraylength hx (by rw [e749]; exact Ao751.1) (State.isArrayOf_alike hZ.alike Ao751.2.1) (g := (mkF m 103 #[vR x, vR dt, vR rl, vJ (Int64.ofNat (own_t yn mn dn) - (719528 : Int64)), .second] [(.ref da), (.int (1 : Int32))])) rfl rfl (hb hby d37_103) _ ?_
      rw [len_of So751 No751]
      show Sp p e below T749 (mkF m 104 #[vR x, vR dt, vR rl, vJ (Int64.ofNat (own_t yn mn dn) - (719528 : Int64)), .second] [(.int (4 : Int32)), (.int (1 : Int32))]) _
      refine XS.icmpYes X749.here hx rfl (pc0 := 104) (pc' := 161) rfl (hb hby d37_104) rfl (feq (show ¬ ((1 : Int32) = (4 : Int32)) from (by decide))).2 (by decide) (by decide) ?_
      show Sp p e below T749 (mkF m 161 #[vR x, vR dt, vR rl, vJ (Int64.ofNat (own_t yn mn dn) - (719528 : Int64)), .second] []) _
      refine XS.aloadN X749.here hx rfl (hb hby d37_161) rfl rfl ?_
      exact kt)
    clear S750
    obtain ⟨T753, X753, e753, st753⟩ := getF X749 hx hZ hown (host := "") (Or.inl (own_h hw 192 rfl)) Via.refl e749 FdT (g := (mkF m 162 #[vR x, vR dt, vR rl, vJ (Int64.ofNat (own_t yn mn dn) - (719528 : Int64)), .second] [(.ref x)])) rfl rfl (hb hby d37_162)
    have S754 : Go p e below s₁ (eF_ts1 m x dt rl) T753 (mkF m 165 #[vR x, vR dt, vR rl, vJ (Int64.ofNat (own_t yn mn dn) - (719528 : Int64)), .second] [(.ref da)]) := fun t kt => S752 t (st753 t kt)
    clear S752 st753 X749 e749
    have S755 : Go p e below s₁ (eF_ts1 m x dt rl) T753 (mkF m 166 #[vR x, vR dt, vR rl, vJ (Int64.ofNat (own_t yn mn dn) - (719528 : Int64)), .second] [(.ref x), (.ref da)]) := fun t kt => S754 t (by
      refine XS.aloadN X753.here hx rfl (hb hby d37_165) rfl rfl ?_
      exact kt)
    clear S754
    obtain ⟨T756, X756, e756, st756⟩ := getF X753 hx hZ hown (host := "") (Or.inl (own_h hw 214 rfl)) Via.refl e753 FzT (g := (mkF m 166 #[vR x, vR dt, vR rl, vJ (Int64.ofNat (own_t yn mn dn) - (719528 : Int64)), .second] [(.ref x), (.ref da)])) rfl rfl (hb hby d37_166)
    have S757 : Go p e below s₁ (eF_ts1 m x dt rl) T756 (mkF m 169 #[vR x, vR dt, vR rl, vJ (Int64.ofNat (own_t yn mn dn) - (719528 : Int64)), .second] [(.int (1 : Int32)), (.ref da)]) := fun t kt => S755 t (st756 t kt)
    clear S755 st756 X753 e753
    have S758 : Go p e below s₁ (eF_ts1 m x dt rl) T756 (mkF m 170 #[vR x, vR dt, vR rl, vJ (Int64.ofNat (own_t yn mn dn) - (719528 : Int64)), .second] [(.long (Int64.ofNat (own_t yn mn dn) - (719528 : Int64))), (.int (1 : Int32)), (.ref da)]) := fun t kt => S757 t (by
      refine XS.lloadN X756.here hx rfl (hb hby d37_169) rfl ?_
      exact kt)
    clear S757
    obtain ⟨co759, Ao759, qo759, So759, No759, Ho759, Go759⟩ := id VdT
    have hino759 : ¬ ((1 : Int32) < 0 ∨ co759.slots.size ≤ ((1 : Int32)).toNatClampNeg) := inb_of So759 ⟨by decide, by decide⟩
    obtain ⟨T760, h760, X760, e760, W760, st760⟩ := stJ X756 hx hZ e756 Ao759 (j := (1 : Int32)) hino759 (g := (mkF m 170 #[vR x, vR dt, vR rl, vJ (Int64.ofNat (own_t yn mn dn) - (719528 : Int64)), .second] [(.long (Int64.ofNat (own_t yn mn dn) - (719528 : Int64))), (.int (1 : Int32)), (.ref da)])) rfl rfl (hb hby d37_170)
    have N760 := Fr.snoc X760 N700 g_da
    have K760 : Keep h0 h760 [x, da, fa, va] := (Keep.refl h0 [x, da, fa, va]).wr W760 (Or.inl (by simp))
    have V760 : Arv Z h760 da kd .long (4 : Int32) [(.long r1), (.long (Int64.ofNat (own_t yn mn dn) - (719528 : Int64))), (.long (0 : Int64)), (.long (0 : Int64))] (.long (0 : Int64)) := Arv.set Ao759 qo759 So759 No759 Ho759 Go759 rfl W760 1 rfl (Nat.le_of_ble_eq_true rfl)
    have S761 : Go p e below s₁ (eF_ts1 m x dt rl) T760 (mkF m 171 #[vR x, vR dt, vR rl, vJ (Int64.ofNat (own_t yn mn dn) - (719528 : Int64)), .second] []) := fun t kt => S758 t (st760 t kt)
    clear S758 st760 X756 e756
    have S762 : Go p e below s₁ (eF_ts1 m x dt rl) T760 (mkF m 172 #[vR x, vR dt, vR rl, vJ (Int64.ofNat (own_t yn mn dn) - (719528 : Int64)), .second] [(.ref x)]) := fun t kt => S761 t (by
      refine XS.aloadN X760.here hx rfl (hb hby d37_171) rfl rfl ?_
      exact kt)
    clear S761
    have f763 := (FfT.other W760 (Or.inl nxd))
    obtain ⟨T764, X764, e764, st764⟩ := getF X760 hx hZ hown (host := "") (Or.inl (own_h hw 196 rfl)) Via.refl e760 f763 (g := (mkF m 172 #[vR x, vR dt, vR rl, vJ (Int64.ofNat (own_t yn mn dn) - (719528 : Int64)), .second] [(.ref x)])) rfl rfl (hb hby d37_172)
    have S765 : Go p e below s₁ (eF_ts1 m x dt rl) T764 (mkF m 175 #[vR x, vR dt, vR rl, vJ (Int64.ofNat (own_t yn mn dn) - (719528 : Int64)), .second] [(.ref fa)]) := fun t kt => S762 t (st764 t kt)
    clear S762 st764 X760 e760
    have S766 : Go p e below s₁ (eF_ts1 m x dt rl) T764 (mkF m 176 #[vR x, vR dt, vR rl, vJ (Int64.ofNat (own_t yn mn dn) - (719528 : Int64)), .second] [(.ref x), (.ref fa)]) := fun t kt => S765 t (by
      refine XS.aloadN X764.here hx rfl (hb hby d37_175) rfl rfl ?_
      exact kt)
    clear S765
    have f767 := (FzT.other W760 (Or.inl nxd))
    obtain ⟨T768, X768, e768, st768⟩ := getF X764 hx hZ hown (host := "") (Or.inl (own_h hw 214 rfl)) Via.refl e764 f767 (g := (mkF m 176 #[vR x, vR dt, vR rl, vJ (Int64.ofNat (own_t yn mn dn) - (719528 : Int64)), .second] [(.ref x), (.ref fa)])) rfl rfl (hb hby d37_176)
    have S769 : Go p e below s₁ (eF_ts1 m x dt rl) T768 (mkF m 179 #[vR x, vR dt, vR rl, vJ (Int64.ofNat (own_t yn mn dn) - (719528 : Int64)), .second] [(.int (1 : Int32)), (.ref fa)]) := fun t kt => S766 t (st768 t kt)
    clear S766 st768 X764 e764
    have S770 : Go p e below s₁ (eF_ts1 m x dt rl) T768 (mkF m 180 #[vR x, vR dt, vR rl, vJ (Int64.ofNat (own_t yn mn dn) - (719528 : Int64)), .second] [(.ref dt), (.int (1 : Int32)), (.ref fa)]) := fun t kt => S769 t (by
      refine XS.aloadN X768.here hx rfl (hb hby d37_179) rfl rfl ?_
      exact kt)
    clear S769
    have f771 := (VfT.other W760 (Ne.symm ndf))
    obtain ⟨co772, Ao772, qo772, So772, No772, Ho772, Go772⟩ := id f771
    have hino772 : ¬ ((1 : Int32) < 0 ∨ co772.slots.size ≤ ((1 : Int32)).toNatClampNeg) := inb_of So772 ⟨by decide, by decide⟩
    have f773 := (Ex.wr W760)
    obtain ⟨T774, h774, X774, e774, W774, st774⟩ := stR X768 hx hZ e768 Ao772 (j := (1 : Int32)) hino772 rfl (Sto.ofV Ao772 qo772 OfT (Ins.self f773)) (g := (mkF m 180 #[vR x, vR dt, vR rl, vJ (Int64.ofNat (own_t yn mn dn) - (719528 : Int64)), .second] [(.ref dt), (.int (1 : Int32)), (.ref fa)])) rfl rfl (hb hby d37_180)
    have N774 := Fr.snoc X774 N760 g_fa
    have K774 : Keep h0 h774 [x, da, fa, va] := K760.wr W774 (Or.inl (by simp))
    have V774 : Arv Z h774 fa kf (.object "java/time/LocalDate") (4 : Int32) [(.ref d1), (.ref dt), .null, .null] .null := Arv.set Ao772 qo772 So772 No772 Ho772 Go772 rfl W774 1 rfl (Nat.le_of_ble_eq_true rfl)
    have S775 : Go p e below s₁ (eF_ts1 m x dt rl) T774 (mkF m 181 #[vR x, vR dt, vR rl, vJ (Int64.ofNat (own_t yn mn dn) - (719528 : Int64)), .second] []) := fun t kt => S770 t (st774 t kt)
    clear S770 st774 X768 e768
    have S776 : Go p e below s₁ (eF_ts1 m x dt rl) T774 (mkF m 182 #[vR x, vR dt, vR rl, vJ (Int64.ofNat (own_t yn mn dn) - (719528 : Int64)), .second] [(.ref x)]) := fun t kt => S775 t (by
      refine XS.aloadN X774.here hx rfl (hb hby d37_181) rfl rfl ?_
      exact kt)
    clear S775
    have f777 := ((FvT.other W760 (Or.inl nxd)).other W774 (Or.inl nxf))
    obtain ⟨T778, X778, e778, st778⟩ := getF X774 hx hZ hown (host := "") (Or.inl (own_h hw 200 rfl)) Via.refl e774 f777 (g := (mkF m 182 #[vR x, vR dt, vR rl, vJ (Int64.ofNat (own_t yn mn dn) - (719528 : Int64)), .second] [(.ref x)])) rfl rfl (hb hby d37_182)
    have S779 : Go p e below s₁ (eF_ts1 m x dt rl) T778 (mkF m 185 #[vR x, vR dt, vR rl, vJ (Int64.ofNat (own_t yn mn dn) - (719528 : Int64)), .second] [(.ref va)]) := fun t kt => S776 t (st778 t kt)
    clear S776 st778 X774 e774
    have S780 : Go p e below s₁ (eF_ts1 m x dt rl) T778 (mkF m 186 #[vR x, vR dt, vR rl, vJ (Int64.ofNat (own_t yn mn dn) - (719528 : Int64)), .second] [(.ref x), (.ref va)]) := fun t kt => S779 t (by
      refine XS.aloadN X778.here hx rfl (hb hby d37_185) rfl rfl ?_
      exact kt)
    clear S779
    have f781 := (f767.other W774 (Or.inl nxf))
    obtain ⟨T782, X782, e782, st782⟩ := getF X778 hx hZ hown (host := "") (Or.inl (own_h hw 214 rfl)) Via.refl e778 f781 (g := (mkF m 186 #[vR x, vR dt, vR rl, vJ (Int64.ofNat (own_t yn mn dn) - (719528 : Int64)), .second] [(.ref x), (.ref va)])) rfl rfl (hb hby d37_186)
    have S783 : Go p e below s₁ (eF_ts1 m x dt rl) T782 (mkF m 189 #[vR x, vR dt, vR rl, vJ (Int64.ofNat (own_t yn mn dn) - (719528 : Int64)), .second] [(.int (1 : Int32)), (.ref va)]) := fun t kt => S780 t (st782 t kt)
    clear S780 st782 X778 e778
    have S784 : Go p e below s₁ (eF_ts1 m x dt rl) T782 (mkF m 190 #[vR x, vR dt, vR rl, vJ (Int64.ofNat (own_t yn mn dn) - (719528 : Int64)), .second] [(.ref rl), (.int (1 : Int32)), (.ref va)]) := fun t kt => S783 t (by
      refine XS.aloadN X782.here hx rfl (hb hby d37_189) rfl rfl ?_
      exact kt)
    clear S783
    have f785 := ((VvT.other W760 (Ne.symm ndv)).other W774 (Ne.symm nfv))
    obtain ⟨co786, Ao786, qo786, So786, No786, Ho786, Go786⟩ := id f785
    have hino786 : ¬ ((1 : Int32) < 0 ∨ co786.slots.size ≤ ((1 : Int32)).toNatClampNeg) := inb_of So786 ⟨by decide, by decide⟩
    have f787 := ((Erl.wr W760).wr W774)
    obtain ⟨T788, h788, X788, e788, W788, st788⟩ := stR X782 hx hZ e782 Ao786 (j := (1 : Int32)) hino786 rfl (Sto.ofV Ao786 qo786 OvT (Ins.of_exa f787 (own_h hw 258 rfl))) (g := (mkF m 190 #[vR x, vR dt, vR rl, vJ (Int64.ofNat (own_t yn mn dn) - (719528 : Int64)), .second] [(.ref rl), (.int (1 : Int32)), (.ref va)])) rfl rfl (hb hby d37_190)
    have N788 := Fr.snoc X788 N774 g_va
    have K788 : Keep h0 h788 [x, da, fa, va] := K774.wr W788 (Or.inl (by simp))
    have V788 : Arv Z h788 va kv (.object "java/lang/Object") (4 : Int32) [(.ref e1), (.ref rl), .null, .null] .null := Arv.set Ao786 qo786 So786 No786 Ho786 Go786 rfl W788 1 rfl (Nat.le_of_ble_eq_true rfl)
    have S789 : Go p e below s₁ (eF_ts1 m x dt rl) T788 (mkF m 191 #[vR x, vR dt, vR rl, vJ (Int64.ofNat (own_t yn mn dn) - (719528 : Int64)), .second] []) := fun t kt => S784 t (st788 t kt)
    clear S784 st788 X782 e782
    have S790 : Go p e below s₁ (eF_ts1 m x dt rl) T788 (mkF m 193 #[vR x, vR dt, vR rl, vJ (Int64.ofNat (own_t yn mn dn) - (719528 : Int64)), .second] [(.ref x), (.ref x)]) := fun t kt => S789 t (by
      refine XS.aloadN X788.here hx rfl (hb hby d37_191) rfl rfl ?_
      refine XS.dup X788.here hx rfl (hb hby d37_192) rfl rfl ?_
      show Sp p e below T788 (mkF m 193 #[vR x, vR dt, vR rl, vJ (Int64.ofNat (own_t yn mn dn) - (719528 : Int64)), .second] [(.ref x), (.ref x)]) _
      exact kt)
    clear S789
    have f791 := (f781.other W788 (Or.inl nxv))
    obtain ⟨T792, X792, e792, st792⟩ := getF X788 hx hZ hown (host := "") (Or.inl (own_h hw 214 rfl)) Via.refl e788 f791 (g := (mkF m 193 #[vR x, vR dt, vR rl, vJ (Int64.ofNat (own_t yn mn dn) - (719528 : Int64)), .second] [(.ref x), (.ref x)])) rfl rfl (hb hby d37_193)
    have S793 : Go p e below s₁ (eF_ts1 m x dt rl) T792 (mkF m 196 #[vR x, vR dt, vR rl, vJ (Int64.ofNat (own_t yn mn dn) - (719528 : Int64)), .second] [(.int (1 : Int32)), (.ref x)]) := fun t kt => S790 t (st792 t kt)
    clear S790 st792 X788 e788
    have S794 : Go p e below s₁ (eF_ts1 m x dt rl) T792 (mkF m 198 #[vR x, vR dt, vR rl, vJ (Int64.ofNat (own_t yn mn dn) - (719528 : Int64)), .second] [(.int ((1 : Int32) + (1 : Int32))), (.ref x)]) := fun t kt => S793 t (by
      refine XS.iconst X792.here hx rfl (hb hby d37_196) ?_
      refine XS.iadd X792.here hx rfl (hb hby d37_197) rfl ?_
      show Sp p e below T792 (mkF m 198 #[vR x, vR dt, vR rl, vJ (Int64.ofNat (own_t yn mn dn) - (719528 : Int64)), .second] [(.int ((1 : Int32) + (1 : Int32))), (.ref x)]) _
      exact kt)
    clear S793
    have q796 : ((1 : Int32) + (1 : Int32)) = (2 : Int32) := by decide
    have S795 : Go p e below s₁ (eF_ts1 m x dt rl) T792 (mkF m 198 #[vR x, vR dt, vR rl, vJ (Int64.ofNat (own_t yn mn dn) - (719528 : Int64)), .second] [(.int (2 : Int32)), (.ref x)]) := by have h := S794; rw [q796] at h; exact h
    clear S794
    have f797 := (((ET.wr W760).wr W774).wr W788)
    obtain ⟨T798, h798, X798, e798, W798, st798⟩ := putF X792 hx hZ hown (host := "") (Or.inl (own_h hw 214 rfl)) Via.refl e792 f791 f797 (Or.inl (own_h hw 215 rfl)) (own_h hw 185 rfl) (ty := .int) (by decide) rfl rfl (g := (mkF m 198 #[vR x, vR dt, vR rl, vJ (Int64.ofNat (own_t yn mn dn) - (719528 : Int64)), .second] [(.int (2 : Int32)), (.ref x)])) rfl rfl (hb hby d37_198)
    have N798 := Fr.snoc X798 N788 g_x
    have K798 : Keep h0 h798 [x, da, fa, va] := K788.wr W798 (Or.inl (by simp))
    have Fw798 := f791.same W798
    have S799 : Go p e below s₁ (eF_ts1 m x dt rl) T798 (mkF m 201 #[vR x, vR dt, vR rl, vJ (Int64.ofNat (own_t yn mn dn) - (719528 : Int64)), .second] []) := fun t kt => S795 t (st798 t kt)
    clear S795 st798 X792 e792
    have f800 := (f797.wr W798)
    obtain ⟨fs, hr, hrun, hended, hW, hsame⟩ := X798.leave (v := none) (fun h => by first | rfl | (rw [Bd.returns] at h; cases h))
    refine ⟨_, _, S799 _ ?_, hrun, hended, _, _, rfl, ?_, ⟨_, rfl⟩, hW, hsame.mono (by decide) (by decide)⟩
    · exact X798.returnOut hx Bd.returns (hb hby d37_201) hr
    · show Q_ts1 Z x da fa va h0 n0 _ T798.heap _
      rw [e798]
      exact ⟨rfl, N798, K798, f800, Or.inr Fw798⟩
abbrev eF_lof (m : MethodId)  : JFrame := entryFrame m #[] 0
theorem ef_lof (m : MethodId)  : entryFrame m #[] 0 = mkF m 0 #[] [] := by first | (simp [entryFrame, mkF, argsToLocals, Value.category]; done) | rfl
theorem pn_lof : plainName "java/util/List" = true := by first | (simp [plainName, overriddenIn]; done) | decide +kernel
def Q_lof (Z : State)  (h0 : Heap) (n0 : Nat) (v : Option Value) (h : Heap) (L : List Loc) : Prop := ∃ em0, v = some (.ref em0) ∧ Sta Z Z.heap "java/util/ImmutableCollections" "EMPTY_LIST" "Ljava/util/ImmutableCollections$ListN;" (.ref em0) ∧ Fr n0 L ∧ h = h0
set_option maxRecDepth 65536 in
set_option maxHeartbeats 40000000 in
theorem rm_lof (l : Launch) (Z : State) (a0 : Array Value) (hw : ∀ d ∈ tables_1, d.before a0 Z = true) (ws : List Jvm.Cond)  (h0 : Heap) (n0 : Nat) (Z0 : n0 ≤ h0.size) (SS : own_St Z) (O0 : Old Z n0 h0) :
    MetFree l (⟨"java/util/List", "of", "()Ljava/util/List;"⟩ : MethodName) (head1 (Jvm.Cond.code (⟨"java/util/List", "of", "()Ljava/util/List;"⟩ : MethodName) jdk_40_method_36_code 0 (some (.object "java/util/List")) :: ws) ({ frames := 0, cells := 0, slots := 0, locals := 0 } : Room)) (fun aa U => aa = #[] ∧ Z.Warmed39 U.vm ∧ U.heap = h0) (fun _ _ _ _ _ => True) (fun _ U o U' => ∃ v L, o = .returned v ∧ Q_lof Z  h0 n0 v U'.heap L ∧ FrameEnd U o U' L ({ frames := 0, cells := 0, slots := 0, locals := 0 } : Room).cells ({ frames := 0, cells := 0, slots := 0, locals := 0 } : Room).slots) := by
  refine MetFree.of_bodySF (plainFor_of_name pn_lof) hisR ?_
  intro p e s m args below meth c s₁ Bd hml0 hP hK
  obtain ⟨rfl, hZ, hh⟩ := hP
  have hx := Bd.exec
  have hby := Bd.bytes
  have hml : c.maxLocals = 0 := hml0
  have hown : s.vm.findClass "java/util/List" = some m.cls := findClass_of_methodNamed Bd.named
  have hnm := (name_of_methodNamed Bd.named Bd.method).1
  have X0 : Stand p l e ({ frames := 0, cells := 0, slots := 0, locals := 0 } : Room) s m #[] below meth c s₁ [] 0 0 := Stand.of_body Bd
  have e0 : s₁.heap = h0 := by rw [← hh, Bd.state]; rfl
  have N0 := Fr.nil n0
  have S0 : Go p e below s₁ (eF_lof m) s₁ (mkF m 0 #[] []) := fun t k => castTop (ef_lof m ) k
  obtain ⟨⟨cz, S_cs, hcz⟩, ⟨fm, S_fm, hfm⟩, ⟨yr, yrr, S_yr, E_yr, F_yr, E_yrr, L_yr, H_yr⟩, ⟨mr, mrr, S_mr, E_mr, F_mr, E_mrr, L_mr, H_mr⟩, ⟨dr, drr, S_dr, E_dr, F_dr, E_drr, L_dr, H_dr⟩, ⟨iso, S_is, E_is⟩, ⟨em, el, kel, S_em, E_em, F_em, V_em⟩, ⟨nr, S_nr⟩, ⟨nk, S_nk⟩⟩ := id SS
  obtain ⟨T801, X801, e801, st801⟩ := getS2 X0 hx hZ hown (host := "") (Or.inl (own_h hw 270 rfl)) Via.refl e0 (S_em.ext O0.2) (g := (mkF m 0 #[] [])) rfl (hb hby d42_0)
  have S802 : Go p e below s₁ (eF_lof m) T801 (mkF m 3 #[] [(.ref em)]) := fun t kt => S0 t (st801 t kt)
  clear S0 st801 X0 e0
  obtain ⟨fs, hr, hrun, hended, hW, hsame⟩ := X801.leave (v := some (.ref em)) (fun h => by first | rfl | (rw [Bd.returns] at h; cases h))
  refine ⟨_, _, S802 _ ?_, hrun, hended, _, _, rfl, ?_, ⟨_, rfl⟩, hW, hsame.mono (by decide) (by decide)⟩
  · exact retOut X801 hx Bd.returns rfl (Or.inr (Or.inr (Or.inr (Or.inr ⟨rfl, rfl, rfl⟩)))) (hb hby d42_3) hr
  · show Q_lof Z  h0 n0 _ T801.heap _
    rw [e801]
    exact ⟨em, rfl, S_em, N0, rfl⟩
abbrev eF_rma (m : MethodId) (x0 : Addr) : JFrame := entryFrame m #[(.ref x0)] 2
theorem ef_rma (m : MethodId) (x0 : Addr) : entryFrame m #[(.ref x0)] 2 = mkF m 0 #[.val (.ref x0), .unset] [] := by first | (simp [entryFrame, mkF, argsToLocals, Value.category]; done) | rfl
theorem pn_rma : plainName "com/example/tranchery/tranchery/journal/InstallmentQueue" = true := by first | (simp [plainName, overriddenIn]; done) | decide +kernel
def Q_rma (Z : State)  (h0 : Heap) (n0 : Nat) (v : Option Value) (h : Heap) (L : List Loc) : Prop := ∃ em0, v = some (.ref em0) ∧ Sta Z Z.heap "java/util/ImmutableCollections" "EMPTY_LIST" "Ljava/util/ImmutableCollections$ListN;" (.ref em0) ∧ Fr n0 L ∧ h = h0
set_option maxRecDepth 65536 in
set_option maxHeartbeats 40000000 in
theorem rm_rma (l : Launch) (Z : State) (a0 : Array Value) (hw : ∀ d ∈ tables_1, d.before a0 Z = true) (ws : List Jvm.Cond) (x : Addr) (h0 : Heap) (n0 : Nat) (Z0 : n0 ≤ h0.size) (SS : own_St Z) (O0 : Old Z n0 h0)(Fc : Fld Z h0 x "com/example/tranchery/tranchery/journal/InstallmentQueue" "count" "I" (.int (0 : Int32))) :
    MetFree l (⟨"com/example/tranchery/tranchery/journal/InstallmentQueue", "removeAll", "()Ljava/util/List;"⟩ : MethodName) (head1 (Jvm.Cond.code (⟨"com/example/tranchery/tranchery/journal/InstallmentQueue", "removeAll", "()Ljava/util/List;"⟩ : MethodName) prog_47_method_10_code 2 (some (.object "java/util/List")) :: ws) ({ frames := 1, cells := 0, slots := 0, locals := 11 } : Room)) (fun aa U => aa = #[(.ref x)] ∧ Z.Warmed39 U.vm ∧ U.heap = h0) (fun _ _ _ _ _ => True) (fun _ U o U' => ∃ v L, o = .returned v ∧ Q_rma Z  h0 n0 v U'.heap L ∧ FrameEnd U o U' L ({ frames := 1, cells := 0, slots := 0, locals := 11 } : Room).cells ({ frames := 1, cells := 0, slots := 0, locals := 11 } : Room).slots) := by
  refine MetFree.of_bodySF (plainFor_of_name pn_rma) hisR ?_
  intro p e s m args below meth c s₁ Bd hml0 hP hK
  obtain ⟨rfl, hZ, hh⟩ := hP
  have hx := Bd.exec
  have hby := Bd.bytes
  have hml : c.maxLocals = 2 := hml0
  have hown : s.vm.findClass "com/example/tranchery/tranchery/journal/InstallmentQueue" = some m.cls := findClass_of_methodNamed Bd.named
  have hnm := (name_of_methodNamed Bd.named Bd.method).1
  have X0 : Stand p l e ({ frames := 1, cells := 0, slots := 0, locals := 11 } : Room) s m #[(.ref x)] below meth c s₁ [] 0 0 := Stand.of_body Bd
  have e0 : s₁.heap = h0 := by rw [← hh, Bd.state]; rfl
  have N0 := Fr.nil n0
  have S0 : Go p e below s₁ (eF_rma m x) s₁ (mkF m 0 #[vR x, vU] []) := fun t k => castTop (ef_rma m x) k
  obtain ⟨⟨cz, S_cs, hcz⟩, ⟨fm, S_fm, hfm⟩, ⟨yr, yrr, S_yr, E_yr, F_yr, E_yrr, L_yr, H_yr⟩, ⟨mr, mrr, S_mr, E_mr, F_mr, E_mrr, L_mr, H_mr⟩, ⟨dr, drr, S_dr, E_dr, F_dr, E_drr, L_dr, H_dr⟩, ⟨iso, S_is, E_is⟩, ⟨em, el, kel, S_em, E_em, F_em, V_em⟩, ⟨nr, S_nr⟩, ⟨nk, S_nk⟩⟩ := id SS
  have S803 : Go p e below s₁ (eF_rma m x) s₁ (mkF m 1 #[vR x, vU] [(.ref x)]) := fun t kt => S0 t (by
    refine XS.aloadN X0.here hx rfl (hb hby d41_0) rfl rfl ?_
    exact kt)
  clear S0
  obtain ⟨T804, X804, e804, st804⟩ := getF X0 hx hZ hown (host := "") (Or.inl (own_h hw 264 rfl)) Via.refl e0 Fc (g := (mkF m 1 #[vR x, vU] [(.ref x)])) rfl rfl (hb hby d41_1)
  have S805 : Go p e below s₁ (eF_rma m x) T804 (mkF m 4 #[vR x, vU] [(.int (0 : Int32))]) := fun t kt => S803 t (st804 t kt)
  clear S803 st804 X0 e0
  have S806 : Go p e below s₁ (eF_rma m x) T804 (mkF m 7 #[vR x, vU] []) := fun t kt => S805 t (by
    refine XS.ifNo X804.here hx rfl (hb hby d41_4) rfl ((if0 _ _).trans (teq (show (0 : Int32) = (0 : Int32) from (by decide))).2) ?_
    exact kt)
  clear S805
  obtain ⟨v807, T807, L807, X807, hQ807, st807⟩ := own_outS (Jvm.LawKit.callS X804 hx (y := (⟨"java/util/List", "of", "()Ljava/util/List;"⟩ : MethodName)) hown (mvT hZ (own_h hw 266 rfl)) (mvT hZ (own_h hw 267 rfl)) (mvT hZ (own_h hw 268 rfl)) (mvT hZ (own_h hw 269 rfl)) (by decide) (backOf (W := 0) (rm_lof l Z a0 hw [] h0 n0 Z0 SS O0) hZ (own_h hw 269 rfl) (own_h hw 268 rfl) (by decide) (by decide)) (g := (mkF m 7 #[vR x, vU] [])) rfl (by rw [hml]; rfl) (argsL := []) (rest := []) (lenOf pd___Ljava_util_List_ rfl) rfl (by show 2 * 0 + _ ≤ _; exact Nat.le_of_eq rfl) (hb hby d41_7) (fun _ _ => ⟨rfl, e804, (by decide : 0 + 0 ≤ _), (by decide : 0 + 0 ≤ _)⟩))
  obtain ⟨em0, rfl, S_e0, N807q, e807⟩ := hQ807
  have N807 := Fr.app N0 N807q
  have S808 : Go p e below s₁ (eF_rma m x) T807 (mkF m 10 #[vR x, vU] [(.ref em0)]) := fun t kt => S806 t (st807 t kt)
  clear S806 st807 X804 e804
  obtain ⟨fs, hr, hrun, hended, hW, hsame⟩ := X807.leave (v := some (.ref em0)) (fun h => by first | rfl | (rw [Bd.returns] at h; cases h))
  refine ⟨_, _, S808 _ ?_, hrun, hended, _, _, rfl, ?_, ⟨_, rfl⟩, hW, hsame.mono (by decide) (by decide)⟩
  · exact retOut X807 hx Bd.returns rfl (Or.inr (Or.inr (Or.inr (Or.inr ⟨rfl, rfl, rfl⟩)))) (hb hby d41_10) hr
  · show Q_rma Z  h0 n0 _ T807.heap _
    rw [e807]
    exact ⟨em0, rfl, S_e0, N807, rfl⟩
abbrev eF_lns (m : MethodId) (x0 : Addr) : JFrame := entryFrame m #[(.ref x0)] 1
theorem ef_lns (m : MethodId) (x0 : Addr) : entryFrame m #[(.ref x0)] 1 = mkF m 0 #[.val (.ref x0)] [] := by first | (simp [entryFrame, mkF, argsToLocals, Value.category]; done) | rfl
theorem pn_lns : plainName "java/util/ImmutableCollections$ListN" = true := by first | (simp [plainName, overriddenIn]; done) | decide +kernel
def Q_lns (Z : State)  (h0 : Heap) (n0 : Nat) (v : Option Value) (h : Heap) (L : List Loc) : Prop := v = some (.int (0 : Int32)) ∧ Fr n0 L ∧ h = h0
set_option maxRecDepth 65536 in
set_option maxHeartbeats 40000000 in
theorem rm_lns (l : Launch) (Z : State) (a0 : Array Value) (hw : ∀ d ∈ tables_1, d.before a0 Z = true) (ws : List Jvm.Cond) (a : Addr) (el : Addr) (kel : ClassId) (h0 : Heap) (n0 : Nat) (Z0 : n0 ≤ h0.size) (F0 : Fld Z h0 a "java/util/ImmutableCollections$ListN" "elements" "[Ljava/lang/Object;" (.ref el)) (V0 : Arv Z h0 el kel (.object "java/lang/Object") (0 : Int32) [] .null) :
    MetFree l (⟨"java/util/ImmutableCollections$ListN", "size", "()I"⟩ : MethodName) (head1 (Jvm.Cond.code (⟨"java/util/ImmutableCollections$ListN", "size", "()I"⟩ : MethodName) jdk_45_method_3_code 1 (some .int) :: ws) ({ frames := 0, cells := 0, slots := 0, locals := 0 } : Room)) (fun aa U => aa = #[(.ref a)] ∧ Z.Warmed39 U.vm ∧ U.heap = h0) (fun _ _ _ _ _ => True) (fun _ U o U' => ∃ v L, o = .returned v ∧ Q_lns Z  h0 n0 v U'.heap L ∧ FrameEnd U o U' L ({ frames := 0, cells := 0, slots := 0, locals := 0 } : Room).cells ({ frames := 0, cells := 0, slots := 0, locals := 0 } : Room).slots) := by
  refine MetFree.of_bodySF (plainFor_of_name pn_lns) hisR ?_
  intro p e s m args below meth c s₁ Bd hml0 hP hK
  obtain ⟨rfl, hZ, hh⟩ := hP
  have hx := Bd.exec
  have hby := Bd.bytes
  have hml : c.maxLocals = 1 := hml0
  have hown : s.vm.findClass "java/util/ImmutableCollections$ListN" = some m.cls := findClass_of_methodNamed Bd.named
  have hnm := (name_of_methodNamed Bd.named Bd.method).1
  have X0 : Stand p l e ({ frames := 0, cells := 0, slots := 0, locals := 0 } : Room) s m #[(.ref a)] below meth c s₁ [] 0 0 := Stand.of_body Bd
  have e0 : s₁.heap = h0 := by rw [← hh, Bd.state]; rfl
  have N0 := Fr.nil n0
  have S0 : Go p e below s₁ (eF_lns m a) s₁ (mkF m 0 #[vR a] []) := fun t k => castTop (ef_lns m a) k
  have S809 : Go p e below s₁ (eF_lns m a) s₁ (mkF m 1 #[vR a] [(.ref a)]) := fun t kt => S0 t (by
    refine XS.aloadN X0.here hx rfl (hb hby d45_0) rfl rfl ?_
    exact kt)
  clear S0
  obtain ⟨T810, X810, e810, st810⟩ := getF X0 hx hZ hown (host := "") (Or.inl (own_h hw 296 rfl)) Via.refl e0 F0 (g := (mkF m 1 #[vR a] [(.ref a)])) rfl rfl (hb hby d45_1)
  have S811 : Go p e below s₁ (eF_lns m a) T810 (mkF m 4 #[vR a] [(.ref el)]) := fun t kt => S809 t (st810 t kt)
  clear S809 st810 X0 e0
  obtain ⟨co812, Ao812, qo812, So812, No812, Ho812, Go812⟩ := id V0
  have S813 : Go p e below s₁ (eF_lns m a) T810 (mkF m 5 #[vR a] [(.int (0 : Int32))]) := fun t kt => S811 t (by
    refine X810.arraylength hx (by rw [e810]; exact Ao812.1) (State.isArrayOf_alike hZ.alike Ao812.2.1) (g := (mkF m 4 #[vR a] [(.ref el)])) rfl rfl (hb hby d45_4) _ ?_
    rw [len_of So812 No812]
    show Sp p e below T810 (mkF m 5 #[vR a] [(.int (0 : Int32))]) _
    exact kt)
  clear S811
  obtain ⟨fs, hr, hrun, hended, hW, hsame⟩ := X810.leave (v := some (.int (0 : Int32))) (fun h => by first | rfl | (rw [Bd.returns] at h; cases h))
  refine ⟨_, _, S813 _ ?_, hrun, hended, _, _, rfl, ?_, ⟨_, rfl⟩, hW, hsame.mono (by decide) (by decide)⟩
  · exact retI X810 hx Bd.returns (hb hby d45_5) hr
  · show Q_lns Z  h0 n0 _ T810.heap _
    rw [e810]
    exact ⟨rfl, N0, rfl⟩
abbrev eF_lii (m : MethodId) (x0 : Addr) (x1 : Addr) (x2 : Int32) : JFrame := entryFrame m #[(.ref x0), (.ref x1), (.int x2)] 3
theorem ef_lii (m : MethodId) (x0 : Addr) (x1 : Addr) (x2 : Int32) : entryFrame m #[(.ref x0), (.ref x1), (.int x2)] 3 = mkF m 0 #[.val (.ref x0), .val (.ref x1), .val (.int x2)] [] := by first | (simp [entryFrame, mkF, argsToLocals, Value.category]; done) | rfl
theorem pn_lii : plainName "java/util/ImmutableCollections$ListItr" = true := by first | (simp [plainName, overriddenIn]; done) | decide +kernel
def Q_lii (Z : State) (x : Addr) (h0 : Heap) (n0 : Nat) (v : Option Value) (h : Heap) (L : List Loc) : Prop := v = none ∧ Fr n0 L ∧ Keep h0 h [x] ∧ Exa Z h x "java/util/ImmutableCollections$ListItr" ∧ Fld Z h x "java/util/ImmutableCollections$ListItr" "size" "I" (.int (0 : Int32)) ∧ Fld Z h x "java/util/ImmutableCollections$ListItr" "cursor" "I" (.int (0 : Int32))
set_option maxRecDepth 65536 in
set_option maxHeartbeats 40000000 in
theorem rm_lii (l : Launch) (Z : State) (a0 : Array Value) (hw : ∀ d ∈ tables_1, d.before a0 Z = true) (ws : List Jvm.Cond) (x : Addr) (a : Addr) (h0 : Heap) (n0 : Nat) (Z0 : n0 ≤ h0.size) (E0 : Exa Z h0 x "java/util/ImmutableCollections$ListItr") (F_list_x : Fld Z h0 x "java/util/ImmutableCollections$ListItr" "list" "Ljava/util/List;" .null) (F_size_x : Fld Z h0 x "java/util/ImmutableCollections$ListItr" "size" "I" (.int (0 : Int32))) (F_cursor_x : Fld Z h0 x "java/util/ImmutableCollections$ListItr" "cursor" "I" (.int (0 : Int32))) (F_isListIterator_x : Fld Z h0 x "java/util/ImmutableCollections$ListItr" "isListIterator" "Z" (.int (0 : Int32))) (g_x : n0 ≤ x) :
    MetFree l (⟨"java/util/ImmutableCollections$ListItr", "<init>", "(Ljava/util/List;I)V"⟩ : MethodName) (head1 (Jvm.Cond.code (⟨"java/util/ImmutableCollections$ListItr", "<init>", "(Ljava/util/List;I)V"⟩ : MethodName) jdk_53_method_1_code 3 none :: ws) ({ frames := 1, cells := 0, slots := 0, locals := 12 } : Room)) (fun aa U => aa = #[(.ref x), (.ref a), (.int (0 : Int32))] ∧ Z.Warmed39 U.vm ∧ U.heap = h0) (fun _ _ _ _ _ => True) (fun _ U o U' => ∃ v L, o = .returned v ∧ Q_lii Z x h0 n0 v U'.heap L ∧ FrameEnd U o U' L ({ frames := 1, cells := 0, slots := 0, locals := 12 } : Room).cells ({ frames := 1, cells := 0, slots := 0, locals := 12 } : Room).slots) := by
  refine MetFree.of_bodySF (plainFor_of_name pn_lii) hisR ?_
  intro p e s m args below meth c s₁ Bd hml0 hP hK
  obtain ⟨rfl, hZ, hh⟩ := hP
  have hx := Bd.exec
  have hby := Bd.bytes
  have hml : c.maxLocals = 3 := hml0
  have hown : s.vm.findClass "java/util/ImmutableCollections$ListItr" = some m.cls := findClass_of_methodNamed Bd.named
  have hnm := (name_of_methodNamed Bd.named Bd.method).1
  have X0 : Stand p l e ({ frames := 1, cells := 0, slots := 0, locals := 12 } : Room) s m #[(.ref x), (.ref a), (.int (0 : Int32))] below meth c s₁ [] 0 0 := Stand.of_body Bd
  have e0 : s₁.heap = h0 := by rw [← hh, Bd.state]; rfl
  have N0 := Fr.nil n0
  have S0 : Go p e below s₁ (eF_lii m x a (0 : Int32)) s₁ (mkF m 0 #[vR x, vR a, vI (0 : Int32)] []) := fun t k => castTop (ef_lii m x a (0 : Int32)) k
  have S814 : Go p e below s₁ (eF_lii m x a (0 : Int32)) s₁ (mkF m 1 #[vR x, vR a, vI (0 : Int32)] [(.ref x)]) := fun t kt => S0 t (by
    refine XS.aloadN X0.here hx rfl (hb hby d46_0) rfl rfl ?_
    exact kt)
  clear S0
  obtain ⟨T815, X815, e815, st815⟩ := initO X0 hx hZ hown (own_h hw 302 rfl) (own_h hw 17 rfl) (own_h hw 18 rfl) e0 (g := (mkF m 1 #[vR x, vR a, vI (0 : Int32)] [(.ref x)])) rfl (by rw [hml]; rfl) rfl (hb hby d46_1) (by decide) (W := 0) (by show 2 * 0 + _ ≤ _; exact Nat.le_of_eq rfl) (by decide)
  have S816 : Go p e below s₁ (eF_lii m x a (0 : Int32)) T815 (mkF m 4 #[vR x, vR a, vI (0 : Int32)] []) := fun t kt => S814 t (st815 t kt)
  clear S814 st815 X0 e0
  have S817 : Go p e below s₁ (eF_lii m x a (0 : Int32)) T815 (mkF m 6 #[vR x, vR a, vI (0 : Int32)] [(.ref a), (.ref x)]) := fun t kt => S816 t (by
    refine XS.aloadN X815.here hx rfl (hb hby d46_4) rfl rfl ?_
    refine XS.aloadN X815.here hx rfl (hb hby d46_5) rfl rfl ?_
    show Sp p e below T815 (mkF m 6 #[vR x, vR a, vI (0 : Int32)] [(.ref a), (.ref x)]) _
    exact kt)
  clear S816
  obtain ⟨T818, h818, X818, e818, W818, st818⟩ := putF X815 hx hZ hown (host := "") (Or.inl (own_h hw 303 rfl)) Via.refl e815 F_list_x E0 (Or.inr ⟨(own_h hw 304 rfl), rfl, hnm⟩) (own_h hw 287 rfl) (ty := (.object "java/util/List")) (by decide) rfl rfl (g := (mkF m 6 #[vR x, vR a, vI (0 : Int32)] [(.ref a), (.ref x)])) rfl rfl (hb hby d46_6)
  have N818 := Fr.snoc X818 N0 g_x
  have K818 : Keep h0 h818 [x] := (Keep.refl h0 [x]).wr W818 (Or.inl (by simp))
  have Fw818 := F_list_x.same W818
  have S819 : Go p e below s₁ (eF_lii m x a (0 : Int32)) T818 (mkF m 9 #[vR x, vR a, vI (0 : Int32)] []) := fun t kt => S817 t (st818 t kt)
  clear S817 st818 X815 e815
  have S820 : Go p e below s₁ (eF_lii m x a (0 : Int32)) T818 (mkF m 11 #[vR x, vR a, vI (0 : Int32)] [(.int (0 : Int32)), (.ref x)]) := fun t kt => S819 t (by
    refine XS.aloadN X818.here hx rfl (hb hby d46_9) rfl rfl ?_
    refine XS.iloadN X818.here hx rfl (hb hby d46_10) rfl ?_
    show Sp p e below T818 (mkF m 11 #[vR x, vR a, vI (0 : Int32)] [(.int (0 : Int32)), (.ref x)]) _
    exact kt)
  clear S819
  have f821 := (F_size_x.other W818 (Or.inr (slot_ne (C := "java/util/ImmutableCollections$ListItr") (Or.inr (own_h hw 306 rfl)) (Or.inr (own_h hw 304 rfl)) (by decide) (t := .int) (t' := (.object "java/util/List")) (by decide) (by decide))))
  have f822 := (E0.wr W818)
  obtain ⟨T823, h823, X823, e823, W823, st823⟩ := putF X818 hx hZ hown (host := "") (Or.inl (own_h hw 305 rfl)) Via.refl e818 f821 f822 (Or.inr ⟨(own_h hw 306 rfl), rfl, hnm⟩) (own_h hw 287 rfl) (ty := .int) (by decide) rfl rfl (g := (mkF m 11 #[vR x, vR a, vI (0 : Int32)] [(.int (0 : Int32)), (.ref x)])) rfl rfl (hb hby d46_11)
  have N823 := Fr.snoc X823 N818 g_x
  have K823 : Keep h0 h823 [x] := K818.wr W823 (Or.inl (by simp))
  have Fw823 := f821.same W823
  have S824 : Go p e below s₁ (eF_lii m x a (0 : Int32)) T823 (mkF m 14 #[vR x, vR a, vI (0 : Int32)] []) := fun t kt => S820 t (st823 t kt)
  clear S820 st823 X818 e818
  have S825 : Go p e below s₁ (eF_lii m x a (0 : Int32)) T823 (mkF m 16 #[vR x, vR a, vI (0 : Int32)] [(.int (0 : Int32)), (.ref x)]) := fun t kt => S824 t (by
    refine XS.aloadN X823.here hx rfl (hb hby d46_14) rfl rfl ?_
    refine XS.iconst X823.here hx rfl (hb hby d46_15) ?_
    show Sp p e below T823 (mkF m 16 #[vR x, vR a, vI (0 : Int32)] [(.int (0 : Int32)), (.ref x)]) _
    exact kt)
  clear S824
  have f826 := ((F_cursor_x.other W818 (Or.inr (slot_ne (C := "java/util/ImmutableCollections$ListItr") (Or.inl (own_h hw 308 rfl)) (Or.inr (own_h hw 304 rfl)) (by decide) (t := .int) (t' := (.object "java/util/List")) (by decide) (by decide)))).other W823 (Or.inr (slot_ne (C := "java/util/ImmutableCollections$ListItr") (Or.inl (own_h hw 308 rfl)) (Or.inr (own_h hw 306 rfl)) (by decide) (t := .int) (t' := .int) (by decide) (by decide))))
  have f827 := (f822.wr W823)
  obtain ⟨T828, h828, X828, e828, W828, st828⟩ := putF X823 hx hZ hown (host := "") (Or.inl (own_h hw 307 rfl)) Via.refl e823 f826 f827 (Or.inl (own_h hw 308 rfl)) (own_h hw 287 rfl) (ty := .int) (by decide) rfl rfl (g := (mkF m 16 #[vR x, vR a, vI (0 : Int32)] [(.int (0 : Int32)), (.ref x)])) rfl rfl (hb hby d46_16)
  have N828 := Fr.snoc X828 N823 g_x
  have K828 : Keep h0 h828 [x] := K823.wr W828 (Or.inl (by simp))
  have Fw828 := f826.same W828
  have S829 : Go p e below s₁ (eF_lii m x a (0 : Int32)) T828 (mkF m 19 #[vR x, vR a, vI (0 : Int32)] []) := fun t kt => S825 t (st828 t kt)
  clear S825 st828 X823 e823
  have S830 : Go p e below s₁ (eF_lii m x a (0 : Int32)) T828 (mkF m 21 #[vR x, vR a, vI (0 : Int32)] [(.int (0 : Int32)), (.ref x)]) := fun t kt => S829 t (by
    refine XS.aloadN X828.here hx rfl (hb hby d46_19) rfl rfl ?_
    refine XS.iconst X828.here hx rfl (hb hby d46_20) ?_
    show Sp p e below T828 (mkF m 21 #[vR x, vR a, vI (0 : Int32)] [(.int (0 : Int32)), (.ref x)]) _
    exact kt)
  clear S829
  have f831 := (((F_isListIterator_x.other W818 (Or.inr (slot_ne (C := "java/util/ImmutableCollections$ListItr") (Or.inr (own_h hw 310 rfl)) (Or.inr (own_h hw 304 rfl)) (by decide) (t := .boolean) (t' := (.object "java/util/List")) (by decide) (by decide)))).other W823 (Or.inr (slot_ne (C := "java/util/ImmutableCollections$ListItr") (Or.inr (own_h hw 310 rfl)) (Or.inr (own_h hw 306 rfl)) (by decide) (t := .boolean) (t' := .int) (by decide) (by decide)))).other W828 (Or.inr (slot_ne (C := "java/util/ImmutableCollections$ListItr") (Or.inr (own_h hw 310 rfl)) (Or.inl (own_h hw 308 rfl)) (by decide) (t := .boolean) (t' := .int) (by decide) (by decide))))
  have f832 := (f827.wr W828)
  obtain ⟨T833, h833, X833, e833, W833, st833⟩ := putFN X828 hx hZ hown (own_h hw 309 rfl) Via.refl e828 f831 f832 (Or.inr ⟨(own_h hw 310 rfl), rfl, hnm⟩) (own_h hw 287 rfl) (ty := .boolean) (v' := .int ((0 : Int32) &&& 1)) (by decide) rfl (fits_nar_bool _) (g := (mkF m 21 #[vR x, vR a, vI (0 : Int32)] [(.int (0 : Int32)), (.ref x)])) rfl rfl (hb hby d46_21)
  have N833 := Fr.snoc X833 N828 g_x
  have K833 : Keep h0 h833 [x] := K828.wr W833 (Or.inl (by simp))
  have Fw833 := f831.same W833
  have S834 : Go p e below s₁ (eF_lii m x a (0 : Int32)) T833 (mkF m 24 #[vR x, vR a, vI (0 : Int32)] []) := fun t kt => S830 t (st833 t kt)
  clear S830 st833 X828 e828
  have f835 := (f832.wr W833)
  have f836 := ((Fw823.other W828 (Or.inr (slot_ne (C := "java/util/ImmutableCollections$ListItr") (Or.inr (own_h hw 306 rfl)) (Or.inl (own_h hw 308 rfl)) (by decide) (t := .int) (t' := .int) (by decide) (by decide)))).other W833 (Or.inr (slot_ne (C := "java/util/ImmutableCollections$ListItr") (Or.inr (own_h hw 306 rfl)) (Or.inr (own_h hw 310 rfl)) (by decide) (t := .int) (t' := .boolean) (by decide) (by decide))))
  have f837 := (Fw828.other W833 (Or.inr (slot_ne (C := "java/util/ImmutableCollections$ListItr") (Or.inl (own_h hw 308 rfl)) (Or.inr (own_h hw 310 rfl)) (by decide) (t := .int) (t' := .boolean) (by decide) (by decide))))
  obtain ⟨fs, hr, hrun, hended, hW, hsame⟩ := X833.leave (v := none) (fun h => by first | rfl | (rw [Bd.returns] at h; cases h))
  refine ⟨_, _, S834 _ ?_, hrun, hended, _, _, rfl, ?_, ⟨_, rfl⟩, hW, hsame.mono (by decide) (by decide)⟩
  · exact X833.returnOut hx Bd.returns (hb hby d46_24) hr
  · show Q_lii Z x h0 n0 _ T833.heap _
    rw [e833]
    exact ⟨rfl, N833, K833, f835, f836, f837⟩
abbrev eF_itr (m : MethodId) (x0 : Addr) : JFrame := entryFrame m #[(.ref x0)] 1
theorem ef_itr (m : MethodId) (x0 : Addr) : entryFrame m #[(.ref x0)] 1 = mkF m 0 #[.val (.ref x0)] [] := by first | (simp [entryFrame, mkF, argsToLocals, Value.category]; done) | rfl
theorem pn_itr : plainName "java/util/ImmutableCollections$AbstractImmutableList" = true := by first | (simp [plainName, overriddenIn]; done) | decide +kernel
def Q_itr (Z : State)  (h0 : Heap) (n0 : Nat) (v : Option Value) (h : Heap) (L : List Loc) : Prop := ∃ x, v = some (.ref x) ∧ Fr n0 L ∧ Keep h0 h [] ∧ h0.size ≤ x ∧ Exa Z h x "java/util/ImmutableCollections$ListItr" ∧ Fld Z h x "java/util/ImmutableCollections$ListItr" "size" "I" (.int (0 : Int32)) ∧ Fld Z h x "java/util/ImmutableCollections$ListItr" "cursor" "I" (.int (0 : Int32))
set_option maxRecDepth 65536 in
set_option maxHeartbeats 40000000 in
theorem rm_itr (l : Launch) (Z : State) (a0 : Array Value) (hw : ∀ d ∈ tables_1, d.before a0 Z = true) (ws : List Jvm.Cond) (a : Addr) (el : Addr) (kel : ClassId) (h0 : Heap) (n0 : Nat) (Z0 : n0 ≤ h0.size) (Ea : Exa Z h0 a "java/util/ImmutableCollections$ListN") (F0 : Fld Z h0 a "java/util/ImmutableCollections$ListN" "elements" "[Ljava/lang/Object;" (.ref el)) (V0 : Arv Z h0 el kel (.object "java/lang/Object") (0 : Int32) [] .null) :
    MetFree l (⟨"java/util/ImmutableCollections$AbstractImmutableList", "iterator", "()Ljava/util/Iterator;"⟩ : MethodName) (head1 (Jvm.Cond.code (⟨"java/util/ImmutableCollections$AbstractImmutableList", "iterator", "()Ljava/util/Iterator;"⟩ : MethodName) jdk_46_method_10_code 1 (some (.object "java/util/Iterator")) :: ws) ({ frames := 2, cells := 1, slots := 4, locals := 27 } : Room)) (fun aa U => aa = #[(.ref a)] ∧ Z.Warmed39 U.vm ∧ U.heap = h0) (fun _ _ _ _ _ => True) (fun _ U o U' => ∃ v L, o = .returned v ∧ Q_itr Z  h0 n0 v U'.heap L ∧ FrameEnd U o U' L ({ frames := 2, cells := 1, slots := 4, locals := 27 } : Room).cells ({ frames := 2, cells := 1, slots := 4, locals := 27 } : Room).slots) := by
  refine MetFree.of_bodySF (plainFor_of_name pn_itr) hisR ?_
  intro p e s m args below meth c s₁ Bd hml0 hP hK
  obtain ⟨rfl, hZ, hh⟩ := hP
  have hx := Bd.exec
  have hby := Bd.bytes
  have hml : c.maxLocals = 1 := hml0
  have hown : s.vm.findClass "java/util/ImmutableCollections$AbstractImmutableList" = some m.cls := findClass_of_methodNamed Bd.named
  have hnm := (name_of_methodNamed Bd.named Bd.method).1
  have X0 : Stand p l e ({ frames := 2, cells := 1, slots := 4, locals := 27 } : Room) s m #[(.ref a)] below meth c s₁ [] 0 0 := Stand.of_body Bd
  have e0 : s₁.heap = h0 := by rw [← hh, Bd.state]; rfl
  have N0 := Fr.nil n0
  have S0 : Go p e below s₁ (eF_itr m a) s₁ (mkF m 0 #[vR a] []) := fun t k => castTop (ef_itr m a) k
  obtain ⟨T838, h838, X838, e838, E838, A838, D838, -, st838⟩ := newO X0 hx hZ hown (own_h hw 286 rfl) (own_h hw 287 rfl) (own_h hw 288 rfl) e0 (g := (mkF m 0 #[vR a] [])) rfl (hb hby d44_0) (by decide) (by decide)
  obtain ⟨x1, g838⟩ : ∃ z, z = h0.size := ⟨_, rfl⟩
  rw [← g838] at A838 D838 st838
  have ne839 : a ≠ x1 := by rw [g838]; exact Nat.ne_of_lt Ea.lt
  have ne840 : el ≠ x1 := by rw [g838]; exact Nat.ne_of_lt V0.lt
  have g_x1 : n0 ≤ x1 := Nat.le_trans Z0 (Nat.le_of_eq g838.symm)
  have sz_x1 : h0.size ≤ x1 := Nat.le_trans (Keep.refl h0 []).1 (Nat.le_of_eq g838.symm)
  have K838 : Keep h0 h838 [] := (Keep.refl h0 []).ext E838
  have F_list_x1 : Fld Z h838 x1 "java/util/ImmutableCollections$ListItr" "list" "Ljava/util/List;" .null := D838 (Or.inr (own_h hw 304 rfl)) (ty := (.object "java/util/List")) (by decide)
  have F_size_x1 : Fld Z h838 x1 "java/util/ImmutableCollections$ListItr" "size" "I" (.int (0 : Int32)) := D838 (Or.inr (own_h hw 306 rfl)) (ty := .int) (by decide)
  have F_cursor_x1 : Fld Z h838 x1 "java/util/ImmutableCollections$ListItr" "cursor" "I" (.int (0 : Int32)) := D838 (Or.inl (own_h hw 308 rfl)) (ty := .int) (by decide)
  have F_isListIterator_x1 : Fld Z h838 x1 "java/util/ImmutableCollections$ListItr" "isListIterator" "Z" (.int (0 : Int32)) := D838 (Or.inr (own_h hw 310 rfl)) (ty := .boolean) (by decide)
  have S841 : Go p e below s₁ (eF_itr m a) T838 (mkF m 3 #[vR a] [(.ref x1)]) := fun t kt => S0 t (st838 t kt)
  clear S0 st838 X0 e0
  have S842 : Go p e below s₁ (eF_itr m a) T838 (mkF m 6 #[vR a] [(.ref a), (.ref a), (.ref x1), (.ref x1)]) := fun t kt => S841 t (by
    refine XS.dup X838.here hx rfl (hb hby d44_3) rfl rfl ?_
    refine XS.aloadN X838.here hx rfl (hb hby d44_4) rfl rfl ?_
    show Sp p e below T838 (mkF m 5 #[vR a] [(.ref a), (.ref x1), (.ref x1)]) _
    refine XS.aloadN X838.here hx rfl (hb hby d44_5) rfl rfl ?_
    exact kt)
  clear S841
  have f843 := (F0.ext E838)
  have f844 := (V0.ext E838)
  have f846 := (Ea.ext E838)
  obtain ⟨cq845, kq845, q845a, q845b, q845c⟩ := isOf hZ e838 f846
  obtain ⟨v845, T845, L845, X845, hQ845, st845⟩ := own_outV (X838.virtualBackUp hx (x := (⟨"java/util/ImmutableCollections$AbstractImmutableList", "size", "()I"⟩ : MethodName)) (y := (⟨"java/util/ImmutableCollections$ListN", "size", "()I"⟩ : MethodName)) (owner := "java/util/AbstractCollection") hown (mvT hZ (own_h hw 289 rfl)) (mvT hZ (own_h hw 290 rfl)) (mvT hZ (own_h hw 291 rfl)) (by decide) (mvT hZ (own_h hw 292 rfl)) (mvT hZ (own_h hw 293 rfl)) (backOf (W := 3) (rm_lns l Z a0 hw [] a el kel h838 n0 (Nat.le_trans Z0 E838.1) f843 f844) hZ (own_h hw 295 rfl) (own_h hw 294 rfl) (by decide) (by decide)) q845a q845c (g := (mkF m 6 #[vR a] [(.ref a), (.ref a), (.ref x1), (.ref x1)])) rfl (by rw [hml]; rfl) (Steps.refl _) (argsL := []) (rest := [(.ref a), (.ref x1), (.ref x1)]) (lenOf pd___I rfl) rfl (by show 2 * 0 + _ ≤ _; exact Nat.le_of_eq rfl) (hb hby d44_6) (fun _ _ => ⟨rfl, e838, (by decide : 1 + 0 ≤ _), (by decide : 4 + 0 ≤ _)⟩))
  obtain ⟨rfl, N845q, e845⟩ := hQ845
  have N845 := Fr.app N0 N845q
  have S847 : Go p e below s₁ (eF_itr m a) T845 (mkF m 9 #[vR a] [(.int (0 : Int32)), (.ref a), (.ref x1), (.ref x1)]) := fun t kt => S842 t (st845 t kt)
  clear S842 st845 X838 e838
  obtain ⟨v848, T848, L848, X848, hQ848, st848⟩ := own_outV (X845.specialBack hx (y := (⟨"java/util/ImmutableCollections$ListItr", "<init>", "(Ljava/util/List;I)V"⟩ : MethodName)) rfl hown (mvT hZ (own_h hw 298 rfl)) (mvT hZ (own_h hw 299 rfl)) (mvT hZ (own_h hw 301 rfl)) (by decide) (backOf (W := 1) (rm_lii l Z a0 hw [] x1 a h838 n0 (Nat.le_trans Z0 E838.1) A838 F_list_x1 F_size_x1 F_cursor_x1 F_isListIterator_x1 g_x1) hZ (own_h hw 301 rfl) (own_h hw 288 rfl) (by decide) (by decide)) (g := (mkF m 9 #[vR a] [(.int (0 : Int32)), (.ref a), (.ref x1), (.ref x1)])) rfl (by rw [hml]; rfl) (Steps.refl _) (a := x1) (argsL := [(.ref a), (.int (0 : Int32))]) (rest := [(.ref x1)]) (lenOf pd__Ljava_util_List_I_V rfl) rfl (by show 2 * 0 + _ ≤ _; exact Nat.le_of_eq rfl) (hb hby d44_9) (fun _ _ => ⟨rfl, e845, (by decide : 1 + 0 ≤ _), (by decide : 4 + 0 ≤ _)⟩))
  obtain ⟨rfl, N848q, K848, E848, Fs848, Fc848⟩ := hQ848
  have N848 := Fr.app N845 N848q
  have KK848 : Keep h0 T848.heap [] := K838.trans K848 (allS (Or.inr sz_x1) all0)
  have S849 : Go p e below s₁ (eF_itr m a) T848 (mkF m 12 #[vR a] [(.ref x1)]) := fun t kt => S847 t (st848 t kt)
  clear S847 st848 X845 e845
  obtain ⟨fs, hr, hrun, hended, hW, hsame⟩ := X848.leave (v := some (.ref x1)) (fun h => by first | rfl | (rw [Bd.returns] at h; cases h))
  refine ⟨_, _, S849 _ ?_, hrun, hended, _, _, rfl, ?_, ⟨_, rfl⟩, hW, hsame.mono (by decide) (by decide)⟩
  · exact retOut X848 hx Bd.returns rfl (Or.inr (Or.inr (Or.inr (Or.inr ⟨rfl, rfl, rfl⟩)))) (hb hby d44_12) hr
  · show Q_itr Z  h0 n0 _ T848.heap _
    exact ⟨x1, rfl, N848, KK848, sz_x1, E848, Fs848, Fc848⟩
abbrev eF_hnx (m : MethodId) (x0 : Addr) : JFrame := entryFrame m #[(.ref x0)] 1
theorem ef_hnx (m : MethodId) (x0 : Addr) : entryFrame m #[(.ref x0)] 1 = mkF m 0 #[.val (.ref x0)] [] := by first | (simp [entryFrame, mkF, argsToLocals, Value.category]; done) | rfl
theorem pn_hnx : plainName "java/util/ImmutableCollections$ListItr" = true := by first | (simp [plainName, overriddenIn]; done) | decide +kernel
def Q_hnx (Z : State)  (h0 : Heap) (n0 : Nat) (v : Option Value) (h : Heap) (L : List Loc) : Prop := v = some (.int (0 : Int32)) ∧ Fr n0 L ∧ h = h0
set_option maxRecDepth 65536 in
set_option maxHeartbeats 40000000 in
theorem rm_hnx (l : Launch) (Z : State) (a0 : Array Value) (hw : ∀ d ∈ tables_1, d.before a0 Z = true) (ws : List Jvm.Cond) (x : Addr) (h0 : Heap) (n0 : Nat) (Z0 : n0 ≤ h0.size) (Fs : Fld Z h0 x "java/util/ImmutableCollections$ListItr" "size" "I" (.int (0 : Int32))) (Fc : Fld Z h0 x "java/util/ImmutableCollections$ListItr" "cursor" "I" (.int (0 : Int32))) :
    MetFree l (⟨"java/util/ImmutableCollections$ListItr", "hasNext", "()Z"⟩ : MethodName) (head1 (Jvm.Cond.code (⟨"java/util/ImmutableCollections$ListItr", "hasNext", "()Z"⟩ : MethodName) jdk_53_method_3_code 1 (some .boolean) :: ws) ({ frames := 0, cells := 0, slots := 0, locals := 0 } : Room)) (fun aa U => aa = #[(.ref x)] ∧ Z.Warmed39 U.vm ∧ U.heap = h0) (fun _ _ _ _ _ => True) (fun _ U o U' => ∃ v L, o = .returned v ∧ Q_hnx Z  h0 n0 v U'.heap L ∧ FrameEnd U o U' L ({ frames := 0, cells := 0, slots := 0, locals := 0 } : Room).cells ({ frames := 0, cells := 0, slots := 0, locals := 0 } : Room).slots) := by
  refine MetFree.of_bodySF (plainFor_of_name pn_hnx) hisR ?_
  intro p e s m args below meth c s₁ Bd hml0 hP hK
  obtain ⟨rfl, hZ, hh⟩ := hP
  have hx := Bd.exec
  have hby := Bd.bytes
  have hml : c.maxLocals = 1 := hml0
  have hown : s.vm.findClass "java/util/ImmutableCollections$ListItr" = some m.cls := findClass_of_methodNamed Bd.named
  have hnm := (name_of_methodNamed Bd.named Bd.method).1
  have X0 : Stand p l e ({ frames := 0, cells := 0, slots := 0, locals := 0 } : Room) s m #[(.ref x)] below meth c s₁ [] 0 0 := Stand.of_body Bd
  have e0 : s₁.heap = h0 := by rw [← hh, Bd.state]; rfl
  have N0 := Fr.nil n0
  have S0 : Go p e below s₁ (eF_hnx m x) s₁ (mkF m 0 #[vR x] []) := fun t k => castTop (ef_hnx m x) k
  have S850 : Go p e below s₁ (eF_hnx m x) s₁ (mkF m 1 #[vR x] [(.ref x)]) := fun t kt => S0 t (by
    refine XS.aloadN X0.here hx rfl (hb hby d47_0) rfl rfl ?_
    exact kt)
  clear S0
  obtain ⟨T851, X851, e851, st851⟩ := getF X0 hx hZ hown (host := "") (Or.inl (own_h hw 307 rfl)) Via.refl e0 Fc (g := (mkF m 1 #[vR x] [(.ref x)])) rfl rfl (hb hby d47_1)
  have S852 : Go p e below s₁ (eF_hnx m x) T851 (mkF m 4 #[vR x] [(.int (0 : Int32))]) := fun t kt => S850 t (st851 t kt)
  clear S850 st851 X0 e0
  have S853 : Go p e below s₁ (eF_hnx m x) T851 (mkF m 5 #[vR x] [(.ref x), (.int (0 : Int32))]) := fun t kt => S852 t (by
    refine XS.aloadN X851.here hx rfl (hb hby d47_4) rfl rfl ?_
    exact kt)
  clear S852
  obtain ⟨T854, X854, e854, st854⟩ := getF X851 hx hZ hown (host := "") (Or.inl (own_h hw 305 rfl)) Via.refl e851 Fs (g := (mkF m 5 #[vR x] [(.ref x), (.int (0 : Int32))])) rfl rfl (hb hby d47_5)
  have S855 : Go p e below s₁ (eF_hnx m x) T854 (mkF m 8 #[vR x] [(.int (0 : Int32)), (.int (0 : Int32))]) := fun t kt => S853 t (st854 t kt)
  clear S853 st854 X851 e851
  have S856 : Go p e below s₁ (eF_hnx m x) T854 (mkF m 16 #[vR x] [(.int (0 : Int32))]) := fun t kt => S855 t (by
    refine XS.icmpYes X854.here hx rfl (pc0 := 8) (pc' := 15) rfl (hb hby d47_8) rfl (teq (show (0 : Int32) = (0 : Int32) from (by decide))).1 (by decide) (by decide) ?_
    refine XS.iconst X854.here hx rfl (hb hby d47_15) ?_
    show Sp p e below T854 (mkF m 16 #[vR x] [(.int (0 : Int32))]) _
    exact kt)
  clear S855
  obtain ⟨fs, hr, hrun, hended, hW, hsame⟩ := X854.leave (v := some (.int (0 : Int32))) (fun h => by first | rfl | (rw [Bd.returns] at h; cases h))
  refine ⟨_, _, S856 _ ?_, hrun, hended, _, _, rfl, ?_, ⟨_, rfl⟩, hW, hsame.mono (by decide) (by decide)⟩
  · exact retN X854 hx (t := .boolean) Bd.returns (by simp) (hb hby d47_16) hr
  · show Q_hnx Z  h0 n0 _ T854.heap _
    rw [e854]
    exact ⟨rfl, N0, rfl⟩
abbrev eF_ref (m : MethodId) (x0 : Addr) (x1 : Addr) : JFrame := entryFrame m #[(.ref x0), (.ref x1)] 4
theorem ef_ref (m : MethodId) (x0 : Addr) (x1 : Addr) : entryFrame m #[(.ref x0), (.ref x1)] 4 = mkF m 0 #[.val (.ref x0), .val (.ref x1), .unset, .unset] [] := by first | (simp [entryFrame, mkF, argsToLocals, Value.category]; done) | rfl
theorem pn_ref : plainName "com/example/tranchery/tranchery/journal/Schedule" = true := by first | (simp [plainName, overriddenIn]; done) | decide +kernel
def Q_ref (Z : State)  (h0 : Heap) (n0 : Nat) (v : Option Value) (h : Heap) (L : List Loc) : Prop := v = none ∧ Fr n0 L ∧ Keep h0 h []
set_option maxRecDepth 65536 in
set_option maxHeartbeats 40000000 in
theorem rm_ref (l : Launch) (Z : State) (a0 : Array Value) (hw : ∀ d ∈ tables_1, d.before a0 Z = true) (ws : List Jvm.Cond) (x : Addr) (a : Addr) (el : Addr) (kel : ClassId) (h0 : Heap) (n0 : Nat) (Z0 : n0 ≤ h0.size) (Ea : Exa Z h0 a "java/util/ImmutableCollections$ListN") (F0 : Fld Z h0 a "java/util/ImmutableCollections$ListN" "elements" "[Ljava/lang/Object;" (.ref el)) (V0 : Arv Z h0 el kel (.object "java/lang/Object") (0 : Int32) [] .null) :
    MetFree l (⟨"com/example/tranchery/tranchery/journal/Schedule", "refile", "(Ljava/util/List;)V"⟩ : MethodName) (head1 (Jvm.Cond.code (⟨"com/example/tranchery/tranchery/journal/Schedule", "refile", "(Ljava/util/List;)V"⟩ : MethodName) prog_85_method_15_code 4 none :: ws) ({ frames := 3, cells := 1, slots := 4, locals := 39 } : Room)) (fun aa U => aa = #[(.ref x), (.ref a)] ∧ Z.Warmed39 U.vm ∧ U.heap = h0) (fun _ _ _ _ _ => True) (fun _ U o U' => ∃ v L, o = .returned v ∧ Q_ref Z  h0 n0 v U'.heap L ∧ FrameEnd U o U' L ({ frames := 3, cells := 1, slots := 4, locals := 39 } : Room).cells ({ frames := 3, cells := 1, slots := 4, locals := 39 } : Room).slots) := by
  refine MetFree.of_bodySF (plainFor_of_name pn_ref) hisR ?_
  intro p e s m args below meth c s₁ Bd hml0 hP hK
  obtain ⟨rfl, hZ, hh⟩ := hP
  have hx := Bd.exec
  have hby := Bd.bytes
  have hml : c.maxLocals = 4 := hml0
  have hown : s.vm.findClass "com/example/tranchery/tranchery/journal/Schedule" = some m.cls := findClass_of_methodNamed Bd.named
  have hnm := (name_of_methodNamed Bd.named Bd.method).1
  have X0 : Stand p l e ({ frames := 3, cells := 1, slots := 4, locals := 39 } : Room) s m #[(.ref x), (.ref a)] below meth c s₁ [] 0 0 := Stand.of_body Bd
  have e0 : s₁.heap = h0 := by rw [← hh, Bd.state]; rfl
  have N0 := Fr.nil n0
  have S0 : Go p e below s₁ (eF_ref m x a) s₁ (mkF m 0 #[vR x, vR a, vU, vU] []) := fun t k => castTop (ef_ref m x a) k
  have S857 : Go p e below s₁ (eF_ref m x a) s₁ (mkF m 1 #[vR x, vR a, vU, vU] [(.ref a)]) := fun t kt => S0 t (by
    refine XS.aloadN X0.here hx rfl (hb hby d43_0) rfl rfl ?_
    exact kt)
  clear S0
  obtain ⟨cq858, kq858, q858a, q858b, q858c⟩ := isOf hZ e0 Ea
  obtain ⟨v858, T858, L858, X858, hQ858, st858⟩ := own_outV (X0.interfaceBack hx (xi := (⟨"java/util/List", "iterator", "()Ljava/util/Iterator;"⟩ : MethodName)) (y := (⟨"java/util/ImmutableCollections$AbstractImmutableList", "iterator", "()Ljava/util/Iterator;"⟩ : MethodName)) hown (mvT hZ (own_h hw 276 rfl)) (mvT hZ (own_h hw 277 rfl)) (mvT hZ (own_h hw 278 rfl)) (mvT hZ (own_h hw 279 rfl)) (mvT hZ (own_h hw 280 rfl)) (mvT hZ (own_h hw 281 rfl)) (mvT hZ (own_h hw 282 rfl)) (mvT hZ (own_h hw 283 rfl)) (by decide) (backOf (W := 0) (rm_itr l Z a0 hw [] a el kel h0 n0 Z0 Ea F0 V0) hZ (own_h hw 285 rfl) (own_h hw 284 rfl) (by decide) (by decide)) q858a q858b q858c (g := (mkF m 1 #[vR x, vR a, vU, vU] [(.ref a)])) rfl (by rw [hml]; rfl) (Steps.refl _) (argsL := []) (rest := []) (lenOf pd___Ljava_util_Iterator_ rfl) rfl (by show 2 * 0 + _ ≤ _; exact Nat.le_of_eq rfl) (hb hby d43_1) (fun _ _ => ⟨rfl, e0, (by decide : 0 + 1 ≤ _), (by decide : 0 + 4 ≤ _)⟩))
  obtain ⟨it, rfl, N858q, K858, sz858, E858, Fs858, Fc858⟩ := hQ858
  have N858 := Fr.app N0 N858q
  have KK858 : Keep h0 T858.heap [] := (Keep.refl h0 []).trans K858 all0
  have S859 : Go p e below s₁ (eF_ref m x a) T858 (mkF m 6 #[vR x, vR a, vU, vU] [(.ref it)]) := fun t kt => S857 t (st858 t kt)
  clear S857 st858 X0 e0
  have S860 : Go p e below s₁ (eF_ref m x a) T858 (mkF m 8 #[vR x, vR a, vR it, vU] [(.ref it)]) := fun t kt => S859 t (by
    refine XS.astoreN X858.here hx rfl (hb hby d43_6) rfl rfl (l' := #[vR x, vR a, vR it, vU]) rfl ?_
    refine XS.aloadN X858.here hx rfl (hb hby d43_7) rfl rfl ?_
    show Sp p e below T858 (mkF m 8 #[vR x, vR a, vR it, vU] [(.ref it)]) _
    exact kt)
  clear S859
  obtain ⟨cq861, kq861, q861a, q861b, q861c⟩ := isOf hZ rfl E858
  obtain ⟨v861, T861, L861, X861, hQ861, st861⟩ := own_outV (X858.interfaceBack hx (xi := (⟨"java/util/Iterator", "hasNext", "()Z"⟩ : MethodName)) (y := (⟨"java/util/ImmutableCollections$ListItr", "hasNext", "()Z"⟩ : MethodName)) hown (mvT hZ (own_h hw 311 rfl)) (mvT hZ (own_h hw 312 rfl)) (mvT hZ (own_h hw 313 rfl)) (mvT hZ (own_h hw 314 rfl)) (mvT hZ (own_h hw 315 rfl)) (mvT hZ (own_h hw 316 rfl)) (mvT hZ (own_h hw 317 rfl)) (mvT hZ (own_h hw 318 rfl)) (by decide) (backOf (W := 0) (rm_hnx l Z a0 hw [] it T858.heap n0 (Nat.le_trans Z0 K858.1) Fs858 Fc858) hZ (own_h hw 319 rfl) (own_h hw 288 rfl) (by decide) (by decide)) q861a q861b q861c (g := (mkF m 8 #[vR x, vR a, vR it, vU] [(.ref it)])) rfl (by rw [hml]; rfl) (Steps.refl _) (argsL := []) (rest := []) (lenOf pd___Z rfl) rfl (by show 2 * 0 + _ ≤ _; exact Nat.le_of_eq rfl) (hb hby d43_8) (fun _ _ => ⟨rfl, rfl, (by decide : 1 + 0 ≤ _), (by decide : 4 + 0 ≤ _)⟩))
  obtain ⟨rfl, N861q, e861⟩ := hQ861
  have N861 := Fr.app N858 N861q
  have S862 : Go p e below s₁ (eF_ref m x a) T861 (mkF m 13 #[vR x, vR a, vR it, vU] [(.int (0 : Int32))]) := fun t kt => S860 t (st861 t kt)
  clear S860 st861 X858
  have S863 : Go p e below s₁ (eF_ref m x a) T861 (mkF m 46 #[vR x, vR a, vR it, vU] []) := fun t kt => S862 t (by
    refine XS.ifYes X861.here hx rfl (pc0 := 13) (pc' := 46) rfl (hb hby d43_13) rfl ((if0 _ _).trans (teq (show (0 : Int32) = (0 : Int32) from (by decide))).1) (by decide) (by decide) ?_
    exact kt)
  clear S862
  obtain ⟨fs, hr, hrun, hended, hW, hsame⟩ := X861.leave (v := none) (fun h => by first | rfl | (rw [Bd.returns] at h; cases h))
  refine ⟨_, _, S863 _ ?_, hrun, hended, _, _, rfl, ?_, ⟨_, rfl⟩, hW, hsame.mono (by decide) (by decide)⟩
  · exact X861.returnOut hx Bd.returns (hb hby d43_46) hr
  · show Q_ref Z  h0 n0 _ T861.heap _
    rw [e861]
    exact ⟨rfl, N861, KK858⟩
abbrev eF_fmt (m : MethodId) (x0 : Addr) : JFrame := entryFrame m #[(.ref x0)] 1
theorem ef_fmt (m : MethodId) (x0 : Addr) : entryFrame m #[(.ref x0)] 1 = mkF m 0 #[.val (.ref x0)] [] := by first | (simp [entryFrame, mkF, argsToLocals, Value.category]; done) | rfl
theorem pn_fmt : plainName "com/example/tranchery/tranchery/journal/Schedule" = true := by first | (simp [plainName, overriddenIn]; done) | decide +kernel
def Q_fmt (Z : State)  (h0 : Heap) (n0 : Nat) (v : Option Value) (h : Heap) (L : List Loc) : Prop := v = none ∧ Fr n0 L ∧ h = h0
set_option maxRecDepth 65536 in
set_option maxHeartbeats 40000000 in
theorem rm_fmt (l : Launch) (Z : State) (a0 : Array Value) (hw : ∀ d ∈ tables_1, d.before a0 Z = true) (ws : List Jvm.Cond) (x : Addr) (h0 : Heap) (n0 : Nat) (Z0 : n0 ≤ h0.size) (F0 : Fld Z h0 x "com/example/tranchery/tranchery/journal/Schedule" "maturity" "Ljava/time/LocalDate;" .null) :
    MetFree l (⟨"com/example/tranchery/tranchery/journal/Schedule", "fileMaturity", "()V"⟩ : MethodName) (head1 (Jvm.Cond.code (⟨"com/example/tranchery/tranchery/journal/Schedule", "fileMaturity", "()V"⟩ : MethodName) prog_85_method_16_code 1 none :: ws) ({ frames := 0, cells := 0, slots := 0, locals := 0 } : Room)) (fun aa U => aa = #[(.ref x)] ∧ Z.Warmed39 U.vm ∧ U.heap = h0) (fun _ _ _ _ _ => True) (fun _ U o U' => ∃ v L, o = .returned v ∧ Q_fmt Z  h0 n0 v U'.heap L ∧ FrameEnd U o U' L ({ frames := 0, cells := 0, slots := 0, locals := 0 } : Room).cells ({ frames := 0, cells := 0, slots := 0, locals := 0 } : Room).slots) := by
  refine MetFree.of_bodySF (plainFor_of_name pn_fmt) hisR ?_
  intro p e s m args below meth c s₁ Bd hml0 hP hK
  obtain ⟨rfl, hZ, hh⟩ := hP
  have hx := Bd.exec
  have hby := Bd.bytes
  have hml : c.maxLocals = 1 := hml0
  have hown : s.vm.findClass "com/example/tranchery/tranchery/journal/Schedule" = some m.cls := findClass_of_methodNamed Bd.named
  have hnm := (name_of_methodNamed Bd.named Bd.method).1
  have X0 : Stand p l e ({ frames := 0, cells := 0, slots := 0, locals := 0 } : Room) s m #[(.ref x)] below meth c s₁ [] 0 0 := Stand.of_body Bd
  have e0 : s₁.heap = h0 := by rw [← hh, Bd.state]; rfl
  have N0 := Fr.nil n0
  have S0 : Go p e below s₁ (eF_fmt m x) s₁ (mkF m 0 #[vR x] []) := fun t k => castTop (ef_fmt m x) k
  have S864 : Go p e below s₁ (eF_fmt m x) s₁ (mkF m 1 #[vR x] [(.ref x)]) := fun t kt => S0 t (by
    refine XS.aloadN X0.here hx rfl (hb hby d48_0) rfl rfl ?_
    exact kt)
  clear S0
  obtain ⟨T865, X865, e865, st865⟩ := getF X0 hx hZ hown (host := "") (Or.inl (own_h hw 324 rfl)) Via.refl e0 F0 (g := (mkF m 1 #[vR x] [(.ref x)])) rfl rfl (hb hby d48_1)
  have S866 : Go p e below s₁ (eF_fmt m x) T865 (mkF m 4 #[vR x] [.null]) := fun t kt => S864 t (st865 t kt)
  clear S864 st865 X0 e0
  have S867 : Go p e below s₁ (eF_fmt m x) T865 (mkF m 22 #[vR x] []) := fun t kt => S866 t (by
    refine XS.ifnullYes X865.here hx rfl (pc0 := 4) (pc' := 22) rfl (hb hby d48_4) rfl (by decide) (by decide) ?_
    exact kt)
  clear S866
  obtain ⟨fs, hr, hrun, hended, hW, hsame⟩ := X865.leave (v := none) (fun h => by first | rfl | (rw [Bd.returns] at h; cases h))
  refine ⟨_, _, S867 _ ?_, hrun, hended, _, _, rfl, ?_, ⟨_, rfl⟩, hW, hsame.mono (by decide) (by decide)⟩
  · exact X865.returnOut hx Bd.returns (hb hby d48_22) hr
  · show Q_fmt Z  h0 n0 _ T865.heap _
    rw [e865]
    exact ⟨rfl, N0, rfl⟩
abbrev eF_sr0 (m : MethodId) (x0 : Addr) (x1 : Addr) (x2 : Addr) : JFrame := entryFrame m #[(.ref x0), (.ref x1), (.ref x2)] 3
theorem ef_sr0 (m : MethodId) (x0 : Addr) (x1 : Addr) (x2 : Addr) : entryFrame m #[(.ref x0), (.ref x1), (.ref x2)] 3 = mkF m 0 #[.val (.ref x0), .val (.ref x1), .val (.ref x2)] [] := by first | (simp [entryFrame, mkF, argsToLocals, Value.category]; done) | rfl
theorem pn_sr0 : plainName "com/example/tranchery/tranchery/journal/Schedule" = true := by first | (simp [plainName, overriddenIn]; done) | decide +kernel
def Q_sr0 (Z : State) (sc : Addr) (iq : Addr) (x : Addr) (dt : Addr) (rl : Addr) (da : Addr) (fa : Addr) (va : Addr) (kd : ClassId) (kf : ClassId) (kv : ClassId) (yn : Nat) (mn : Nat) (dn : Nat) (h0 : Heap) (n0 : Nat) (v : Option Value) (h : Heap) (L : List Loc) : Prop := v = none ∧ Fr n0 L ∧ Keep h0 h [x, da, fa, va] ∧  Exa Z h sc "com/example/tranchery/tranchery/journal/Schedule" ∧ Fld Z h sc "com/example/tranchery/tranchery/journal/Schedule" "waiting" "Lcom/example/tranchery/tranchery/journal/InstallmentQueue;" (.ref iq) ∧ Fld Z h sc "com/example/tranchery/tranchery/journal/Schedule" "rules" "Lcom/example/tranchery/tranchery/journal/Timeline;" (.ref x) ∧ Fld Z h sc "com/example/tranchery/tranchery/journal/Schedule" "maturity" "Ljava/time/LocalDate;" .null ∧ Exa Z h iq "com/example/tranchery/tranchery/journal/InstallmentQueue" ∧ Fld Z h iq "com/example/tranchery/tranchery/journal/InstallmentQueue" "count" "I" (.int (0 : Int32)) ∧ Exa Z h x "com/example/tranchery/tranchery/journal/Timeline" ∧ Fld Z h x "com/example/tranchery/tranchery/journal/Timeline" "days" "[J" (.ref da) ∧ Fld Z h x "com/example/tranchery/tranchery/journal/Timeline" "firstDays" "[Ljava/time/LocalDate;" (.ref fa) ∧ Fld Z h x "com/example/tranchery/tranchery/journal/Timeline" "values" "[Ljava/lang/Object;" (.ref va) ∧ Fld Z h x "com/example/tranchery/tranchery/journal/Timeline" "size" "I" (.int (1 : Int32)) ∧ Arv Z h da kd .long (4 : Int32) [(.long (Int64.ofNat (own_t yn mn dn) - (719528 : Int64))), (.long (0 : Int64)), (.long (0 : Int64)), (.long (0 : Int64))] (.long (0 : Int64)) ∧ Arv Z h fa kf (.object "java/time/LocalDate") (4 : Int32) [(.ref dt), .null, .null, .null] .null ∧ Arv Z h va kv (.object "java/lang/Object") (4 : Int32) [(.ref rl), .null, .null, .null] .null ∧ Ovr Z kf "java/time/LocalDate" ∧ Ovr Z kv "java/lang/Object"
set_option maxRecDepth 65536 in
set_option maxHeartbeats 40000000 in
theorem rm_sr0 (l : Launch) (Z : State) (a0 : Array Value) (hw : ∀ d ∈ tables_1, d.before a0 Z = true) (ws : List Jvm.Cond) (sc : Addr) (iq : Addr) (x : Addr) (dt : Addr) (rl : Addr) (da : Addr) (fa : Addr) (va : Addr) (kd : ClassId) (kf : ClassId) (kv : ClassId) (yn : Nat) (mn : Nat) (dn : Nat) (h0 : Heap) (n0 : Nat) (Z0 : n0 ≤ h0.size) (SS : own_St Z) (O0 : Old Z n0 h0)(ET : Exa Z h0 x "com/example/tranchery/tranchery/journal/Timeline") (FdT : Fld Z h0 x "com/example/tranchery/tranchery/journal/Timeline" "days" "[J" (.ref da)) (FfT : Fld Z h0 x "com/example/tranchery/tranchery/journal/Timeline" "firstDays" "[Ljava/time/LocalDate;" (.ref fa)) (FvT : Fld Z h0 x "com/example/tranchery/tranchery/journal/Timeline" "values" "[Ljava/lang/Object;" (.ref va)) (FzT : Fld Z h0 x "com/example/tranchery/tranchery/journal/Timeline" "size" "I" (.int (0 : Int32))) (VdT : Arv Z h0 da kd .long (4 : Int32) [(.long (0 : Int64)), (.long (0 : Int64)), (.long (0 : Int64)), (.long (0 : Int64))] (.long (0 : Int64))) (VfT : Arv Z h0 fa kf (.object "java/time/LocalDate") (4 : Int32) [.null, .null, .null, .null] .null) (VvT : Arv Z h0 va kv (.object "java/lang/Object") (4 : Int32) [.null, .null, .null, .null] .null) (OfT : Ovr Z kf "java/time/LocalDate") (OvT : Ovr Z kv "java/lang/Object")(Ex : Exa Z h0 dt "java/time/LocalDate") (Fy : Fld Z h0 dt "java/time/LocalDate" "year" "I" (.int (Int32.ofNat yn))) (Fm : Fld Z h0 dt "java/time/LocalDate" "month" "S" (.int (Int32.ofNat mn))) (Fd : Fld Z h0 dt "java/time/LocalDate" "day" "S" (.int (Int32.ofNat dn))) (Erl : Exa Z h0 rl "com/example/tranchery/tranchery/journal/BusinessDays") (nxd : x ≠ da) (nxf : x ≠ fa) (nxv : x ≠ va) (ndf : da ≠ fa) (ndv : da ≠ va) (nfv : fa ≠ va) (ntd : dt ≠ da) (ntf : dt ≠ fa) (ntv : dt ≠ va) (ntx : dt ≠ x) (nrd : rl ≠ da) (nrf : rl ≠ fa) (nrv : rl ≠ va) (nrx : rl ≠ x) (g_x : n0 ≤ x) (g_da : n0 ≤ da) (g_fa : n0 ≤ fa) (g_va : n0 ≤ va)(hy : yn ≤ 9999) (hm : 1 ≤ mn) (hm2 : mn ≤ 12) (hd : 1 ≤ dn) (hd2 : dn ≤ 28)(Es : Exa Z h0 sc "com/example/tranchery/tranchery/journal/Schedule") (Fw : Fld Z h0 sc "com/example/tranchery/tranchery/journal/Schedule" "waiting" "Lcom/example/tranchery/tranchery/journal/InstallmentQueue;" (.ref iq)) (Fr0 : Fld Z h0 sc "com/example/tranchery/tranchery/journal/Schedule" "rules" "Lcom/example/tranchery/tranchery/journal/Timeline;" (.ref x)) (Fmt : Fld Z h0 sc "com/example/tranchery/tranchery/journal/Schedule" "maturity" "Ljava/time/LocalDate;" .null) (Eiq : Exa Z h0 iq "com/example/tranchery/tranchery/journal/InstallmentQueue") (Fiq : Fld Z h0 iq "com/example/tranchery/tranchery/journal/InstallmentQueue" "count" "I" (.int (0 : Int32))) (nsx : sc ≠ x) (nsd : sc ≠ da) (nsf : sc ≠ fa) (nsv : sc ≠ va) (nix : iq ≠ x) (nid : iq ≠ da) (nif : iq ≠ fa) (niv : iq ≠ va)  :
    MetFree l (⟨"com/example/tranchery/tranchery/journal/Schedule", "setRule", "(Ljava/time/LocalDate;Lcom/example/tranchery/tranchery/journal/BusinessDays;)V"⟩ : MethodName) (head1 (Jvm.Cond.code (⟨"com/example/tranchery/tranchery/journal/Schedule", "setRule", "(Ljava/time/LocalDate;Lcom/example/tranchery/tranchery/journal/BusinessDays;)V"⟩ : MethodName) prog_85_method_3_code 3 none :: ws) ({ frames := 4, cells := 1, slots := 4, locals := 60 } : Room)) (fun aa U => aa = #[(.ref sc), (.ref dt), (.ref rl)] ∧ Z.Warmed39 U.vm ∧ U.heap = h0) (fun _ _ _ _ _ => True) (fun _ U o U' => ∃ v L, o = .returned v ∧ Q_sr0 Z sc iq x dt rl da fa va kd kf kv yn mn dn h0 n0 v U'.heap L ∧ FrameEnd U o U' L ({ frames := 4, cells := 1, slots := 4, locals := 60 } : Room).cells ({ frames := 4, cells := 1, slots := 4, locals := 60 } : Room).slots) := by
  refine MetFree.of_bodySF (plainFor_of_name pn_sr0) hisR ?_
  intro p e s m args below meth c s₁ Bd hml0 hP hK
  obtain ⟨rfl, hZ, hh⟩ := hP
  have hx := Bd.exec
  have hby := Bd.bytes
  have hml : c.maxLocals = 3 := hml0
  have hown : s.vm.findClass "com/example/tranchery/tranchery/journal/Schedule" = some m.cls := findClass_of_methodNamed Bd.named
  have hnm := (name_of_methodNamed Bd.named Bd.method).1
  have X0 : Stand p l e ({ frames := 4, cells := 1, slots := 4, locals := 60 } : Room) s m #[(.ref sc), (.ref dt), (.ref rl)] below meth c s₁ [] 0 0 := Stand.of_body Bd
  have e0 : s₁.heap = h0 := by rw [← hh, Bd.state]; rfl
  have N0 := Fr.nil n0
  have S0 : Go p e below s₁ (eF_sr0 m sc dt rl) s₁ (mkF m 0 #[vR sc, vR dt, vR rl] []) := fun t k => castTop (ef_sr0 m sc dt rl) k
  obtain ⟨⟨cz, S_cs, hcz⟩, ⟨fm, S_fm, hfm⟩, ⟨yr, yrr, S_yr, E_yr, F_yr, E_yrr, L_yr, H_yr⟩, ⟨mr, mrr, S_mr, E_mr, F_mr, E_mrr, L_mr, H_mr⟩, ⟨dr, drr, S_dr, E_dr, F_dr, E_drr, L_dr, H_dr⟩, ⟨iso, S_is, E_is⟩, ⟨em, el, kel, S_em, E_em, F_em, V_em⟩, ⟨nr, S_nr⟩, ⟨nk, S_nk⟩⟩ := id SS
  have S868 : Go p e below s₁ (eF_sr0 m sc dt rl) s₁ (mkF m 1 #[vR sc, vR dt, vR rl] [(.ref sc)]) := fun t kt => S0 t (by
    refine XS.aloadN X0.here hx rfl (hb hby d36_0) rfl rfl ?_
    exact kt)
  clear S0
  obtain ⟨T869, X869, e869, st869⟩ := getF X0 hx hZ hown (host := "") (Or.inl (own_h hw 202 rfl)) Via.refl e0 Fr0 (g := (mkF m 1 #[vR sc, vR dt, vR rl] [(.ref sc)])) rfl rfl (hb hby d36_1)
  have S870 : Go p e below s₁ (eF_sr0 m sc dt rl) T869 (mkF m 4 #[vR sc, vR dt, vR rl] [(.ref x)]) := fun t kt => S868 t (st869 t kt)
  clear S868 st869 X0 e0
  have S871 : Go p e below s₁ (eF_sr0 m sc dt rl) T869 (mkF m 6 #[vR sc, vR dt, vR rl] [(.ref rl), (.ref dt), (.ref x)]) := fun t kt => S870 t (by
    refine XS.aloadN X869.here hx rfl (hb hby d36_4) rfl rfl ?_
    refine XS.aloadN X869.here hx rfl (hb hby d36_5) rfl rfl ?_
    show Sp p e below T869 (mkF m 6 #[vR sc, vR dt, vR rl] [(.ref rl), (.ref dt), (.ref x)]) _
    exact kt)
  clear S870
  obtain ⟨cq872, kq872, q872a, q872b, q872c⟩ := isOf hZ e869 ET
  obtain ⟨v872, T872, L872, X872, hQ872, st872⟩ := own_outV (X869.virtualBack hx (y := (⟨"com/example/tranchery/tranchery/journal/Timeline", "set", "(Ljava/time/LocalDate;Ljava/lang/Object;)V"⟩ : MethodName)) (z := (⟨"com/example/tranchery/tranchery/journal/Timeline", "set", "(Ljava/time/LocalDate;Ljava/lang/Object;)V"⟩ : MethodName)) hown (mvT hZ (own_h hw 221 rfl)) (mvT hZ (own_h hw 222 rfl)) (notFace_of_selects (args := #[]) (mvT hZ (own_h hw 224 rfl))) (mvT hZ (own_h hw 224 rfl)) (mvT hZ (own_h hw 223 rfl)) (by decide) (backOf (W := 0) (rm_ts0 l Z a0 hw [] x dt rl da fa va kd kf kv yn mn dn h0 n0 Z0 SS O0 ET FdT FfT FvT FzT VdT VfT VvT OfT OvT Ex Fy Fm Fd Erl nxd nxf nxv ndf ndv nfv ntd ntf ntv ntx nrd nrf nrv nrx g_x g_da g_fa g_va hy hm hm2 hd hd2) hZ (own_h hw 225 rfl) (own_h hw 186 rfl) (by decide) (by decide)) q872a q872c (g := (mkF m 6 #[vR sc, vR dt, vR rl] [(.ref rl), (.ref dt), (.ref x)])) rfl (by rw [hml]; rfl) (Steps.refl _) (argsL := [(.ref dt), (.ref rl)]) (rest := []) (lenOf pd__Ljava_time_LocalDate_Ljava_lang_Object__V rfl) rfl (by show 2 * 0 + _ ≤ _; exact Nat.le_of_eq rfl) (hb hby d36_6) (fun _ _ => ⟨rfl, e869, (by decide : 0 + 0 ≤ _), (by decide : 0 + 0 ≤ _)⟩))
  obtain ⟨rfl, N872q, K872, E872, Fd872, Ff872, Fv872, Fz872, Vd872, Vf872, Vv872, Of872, Ov872⟩ := hQ872
  have N872 := Fr.app N0 N872q
  have KK872 : Keep h0 T872.heap [x, da, fa, va] := (Keep.refl h0 [x, da, fa, va]).trans K872 (allS (Or.inl (by simp)) (allS (Or.inl (by simp)) (allS (Or.inl (by simp)) (allS (Or.inl (by simp)) all0))))
  have S873 : Go p e below s₁ (eF_sr0 m sc dt rl) T872 (mkF m 9 #[vR sc, vR dt, vR rl] []) := fun t kt => S871 t (st872 t kt)
  clear S871 st872 X869 e869
  have S874 : Go p e below s₁ (eF_sr0 m sc dt rl) T872 (mkF m 11 #[vR sc, vR dt, vR rl] [(.ref sc), (.ref sc)]) := fun t kt => S873 t (by
    refine XS.aloadN X872.here hx rfl (hb hby d36_9) rfl rfl ?_
    refine XS.aloadN X872.here hx rfl (hb hby d36_10) rfl rfl ?_
    show Sp p e below T872 (mkF m 11 #[vR sc, vR dt, vR rl] [(.ref sc), (.ref sc)]) _
    exact kt)
  clear S873
  have f875 := (Fw.keep K872 (ninS nsx (ninS nsd (ninS nsf (ninS nsv nin0)))))
  obtain ⟨T876, X876, e876, st876⟩ := getF X872 hx hZ hown (host := "") (Or.inl (own_h hw 182 rfl)) Via.refl rfl f875 (g := (mkF m 11 #[vR sc, vR dt, vR rl] [(.ref sc), (.ref sc)])) rfl rfl (hb hby d36_11)
  have S877 : Go p e below s₁ (eF_sr0 m sc dt rl) T876 (mkF m 14 #[vR sc, vR dt, vR rl] [(.ref iq), (.ref sc)]) := fun t kt => S874 t (st876 t kt)
  clear S874 st876 X872
  have f878 := (O0.keep K872 (allS g_x (allS g_da (allS g_fa (allS g_va all0)))))
  have f879 := (Fiq.keep K872 (ninS nix (ninS nid (ninS nif (ninS niv nin0)))))
  have f881 := (Eiq.keep K872)
  obtain ⟨cq880, kq880, q880a, q880b, q880c⟩ := isOf hZ e876 f881
  obtain ⟨v880, T880, L880, X880, hQ880, st880⟩ := own_outV (X876.virtualBack hx (y := (⟨"com/example/tranchery/tranchery/journal/InstallmentQueue", "removeAll", "()Ljava/util/List;"⟩ : MethodName)) (z := (⟨"com/example/tranchery/tranchery/journal/InstallmentQueue", "removeAll", "()Ljava/util/List;"⟩ : MethodName)) hown (mvT hZ (own_h hw 259 rfl)) (mvT hZ (own_h hw 260 rfl)) (notFace_of_selects (args := #[]) (mvT hZ (own_h hw 262 rfl))) (mvT hZ (own_h hw 262 rfl)) (mvT hZ (own_h hw 261 rfl)) (by decide) (backOf (W := 1) (rm_rma l Z a0 hw [] iq T872.heap n0 (Nat.le_trans Z0 K872.1) SS f878 f879) hZ (own_h hw 263 rfl) (own_h hw 169 rfl) (by decide) (by decide)) q880a q880c (g := (mkF m 14 #[vR sc, vR dt, vR rl] [(.ref iq), (.ref sc)])) rfl (by rw [hml]; rfl) (Steps.refl _) (argsL := []) (rest := [(.ref sc)]) (lenOf pd___Ljava_util_List_ rfl) rfl (by show 2 * 0 + _ ≤ _; exact Nat.le_of_eq rfl) (hb hby d36_14) (fun _ _ => ⟨rfl, e876, (by decide : 0 + 0 ≤ _), (by decide : 0 + 0 ≤ _)⟩))
  obtain ⟨em0, rfl, S_e0, N880q, e880⟩ := hQ880
  have N880 := Fr.app N872 N880q
  have S882 : Go p e below s₁ (eF_sr0 m sc dt rl) T880 (mkF m 17 #[vR sc, vR dt, vR rl] [(.ref em0), (.ref sc)]) := fun t kt => S877 t (st880 t kt)
  clear S877 st880 X876 e876
  obtain rfl : em = em0 := own_staeq S_em S_e0
  have S883 : Go p e below s₁ (eF_sr0 m sc dt rl) T880 (mkF m 17 #[vR sc, vR dt, vR rl] [(.ref em), (.ref sc)]) := S882
  have f885 := (Es.keep K872)
  obtain ⟨cq884, q884, q884'⟩ := f885.cell
  obtain ⟨v884, T884, L884, X884, hQ884, st884⟩ := own_outV (X880.privateBack hx (y := (⟨"com/example/tranchery/tranchery/journal/Schedule", "refile", "(Ljava/util/List;)V"⟩ : MethodName)) hown (mvT hZ (own_h hw 272 rfl)) (mvT hZ (own_h hw 273 rfl)) (own_selp hZ (own_h hw 161 rfl) (own_h hw 274 rfl) (own_h hw 273 rfl) (by decide)) (Cond.privateMethod_at (mvP hZ (own_h hw 274 rfl) (args := #[]))) (mvT hZ (own_h hw 275 rfl)) (by decide) (backOf (W := 0) (rm_ref l Z a0 hw [] sc em el kel T872.heap n0 (Nat.le_trans Z0 K872.1) (E_em.ext f878.2) (F_em.ext f878.2) (V_em.ext f878.2)) hZ (own_h hw 275 rfl) (own_h hw 162 rfl) (by decide) (by decide)) (g := (mkF m 17 #[vR sc, vR dt, vR rl] [(.ref em), (.ref sc)])) rfl (by rw [hml]; rfl) (Steps.refl _) (a := sc) (by rw [e880]; exact q884) q884' (argsL := [(.ref em)]) (rest := []) (lenOf pd__Ljava_util_List__V rfl) rfl (by show 2 * 0 + _ ≤ _; exact Nat.le_of_eq rfl) (hb hby d36_17) (fun _ _ => ⟨rfl, e880, (by decide : 0 + 1 ≤ _), (by decide : 0 + 4 ≤ _)⟩))
  obtain ⟨rfl, N884q, K884⟩ := hQ884
  have N884 := Fr.app N880 N884q
  have KK884 : Keep h0 T884.heap [x, da, fa, va] := KK872.trans K884 all0
  have S886 : Go p e below s₁ (eF_sr0 m sc dt rl) T884 (mkF m 20 #[vR sc, vR dt, vR rl] []) := fun t kt => S883 t (st884 t kt)
  clear S883 st884 X880 e880
  have S887 : Go p e below s₁ (eF_sr0 m sc dt rl) T884 (mkF m 21 #[vR sc, vR dt, vR rl] [(.ref sc)]) := fun t kt => S886 t (by
    refine XS.aloadN X884.here hx rfl (hb hby d36_20) rfl rfl ?_
    exact kt)
  clear S886
  have f888 := ((Fmt.keep K872 (ninS nsx (ninS nsd (ninS nsf (ninS nsv nin0))))).keep K884 nin0)
  have f890 := (f885.keep K884)
  obtain ⟨cq889, q889, q889'⟩ := f890.cell
  obtain ⟨v889, T889, L889, X889, hQ889, st889⟩ := own_outV (X884.privateBack hx (y := (⟨"com/example/tranchery/tranchery/journal/Schedule", "fileMaturity", "()V"⟩ : MethodName)) hown (mvT hZ (own_h hw 320 rfl)) (mvT hZ (own_h hw 321 rfl)) (own_selp hZ (own_h hw 161 rfl) (own_h hw 322 rfl) (own_h hw 321 rfl) (by decide)) (Cond.privateMethod_at (mvP hZ (own_h hw 322 rfl) (args := #[]))) (mvT hZ (own_h hw 323 rfl)) (by decide) (backOf (W := 0) (rm_fmt l Z a0 hw [] sc T884.heap n0 (Nat.le_trans (Nat.le_trans Z0 K872.1) K884.1) f888) hZ (own_h hw 323 rfl) (own_h hw 162 rfl) (by decide) (by decide)) (g := (mkF m 21 #[vR sc, vR dt, vR rl] [(.ref sc)])) rfl (by rw [hml]; rfl) (Steps.refl _) (a := sc) q889 q889' (argsL := []) (rest := []) (lenOf pd___V rfl) rfl (by show 2 * 0 + _ ≤ _; exact Nat.le_of_eq rfl) (hb hby d36_21) (fun _ _ => ⟨rfl, rfl, (by decide : 1 + 0 ≤ _), (by decide : 4 + 0 ≤ _)⟩))
  obtain ⟨rfl, N889q, e889⟩ := hQ889
  have N889 := Fr.app N884 N889q
  have S891 : Go p e below s₁ (eF_sr0 m sc dt rl) T889 (mkF m 24 #[vR sc, vR dt, vR rl] []) := fun t kt => S887 t (st889 t kt)
  clear S887 st889 X884
  have f892 := (f875.keep K884 nin0)
  have f893 := ((Fr0.keep K872 (ninS nsx (ninS nsd (ninS nsf (ninS nsv nin0))))).keep K884 nin0)
  have f894 := (f881.keep K884)
  have f895 := (f879.keep K884 nin0)
  have f896 := (E872.keep K884)
  have f897 := (Fd872.keep K884 nin0)
  have f898 := (Ff872.keep K884 nin0)
  have f899 := (Fv872.keep K884 nin0)
  have f900 := (Fz872.keep K884 nin0)
  have f901 := (Vd872.keep K884 nin0)
  have f902 := (Vf872.keep K884 nin0)
  have f903 := (Vv872.keep K884 nin0)
  obtain ⟨fs, hr, hrun, hended, hW, hsame⟩ := X889.leave (v := none) (fun h => by first | rfl | (rw [Bd.returns] at h; cases h))
  refine ⟨_, _, S891 _ ?_, hrun, hended, _, _, rfl, ?_, ⟨_, rfl⟩, hW, hsame.mono (by decide) (by decide)⟩
  · exact X889.returnOut hx Bd.returns (hb hby d36_24) hr
  · show Q_sr0 Z sc iq x dt rl da fa va kd kf kv yn mn dn h0 n0 _ T889.heap _
    rw [e889]
    exact ⟨rfl, N889, KK884, f890, f892, f893, f888, f894, f895, f896, f897, f898, f899, f900, f901, f902, f903, Of872, Ov872⟩
abbrev eF_sr1 (m : MethodId) (x0 : Addr) (x1 : Addr) (x2 : Addr) : JFrame := entryFrame m #[(.ref x0), (.ref x1), (.ref x2)] 3
theorem ef_sr1 (m : MethodId) (x0 : Addr) (x1 : Addr) (x2 : Addr) : entryFrame m #[(.ref x0), (.ref x1), (.ref x2)] 3 = mkF m 0 #[.val (.ref x0), .val (.ref x1), .val (.ref x2)] [] := by first | (simp [entryFrame, mkF, argsToLocals, Value.category]; done) | rfl
theorem pn_sr1 : plainName "com/example/tranchery/tranchery/journal/Schedule" = true := by first | (simp [plainName, overriddenIn]; done) | decide +kernel
def Q_sr1 (Z : State) (sc : Addr) (iq : Addr) (x : Addr) (dt : Addr) (rl : Addr) (da : Addr) (fa : Addr) (va : Addr) (kd : ClassId) (kf : ClassId) (kv : ClassId) (yn : Nat) (mn : Nat) (dn : Nat) (h0 : Heap) (n0 : Nat) (v : Option Value) (h : Heap) (L : List Loc) : Prop := v = none ∧ Fr n0 L ∧ Keep h0 h [x, da, fa, va] ∧  Exa Z h sc "com/example/tranchery/tranchery/journal/Schedule" ∧ Fld Z h sc "com/example/tranchery/tranchery/journal/Schedule" "waiting" "Lcom/example/tranchery/tranchery/journal/InstallmentQueue;" (.ref iq) ∧ Fld Z h sc "com/example/tranchery/tranchery/journal/Schedule" "rules" "Lcom/example/tranchery/tranchery/journal/Timeline;" (.ref x) ∧ Fld Z h sc "com/example/tranchery/tranchery/journal/Schedule" "maturity" "Ljava/time/LocalDate;" .null ∧ Exa Z h iq "com/example/tranchery/tranchery/journal/InstallmentQueue" ∧ Fld Z h iq "com/example/tranchery/tranchery/journal/InstallmentQueue" "count" "I" (.int (0 : Int32)) ∧ Exa Z h x "com/example/tranchery/tranchery/journal/Timeline" ∧ (Fld Z h x "com/example/tranchery/tranchery/journal/Timeline" "size" "I" (.int (1 : Int32)) ∨ Fld Z h x "com/example/tranchery/tranchery/journal/Timeline" "size" "I" (.int (2 : Int32)))
set_option maxRecDepth 65536 in
set_option maxHeartbeats 40000000 in
theorem rm_sr1 (l : Launch) (Z : State) (a0 : Array Value) (hw : ∀ d ∈ tables_1, d.before a0 Z = true) (ws : List Jvm.Cond) (sc : Addr) (iq : Addr) (x : Addr) (dt : Addr) (rl : Addr) (da : Addr) (fa : Addr) (va : Addr) (kd : ClassId) (kf : ClassId) (kv : ClassId) (yn : Nat) (mn : Nat) (dn : Nat) (r1 : Int64) (d1 : Addr) (e1 : Addr) (h0 : Heap) (n0 : Nat) (Z0 : n0 ≤ h0.size) (SS : own_St Z) (O0 : Old Z n0 h0)(ET : Exa Z h0 x "com/example/tranchery/tranchery/journal/Timeline") (FdT : Fld Z h0 x "com/example/tranchery/tranchery/journal/Timeline" "days" "[J" (.ref da)) (FfT : Fld Z h0 x "com/example/tranchery/tranchery/journal/Timeline" "firstDays" "[Ljava/time/LocalDate;" (.ref fa)) (FvT : Fld Z h0 x "com/example/tranchery/tranchery/journal/Timeline" "values" "[Ljava/lang/Object;" (.ref va)) (FzT : Fld Z h0 x "com/example/tranchery/tranchery/journal/Timeline" "size" "I" (.int (1 : Int32))) (VdT : Arv Z h0 da kd .long (4 : Int32) [(.long r1), (.long (0 : Int64)), (.long (0 : Int64)), (.long (0 : Int64))] (.long (0 : Int64))) (VfT : Arv Z h0 fa kf (.object "java/time/LocalDate") (4 : Int32) [(.ref d1), .null, .null, .null] .null) (VvT : Arv Z h0 va kv (.object "java/lang/Object") (4 : Int32) [(.ref e1), .null, .null, .null] .null) (OfT : Ovr Z kf "java/time/LocalDate") (OvT : Ovr Z kv "java/lang/Object")(Ex : Exa Z h0 dt "java/time/LocalDate") (Fy : Fld Z h0 dt "java/time/LocalDate" "year" "I" (.int (Int32.ofNat yn))) (Fm : Fld Z h0 dt "java/time/LocalDate" "month" "S" (.int (Int32.ofNat mn))) (Fd : Fld Z h0 dt "java/time/LocalDate" "day" "S" (.int (Int32.ofNat dn))) (Erl : Exa Z h0 rl "com/example/tranchery/tranchery/journal/BusinessDays") (nxd : x ≠ da) (nxf : x ≠ fa) (nxv : x ≠ va) (ndf : da ≠ fa) (ndv : da ≠ va) (nfv : fa ≠ va) (ntd : dt ≠ da) (ntf : dt ≠ fa) (ntv : dt ≠ va) (ntx : dt ≠ x) (nrd : rl ≠ da) (nrf : rl ≠ fa) (nrv : rl ≠ va) (nrx : rl ≠ x) (g_x : n0 ≤ x) (g_da : n0 ≤ da) (g_fa : n0 ≤ fa) (g_va : n0 ≤ va)(hy : yn ≤ 9999) (hm : 1 ≤ mn) (hm2 : mn ≤ 12) (hd : 1 ≤ dn) (hd2 : dn ≤ 28)(Es : Exa Z h0 sc "com/example/tranchery/tranchery/journal/Schedule") (Fw : Fld Z h0 sc "com/example/tranchery/tranchery/journal/Schedule" "waiting" "Lcom/example/tranchery/tranchery/journal/InstallmentQueue;" (.ref iq)) (Fr0 : Fld Z h0 sc "com/example/tranchery/tranchery/journal/Schedule" "rules" "Lcom/example/tranchery/tranchery/journal/Timeline;" (.ref x)) (Fmt : Fld Z h0 sc "com/example/tranchery/tranchery/journal/Schedule" "maturity" "Ljava/time/LocalDate;" .null) (Eiq : Exa Z h0 iq "com/example/tranchery/tranchery/journal/InstallmentQueue") (Fiq : Fld Z h0 iq "com/example/tranchery/tranchery/journal/InstallmentQueue" "count" "I" (.int (0 : Int32))) (nsx : sc ≠ x) (nsd : sc ≠ da) (nsf : sc ≠ fa) (nsv : sc ≠ va) (nix : iq ≠ x) (nid : iq ≠ da) (nif : iq ≠ fa) (niv : iq ≠ va) (hge : ¬ lcmpW (Int64.ofNat (own_t yn mn dn) - (719528 : Int64)) r1 < (0 : Int32)) :
    MetFree l (⟨"com/example/tranchery/tranchery/journal/Schedule", "setRule", "(Ljava/time/LocalDate;Lcom/example/tranchery/tranchery/journal/BusinessDays;)V"⟩ : MethodName) (head1 (Jvm.Cond.code (⟨"com/example/tranchery/tranchery/journal/Schedule", "setRule", "(Ljava/time/LocalDate;Lcom/example/tranchery/tranchery/journal/BusinessDays;)V"⟩ : MethodName) prog_85_method_3_code 3 none :: ws) ({ frames := 4, cells := 1, slots := 4, locals := 60 } : Room)) (fun aa U => aa = #[(.ref sc), (.ref dt), (.ref rl)] ∧ Z.Warmed39 U.vm ∧ U.heap = h0) (fun _ _ _ _ _ => True) (fun _ U o U' => ∃ v L, o = .returned v ∧ Q_sr1 Z sc iq x dt rl da fa va kd kf kv yn mn dn h0 n0 v U'.heap L ∧ FrameEnd U o U' L ({ frames := 4, cells := 1, slots := 4, locals := 60 } : Room).cells ({ frames := 4, cells := 1, slots := 4, locals := 60 } : Room).slots) := by
  refine MetFree.of_bodySF (plainFor_of_name pn_sr1) hisR ?_
  intro p e s m args below meth c s₁ Bd hml0 hP hK
  obtain ⟨rfl, hZ, hh⟩ := hP
  have hx := Bd.exec
  have hby := Bd.bytes
  have hml : c.maxLocals = 3 := hml0
  have hown : s.vm.findClass "com/example/tranchery/tranchery/journal/Schedule" = some m.cls := findClass_of_methodNamed Bd.named
  have hnm := (name_of_methodNamed Bd.named Bd.method).1
  have X0 : Stand p l e ({ frames := 4, cells := 1, slots := 4, locals := 60 } : Room) s m #[(.ref sc), (.ref dt), (.ref rl)] below meth c s₁ [] 0 0 := Stand.of_body Bd
  have e0 : s₁.heap = h0 := by rw [← hh, Bd.state]; rfl
  have N0 := Fr.nil n0
  have S0 : Go p e below s₁ (eF_sr1 m sc dt rl) s₁ (mkF m 0 #[vR sc, vR dt, vR rl] []) := fun t k => castTop (ef_sr1 m sc dt rl) k
  obtain ⟨⟨cz, S_cs, hcz⟩, ⟨fm, S_fm, hfm⟩, ⟨yr, yrr, S_yr, E_yr, F_yr, E_yrr, L_yr, H_yr⟩, ⟨mr, mrr, S_mr, E_mr, F_mr, E_mrr, L_mr, H_mr⟩, ⟨dr, drr, S_dr, E_dr, F_dr, E_drr, L_dr, H_dr⟩, ⟨iso, S_is, E_is⟩, ⟨em, el, kel, S_em, E_em, F_em, V_em⟩, ⟨nr, S_nr⟩, ⟨nk, S_nk⟩⟩ := id SS
  have S904 : Go p e below s₁ (eF_sr1 m sc dt rl) s₁ (mkF m 1 #[vR sc, vR dt, vR rl] [(.ref sc)]) := fun t kt => S0 t (by
    refine XS.aloadN X0.here hx rfl (hb hby d36_0) rfl rfl ?_
    exact kt)
  clear S0
  obtain ⟨T905, X905, e905, st905⟩ := getF X0 hx hZ hown (host := "") (Or.inl (own_h hw 202 rfl)) Via.refl e0 Fr0 (g := (mkF m 1 #[vR sc, vR dt, vR rl] [(.ref sc)])) rfl rfl (hb hby d36_1)
  have S906 : Go p e below s₁ (eF_sr1 m sc dt rl) T905 (mkF m 4 #[vR sc, vR dt, vR rl] [(.ref x)]) := fun t kt => S904 t (st905 t kt)
  clear S904 st905 X0 e0
  have S907 : Go p e below s₁ (eF_sr1 m sc dt rl) T905 (mkF m 6 #[vR sc, vR dt, vR rl] [(.ref rl), (.ref dt), (.ref x)]) := fun t kt => S906 t (by
    refine XS.aloadN X905.here hx rfl (hb hby d36_4) rfl rfl ?_
    refine XS.aloadN X905.here hx rfl (hb hby d36_5) rfl rfl ?_
    show Sp p e below T905 (mkF m 6 #[vR sc, vR dt, vR rl] [(.ref rl), (.ref dt), (.ref x)]) _
    exact kt)
  clear S906
  obtain ⟨cq908, kq908, q908a, q908b, q908c⟩ := isOf hZ e905 ET
  obtain ⟨v908, T908, L908, X908, hQ908, st908⟩ := own_outV (X905.virtualBack hx (y := (⟨"com/example/tranchery/tranchery/journal/Timeline", "set", "(Ljava/time/LocalDate;Ljava/lang/Object;)V"⟩ : MethodName)) (z := (⟨"com/example/tranchery/tranchery/journal/Timeline", "set", "(Ljava/time/LocalDate;Ljava/lang/Object;)V"⟩ : MethodName)) hown (mvT hZ (own_h hw 221 rfl)) (mvT hZ (own_h hw 222 rfl)) (notFace_of_selects (args := #[]) (mvT hZ (own_h hw 224 rfl))) (mvT hZ (own_h hw 224 rfl)) (mvT hZ (own_h hw 223 rfl)) (by decide) (backOf (W := 0) (rm_ts1 l Z a0 hw [] x dt rl da fa va kd kf kv yn mn dn r1 d1 e1 h0 n0 Z0 SS O0 ET FdT FfT FvT FzT VdT VfT VvT OfT OvT Ex Fy Fm Fd Erl nxd nxf nxv ndf ndv nfv ntd ntf ntv ntx nrd nrf nrv nrx g_x g_da g_fa g_va hy hm hm2 hd hd2 hge) hZ (own_h hw 225 rfl) (own_h hw 186 rfl) (by decide) (by decide)) q908a q908c (g := (mkF m 6 #[vR sc, vR dt, vR rl] [(.ref rl), (.ref dt), (.ref x)])) rfl (by rw [hml]; rfl) (Steps.refl _) (argsL := [(.ref dt), (.ref rl)]) (rest := []) (lenOf pd__Ljava_time_LocalDate_Ljava_lang_Object__V rfl) rfl (by show 2 * 0 + _ ≤ _; exact Nat.le_of_eq rfl) (hb hby d36_6) (fun _ _ => ⟨rfl, e905, (by decide : 0 + 0 ≤ _), (by decide : 0 + 0 ≤ _)⟩))
  obtain ⟨rfl, N908q, K908, Ex1, hsz⟩ := hQ908
  have N908 := Fr.app N0 N908q
  have KK908 : Keep h0 T908.heap [x, da, fa, va] := (Keep.refl h0 [x, da, fa, va]).trans K908 (allS (Or.inl (by simp)) (allS (Or.inl (by simp)) (allS (Or.inl (by simp)) (allS (Or.inl (by simp)) all0))))
  have S909 : Go p e below s₁ (eF_sr1 m sc dt rl) T908 (mkF m 9 #[vR sc, vR dt, vR rl] []) := fun t kt => S907 t (st908 t kt)
  clear S907 st908 X905 e905
  have S910 : Go p e below s₁ (eF_sr1 m sc dt rl) T908 (mkF m 11 #[vR sc, vR dt, vR rl] [(.ref sc), (.ref sc)]) := fun t kt => S909 t (by
    refine XS.aloadN X908.here hx rfl (hb hby d36_9) rfl rfl ?_
    refine XS.aloadN X908.here hx rfl (hb hby d36_10) rfl rfl ?_
    show Sp p e below T908 (mkF m 11 #[vR sc, vR dt, vR rl] [(.ref sc), (.ref sc)]) _
    exact kt)
  clear S909
  have f911 := (Fw.keep K908 (ninS nsx (ninS nsd (ninS nsf (ninS nsv nin0)))))
  obtain ⟨T912, X912, e912, st912⟩ := getF X908 hx hZ hown (host := "") (Or.inl (own_h hw 182 rfl)) Via.refl rfl f911 (g := (mkF m 11 #[vR sc, vR dt, vR rl] [(.ref sc), (.ref sc)])) rfl rfl (hb hby d36_11)
  have S913 : Go p e below s₁ (eF_sr1 m sc dt rl) T912 (mkF m 14 #[vR sc, vR dt, vR rl] [(.ref iq), (.ref sc)]) := fun t kt => S910 t (st912 t kt)
  clear S910 st912 X908
  have f914 := (O0.keep K908 (allS g_x (allS g_da (allS g_fa (allS g_va all0)))))
  have f915 := (Fiq.keep K908 (ninS nix (ninS nid (ninS nif (ninS niv nin0)))))
  have f917 := (Eiq.keep K908)
  obtain ⟨cq916, kq916, q916a, q916b, q916c⟩ := isOf hZ e912 f917
  obtain ⟨v916, T916, L916, X916, hQ916, st916⟩ := own_outV (X912.virtualBack hx (y := (⟨"com/example/tranchery/tranchery/journal/InstallmentQueue", "removeAll", "()Ljava/util/List;"⟩ : MethodName)) (z := (⟨"com/example/tranchery/tranchery/journal/InstallmentQueue", "removeAll", "()Ljava/util/List;"⟩ : MethodName)) hown (mvT hZ (own_h hw 259 rfl)) (mvT hZ (own_h hw 260 rfl)) (notFace_of_selects (args := #[]) (mvT hZ (own_h hw 262 rfl))) (mvT hZ (own_h hw 262 rfl)) (mvT hZ (own_h hw 261 rfl)) (by decide) (backOf (W := 1) (rm_rma l Z a0 hw [] iq T908.heap n0 (Nat.le_trans Z0 K908.1) SS f914 f915) hZ (own_h hw 263 rfl) (own_h hw 169 rfl) (by decide) (by decide)) q916a q916c (g := (mkF m 14 #[vR sc, vR dt, vR rl] [(.ref iq), (.ref sc)])) rfl (by rw [hml]; rfl) (Steps.refl _) (argsL := []) (rest := [(.ref sc)]) (lenOf pd___Ljava_util_List_ rfl) rfl (by show 2 * 0 + _ ≤ _; exact Nat.le_of_eq rfl) (hb hby d36_14) (fun _ _ => ⟨rfl, e912, (by decide : 0 + 0 ≤ _), (by decide : 0 + 0 ≤ _)⟩))
  obtain ⟨em0, rfl, S_e0, N916q, e916⟩ := hQ916
  have N916 := Fr.app N908 N916q
  have S918 : Go p e below s₁ (eF_sr1 m sc dt rl) T916 (mkF m 17 #[vR sc, vR dt, vR rl] [(.ref em0), (.ref sc)]) := fun t kt => S913 t (st916 t kt)
  clear S913 st916 X912 e912
  obtain rfl : em = em0 := own_staeq S_em S_e0
  have S919 : Go p e below s₁ (eF_sr1 m sc dt rl) T916 (mkF m 17 #[vR sc, vR dt, vR rl] [(.ref em), (.ref sc)]) := S918
  have f921 := (Es.keep K908)
  obtain ⟨cq920, q920, q920'⟩ := f921.cell
  obtain ⟨v920, T920, L920, X920, hQ920, st920⟩ := own_outV (X916.privateBack hx (y := (⟨"com/example/tranchery/tranchery/journal/Schedule", "refile", "(Ljava/util/List;)V"⟩ : MethodName)) hown (mvT hZ (own_h hw 272 rfl)) (mvT hZ (own_h hw 273 rfl)) (own_selp hZ (own_h hw 161 rfl) (own_h hw 274 rfl) (own_h hw 273 rfl) (by decide)) (Cond.privateMethod_at (mvP hZ (own_h hw 274 rfl) (args := #[]))) (mvT hZ (own_h hw 275 rfl)) (by decide) (backOf (W := 0) (rm_ref l Z a0 hw [] sc em el kel T908.heap n0 (Nat.le_trans Z0 K908.1) (E_em.ext f914.2) (F_em.ext f914.2) (V_em.ext f914.2)) hZ (own_h hw 275 rfl) (own_h hw 162 rfl) (by decide) (by decide)) (g := (mkF m 17 #[vR sc, vR dt, vR rl] [(.ref em), (.ref sc)])) rfl (by rw [hml]; rfl) (Steps.refl _) (a := sc) (by rw [e916]; exact q920) q920' (argsL := [(.ref em)]) (rest := []) (lenOf pd__Ljava_util_List__V rfl) rfl (by show 2 * 0 + _ ≤ _; exact Nat.le_of_eq rfl) (hb hby d36_17) (fun _ _ => ⟨rfl, e916, (by decide : 0 + 1 ≤ _), (by decide : 0 + 4 ≤ _)⟩))
  obtain ⟨rfl, N920q, K920⟩ := hQ920
  have N920 := Fr.app N916 N920q
  have KK920 : Keep h0 T920.heap [x, da, fa, va] := KK908.trans K920 all0
  have S922 : Go p e below s₁ (eF_sr1 m sc dt rl) T920 (mkF m 20 #[vR sc, vR dt, vR rl] []) := fun t kt => S919 t (st920 t kt)
  clear S919 st920 X916 e916
  have S923 : Go p e below s₁ (eF_sr1 m sc dt rl) T920 (mkF m 21 #[vR sc, vR dt, vR rl] [(.ref sc)]) := fun t kt => S922 t (by
    refine XS.aloadN X920.here hx rfl (hb hby d36_20) rfl rfl ?_
    exact kt)
  clear S922
  have f924 := ((Fmt.keep K908 (ninS nsx (ninS nsd (ninS nsf (ninS nsv nin0))))).keep K920 nin0)
  have f926 := (f921.keep K920)
  obtain ⟨cq925, q925, q925'⟩ := f926.cell
  obtain ⟨v925, T925, L925, X925, hQ925, st925⟩ := own_outV (X920.privateBack hx (y := (⟨"com/example/tranchery/tranchery/journal/Schedule", "fileMaturity", "()V"⟩ : MethodName)) hown (mvT hZ (own_h hw 320 rfl)) (mvT hZ (own_h hw 321 rfl)) (own_selp hZ (own_h hw 161 rfl) (own_h hw 322 rfl) (own_h hw 321 rfl) (by decide)) (Cond.privateMethod_at (mvP hZ (own_h hw 322 rfl) (args := #[]))) (mvT hZ (own_h hw 323 rfl)) (by decide) (backOf (W := 0) (rm_fmt l Z a0 hw [] sc T920.heap n0 (Nat.le_trans (Nat.le_trans Z0 K908.1) K920.1) f924) hZ (own_h hw 323 rfl) (own_h hw 162 rfl) (by decide) (by decide)) (g := (mkF m 21 #[vR sc, vR dt, vR rl] [(.ref sc)])) rfl (by rw [hml]; rfl) (Steps.refl _) (a := sc) q925 q925' (argsL := []) (rest := []) (lenOf pd___V rfl) rfl (by show 2 * 0 + _ ≤ _; exact Nat.le_of_eq rfl) (hb hby d36_21) (fun _ _ => ⟨rfl, rfl, (by decide : 1 + 0 ≤ _), (by decide : 4 + 0 ≤ _)⟩))
  obtain ⟨rfl, N925q, e925⟩ := hQ925
  have N925 := Fr.app N920 N925q
  have S927 : Go p e below s₁ (eF_sr1 m sc dt rl) T925 (mkF m 24 #[vR sc, vR dt, vR rl] []) := fun t kt => S923 t (st925 t kt)
  clear S923 st925 X920
  have f928 := (f911.keep K920 nin0)
  have f929 := ((Fr0.keep K908 (ninS nsx (ninS nsd (ninS nsf (ninS nsv nin0))))).keep K920 nin0)
  have f930 := (f917.keep K920)
  have f931 := (f915.keep K920 nin0)
  have f932 := (Ex1.keep K920)
  obtain ⟨fs, hr, hrun, hended, hW, hsame⟩ := X925.leave (v := none) (fun h => by first | rfl | (rw [Bd.returns] at h; cases h))
  refine ⟨_, _, S927 _ ?_, hrun, hended, _, _, rfl, ?_, ⟨_, rfl⟩, hW, hsame.mono (by decide) (by decide)⟩
  · exact X925.returnOut hx Bd.returns (hb hby d36_24) hr
  · show Q_sr1 Z sc iq x dt rl da fa va kd kf kv yn mn dn h0 n0 _ T925.heap _
    rw [e925]
    exact ⟨rfl, N925, KK920, f926, f928, f929, f924, f930, f931, f932, hsz.imp (fun q => (q.keep K920 nin0)) (fun q => (q.keep K920 nin0))⟩
abbrev eF_law (m : MethodId) (x0 : Int32) (x1 : Int32) (x2 : Int32) (x3 : Int32) (x4 : Int32) : JFrame := entryFrame m #[(.int x0), (.int x1), (.int x2), (.int x3), (.int x4)] maxLocals
theorem ef_law (m : MethodId) (x0 : Int32) (x1 : Int32) (x2 : Int32) (x3 : Int32) (x4 : Int32) : entryFrame m #[(.int x0), (.int x1), (.int x2), (.int x3), (.int x4)] maxLocals = mkF m 0 #[.val (.int x0), .val (.int x1), .val (.int x2), .val (.int x3), .val (.int x4), .unset, .unset, .unset, .unset, .unset, .unset, .unset, .unset, .unset, .unset] [] := by first | (simp [entryFrame, mkF, argsToLocals, Value.category, maxLocals]; done) | rfl
theorem pn_law : plainName "com/example/tranchery/tranchery/journal/ScheduleHasRulePinLaw" = true := by first | (simp [plainName, overriddenIn]; done) | decide +kernel
def Q_law (Z : State)  (h0 : Heap) (n0 : Nat) (v : Option Value) (h : Heap) (L : List Loc) : Prop := v = some (.int 1) ∧ Fr n0 L
set_option maxRecDepth 65536 in
set_option maxHeartbeats 40000000 in
theorem rm_law (l : Launch) (Z : State) (a0 : Array Value) (hw : ∀ d ∈ tables_1, d.before a0 Z = true) (ws : List Jvm.Cond) (a : Int32) (b : Int32) (d : Int32) (f : Int32) (g : Int32) (h0 : Heap) (n0 : Nat) (Z0 : n0 ≤ h0.size) (SS : own_St Z) (O0 : Old Z n0 h0) :
    MetFree l x (head1 (Jvm.Cond.code x code maxLocals ret :: ws) room_1) (fun aa U => aa = #[(.int a), (.int b), (.int d), (.int f), (.int g)] ∧ Z.Warmed39 U.vm ∧ U.heap = h0) (fun _ _ _ _ _ => True) (fun _ U o U' => ∃ v L, o = .returned v ∧ Q_law Z  h0 n0 v U'.heap L ∧ FrameEnd U o U' L 17 89) := by
  refine MetFree.of_bodySF (plainFor_of_name pn_law) hisR ?_
  intro p e s m args below meth c s₁ Bd hml0 hP hK
  obtain ⟨rfl, hZ, hh⟩ := hP
  have hx := Bd.exec
  have hby := Bd.bytes
  have hml : c.maxLocals = 15 := hml0
  have hown : s.vm.findClass "com/example/tranchery/tranchery/journal/ScheduleHasRulePinLaw" = some m.cls := findClass_of_methodNamed Bd.named
  have hnm := (name_of_methodNamed Bd.named Bd.method).1
  have X0 : Stand p l e room_1 s m #[(.int a), (.int b), (.int d), (.int f), (.int g)] below meth c s₁ [] 0 0 := Stand.of_body Bd
  have e0 : s₁.heap = h0 := by rw [← hh, Bd.state]; rfl
  have N0 := Fr.nil n0
  have S0 : Go p e below s₁ (eF_law m a b d f g) s₁ (mkF m 0 #[vI a, vI b, vI d, vI f, vI g, vU, vU, vU, vU, vU, vU, vU, vU, vU, vU] []) := fun t k => castTop (ef_law m a b d f g) k
  obtain ⟨⟨cz, S_cs, hcz⟩, ⟨fm, S_fm, hfm⟩, ⟨yr, yrr, S_yr, E_yr, F_yr, E_yrr, L_yr, H_yr⟩, ⟨mr, mrr, S_mr, E_mr, F_mr, E_mrr, L_mr, H_mr⟩, ⟨dr, drr, S_dr, E_dr, F_dr, E_drr, L_dr, H_dr⟩, ⟨iso, S_is, E_is⟩, ⟨em, el, kel, S_em, E_em, F_em, V_em⟩, ⟨nr, S_nr⟩, ⟨nk, S_nk⟩⟩ := id SS
  have S933 : Go p e below s₁ (eF_law m a b d f g) s₁ (mkF m 8 #[vI a, vI b, vI d, vI f, vI g, vU, vU, vU, vU, vU, vU, vU, vU, vU, vU] [(.int ((a &&& (2147483647 : Int32)) % (9999 : Int32)))]) := fun t kt => S0 t (by
    refine XS.iloadN X0.here hx rfl (hb hby at_0) rfl ?_
    refine X0.ldcInt hx hown (mvT hZ (own_h hw 0 rfl)) (g := (mkF m 1 #[vI a, vI b, vI d, vI f, vI g, vU, vU, vU, vU, vU, vU, vU, vU, vU, vU] [(.int a)])) rfl (hb hby at_1) _ ?_
    show Sp p e below s₁ (mkF m 3 #[vI a, vI b, vI d, vI f, vI g, vU, vU, vU, vU, vU, vU, vU, vU, vU, vU] [(.int (2147483647 : Int32)), (.int a)]) _
    refine XS.iand X0.here hx rfl (hb hby at_3) rfl ?_
    refine XS.sipush X0.here hx rfl (hb hby at_4) ?_
    show Sp p e below s₁ (mkF m 7 #[vI a, vI b, vI d, vI f, vI g, vU, vU, vU, vU, vU, vU, vU, vU, vU, vU] [(.int (9999 : Int32)), (.int (a &&& (2147483647 : Int32)))]) _
    refine iremM X0 hx rfl (hb hby at_7) rfl (by decide) ?_
    exact kt)
  clear S0
  obtain ⟨yn, h_yn, q_yn⟩ := own_mod a (k := 9999) 9999 rfl (by decide) (by decide)
  have q935 : ((a &&& (2147483647 : Int32)) % (9999 : Int32)) = (Int32.ofNat yn) := q_yn
  have S934 : Go p e below s₁ (eF_law m a b d f g) s₁ (mkF m 8 #[vI a, vI b, vI d, vI f, vI g, vU, vU, vU, vU, vU, vU, vU, vU, vU, vU] [(.int (Int32.ofNat yn))]) := by have h := S933; rw [q935] at h; exact h
  clear S933
  have S936 : Go p e below s₁ (eF_law m a b d f g) s₁ (mkF m 17 #[vI a, vI b, vI d, vI f, vI g, vI (Int32.ofNat yn), vU, vU, vU, vU, vU, vU, vU, vU, vU] [(.int ((b &&& (2147483647 : Int32)) % (12 : Int32)))]) := fun t kt => S934 t (by
    refine XS.istore X0.here hx rfl (hb hby at_8) rfl (l' := #[vI a, vI b, vI d, vI f, vI g, vI (Int32.ofNat yn), vU, vU, vU, vU, vU, vU, vU, vU, vU]) rfl ?_
    refine XS.iloadN X0.here hx rfl (hb hby at_10) rfl ?_
    show Sp p e below s₁ (mkF m 11 #[vI a, vI b, vI d, vI f, vI g, vI (Int32.ofNat yn), vU, vU, vU, vU, vU, vU, vU, vU, vU] [(.int b)]) _
    refine X0.ldcInt hx hown (mvT hZ (own_h hw 0 rfl)) (g := (mkF m 11 #[vI a, vI b, vI d, vI f, vI g, vI (Int32.ofNat yn), vU, vU, vU, vU, vU, vU, vU, vU, vU] [(.int b)])) rfl (hb hby at_11) _ ?_
    refine XS.iand X0.here hx rfl (hb hby at_13) rfl ?_
    show Sp p e below s₁ (mkF m 14 #[vI a, vI b, vI d, vI f, vI g, vI (Int32.ofNat yn), vU, vU, vU, vU, vU, vU, vU, vU, vU] [(.int (b &&& (2147483647 : Int32)))]) _
    refine XS.bipush X0.here hx rfl (hb hby at_14) ?_
    refine iremM X0 hx rfl (hb hby at_16) rfl (by decide) ?_
    show Sp p e below s₁ (mkF m 17 #[vI a, vI b, vI d, vI f, vI g, vI (Int32.ofNat yn), vU, vU, vU, vU, vU, vU, vU, vU, vU] [(.int ((b &&& (2147483647 : Int32)) % (12 : Int32)))]) _
    exact kt)
  clear S934
  obtain ⟨m0, h_m0, q_m0⟩ := own_mod b (k := 12) 12 rfl (by decide) (by decide)
  have q938 : ((b &&& (2147483647 : Int32)) % (12 : Int32)) = (Int32.ofNat m0) := q_m0
  have S937 : Go p e below s₁ (eF_law m a b d f g) s₁ (mkF m 17 #[vI a, vI b, vI d, vI f, vI g, vI (Int32.ofNat yn), vU, vU, vU, vU, vU, vU, vU, vU, vU] [(.int (Int32.ofNat m0))]) := by have h := S936; rw [q938] at h; exact h
  clear S936
  have S939 : Go p e below s₁ (eF_law m a b d f g) s₁ (mkF m 19 #[vI a, vI b, vI d, vI f, vI g, vI (Int32.ofNat yn), vU, vU, vU, vU, vU, vU, vU, vU, vU] [(.int ((Int32.ofNat m0) + (1 : Int32)))]) := fun t kt => S937 t (by
    refine XS.iconst X0.here hx rfl (hb hby at_17) ?_
    refine XS.iadd X0.here hx rfl (hb hby at_18) rfl ?_
    show Sp p e below s₁ (mkF m 19 #[vI a, vI b, vI d, vI f, vI g, vI (Int32.ofNat yn), vU, vU, vU, vU, vU, vU, vU, vU, vU] [(.int ((Int32.ofNat m0) + (1 : Int32)))]) _
    exact kt)
  clear S937
  have q941 : ((Int32.ofNat m0) + (1 : Int32)) = (Int32.ofNat (m0 + 1)) := own_addN _ 1
  have S940 : Go p e below s₁ (eF_law m a b d f g) s₁ (mkF m 19 #[vI a, vI b, vI d, vI f, vI g, vI (Int32.ofNat yn), vU, vU, vU, vU, vU, vU, vU, vU, vU] [(.int (Int32.ofNat (m0 + 1)))]) := by have h := S939; rw [q941] at h; exact h
  clear S939
  have S942 : Go p e below s₁ (eF_law m a b d f g) s₁ (mkF m 28 #[vI a, vI b, vI d, vI f, vI g, vI (Int32.ofNat yn), vI (Int32.ofNat (m0 + 1)), vU, vU, vU, vU, vU, vU, vU, vU] [(.int ((d &&& (2147483647 : Int32)) % (28 : Int32)))]) := fun t kt => S940 t (by
    refine XS.istore X0.here hx rfl (hb hby at_19) rfl (l' := #[vI a, vI b, vI d, vI f, vI g, vI (Int32.ofNat yn), vI (Int32.ofNat (m0 + 1)), vU, vU, vU, vU, vU, vU, vU, vU]) rfl ?_
    refine XS.iloadN X0.here hx rfl (hb hby at_21) rfl ?_
    show Sp p e below s₁ (mkF m 22 #[vI a, vI b, vI d, vI f, vI g, vI (Int32.ofNat yn), vI (Int32.ofNat (m0 + 1)), vU, vU, vU, vU, vU, vU, vU, vU] [(.int d)]) _
    refine X0.ldcInt hx hown (mvT hZ (own_h hw 0 rfl)) (g := (mkF m 22 #[vI a, vI b, vI d, vI f, vI g, vI (Int32.ofNat yn), vI (Int32.ofNat (m0 + 1)), vU, vU, vU, vU, vU, vU, vU, vU] [(.int d)])) rfl (hb hby at_22) _ ?_
    refine XS.iand X0.here hx rfl (hb hby at_24) rfl ?_
    show Sp p e below s₁ (mkF m 25 #[vI a, vI b, vI d, vI f, vI g, vI (Int32.ofNat yn), vI (Int32.ofNat (m0 + 1)), vU, vU, vU, vU, vU, vU, vU, vU] [(.int (d &&& (2147483647 : Int32)))]) _
    refine XS.bipush X0.here hx rfl (hb hby at_25) ?_
    refine iremM X0 hx rfl (hb hby at_27) rfl (by decide) ?_
    show Sp p e below s₁ (mkF m 28 #[vI a, vI b, vI d, vI f, vI g, vI (Int32.ofNat yn), vI (Int32.ofNat (m0 + 1)), vU, vU, vU, vU, vU, vU, vU, vU] [(.int ((d &&& (2147483647 : Int32)) % (28 : Int32)))]) _
    exact kt)
  clear S940
  obtain ⟨d0, h_d0, q_d0⟩ := own_mod d (k := 28) 28 rfl (by decide) (by decide)
  have q944 : ((d &&& (2147483647 : Int32)) % (28 : Int32)) = (Int32.ofNat d0) := q_d0
  have S943 : Go p e below s₁ (eF_law m a b d f g) s₁ (mkF m 28 #[vI a, vI b, vI d, vI f, vI g, vI (Int32.ofNat yn), vI (Int32.ofNat (m0 + 1)), vU, vU, vU, vU, vU, vU, vU, vU] [(.int (Int32.ofNat d0))]) := by have h := S942; rw [q944] at h; exact h
  clear S942
  have S945 : Go p e below s₁ (eF_law m a b d f g) s₁ (mkF m 30 #[vI a, vI b, vI d, vI f, vI g, vI (Int32.ofNat yn), vI (Int32.ofNat (m0 + 1)), vU, vU, vU, vU, vU, vU, vU, vU] [(.int ((Int32.ofNat d0) + (1 : Int32)))]) := fun t kt => S943 t (by
    refine XS.iconst X0.here hx rfl (hb hby at_28) ?_
    refine XS.iadd X0.here hx rfl (hb hby at_29) rfl ?_
    show Sp p e below s₁ (mkF m 30 #[vI a, vI b, vI d, vI f, vI g, vI (Int32.ofNat yn), vI (Int32.ofNat (m0 + 1)), vU, vU, vU, vU, vU, vU, vU, vU] [(.int ((Int32.ofNat d0) + (1 : Int32)))]) _
    exact kt)
  clear S943
  have q947 : ((Int32.ofNat d0) + (1 : Int32)) = (Int32.ofNat (d0 + 1)) := own_addN _ 1
  have S946 : Go p e below s₁ (eF_law m a b d f g) s₁ (mkF m 30 #[vI a, vI b, vI d, vI f, vI g, vI (Int32.ofNat yn), vI (Int32.ofNat (m0 + 1)), vU, vU, vU, vU, vU, vU, vU, vU] [(.int (Int32.ofNat (d0 + 1)))]) := by have h := S945; rw [q947] at h; exact h
  clear S945
  have S948 : Go p e below s₁ (eF_law m a b d f g) s₁ (mkF m 38 #[vI a, vI b, vI d, vI f, vI g, vI (Int32.ofNat yn), vI (Int32.ofNat (m0 + 1)), vI (Int32.ofNat (d0 + 1)), vU, vU, vU, vU, vU, vU, vU] [(.int ((f &&& (2147483647 : Int32)) % (3 : Int32)))]) := fun t kt => S946 t (by
    refine XS.istore X0.here hx rfl (hb hby at_30) rfl (l' := #[vI a, vI b, vI d, vI f, vI g, vI (Int32.ofNat yn), vI (Int32.ofNat (m0 + 1)), vI (Int32.ofNat (d0 + 1)), vU, vU, vU, vU, vU, vU, vU]) rfl ?_
    refine XS.iloadN X0.here hx rfl (hb hby at_32) rfl ?_
    show Sp p e below s₁ (mkF m 33 #[vI a, vI b, vI d, vI f, vI g, vI (Int32.ofNat yn), vI (Int32.ofNat (m0 + 1)), vI (Int32.ofNat (d0 + 1)), vU, vU, vU, vU, vU, vU, vU] [(.int f)]) _
    refine X0.ldcInt hx hown (mvT hZ (own_h hw 0 rfl)) (g := (mkF m 33 #[vI a, vI b, vI d, vI f, vI g, vI (Int32.ofNat yn), vI (Int32.ofNat (m0 + 1)), vI (Int32.ofNat (d0 + 1)), vU, vU, vU, vU, vU, vU, vU] [(.int f)])) rfl (hb hby at_33) _ ?_
    refine XS.iand X0.here hx rfl (hb hby at_35) rfl ?_
    show Sp p e below s₁ (mkF m 36 #[vI a, vI b, vI d, vI f, vI g, vI (Int32.ofNat yn), vI (Int32.ofNat (m0 + 1)), vI (Int32.ofNat (d0 + 1)), vU, vU, vU, vU, vU, vU, vU] [(.int (f &&& (2147483647 : Int32)))]) _
    refine XS.iconst X0.here hx rfl (hb hby at_36) ?_
    refine iremM X0 hx rfl (hb hby at_37) rfl (by decide) ?_
    show Sp p e below s₁ (mkF m 38 #[vI a, vI b, vI d, vI f, vI g, vI (Int32.ofNat yn), vI (Int32.ofNat (m0 + 1)), vI (Int32.ofNat (d0 + 1)), vU, vU, vU, vU, vU, vU, vU] [(.int ((f &&& (2147483647 : Int32)) % (3 : Int32)))]) _
    exact kt)
  clear S946
  obtain ⟨kn, h_kn, q_kn⟩ := own_mod f (k := 3) 3 rfl (by decide) (by decide)
  have q950 : ((f &&& (2147483647 : Int32)) % (3 : Int32)) = (Int32.ofNat kn) := q_kn
  have S949 : Go p e below s₁ (eF_law m a b d f g) s₁ (mkF m 38 #[vI a, vI b, vI d, vI f, vI g, vI (Int32.ofNat yn), vI (Int32.ofNat (m0 + 1)), vI (Int32.ofNat (d0 + 1)), vU, vU, vU, vU, vU, vU, vU] [(.int (Int32.ofNat kn))]) := by have h := S948; rw [q950] at h; exact h
  clear S948
  have S951 : Go p e below s₁ (eF_law m a b d f g) s₁ (mkF m 46 #[vI a, vI b, vI d, vI f, vI g, vI (Int32.ofNat yn), vI (Int32.ofNat (m0 + 1)), vI (Int32.ofNat (d0 + 1)), vI (Int32.ofNat kn), vU, vU, vU, vU, vU, vU] [(.int (g &&& (1 : Int32))), (.int (Int32.ofNat yn))]) := fun t kt => S949 t (by
    refine XS.istore X0.here hx rfl (hb hby at_38) rfl (l' := #[vI a, vI b, vI d, vI f, vI g, vI (Int32.ofNat yn), vI (Int32.ofNat (m0 + 1)), vI (Int32.ofNat (d0 + 1)), vI (Int32.ofNat kn), vU, vU, vU, vU, vU, vU]) rfl ?_
    refine XS.iload X0.here hx rfl (hb hby at_40) rfl ?_
    show Sp p e below s₁ (mkF m 42 #[vI a, vI b, vI d, vI f, vI g, vI (Int32.ofNat yn), vI (Int32.ofNat (m0 + 1)), vI (Int32.ofNat (d0 + 1)), vI (Int32.ofNat kn), vU, vU, vU, vU, vU, vU] [(.int (Int32.ofNat yn))]) _
    refine XS.iload X0.here hx rfl (hb hby at_42) rfl ?_
    refine XS.iconst X0.here hx rfl (hb hby at_44) ?_
    show Sp p e below s₁ (mkF m 45 #[vI a, vI b, vI d, vI f, vI g, vI (Int32.ofNat yn), vI (Int32.ofNat (m0 + 1)), vI (Int32.ofNat (d0 + 1)), vI (Int32.ofNat kn), vU, vU, vU, vU, vU, vU] [(.int (1 : Int32)), (.int g), (.int (Int32.ofNat yn))]) _
    refine XS.iand X0.here hx rfl (hb hby at_45) rfl ?_
    exact kt)
  clear S949
  obtain ⟨jl, h_jl, q_jl⟩ := own_and1 g
  have q953 : (g &&& (1 : Int32)) = (Int32.ofNat jl) := q_jl
  have S952 : Go p e below s₁ (eF_law m a b d f g) s₁ (mkF m 46 #[vI a, vI b, vI d, vI f, vI g, vI (Int32.ofNat yn), vI (Int32.ofNat (m0 + 1)), vI (Int32.ofNat (d0 + 1)), vI (Int32.ofNat kn), vU, vU, vU, vU, vU, vU] [(.int (Int32.ofNat jl)), (.int (Int32.ofNat yn))]) := by have h := S951; rw [q953] at h; exact h
  clear S951
  have S954 : Go p e below s₁ (eF_law m a b d f g) s₁ (mkF m 47 #[vI a, vI b, vI d, vI f, vI g, vI (Int32.ofNat yn), vI (Int32.ofNat (m0 + 1)), vI (Int32.ofNat (d0 + 1)), vI (Int32.ofNat kn), vU, vU, vU, vU, vU, vU] [(.int ((Int32.ofNat yn) + (Int32.ofNat jl)))]) := fun t kt => S952 t (by
    refine XS.iadd X0.here hx rfl (hb hby at_46) rfl ?_
    exact kt)
  clear S952
  have q956 : ((Int32.ofNat yn) + (Int32.ofNat jl)) = (Int32.ofNat (yn + jl)) := own_addN _ _
  have S955 : Go p e below s₁ (eF_law m a b d f g) s₁ (mkF m 47 #[vI a, vI b, vI d, vI f, vI g, vI (Int32.ofNat yn), vI (Int32.ofNat (m0 + 1)), vI (Int32.ofNat (d0 + 1)), vI (Int32.ofNat kn), vU, vU, vU, vU, vU, vU] [(.int (Int32.ofNat (yn + jl)))]) := by have h := S954; rw [q956] at h; exact h
  clear S954
  obtain ⟨mn, q_mn⟩ : ∃ z, z = m0 + 1 := ⟨_, rfl⟩
  obtain ⟨dn, q_dn⟩ : ∃ z, z = d0 + 1 := ⟨_, rfl⟩
  obtain ⟨y2, q_y2⟩ : ∃ z, z = yn + jl := ⟨_, rfl⟩
  have hm : 1 ≤ mn := by omega
  have hm2 : mn ≤ 12 := by omega
  have hd : 1 ≤ dn := by omega
  have hd2 : dn ≤ 28 := by omega
  have hy : yn ≤ 9999 := by omega
  have hy2 : y2 ≤ 9999 := by omega
  have hyy : y2 = yn ∨ y2 = yn + 1 := by omega
  have q958 : (Int32.ofNat (m0 + 1)) = (Int32.ofNat mn) := by rw [q_mn]
  have S957 : Go p e below s₁ (eF_law m a b d f g) s₁ (mkF m 47 #[vI a, vI b, vI d, vI f, vI g, vI (Int32.ofNat yn), vI (Int32.ofNat mn), vI (Int32.ofNat (d0 + 1)), vI (Int32.ofNat kn), vU, vU, vU, vU, vU, vU] [(.int (Int32.ofNat (yn + jl)))]) := by have h := S955; rw [q958] at h; exact h
  clear S955
  have q960 : (Int32.ofNat (d0 + 1)) = (Int32.ofNat dn) := by rw [q_dn]
  have S959 : Go p e below s₁ (eF_law m a b d f g) s₁ (mkF m 47 #[vI a, vI b, vI d, vI f, vI g, vI (Int32.ofNat yn), vI (Int32.ofNat mn), vI (Int32.ofNat dn), vI (Int32.ofNat kn), vU, vU, vU, vU, vU, vU] [(.int (Int32.ofNat (yn + jl)))]) := by have h := S957; rw [q960] at h; exact h
  clear S957
  have q962 : (Int32.ofNat (yn + jl)) = (Int32.ofNat y2) := by rw [q_y2]
  have S961 : Go p e below s₁ (eF_law m a b d f g) s₁ (mkF m 47 #[vI a, vI b, vI d, vI f, vI g, vI (Int32.ofNat yn), vI (Int32.ofNat mn), vI (Int32.ofNat dn), vI (Int32.ofNat kn), vU, vU, vU, vU, vU, vU] [(.int (Int32.ofNat y2))]) := by have h := S959; rw [q962] at h; exact h
  clear S959
  have S963 : Go p e below s₁ (eF_law m a b d f g) s₁ (mkF m 55 #[vI a, vI b, vI d, vI f, vI g, vI (Int32.ofNat yn), vI (Int32.ofNat mn), vI (Int32.ofNat dn), vI (Int32.ofNat kn), vI (Int32.ofNat y2), vU, vU, vU, vU, vU] [(.int (Int32.ofNat dn)), (.int (Int32.ofNat mn)), (.int (Int32.ofNat yn))]) := fun t kt => S961 t (by
    refine XS.istore X0.here hx rfl (hb hby at_47) rfl (l' := #[vI a, vI b, vI d, vI f, vI g, vI (Int32.ofNat yn), vI (Int32.ofNat mn), vI (Int32.ofNat dn), vI (Int32.ofNat kn), vI (Int32.ofNat y2), vU, vU, vU, vU, vU]) rfl ?_
    refine XS.iload X0.here hx rfl (hb hby at_49) rfl ?_
    show Sp p e below s₁ (mkF m 51 #[vI a, vI b, vI d, vI f, vI g, vI (Int32.ofNat yn), vI (Int32.ofNat mn), vI (Int32.ofNat dn), vI (Int32.ofNat kn), vI (Int32.ofNat y2), vU, vU, vU, vU, vU] [(.int (Int32.ofNat yn))]) _
    refine XS.iload X0.here hx rfl (hb hby at_51) rfl ?_
    refine XS.iload X0.here hx rfl (hb hby at_53) rfl ?_
    show Sp p e below s₁ (mkF m 55 #[vI a, vI b, vI d, vI f, vI g, vI (Int32.ofNat yn), vI (Int32.ofNat mn), vI (Int32.ofNat dn), vI (Int32.ofNat kn), vI (Int32.ofNat y2), vU, vU, vU, vU, vU] [(.int (Int32.ofNat dn)), (.int (Int32.ofNat mn)), (.int (Int32.ofNat yn))]) _
    exact kt)
  clear S961
  obtain ⟨v964, T964, L964, X964, hQ964, st964⟩ := own_outS (Jvm.LawKit.callS X0 hx (y := (⟨"com/example/tranchery/tranchery/journal/ScheduleHasRulePinLaw", "text", "(III)Ljava/lang/String;"⟩ : MethodName)) hown (mvT hZ (own_h hw 1 rfl)) (mvT hZ (own_h hw 2 rfl)) (mvT hZ (own_h hw 3 rfl)) (mvT hZ (own_h hw 4 rfl)) (by decide) (backOf (W := 0) (rm_text l Z a0 hw [] yn mn dn h0 n0 Z0 SS O0 hy hm hm2 hd hd2) hZ (own_h hw 4 rfl) (own_h hw 3 rfl) (by decide) (by decide)) (g := (mkF m 55 #[vI a, vI b, vI d, vI f, vI g, vI (Int32.ofNat yn), vI (Int32.ofNat mn), vI (Int32.ofNat dn), vI (Int32.ofNat kn), vI (Int32.ofNat y2), vU, vU, vU, vU, vU] [(.int (Int32.ofNat dn)), (.int (Int32.ofNat mn)), (.int (Int32.ofNat yn))])) rfl (by rw [hml]; rfl) (argsL := [(.int (Int32.ofNat yn)), (.int (Int32.ofNat mn)), (.int (Int32.ofNat dn))]) (rest := []) (lenOf pd__III_Ljava_lang_String_ rfl) rfl (by show 2 * 0 + _ ≤ _; exact Nat.le_of_eq rfl) (hb hby at_55) (fun _ _ => ⟨rfl, e0, (by decide : 0 + 3 ≤ _), (by decide : 0 + 24 ≤ _)⟩))
  obtain ⟨s0, t0, kb964, rfl, N964q, K964, sx964, st_964, E964, F964, G964, V964⟩ := hQ964
  have N964 := Fr.app N0 N964q
  have g_s0 : n0 ≤ s0 := Nat.le_trans Z0 sx964
  have g_t0 : n0 ≤ t0 := Nat.le_trans Z0 st_964
  have S965 : Go p e below s₁ (eF_law m a b d f g) T964 (mkF m 58 #[vI a, vI b, vI d, vI f, vI g, vI (Int32.ofNat yn), vI (Int32.ofNat mn), vI (Int32.ofNat dn), vI (Int32.ofNat kn), vI (Int32.ofNat y2), vU, vU, vU, vU, vU] [(.ref s0)]) := fun t kt => S963 t (st964 t kt)
  clear S963 st964 X0 e0
  have f966 := (O0.keep K964 all0)
  obtain ⟨v967, T967, L967, X967, hQ967, st967⟩ := own_outS (Jvm.RoadKit.callSH X964 hx (y := (⟨"com/example/tranchery/tranchery/journal/Fields", "date", "(Ljava/lang/String;)Ljava/time/LocalDate;"⟩ : MethodName)) hown (mvT hZ (own_h hw 35 rfl)) (mvT hZ (own_h hw 36 rfl)) (mvT hZ (own_h hw 37 rfl)) (mvT hZ (own_h hw 38 rfl)) (by decide) (backOfWith (W := 0) (rm_dat l Z a0 hw [] s0 t0 kb964 yn mn dn T964.heap n0 (Nat.le_trans Z0 K964.1) SS f966 E964 F964 G964 V964 hy hm hm2 hd hd2) hZ (own_h hw 38 rfl) (own_h hw 37 rfl) (by decide) (by decide)) (g := (mkF m 58 #[vI a, vI b, vI d, vI f, vI g, vI (Int32.ofNat yn), vI (Int32.ofNat mn), vI (Int32.ofNat dn), vI (Int32.ofNat kn), vI (Int32.ofNat y2), vU, vU, vU, vU, vU] [(.ref s0)])) rfl (by rw [hml]; rfl) (argsL := [(.ref s0)]) (rest := []) (lenOf pd__Ljava_lang_String__Ljava_time_LocalDate_ rfl) rfl (by show 2 * 0 + _ ≤ _; exact Nat.le_of_eq rfl) (hb hby at_58) (fun _ _ => ⟨rfl, rfl, (by decide : 3 + 1 ≤ _), (by decide : 24 + 3 ≤ _)⟩))
  obtain ⟨dt0, rfl, N967q, K967, sz967, E967, Fy967, Fm967, Fd967⟩ := hQ967
  have N967 := Fr.app N964 N967q
  have g_dt0 : n0 ≤ dt0 := Nat.le_trans (Nat.le_trans Z0 K964.1) sz967
  have S968 : Go p e below s₁ (eF_law m a b d f g) T967 (mkF m 61 #[vI a, vI b, vI d, vI f, vI g, vI (Int32.ofNat yn), vI (Int32.ofNat mn), vI (Int32.ofNat dn), vI (Int32.ofNat kn), vI (Int32.ofNat y2), vU, vU, vU, vU, vU] [(.ref dt0)]) := fun t kt => S965 t (st967 t kt)
  clear S965 st967 X964
  have S969 : Go p e below s₁ (eF_law m a b d f g) T967 (mkF m 69 #[vI a, vI b, vI d, vI f, vI g, vI (Int32.ofNat yn), vI (Int32.ofNat mn), vI (Int32.ofNat dn), vI (Int32.ofNat kn), vI (Int32.ofNat y2), vR dt0, vU, vU, vU, vU] [(.int (Int32.ofNat dn)), (.int (Int32.ofNat mn)), (.int (Int32.ofNat y2))]) := fun t kt => S968 t (by
    refine XS.astore X967.here hx rfl (hb hby at_61) rfl rfl (l' := #[vI a, vI b, vI d, vI f, vI g, vI (Int32.ofNat yn), vI (Int32.ofNat mn), vI (Int32.ofNat dn), vI (Int32.ofNat kn), vI (Int32.ofNat y2), vR dt0, vU, vU, vU, vU]) rfl ?_
    refine XS.iload X967.here hx rfl (hb hby at_63) rfl ?_
    show Sp p e below T967 (mkF m 65 #[vI a, vI b, vI d, vI f, vI g, vI (Int32.ofNat yn), vI (Int32.ofNat mn), vI (Int32.ofNat dn), vI (Int32.ofNat kn), vI (Int32.ofNat y2), vR dt0, vU, vU, vU, vU] [(.int (Int32.ofNat y2))]) _
    refine XS.iload X967.here hx rfl (hb hby at_65) rfl ?_
    refine XS.iload X967.here hx rfl (hb hby at_67) rfl ?_
    show Sp p e below T967 (mkF m 69 #[vI a, vI b, vI d, vI f, vI g, vI (Int32.ofNat yn), vI (Int32.ofNat mn), vI (Int32.ofNat dn), vI (Int32.ofNat kn), vI (Int32.ofNat y2), vR dt0, vU, vU, vU, vU] [(.int (Int32.ofNat dn)), (.int (Int32.ofNat mn)), (.int (Int32.ofNat y2))]) _
    exact kt)
  clear S968
  have f970 := (f966.keep K967 all0)
  obtain ⟨v971, T971, L971, X971, hQ971, st971⟩ := own_outS (Jvm.LawKit.callS X967 hx (y := (⟨"com/example/tranchery/tranchery/journal/ScheduleHasRulePinLaw", "text", "(III)Ljava/lang/String;"⟩ : MethodName)) hown (mvT hZ (own_h hw 1 rfl)) (mvT hZ (own_h hw 2 rfl)) (mvT hZ (own_h hw 3 rfl)) (mvT hZ (own_h hw 4 rfl)) (by decide) (backOf (W := 0) (rm_text l Z a0 hw [] y2 mn dn T967.heap n0 (Nat.le_trans (Nat.le_trans Z0 K964.1) K967.1) SS f970 hy2 hm hm2 hd hd2) hZ (own_h hw 4 rfl) (own_h hw 3 rfl) (by decide) (by decide)) (g := (mkF m 69 #[vI a, vI b, vI d, vI f, vI g, vI (Int32.ofNat yn), vI (Int32.ofNat mn), vI (Int32.ofNat dn), vI (Int32.ofNat kn), vI (Int32.ofNat y2), vR dt0, vU, vU, vU, vU] [(.int (Int32.ofNat dn)), (.int (Int32.ofNat mn)), (.int (Int32.ofNat y2))])) rfl (by rw [hml]; rfl) (argsL := [(.int (Int32.ofNat y2)), (.int (Int32.ofNat mn)), (.int (Int32.ofNat dn))]) (rest := []) (lenOf pd__III_Ljava_lang_String_ rfl) rfl (by show 2 * 0 + _ ≤ _; exact Nat.le_of_eq rfl) (hb hby at_69) (fun _ _ => ⟨rfl, rfl, (by decide : 4 + 3 ≤ _), (by decide : 27 + 24 ≤ _)⟩))
  obtain ⟨s1, t1, kb971, rfl, N971q, K971, sx971, st_971, E971, F971, G971, V971⟩ := hQ971
  have N971 := Fr.app N967 N971q
  have g_s1 : n0 ≤ s1 := Nat.le_trans (Nat.le_trans (Nat.le_trans Z0 K964.1) K967.1) sx971
  have g_t1 : n0 ≤ t1 := Nat.le_trans (Nat.le_trans (Nat.le_trans Z0 K964.1) K967.1) st_971
  have S972 : Go p e below s₁ (eF_law m a b d f g) T971 (mkF m 72 #[vI a, vI b, vI d, vI f, vI g, vI (Int32.ofNat yn), vI (Int32.ofNat mn), vI (Int32.ofNat dn), vI (Int32.ofNat kn), vI (Int32.ofNat y2), vR dt0, vU, vU, vU, vU] [(.ref s1)]) := fun t kt => S969 t (st971 t kt)
  clear S969 st971 X967
  have f973 := (f970.keep K971 all0)
  obtain ⟨v974, T974, L974, X974, hQ974, st974⟩ := own_outS (Jvm.RoadKit.callSH X971 hx (y := (⟨"com/example/tranchery/tranchery/journal/Fields", "date", "(Ljava/lang/String;)Ljava/time/LocalDate;"⟩ : MethodName)) hown (mvT hZ (own_h hw 35 rfl)) (mvT hZ (own_h hw 36 rfl)) (mvT hZ (own_h hw 37 rfl)) (mvT hZ (own_h hw 38 rfl)) (by decide) (backOfWith (W := 0) (rm_dat l Z a0 hw [] s1 t1 kb971 y2 mn dn T971.heap n0 (Nat.le_trans (Nat.le_trans (Nat.le_trans Z0 K964.1) K967.1) K971.1) SS f973 E971 F971 G971 V971 hy2 hm hm2 hd hd2) hZ (own_h hw 38 rfl) (own_h hw 37 rfl) (by decide) (by decide)) (g := (mkF m 72 #[vI a, vI b, vI d, vI f, vI g, vI (Int32.ofNat yn), vI (Int32.ofNat mn), vI (Int32.ofNat dn), vI (Int32.ofNat kn), vI (Int32.ofNat y2), vR dt0, vU, vU, vU, vU] [(.ref s1)])) rfl (by rw [hml]; rfl) (argsL := [(.ref s1)]) (rest := []) (lenOf pd__Ljava_lang_String__Ljava_time_LocalDate_ rfl) rfl (by show 2 * 0 + _ ≤ _; exact Nat.le_of_eq rfl) (hb hby at_72) (fun _ _ => ⟨rfl, rfl, (by decide : 7 + 1 ≤ _), (by decide : 51 + 3 ≤ _)⟩))
  obtain ⟨dt1, rfl, N974q, K974, sz974, E974, Fy974, Fm974, Fd974⟩ := hQ974
  have N974 := Fr.app N971 N974q
  have g_dt1 : n0 ≤ dt1 := Nat.le_trans (Nat.le_trans (Nat.le_trans (Nat.le_trans Z0 K964.1) K967.1) K971.1) sz974
  have S975 : Go p e below s₁ (eF_law m a b d f g) T974 (mkF m 75 #[vI a, vI b, vI d, vI f, vI g, vI (Int32.ofNat yn), vI (Int32.ofNat mn), vI (Int32.ofNat dn), vI (Int32.ofNat kn), vI (Int32.ofNat y2), vR dt0, vU, vU, vU, vU] [(.ref dt1)]) := fun t kt => S972 t (st974 t kt)
  clear S972 st974 X971
  have S976 : Go p e below s₁ (eF_law m a b d f g) T974 (mkF m 77 #[vI a, vI b, vI d, vI f, vI g, vI (Int32.ofNat yn), vI (Int32.ofNat mn), vI (Int32.ofNat dn), vI (Int32.ofNat kn), vI (Int32.ofNat y2), vR dt0, vR dt1, vU, vU, vU] []) := fun t kt => S975 t (by
    refine XS.astore X974.here hx rfl (hb hby at_75) rfl rfl (l' := #[vI a, vI b, vI d, vI f, vI g, vI (Int32.ofNat yn), vI (Int32.ofNat mn), vI (Int32.ofNat dn), vI (Int32.ofNat kn), vI (Int32.ofNat y2), vR dt0, vR dt1, vU, vU, vU]) rfl ?_
    exact kt)
  clear S975
  obtain ⟨T977, h977, X977, e977, E977, A977, D977, -, st977⟩ := newO X974 hx hZ hown (own_h hw 144 rfl) (own_h hw 145 rfl) (own_h hw 146 rfl) rfl (g := (mkF m 77 #[vI a, vI b, vI d, vI f, vI g, vI (Int32.ofNat yn), vI (Int32.ofNat mn), vI (Int32.ofNat dn), vI (Int32.ofNat kn), vI (Int32.ofNat y2), vR dt0, vR dt1, vU, vU, vU] [])) rfl (hb hby at_77) (by decide) (by decide)
  obtain ⟨rl, g977⟩ : ∃ z, z = T974.heap.size := ⟨_, rfl⟩
  rw [← g977] at A977 D977 st977
  have f978 := ((E967.keep K971).keep K974)
  have ne979 : dt0 ≠ rl := by rw [g977]; exact Nat.ne_of_lt f978.lt
  have ne980 : dt1 ≠ rl := by rw [g977]; exact Nat.ne_of_lt E974.lt
  have g_rl : n0 ≤ rl := Nat.le_trans (Nat.le_trans (Nat.le_trans (Nat.le_trans (Nat.le_trans Z0 K964.1) K967.1) K971.1) K974.1) (Nat.le_of_eq g977.symm)
  have F_calendar_rl : Fld Z h977 rl "com/example/tranchery/tranchery/journal/BusinessDays" "calendar" "Lcom/example/tranchery/tranchery/journal/BusinessCalendar;" .null := D977 (Or.inr (own_h hw 157 rfl)) (ty := (.object "com/example/tranchery/tranchery/journal/BusinessCalendar")) (by decide)
  have F_roll_rl : Fld Z h977 rl "com/example/tranchery/tranchery/journal/BusinessDays" "roll" "Lcom/example/tranchery/tranchery/journal/Roll;" .null := D977 (Or.inr (own_h hw 159 rfl)) (ty := (.object "com/example/tranchery/tranchery/journal/Roll")) (by decide)
  have S981 : Go p e below s₁ (eF_law m a b d f g) T977 (mkF m 80 #[vI a, vI b, vI d, vI f, vI g, vI (Int32.ofNat yn), vI (Int32.ofNat mn), vI (Int32.ofNat dn), vI (Int32.ofNat kn), vI (Int32.ofNat y2), vR dt0, vR dt1, vU, vU, vU] [(.ref rl)]) := fun t kt => S976 t (st977 t kt)
  clear S976 st977 X974
  have S982 : Go p e below s₁ (eF_law m a b d f g) T977 (mkF m 83 #[vI a, vI b, vI d, vI f, vI g, vI (Int32.ofNat yn), vI (Int32.ofNat mn), vI (Int32.ofNat dn), vI (Int32.ofNat kn), vI (Int32.ofNat y2), vR dt0, vR dt1, vU, vU, vU] [.null, .null, (.ref rl), (.ref rl)]) := fun t kt => S981 t (by
    refine XS.dup X977.here hx rfl (hb hby at_80) rfl rfl ?_
    refine XS.aconstNull X977.here hx rfl (hb hby at_81) ?_
    show Sp p e below T977 (mkF m 82 #[vI a, vI b, vI d, vI f, vI g, vI (Int32.ofNat yn), vI (Int32.ofNat mn), vI (Int32.ofNat dn), vI (Int32.ofNat kn), vI (Int32.ofNat y2), vR dt0, vR dt1, vU, vU, vU] [.null, (.ref rl), (.ref rl)]) _
    refine XS.aconstNull X977.here hx rfl (hb hby at_82) ?_
    exact kt)
  clear S981
  obtain ⟨v983, T983, L983, X983, hQ983, st983⟩ := own_outV (X977.specialBack hx (y := (⟨"com/example/tranchery/tranchery/journal/BusinessDays", "<init>", "(Lcom/example/tranchery/tranchery/journal/BusinessCalendar;Lcom/example/tranchery/tranchery/journal/Roll;)V"⟩ : MethodName)) rfl hown (mvT hZ (own_h hw 147 rfl)) (mvT hZ (own_h hw 148 rfl)) (mvT hZ (own_h hw 149 rfl)) (by decide) (backOf (W := 1) (rm_bdi l Z a0 hw [] rl h977 n0 (Nat.le_trans (Nat.le_trans (Nat.le_trans (Nat.le_trans (Nat.le_trans Z0 K964.1) K967.1) K971.1) K974.1) E977.1) A977 F_calendar_rl F_roll_rl g_rl) hZ (own_h hw 149 rfl) (own_h hw 146 rfl) (by decide) (by decide)) (g := (mkF m 83 #[vI a, vI b, vI d, vI f, vI g, vI (Int32.ofNat yn), vI (Int32.ofNat mn), vI (Int32.ofNat dn), vI (Int32.ofNat kn), vI (Int32.ofNat y2), vR dt0, vR dt1, vU, vU, vU] [.null, .null, (.ref rl), (.ref rl)])) rfl (by rw [hml]; rfl) (Steps.refl _) (a := rl) (argsL := [.null, .null]) (rest := [(.ref rl)]) (lenOf pd__Lcom_example_tranchery_tranchery_journal_BusinessCalendar_Lcom_example_tranchery_tranchery_journal_Roll__V rfl) rfl (by show 2 * 0 + _ ≤ _; exact Nat.le_of_eq rfl) (hb hby at_83) (fun _ _ => ⟨rfl, e977, (by decide : 9 + 0 ≤ _), (by decide : 56 + 0 ≤ _)⟩))
  obtain ⟨rfl, N983q, K983, E983⟩ := hQ983
  have N983 := Fr.app N974 N983q
  have S984 : Go p e below s₁ (eF_law m a b d f g) T983 (mkF m 86 #[vI a, vI b, vI d, vI f, vI g, vI (Int32.ofNat yn), vI (Int32.ofNat mn), vI (Int32.ofNat dn), vI (Int32.ofNat kn), vI (Int32.ofNat y2), vR dt0, vR dt1, vU, vU, vU] [(.ref rl)]) := fun t kt => S982 t (st983 t kt)
  clear S982 st983 X977 e977
  have S985 : Go p e below s₁ (eF_law m a b d f g) T983 (mkF m 88 #[vI a, vI b, vI d, vI f, vI g, vI (Int32.ofNat yn), vI (Int32.ofNat mn), vI (Int32.ofNat dn), vI (Int32.ofNat kn), vI (Int32.ofNat y2), vR dt0, vR dt1, vR rl, vU, vU] []) := fun t kt => S984 t (by
    refine XS.astore X983.here hx rfl (hb hby at_86) rfl rfl (l' := #[vI a, vI b, vI d, vI f, vI g, vI (Int32.ofNat yn), vI (Int32.ofNat mn), vI (Int32.ofNat dn), vI (Int32.ofNat kn), vI (Int32.ofNat y2), vR dt0, vR dt1, vR rl, vU, vU]) rfl ?_
    exact kt)
  clear S984
  obtain ⟨T986, h986, X986, e986, E986, A986, D986, -, st986⟩ := newO X983 hx hZ hown (own_h hw 160 rfl) (own_h hw 161 rfl) (own_h hw 162 rfl) rfl (g := (mkF m 88 #[vI a, vI b, vI d, vI f, vI g, vI (Int32.ofNat yn), vI (Int32.ofNat mn), vI (Int32.ofNat dn), vI (Int32.ofNat kn), vI (Int32.ofNat y2), vR dt0, vR dt1, vR rl, vU, vU] [])) rfl (hb hby at_88) (by decide) (by decide)
  obtain ⟨sc, g986⟩ : ∃ z, z = T983.heap.size := ⟨_, rfl⟩
  rw [← g986] at A986 D986 st986
  have f987 := ((f978.ext E977).keep K983)
  have ne988 : dt0 ≠ sc := by rw [g986]; exact Nat.ne_of_lt f987.lt
  have f989 := ((E974.ext E977).keep K983)
  have ne990 : dt1 ≠ sc := by rw [g986]; exact Nat.ne_of_lt f989.lt
  have ne991 : rl ≠ sc := by rw [g986]; exact Nat.ne_of_lt E983.lt
  have g_sc : n0 ≤ sc := Nat.le_trans (Nat.le_trans (Nat.le_trans (Nat.le_trans (Nat.le_trans (Nat.le_trans (Nat.le_trans Z0 K964.1) K967.1) K971.1) K974.1) E977.1) K983.1) (Nat.le_of_eq g986.symm)
  have F_waiting_sc : Fld Z h986 sc "com/example/tranchery/tranchery/journal/Schedule" "waiting" "Lcom/example/tranchery/tranchery/journal/InstallmentQueue;" .null := D986 (Or.inr (own_h hw 183 rfl)) (ty := (.object "com/example/tranchery/tranchery/journal/InstallmentQueue")) (by decide)
  have F_rules_sc : Fld Z h986 sc "com/example/tranchery/tranchery/journal/Schedule" "rules" "Lcom/example/tranchery/tranchery/journal/Timeline;" .null := D986 (Or.inr (own_h hw 203 rfl)) (ty := (.object "com/example/tranchery/tranchery/journal/Timeline")) (by decide)
  have F_maturity_sc : Fld Z h986 sc "com/example/tranchery/tranchery/journal/Schedule" "maturity" "Ljava/time/LocalDate;" .null := D986 (Or.inl (own_h hw 325 rfl)) (ty := (.object "java/time/LocalDate")) (by decide)
  have F_maturityDay_sc : Fld Z h986 sc "com/example/tranchery/tranchery/journal/Schedule" "maturityDay" "Ljava/time/LocalDate;" .null := D986 (Or.inl (own_h hw 327 rfl)) (ty := (.object "java/time/LocalDate")) (by decide)
  have S992 : Go p e below s₁ (eF_law m a b d f g) T986 (mkF m 91 #[vI a, vI b, vI d, vI f, vI g, vI (Int32.ofNat yn), vI (Int32.ofNat mn), vI (Int32.ofNat dn), vI (Int32.ofNat kn), vI (Int32.ofNat y2), vR dt0, vR dt1, vR rl, vU, vU] [(.ref sc)]) := fun t kt => S985 t (st986 t kt)
  clear S985 st986 X983
  have S993 : Go p e below s₁ (eF_law m a b d f g) T986 (mkF m 92 #[vI a, vI b, vI d, vI f, vI g, vI (Int32.ofNat yn), vI (Int32.ofNat mn), vI (Int32.ofNat dn), vI (Int32.ofNat kn), vI (Int32.ofNat y2), vR dt0, vR dt1, vR rl, vU, vU] [(.ref sc), (.ref sc)]) := fun t kt => S992 t (by
    refine XS.dup X986.here hx rfl (hb hby at_91) rfl rfl ?_
    exact kt)
  clear S992
  have f994 := ((((f973.keep K974 all0).ext E977).keep K983 (allS g_rl all0)).ext E986)
  obtain ⟨v995, T995, L995, X995, hQ995, st995⟩ := own_outV (X986.specialBack hx (y := (⟨"com/example/tranchery/tranchery/journal/Schedule", "<init>", "()V"⟩ : MethodName)) rfl hown (mvT hZ (own_h hw 163 rfl)) (mvT hZ (own_h hw 164 rfl)) (mvT hZ (own_h hw 165 rfl)) (by decide) (backOf (W := 1) (rm_sci l Z a0 hw [] sc h986 n0 (Nat.le_trans (Nat.le_trans (Nat.le_trans (Nat.le_trans (Nat.le_trans (Nat.le_trans (Nat.le_trans Z0 K964.1) K967.1) K971.1) K974.1) E977.1) K983.1) E986.1) SS f994 A986 F_waiting_sc F_rules_sc F_maturity_sc g_sc) hZ (own_h hw 165 rfl) (own_h hw 162 rfl) (by decide) (by decide)) (g := (mkF m 92 #[vI a, vI b, vI d, vI f, vI g, vI (Int32.ofNat yn), vI (Int32.ofNat mn), vI (Int32.ofNat dn), vI (Int32.ofNat kn), vI (Int32.ofNat y2), vR dt0, vR dt1, vR rl, vU, vU] [(.ref sc), (.ref sc)])) rfl (by rw [hml]; rfl) (Steps.refl _) (a := sc) (argsL := []) (rest := [(.ref sc)]) (lenOf pd___V rfl) rfl (by show 2 * 0 + _ ≤ _; exact Nat.le_of_eq rfl) (hb hby at_92) (fun _ _ => ⟨rfl, e986, (by decide : 10 + 5 ≤ _), (by decide : 60 + 21 ≤ _)⟩))
  obtain ⟨rfl, N995q, K995, iq, x, da, fa, va, kd, kf, kv, sziq995, szx995, szda995, szfa995, szva995, ndafa995, ndava995, nfava995, niqx995, niqda995, niqfa995, niqva995, nxda995, nxfa995, nxva995, Es995, Fw995, Frr995, Fmt995, Eq995, Fq995, E995, Fd995, Ff995, Fv995, Fz995, Vd995, Vf995, Vv995, Of995, Ov995⟩ := hQ995
  have N995 := Fr.app N983 N995q
  have g_iq : n0 ≤ iq := Nat.le_trans (Nat.le_trans (Nat.le_trans (Nat.le_trans (Nat.le_trans (Nat.le_trans (Nat.le_trans (Nat.le_trans Z0 K964.1) K967.1) K971.1) K974.1) E977.1) K983.1) E986.1) sziq995
  have g_x : n0 ≤ x := Nat.le_trans (Nat.le_trans (Nat.le_trans (Nat.le_trans (Nat.le_trans (Nat.le_trans (Nat.le_trans (Nat.le_trans Z0 K964.1) K967.1) K971.1) K974.1) E977.1) K983.1) E986.1) szx995
  have g_da : n0 ≤ da := Nat.le_trans (Nat.le_trans (Nat.le_trans (Nat.le_trans (Nat.le_trans (Nat.le_trans (Nat.le_trans (Nat.le_trans Z0 K964.1) K967.1) K971.1) K974.1) E977.1) K983.1) E986.1) szda995
  have g_fa : n0 ≤ fa := Nat.le_trans (Nat.le_trans (Nat.le_trans (Nat.le_trans (Nat.le_trans (Nat.le_trans (Nat.le_trans (Nat.le_trans Z0 K964.1) K967.1) K971.1) K974.1) E977.1) K983.1) E986.1) szfa995
  have g_va : n0 ≤ va := Nat.le_trans (Nat.le_trans (Nat.le_trans (Nat.le_trans (Nat.le_trans (Nat.le_trans (Nat.le_trans (Nat.le_trans Z0 K964.1) K967.1) K971.1) K974.1) E977.1) K983.1) E986.1) szva995
  have S996 : Go p e below s₁ (eF_law m a b d f g) T995 (mkF m 95 #[vI a, vI b, vI d, vI f, vI g, vI (Int32.ofNat yn), vI (Int32.ofNat mn), vI (Int32.ofNat dn), vI (Int32.ofNat kn), vI (Int32.ofNat y2), vR dt0, vR dt1, vR rl, vU, vU] [(.ref sc)]) := fun t kt => S993 t (st995 t kt)
  clear S993 st995 X986 e986
  have S997 : Go p e below s₁ (eF_law m a b d f g) T995 (mkF m 99 #[vI a, vI b, vI d, vI f, vI g, vI (Int32.ofNat yn), vI (Int32.ofNat mn), vI (Int32.ofNat dn), vI (Int32.ofNat kn), vI (Int32.ofNat y2), vR dt0, vR dt1, vR rl, vR sc, vU] [(.ref sc)]) := fun t kt => S996 t (by
    refine XS.astore X995.here hx rfl (hb hby at_95) rfl rfl (l' := #[vI a, vI b, vI d, vI f, vI g, vI (Int32.ofNat yn), vI (Int32.ofNat mn), vI (Int32.ofNat dn), vI (Int32.ofNat kn), vI (Int32.ofNat y2), vR dt0, vR dt1, vR rl, vR sc, vU]) rfl ?_
    refine XS.aload X995.here hx rfl (hb hby at_97) rfl rfl ?_
    show Sp p e below T995 (mkF m 99 #[vI a, vI b, vI d, vI f, vI g, vI (Int32.ofNat yn), vI (Int32.ofNat mn), vI (Int32.ofNat dn), vI (Int32.ofNat kn), vI (Int32.ofNat y2), vR dt0, vR dt1, vR rl, vR sc, vU] [(.ref sc)]) _
    exact kt)
  clear S996
  obtain ⟨cq998, kq998, q998a, q998b, q998c⟩ := isOf hZ rfl Es995
  obtain ⟨v998, T998, L998, X998, hQ998, st998⟩ := own_outV (X995.virtualBack hx (y := (⟨"com/example/tranchery/tranchery/journal/Schedule", "hasRule", "()Z"⟩ : MethodName)) (z := (⟨"com/example/tranchery/tranchery/journal/Schedule", "hasRule", "()Z"⟩ : MethodName)) hown (mvT hZ (own_h hw 204 rfl)) (mvT hZ (own_h hw 205 rfl)) (notFace_of_selects (args := #[]) (mvT hZ (own_h hw 207 rfl))) (mvT hZ (own_h hw 207 rfl)) (mvT hZ (own_h hw 206 rfl)) (by decide) (backOf (W := 0) (rm_hr0 l Z a0 hw [] sc x T995.heap n0 (Nat.le_trans (Nat.le_trans (Nat.le_trans (Nat.le_trans (Nat.le_trans (Nat.le_trans (Nat.le_trans (Nat.le_trans Z0 K964.1) K967.1) K971.1) K974.1) E977.1) K983.1) E986.1) K995.1) Frr995 E995 Fz995) hZ (own_h hw 208 rfl) (own_h hw 162 rfl) (by decide) (by decide)) q998a q998c (g := (mkF m 99 #[vI a, vI b, vI d, vI f, vI g, vI (Int32.ofNat yn), vI (Int32.ofNat mn), vI (Int32.ofNat dn), vI (Int32.ofNat kn), vI (Int32.ofNat y2), vR dt0, vR dt1, vR rl, vR sc, vU] [(.ref sc)])) rfl (by rw [hml]; rfl) (Steps.refl _) (argsL := []) (rest := []) (lenOf pd___Z rfl) rfl (by show 2 * 0 + _ ≤ _; exact Nat.le_of_eq rfl) (hb hby at_99) (fun _ _ => ⟨rfl, rfl, (by decide : 15 + 0 ≤ _), (by decide : 81 + 0 ≤ _)⟩))
  obtain ⟨rfl, N998q, e998⟩ := hQ998
  have N998 := Fr.app N995 N998q
  have S999 : Go p e below s₁ (eF_law m a b d f g) T998 (mkF m 102 #[vI a, vI b, vI d, vI f, vI g, vI (Int32.ofNat yn), vI (Int32.ofNat mn), vI (Int32.ofNat dn), vI (Int32.ofNat kn), vI (Int32.ofNat y2), vR dt0, vR dt1, vR rl, vR sc, vU] [(.int (0 : Int32))]) := fun t kt => S997 t (st998 t kt)
  clear S997 st998 X995
  have S1000 : Go p e below s₁ (eF_law m a b d f g) T998 (mkF m 115 #[vI a, vI b, vI d, vI f, vI g, vI (Int32.ofNat yn), vI (Int32.ofNat mn), vI (Int32.ofNat dn), vI (Int32.ofNat kn), vI (Int32.ofNat y2), vR dt0, vR dt1, vR rl, vR sc, vI (1 : Int32)] [(.int (1 : Int32)), (.int (Int32.ofNat kn))]) := fun t kt => S999 t (by
    refine XS.ifNo X998.here hx rfl (hb hby at_102) rfl ((if0 _ _).trans (teq (show (0 : Int32) = (0 : Int32) from (by decide))).2) ?_
    refine XS.iconst X998.here hx rfl (hb hby at_105) ?_
    show Sp p e below T998 (mkF m 106 #[vI a, vI b, vI d, vI f, vI g, vI (Int32.ofNat yn), vI (Int32.ofNat mn), vI (Int32.ofNat dn), vI (Int32.ofNat kn), vI (Int32.ofNat y2), vR dt0, vR dt1, vR rl, vR sc, vU] [(.int (1 : Int32))]) _
    refine XS.goto X998.here hx rfl (pc0 := 106) (pc' := 110) rfl (hb hby at_106) (by decide) (by decide) ?_
    refine XS.istore X998.here hx rfl (hb hby at_110) rfl (l' := #[vI a, vI b, vI d, vI f, vI g, vI (Int32.ofNat yn), vI (Int32.ofNat mn), vI (Int32.ofNat dn), vI (Int32.ofNat kn), vI (Int32.ofNat y2), vR dt0, vR dt1, vR rl, vR sc, vI (1 : Int32)]) rfl ?_
    show Sp p e below T998 (mkF m 112 #[vI a, vI b, vI d, vI f, vI g, vI (Int32.ofNat yn), vI (Int32.ofNat mn), vI (Int32.ofNat dn), vI (Int32.ofNat kn), vI (Int32.ofNat y2), vR dt0, vR dt1, vR rl, vR sc, vI (1 : Int32)] []) _
    refine XS.iload X998.here hx rfl (hb hby at_112) rfl ?_
    refine XS.iconst X998.here hx rfl (hb hby at_114) ?_
    show Sp p e below T998 (mkF m 115 #[vI a, vI b, vI d, vI f, vI g, vI (Int32.ofNat yn), vI (Int32.ofNat mn), vI (Int32.ofNat dn), vI (Int32.ofNat kn), vI (Int32.ofNat y2), vR dt0, vR dt1, vR rl, vR sc, vI (1 : Int32)] [(.int (1 : Int32)), (.int (Int32.ofNat kn))]) _
    exact kt)
  clear S999
  by_cases hk0 : (Int32.ofNat kn) < (1 : Int32)
  · have hk : kn = 0 := by have q := (own_lt (k := 1) 1 rfl).mp hk0; rw [own_toI (by omega)] at q; omega
    have S1001 : Go p e below s₁ (eF_law m a b d f g) T998 (mkF m 150 #[vI a, vI b, vI d, vI f, vI g, vI (Int32.ofNat yn), vI (Int32.ofNat mn), vI (Int32.ofNat dn), vI (Int32.ofNat kn), vI (Int32.ofNat y2), vR dt0, vR dt1, vR rl, vR sc, vI (1 : Int32)] [(.int (2 : Int32)), (.int (Int32.ofNat kn))]) := fun t kt => S1000 t (by
      refine XS.icmpYes X998.here hx rfl (pc0 := 115) (pc' := 147) rfl (hb hby at_115) rfl (tlt (show (Int32.ofNat kn) < (1 : Int32) from hk0)).1 (by decide) (by decide) ?_
      refine XS.iload X998.here hx rfl (hb hby at_147) rfl ?_
      show Sp p e below T998 (mkF m 149 #[vI a, vI b, vI d, vI f, vI g, vI (Int32.ofNat yn), vI (Int32.ofNat mn), vI (Int32.ofNat dn), vI (Int32.ofNat kn), vI (Int32.ofNat y2), vR dt0, vR dt1, vR rl, vR sc, vI (1 : Int32)] [(.int (Int32.ofNat kn))]) _
      refine XS.iconst X998.here hx rfl (hb hby at_149) ?_
      exact kt)
    clear S1000
    have S1002 : Go p e below s₁ (eF_law m a b d f g) T998 (mkF m 189 #[vI a, vI b, vI d, vI f, vI g, vI (Int32.ofNat yn), vI (Int32.ofNat mn), vI (Int32.ofNat dn), vI (Int32.ofNat kn), vI (Int32.ofNat y2), vR dt0, vR dt1, vR rl, vR sc, vI (1 : Int32)] [(.ref sc)]) := fun t kt => S1001 t (by
      refine XS.icmpYes X998.here hx rfl (pc0 := 150) (pc' := 182) rfl (hb hby at_150) rfl (tlt (show (Int32.ofNat kn) < (2 : Int32) from ((own_lt (k := 2) 2 rfl).mpr (by rw [own_toI (by omega)]; omega)))).1 (by decide) (by decide) ?_
      show Sp p e below T998 (mkF m 182 #[vI a, vI b, vI d, vI f, vI g, vI (Int32.ofNat yn), vI (Int32.ofNat mn), vI (Int32.ofNat dn), vI (Int32.ofNat kn), vI (Int32.ofNat y2), vR dt0, vR dt1, vR rl, vR sc, vI (1 : Int32)] []) _
      refine XS.iload X998.here hx rfl (hb hby at_182) rfl ?_
      show Sp p e below T998 (mkF m 184 #[vI a, vI b, vI d, vI f, vI g, vI (Int32.ofNat yn), vI (Int32.ofNat mn), vI (Int32.ofNat dn), vI (Int32.ofNat kn), vI (Int32.ofNat y2), vR dt0, vR dt1, vR rl, vR sc, vI (1 : Int32)] [(.int (1 : Int32))]) _
      refine XS.ifNo X998.here hx rfl (hb hby at_184) rfl ((if0 _ _).trans (feq (show ¬ ((1 : Int32) = (0 : Int32)) from (by decide))).1) ?_
      refine XS.aload X998.here hx rfl (hb hby at_187) rfl rfl ?_
      show Sp p e below T998 (mkF m 189 #[vI a, vI b, vI d, vI f, vI g, vI (Int32.ofNat yn), vI (Int32.ofNat mn), vI (Int32.ofNat dn), vI (Int32.ofNat kn), vI (Int32.ofNat y2), vR dt0, vR dt1, vR rl, vR sc, vI (1 : Int32)] [(.ref sc)]) _
      exact kt)
    clear S1001
    obtain ⟨cq1003, kq1003, q1003a, q1003b, q1003c⟩ := isOf hZ e998 Es995
    obtain ⟨v1003, T1003, L1003, X1003, hQ1003, st1003⟩ := own_outV (X998.virtualBack hx (y := (⟨"com/example/tranchery/tranchery/journal/Schedule", "hasRule", "()Z"⟩ : MethodName)) (z := (⟨"com/example/tranchery/tranchery/journal/Schedule", "hasRule", "()Z"⟩ : MethodName)) hown (mvT hZ (own_h hw 204 rfl)) (mvT hZ (own_h hw 205 rfl)) (notFace_of_selects (args := #[]) (mvT hZ (own_h hw 207 rfl))) (mvT hZ (own_h hw 207 rfl)) (mvT hZ (own_h hw 206 rfl)) (by decide) (backOf (W := 0) (rm_hr0 l Z a0 hw [] sc x T995.heap n0 (Nat.le_trans (Nat.le_trans (Nat.le_trans (Nat.le_trans (Nat.le_trans (Nat.le_trans (Nat.le_trans (Nat.le_trans Z0 K964.1) K967.1) K971.1) K974.1) E977.1) K983.1) E986.1) K995.1) Frr995 E995 Fz995) hZ (own_h hw 208 rfl) (own_h hw 162 rfl) (by decide) (by decide)) q1003a q1003c (g := (mkF m 189 #[vI a, vI b, vI d, vI f, vI g, vI (Int32.ofNat yn), vI (Int32.ofNat mn), vI (Int32.ofNat dn), vI (Int32.ofNat kn), vI (Int32.ofNat y2), vR dt0, vR dt1, vR rl, vR sc, vI (1 : Int32)] [(.ref sc)])) rfl (by rw [hml]; rfl) (Steps.refl _) (argsL := []) (rest := []) (lenOf pd___Z rfl) rfl (by show 2 * 0 + _ ≤ _; exact Nat.le_of_eq rfl) (hb hby at_189) (fun _ _ => ⟨rfl, e998, (by decide : 15 + 0 ≤ _), (by decide : 81 + 0 ≤ _)⟩))
    obtain ⟨rfl, N1003q, e1003⟩ := hQ1003
    have N1003 := Fr.app N998 N1003q
    have S1004 : Go p e below s₁ (eF_law m a b d f g) T1003 (mkF m 192 #[vI a, vI b, vI d, vI f, vI g, vI (Int32.ofNat yn), vI (Int32.ofNat mn), vI (Int32.ofNat dn), vI (Int32.ofNat kn), vI (Int32.ofNat y2), vR dt0, vR dt1, vR rl, vR sc, vI (1 : Int32)] [(.int (0 : Int32))]) := fun t kt => S1002 t (st1003 t kt)
    clear S1002 st1003 X998 e998
    have S1005 : Go p e below s₁ (eF_law m a b d f g) T1003 (mkF m 194 #[vI a, vI b, vI d, vI f, vI g, vI (Int32.ofNat yn), vI (Int32.ofNat mn), vI (Int32.ofNat dn), vI (Int32.ofNat kn), vI (Int32.ofNat y2), vR dt0, vR dt1, vR rl, vR sc, vI (1 : Int32)] [(.int (Int32.ofNat kn)), (.int (0 : Int32))]) := fun t kt => S1004 t (by
      refine XS.iload X1003.here hx rfl (hb hby at_192) rfl ?_
      exact kt)
    clear S1004
    have S1006 : Go p e below s₁ (eF_law m a b d f g) T1003 (mkF m 210 #[vI a, vI b, vI d, vI f, vI g, vI (Int32.ofNat yn), vI (Int32.ofNat mn), vI (Int32.ofNat dn), vI (Int32.ofNat kn), vI (Int32.ofNat y2), vR dt0, vR dt1, vR rl, vR sc, vI (1 : Int32)] [(.int (1 : Int32))]) := fun t kt => S1005 t (by
      refine XS.ifYes X1003.here hx rfl (pc0 := 194) (pc' := 201) rfl (hb hby at_194) rfl ((if0 _ _).trans (flt (show ¬ ((0 : Int32) < (Int32.ofNat kn)) from (fun q => absurd ((own_gt (k := 0) 0 rfl).mp q) (by rw [own_toI (by omega)]; omega)))).2.2.2) (by decide) (by decide) ?_
      show Sp p e below T1003 (mkF m 201 #[vI a, vI b, vI d, vI f, vI g, vI (Int32.ofNat yn), vI (Int32.ofNat mn), vI (Int32.ofNat dn), vI (Int32.ofNat kn), vI (Int32.ofNat y2), vR dt0, vR dt1, vR rl, vR sc, vI (1 : Int32)] [(.int (0 : Int32))]) _
      refine XS.iconst X1003.here hx rfl (hb hby at_201) ?_
      show Sp p e below T1003 (mkF m 202 #[vI a, vI b, vI d, vI f, vI g, vI (Int32.ofNat yn), vI (Int32.ofNat mn), vI (Int32.ofNat dn), vI (Int32.ofNat kn), vI (Int32.ofNat y2), vR dt0, vR dt1, vR rl, vR sc, vI (1 : Int32)] [(.int (0 : Int32)), (.int (0 : Int32))]) _
      refine XS.icmpNo X1003.here hx rfl (hb hby at_202) rfl (teq (show (0 : Int32) = (0 : Int32) from (by decide))).2 ?_
      refine XS.iconst X1003.here hx rfl (hb hby at_205) ?_
      show Sp p e below T1003 (mkF m 206 #[vI a, vI b, vI d, vI f, vI g, vI (Int32.ofNat yn), vI (Int32.ofNat mn), vI (Int32.ofNat dn), vI (Int32.ofNat kn), vI (Int32.ofNat y2), vR dt0, vR dt1, vR rl, vR sc, vI (1 : Int32)] [(.int (1 : Int32))]) _
      refine XS.goto X1003.here hx rfl (pc0 := 206) (pc' := 210) rfl (hb hby at_206) (by decide) (by decide) ?_
      exact kt)
    clear S1005
    obtain ⟨fs, hr, hrun, hended, hW, hsame⟩ := X1003.leave (v := some (.int (1 : Int32))) (fun h => by first | rfl | (rw [Bd.returns] at h; cases h))
    refine ⟨_, _, S1006 _ ?_, hrun, hended, _, _, rfl, ?_, ⟨_, rfl⟩, hW, hsame.mono (by decide) (by decide)⟩
    · exact retN X1003 hx (t := .boolean) Bd.returns (by simp) (hb hby at_210) hr
    · show Q_law Z  h0 n0 _ T1003.heap _
      rw [e1003]
      exact ⟨rfl, N1003⟩
  · have hk : 1 ≤ kn := by have q := mt (own_lt (k := 1) 1 rfl).mpr hk0; rw [own_toI (by omega)] at q; omega
    have S1007 : Go p e below s₁ (eF_law m a b d f g) T998 (mkF m 124 #[vI a, vI b, vI d, vI f, vI g, vI (Int32.ofNat yn), vI (Int32.ofNat mn), vI (Int32.ofNat dn), vI (Int32.ofNat kn), vI (Int32.ofNat y2), vR dt0, vR dt1, vR rl, vR sc, vI (1 : Int32)] [(.ref rl), (.ref dt0), (.ref sc)]) := fun t kt => S1000 t (by
      refine XS.icmpNo X998.here hx rfl (hb hby at_115) rfl (flt (show ¬ ((Int32.ofNat kn) < (1 : Int32)) from hk0)).1 ?_
      refine XS.aload X998.here hx rfl (hb hby at_118) rfl rfl ?_
      show Sp p e below T998 (mkF m 120 #[vI a, vI b, vI d, vI f, vI g, vI (Int32.ofNat yn), vI (Int32.ofNat mn), vI (Int32.ofNat dn), vI (Int32.ofNat kn), vI (Int32.ofNat y2), vR dt0, vR dt1, vR rl, vR sc, vI (1 : Int32)] [(.ref sc)]) _
      refine XS.aload X998.here hx rfl (hb hby at_120) rfl rfl ?_
      refine XS.aload X998.here hx rfl (hb hby at_122) rfl rfl ?_
      show Sp p e below T998 (mkF m 124 #[vI a, vI b, vI d, vI f, vI g, vI (Int32.ofNat yn), vI (Int32.ofNat mn), vI (Int32.ofNat dn), vI (Int32.ofNat kn), vI (Int32.ofNat y2), vR dt0, vR dt1, vR rl, vR sc, vI (1 : Int32)] [(.ref rl), (.ref dt0), (.ref sc)]) _
      exact kt)
    clear S1000
    have f1008 := (f994.keep K995 (allS g_sc all0))
    have f1009 := ((f987.ext E986).keep K995)
    have f1010 := ((((((Fy967.keep K971 nin0).keep K974 nin0).ext E977).keep K983 (ninS ne979 nin0)).ext E986).keep K995 (ninS ne988 nin0))
    have f1011 := ((((((Fm967.keep K971 nin0).keep K974 nin0).ext E977).keep K983 (ninS ne979 nin0)).ext E986).keep K995 (ninS ne988 nin0))
    have f1012 := ((((((Fd967.keep K971 nin0).keep K974 nin0).ext E977).keep K983 (ninS ne979 nin0)).ext E986).keep K995 (ninS ne988 nin0))
    have f1013 := ((E983.ext E986).keep K995)
    have ne1014 : dt0 ≠ da := Nat.ne_of_lt (Nat.lt_of_lt_of_le ((f987.ext E986).lt) szda995)
    have ne1015 : dt0 ≠ fa := Nat.ne_of_lt (Nat.lt_of_lt_of_le ((f987.ext E986).lt) szfa995)
    have ne1016 : dt0 ≠ va := Nat.ne_of_lt (Nat.lt_of_lt_of_le ((f987.ext E986).lt) szva995)
    have ne1017 : dt0 ≠ x := Nat.ne_of_lt (Nat.lt_of_lt_of_le ((f987.ext E986).lt) szx995)
    have ne1018 : rl ≠ da := Nat.ne_of_lt (Nat.lt_of_lt_of_le ((E983.ext E986).lt) szda995)
    have ne1019 : rl ≠ fa := Nat.ne_of_lt (Nat.lt_of_lt_of_le ((E983.ext E986).lt) szfa995)
    have ne1020 : rl ≠ va := Nat.ne_of_lt (Nat.lt_of_lt_of_le ((E983.ext E986).lt) szva995)
    have ne1021 : rl ≠ x := Nat.ne_of_lt (Nat.lt_of_lt_of_le ((E983.ext E986).lt) szx995)
    have ne1022 : sc ≠ x := Nat.ne_of_lt (Nat.lt_of_lt_of_le (A986.lt) szx995)
    have ne1023 : sc ≠ da := Nat.ne_of_lt (Nat.lt_of_lt_of_le (A986.lt) szda995)
    have ne1024 : sc ≠ fa := Nat.ne_of_lt (Nat.lt_of_lt_of_le (A986.lt) szfa995)
    have ne1025 : sc ≠ va := Nat.ne_of_lt (Nat.lt_of_lt_of_le (A986.lt) szva995)
    obtain ⟨cq1026, kq1026, q1026a, q1026b, q1026c⟩ := isOf hZ e998 Es995
    obtain ⟨v1026, T1026, L1026, X1026, hQ1026, st1026⟩ := own_outV (X998.virtualBack hx (y := (⟨"com/example/tranchery/tranchery/journal/Schedule", "setRule", "(Ljava/time/LocalDate;Lcom/example/tranchery/tranchery/journal/BusinessDays;)V"⟩ : MethodName)) (z := (⟨"com/example/tranchery/tranchery/journal/Schedule", "setRule", "(Ljava/time/LocalDate;Lcom/example/tranchery/tranchery/journal/BusinessDays;)V"⟩ : MethodName)) hown (mvT hZ (own_h hw 216 rfl)) (mvT hZ (own_h hw 217 rfl)) (notFace_of_selects (args := #[]) (mvT hZ (own_h hw 219 rfl))) (mvT hZ (own_h hw 219 rfl)) (mvT hZ (own_h hw 218 rfl)) (by decide) (backOf (W := 0) (rm_sr0 l Z a0 hw [] sc iq x dt0 rl da fa va kd kf kv yn mn dn T995.heap n0 (Nat.le_trans (Nat.le_trans (Nat.le_trans (Nat.le_trans (Nat.le_trans (Nat.le_trans (Nat.le_trans (Nat.le_trans Z0 K964.1) K967.1) K971.1) K974.1) E977.1) K983.1) E986.1) K995.1) SS f1008 E995 Fd995 Ff995 Fv995 Fz995 Vd995 Vf995 Vv995 Of995 Ov995 f1009 f1010 f1011 f1012 f1013 nxda995 nxfa995 nxva995 ndafa995 ndava995 nfava995 ne1014 ne1015 ne1016 ne1017 ne1018 ne1019 ne1020 ne1021 g_x g_da g_fa g_va hy hm hm2 hd hd2 Es995 Fw995 Frr995 Fmt995 Eq995 Fq995 ne1022 ne1023 ne1024 ne1025 niqx995 niqda995 niqfa995 niqva995) hZ (own_h hw 220 rfl) (own_h hw 162 rfl) (by decide) (by decide)) q1026a q1026c (g := (mkF m 124 #[vI a, vI b, vI d, vI f, vI g, vI (Int32.ofNat yn), vI (Int32.ofNat mn), vI (Int32.ofNat dn), vI (Int32.ofNat kn), vI (Int32.ofNat y2), vR dt0, vR dt1, vR rl, vR sc, vI (1 : Int32)] [(.ref rl), (.ref dt0), (.ref sc)])) rfl (by rw [hml]; rfl) (Steps.refl _) (argsL := [(.ref dt0), (.ref rl)]) (rest := []) (lenOf pd__Ljava_time_LocalDate_Lcom_example_tranchery_tranchery_journal_BusinessDays__V rfl) rfl (by show 2 * 0 + _ ≤ _; exact Nat.le_of_eq rfl) (hb hby at_124) (fun _ _ => ⟨rfl, e998, (by decide : 15 + 1 ≤ _), (by decide : 81 + 4 ≤ _)⟩))
    obtain ⟨rfl, N1026q, K1026, Es1026, Fw1026, Frr1026, Fmt1026, Eq1026, Fq1026, E1026, Fd1026, Ff1026, Fv1026, Fz1026, Vd1026, Vf1026, Vv1026, Of1026, Ov1026⟩ := hQ1026
    have N1026 := Fr.app N998 N1026q
    have S1027 : Go p e below s₁ (eF_law m a b d f g) T1026 (mkF m 127 #[vI a, vI b, vI d, vI f, vI g, vI (Int32.ofNat yn), vI (Int32.ofNat mn), vI (Int32.ofNat dn), vI (Int32.ofNat kn), vI (Int32.ofNat y2), vR dt0, vR dt1, vR rl, vR sc, vI (1 : Int32)] []) := fun t kt => S1007 t (st1026 t kt)
    clear S1007 st1026 X998 e998
    have S1028 : Go p e below s₁ (eF_law m a b d f g) T1026 (mkF m 134 #[vI a, vI b, vI d, vI f, vI g, vI (Int32.ofNat yn), vI (Int32.ofNat mn), vI (Int32.ofNat dn), vI (Int32.ofNat kn), vI (Int32.ofNat y2), vR dt0, vR dt1, vR rl, vR sc, vI (1 : Int32)] [(.ref sc)]) := fun t kt => S1027 t (by
      refine XS.iload X1026.here hx rfl (hb hby at_127) rfl ?_
      refine XS.ifNo X1026.here hx rfl (hb hby at_129) rfl ((if0 _ _).trans (feq (show ¬ ((1 : Int32) = (0 : Int32)) from (by decide))).1) ?_
      show Sp p e below T1026 (mkF m 132 #[vI a, vI b, vI d, vI f, vI g, vI (Int32.ofNat yn), vI (Int32.ofNat mn), vI (Int32.ofNat dn), vI (Int32.ofNat kn), vI (Int32.ofNat y2), vR dt0, vR dt1, vR rl, vR sc, vI (1 : Int32)] []) _
      refine XS.aload X1026.here hx rfl (hb hby at_132) rfl rfl ?_
      exact kt)
    clear S1027
    obtain ⟨cq1029, kq1029, q1029a, q1029b, q1029c⟩ := isOf hZ rfl Es1026
    obtain ⟨v1029, T1029, L1029, X1029, hQ1029, st1029⟩ := own_outV (X1026.virtualBack hx (y := (⟨"com/example/tranchery/tranchery/journal/Schedule", "hasRule", "()Z"⟩ : MethodName)) (z := (⟨"com/example/tranchery/tranchery/journal/Schedule", "hasRule", "()Z"⟩ : MethodName)) hown (mvT hZ (own_h hw 204 rfl)) (mvT hZ (own_h hw 205 rfl)) (notFace_of_selects (args := #[]) (mvT hZ (own_h hw 207 rfl))) (mvT hZ (own_h hw 207 rfl)) (mvT hZ (own_h hw 206 rfl)) (by decide) (backOf (W := 0) (rm_hr1 l Z a0 hw [] sc x T1026.heap n0 (Nat.le_trans (Nat.le_trans (Nat.le_trans (Nat.le_trans (Nat.le_trans (Nat.le_trans (Nat.le_trans (Nat.le_trans (Nat.le_trans Z0 K964.1) K967.1) K971.1) K974.1) E977.1) K983.1) E986.1) K995.1) K1026.1) Frr1026 E1026 Fz1026) hZ (own_h hw 208 rfl) (own_h hw 162 rfl) (by decide) (by decide)) q1029a q1029c (g := (mkF m 134 #[vI a, vI b, vI d, vI f, vI g, vI (Int32.ofNat yn), vI (Int32.ofNat mn), vI (Int32.ofNat dn), vI (Int32.ofNat kn), vI (Int32.ofNat y2), vR dt0, vR dt1, vR rl, vR sc, vI (1 : Int32)] [(.ref sc)])) rfl (by rw [hml]; rfl) (Steps.refl _) (argsL := []) (rest := []) (lenOf pd___Z rfl) rfl (by show 2 * 0 + _ ≤ _; exact Nat.le_of_eq rfl) (hb hby at_134) (fun _ _ => ⟨rfl, rfl, (by decide : 16 + 0 ≤ _), (by decide : 85 + 0 ≤ _)⟩))
    obtain ⟨rfl, N1029q, e1029⟩ := hQ1029
    have N1029 := Fr.app N1026 N1029q
    have S1030 : Go p e below s₁ (eF_law m a b d f g) T1029 (mkF m 137 #[vI a, vI b, vI d, vI f, vI g, vI (Int32.ofNat yn), vI (Int32.ofNat mn), vI (Int32.ofNat dn), vI (Int32.ofNat kn), vI (Int32.ofNat y2), vR dt0, vR dt1, vR rl, vR sc, vI (1 : Int32)] [(.int (1 : Int32))]) := fun t kt => S1028 t (st1029 t kt)
    clear S1028 st1029 X1026
    have S1031 : Go p e below s₁ (eF_law m a b d f g) T1029 (mkF m 150 #[vI a, vI b, vI d, vI f, vI g, vI (Int32.ofNat yn), vI (Int32.ofNat mn), vI (Int32.ofNat dn), vI (Int32.ofNat kn), vI (Int32.ofNat y2), vR dt0, vR dt1, vR rl, vR sc, vI (1 : Int32)] [(.int (2 : Int32)), (.int (Int32.ofNat kn))]) := fun t kt => S1030 t (by
      refine XS.ifNo X1029.here hx rfl (hb hby at_137) rfl ((if0 _ _).trans (feq (show ¬ ((1 : Int32) = (0 : Int32)) from (by decide))).1) ?_
      refine XS.iconst X1029.here hx rfl (hb hby at_140) ?_
      show Sp p e below T1029 (mkF m 141 #[vI a, vI b, vI d, vI f, vI g, vI (Int32.ofNat yn), vI (Int32.ofNat mn), vI (Int32.ofNat dn), vI (Int32.ofNat kn), vI (Int32.ofNat y2), vR dt0, vR dt1, vR rl, vR sc, vI (1 : Int32)] [(.int (1 : Int32))]) _
      refine XS.goto X1029.here hx rfl (pc0 := 141) (pc' := 145) rfl (hb hby at_141) (by decide) (by decide) ?_
      refine XS.istore X1029.here hx rfl (hb hby at_145) rfl (l' := #[vI a, vI b, vI d, vI f, vI g, vI (Int32.ofNat yn), vI (Int32.ofNat mn), vI (Int32.ofNat dn), vI (Int32.ofNat kn), vI (Int32.ofNat y2), vR dt0, vR dt1, vR rl, vR sc, vI (1 : Int32)]) rfl ?_
      show Sp p e below T1029 (mkF m 147 #[vI a, vI b, vI d, vI f, vI g, vI (Int32.ofNat yn), vI (Int32.ofNat mn), vI (Int32.ofNat dn), vI (Int32.ofNat kn), vI (Int32.ofNat y2), vR dt0, vR dt1, vR rl, vR sc, vI (1 : Int32)] []) _
      refine XS.iload X1029.here hx rfl (hb hby at_147) rfl ?_
      refine XS.iconst X1029.here hx rfl (hb hby at_149) ?_
      show Sp p e below T1029 (mkF m 150 #[vI a, vI b, vI d, vI f, vI g, vI (Int32.ofNat yn), vI (Int32.ofNat mn), vI (Int32.ofNat dn), vI (Int32.ofNat kn), vI (Int32.ofNat y2), vR dt0, vR dt1, vR rl, vR sc, vI (1 : Int32)] [(.int (2 : Int32)), (.int (Int32.ofNat kn))]) _
      exact kt)
    clear S1030
    by_cases hk1 : (Int32.ofNat kn) < (2 : Int32)
    · have hk2 : kn = 1 := by have q := (own_lt (k := 2) 2 rfl).mp hk1; rw [own_toI (by omega)] at q; omega
      have S1032 : Go p e below s₁ (eF_law m a b d f g) T1029 (mkF m 189 #[vI a, vI b, vI d, vI f, vI g, vI (Int32.ofNat yn), vI (Int32.ofNat mn), vI (Int32.ofNat dn), vI (Int32.ofNat kn), vI (Int32.ofNat y2), vR dt0, vR dt1, vR rl, vR sc, vI (1 : Int32)] [(.ref sc)]) := fun t kt => S1031 t (by
        refine XS.icmpYes X1029.here hx rfl (pc0 := 150) (pc' := 182) rfl (hb hby at_150) rfl (tlt (show (Int32.ofNat kn) < (2 : Int32) from hk1)).1 (by decide) (by decide) ?_
        refine XS.iload X1029.here hx rfl (hb hby at_182) rfl ?_
        show Sp p e below T1029 (mkF m 184 #[vI a, vI b, vI d, vI f, vI g, vI (Int32.ofNat yn), vI (Int32.ofNat mn), vI (Int32.ofNat dn), vI (Int32.ofNat kn), vI (Int32.ofNat y2), vR dt0, vR dt1, vR rl, vR sc, vI (1 : Int32)] [(.int (1 : Int32))]) _
        refine XS.ifNo X1029.here hx rfl (hb hby at_184) rfl ((if0 _ _).trans (feq (show ¬ ((1 : Int32) = (0 : Int32)) from (by decide))).1) ?_
        refine XS.aload X1029.here hx rfl (hb hby at_187) rfl rfl ?_
        show Sp p e below T1029 (mkF m 189 #[vI a, vI b, vI d, vI f, vI g, vI (Int32.ofNat yn), vI (Int32.ofNat mn), vI (Int32.ofNat dn), vI (Int32.ofNat kn), vI (Int32.ofNat y2), vR dt0, vR dt1, vR rl, vR sc, vI (1 : Int32)] [(.ref sc)]) _
        exact kt)
      clear S1031
      obtain ⟨cq1033, kq1033, q1033a, q1033b, q1033c⟩ := isOf hZ e1029 Es1026
      obtain ⟨v1033, T1033, L1033, X1033, hQ1033, st1033⟩ := own_outV (X1029.virtualBack hx (y := (⟨"com/example/tranchery/tranchery/journal/Schedule", "hasRule", "()Z"⟩ : MethodName)) (z := (⟨"com/example/tranchery/tranchery/journal/Schedule", "hasRule", "()Z"⟩ : MethodName)) hown (mvT hZ (own_h hw 204 rfl)) (mvT hZ (own_h hw 205 rfl)) (notFace_of_selects (args := #[]) (mvT hZ (own_h hw 207 rfl))) (mvT hZ (own_h hw 207 rfl)) (mvT hZ (own_h hw 206 rfl)) (by decide) (backOf (W := 0) (rm_hr1 l Z a0 hw [] sc x T1026.heap n0 (Nat.le_trans (Nat.le_trans (Nat.le_trans (Nat.le_trans (Nat.le_trans (Nat.le_trans (Nat.le_trans (Nat.le_trans (Nat.le_trans Z0 K964.1) K967.1) K971.1) K974.1) E977.1) K983.1) E986.1) K995.1) K1026.1) Frr1026 E1026 Fz1026) hZ (own_h hw 208 rfl) (own_h hw 162 rfl) (by decide) (by decide)) q1033a q1033c (g := (mkF m 189 #[vI a, vI b, vI d, vI f, vI g, vI (Int32.ofNat yn), vI (Int32.ofNat mn), vI (Int32.ofNat dn), vI (Int32.ofNat kn), vI (Int32.ofNat y2), vR dt0, vR dt1, vR rl, vR sc, vI (1 : Int32)] [(.ref sc)])) rfl (by rw [hml]; rfl) (Steps.refl _) (argsL := []) (rest := []) (lenOf pd___Z rfl) rfl (by show 2 * 0 + _ ≤ _; exact Nat.le_of_eq rfl) (hb hby at_189) (fun _ _ => ⟨rfl, e1029, (by decide : 16 + 0 ≤ _), (by decide : 85 + 0 ≤ _)⟩))
      obtain ⟨rfl, N1033q, e1033⟩ := hQ1033
      have N1033 := Fr.app N1029 N1033q
      have S1034 : Go p e below s₁ (eF_law m a b d f g) T1033 (mkF m 192 #[vI a, vI b, vI d, vI f, vI g, vI (Int32.ofNat yn), vI (Int32.ofNat mn), vI (Int32.ofNat dn), vI (Int32.ofNat kn), vI (Int32.ofNat y2), vR dt0, vR dt1, vR rl, vR sc, vI (1 : Int32)] [(.int (1 : Int32))]) := fun t kt => S1032 t (st1033 t kt)
      clear S1032 st1033 X1029 e1029
      have S1035 : Go p e below s₁ (eF_law m a b d f g) T1033 (mkF m 194 #[vI a, vI b, vI d, vI f, vI g, vI (Int32.ofNat yn), vI (Int32.ofNat mn), vI (Int32.ofNat dn), vI (Int32.ofNat kn), vI (Int32.ofNat y2), vR dt0, vR dt1, vR rl, vR sc, vI (1 : Int32)] [(.int (Int32.ofNat kn)), (.int (1 : Int32))]) := fun t kt => S1034 t (by
        refine XS.iload X1033.here hx rfl (hb hby at_192) rfl ?_
        exact kt)
      clear S1034
      have S1036 : Go p e below s₁ (eF_law m a b d f g) T1033 (mkF m 210 #[vI a, vI b, vI d, vI f, vI g, vI (Int32.ofNat yn), vI (Int32.ofNat mn), vI (Int32.ofNat dn), vI (Int32.ofNat kn), vI (Int32.ofNat y2), vR dt0, vR dt1, vR rl, vR sc, vI (1 : Int32)] [(.int (1 : Int32))]) := fun t kt => S1035 t (by
        refine XS.ifNo X1033.here hx rfl (hb hby at_194) rfl ((if0 _ _).trans (tlt (show (0 : Int32) < (Int32.ofNat kn) from ((own_gt (k := 0) 0 rfl).mpr (by rw [own_toI (by omega)]; omega)))).2.2.2) ?_
        show Sp p e below T1033 (mkF m 197 #[vI a, vI b, vI d, vI f, vI g, vI (Int32.ofNat yn), vI (Int32.ofNat mn), vI (Int32.ofNat dn), vI (Int32.ofNat kn), vI (Int32.ofNat y2), vR dt0, vR dt1, vR rl, vR sc, vI (1 : Int32)] [(.int (1 : Int32))]) _
        refine XS.iconst X1033.here hx rfl (hb hby at_197) ?_
        show Sp p e below T1033 (mkF m 198 #[vI a, vI b, vI d, vI f, vI g, vI (Int32.ofNat yn), vI (Int32.ofNat mn), vI (Int32.ofNat dn), vI (Int32.ofNat kn), vI (Int32.ofNat y2), vR dt0, vR dt1, vR rl, vR sc, vI (1 : Int32)] [(.int (1 : Int32)), (.int (1 : Int32))]) _
        refine XS.goto X1033.here hx rfl (pc0 := 198) (pc' := 202) rfl (hb hby at_198) (by decide) (by decide) ?_
        refine XS.icmpNo X1033.here hx rfl (hb hby at_202) rfl (teq (show (1 : Int32) = (1 : Int32) from (by decide))).2 ?_
        show Sp p e below T1033 (mkF m 205 #[vI a, vI b, vI d, vI f, vI g, vI (Int32.ofNat yn), vI (Int32.ofNat mn), vI (Int32.ofNat dn), vI (Int32.ofNat kn), vI (Int32.ofNat y2), vR dt0, vR dt1, vR rl, vR sc, vI (1 : Int32)] []) _
        refine XS.iconst X1033.here hx rfl (hb hby at_205) ?_
        refine XS.goto X1033.here hx rfl (pc0 := 206) (pc' := 210) rfl (hb hby at_206) (by decide) (by decide) ?_
        show Sp p e below T1033 (mkF m 210 #[vI a, vI b, vI d, vI f, vI g, vI (Int32.ofNat yn), vI (Int32.ofNat mn), vI (Int32.ofNat dn), vI (Int32.ofNat kn), vI (Int32.ofNat y2), vR dt0, vR dt1, vR rl, vR sc, vI (1 : Int32)] [(.int (1 : Int32))]) _
        exact kt)
      clear S1035
      obtain ⟨fs, hr, hrun, hended, hW, hsame⟩ := X1033.leave (v := some (.int (1 : Int32))) (fun h => by first | rfl | (rw [Bd.returns] at h; cases h))
      refine ⟨_, _, S1036 _ ?_, hrun, hended, _, _, rfl, ?_, ⟨_, rfl⟩, hW, hsame.mono (by decide) (by decide)⟩
      · exact retN X1033 hx (t := .boolean) Bd.returns (by simp) (hb hby at_210) hr
      · show Q_law Z  h0 n0 _ T1033.heap _
        rw [e1033]
        exact ⟨rfl, N1033⟩
    · have S1037 : Go p e below s₁ (eF_law m a b d f g) T1029 (mkF m 159 #[vI a, vI b, vI d, vI f, vI g, vI (Int32.ofNat yn), vI (Int32.ofNat mn), vI (Int32.ofNat dn), vI (Int32.ofNat kn), vI (Int32.ofNat y2), vR dt0, vR dt1, vR rl, vR sc, vI (1 : Int32)] [(.ref rl), (.ref dt1), (.ref sc)]) := fun t kt => S1031 t (by
        refine XS.icmpNo X1029.here hx rfl (hb hby at_150) rfl (flt (show ¬ ((Int32.ofNat kn) < (2 : Int32)) from hk1)).1 ?_
        refine XS.aload X1029.here hx rfl (hb hby at_153) rfl rfl ?_
        show Sp p e below T1029 (mkF m 155 #[vI a, vI b, vI d, vI f, vI g, vI (Int32.ofNat yn), vI (Int32.ofNat mn), vI (Int32.ofNat dn), vI (Int32.ofNat kn), vI (Int32.ofNat y2), vR dt0, vR dt1, vR rl, vR sc, vI (1 : Int32)] [(.ref sc)]) _
        refine XS.aload X1029.here hx rfl (hb hby at_155) rfl rfl ?_
        refine XS.aload X1029.here hx rfl (hb hby at_157) rfl rfl ?_
        show Sp p e below T1029 (mkF m 159 #[vI a, vI b, vI d, vI f, vI g, vI (Int32.ofNat yn), vI (Int32.ofNat mn), vI (Int32.ofNat dn), vI (Int32.ofNat kn), vI (Int32.ofNat y2), vR dt0, vR dt1, vR rl, vR sc, vI (1 : Int32)] [(.ref rl), (.ref dt1), (.ref sc)]) _
        exact kt)
      clear S1031
      have hge : ¬ lcmpW (Int64.ofNat (own_t y2 mn dn) - (719528 : Int64)) (Int64.ofNat (own_t yn mn dn) - (719528 : Int64)) < (0 : Int32) := own_cmp hyy hy hy2 hm hm2 hd2
      have f1038 := (f1008.keep K1026 (allS g_x (allS g_da (allS g_fa (allS g_va all0)))))
      have f1039 := (((f989.ext E986).keep K995).keep K1026)
      have ne1040 : dt1 ≠ va := Nat.ne_of_lt (Nat.lt_of_lt_of_le ((f989.ext E986).lt) szva995)
      have ne1041 : dt1 ≠ fa := Nat.ne_of_lt (Nat.lt_of_lt_of_le ((f989.ext E986).lt) szfa995)
      have ne1042 : dt1 ≠ da := Nat.ne_of_lt (Nat.lt_of_lt_of_le ((f989.ext E986).lt) szda995)
      have ne1043 : dt1 ≠ x := Nat.ne_of_lt (Nat.lt_of_lt_of_le ((f989.ext E986).lt) szx995)
      have f1044 := (((((Fy974.ext E977).keep K983 (ninS ne980 nin0)).ext E986).keep K995 (ninS ne990 nin0)).keep K1026 (ninS ne1043 (ninS ne1042 (ninS ne1041 (ninS ne1040 nin0)))))
      have f1045 := (((((Fm974.ext E977).keep K983 (ninS ne980 nin0)).ext E986).keep K995 (ninS ne990 nin0)).keep K1026 (ninS ne1043 (ninS ne1042 (ninS ne1041 (ninS ne1040 nin0)))))
      have f1046 := (((((Fd974.ext E977).keep K983 (ninS ne980 nin0)).ext E986).keep K995 (ninS ne990 nin0)).keep K1026 (ninS ne1043 (ninS ne1042 (ninS ne1041 (ninS ne1040 nin0)))))
      have f1047 := (f1013.keep K1026)
      obtain ⟨cq1048, kq1048, q1048a, q1048b, q1048c⟩ := isOf hZ e1029 Es1026
      obtain ⟨v1048, T1048, L1048, X1048, hQ1048, st1048⟩ := own_outV (X1029.virtualBack hx (y := (⟨"com/example/tranchery/tranchery/journal/Schedule", "setRule", "(Ljava/time/LocalDate;Lcom/example/tranchery/tranchery/journal/BusinessDays;)V"⟩ : MethodName)) (z := (⟨"com/example/tranchery/tranchery/journal/Schedule", "setRule", "(Ljava/time/LocalDate;Lcom/example/tranchery/tranchery/journal/BusinessDays;)V"⟩ : MethodName)) hown (mvT hZ (own_h hw 216 rfl)) (mvT hZ (own_h hw 217 rfl)) (notFace_of_selects (args := #[]) (mvT hZ (own_h hw 219 rfl))) (mvT hZ (own_h hw 219 rfl)) (mvT hZ (own_h hw 218 rfl)) (by decide) (backOf (W := 0) (rm_sr1 l Z a0 hw [] sc iq x dt1 rl da fa va kd kf kv y2 mn dn (Int64.ofNat (own_t yn mn dn) - (719528 : Int64)) dt0 rl T1026.heap n0 (Nat.le_trans (Nat.le_trans (Nat.le_trans (Nat.le_trans (Nat.le_trans (Nat.le_trans (Nat.le_trans (Nat.le_trans (Nat.le_trans Z0 K964.1) K967.1) K971.1) K974.1) E977.1) K983.1) E986.1) K995.1) K1026.1) SS f1038 E1026 Fd1026 Ff1026 Fv1026 Fz1026 Vd1026 Vf1026 Vv1026 Of1026 Ov1026 f1039 f1044 f1045 f1046 f1047 nxda995 nxfa995 nxva995 ndafa995 ndava995 nfava995 ne1042 ne1041 ne1040 ne1043 ne1018 ne1019 ne1020 ne1021 g_x g_da g_fa g_va hy2 hm hm2 hd hd2 Es1026 Fw1026 Frr1026 Fmt1026 Eq1026 Fq1026 ne1022 ne1023 ne1024 ne1025 niqx995 niqda995 niqfa995 niqva995 hge) hZ (own_h hw 220 rfl) (own_h hw 162 rfl) (by decide) (by decide)) q1048a q1048c (g := (mkF m 159 #[vI a, vI b, vI d, vI f, vI g, vI (Int32.ofNat yn), vI (Int32.ofNat mn), vI (Int32.ofNat dn), vI (Int32.ofNat kn), vI (Int32.ofNat y2), vR dt0, vR dt1, vR rl, vR sc, vI (1 : Int32)] [(.ref rl), (.ref dt1), (.ref sc)])) rfl (by rw [hml]; rfl) (Steps.refl _) (argsL := [(.ref dt1), (.ref rl)]) (rest := []) (lenOf pd__Ljava_time_LocalDate_Lcom_example_tranchery_tranchery_journal_BusinessDays__V rfl) rfl (by show 2 * 0 + _ ≤ _; exact Nat.le_of_eq rfl) (hb hby at_159) (fun _ _ => ⟨rfl, e1029, (by decide : 16 + 1 ≤ _), (by decide : 85 + 4 ≤ _)⟩))
      obtain ⟨rfl, N1048q, K1048, Es1048, Fw1048, Frr1048, Fmt1048, Eq1048, Fq1048, Ex1, hsz⟩ := hQ1048
      have N1048 := Fr.app N1029 N1048q
      have S1049 : Go p e below s₁ (eF_law m a b d f g) T1048 (mkF m 162 #[vI a, vI b, vI d, vI f, vI g, vI (Int32.ofNat yn), vI (Int32.ofNat mn), vI (Int32.ofNat dn), vI (Int32.ofNat kn), vI (Int32.ofNat y2), vR dt0, vR dt1, vR rl, vR sc, vI (1 : Int32)] []) := fun t kt => S1037 t (st1048 t kt)
      clear S1037 st1048 X1029 e1029
      rcases hsz with hsz | hsz
      · have S1050 : Go p e below s₁ (eF_law m a b d f g) T1048 (mkF m 169 #[vI a, vI b, vI d, vI f, vI g, vI (Int32.ofNat yn), vI (Int32.ofNat mn), vI (Int32.ofNat dn), vI (Int32.ofNat kn), vI (Int32.ofNat y2), vR dt0, vR dt1, vR rl, vR sc, vI (1 : Int32)] [(.ref sc)]) := fun t kt => S1049 t (by
          refine XS.iload X1048.here hx rfl (hb hby at_162) rfl ?_
          refine XS.ifNo X1048.here hx rfl (hb hby at_164) rfl ((if0 _ _).trans (feq (show ¬ ((1 : Int32) = (0 : Int32)) from (by decide))).1) ?_
          show Sp p e below T1048 (mkF m 167 #[vI a, vI b, vI d, vI f, vI g, vI (Int32.ofNat yn), vI (Int32.ofNat mn), vI (Int32.ofNat dn), vI (Int32.ofNat kn), vI (Int32.ofNat y2), vR dt0, vR dt1, vR rl, vR sc, vI (1 : Int32)] []) _
          refine XS.aload X1048.here hx rfl (hb hby at_167) rfl rfl ?_
          exact kt)
        clear S1049
        obtain ⟨cq1051, kq1051, q1051a, q1051b, q1051c⟩ := isOf hZ rfl Es1048
        obtain ⟨v1051, T1051, L1051, X1051, hQ1051, st1051⟩ := own_outV (X1048.virtualBack hx (y := (⟨"com/example/tranchery/tranchery/journal/Schedule", "hasRule", "()Z"⟩ : MethodName)) (z := (⟨"com/example/tranchery/tranchery/journal/Schedule", "hasRule", "()Z"⟩ : MethodName)) hown (mvT hZ (own_h hw 204 rfl)) (mvT hZ (own_h hw 205 rfl)) (notFace_of_selects (args := #[]) (mvT hZ (own_h hw 207 rfl))) (mvT hZ (own_h hw 207 rfl)) (mvT hZ (own_h hw 206 rfl)) (by decide) (backOf (W := 0) (rm_hr1 l Z a0 hw [] sc x T1048.heap n0 (Nat.le_trans (Nat.le_trans (Nat.le_trans (Nat.le_trans (Nat.le_trans (Nat.le_trans (Nat.le_trans (Nat.le_trans (Nat.le_trans (Nat.le_trans Z0 K964.1) K967.1) K971.1) K974.1) E977.1) K983.1) E986.1) K995.1) K1026.1) K1048.1) Frr1048 Ex1 hsz) hZ (own_h hw 208 rfl) (own_h hw 162 rfl) (by decide) (by decide)) q1051a q1051c (g := (mkF m 169 #[vI a, vI b, vI d, vI f, vI g, vI (Int32.ofNat yn), vI (Int32.ofNat mn), vI (Int32.ofNat dn), vI (Int32.ofNat kn), vI (Int32.ofNat y2), vR dt0, vR dt1, vR rl, vR sc, vI (1 : Int32)] [(.ref sc)])) rfl (by rw [hml]; rfl) (Steps.refl _) (argsL := []) (rest := []) (lenOf pd___Z rfl) rfl (by show 2 * 0 + _ ≤ _; exact Nat.le_of_eq rfl) (hb hby at_169) (fun _ _ => ⟨rfl, rfl, (by decide : 17 + 0 ≤ _), (by decide : 89 + 0 ≤ _)⟩))
        obtain ⟨rfl, N1051q, e1051⟩ := hQ1051
        have N1051 := Fr.app N1048 N1051q
        have S1052 : Go p e below s₁ (eF_law m a b d f g) T1051 (mkF m 172 #[vI a, vI b, vI d, vI f, vI g, vI (Int32.ofNat yn), vI (Int32.ofNat mn), vI (Int32.ofNat dn), vI (Int32.ofNat kn), vI (Int32.ofNat y2), vR dt0, vR dt1, vR rl, vR sc, vI (1 : Int32)] [(.int (1 : Int32))]) := fun t kt => S1050 t (st1051 t kt)
        clear S1050 st1051 X1048
        have S1053 : Go p e below s₁ (eF_law m a b d f g) T1051 (mkF m 189 #[vI a, vI b, vI d, vI f, vI g, vI (Int32.ofNat yn), vI (Int32.ofNat mn), vI (Int32.ofNat dn), vI (Int32.ofNat kn), vI (Int32.ofNat y2), vR dt0, vR dt1, vR rl, vR sc, vI (1 : Int32)] [(.ref sc)]) := fun t kt => S1052 t (by
          refine XS.ifNo X1051.here hx rfl (hb hby at_172) rfl ((if0 _ _).trans (feq (show ¬ ((1 : Int32) = (0 : Int32)) from (by decide))).1) ?_
          refine XS.iconst X1051.here hx rfl (hb hby at_175) ?_
          show Sp p e below T1051 (mkF m 176 #[vI a, vI b, vI d, vI f, vI g, vI (Int32.ofNat yn), vI (Int32.ofNat mn), vI (Int32.ofNat dn), vI (Int32.ofNat kn), vI (Int32.ofNat y2), vR dt0, vR dt1, vR rl, vR sc, vI (1 : Int32)] [(.int (1 : Int32))]) _
          refine XS.goto X1051.here hx rfl (pc0 := 176) (pc' := 180) rfl (hb hby at_176) (by decide) (by decide) ?_
          refine XS.istore X1051.here hx rfl (hb hby at_180) rfl (l' := #[vI a, vI b, vI d, vI f, vI g, vI (Int32.ofNat yn), vI (Int32.ofNat mn), vI (Int32.ofNat dn), vI (Int32.ofNat kn), vI (Int32.ofNat y2), vR dt0, vR dt1, vR rl, vR sc, vI (1 : Int32)]) rfl ?_
          show Sp p e below T1051 (mkF m 182 #[vI a, vI b, vI d, vI f, vI g, vI (Int32.ofNat yn), vI (Int32.ofNat mn), vI (Int32.ofNat dn), vI (Int32.ofNat kn), vI (Int32.ofNat y2), vR dt0, vR dt1, vR rl, vR sc, vI (1 : Int32)] []) _
          refine XS.iload X1051.here hx rfl (hb hby at_182) rfl ?_
          refine XS.ifNo X1051.here hx rfl (hb hby at_184) rfl ((if0 _ _).trans (feq (show ¬ ((1 : Int32) = (0 : Int32)) from (by decide))).1) ?_
          show Sp p e below T1051 (mkF m 187 #[vI a, vI b, vI d, vI f, vI g, vI (Int32.ofNat yn), vI (Int32.ofNat mn), vI (Int32.ofNat dn), vI (Int32.ofNat kn), vI (Int32.ofNat y2), vR dt0, vR dt1, vR rl, vR sc, vI (1 : Int32)] []) _
          refine XS.aload X1051.here hx rfl (hb hby at_187) rfl rfl ?_
          exact kt)
        clear S1052
        obtain ⟨cq1054, kq1054, q1054a, q1054b, q1054c⟩ := isOf hZ e1051 Es1048
        obtain ⟨v1054, T1054, L1054, X1054, hQ1054, st1054⟩ := own_outV (X1051.virtualBack hx (y := (⟨"com/example/tranchery/tranchery/journal/Schedule", "hasRule", "()Z"⟩ : MethodName)) (z := (⟨"com/example/tranchery/tranchery/journal/Schedule", "hasRule", "()Z"⟩ : MethodName)) hown (mvT hZ (own_h hw 204 rfl)) (mvT hZ (own_h hw 205 rfl)) (notFace_of_selects (args := #[]) (mvT hZ (own_h hw 207 rfl))) (mvT hZ (own_h hw 207 rfl)) (mvT hZ (own_h hw 206 rfl)) (by decide) (backOf (W := 0) (rm_hr1 l Z a0 hw [] sc x T1048.heap n0 (Nat.le_trans (Nat.le_trans (Nat.le_trans (Nat.le_trans (Nat.le_trans (Nat.le_trans (Nat.le_trans (Nat.le_trans (Nat.le_trans (Nat.le_trans Z0 K964.1) K967.1) K971.1) K974.1) E977.1) K983.1) E986.1) K995.1) K1026.1) K1048.1) Frr1048 Ex1 hsz) hZ (own_h hw 208 rfl) (own_h hw 162 rfl) (by decide) (by decide)) q1054a q1054c (g := (mkF m 189 #[vI a, vI b, vI d, vI f, vI g, vI (Int32.ofNat yn), vI (Int32.ofNat mn), vI (Int32.ofNat dn), vI (Int32.ofNat kn), vI (Int32.ofNat y2), vR dt0, vR dt1, vR rl, vR sc, vI (1 : Int32)] [(.ref sc)])) rfl (by rw [hml]; rfl) (Steps.refl _) (argsL := []) (rest := []) (lenOf pd___Z rfl) rfl (by show 2 * 0 + _ ≤ _; exact Nat.le_of_eq rfl) (hb hby at_189) (fun _ _ => ⟨rfl, e1051, (by decide : 17 + 0 ≤ _), (by decide : 89 + 0 ≤ _)⟩))
        obtain ⟨rfl, N1054q, e1054⟩ := hQ1054
        have N1054 := Fr.app N1051 N1054q
        have S1055 : Go p e below s₁ (eF_law m a b d f g) T1054 (mkF m 192 #[vI a, vI b, vI d, vI f, vI g, vI (Int32.ofNat yn), vI (Int32.ofNat mn), vI (Int32.ofNat dn), vI (Int32.ofNat kn), vI (Int32.ofNat y2), vR dt0, vR dt1, vR rl, vR sc, vI (1 : Int32)] [(.int (1 : Int32))]) := fun t kt => S1053 t (st1054 t kt)
        clear S1053 st1054 X1051 e1051
        have S1056 : Go p e below s₁ (eF_law m a b d f g) T1054 (mkF m 194 #[vI a, vI b, vI d, vI f, vI g, vI (Int32.ofNat yn), vI (Int32.ofNat mn), vI (Int32.ofNat dn), vI (Int32.ofNat kn), vI (Int32.ofNat y2), vR dt0, vR dt1, vR rl, vR sc, vI (1 : Int32)] [(.int (Int32.ofNat kn)), (.int (1 : Int32))]) := fun t kt => S1055 t (by
          refine XS.iload X1054.here hx rfl (hb hby at_192) rfl ?_
          exact kt)
        clear S1055
        have S1057 : Go p e below s₁ (eF_law m a b d f g) T1054 (mkF m 210 #[vI a, vI b, vI d, vI f, vI g, vI (Int32.ofNat yn), vI (Int32.ofNat mn), vI (Int32.ofNat dn), vI (Int32.ofNat kn), vI (Int32.ofNat y2), vR dt0, vR dt1, vR rl, vR sc, vI (1 : Int32)] [(.int (1 : Int32))]) := fun t kt => S1056 t (by
          refine XS.ifNo X1054.here hx rfl (hb hby at_194) rfl ((if0 _ _).trans (tlt (show (0 : Int32) < (Int32.ofNat kn) from ((own_gt (k := 0) 0 rfl).mpr (by rw [own_toI (by omega)]; omega)))).2.2.2) ?_
          show Sp p e below T1054 (mkF m 197 #[vI a, vI b, vI d, vI f, vI g, vI (Int32.ofNat yn), vI (Int32.ofNat mn), vI (Int32.ofNat dn), vI (Int32.ofNat kn), vI (Int32.ofNat y2), vR dt0, vR dt1, vR rl, vR sc, vI (1 : Int32)] [(.int (1 : Int32))]) _
          refine XS.iconst X1054.here hx rfl (hb hby at_197) ?_
          show Sp p e below T1054 (mkF m 198 #[vI a, vI b, vI d, vI f, vI g, vI (Int32.ofNat yn), vI (Int32.ofNat mn), vI (Int32.ofNat dn), vI (Int32.ofNat kn), vI (Int32.ofNat y2), vR dt0, vR dt1, vR rl, vR sc, vI (1 : Int32)] [(.int (1 : Int32)), (.int (1 : Int32))]) _
          refine XS.goto X1054.here hx rfl (pc0 := 198) (pc' := 202) rfl (hb hby at_198) (by decide) (by decide) ?_
          refine XS.icmpNo X1054.here hx rfl (hb hby at_202) rfl (teq (show (1 : Int32) = (1 : Int32) from (by decide))).2 ?_
          show Sp p e below T1054 (mkF m 205 #[vI a, vI b, vI d, vI f, vI g, vI (Int32.ofNat yn), vI (Int32.ofNat mn), vI (Int32.ofNat dn), vI (Int32.ofNat kn), vI (Int32.ofNat y2), vR dt0, vR dt1, vR rl, vR sc, vI (1 : Int32)] []) _
          refine XS.iconst X1054.here hx rfl (hb hby at_205) ?_
          refine XS.goto X1054.here hx rfl (pc0 := 206) (pc' := 210) rfl (hb hby at_206) (by decide) (by decide) ?_
          show Sp p e below T1054 (mkF m 210 #[vI a, vI b, vI d, vI f, vI g, vI (Int32.ofNat yn), vI (Int32.ofNat mn), vI (Int32.ofNat dn), vI (Int32.ofNat kn), vI (Int32.ofNat y2), vR dt0, vR dt1, vR rl, vR sc, vI (1 : Int32)] [(.int (1 : Int32))]) _
          exact kt)
        clear S1056
        obtain ⟨fs, hr, hrun, hended, hW, hsame⟩ := X1054.leave (v := some (.int (1 : Int32))) (fun h => by first | rfl | (rw [Bd.returns] at h; cases h))
        refine ⟨_, _, S1057 _ ?_, hrun, hended, _, _, rfl, ?_, ⟨_, rfl⟩, hW, hsame.mono (by decide) (by decide)⟩
        · exact retN X1054 hx (t := .boolean) Bd.returns (by simp) (hb hby at_210) hr
        · show Q_law Z  h0 n0 _ T1054.heap _
          rw [e1054]
          exact ⟨rfl, N1054⟩
      · have S1058 : Go p e below s₁ (eF_law m a b d f g) T1048 (mkF m 169 #[vI a, vI b, vI d, vI f, vI g, vI (Int32.ofNat yn), vI (Int32.ofNat mn), vI (Int32.ofNat dn), vI (Int32.ofNat kn), vI (Int32.ofNat y2), vR dt0, vR dt1, vR rl, vR sc, vI (1 : Int32)] [(.ref sc)]) := fun t kt => S1049 t (by
          refine XS.iload X1048.here hx rfl (hb hby at_162) rfl ?_
          refine XS.ifNo X1048.here hx rfl (hb hby at_164) rfl ((if0 _ _).trans (feq (show ¬ ((1 : Int32) = (0 : Int32)) from (by decide))).1) ?_
          show Sp p e below T1048 (mkF m 167 #[vI a, vI b, vI d, vI f, vI g, vI (Int32.ofNat yn), vI (Int32.ofNat mn), vI (Int32.ofNat dn), vI (Int32.ofNat kn), vI (Int32.ofNat y2), vR dt0, vR dt1, vR rl, vR sc, vI (1 : Int32)] []) _
          refine XS.aload X1048.here hx rfl (hb hby at_167) rfl rfl ?_
          exact kt)
        clear S1049
        obtain ⟨cq1059, kq1059, q1059a, q1059b, q1059c⟩ := isOf hZ rfl Es1048
        obtain ⟨v1059, T1059, L1059, X1059, hQ1059, st1059⟩ := own_outV (X1048.virtualBack hx (y := (⟨"com/example/tranchery/tranchery/journal/Schedule", "hasRule", "()Z"⟩ : MethodName)) (z := (⟨"com/example/tranchery/tranchery/journal/Schedule", "hasRule", "()Z"⟩ : MethodName)) hown (mvT hZ (own_h hw 204 rfl)) (mvT hZ (own_h hw 205 rfl)) (notFace_of_selects (args := #[]) (mvT hZ (own_h hw 207 rfl))) (mvT hZ (own_h hw 207 rfl)) (mvT hZ (own_h hw 206 rfl)) (by decide) (backOf (W := 0) (rm_hr2 l Z a0 hw [] sc x T1048.heap n0 (Nat.le_trans (Nat.le_trans (Nat.le_trans (Nat.le_trans (Nat.le_trans (Nat.le_trans (Nat.le_trans (Nat.le_trans (Nat.le_trans (Nat.le_trans Z0 K964.1) K967.1) K971.1) K974.1) E977.1) K983.1) E986.1) K995.1) K1026.1) K1048.1) Frr1048 Ex1 hsz) hZ (own_h hw 208 rfl) (own_h hw 162 rfl) (by decide) (by decide)) q1059a q1059c (g := (mkF m 169 #[vI a, vI b, vI d, vI f, vI g, vI (Int32.ofNat yn), vI (Int32.ofNat mn), vI (Int32.ofNat dn), vI (Int32.ofNat kn), vI (Int32.ofNat y2), vR dt0, vR dt1, vR rl, vR sc, vI (1 : Int32)] [(.ref sc)])) rfl (by rw [hml]; rfl) (Steps.refl _) (argsL := []) (rest := []) (lenOf pd___Z rfl) rfl (by show 2 * 0 + _ ≤ _; exact Nat.le_of_eq rfl) (hb hby at_169) (fun _ _ => ⟨rfl, rfl, (by decide : 17 + 0 ≤ _), (by decide : 89 + 0 ≤ _)⟩))
        obtain ⟨rfl, N1059q, e1059⟩ := hQ1059
        have N1059 := Fr.app N1048 N1059q
        have S1060 : Go p e below s₁ (eF_law m a b d f g) T1059 (mkF m 172 #[vI a, vI b, vI d, vI f, vI g, vI (Int32.ofNat yn), vI (Int32.ofNat mn), vI (Int32.ofNat dn), vI (Int32.ofNat kn), vI (Int32.ofNat y2), vR dt0, vR dt1, vR rl, vR sc, vI (1 : Int32)] [(.int (1 : Int32))]) := fun t kt => S1058 t (st1059 t kt)
        clear S1058 st1059 X1048
        have S1061 : Go p e below s₁ (eF_law m a b d f g) T1059 (mkF m 189 #[vI a, vI b, vI d, vI f, vI g, vI (Int32.ofNat yn), vI (Int32.ofNat mn), vI (Int32.ofNat dn), vI (Int32.ofNat kn), vI (Int32.ofNat y2), vR dt0, vR dt1, vR rl, vR sc, vI (1 : Int32)] [(.ref sc)]) := fun t kt => S1060 t (by
          refine XS.ifNo X1059.here hx rfl (hb hby at_172) rfl ((if0 _ _).trans (feq (show ¬ ((1 : Int32) = (0 : Int32)) from (by decide))).1) ?_
          refine XS.iconst X1059.here hx rfl (hb hby at_175) ?_
          show Sp p e below T1059 (mkF m 176 #[vI a, vI b, vI d, vI f, vI g, vI (Int32.ofNat yn), vI (Int32.ofNat mn), vI (Int32.ofNat dn), vI (Int32.ofNat kn), vI (Int32.ofNat y2), vR dt0, vR dt1, vR rl, vR sc, vI (1 : Int32)] [(.int (1 : Int32))]) _
          refine XS.goto X1059.here hx rfl (pc0 := 176) (pc' := 180) rfl (hb hby at_176) (by decide) (by decide) ?_
          refine XS.istore X1059.here hx rfl (hb hby at_180) rfl (l' := #[vI a, vI b, vI d, vI f, vI g, vI (Int32.ofNat yn), vI (Int32.ofNat mn), vI (Int32.ofNat dn), vI (Int32.ofNat kn), vI (Int32.ofNat y2), vR dt0, vR dt1, vR rl, vR sc, vI (1 : Int32)]) rfl ?_
          show Sp p e below T1059 (mkF m 182 #[vI a, vI b, vI d, vI f, vI g, vI (Int32.ofNat yn), vI (Int32.ofNat mn), vI (Int32.ofNat dn), vI (Int32.ofNat kn), vI (Int32.ofNat y2), vR dt0, vR dt1, vR rl, vR sc, vI (1 : Int32)] []) _
          refine XS.iload X1059.here hx rfl (hb hby at_182) rfl ?_
          refine XS.ifNo X1059.here hx rfl (hb hby at_184) rfl ((if0 _ _).trans (feq (show ¬ ((1 : Int32) = (0 : Int32)) from (by decide))).1) ?_
          show Sp p e below T1059 (mkF m 187 #[vI a, vI b, vI d, vI f, vI g, vI (Int32.ofNat yn), vI (Int32.ofNat mn), vI (Int32.ofNat dn), vI (Int32.ofNat kn), vI (Int32.ofNat y2), vR dt0, vR dt1, vR rl, vR sc, vI (1 : Int32)] []) _
          refine XS.aload X1059.here hx rfl (hb hby at_187) rfl rfl ?_
          exact kt)
        clear S1060
        obtain ⟨cq1062, kq1062, q1062a, q1062b, q1062c⟩ := isOf hZ e1059 Es1048
        obtain ⟨v1062, T1062, L1062, X1062, hQ1062, st1062⟩ := own_outV (X1059.virtualBack hx (y := (⟨"com/example/tranchery/tranchery/journal/Schedule", "hasRule", "()Z"⟩ : MethodName)) (z := (⟨"com/example/tranchery/tranchery/journal/Schedule", "hasRule", "()Z"⟩ : MethodName)) hown (mvT hZ (own_h hw 204 rfl)) (mvT hZ (own_h hw 205 rfl)) (notFace_of_selects (args := #[]) (mvT hZ (own_h hw 207 rfl))) (mvT hZ (own_h hw 207 rfl)) (mvT hZ (own_h hw 206 rfl)) (by decide) (backOf (W := 0) (rm_hr2 l Z a0 hw [] sc x T1048.heap n0 (Nat.le_trans (Nat.le_trans (Nat.le_trans (Nat.le_trans (Nat.le_trans (Nat.le_trans (Nat.le_trans (Nat.le_trans (Nat.le_trans (Nat.le_trans Z0 K964.1) K967.1) K971.1) K974.1) E977.1) K983.1) E986.1) K995.1) K1026.1) K1048.1) Frr1048 Ex1 hsz) hZ (own_h hw 208 rfl) (own_h hw 162 rfl) (by decide) (by decide)) q1062a q1062c (g := (mkF m 189 #[vI a, vI b, vI d, vI f, vI g, vI (Int32.ofNat yn), vI (Int32.ofNat mn), vI (Int32.ofNat dn), vI (Int32.ofNat kn), vI (Int32.ofNat y2), vR dt0, vR dt1, vR rl, vR sc, vI (1 : Int32)] [(.ref sc)])) rfl (by rw [hml]; rfl) (Steps.refl _) (argsL := []) (rest := []) (lenOf pd___Z rfl) rfl (by show 2 * 0 + _ ≤ _; exact Nat.le_of_eq rfl) (hb hby at_189) (fun _ _ => ⟨rfl, e1059, (by decide : 17 + 0 ≤ _), (by decide : 89 + 0 ≤ _)⟩))
        obtain ⟨rfl, N1062q, e1062⟩ := hQ1062
        have N1062 := Fr.app N1059 N1062q
        have S1063 : Go p e below s₁ (eF_law m a b d f g) T1062 (mkF m 192 #[vI a, vI b, vI d, vI f, vI g, vI (Int32.ofNat yn), vI (Int32.ofNat mn), vI (Int32.ofNat dn), vI (Int32.ofNat kn), vI (Int32.ofNat y2), vR dt0, vR dt1, vR rl, vR sc, vI (1 : Int32)] [(.int (1 : Int32))]) := fun t kt => S1061 t (st1062 t kt)
        clear S1061 st1062 X1059 e1059
        have S1064 : Go p e below s₁ (eF_law m a b d f g) T1062 (mkF m 194 #[vI a, vI b, vI d, vI f, vI g, vI (Int32.ofNat yn), vI (Int32.ofNat mn), vI (Int32.ofNat dn), vI (Int32.ofNat kn), vI (Int32.ofNat y2), vR dt0, vR dt1, vR rl, vR sc, vI (1 : Int32)] [(.int (Int32.ofNat kn)), (.int (1 : Int32))]) := fun t kt => S1063 t (by
          refine XS.iload X1062.here hx rfl (hb hby at_192) rfl ?_
          exact kt)
        clear S1063
        have S1065 : Go p e below s₁ (eF_law m a b d f g) T1062 (mkF m 210 #[vI a, vI b, vI d, vI f, vI g, vI (Int32.ofNat yn), vI (Int32.ofNat mn), vI (Int32.ofNat dn), vI (Int32.ofNat kn), vI (Int32.ofNat y2), vR dt0, vR dt1, vR rl, vR sc, vI (1 : Int32)] [(.int (1 : Int32))]) := fun t kt => S1064 t (by
          refine XS.ifNo X1062.here hx rfl (hb hby at_194) rfl ((if0 _ _).trans (tlt (show (0 : Int32) < (Int32.ofNat kn) from ((own_gt (k := 0) 0 rfl).mpr (by rw [own_toI (by omega)]; omega)))).2.2.2) ?_
          show Sp p e below T1062 (mkF m 197 #[vI a, vI b, vI d, vI f, vI g, vI (Int32.ofNat yn), vI (Int32.ofNat mn), vI (Int32.ofNat dn), vI (Int32.ofNat kn), vI (Int32.ofNat y2), vR dt0, vR dt1, vR rl, vR sc, vI (1 : Int32)] [(.int (1 : Int32))]) _
          refine XS.iconst X1062.here hx rfl (hb hby at_197) ?_
          show Sp p e below T1062 (mkF m 198 #[vI a, vI b, vI d, vI f, vI g, vI (Int32.ofNat yn), vI (Int32.ofNat mn), vI (Int32.ofNat dn), vI (Int32.ofNat kn), vI (Int32.ofNat y2), vR dt0, vR dt1, vR rl, vR sc, vI (1 : Int32)] [(.int (1 : Int32)), (.int (1 : Int32))]) _
          refine XS.goto X1062.here hx rfl (pc0 := 198) (pc' := 202) rfl (hb hby at_198) (by decide) (by decide) ?_
          refine XS.icmpNo X1062.here hx rfl (hb hby at_202) rfl (teq (show (1 : Int32) = (1 : Int32) from (by decide))).2 ?_
          show Sp p e below T1062 (mkF m 205 #[vI a, vI b, vI d, vI f, vI g, vI (Int32.ofNat yn), vI (Int32.ofNat mn), vI (Int32.ofNat dn), vI (Int32.ofNat kn), vI (Int32.ofNat y2), vR dt0, vR dt1, vR rl, vR sc, vI (1 : Int32)] []) _
          refine XS.iconst X1062.here hx rfl (hb hby at_205) ?_
          refine XS.goto X1062.here hx rfl (pc0 := 206) (pc' := 210) rfl (hb hby at_206) (by decide) (by decide) ?_
          show Sp p e below T1062 (mkF m 210 #[vI a, vI b, vI d, vI f, vI g, vI (Int32.ofNat yn), vI (Int32.ofNat mn), vI (Int32.ofNat dn), vI (Int32.ofNat kn), vI (Int32.ofNat y2), vR dt0, vR dt1, vR rl, vR sc, vI (1 : Int32)] [(.int (1 : Int32))]) _
          exact kt)
        clear S1064
        obtain ⟨fs, hr, hrun, hended, hW, hsame⟩ := X1062.leave (v := some (.int (1 : Int32))) (fun h => by first | rfl | (rw [Bd.returns] at h; cases h))
        refine ⟨_, _, S1065 _ ?_, hrun, hended, _, _, rfl, ?_, ⟨_, rfl⟩, hW, hsame.mono (by decide) (by decide)⟩
        · exact retN X1062 hx (t := .boolean) Bd.returns (by simp) (hb hby at_210) hr
        · show Q_law Z  h0 n0 _ T1062.heap _
          rw [e1062]
          exact ⟨rfl, N1062⟩
set_option maxRecDepth 65536 in
set_option maxHeartbeats 40000000 in
theorem comes_1 {Post : Tables → Env → Array Value → State → Outcome → State → Prop} (hpost : ∀ tb e args s v u, (limb_1_1.after args s (.returned v) u = true ∧ limb_1_2.after args s (.returned v) u = true ∧ True) → FrameEnd s (.returned v) u (Jvm.fieldLocs frame_1_writes args s ++ Jvm.arrayLocs frame_1_arrays args s ++ Jvm.staticLocs frame_1_statics s) 48 256 → Post tb e args s (.returned v) u) :
    ArmFor flags0 classFile x code maxLocals ret World_1 tables_1 room_1 Calls_1 rest_1 Pre_1 Post := by
  intro l hfl _ _ p e ha hc hk s m args below hf hA hF happ hP
  obtain ⟨hcalls, hrest, hpre⟩ := hP
  obtain ⟨-, -, -, hnamed, -, -, -, hat⟩ := (Spec.applies_iff hf).mp happ
  obtain ⟨hg, hn⟩ := and_e (Cond.before_iff.mp (show (Jvm.Cond.and given_1 narrow_1).before args s = true from hpre))
  obtain ⟨hcount, r0⟩ := and_e hg
  obtain ⟨v0, r1⟩ := and_e r0
  obtain ⟨v1, r2⟩ := and_e r1
  obtain ⟨v2, r3⟩ := and_e r2
  obtain ⟨v3, r4⟩ := and_e r3
  obtain ⟨w0, w1, w2, w3, w4, rfl⟩ : ∃ w0 w1 w2 w3 w4 : Value, args = #[w0, w1, w2, w3, w4] := by
    have hs : args.size = 5 := by simpa [Cond.value, given_1] using hcount
    obtain ⟨L⟩ := args
    match L, hs with
    | [w0, w1, w2, w3, w4], _ => exact ⟨w0, w1, w2, w3, w4, rfl⟩
  have hw := fun d (hd : d ∈ tables_1) => atoms_spec (ws := Jvm.Cond.code x code maxLocals ret :: tables_1) hat d (List.mem_cons_of_mem _ hd)
  have hfit : Fit s := fun {y c} hc i hi => by
    obtain ⟨ha, rfl⟩ := Array.getElem?_eq_some_iff.mp hc
    have q := List.all_eq_true.mp ((Array.all_eq_true_iff_forall_mem.mp hF) _ (Array.getElem_mem ha)) i (List.mem_range.mpr hi)
    simpa [Array.getElem?_eq_getElem hi] using q
  obtain ⟨hsets, hown0⟩ := atoms_of _ (rest_1_c_eq ▸ (show rest_1_c.before _ s = true from hrest))
  have hr0 := Cond.before_iff.mp hown0
  obtain ⟨i0, ei0⟩ := is_v v0
  obtain rfl : w0 = (.int i0) := Option.some.inj ei0
  obtain ⟨i1, ei1⟩ := is_v v1
  obtain rfl : w1 = (.int i1) := Option.some.inj ei1
  obtain ⟨i2, ei2⟩ := is_v v2
  obtain rfl : w2 = (.int i2) := Option.some.inj ei2
  obtain ⟨i3, ei3⟩ := is_v v3
  obtain rfl : w3 = (.int i3) := Option.some.inj ei3
  obtain ⟨i4, ei4⟩ := is_v r4
  obtain rfl : w4 = (.int i4) := Option.some.inj ei4
  obtain ⟨n, o, h1, h2, h3, _, L, rfl, ⟨rfl, N⟩, hq⟩ := rm_law l s _ hw tables_1 i0 i1 i2 i3 i4 s.heap s.heap.size (Nat.le_refl _) (own_ss hsets hw hfit hn) (Old.start s) p e ha hc hk s m _ below hf ((Spec.applies_iff_loose hf).mp happ).1 ⟨rfl, State.Warmed39.refl s, rfl⟩ trivial
  refine ⟨n, _, h1, h2, h3, hpost _ _ _ _ _ _ ⟨Cond.after_iff.mpr rfl, Cond.after_iff.mpr (eq_i res_at (Term.int_eval (1)) rfl), trivial⟩ ⟨hq.1, hq.2.1, (hq.2.2.sift fun y hy => Or.inr (N y hy)).mono (by decide) (by decide)⟩⟩
theorem main_1_1 : Claimed_1_1 := comes_1 fun _ _ _ _ _ _ h hF => ⟨h.1, hF⟩
theorem main_1_2 : Claimed_1_2 := comes_1 fun _ _ _ _ _ _ h hF => ⟨h.2.1, hF⟩
end Jvm.Pilot.@@N@@
namespace Jvm.Pilot.@@N@@
open Jvm Jvm.ClassFile Sem Op Lib Jvm.Free Jvm.Stand Jvm.Pilot.@@N@@.Jvm.D
/-! MADE BY PROGRAM (witnessworld.py) out of the Statement's table words and the real class files: 60 classes; the members and pool entries that the words name. The judged class is class 1, her method 2. -/
namespace start1
open Jvm.ClassFile
def u (s : String) : CpInfo := .utf8 (stringToUtf16 s)
/-- a pool by its gaps: so many unusable entries, then the entry; so many at the end -/
def gap : Nat → List CpInfo → List CpInfo
  | 0, r => r
  | n + 1, r => .unusable :: gap n r
def poolList (es : List (Nat × CpInfo)) (last : Nat) : List CpInfo := es.foldr (fun e r => gap e.1 (e.2 :: r)) (gap last [])
def pool (es : List (Nat × CpInfo)) (last : Nat) : Array CpInfo := ⟨poolList es last⟩
def fileOf (pool : Array CpInfo) (this : Nat) (attrs : Array Attribute := #[]) (ms : Array MethodInfo := #[]) (fl : Nat := 33) (sup : Nat := 0) (ifs : Array Nat := #[]) (fds : Array FieldInfo := #[]) : ClassFile where
  minorVersion := 0
  majorVersion := 65
  constantPool := pool
  accessFlags := fl
  thisClass := this
  superClass := sup
  interfaces := ifs
  fields := fds
  methods := ms
  attributes := attrs
def plain (name : String) (sup : Option ClassId) : Class where
  name := name
  kind := .ordinary
  loader := none
  accessFlags := 33
  super := sup
  interfaces := #[]
  cf := none
  fields := #[]
  methods := #[]
  instanceTypes := #[]
  staticTypes := #[]
  resolved := #[]
  callSites := []
  init := .initialized
  statics := none
  mirror := none

def pool0 : Array CpInfo := pool [(5, u "<init>"), (0, u "()V"), (1, .class_ 10), (1, u "java/lang/Object")] 113

def k0c0 : Code := { maxStack := 0, maxLocals := 1, code := object_method_1_code, exceptionTable := #[], attributes := #[] }
def k0m0 : Method := { name := "<init>", desc := "()V", sig := { parameters := [], returnType := none }, accessFlags := 1, code := some k0c0 }
/-- java/lang/Object -/
def k0 : Class := { plain "java/lang/Object" none with
  accessFlags := 33
  interfaces := #[]
  cf := some (fileOf pool0 8 #[] #[{ accessFlags := 1, nameIndex := 5, descriptorIndex := 6, attributes := #[] }] 33 0 #[] #[])
  fields := #[]
  methods := #[k0m0]
  instanceTypes := #[]
  staticTypes := #[]
  resolved := Array.replicate 124 none
  statics := none }

def pool1 : Array CpInfo := pool [(2, .class_ 4), (0, .nameAndType 5 6), (0, u "java/lang/Object"), (0, u "<init>"), (0, u "()V"), (0, .class_ 8), (0, u "java/lang/String"), (0, .methodref 7 10), (0, .nameAndType 5 11), (0, u "([C)V"), (0, .integer 2147483647), (0, .methodref 14 15), (0, .class_ 16), (0, .nameAndType 17 18), (0, u "com/example/tranchery/tranchery/journal/ScheduleHasRulePinLaw"), (0, u "text"), (0, u "(III)Ljava/lang/String;"), (0, .methodref 20 21), (0, .class_ 22), (0, .nameAndType 23 24), (0, u "com/example/tranchery/tranchery/journal/Fields"), (0, u "date"), (0, u "(Ljava/lang/String;)Ljava/time/LocalDate;"), (0, .class_ 26), (0, u "com/example/tranchery/tranchery/journal/BusinessDays"), (0, .methodref 25 28), (0, .nameAndType 5 29), (0, u "(Lcom/example/tranchery/tranchery/journal/BusinessCalendar;Lcom/example/tranchery/tranchery/journal/Roll;)V"), (0, .class_ 31), (0, u "com/example/tranchery/tranchery/journal/Schedule"), (0, .methodref 30 3), (0, .methodref 30 34), (0, .nameAndType 35 36), (0, u "hasRule"), (0, u "()Z"), (0, .methodref 30 38), (0, .nameAndType 39 40), (0, u "setRule"), (0, u "(Ljava/time/LocalDate;Lcom/example/tranchery/tranchery/journal/BusinessDays;)V"), (2, u "law"), (0, u "(IIIII)Z")] 5

def k1m0 : Method := { name := "<init>", desc := "()V", sig := { parameters := [], returnType := none }, accessFlags := 1, code := none }
def k1c1 : Code := { maxStack := 5, maxLocals := 4, code := method_2_code, exceptionTable := #[], attributes := #[] }
def k1m1 : Method := { name := "text", desc := "(III)Ljava/lang/String;", sig := { parameters := [.int, .int, .int], returnType := some (.object "java/lang/String") }, accessFlags := 10, code := some k1c1 }
def k1c2 : Code := { maxStack := 4, maxLocals := 15, code := code, exceptionTable := #[], attributes := #[] }
def k1m2 : Method := { name := "law", desc := "(IIIII)Z", sig := { parameters := [.int, .int, .int, .int, .int], returnType := some .boolean }, accessFlags := 9, code := some k1c2 }
/-- com/example/tranchery/tranchery/journal/ScheduleHasRulePinLaw -/
def k1 : Class := { plain "com/example/tranchery/tranchery/journal/ScheduleHasRulePinLaw" (some 0) with
  accessFlags := 49
  interfaces := #[]
  cf := some (fileOf pool1 14 #[] #[{ accessFlags := 1, nameIndex := 5, descriptorIndex := 6, attributes := #[] }, { accessFlags := 10, nameIndex := 17, descriptorIndex := 18, attributes := #[] }, { accessFlags := 9, nameIndex := 43, descriptorIndex := 44, attributes := #[] }] 49 2 #[] #[])
  fields := #[]
  methods := #[k1m0, k1m1, k1m2]
  instanceTypes := #[]
  staticTypes := #[]
  resolved := Array.replicate 50 none
  statics := none }

def pool2 : Array CpInfo := pool [(1, .class_ 2), (0, u "java/io/Serializable"), (0, .class_ 4), (0, u "java/lang/Object")] 2

/-- java/io/Serializable -/
def k2 : Class := { plain "java/io/Serializable" (some 0) with
  accessFlags := 1537
  interfaces := #[]
  cf := some (fileOf pool2 1 #[] #[] 1537 3 #[] #[])
  fields := #[]
  methods := #[]
  instanceTypes := #[]
  staticTypes := #[]
  resolved := Array.replicate 7 none
  statics := none }

def pool3 : Array CpInfo := pool [(1, .class_ 2), (0, u "java/lang/Comparable"), (0, .class_ 4), (0, u "java/lang/Object")] 7

/-- java/lang/Comparable -/
def k3 : Class := { plain "java/lang/Comparable" (some 0) with
  accessFlags := 1537
  interfaces := #[]
  cf := some (fileOf pool3 1 #[] #[] 1537 3 #[] #[])
  fields := #[]
  methods := #[]
  instanceTypes := #[]
  staticTypes := #[]
  resolved := Array.replicate 12 none
  statics := none }

def pool4 : Array CpInfo := pool [(2, .class_ 4), (1, u "java/lang/CharSequence"), (42, .class_ 48), (0, u "java/lang/CharSequence$1CodePointIterator"), (10, .class_ 60), (0, u "java/lang/CharSequence$1CharIterator"), (5, .class_ 67), (0, u "java/lang/Object")] 63

/-- java/lang/CharSequence -/
def k4 : Class := { plain "java/lang/CharSequence" (some 0) with
  accessFlags := 1537
  interfaces := #[]
  cf := some (fileOf pool4 2 #[.nestMembers #[47, 59]] #[] 1537 66 #[] #[])
  fields := #[]
  methods := #[]
  instanceTypes := #[]
  staticTypes := #[]
  resolved := Array.replicate 131 none
  statics := none }

def pool5 : Array CpInfo := pool [(1, .class_ 2), (0, u "java/lang/constant/Constable"), (0, .class_ 4), (0, u "java/lang/Object")] 6

/-- java/lang/constant/Constable -/
def k5 : Class := { plain "java/lang/constant/Constable" (some 0) with
  accessFlags := 1537
  interfaces := #[]
  cf := some (fileOf pool5 1 #[] #[] 1537 3 #[] #[])
  fields := #[]
  methods := #[]
  instanceTypes := #[]
  staticTypes := #[]
  resolved := Array.replicate 11 none
  statics := none }

def pool6 : Array CpInfo := pool [(1, .class_ 2), (0, u "java/lang/constant/ConstantDesc"), (0, .class_ 4), (0, u "java/lang/Object")] 32

/-- java/lang/constant/ConstantDesc -/
def k6 : Class := { plain "java/lang/constant/ConstantDesc" (some 0) with
  accessFlags := 1537
  interfaces := #[]
  cf := some (fileOf pool6 1 #[] #[] 1537 3 #[] #[])
  fields := #[]
  methods := #[]
  instanceTypes := #[]
  staticTypes := #[]
  resolved := Array.replicate 37 none
  statics := none }

def pool7 : Array CpInfo := pool [(1, .methodref 2 3), (0, .class_ 4), (0, .nameAndType 5 6), (0, u "java/lang/Object"), (0, u "<init>"), (0, u "()V"), (2, .fieldref 10 11), (0, .class_ 12), (0, .nameAndType 13 14), (0, u "java/lang/String"), (0, u "value"), (0, u "[B"), (0, .fieldref 10 16), (0, .nameAndType 17 18), (0, u "coder"), (0, u "B"), (2, u "hash"), (0, u "I"), (2, u "hashIsZero"), (0, u "Z"), (0, .methodref 10 28), (0, .nameAndType 5 29), (0, u "([CIILjava/lang/Void;)V"), (8, .fieldref 10 39), (0, .nameAndType 40 26), (0, u "COMPACT_STRINGS"), (1, .class_ 44), (1, u "java/lang/StringUTF16"), (0, u "compress"), (1, .methodref 42 48), (0, .nameAndType 49 50), (0, u "coderFromArrayLen"), (0, u "([BI)B"), (56, .class_ 109), (1, u "java/lang/StringLatin1"), (32, u "()Z"), (34, .methodref 42 178), (0, .nameAndType 45 179), (0, u "([CII)[B"), (154, u "()I"), (0, .methodref 10 336), (0, .nameAndType 17 337), (0, u "()B"), (25, u "([BI)C"), (27, u "(II)V"), (35, u "(I)C"), (64, .methodref 10 493), (0, .nameAndType 494 142), (0, u "isLatin1"), (0, .methodref 107 496), (0, .nameAndType 497 363), (0, u "charAt"), (3, u "checkIndex"), (5, u "length"), (67, .class_ 576), (0, u "java/lang/CharSequence"), (22, u "CASE_INSENSITIVE_ORDER"), (0, u "Ljava/util/Comparator;"), (409, u "([C)V"), (42, .fieldref 1054 1055), (0, .class_ 1056), (0, .nameAndType 1057 1058), (0, u "jdk/internal/util/Preconditions"), (0, u "SIOOBE_FORMATTER"), (0, u "Ljava/util/function/BiFunction;"), (0, .methodref 1054 1060), (0, .nameAndType 501 1061), (0, u "(IILjava/util/function/BiFunction;)I"), (39, u "serialPersistentFields"), (0, u "[Ljava/io/ObjectStreamField;"), (0, .class_ 1104), (0, u "java/lang/String$CaseInsensitiveComparator"), (1, .class_ 1107), (0, u "java/io/Serializable"), (0, .class_ 1109), (0, u "java/lang/Comparable"), (0, .class_ 1111), (0, u "java/lang/constant/Constable"), (0, .class_ 1113), (0, u "java/lang/constant/ConstantDesc"), (2, u "serialVersionUID"), (0, u "J"), (3, u "REPL"), (0, u "C"), (2, u "LATIN1"), (1, u "UTF16")] 323

def k7m0 : Method := { name := "<init>", desc := "()V", sig := { parameters := [], returnType := none }, accessFlags := 1, code := none }
def k7c1 : Code := { maxStack := 5, maxLocals := 2, code := jdk_42_method_3_code, exceptionTable := #[], attributes := #[] }
def k7m1 : Method := { name := "<init>", desc := "([C)V", sig := { parameters := [(.array .char)], returnType := none }, accessFlags := 1, code := some k7c1 }
def k7c2 : Code := { maxStack := 2, maxLocals := 1, code := jdk_42_method_54_code, exceptionTable := #[], attributes := #[] }
def k7m2 : Method := { name := "length", desc := "()I", sig := { parameters := [], returnType := some .int }, accessFlags := 1, code := some k7c2 }
def k7c3 : Code := { maxStack := 2, maxLocals := 2, code := jdk_42_method_56_code, exceptionTable := #[], attributes := #[] }
def k7m3 : Method := { name := "charAt", desc := "(I)C", sig := { parameters := [.int], returnType := some .char }, accessFlags := 1, code := some k7c3 }
def k7c4 : Code := { maxStack := 4, maxLocals := 6, code := jdk_42_method_149_code, exceptionTable := #[], attributes := #[] }
def k7m4 : Method := { name := "<init>", desc := "([CIILjava/lang/Void;)V", sig := { parameters := [(.array .char), .int, .int, (.object "java/lang/Void")], returnType := none }, accessFlags := 2, code := some k7c4 }
def k7c5 : Code := { maxStack := 1, maxLocals := 1, code := jdk_42_method_152_code, exceptionTable := #[], attributes := #[] }
def k7m5 : Method := { name := "coder", desc := "()B", sig := { parameters := [], returnType := some .byte }, accessFlags := 0, code := some k7c5 }
def k7c6 : Code := { maxStack := 1, maxLocals := 1, code := jdk_42_method_154_code, exceptionTable := #[], attributes := #[] }
def k7m6 : Method := { name := "isLatin1", desc := "()Z", sig := { parameters := [], returnType := some .boolean }, accessFlags := 0, code := some k7c6 }
def k7c7 : Code := { maxStack := 3, maxLocals := 2, code := jdk_42_method_155_code, exceptionTable := #[], attributes := #[] }
def k7m7 : Method := { name := "checkIndex", desc := "(II)V", sig := { parameters := [.int, .int], returnType := none }, accessFlags := 8, code := some k7c7 }
/-- java/lang/String -/
def k7 : Class := { plain "java/lang/String" (some 0) with
  accessFlags := 49
  interfaces := #[2, 3, 4, 5, 6]
  cf := some (fileOf pool7 10 #[.nestMembers #[1103]] #[{ accessFlags := 1, nameIndex := 5, descriptorIndex := 6, attributes := #[] }, { accessFlags := 1, nameIndex := 5, descriptorIndex := 1010, attributes := #[] }, { accessFlags := 1, nameIndex := 507, descriptorIndex := 334, attributes := #[] }, { accessFlags := 1, nameIndex := 497, descriptorIndex := 427, attributes := #[] }, { accessFlags := 2, nameIndex := 5, descriptorIndex := 29, attributes := #[] }, { accessFlags := 0, nameIndex := 17, descriptorIndex := 337, attributes := #[] }, { accessFlags := 0, nameIndex := 494, descriptorIndex := 142, attributes := #[] }, { accessFlags := 8, nameIndex := 501, descriptorIndex := 391, attributes := #[] }] 49 2 #[1106, 1108, 575, 1110, 1112] #[{ accessFlags := 18, nameIndex := 13, descriptorIndex := 14, attributes := #[] }, { accessFlags := 18, nameIndex := 17, descriptorIndex := 18, attributes := #[] }, { accessFlags := 2, nameIndex := 21, descriptorIndex := 22, attributes := #[] }, { accessFlags := 2, nameIndex := 25, descriptorIndex := 26, attributes := #[] }, { accessFlags := 26, nameIndex := 1116, descriptorIndex := 1117, attributes := #[] }, { accessFlags := 24, nameIndex := 40, descriptorIndex := 26, attributes := #[] }, { accessFlags := 26, nameIndex := 1101, descriptorIndex := 1102, attributes := #[] }, { accessFlags := 26, nameIndex := 1121, descriptorIndex := 1122, attributes := #[] }, { accessFlags := 25, nameIndex := 599, descriptorIndex := 600, attributes := #[] }, { accessFlags := 24, nameIndex := 1125, descriptorIndex := 18, attributes := #[] }, { accessFlags := 24, nameIndex := 1127, descriptorIndex := 18, attributes := #[] }])
  fields := #[{ name := "value", type := (.array .byte), accessFlags := 18, slot := 0, constantValue := 0 }, { name := "coder", type := .byte, accessFlags := 18, slot := 1, constantValue := 0 }, { name := "hash", type := .int, accessFlags := 2, slot := 2, constantValue := 0 }, { name := "hashIsZero", type := .boolean, accessFlags := 2, slot := 3, constantValue := 0 }, { name := "serialVersionUID", type := .long, accessFlags := 26, slot := 0, constantValue := 0 }, { name := "COMPACT_STRINGS", type := .boolean, accessFlags := 24, slot := 1, constantValue := 0 }, { name := "serialPersistentFields", type := (.array (.object "java/io/ObjectStreamField")), accessFlags := 26, slot := 2, constantValue := 0 }, { name := "REPL", type := .char, accessFlags := 26, slot := 3, constantValue := 0 }, { name := "CASE_INSENSITIVE_ORDER", type := (.object "java/util/Comparator"), accessFlags := 25, slot := 4, constantValue := 0 }, { name := "LATIN1", type := .byte, accessFlags := 24, slot := 5, constantValue := 0 }, { name := "UTF16", type := .byte, accessFlags := 24, slot := 6, constantValue := 0 }]
  methods := #[k7m0, k7m1, k7m2, k7m3, k7m4, k7m5, k7m6, k7m7]
  instanceTypes := #[(.array .byte), .byte, .int, .boolean]
  staticTypes := #[.long, .boolean, (.array (.object "java/io/ObjectStreamField")), .char, (.object "java/util/Comparator"), .byte, .byte]
  resolved := Array.replicate 1451 none
  statics := some 0 }

def pool8 : Array CpInfo := pool [(6, .class_ 8), (1, u "java/lang/Object"), (0, u "<init>"), (0, u "()V"), (1, .class_ 14), (1, u "java/lang/StringUTF16"), (31, u "$assertionsDisabled"), (0, u "Z"), (13, u "HI_BYTE_SHIFT"), (0, u "I"), (2, u "LO_BYTE_SHIFT"), (49, .methodref 12 116), (0, .nameAndType 117 118), (0, u "compress"), (0, u "([CI[BII)I"), (3, u "([CII)[B"), (138, u "coderFromArrayLen"), (0, u "([BI)B"), (106, .class_ 371), (1, u "java/lang/StringUTF16$LinesSpliterator"), (58, u "MAX_LENGTH"), (196, .class_ 628), (0, u "java/lang/StringUTF16$CodePointsSpliterator"), (0, .class_ 630), (0, u "java/lang/StringUTF16$CharsSpliterator")] 4

def k8m0 : Method := { name := "<init>", desc := "()V", sig := { parameters := [], returnType := none }, accessFlags := 0, code := none }
def k8c1 : Code := { maxStack := 2, maxLocals := 2, code := jdk_52_method_15_code, exceptionTable := #[], attributes := #[] }
def k8m1 : Method := { name := "coderFromArrayLen", desc := "([BI)B", sig := { parameters := [(.array .byte), .int], returnType := some .byte }, accessFlags := 8, code := some k8c1 }
def k8c2 : Code := { maxStack := 5, maxLocals := 6, code := jdk_52_method_16_code, exceptionTable := #[], attributes := #[] }
def k8m2 : Method := { name := "compress", desc := "([CII)[B", sig := { parameters := [(.array .char), .int, .int], returnType := some (.array .byte) }, accessFlags := 9, code := some k8c2 }
def k8c3 : Code := { maxStack := 3, maxLocals := 7, code := jdk_52_method_21_code, exceptionTable := #[], attributes := #[] }
def k8m3 : Method := { name := "compress", desc := "([CI[BII)I", sig := { parameters := [(.array .char), .int, (.array .byte), .int, .int], returnType := some .int }, accessFlags := 9, code := some k8c3 }
/-- java/lang/StringUTF16 -/
def k8 : Class := { plain "java/lang/StringUTF16" (some 0) with
  accessFlags := 48
  interfaces := #[]
  cf := some (fileOf pool8 12 #[.nestMembers #[627, 629, 369]] #[{ accessFlags := 0, nameIndex := 9, descriptorIndex := 10, attributes := #[] }, { accessFlags := 8, nameIndex := 261, descriptorIndex := 262, attributes := #[] }, { accessFlags := 9, nameIndex := 117, descriptorIndex := 122, attributes := #[] }, { accessFlags := 9, nameIndex := 117, descriptorIndex := 118, attributes := #[] }] 48 6 #[] #[{ accessFlags := 26, nameIndex := 61, descriptorIndex := 62, attributes := #[] }, { accessFlags := 26, nameIndex := 65, descriptorIndex := 62, attributes := #[] }, { accessFlags := 24, nameIndex := 430, descriptorIndex := 62, attributes := #[] }, { accessFlags := 4120, nameIndex := 46, descriptorIndex := 47, attributes := #[] }])
  fields := #[{ name := "HI_BYTE_SHIFT", type := .int, accessFlags := 26, slot := 0, constantValue := 0 }, { name := "LO_BYTE_SHIFT", type := .int, accessFlags := 26, slot := 1, constantValue := 0 }, { name := "MAX_LENGTH", type := .int, accessFlags := 24, slot := 2, constantValue := 0 }, { name := "$assertionsDisabled", type := .boolean, accessFlags := 4120, slot := 3, constantValue := 0 }]
  methods := #[k8m0, k8m1, k8m2, k8m3]
  instanceTypes := #[]
  staticTypes := #[.int, .int, .int, .boolean]
  resolved := Array.replicate 635 none
  statics := none }

def pool9 : Array CpInfo := pool [(2, .class_ 4), (1, u "java/lang/Object"), (0, u "<init>"), (0, u "()V"), (0, .methodref 8 9), (0, .class_ 10), (0, .nameAndType 11 12), (0, u "java/lang/String"), (0, u "length"), (0, u "()I"), (0, .class_ 14), (0, u "com/example/tranchery/tranchery/journal/Fields"), (0, .methodref 13 16), (0, .nameAndType 17 18), (0, u "isMonth"), (0, u "(Ljava/lang/String;)Z"), (0, .methodref 8 20), (0, .nameAndType 21 22), (0, u "charAt"), (0, u "(I)C"), (0, .methodref 13 24), (0, .nameAndType 25 26), (0, u "isDigits"), (0, u "(Ljava/lang/String;II)Z"), (9, .methodref 13 37), (0, .nameAndType 38 39), (0, u "number"), (0, u "(Ljava/lang/String;II)I"), (0, .methodref 41 42), (0, .class_ 43), (0, .nameAndType 44 45), (0, u "java/time/LocalDate"), (0, u "of"), (0, u "(III)Ljava/time/LocalDate;"), (112, .methodref 13 159), (0, .nameAndType 160 161), (0, u "isDigit"), (0, u "(C)Z"), (57, u "LAST_DATE"), (0, u "Ljava/time/LocalDate;"), (7, u "AFTER_LAST_DATE"), (0, u "Ljava/lang/String;"), (0, u "CENTS"), (0, u "I"), (2, u "RATE_PLACES"), (1, u "YEAR_END"), (1, u "MONTH_END"), (1, u "DAY_END"), (3, u "date"), (0, u "(Ljava/lang/String;)Ljava/time/LocalDate;")] 84

def k9m0 : Method := { name := "<init>", desc := "()V", sig := { parameters := [], returnType := none }, accessFlags := 2, code := none }
def k9c1 : Code := { maxStack := 5, maxLocals := 2, code := prog_34_method_2_code, exceptionTable := #[{ startPc := 52, endPc := 76, handlerPc := 77, catchType := 46 }], attributes := #[] }
def k9m1 : Method := { name := "date", desc := "(Ljava/lang/String;)Ljava/time/LocalDate;", sig := { parameters := [(.object "java/lang/String")], returnType := some (.object "java/time/LocalDate") }, accessFlags := 9, code := some k9c1 }
def k9c2 : Code := { maxStack := 3, maxLocals := 1, code := prog_34_method_16_code, exceptionTable := #[], attributes := #[] }
def k9m2 : Method := { name := "isMonth", desc := "(Ljava/lang/String;)Z", sig := { parameters := [(.object "java/lang/String")], returnType := some .boolean }, accessFlags := 10, code := some k9c2 }
def k9c3 : Code := { maxStack := 2, maxLocals := 4, code := prog_34_method_19_code, exceptionTable := #[], attributes := #[] }
def k9m3 : Method := { name := "isDigits", desc := "(Ljava/lang/String;II)Z", sig := { parameters := [(.object "java/lang/String"), .int, .int], returnType := some .boolean }, accessFlags := 10, code := some k9c3 }
def k9c4 : Code := { maxStack := 2, maxLocals := 1, code := prog_34_method_20_code, exceptionTable := #[], attributes := #[] }
def k9m4 : Method := { name := "isDigit", desc := "(C)Z", sig := { parameters := [.char], returnType := some .boolean }, accessFlags := 10, code := some k9c4 }
def k9c5 : Code := { maxStack := 3, maxLocals := 5, code := prog_34_method_21_code, exceptionTable := #[], attributes := #[] }
def k9m5 : Method := { name := "number", desc := "(Ljava/lang/String;II)I", sig := { parameters := [(.object "java/lang/String"), .int, .int], returnType := some .int }, accessFlags := 10, code := some k9c5 }
/-- com/example/tranchery/tranchery/journal/Fields -/
def k9 : Class := { plain "com/example/tranchery/tranchery/journal/Fields" (some 0) with
  accessFlags := 49
  interfaces := #[]
  cf := some (fileOf pool9 13 #[] #[{ accessFlags := 2, nameIndex := 5, descriptorIndex := 6, attributes := #[] }, { accessFlags := 9, nameIndex := 244, descriptorIndex := 245, attributes := #[] }, { accessFlags := 10, nameIndex := 17, descriptorIndex := 18, attributes := #[] }, { accessFlags := 10, nameIndex := 25, descriptorIndex := 26, attributes := #[] }, { accessFlags := 10, nameIndex := 160, descriptorIndex := 161, attributes := #[] }, { accessFlags := 10, nameIndex := 38, descriptorIndex := 39, attributes := #[] }] 49 2 #[] #[{ accessFlags := 26, nameIndex := 230, descriptorIndex := 231, attributes := #[] }, { accessFlags := 26, nameIndex := 234, descriptorIndex := 231, attributes := #[] }, { accessFlags := 26, nameIndex := 236, descriptorIndex := 231, attributes := #[] }, { accessFlags := 26, nameIndex := 238, descriptorIndex := 231, attributes := #[] }, { accessFlags := 26, nameIndex := 240, descriptorIndex := 231, attributes := #[] }, { accessFlags := 24, nameIndex := 219, descriptorIndex := 220, attributes := #[] }, { accessFlags := 24, nameIndex := 228, descriptorIndex := 229, attributes := #[] }])
  fields := #[{ name := "CENTS", type := .int, accessFlags := 26, slot := 0, constantValue := 0 }, { name := "RATE_PLACES", type := .int, accessFlags := 26, slot := 1, constantValue := 0 }, { name := "YEAR_END", type := .int, accessFlags := 26, slot := 2, constantValue := 0 }, { name := "MONTH_END", type := .int, accessFlags := 26, slot := 3, constantValue := 0 }, { name := "DAY_END", type := .int, accessFlags := 26, slot := 4, constantValue := 0 }, { name := "LAST_DATE", type := (.object "java/time/LocalDate"), accessFlags := 24, slot := 5, constantValue := 0 }, { name := "AFTER_LAST_DATE", type := (.object "java/lang/String"), accessFlags := 24, slot := 6, constantValue := 0 }]
  methods := #[k9m0, k9m1, k9m2, k9m3, k9m4, k9m5]
  instanceTypes := #[]
  staticTypes := #[.int, .int, .int, .int, .int, (.object "java/time/LocalDate"), (.object "java/lang/String")]
  resolved := Array.replicate 330 none
  statics := none }

def pool10 : Array CpInfo := pool [(1, .class_ 2), (0, u "java/lang/String"), (1, .class_ 6), (1, u "java/lang/Object"), (0, u "<init>"), (0, u "()V"), (0, .methodref 1 10), (0, .nameAndType 11 12), (0, u "checkIndex"), (0, u "(II)V"), (1, .class_ 16), (1, u "java/lang/StringLatin1"), (36, u "([BI)C"), (67, u "$assertionsDisabled"), (0, u "Z"), (98, .class_ 223), (1, u "java/lang/StringLatin1$LinesSpliterator"), (28, u "charAt"), (137, .class_ 391), (0, u "java/lang/StringLatin1$CharsSpliterator")] 3

def k10m0 : Method := { name := "<init>", desc := "()V", sig := { parameters := [], returnType := none }, accessFlags := 0, code := none }
def k10c1 : Code := { maxStack := 2, maxLocals := 2, code := jdk_43_method_2_code, exceptionTable := #[], attributes := #[] }
def k10m1 : Method := { name := "charAt", desc := "([BI)C", sig := { parameters := [(.array .byte), .int], returnType := some .char }, accessFlags := 9, code := some k10c1 }
/-- java/lang/StringLatin1 -/
def k10 : Class := { plain "java/lang/StringLatin1" (some 0) with
  accessFlags := 48
  interfaces := #[]
  cf := some (fileOf pool10 14 #[.nestMembers #[390, 221]] #[{ accessFlags := 0, nameIndex := 7, descriptorIndex := 8, attributes := #[] }, { accessFlags := 9, nameIndex := 252, descriptorIndex := 53, attributes := #[] }] 48 4 #[] #[{ accessFlags := 4120, nameIndex := 121, descriptorIndex := 122, attributes := #[] }])
  fields := #[{ name := "$assertionsDisabled", type := .boolean, accessFlags := 4120, slot := 0, constantValue := 0 }]
  methods := #[k10m0, k10m1]
  instanceTypes := #[]
  staticTypes := #[.boolean]
  resolved := Array.replicate 395 none
  statics := none }

def pool11 : Array CpInfo := pool [(2, .class_ 4), (1, u "java/lang/Object"), (0, u "<init>"), (0, u "()V"), (17, .class_ 26), (1, u "jdk/internal/util/Preconditions"), (6, u "checkIndex"), (21, .class_ 56), (0, u "jdk/internal/util/Preconditions$4"), (57, .class_ 115), (0, u "jdk/internal/util/Preconditions$1"), (7, u "SIOOBE_FORMATTER"), (0, u "Ljava/util/function/BiFunction;"), (0, .class_ 126), (0, u "jdk/internal/util/Preconditions$2"), (3, u "AIOOBE_FORMATTER"), (0, .class_ 132), (0, u "jdk/internal/util/Preconditions$3"), (3, u "IOOBE_FORMATTER"), (41, u "(IILjava/util/function/BiFunction;)I")] 15

def k11m0 : Method := { name := "<init>", desc := "()V", sig := { parameters := [], returnType := none }, accessFlags := 1, code := none }
def k11c1 : Code := { maxStack := 3, maxLocals := 3, code := jdk_41_method_11_code, exceptionTable := #[], attributes := #[] }
def k11m1 : Method := { name := "checkIndex", desc := "(IILjava/util/function/BiFunction;)I", sig := { parameters := [.int, .int, (.object "java/util/function/BiFunction")], returnType := some .int }, accessFlags := 9, code := some k11c1 }
/-- jdk/internal/util/Preconditions -/
def k11 : Class := { plain "jdk/internal/util/Preconditions" (some 0) with
  accessFlags := 33
  interfaces := #[]
  cf := some (fileOf pool11 24 #[.nestMembers #[55, 131, 125, 114]] #[{ accessFlags := 1, nameIndex := 5, descriptorIndex := 6, attributes := #[] }, { accessFlags := 9, nameIndex := 33, descriptorIndex := 178, attributes := #[] }] 33 2 #[] #[{ accessFlags := 25, nameIndex := 123, descriptorIndex := 124, attributes := #[] }, { accessFlags := 25, nameIndex := 130, descriptorIndex := 124, attributes := #[] }, { accessFlags := 25, nameIndex := 136, descriptorIndex := 124, attributes := #[] }])
  fields := #[{ name := "SIOOBE_FORMATTER", type := (.object "java/util/function/BiFunction"), accessFlags := 25, slot := 0, constantValue := 0 }, { name := "AIOOBE_FORMATTER", type := (.object "java/util/function/BiFunction"), accessFlags := 25, slot := 1, constantValue := 0 }, { name := "IOOBE_FORMATTER", type := (.object "java/util/function/BiFunction"), accessFlags := 25, slot := 2, constantValue := 0 }]
  methods := #[k11m0, k11m1]
  instanceTypes := #[]
  staticTypes := #[(.object "java/util/function/BiFunction"), (.object "java/util/function/BiFunction"), (.object "java/util/function/BiFunction")]
  resolved := Array.replicate 194 none
  statics := some 1 }

def pool12 : Array CpInfo := pool [(4, .class_ 6), (1, u "java/time/temporal/TemporalAccessor"), (95, .class_ 103), (0, u "java/lang/Object")] 21

/-- java/time/temporal/TemporalAccessor -/
def k12 : Class := { plain "java/time/temporal/TemporalAccessor" (some 0) with
  accessFlags := 1537
  interfaces := #[]
  cf := some (fileOf pool12 4 #[] #[] 1537 102 #[] #[])
  fields := #[]
  methods := #[]
  instanceTypes := #[]
  staticTypes := #[]
  resolved := Array.replicate 125 none
  statics := none }

def pool13 : Array CpInfo := pool [(22, .class_ 24), (1, u "java/time/temporal/Temporal"), (2, .class_ 28), (0, u "java/lang/Object"), (0, .class_ 30), (0, u "java/time/temporal/TemporalAccessor")] 25

/-- java/time/temporal/Temporal -/
def k13 : Class := { plain "java/time/temporal/Temporal" (some 0) with
  accessFlags := 1537
  interfaces := #[12]
  cf := some (fileOf pool13 22 #[] #[] 1537 27 #[29] #[])
  fields := #[]
  methods := #[]
  instanceTypes := #[]
  staticTypes := #[]
  resolved := Array.replicate 56 none
  statics := none }

def pool14 : Array CpInfo := pool [(1, .class_ 2), (0, u "java/time/temporal/TemporalAdjuster"), (0, .class_ 4), (0, u "java/lang/Object")] 6

/-- java/time/temporal/TemporalAdjuster -/
def k14 : Class := { plain "java/time/temporal/TemporalAdjuster" (some 0) with
  accessFlags := 1537
  interfaces := #[]
  cf := some (fileOf pool14 1 #[] #[] 1537 3 #[] #[])
  fields := #[]
  methods := #[]
  instanceTypes := #[]
  staticTypes := #[]
  resolved := Array.replicate 11 none
  statics := none }

def pool15 : Array CpInfo := pool [(9, .class_ 10), (0, u "java/time/chrono/ChronoLocalDate"), (104, .class_ 117), (1, u "java/time/temporal/Temporal"), (134, .class_ 253), (0, u "java/lang/Object"), (23, .class_ 278), (0, u "java/time/temporal/TemporalAdjuster"), (0, .class_ 280), (0, u "java/lang/Comparable")] 86

/-- java/time/chrono/ChronoLocalDate -/
def k15 : Class := { plain "java/time/chrono/ChronoLocalDate" (some 0) with
  accessFlags := 1537
  interfaces := #[13, 14, 3]
  cf := some (fileOf pool15 9 #[] #[] 1537 252 #[115, 277, 279] #[])
  fields := #[]
  methods := #[]
  instanceTypes := #[]
  staticTypes := #[]
  resolved := Array.replicate 367 none
  statics := none }

def pool16 : Array CpInfo := pool [(1, .class_ 2), (0, u "java/time/LocalDate"), (36, .fieldref 40 41), (0, .class_ 42), (0, .nameAndType 43 44), (0, u "java/time/temporal/ChronoField"), (0, u "YEAR"), (0, u "Ljava/time/temporal/ChronoField;"), (0, .methodref 40 46), (0, .nameAndType 47 48), (0, u "checkValidValue"), (0, u "(J)J"), (1, u "month"), (0, .fieldref 40 52), (0, .nameAndType 53 44), (0, u "DAY_OF_MONTH"), (6, .methodref 1 61), (0, .nameAndType 62 63), (0, u "create"), (0, u "(III)Ljava/time/LocalDate;"), (0, .fieldref 40 65), (0, .nameAndType 66 44), (0, u "MONTH_OF_YEAR"), (3, .fieldref 71 72), (0, .class_ 73), (0, .nameAndType 74 75), (0, u "java/time/chrono/IsoChronology"), (0, u "INSTANCE"), (0, u "Ljava/time/chrono/IsoChronology;"), (0, .methodref 71 77), (0, .nameAndType 78 79), (0, u "isLeapYear"), (0, u "(J)Z"), (5, .nameAndType 86 87), (0, u "<init>"), (0, u "()V"), (20, u "of"), (12, .methodref 1 122), (0, .nameAndType 86 123), (0, u "(III)V"), (20, u "()J"), (19, .long 719528), (5, .long 400), (3, .long 365), (1, .long 4), (1, .long 100), (64, .methodref 244 85), (0, .class_ 245), (0, u "java/lang/Object"), (0, .fieldref 1 247), (0, .nameAndType 248 249), (0, u "year"), (0, u "I"), (0, .fieldref 1 251), (0, .nameAndType 50 252), (0, u "S"), (0, .fieldref 1 254), (0, .nameAndType 255 252), (0, u "day"), (1, .class_ 259), (1, u "java/time/chrono/ChronoLocalDate"), (8, u "()Z"), (1, .class_ 272), (1, u "java/time/LocalDate$1"), (24, .methodref 1 298), (0, .nameAndType 78 268), (35, u "toEpochDay"), (24, .long 12), (10, .long 3), (9, .class_ 382), (1, u "java/time/temporal/TemporalAdjuster"), (205, u "MAX"), (0, u "Ljava/time/LocalDate;"), (2, u "MIN"), (61, .long 99), (1, .long 399), (7, .long 367), (1, .long 362), (1, .long 2), (100, u "EPOCH"), (0, .class_ 771), (0, u "java/time/temporal/Temporal"), (0, .class_ 773), (0, u "java/io/Serializable"), (0, u "serialVersionUID"), (0, u "J"), (3, u "DAYS_PER_CYCLE"), (1, u "DAYS_0000_TO_1970")] 206

def k16c0 : Code := { maxStack := 3, maxLocals := 3, code := jdk_2323_method_5_code, exceptionTable := #[], attributes := #[] }
def k16m0 : Method := { name := "of", desc := "(III)Ljava/time/LocalDate;", sig := { parameters := [.int, .int, .int], returnType := some (.object "java/time/LocalDate") }, accessFlags := 9, code := some k16c0 }
def k16c1 : Code := { maxStack := 5, maxLocals := 4, code := jdk_2323_method_12_code, exceptionTable := #[], attributes := #[] }
def k16m1 : Method := { name := "create", desc := "(III)Ljava/time/LocalDate;", sig := { parameters := [.int, .int, .int], returnType := some (.object "java/time/LocalDate") }, accessFlags := 10, code := some k16c1 }
def k16c2 : Code := { maxStack := 2, maxLocals := 4, code := jdk_2323_method_14_code, exceptionTable := #[], attributes := #[] }
def k16m2 : Method := { name := "<init>", desc := "(III)V", sig := { parameters := [.int, .int, .int], returnType := none }, accessFlags := 2, code := some k16c2 }
def k16c3 : Code := { maxStack := 3, maxLocals := 1, code := jdk_2323_method_30_code, exceptionTable := #[], attributes := #[] }
def k16m3 : Method := { name := "isLeapYear", desc := "()Z", sig := { parameters := [], returnType := some .boolean }, accessFlags := 1, code := some k16c3 }
def k16c4 : Code := { maxStack := 8, maxLocals := 7, code := jdk_2323_method_67_code, exceptionTable := #[], attributes := #[] }
def k16m4 : Method := { name := "toEpochDay", desc := "()J", sig := { parameters := [], returnType := some .long }, accessFlags := 1, code := some k16c4 }
/-- java/time/LocalDate -/
def k16 : Class := { plain "java/time/LocalDate" (some 0) with
  accessFlags := 49
  interfaces := #[13, 14, 15, 2]
  cf := some (fileOf pool16 1 #[.nestMembers #[270]] #[{ accessFlags := 9, nameIndex := 108, descriptorIndex := 63, attributes := #[] }, { accessFlags := 10, nameIndex := 62, descriptorIndex := 63, attributes := #[] }, { accessFlags := 2, nameIndex := 86, descriptorIndex := 123, attributes := #[] }, { accessFlags := 1, nameIndex := 78, descriptorIndex := 268, attributes := #[] }, { accessFlags := 1, nameIndex := 334, descriptorIndex := 144, attributes := #[] }] 49 244 #[770, 380, 257, 772] #[{ accessFlags := 25, nameIndex := 592, descriptorIndex := 589, attributes := #[] }, { accessFlags := 25, nameIndex := 588, descriptorIndex := 589, attributes := #[] }, { accessFlags := 25, nameIndex := 769, descriptorIndex := 589, attributes := #[] }, { accessFlags := 26, nameIndex := 774, descriptorIndex := 775, attributes := #[] }, { accessFlags := 26, nameIndex := 779, descriptorIndex := 249, attributes := #[] }, { accessFlags := 24, nameIndex := 781, descriptorIndex := 775, attributes := #[] }, { accessFlags := 18, nameIndex := 248, descriptorIndex := 249, attributes := #[] }, { accessFlags := 18, nameIndex := 50, descriptorIndex := 252, attributes := #[] }, { accessFlags := 18, nameIndex := 255, descriptorIndex := 252, attributes := #[] }])
  fields := #[{ name := "MIN", type := (.object "java/time/LocalDate"), accessFlags := 25, slot := 0, constantValue := 0 }, { name := "MAX", type := (.object "java/time/LocalDate"), accessFlags := 25, slot := 1, constantValue := 0 }, { name := "EPOCH", type := (.object "java/time/LocalDate"), accessFlags := 25, slot := 2, constantValue := 0 }, { name := "serialVersionUID", type := .long, accessFlags := 26, slot := 3, constantValue := 0 }, { name := "DAYS_PER_CYCLE", type := .int, accessFlags := 26, slot := 4, constantValue := 0 }, { name := "DAYS_0000_TO_1970", type := .long, accessFlags := 24, slot := 5, constantValue := 0 }, { name := "year", type := .int, accessFlags := 18, slot := 0, constantValue := 0 }, { name := "month", type := .short, accessFlags := 18, slot := 1, constantValue := 0 }, { name := "day", type := .short, accessFlags := 18, slot := 2, constantValue := 0 }]
  methods := #[k16m0, k16m1, k16m2, k16m3, k16m4]
  instanceTypes := #[.int, .short, .short]
  staticTypes := #[(.object "java/time/LocalDate"), (.object "java/time/LocalDate"), (.object "java/time/LocalDate"), .long, .int, .long]
  resolved := Array.replicate 988 none
  statics := none }

def pool17 : Array CpInfo := pool [(2, .class_ 4), (1, u "java/lang/Enum"), (0, u "name"), (0, u "Ljava/lang/String;"), (2, u "ordinal"), (0, u "I"), (1, .class_ 14), (1, u "java/lang/Object"), (4, u "hash"), (86, .class_ 108), (1, u "java/lang/Enum$EnumDesc"), (2, .class_ 112), (0, u "java/lang/constant/Constable"), (0, .class_ 114), (0, u "java/lang/Comparable"), (0, .class_ 116), (0, u "java/io/Serializable")] 87

/-- java/lang/Enum -/
def k17 : Class := { plain "java/lang/Enum" (some 0) with
  accessFlags := 1057
  interfaces := #[5, 3, 2]
  cf := some (fileOf pool17 2 #[.nestMembers #[106]] #[] 1057 12 #[111, 113, 115] #[{ accessFlags := 18, nameIndex := 5, descriptorIndex := 6, attributes := #[] }, { accessFlags := 18, nameIndex := 9, descriptorIndex := 10, attributes := #[] }, { accessFlags := 2, nameIndex := 19, descriptorIndex := 10, attributes := #[] }])
  fields := #[{ name := "name", type := (.object "java/lang/String"), accessFlags := 18, slot := 0, constantValue := 0 }, { name := "ordinal", type := .int, accessFlags := 18, slot := 1, constantValue := 0 }, { name := "hash", type := .int, accessFlags := 2, slot := 2, constantValue := 0 }]
  methods := #[]
  instanceTypes := #[(.object "java/lang/String"), .int, .int]
  staticTypes := #[]
  resolved := Array.replicate 204 none
  statics := none }

def pool18 : Array CpInfo := pool [(10, .class_ 12), (1, u "java/time/temporal/TemporalField"), (2, .class_ 16), (0, u "java/lang/Object")] 39

/-- java/time/temporal/TemporalField -/
def k18 : Class := { plain "java/time/temporal/TemporalField" (some 0) with
  accessFlags := 1537
  interfaces := #[]
  cf := some (fileOf pool18 10 #[] #[] 1537 15 #[] #[])
  fields := #[]
  methods := #[]
  instanceTypes := #[]
  staticTypes := #[]
  resolved := Array.replicate 56 none
  statics := none }

def pool19 : Array CpInfo := pool [(1, .class_ 2), (0, u "java/time/temporal/ChronoField"), (2, u "NANO_OF_SECOND"), (0, u "Ljava/time/temporal/ChronoField;"), (2, u "NANO_OF_DAY"), (2, u "MICRO_OF_SECOND"), (2, u "MICRO_OF_DAY"), (2, u "MILLI_OF_SECOND"), (2, u "MILLI_OF_DAY"), (2, u "SECOND_OF_MINUTE"), (2, u "SECOND_OF_DAY"), (2, u "MINUTE_OF_HOUR"), (2, u "MINUTE_OF_DAY"), (2, u "HOUR_OF_AMPM"), (2, u "CLOCK_HOUR_OF_AMPM"), (2, u "HOUR_OF_DAY"), (2, u "CLOCK_HOUR_OF_DAY"), (2, u "AMPM_OF_DAY"), (2, u "DAY_OF_WEEK"), (2, u "ALIGNED_DAY_OF_WEEK_IN_MONTH"), (2, u "ALIGNED_DAY_OF_WEEK_IN_YEAR"), (2, u "DAY_OF_MONTH"), (2, u "DAY_OF_YEAR"), (2, u "EPOCH_DAY"), (2, u "ALIGNED_WEEK_OF_MONTH"), (2, u "ALIGNED_WEEK_OF_YEAR"), (2, u "MONTH_OF_YEAR"), (2, u "PROLEPTIC_MONTH"), (2, u "YEAR_OF_ERA"), (2, u "YEAR"), (2, u "ERA"), (2, u "INSTANT_SECONDS"), (2, u "OFFSET_SECONDS"), (2, u "$VALUES"), (0, u "[Ljava/time/temporal/ChronoField;"), (6, .class_ 106), (1, u "java/lang/Enum"), (8, u "name"), (0, u "Ljava/lang/String;"), (2, u "baseUnit"), (0, u "Ljava/time/temporal/TemporalUnit;"), (2, u "rangeUnit"), (0, .fieldref 1 125), (0, .nameAndType 126 127), (0, u "range"), (0, u "Ljava/time/temporal/ValueRange;"), (2, u "displayNameKey"), (59, .methodref 1 191), (0, .nameAndType 126 192), (0, u "()Ljava/time/temporal/ValueRange;"), (0, .methodref 194 195), (0, .class_ 196), (0, .nameAndType 197 198), (0, u "java/time/temporal/ValueRange"), (0, u "checkValidValue"), (0, u "(JLjava/time/temporal/TemporalField;)J"), (256, .class_ 456), (0, u "java/time/temporal/TemporalField"), (27, u "(J)J")] 22

def k19c0 : Code := { maxStack := 1, maxLocals := 1, code := jdk_2395_method_8_code, exceptionTable := #[], attributes := #[] }
def k19m0 : Method := { name := "range", desc := "()Ljava/time/temporal/ValueRange;", sig := { parameters := [], returnType := some (.object "java/time/temporal/ValueRange") }, accessFlags := 1, code := some k19c0 }
def k19c1 : Code := { maxStack := 4, maxLocals := 3, code := jdk_2395_method_11_code, exceptionTable := #[], attributes := #[] }
def k19m1 : Method := { name := "checkValidValue", desc := "(J)J", sig := { parameters := [.long], returnType := some .long }, accessFlags := 1, code := some k19c1 }
/-- java/time/temporal/ChronoField -/
def k19 : Class := { plain "java/time/temporal/ChronoField" (some 17) with
  accessFlags := 16433
  interfaces := #[18]
  cf := some (fileOf pool19 1 #[] #[{ accessFlags := 1, nameIndex := 126, descriptorIndex := 192, attributes := #[] }, { accessFlags := 1, nameIndex := 197, descriptorIndex := 484, attributes := #[] }] 16433 104 #[455] #[{ accessFlags := 16409, nameIndex := 5, descriptorIndex := 6, attributes := #[] }, { accessFlags := 16409, nameIndex := 9, descriptorIndex := 6, attributes := #[] }, { accessFlags := 16409, nameIndex := 12, descriptorIndex := 6, attributes := #[] }, { accessFlags := 16409, nameIndex := 15, descriptorIndex := 6, attributes := #[] }, { accessFlags := 16409, nameIndex := 18, descriptorIndex := 6, attributes := #[] }, { accessFlags := 16409, nameIndex := 21, descriptorIndex := 6, attributes := #[] }, { accessFlags := 16409, nameIndex := 24, descriptorIndex := 6, attributes := #[] }, { accessFlags := 16409, nameIndex := 27, descriptorIndex := 6, attributes := #[] }, { accessFlags := 16409, nameIndex := 30, descriptorIndex := 6, attributes := #[] }, { accessFlags := 16409, nameIndex := 33, descriptorIndex := 6, attributes := #[] }, { accessFlags := 16409, nameIndex := 36, descriptorIndex := 6, attributes := #[] }, { accessFlags := 16409, nameIndex := 39, descriptorIndex := 6, attributes := #[] }, { accessFlags := 16409, nameIndex := 42, descriptorIndex := 6, attributes := #[] }, { accessFlags := 16409, nameIndex := 45, descriptorIndex := 6, attributes := #[] }, { accessFlags := 16409, nameIndex := 48, descriptorIndex := 6, attributes := #[] }, { accessFlags := 16409, nameIndex := 51, descriptorIndex := 6, attributes := #[] }, { accessFlags := 16409, nameIndex := 54, descriptorIndex := 6, attributes := #[] }, { accessFlags := 16409, nameIndex := 57, descriptorIndex := 6, attributes := #[] }, { accessFlags := 16409, nameIndex := 60, descriptorIndex := 6, attributes := #[] }, { accessFlags := 16409, nameIndex := 63, descriptorIndex := 6, attributes := #[] }, { accessFlags := 16409, nameIndex := 66, descriptorIndex := 6, attributes := #[] }, { accessFlags := 16409, nameIndex := 69, descriptorIndex := 6, attributes := #[] }, { accessFlags := 16409, nameIndex := 72, descriptorIndex := 6, attributes := #[] }, { accessFlags := 16409, nameIndex := 75, descriptorIndex := 6, attributes := #[] }, { accessFlags := 16409, nameIndex := 78, descriptorIndex := 6, attributes := #[] }, { accessFlags := 16409, nameIndex := 81, descriptorIndex := 6, attributes := #[] }, { accessFlags := 16409, nameIndex := 84, descriptorIndex := 6, attributes := #[] }, { accessFlags := 16409, nameIndex := 87, descriptorIndex := 6, attributes := #[] }, { accessFlags := 16409, nameIndex := 90, descriptorIndex := 6, attributes := #[] }, { accessFlags := 16409, nameIndex := 93, descriptorIndex := 6, attributes := #[] }, { accessFlags := 18, nameIndex := 115, descriptorIndex := 116, attributes := #[] }, { accessFlags := 18, nameIndex := 119, descriptorIndex := 120, attributes := #[] }, { accessFlags := 18, nameIndex := 123, descriptorIndex := 120, attributes := #[] }, { accessFlags := 18, nameIndex := 126, descriptorIndex := 127, attributes := #[] }, { accessFlags := 18, nameIndex := 130, descriptorIndex := 116, attributes := #[] }, { accessFlags := 4122, nameIndex := 96, descriptorIndex := 97, attributes := #[] }])
  fields := #[{ name := "NANO_OF_SECOND", type := (.object "java/time/temporal/ChronoField"), accessFlags := 16409, slot := 0, constantValue := 0 }, { name := "NANO_OF_DAY", type := (.object "java/time/temporal/ChronoField"), accessFlags := 16409, slot := 1, constantValue := 0 }, { name := "MICRO_OF_SECOND", type := (.object "java/time/temporal/ChronoField"), accessFlags := 16409, slot := 2, constantValue := 0 }, { name := "MICRO_OF_DAY", type := (.object "java/time/temporal/ChronoField"), accessFlags := 16409, slot := 3, constantValue := 0 }, { name := "MILLI_OF_SECOND", type := (.object "java/time/temporal/ChronoField"), accessFlags := 16409, slot := 4, constantValue := 0 }, { name := "MILLI_OF_DAY", type := (.object "java/time/temporal/ChronoField"), accessFlags := 16409, slot := 5, constantValue := 0 }, { name := "SECOND_OF_MINUTE", type := (.object "java/time/temporal/ChronoField"), accessFlags := 16409, slot := 6, constantValue := 0 }, { name := "SECOND_OF_DAY", type := (.object "java/time/temporal/ChronoField"), accessFlags := 16409, slot := 7, constantValue := 0 }, { name := "MINUTE_OF_HOUR", type := (.object "java/time/temporal/ChronoField"), accessFlags := 16409, slot := 8, constantValue := 0 }, { name := "MINUTE_OF_DAY", type := (.object "java/time/temporal/ChronoField"), accessFlags := 16409, slot := 9, constantValue := 0 }, { name := "HOUR_OF_AMPM", type := (.object "java/time/temporal/ChronoField"), accessFlags := 16409, slot := 10, constantValue := 0 }, { name := "CLOCK_HOUR_OF_AMPM", type := (.object "java/time/temporal/ChronoField"), accessFlags := 16409, slot := 11, constantValue := 0 }, { name := "HOUR_OF_DAY", type := (.object "java/time/temporal/ChronoField"), accessFlags := 16409, slot := 12, constantValue := 0 }, { name := "CLOCK_HOUR_OF_DAY", type := (.object "java/time/temporal/ChronoField"), accessFlags := 16409, slot := 13, constantValue := 0 }, { name := "AMPM_OF_DAY", type := (.object "java/time/temporal/ChronoField"), accessFlags := 16409, slot := 14, constantValue := 0 }, { name := "DAY_OF_WEEK", type := (.object "java/time/temporal/ChronoField"), accessFlags := 16409, slot := 15, constantValue := 0 }, { name := "ALIGNED_DAY_OF_WEEK_IN_MONTH", type := (.object "java/time/temporal/ChronoField"), accessFlags := 16409, slot := 16, constantValue := 0 }, { name := "ALIGNED_DAY_OF_WEEK_IN_YEAR", type := (.object "java/time/temporal/ChronoField"), accessFlags := 16409, slot := 17, constantValue := 0 }, { name := "DAY_OF_MONTH", type := (.object "java/time/temporal/ChronoField"), accessFlags := 16409, slot := 18, constantValue := 0 }, { name := "DAY_OF_YEAR", type := (.object "java/time/temporal/ChronoField"), accessFlags := 16409, slot := 19, constantValue := 0 }, { name := "EPOCH_DAY", type := (.object "java/time/temporal/ChronoField"), accessFlags := 16409, slot := 20, constantValue := 0 }, { name := "ALIGNED_WEEK_OF_MONTH", type := (.object "java/time/temporal/ChronoField"), accessFlags := 16409, slot := 21, constantValue := 0 }, { name := "ALIGNED_WEEK_OF_YEAR", type := (.object "java/time/temporal/ChronoField"), accessFlags := 16409, slot := 22, constantValue := 0 }, { name := "MONTH_OF_YEAR", type := (.object "java/time/temporal/ChronoField"), accessFlags := 16409, slot := 23, constantValue := 0 }, { name := "PROLEPTIC_MONTH", type := (.object "java/time/temporal/ChronoField"), accessFlags := 16409, slot := 24, constantValue := 0 }, { name := "YEAR_OF_ERA", type := (.object "java/time/temporal/ChronoField"), accessFlags := 16409, slot := 25, constantValue := 0 }, { name := "YEAR", type := (.object "java/time/temporal/ChronoField"), accessFlags := 16409, slot := 26, constantValue := 0 }, { name := "ERA", type := (.object "java/time/temporal/ChronoField"), accessFlags := 16409, slot := 27, constantValue := 0 }, { name := "INSTANT_SECONDS", type := (.object "java/time/temporal/ChronoField"), accessFlags := 16409, slot := 28, constantValue := 0 }, { name := "OFFSET_SECONDS", type := (.object "java/time/temporal/ChronoField"), accessFlags := 16409, slot := 29, constantValue := 0 }, { name := "name", type := (.object "java/lang/String"), accessFlags := 18, slot := 3, constantValue := 0 }, { name := "baseUnit", type := (.object "java/time/temporal/TemporalUnit"), accessFlags := 18, slot := 4, constantValue := 0 }, { name := "rangeUnit", type := (.object "java/time/temporal/TemporalUnit"), accessFlags := 18, slot := 5, constantValue := 0 }, { name := "range", type := (.object "java/time/temporal/ValueRange"), accessFlags := 18, slot := 6, constantValue := 0 }, { name := "displayNameKey", type := (.object "java/lang/String"), accessFlags := 18, slot := 7, constantValue := 0 }, { name := "$VALUES", type := (.array (.object "java/time/temporal/ChronoField")), accessFlags := 4122, slot := 30, constantValue := 0 }]
  methods := #[k19m0, k19m1]
  instanceTypes := #[(.object "java/lang/String"), .int, .int, (.object "java/lang/String"), (.object "java/time/temporal/TemporalUnit"), (.object "java/time/temporal/TemporalUnit"), (.object "java/time/temporal/ValueRange"), (.object "java/lang/String")]
  staticTypes := #[(.object "java/time/temporal/ChronoField"), (.object "java/time/temporal/ChronoField"), (.object "java/time/temporal/ChronoField"), (.object "java/time/temporal/ChronoField"), (.object "java/time/temporal/ChronoField"), (.object "java/time/temporal/ChronoField"), (.object "java/time/temporal/ChronoField"), (.object "java/time/temporal/ChronoField"), (.object "java/time/temporal/ChronoField"), (.object "java/time/temporal/ChronoField"), (.object "java/time/temporal/ChronoField"), (.object "java/time/temporal/ChronoField"), (.object "java/time/temporal/ChronoField"), (.object "java/time/temporal/ChronoField"), (.object "java/time/temporal/ChronoField"), (.object "java/time/temporal/ChronoField"), (.object "java/time/temporal/ChronoField"), (.object "java/time/temporal/ChronoField"), (.object "java/time/temporal/ChronoField"), (.object "java/time/temporal/ChronoField"), (.object "java/time/temporal/ChronoField"), (.object "java/time/temporal/ChronoField"), (.object "java/time/temporal/ChronoField"), (.object "java/time/temporal/ChronoField"), (.object "java/time/temporal/ChronoField"), (.object "java/time/temporal/ChronoField"), (.object "java/time/temporal/ChronoField"), (.object "java/time/temporal/ChronoField"), (.object "java/time/temporal/ChronoField"), (.object "java/time/temporal/ChronoField"), (.array (.object "java/time/temporal/ChronoField"))]
  resolved := Array.replicate 507 none
  statics := some 2 }

def pool20 : Array CpInfo := pool [(9, .class_ 10), (0, u "java/time/temporal/ValueRange"), (18, .class_ 31), (1, u "java/lang/Object"), (1, .fieldref 9 34), (0, .nameAndType 35 36), (0, u "minSmallest"), (0, u "J"), (2, u "minLargest"), (2, u "maxSmallest"), (0, .fieldref 9 44), (0, .nameAndType 45 36), (0, u "maxLargest"), (0, .methodref 9 47), (0, .nameAndType 48 49), (0, u "getMinimum"), (0, u "()J"), (4, .methodref 9 55), (0, .nameAndType 56 49), (0, u "getMaximum"), (6, .methodref 9 64), (0, .nameAndType 65 66), (0, u "isValidValue"), (0, u "(J)Z"), (54, .class_ 122), (0, u "java/io/Serializable"), (0, u "serialVersionUID"), (17, u "checkValidValue"), (0, u "(JLjava/time/temporal/TemporalField;)J")] 24

def k20c0 : Code := { maxStack := 2, maxLocals := 1, code := jdk_2423_method_6_code, exceptionTable := #[], attributes := #[] }
def k20m0 : Method := { name := "getMinimum", desc := "()J", sig := { parameters := [], returnType := some .long }, accessFlags := 1, code := some k20c0 }
def k20c1 : Code := { maxStack := 2, maxLocals := 1, code := jdk_2423_method_9_code, exceptionTable := #[], attributes := #[] }
def k20m1 : Method := { name := "getMaximum", desc := "()J", sig := { parameters := [], returnType := some .long }, accessFlags := 1, code := some k20c1 }
def k20c2 : Code := { maxStack := 4, maxLocals := 3, code := jdk_2423_method_11_code, exceptionTable := #[], attributes := #[] }
def k20m2 : Method := { name := "isValidValue", desc := "(J)Z", sig := { parameters := [.long], returnType := some .boolean }, accessFlags := 1, code := some k20c2 }
def k20c3 : Code := { maxStack := 6, maxLocals := 4, code := jdk_2423_method_13_code, exceptionTable := #[], attributes := #[] }
def k20m3 : Method := { name := "checkValidValue", desc := "(JLjava/time/temporal/TemporalField;)J", sig := { parameters := [.long, (.object "java/time/temporal/TemporalField")], returnType := some .long }, accessFlags := 1, code := some k20c3 }
/-- java/time/temporal/ValueRange -/
def k20 : Class := { plain "java/time/temporal/ValueRange" (some 0) with
  accessFlags := 49
  interfaces := #[2]
  cf := some (fileOf pool20 9 #[] #[{ accessFlags := 1, nameIndex := 48, descriptorIndex := 49, attributes := #[] }, { accessFlags := 1, nameIndex := 56, descriptorIndex := 49, attributes := #[] }, { accessFlags := 1, nameIndex := 65, descriptorIndex := 66, attributes := #[] }, { accessFlags := 1, nameIndex := 141, descriptorIndex := 142, attributes := #[] }] 49 29 #[121] #[{ accessFlags := 26, nameIndex := 123, descriptorIndex := 36, attributes := #[] }, { accessFlags := 18, nameIndex := 35, descriptorIndex := 36, attributes := #[] }, { accessFlags := 18, nameIndex := 39, descriptorIndex := 36, attributes := #[] }, { accessFlags := 18, nameIndex := 42, descriptorIndex := 36, attributes := #[] }, { accessFlags := 18, nameIndex := 45, descriptorIndex := 36, attributes := #[] }])
  fields := #[{ name := "serialVersionUID", type := .long, accessFlags := 26, slot := 0, constantValue := 0 }, { name := "minSmallest", type := .long, accessFlags := 18, slot := 0, constantValue := 0 }, { name := "minLargest", type := .long, accessFlags := 18, slot := 1, constantValue := 0 }, { name := "maxSmallest", type := .long, accessFlags := 18, slot := 2, constantValue := 0 }, { name := "maxLargest", type := .long, accessFlags := 18, slot := 3, constantValue := 0 }]
  methods := #[k20m0, k20m1, k20m2, k20m3]
  instanceTypes := #[.long, .long, .long, .long]
  staticTypes := #[.long]
  resolved := Array.replicate 167 none
  statics := none }

def pool21 : Array CpInfo := pool [(1, .methodref 2 3), (0, .class_ 4), (0, .nameAndType 5 6), (0, u "java/lang/Object"), (0, u "<init>"), (0, u "()V"), (0, .class_ 8), (0, u "java/lang/Record")] 13

def k21c0 : Code := { maxStack := 1, maxLocals := 1, code := jdk_30_method_1_code, exceptionTable := #[], attributes := #[] }
def k21m0 : Method := { name := "<init>", desc := "()V", sig := { parameters := [], returnType := none }, accessFlags := 4, code := some k21c0 }
/-- java/lang/Record -/
def k21 : Class := { plain "java/lang/Record" (some 0) with
  accessFlags := 1057
  interfaces := #[]
  cf := some (fileOf pool21 7 #[] #[{ accessFlags := 4, nameIndex := 5, descriptorIndex := 6, attributes := #[] }] 1057 2 #[] #[])
  fields := #[]
  methods := #[k21m0]
  instanceTypes := #[]
  staticTypes := #[]
  resolved := Array.replicate 22 none
  statics := none }

def pool22 : Array CpInfo := pool [(1, .methodref 2 3), (0, .class_ 4), (0, .nameAndType 5 6), (0, u "java/lang/Record"), (0, u "<init>"), (0, u "()V"), (0, .fieldref 8 9), (0, .class_ 10), (0, .nameAndType 11 12), (0, u "com/example/tranchery/tranchery/journal/BusinessDays"), (0, u "calendar"), (0, u "Lcom/example/tranchery/tranchery/journal/BusinessCalendar;"), (0, .fieldref 8 14), (0, .nameAndType 15 16), (0, u "roll"), (0, u "Lcom/example/tranchery/tranchery/journal/Roll;"), (34, u "(Lcom/example/tranchery/tranchery/journal/BusinessCalendar;Lcom/example/tranchery/tranchery/journal/Roll;)V")] 34

def k22c0 : Code := { maxStack := 2, maxLocals := 3, code := prog_23_method_1_code, exceptionTable := #[], attributes := #[] }
def k22m0 : Method := { name := "<init>", desc := "(Lcom/example/tranchery/tranchery/journal/BusinessCalendar;Lcom/example/tranchery/tranchery/journal/Roll;)V", sig := { parameters := [(.object "com/example/tranchery/tranchery/journal/BusinessCalendar"), (.object "com/example/tranchery/tranchery/journal/Roll")], returnType := none }, accessFlags := 0, code := some k22c0 }
/-- com/example/tranchery/tranchery/journal/BusinessDays -/
def k22 : Class := { plain "com/example/tranchery/tranchery/journal/BusinessDays" (some 21) with
  accessFlags := 48
  interfaces := #[]
  cf := some (fileOf pool22 8 #[] #[{ accessFlags := 0, nameIndex := 5, descriptorIndex := 51, attributes := #[] }] 48 2 #[] #[{ accessFlags := 18, nameIndex := 11, descriptorIndex := 12, attributes := #[] }, { accessFlags := 18, nameIndex := 15, descriptorIndex := 16, attributes := #[] }])
  fields := #[{ name := "calendar", type := (.object "com/example/tranchery/tranchery/journal/BusinessCalendar"), accessFlags := 18, slot := 0, constantValue := 0 }, { name := "roll", type := (.object "com/example/tranchery/tranchery/journal/Roll"), accessFlags := 18, slot := 1, constantValue := 0 }]
  methods := #[k22m0]
  instanceTypes := #[(.object "com/example/tranchery/tranchery/journal/BusinessCalendar"), (.object "com/example/tranchery/tranchery/journal/Roll")]
  staticTypes := #[]
  resolved := Array.replicate 86 none
  statics := none }

def pool23 : Array CpInfo := pool [(1, .methodref 2 3), (0, .class_ 4), (0, .nameAndType 5 6), (0, u "java/lang/Object"), (0, u "<init>"), (0, u "()V"), (0, .class_ 8), (0, u "com/example/tranchery/tranchery/journal/InstallmentQueue"), (0, .methodref 7 3), (0, .fieldref 11 12), (0, .class_ 13), (0, .nameAndType 14 15), (0, u "com/example/tranchery/tranchery/journal/Schedule"), (0, u "waiting"), (0, u "Lcom/example/tranchery/tranchery/journal/InstallmentQueue;"), (0, .class_ 17), (0, u "com/example/tranchery/tranchery/journal/Timeline"), (0, .methodref 16 3), (0, .fieldref 11 20), (0, .nameAndType 21 22), (0, u "rules"), (0, u "Lcom/example/tranchery/tranchery/journal/Timeline;"), (0, .methodref 16 24), (0, .nameAndType 25 26), (0, u "size"), (0, u "()I"), (0, .methodref 16 28), (0, .nameAndType 29 30), (0, u "set"), (0, u "(Ljava/time/LocalDate;Ljava/lang/Object;)V"), (0, .methodref 7 32), (0, .nameAndType 33 34), (0, u "removeAll"), (0, u "()Ljava/util/List;"), (0, .methodref 11 36), (0, .nameAndType 37 38), (0, u "refile"), (0, u "(Ljava/util/List;)V"), (0, .methodref 11 40), (0, .nameAndType 41 6), (0, u "fileMaturity"), (10, .fieldref 11 53), (0, .nameAndType 54 55), (0, u "maturityDay"), (0, u "Ljava/time/LocalDate;"), (19, u "()Z"), (7, .fieldref 11 84), (0, .nameAndType 85 55), (0, u "maturity"), (35, .class_ 123), (1, u "java/util/List"), (4, u "NOTHING"), (0, u "Ljava/math/BigDecimal;"), (18, .interfaceMethodref 121 149), (0, .nameAndType 150 151), (0, u "iterator"), (0, u "()Ljava/util/Iterator;"), (13, .interfaceMethodref 166 167), (0, .class_ 168), (0, .nameAndType 169 75), (0, u "java/util/Iterator"), (0, u "hasNext"), (68, u "hasRule"), (1, u "setRule"), (0, u "(Ljava/time/LocalDate;Lcom/example/tranchery/tranchery/journal/BusinessDays;)V")] 56

def k23c0 : Code := { maxStack := 3, maxLocals := 1, code := prog_85_method_1_code, exceptionTable := #[], attributes := #[] }
def k23m0 : Method := { name := "<init>", desc := "()V", sig := { parameters := [], returnType := none }, accessFlags := 0, code := some k23c0 }
def k23c1 : Code := { maxStack := 1, maxLocals := 1, code := prog_85_method_2_code, exceptionTable := #[], attributes := #[] }
def k23m1 : Method := { name := "hasRule", desc := "()Z", sig := { parameters := [], returnType := some .boolean }, accessFlags := 0, code := some k23c1 }
def k23c2 : Code := { maxStack := 3, maxLocals := 3, code := prog_85_method_3_code, exceptionTable := #[], attributes := #[] }
def k23m2 : Method := { name := "setRule", desc := "(Ljava/time/LocalDate;Lcom/example/tranchery/tranchery/journal/BusinessDays;)V", sig := { parameters := [(.object "java/time/LocalDate"), (.object "com/example/tranchery/tranchery/journal/BusinessDays")], returnType := none }, accessFlags := 0, code := some k23c2 }
def k23c3 : Code := { maxStack := 4, maxLocals := 4, code := prog_85_method_15_code, exceptionTable := #[], attributes := #[] }
def k23m3 : Method := { name := "refile", desc := "(Ljava/util/List;)V", sig := { parameters := [(.object "java/util/List")], returnType := none }, accessFlags := 2, code := some k23c3 }
def k23c4 : Code := { maxStack := 3, maxLocals := 1, code := prog_85_method_16_code, exceptionTable := #[], attributes := #[] }
def k23m4 : Method := { name := "fileMaturity", desc := "()V", sig := { parameters := [], returnType := none }, accessFlags := 2, code := some k23c4 }
/-- com/example/tranchery/tranchery/journal/Schedule -/
def k23 : Class := { plain "com/example/tranchery/tranchery/journal/Schedule" (some 0) with
  accessFlags := 48
  interfaces := #[]
  cf := some (fileOf pool23 11 #[] #[{ accessFlags := 0, nameIndex := 5, descriptorIndex := 6, attributes := #[] }, { accessFlags := 0, nameIndex := 238, descriptorIndex := 75, attributes := #[] }, { accessFlags := 0, nameIndex := 240, descriptorIndex := 241, attributes := #[] }, { accessFlags := 2, nameIndex := 37, descriptorIndex := 38, attributes := #[] }, { accessFlags := 2, nameIndex := 41, descriptorIndex := 6, attributes := #[] }] 48 2 #[] #[{ accessFlags := 26, nameIndex := 128, descriptorIndex := 129, attributes := #[] }, { accessFlags := 18, nameIndex := 14, descriptorIndex := 15, attributes := #[] }, { accessFlags := 18, nameIndex := 21, descriptorIndex := 22, attributes := #[] }, { accessFlags := 2, nameIndex := 85, descriptorIndex := 55, attributes := #[] }, { accessFlags := 2, nameIndex := 54, descriptorIndex := 55, attributes := #[] }])
  fields := #[{ name := "NOTHING", type := (.object "java/math/BigDecimal"), accessFlags := 26, slot := 0, constantValue := 0 }, { name := "waiting", type := (.object "com/example/tranchery/tranchery/journal/InstallmentQueue"), accessFlags := 18, slot := 0, constantValue := 0 }, { name := "rules", type := (.object "com/example/tranchery/tranchery/journal/Timeline"), accessFlags := 18, slot := 1, constantValue := 0 }, { name := "maturity", type := (.object "java/time/LocalDate"), accessFlags := 2, slot := 2, constantValue := 0 }, { name := "maturityDay", type := (.object "java/time/LocalDate"), accessFlags := 2, slot := 3, constantValue := 0 }]
  methods := #[k23m0, k23m1, k23m2, k23m3, k23m4]
  instanceTypes := #[(.object "com/example/tranchery/tranchery/journal/InstallmentQueue"), (.object "com/example/tranchery/tranchery/journal/Timeline"), (.object "java/time/LocalDate"), (.object "java/time/LocalDate")]
  staticTypes := #[(.object "java/math/BigDecimal")]
  resolved := Array.replicate 298 none
  statics := none }

def pool24 : Array CpInfo := pool [(1, .methodref 2 3), (0, .class_ 4), (0, .nameAndType 5 6), (0, u "java/lang/Object"), (0, u "<init>"), (0, u "()V"), (0, .fieldref 8 9), (0, .class_ 10), (0, .nameAndType 11 12), (0, u "com/example/tranchery/tranchery/journal/InstallmentQueue"), (0, u "NO_RUNS"), (0, u "[Lcom/example/tranchery/tranchery/journal/InstallmentQueue$Run;"), (0, .fieldref 8 14), (0, .nameAndType 15 12), (0, u "runs"), (0, .fieldref 8 17), (0, .nameAndType 18 19), (0, u "NO_KEYS"), (0, u "[J"), (0, .fieldref 8 21), (0, .nameAndType 22 19), (0, u "keys"), (0, .fieldref 8 24), (0, .nameAndType 25 26), (0, u "count"), (0, u "I"), (5, .class_ 34), (1, u "com/example/tranchery/tranchery/journal/InstallmentQueue$Run"), (14, u "open"), (0, u "Lcom/example/tranchery/tranchery/journal/InstallmentQueue$Run;"), (2, u "started"), (0, u "J"), (18, .interfaceMethodref 74 75), (0, .class_ 76), (0, .nameAndType 77 78), (0, u "java/util/List"), (0, u "of"), (0, u "()Ljava/util/List;"), (80, u "FIRST_CAPACITY"), (2, u "FIRST_RUNS"), (15, u "removeAll"), (5, .class_ 185), (0, u "com/example/tranchery/tranchery/journal/InstallmentQueue$Run$1")] 2

def k24c0 : Code := { maxStack := 2, maxLocals := 1, code := prog_47_method_1_code, exceptionTable := #[], attributes := #[] }
def k24m0 : Method := { name := "<init>", desc := "()V", sig := { parameters := [], returnType := none }, accessFlags := 0, code := some k24c0 }
def k24c1 : Code := { maxStack := 1, maxLocals := 2, code := prog_47_method_10_code, exceptionTable := #[], attributes := #[] }
def k24m1 : Method := { name := "removeAll", desc := "()Ljava/util/List;", sig := { parameters := [], returnType := some (.object "java/util/List") }, accessFlags := 0, code := some k24c1 }
/-- com/example/tranchery/tranchery/journal/InstallmentQueue -/
def k24 : Class := { plain "com/example/tranchery/tranchery/journal/InstallmentQueue" (some 0) with
  accessFlags := 48
  interfaces := #[]
  cf := some (fileOf pool24 8 #[.nestMembers #[32, 184]] #[{ accessFlags := 0, nameIndex := 5, descriptorIndex := 6, attributes := #[] }, { accessFlags := 0, nameIndex := 178, descriptorIndex := 78, attributes := #[] }] 48 2 #[] #[{ accessFlags := 26, nameIndex := 159, descriptorIndex := 26, attributes := #[] }, { accessFlags := 26, nameIndex := 162, descriptorIndex := 26, attributes := #[] }, { accessFlags := 26, nameIndex := 11, descriptorIndex := 12, attributes := #[] }, { accessFlags := 26, nameIndex := 18, descriptorIndex := 19, attributes := #[] }, { accessFlags := 2, nameIndex := 15, descriptorIndex := 12, attributes := #[] }, { accessFlags := 2, nameIndex := 22, descriptorIndex := 19, attributes := #[] }, { accessFlags := 2, nameIndex := 25, descriptorIndex := 26, attributes := #[] }, { accessFlags := 2, nameIndex := 49, descriptorIndex := 50, attributes := #[] }, { accessFlags := 2, nameIndex := 53, descriptorIndex := 54, attributes := #[] }])
  fields := #[{ name := "FIRST_CAPACITY", type := .int, accessFlags := 26, slot := 0, constantValue := 0 }, { name := "FIRST_RUNS", type := .int, accessFlags := 26, slot := 1, constantValue := 0 }, { name := "NO_RUNS", type := (.array (.object "com/example/tranchery/tranchery/journal/InstallmentQueue$Run")), accessFlags := 26, slot := 2, constantValue := 0 }, { name := "NO_KEYS", type := (.array .long), accessFlags := 26, slot := 3, constantValue := 0 }, { name := "runs", type := (.array (.object "com/example/tranchery/tranchery/journal/InstallmentQueue$Run")), accessFlags := 2, slot := 0, constantValue := 0 }, { name := "keys", type := (.array .long), accessFlags := 2, slot := 1, constantValue := 0 }, { name := "count", type := .int, accessFlags := 2, slot := 2, constantValue := 0 }, { name := "open", type := (.object "com/example/tranchery/tranchery/journal/InstallmentQueue$Run"), accessFlags := 2, slot := 3, constantValue := 0 }, { name := "started", type := .long, accessFlags := 2, slot := 4, constantValue := 0 }]
  methods := #[k24m0, k24m1]
  instanceTypes := #[(.array (.object "com/example/tranchery/tranchery/journal/InstallmentQueue$Run")), (.array .long), .int, (.object "com/example/tranchery/tranchery/journal/InstallmentQueue$Run"), .long]
  staticTypes := #[.int, .int, (.array (.object "com/example/tranchery/tranchery/journal/InstallmentQueue$Run")), (.array .long)]
  resolved := Array.replicate 188 none
  statics := some 3 }

def pool25 : Array CpInfo := pool [(1, .methodref 2 3), (0, .class_ 4), (0, .nameAndType 5 6), (0, u "java/lang/Object"), (0, u "<init>"), (0, u "()V"), (0, .class_ 8), (0, u "com/example/tranchery/tranchery/journal/Timeline"), (0, .fieldref 7 10), (0, .nameAndType 11 12), (0, u "days"), (0, u "[J"), (0, .class_ 14), (0, u "java/time/LocalDate"), (0, .fieldref 7 16), (0, .nameAndType 17 18), (0, u "firstDays"), (0, u "[Ljava/time/LocalDate;"), (0, .fieldref 7 20), (0, .nameAndType 21 22), (0, u "values"), (0, u "[Ljava/lang/Object;"), (0, .methodref 13 24), (0, .nameAndType 25 26), (0, u "toEpochDay"), (0, u "()J"), (0, .fieldref 7 28), (0, .nameAndType 29 30), (0, u "size"), (0, u "I"), (43, u "FIRST_CAPACITY"), (4, u "set"), (0, u "(Ljava/time/LocalDate;Ljava/lang/Object;)V"), (11, u "()I")] 22

def k25c0 : Code := { maxStack := 2, maxLocals := 1, code := prog_91_method_1_code, exceptionTable := #[], attributes := #[] }
def k25m0 : Method := { name := "<init>", desc := "()V", sig := { parameters := [], returnType := none }, accessFlags := 0, code := some k25c0 }
def k25c1 : Code := { maxStack := 6, maxLocals := 5, code := prog_91_method_2_code, exceptionTable := #[], attributes := #[] }
def k25m1 : Method := { name := "set", desc := "(Ljava/time/LocalDate;Ljava/lang/Object;)V", sig := { parameters := [(.object "java/time/LocalDate"), (.object "java/lang/Object")], returnType := none }, accessFlags := 0, code := some k25c1 }
def k25c2 : Code := { maxStack := 1, maxLocals := 1, code := prog_91_method_7_code, exceptionTable := #[], attributes := #[] }
def k25m2 : Method := { name := "size", desc := "()I", sig := { parameters := [], returnType := some .int }, accessFlags := 0, code := some k25c2 }
/-- com/example/tranchery/tranchery/journal/Timeline -/
def k25 : Class := { plain "com/example/tranchery/tranchery/journal/Timeline" (some 0) with
  accessFlags := 48
  interfaces := #[]
  cf := some (fileOf pool25 7 #[] #[{ accessFlags := 0, nameIndex := 5, descriptorIndex := 6, attributes := #[] }, { accessFlags := 0, nameIndex := 79, descriptorIndex := 80, attributes := #[] }, { accessFlags := 0, nameIndex := 29, descriptorIndex := 92, attributes := #[] }] 48 2 #[] #[{ accessFlags := 26, nameIndex := 74, descriptorIndex := 30, attributes := #[] }, { accessFlags := 2, nameIndex := 11, descriptorIndex := 12, attributes := #[] }, { accessFlags := 2, nameIndex := 17, descriptorIndex := 18, attributes := #[] }, { accessFlags := 2, nameIndex := 21, descriptorIndex := 22, attributes := #[] }, { accessFlags := 2, nameIndex := 29, descriptorIndex := 30, attributes := #[] }])
  fields := #[{ name := "FIRST_CAPACITY", type := .int, accessFlags := 26, slot := 0, constantValue := 0 }, { name := "days", type := (.array .long), accessFlags := 2, slot := 0, constantValue := 0 }, { name := "firstDays", type := (.array (.object "java/time/LocalDate")), accessFlags := 2, slot := 1, constantValue := 0 }, { name := "values", type := (.array (.object "java/lang/Object")), accessFlags := 2, slot := 2, constantValue := 0 }, { name := "size", type := .int, accessFlags := 2, slot := 3, constantValue := 0 }]
  methods := #[k25m0, k25m1, k25m2]
  instanceTypes := #[(.array .long), (.array (.object "java/time/LocalDate")), (.array (.object "java/lang/Object")), .int]
  staticTypes := #[.int]
  resolved := Array.replicate 115 none
  statics := none }

def pool26 : Array CpInfo := pool [(21, .class_ 22), (0, u "java/time/chrono/Chronology"), (138, .class_ 162), (0, u "java/time/chrono/Chronology$1"), (74, .class_ 238), (0, u "java/lang/Object"), (0, .class_ 240), (0, u "java/lang/Comparable")] 86

/-- java/time/chrono/Chronology -/
def k26 : Class := { plain "java/time/chrono/Chronology" (some 0) with
  accessFlags := 1537
  interfaces := #[3]
  cf := some (fileOf pool26 21 #[.nestMembers #[161]] #[] 1537 237 #[239] #[])
  fields := #[]
  methods := #[]
  instanceTypes := #[]
  staticTypes := #[]
  resolved := Array.replicate 327 none
  statics := none }

def pool27 : Array CpInfo := pool [(2, .class_ 4), (1, u "java/time/chrono/Chronology"), (3, .class_ 10), (1, u "java/time/chrono/AbstractChronology"), (4, u "CHRONOS_BY_ID"), (0, u "Ljava/util/concurrent/ConcurrentHashMap;"), (11, u "CHRONOS_BY_TYPE"), (69, u "<init>"), (0, u "()V"), (71, .class_ 172), (0, u "java/lang/Object")] 383

def k27m0 : Method := { name := "<init>", desc := "()V", sig := { parameters := [], returnType := none }, accessFlags := 4, code := none }
/-- java/time/chrono/AbstractChronology -/
def k27 : Class := { plain "java/time/chrono/AbstractChronology" (some 0) with
  accessFlags := 1057
  interfaces := #[26]
  cf := some (fileOf pool27 8 #[] #[{ accessFlags := 4, nameIndex := 98, descriptorIndex := 99, attributes := #[] }] 1057 171 #[2] #[{ accessFlags := 26, nameIndex := 15, descriptorIndex := 16, attributes := #[] }, { accessFlags := 26, nameIndex := 28, descriptorIndex := 16, attributes := #[] }])
  fields := #[{ name := "CHRONOS_BY_ID", type := (.object "java/util/concurrent/ConcurrentHashMap"), accessFlags := 26, slot := 0, constantValue := 0 }, { name := "CHRONOS_BY_TYPE", type := (.object "java/util/concurrent/ConcurrentHashMap"), accessFlags := 26, slot := 1, constantValue := 0 }]
  methods := #[k27m0]
  instanceTypes := #[]
  staticTypes := #[(.object "java/util/concurrent/ConcurrentHashMap"), (.object "java/util/concurrent/ConcurrentHashMap")]
  resolved := Array.replicate 556 none
  statics := none }

def pool28 : Array CpInfo := pool [(2, .class_ 4), (1, u "java/time/chrono/AbstractChronology"), (0, u "<init>"), (0, u "()V"), (5, .class_ 14), (1, u "java/time/chrono/IsoChronology"), (102, .long 3), (5, .long 100), (3, .long 400), (3, u "INSTANCE"), (0, u "Ljava/time/chrono/IsoChronology;"), (2, u "isLeapYear"), (0, u "(J)Z"), (228, .class_ 366), (0, u "java/io/Serializable"), (0, u "serialVersionUID"), (0, u "J"), (3, u "DAYS_0000_TO_1970")] 81

def k28m0 : Method := { name := "<init>", desc := "()V", sig := { parameters := [], returnType := none }, accessFlags := 2, code := none }
def k28c1 : Code := { maxStack := 4, maxLocals := 3, code := jdk_2369_method_18_code, exceptionTable := #[], attributes := #[] }
def k28m1 : Method := { name := "isLeapYear", desc := "(J)Z", sig := { parameters := [.long], returnType := some .boolean }, accessFlags := 1, code := some k28c1 }
/-- java/time/chrono/IsoChronology -/
def k28 : Class := { plain "java/time/chrono/IsoChronology" (some 27) with
  accessFlags := 49
  interfaces := #[2]
  cf := some (fileOf pool28 12 #[] #[{ accessFlags := 2, nameIndex := 5, descriptorIndex := 6, attributes := #[] }, { accessFlags := 1, nameIndex := 135, descriptorIndex := 136, attributes := #[] }] 49 2 #[365] #[{ accessFlags := 25, nameIndex := 131, descriptorIndex := 132, attributes := #[] }, { accessFlags := 26, nameIndex := 367, descriptorIndex := 368, attributes := #[] }, { accessFlags := 26, nameIndex := 372, descriptorIndex := 368, attributes := #[] }])
  fields := #[{ name := "INSTANCE", type := (.object "java/time/chrono/IsoChronology"), accessFlags := 25, slot := 0, constantValue := 0 }, { name := "serialVersionUID", type := .long, accessFlags := 26, slot := 1, constantValue := 0 }, { name := "DAYS_0000_TO_1970", type := .long, accessFlags := 26, slot := 2, constantValue := 0 }]
  methods := #[k28m0, k28m1]
  instanceTypes := #[]
  staticTypes := #[(.object "java/time/chrono/IsoChronology"), .long, .long]
  resolved := Array.replicate 454 none
  statics := some 4 }

def pool29 : Array CpInfo := pool [(8, .class_ 10), (1, u "java/lang/Iterable"), (24, .class_ 36), (0, u "java/lang/Object")] 25

/-- java/lang/Iterable -/
def k29 : Class := { plain "java/lang/Iterable" (some 0) with
  accessFlags := 1537
  interfaces := #[]
  cf := some (fileOf pool29 8 #[] #[] 1537 35 #[] #[])
  fields := #[]
  methods := #[]
  instanceTypes := #[]
  staticTypes := #[]
  resolved := Array.replicate 62 none
  statics := none }

def pool30 : Array CpInfo := pool [(10, .class_ 12), (1, u "java/util/Collection"), (47, .class_ 61), (0, u "java/lang/Object"), (0, .class_ 63), (0, u "java/lang/Iterable")] 51

/-- java/util/Collection -/
def k30 : Class := { plain "java/util/Collection" (some 0) with
  accessFlags := 1537
  interfaces := #[29]
  cf := some (fileOf pool30 10 #[] #[] 1537 60 #[62] #[])
  fields := #[]
  methods := #[]
  instanceTypes := #[]
  staticTypes := #[]
  resolved := Array.replicate 115 none
  statics := none }

def pool31 : Array CpInfo := pool [(8, .class_ 10), (1, u "java/util/SequencedCollection"), (15, .class_ 27), (0, u "java/lang/Object"), (0, .class_ 29), (0, u "java/util/Collection")] 27

/-- java/util/SequencedCollection -/
def k31 : Class := { plain "java/util/SequencedCollection" (some 0) with
  accessFlags := 1537
  interfaces := #[30]
  cf := some (fileOf pool31 8 #[] #[] 1537 26 #[28] #[])
  fields := #[]
  methods := #[]
  instanceTypes := #[]
  staticTypes := #[]
  resolved := Array.replicate 57 none
  statics := none }

def pool32 : Array CpInfo := pool [(8, .class_ 10), (1, u "java/util/List"), (77, u "of"), (1, .fieldref 91 92), (0, .class_ 93), (0, .nameAndType 94 95), (0, u "java/util/ImmutableCollections"), (0, u "EMPTY_LIST"), (0, u "Ljava/util/ImmutableCollections$ListN;"), (7, .class_ 104), (0, u "java/lang/Object"), (14, u "()Ljava/util/List;"), (0, .class_ 121), (0, u "java/util/SequencedCollection"), (1, u "iterator"), (0, u "()Ljava/util/Iterator;")] 126

def k32m0 : Method := { name := "iterator", desc := "()Ljava/util/Iterator;", sig := { parameters := [], returnType := some (.object "java/util/Iterator") }, accessFlags := 1025, code := none }
def k32c1 : Code := { maxStack := 1, maxLocals := 0, code := jdk_40_method_36_code, exceptionTable := #[], attributes := #[] }
def k32m1 : Method := { name := "of", desc := "()Ljava/util/List;", sig := { parameters := [], returnType := some (.object "java/util/List") }, accessFlags := 9, code := some k32c1 }
/-- java/util/List -/
def k32 : Class := { plain "java/util/List" (some 0) with
  accessFlags := 1537
  interfaces := #[31]
  cf := some (fileOf pool32 8 #[] #[{ accessFlags := 1025, nameIndex := 123, descriptorIndex := 124, attributes := #[] }, { accessFlags := 9, nameIndex := 88, descriptorIndex := 119, attributes := #[] }] 1537 103 #[120] #[])
  fields := #[]
  methods := #[k32m0, k32m1]
  instanceTypes := #[]
  staticTypes := #[]
  resolved := Array.replicate 251 none
  statics := none }

def pool33 : Array CpInfo := pool [(2, .class_ 4), (1, u "java/lang/Object"), (0, u "<init>"), (0, u "()V"), (3, .class_ 11), (0, u "java/util/ImmutableCollections$List12"), (0, .class_ 13), (0, u "java/util/ImmutableCollections$ListN"), (3, u "Z"), (29, .class_ 49), (1, u "java/util/ImmutableCollections"), (0, u "$assertionsDisabled"), (5, u "[Ljava/lang/Object;"), (5, u "EMPTY_LIST"), (0, u "Ljava/util/ImmutableCollections$ListN;"), (8, u "EMPTY_LIST_NULLS"), (22, u "SALT32L"), (0, u "J"), (2, u "REVERSE"), (6, u "archivedObjects"), (2, u "EMPTY"), (0, u "Ljava/lang/Object;"), (0, .class_ 112), (0, u "java/util/ImmutableCollections$SetN"), (5, u "EMPTY_SET"), (0, u "Ljava/util/ImmutableCollections$SetN;"), (0, .class_ 121), (0, u "java/util/ImmutableCollections$MapN"), (3, u "EMPTY_MAP"), (0, u "Ljava/util/ImmutableCollections$MapN;"), (4, u "EXPAND_FACTOR"), (0, u "I"), (36, .class_ 170), (0, u "java/util/ImmutableCollections$MapN$MapNIterator"), (0, .class_ 172), (0, u "java/util/ImmutableCollections$MapN$1"), (0, .class_ 174), (0, u "java/util/ImmutableCollections$Map1"), (0, .class_ 176), (0, u "java/util/ImmutableCollections$AbstractImmutableMap"), (0, .class_ 178), (0, u "java/util/ImmutableCollections$SetN$SetNIterator"), (0, .class_ 180), (0, u "java/util/ImmutableCollections$Set12"), (0, .class_ 182), (0, u "java/util/ImmutableCollections$Set12$1"), (0, .class_ 184), (0, u "java/util/ImmutableCollections$AbstractImmutableSet"), (0, .class_ 186), (0, u "java/util/ImmutableCollections$SubList"), (0, .class_ 188), (0, u "java/util/ImmutableCollections$ListItr"), (0, .class_ 190), (0, u "java/util/ImmutableCollections$AbstractImmutableList"), (0, .class_ 192), (0, u "java/util/ImmutableCollections$AbstractImmutableCollection"), (0, .class_ 194), (0, u "java/util/ImmutableCollections$Access"), (0, .class_ 196), (0, u "java/util/ImmutableCollections$Access$1")] 16

def k33m0 : Method := { name := "<init>", desc := "()V", sig := { parameters := [], returnType := none }, accessFlags := 2, code := none }
/-- java/util/ImmutableCollections -/
def k33 : Class := { plain "java/util/ImmutableCollections" (some 0) with
  accessFlags := 32
  interfaces := #[]
  cf := some (fileOf pool33 47 #[.nestMembers #[120, 169, 171, 173, 175, 111, 177, 179, 181, 183, 12, 10, 185, 187, 189, 191, 193, 195]] #[{ accessFlags := 2, nameIndex := 5, descriptorIndex := 6, attributes := #[] }] 32 2 #[] #[{ accessFlags := 26, nameIndex := 95, descriptorIndex := 96, attributes := #[] }, { accessFlags := 26, nameIndex := 99, descriptorIndex := 17, attributes := #[] }, { accessFlags := 10, nameIndex := 106, descriptorIndex := 56, attributes := #[] }, { accessFlags := 26, nameIndex := 109, descriptorIndex := 110, attributes := #[] }, { accessFlags := 24, nameIndex := 62, descriptorIndex := 63, attributes := #[] }, { accessFlags := 24, nameIndex := 72, descriptorIndex := 63, attributes := #[] }, { accessFlags := 24, nameIndex := 118, descriptorIndex := 119, attributes := #[] }, { accessFlags := 24, nameIndex := 125, descriptorIndex := 126, attributes := #[] }, { accessFlags := 24, nameIndex := 131, descriptorIndex := 132, attributes := #[] }, { accessFlags := 4120, nameIndex := 50, descriptorIndex := 17, attributes := #[] }])
  fields := #[{ name := "SALT32L", type := .long, accessFlags := 26, slot := 0, constantValue := 0 }, { name := "REVERSE", type := .boolean, accessFlags := 26, slot := 1, constantValue := 0 }, { name := "archivedObjects", type := (.array (.object "java/lang/Object")), accessFlags := 10, slot := 2, constantValue := 0 }, { name := "EMPTY", type := (.object "java/lang/Object"), accessFlags := 26, slot := 3, constantValue := 0 }, { name := "EMPTY_LIST", type := (.object "java/util/ImmutableCollections$ListN"), accessFlags := 24, slot := 4, constantValue := 0 }, { name := "EMPTY_LIST_NULLS", type := (.object "java/util/ImmutableCollections$ListN"), accessFlags := 24, slot := 5, constantValue := 0 }, { name := "EMPTY_SET", type := (.object "java/util/ImmutableCollections$SetN"), accessFlags := 24, slot := 6, constantValue := 0 }, { name := "EMPTY_MAP", type := (.object "java/util/ImmutableCollections$MapN"), accessFlags := 24, slot := 7, constantValue := 0 }, { name := "EXPAND_FACTOR", type := .int, accessFlags := 24, slot := 8, constantValue := 0 }, { name := "$assertionsDisabled", type := .boolean, accessFlags := 4120, slot := 9, constantValue := 0 }]
  methods := #[k33m0]
  instanceTypes := #[]
  staticTypes := #[.long, .boolean, (.array (.object "java/lang/Object")), (.object "java/lang/Object"), (.object "java/util/ImmutableCollections$ListN"), (.object "java/util/ImmutableCollections$ListN"), (.object "java/util/ImmutableCollections$SetN"), (.object "java/util/ImmutableCollections$MapN"), .int, .boolean]
  resolved := Array.replicate 213 none
  statics := some 5 }

def pool34 : Array CpInfo := pool [(2, .class_ 4), (1, u "java/lang/Object"), (0, u "<init>"), (0, u "()V"), (1, .class_ 10), (1, u "java/util/AbstractCollection"), (0, u "size"), (0, u "()I"), (64, .class_ 78), (0, u "java/util/Collection")] 81

def k34m0 : Method := { name := "<init>", desc := "()V", sig := { parameters := [], returnType := none }, accessFlags := 4, code := none }
def k34m1 : Method := { name := "size", desc := "()I", sig := { parameters := [], returnType := some .int }, accessFlags := 1025, code := none }
/-- java/util/AbstractCollection -/
def k34 : Class := { plain "java/util/AbstractCollection" (some 0) with
  accessFlags := 1057
  interfaces := #[30]
  cf := some (fileOf pool34 8 #[] #[{ accessFlags := 4, nameIndex := 5, descriptorIndex := 6, attributes := #[] }, { accessFlags := 1025, nameIndex := 11, descriptorIndex := 12, attributes := #[] }] 1057 2 #[77] #[])
  fields := #[]
  methods := #[k34m0, k34m1]
  instanceTypes := #[]
  staticTypes := #[]
  resolved := Array.replicate 160 none
  statics := none }

def pool35 : Array CpInfo := pool [(2, .class_ 4), (1, u "java/util/AbstractCollection"), (0, u "<init>"), (0, u "()V"), (1, .class_ 10), (1, u "java/util/ImmutableCollections"), (2, .class_ 14), (0, u "java/util/ImmutableCollections$AbstractImmutableCollection")] 41

def k35m0 : Method := { name := "<init>", desc := "()V", sig := { parameters := [], returnType := none }, accessFlags := 0, code := none }
/-- java/util/ImmutableCollections$AbstractImmutableCollection -/
def k35 : Class := { plain "java/util/ImmutableCollections$AbstractImmutableCollection" (some 34) with
  accessFlags := 1056
  interfaces := #[]
  cf := some (fileOf pool35 13 #[.nestHost 8] #[{ accessFlags := 0, nameIndex := 5, descriptorIndex := 6, attributes := #[] }] 1056 2 #[] #[])
  fields := #[]
  methods := #[k35m0]
  instanceTypes := #[]
  staticTypes := #[]
  resolved := Array.replicate 56 none
  statics := none }

def pool36 : Array CpInfo := pool [(1, .class_ 2), (0, u "java/util/RandomAccess"), (0, .class_ 4), (0, u "java/lang/Object")] 2

/-- java/util/RandomAccess -/
def k36 : Class := { plain "java/util/RandomAccess" (some 0) with
  accessFlags := 1537
  interfaces := #[]
  cf := some (fileOf pool36 1 #[] #[] 1537 3 #[] #[])
  fields := #[]
  methods := #[]
  instanceTypes := #[]
  staticTypes := #[]
  resolved := Array.replicate 7 none
  statics := none }

def pool37 : Array CpInfo := pool [(2, .class_ 4), (1, u "java/util/ImmutableCollections$AbstractImmutableCollection"), (0, u "<init>"), (0, u "()V"), (1, .class_ 10), (1, u "java/util/ImmutableCollections"), (2, .methodref 14 15), (0, .class_ 16), (0, .nameAndType 17 18), (0, u "java/util/ImmutableCollections$AbstractImmutableList"), (0, u "size"), (0, u "()I"), (42, .class_ 62), (0, u "java/util/ImmutableCollections$ListItr"), (0, .methodref 61 64), (0, .nameAndType 5 65), (0, u "(Ljava/util/List;I)V"), (11, .class_ 78), (0, u "java/util/List"), (2, u "iterator"), (0, u "()Ljava/util/Iterator;"), (41, .class_ 125), (0, u "java/util/RandomAccess")] 70

def k37m0 : Method := { name := "<init>", desc := "()V", sig := { parameters := [], returnType := none }, accessFlags := 0, code := none }
def k37c1 : Code := { maxStack := 4, maxLocals := 1, code := jdk_46_method_10_code, exceptionTable := #[], attributes := #[] }
def k37m1 : Method := { name := "iterator", desc := "()Ljava/util/Iterator;", sig := { parameters := [], returnType := some (.object "java/util/Iterator") }, accessFlags := 1, code := some k37c1 }
/-- java/util/ImmutableCollections$AbstractImmutableList -/
def k37 : Class := { plain "java/util/ImmutableCollections$AbstractImmutableList" (some 35) with
  accessFlags := 1056
  interfaces := #[32, 36]
  cf := some (fileOf pool37 14 #[.nestHost 8] #[{ accessFlags := 0, nameIndex := 5, descriptorIndex := 6, attributes := #[] }, { accessFlags := 1, nameIndex := 81, descriptorIndex := 82, attributes := #[] }] 1056 2 #[77, 124] #[])
  fields := #[]
  methods := #[k37m0, k37m1]
  instanceTypes := #[]
  staticTypes := #[]
  resolved := Array.replicate 196 none
  statics := none }

def pool38 : Array CpInfo := pool [(2, .class_ 4), (1, u "java/util/ImmutableCollections$AbstractImmutableList"), (2, .fieldref 8 9), (0, .class_ 10), (0, .nameAndType 11 12), (0, u "java/util/ImmutableCollections$ListN"), (0, u "elements"), (0, u "[Ljava/lang/Object;"), (2, u "allowNulls"), (0, u "Z"), (42, .class_ 60), (0, u "java/io/Serializable"), (16, u "size"), (0, u "()I"), (35, .class_ 115), (0, u "java/util/ImmutableCollections")] 3

def k38c0 : Code := { maxStack := 1, maxLocals := 1, code := jdk_45_method_3_code, exceptionTable := #[], attributes := #[] }
def k38m0 : Method := { name := "size", desc := "()I", sig := { parameters := [], returnType := some .int }, accessFlags := 1, code := some k38c0 }
/-- java/util/ImmutableCollections$ListN -/
def k38 : Class := { plain "java/util/ImmutableCollections$ListN" (some 37) with
  accessFlags := 48
  interfaces := #[2]
  cf := some (fileOf pool38 8 #[.nestHost 114] #[{ accessFlags := 1, nameIndex := 77, descriptorIndex := 78, attributes := #[] }] 48 2 #[59] #[{ accessFlags := 18, nameIndex := 11, descriptorIndex := 12, attributes := #[] }, { accessFlags := 18, nameIndex := 15, descriptorIndex := 16, attributes := #[] }])
  fields := #[{ name := "elements", type := (.array (.object "java/lang/Object")), accessFlags := 18, slot := 0, constantValue := 0 }, { name := "allowNulls", type := .boolean, accessFlags := 18, slot := 1, constantValue := 0 }]
  methods := #[k38m0]
  instanceTypes := #[(.array (.object "java/lang/Object")), .boolean]
  staticTypes := #[]
  resolved := Array.replicate 119 none
  statics := none }

def pool39 : Array CpInfo := pool [(16, .class_ 18), (1, u "java/util/Iterator"), (0, u "hasNext"), (0, u "()Z"), (10, .class_ 32), (0, u "java/lang/Object")] 20

def k39m0 : Method := { name := "hasNext", desc := "()Z", sig := { parameters := [], returnType := some .boolean }, accessFlags := 1025, code := none }
/-- java/util/Iterator -/
def k39 : Class := { plain "java/util/Iterator" (some 0) with
  accessFlags := 1537
  interfaces := #[]
  cf := some (fileOf pool39 16 #[] #[{ accessFlags := 1025, nameIndex := 19, descriptorIndex := 20, attributes := #[] }] 1537 31 #[] #[])
  fields := #[]
  methods := #[k39m0]
  instanceTypes := #[]
  staticTypes := #[]
  resolved := Array.replicate 53 none
  statics := none }

def pool40 : Array CpInfo := pool [(1, .class_ 2), (0, u "java/util/ListIterator"), (0, .class_ 4), (0, u "java/lang/Object"), (0, .class_ 6), (0, u "java/util/Iterator")] 20

/-- java/util/ListIterator -/
def k40 : Class := { plain "java/util/ListIterator" (some 0) with
  accessFlags := 1537
  interfaces := #[39]
  cf := some (fileOf pool40 1 #[] #[] 1537 3 #[5] #[])
  fields := #[]
  methods := #[]
  instanceTypes := #[]
  staticTypes := #[]
  resolved := Array.replicate 27 none
  statics := none }

def pool41 : Array CpInfo := pool [(1, .methodref 2 3), (0, .class_ 4), (0, .nameAndType 5 6), (0, u "java/lang/Object"), (0, u "<init>"), (0, u "()V"), (0, .fieldref 8 9), (0, .class_ 10), (0, .nameAndType 11 12), (0, u "java/util/ImmutableCollections$ListItr"), (0, u "list"), (0, u "Ljava/util/List;"), (0, .fieldref 8 14), (0, .nameAndType 15 16), (0, u "size"), (0, u "I"), (0, .fieldref 8 18), (0, .nameAndType 19 16), (0, u "cursor"), (0, .fieldref 8 21), (0, .nameAndType 22 23), (0, u "isListIterator"), (0, u "Z"), (12, .class_ 38), (1, u "java/util/ImmutableCollections"), (2, .class_ 42), (0, u "java/util/ListIterator"), (4, u "(Ljava/util/List;I)V"), (11, u "hasNext"), (0, u "()Z")] 25

def k41c0 : Code := { maxStack := 2, maxLocals := 3, code := jdk_53_method_1_code, exceptionTable := #[], attributes := #[] }
def k41m0 : Method := { name := "<init>", desc := "(Ljava/util/List;I)V", sig := { parameters := [(.object "java/util/List"), .int], returnType := none }, accessFlags := 0, code := some k41c0 }
def k41c1 : Code := { maxStack := 2, maxLocals := 1, code := jdk_53_method_3_code, exceptionTable := #[], attributes := #[] }
def k41m1 : Method := { name := "hasNext", desc := "()Z", sig := { parameters := [], returnType := some .boolean }, accessFlags := 1, code := some k41c1 }
/-- java/util/ImmutableCollections$ListItr -/
def k41 : Class := { plain "java/util/ImmutableCollections$ListItr" (some 0) with
  accessFlags := 48
  interfaces := #[40]
  cf := some (fileOf pool41 8 #[.nestHost 36] #[{ accessFlags := 0, nameIndex := 5, descriptorIndex := 47, attributes := #[] }, { accessFlags := 1, nameIndex := 59, descriptorIndex := 60, attributes := #[] }] 48 2 #[41] #[{ accessFlags := 18, nameIndex := 11, descriptorIndex := 12, attributes := #[] }, { accessFlags := 18, nameIndex := 15, descriptorIndex := 16, attributes := #[] }, { accessFlags := 18, nameIndex := 22, descriptorIndex := 23, attributes := #[] }, { accessFlags := 2, nameIndex := 19, descriptorIndex := 16, attributes := #[] }])
  fields := #[{ name := "list", type := (.object "java/util/List"), accessFlags := 18, slot := 0, constantValue := 0 }, { name := "size", type := .int, accessFlags := 18, slot := 1, constantValue := 0 }, { name := "isListIterator", type := .boolean, accessFlags := 18, slot := 2, constantValue := 0 }, { name := "cursor", type := .int, accessFlags := 2, slot := 3, constantValue := 0 }]
  methods := #[k41m0, k41m1]
  instanceTypes := #[(.object "java/util/List"), .int, .boolean, .int]
  staticTypes := #[]
  resolved := Array.replicate 86 none
  statics := none }

def pool42 : Array CpInfo := pool [(9, u "<init>"), (6, .class_ 18), (1, u "java/lang/Object"), (0, u "()V"), (1, .class_ 23), (1, u "jdk/internal/util/ArraysSupport"), (0, u "LOG2_ARRAY_LONG_INDEX_SCALE"), (0, u "I"), (2, u "U"), (0, u "Ljdk/internal/misc/Unsafe;"), (8, u "BIG_ENDIAN"), (0, u "Z"), (8, u "LOG2_BYTE_BIT_SIZE"), (4, u "LOG2_ARRAY_INT_INDEX_SCALE"), (54, u "JLA"), (0, u "Ljdk/internal/access/JavaLangAccess;"), (11, u "LOG2_ARRAY_BOOLEAN_INDEX_SCALE"), (9, u "LOG2_ARRAY_BYTE_INDEX_SCALE"), (5, u "LOG2_ARRAY_CHAR_INDEX_SCALE"), (5, u "LOG2_ARRAY_SHORT_INDEX_SCALE"), (18, u "LOG2_ARRAY_FLOAT_INDEX_SCALE"), (24, u "LOG2_ARRAY_DOUBLE_INDEX_SCALE"), (89, u "T_BOOLEAN"), (2, u "T_CHAR"), (1, u "T_FLOAT"), (1, u "T_DOUBLE"), (1, u "T_BYTE"), (1, u "T_SHORT"), (1, u "T_INT"), (1, u "T_LONG"), (1, u "SOFT_MAX_ARRAY_LENGTH")] 83

def k42m0 : Method := { name := "<init>", desc := "()V", sig := { parameters := [], returnType := none }, accessFlags := 2, code := none }
/-- jdk/internal/util/ArraysSupport -/
def k42 : Class := { plain "jdk/internal/util/ArraysSupport" (some 0) with
  accessFlags := 33
  interfaces := #[]
  cf := some (fileOf pool42 21 #[] #[{ accessFlags := 2, nameIndex := 9, descriptorIndex := 19, attributes := #[] }] 33 16 #[] #[{ accessFlags := 24, nameIndex := 28, descriptorIndex := 29, attributes := #[] }, { accessFlags := 26, nameIndex := 38, descriptorIndex := 39, attributes := #[] }, { accessFlags := 25, nameIndex := 121, descriptorIndex := 25, attributes := #[] }, { accessFlags := 25, nameIndex := 131, descriptorIndex := 25, attributes := #[] }, { accessFlags := 25, nameIndex := 137, descriptorIndex := 25, attributes := #[] }, { accessFlags := 25, nameIndex := 143, descriptorIndex := 25, attributes := #[] }, { accessFlags := 25, nameIndex := 53, descriptorIndex := 25, attributes := #[] }, { accessFlags := 25, nameIndex := 24, descriptorIndex := 25, attributes := #[] }, { accessFlags := 25, nameIndex := 162, descriptorIndex := 25, attributes := #[] }, { accessFlags := 25, nameIndex := 187, descriptorIndex := 25, attributes := #[] }, { accessFlags := 26, nameIndex := 48, descriptorIndex := 25, attributes := #[] }, { accessFlags := 25, nameIndex := 277, descriptorIndex := 25, attributes := #[] }, { accessFlags := 25, nameIndex := 280, descriptorIndex := 25, attributes := #[] }, { accessFlags := 25, nameIndex := 282, descriptorIndex := 25, attributes := #[] }, { accessFlags := 25, nameIndex := 284, descriptorIndex := 25, attributes := #[] }, { accessFlags := 25, nameIndex := 286, descriptorIndex := 25, attributes := #[] }, { accessFlags := 25, nameIndex := 288, descriptorIndex := 25, attributes := #[] }, { accessFlags := 25, nameIndex := 290, descriptorIndex := 25, attributes := #[] }, { accessFlags := 25, nameIndex := 292, descriptorIndex := 25, attributes := #[] }, { accessFlags := 26, nameIndex := 108, descriptorIndex := 109, attributes := #[] }, { accessFlags := 25, nameIndex := 294, descriptorIndex := 25, attributes := #[] }])
  fields := #[{ name := "U", type := (.object "jdk/internal/misc/Unsafe"), accessFlags := 24, slot := 0, constantValue := 0 }, { name := "BIG_ENDIAN", type := .boolean, accessFlags := 26, slot := 1, constantValue := 0 }, { name := "LOG2_ARRAY_BOOLEAN_INDEX_SCALE", type := .int, accessFlags := 25, slot := 2, constantValue := 0 }, { name := "LOG2_ARRAY_BYTE_INDEX_SCALE", type := .int, accessFlags := 25, slot := 3, constantValue := 0 }, { name := "LOG2_ARRAY_CHAR_INDEX_SCALE", type := .int, accessFlags := 25, slot := 4, constantValue := 0 }, { name := "LOG2_ARRAY_SHORT_INDEX_SCALE", type := .int, accessFlags := 25, slot := 5, constantValue := 0 }, { name := "LOG2_ARRAY_INT_INDEX_SCALE", type := .int, accessFlags := 25, slot := 6, constantValue := 0 }, { name := "LOG2_ARRAY_LONG_INDEX_SCALE", type := .int, accessFlags := 25, slot := 7, constantValue := 0 }, { name := "LOG2_ARRAY_FLOAT_INDEX_SCALE", type := .int, accessFlags := 25, slot := 8, constantValue := 0 }, { name := "LOG2_ARRAY_DOUBLE_INDEX_SCALE", type := .int, accessFlags := 25, slot := 9, constantValue := 0 }, { name := "LOG2_BYTE_BIT_SIZE", type := .int, accessFlags := 26, slot := 10, constantValue := 0 }, { name := "T_BOOLEAN", type := .int, accessFlags := 25, slot := 11, constantValue := 0 }, { name := "T_CHAR", type := .int, accessFlags := 25, slot := 12, constantValue := 0 }, { name := "T_FLOAT", type := .int, accessFlags := 25, slot := 13, constantValue := 0 }, { name := "T_DOUBLE", type := .int, accessFlags := 25, slot := 14, constantValue := 0 }, { name := "T_BYTE", type := .int, accessFlags := 25, slot := 15, constantValue := 0 }, { name := "T_SHORT", type := .int, accessFlags := 25, slot := 16, constantValue := 0 }, { name := "T_INT", type := .int, accessFlags := 25, slot := 17, constantValue := 0 }, { name := "T_LONG", type := .int, accessFlags := 25, slot := 18, constantValue := 0 }, { name := "JLA", type := (.object "jdk/internal/access/JavaLangAccess"), accessFlags := 26, slot := 19, constantValue := 0 }, { name := "SOFT_MAX_ARRAY_LENGTH", type := .int, accessFlags := 25, slot := 20, constantValue := 0 }]
  methods := #[k42m0]
  instanceTypes := #[]
  staticTypes := #[(.object "jdk/internal/misc/Unsafe"), .boolean, .int, .int, .int, .int, .int, .int, .int, .int, .int, .int, .int, .int, .int, .int, .int, .int, .int, (.object "jdk/internal/access/JavaLangAccess"), .int]
  resolved := Array.replicate 378 none
  statics := none }

def pool43 : Array CpInfo := pool [(4, .class_ 6), (1, u "java/time/temporal/TemporalUnit"), (23, .class_ 31), (0, u "java/lang/Object")] 27

/-- java/time/temporal/TemporalUnit -/
def k43 : Class := { plain "java/time/temporal/TemporalUnit" (some 0) with
  accessFlags := 1537
  interfaces := #[]
  cf := some (fileOf pool43 4 #[] #[] 1537 30 #[] #[])
  fields := #[]
  methods := #[]
  instanceTypes := #[]
  staticTypes := #[]
  resolved := Array.replicate 59 none
  statics := none }

def pool44 : Array CpInfo := pool [(1, .class_ 2), (0, u "java/time/temporal/ChronoUnit"), (2, u "NANOS"), (0, u "Ljava/time/temporal/ChronoUnit;"), (2, u "MICROS"), (2, u "MILLIS"), (2, u "SECONDS"), (2, u "MINUTES"), (2, u "HOURS"), (2, u "HALF_DAYS"), (2, u "DAYS"), (2, u "WEEKS"), (2, u "MONTHS"), (2, u "YEARS"), (2, u "DECADES"), (2, u "CENTURIES"), (2, u "MILLENNIA"), (2, u "ERAS"), (2, u "FOREVER"), (2, u "$VALUES"), (0, u "[Ljava/time/temporal/ChronoUnit;"), (6, .class_ 64), (1, u "java/lang/Enum"), (8, u "name"), (0, u "Ljava/lang/String;"), (2, u "duration"), (0, u "Ljava/time/Duration;"), (117, .class_ 197), (0, u "java/time/temporal/TemporalUnit")] 39

/-- java/time/temporal/ChronoUnit -/
def k44 : Class := { plain "java/time/temporal/ChronoUnit" (some 17) with
  accessFlags := 16433
  interfaces := #[43]
  cf := some (fileOf pool44 1 #[] #[] 16433 62 #[196] #[{ accessFlags := 16409, nameIndex := 5, descriptorIndex := 6, attributes := #[] }, { accessFlags := 16409, nameIndex := 9, descriptorIndex := 6, attributes := #[] }, { accessFlags := 16409, nameIndex := 12, descriptorIndex := 6, attributes := #[] }, { accessFlags := 16409, nameIndex := 15, descriptorIndex := 6, attributes := #[] }, { accessFlags := 16409, nameIndex := 18, descriptorIndex := 6, attributes := #[] }, { accessFlags := 16409, nameIndex := 21, descriptorIndex := 6, attributes := #[] }, { accessFlags := 16409, nameIndex := 24, descriptorIndex := 6, attributes := #[] }, { accessFlags := 16409, nameIndex := 27, descriptorIndex := 6, attributes := #[] }, { accessFlags := 16409, nameIndex := 30, descriptorIndex := 6, attributes := #[] }, { accessFlags := 16409, nameIndex := 33, descriptorIndex := 6, attributes := #[] }, { accessFlags := 16409, nameIndex := 36, descriptorIndex := 6, attributes := #[] }, { accessFlags := 16409, nameIndex := 39, descriptorIndex := 6, attributes := #[] }, { accessFlags := 16409, nameIndex := 42, descriptorIndex := 6, attributes := #[] }, { accessFlags := 16409, nameIndex := 45, descriptorIndex := 6, attributes := #[] }, { accessFlags := 16409, nameIndex := 48, descriptorIndex := 6, attributes := #[] }, { accessFlags := 16409, nameIndex := 51, descriptorIndex := 6, attributes := #[] }, { accessFlags := 18, nameIndex := 73, descriptorIndex := 74, attributes := #[] }, { accessFlags := 18, nameIndex := 77, descriptorIndex := 78, attributes := #[] }, { accessFlags := 4122, nameIndex := 54, descriptorIndex := 55, attributes := #[] }])
  fields := #[{ name := "NANOS", type := (.object "java/time/temporal/ChronoUnit"), accessFlags := 16409, slot := 0, constantValue := 0 }, { name := "MICROS", type := (.object "java/time/temporal/ChronoUnit"), accessFlags := 16409, slot := 1, constantValue := 0 }, { name := "MILLIS", type := (.object "java/time/temporal/ChronoUnit"), accessFlags := 16409, slot := 2, constantValue := 0 }, { name := "SECONDS", type := (.object "java/time/temporal/ChronoUnit"), accessFlags := 16409, slot := 3, constantValue := 0 }, { name := "MINUTES", type := (.object "java/time/temporal/ChronoUnit"), accessFlags := 16409, slot := 4, constantValue := 0 }, { name := "HOURS", type := (.object "java/time/temporal/ChronoUnit"), accessFlags := 16409, slot := 5, constantValue := 0 }, { name := "HALF_DAYS", type := (.object "java/time/temporal/ChronoUnit"), accessFlags := 16409, slot := 6, constantValue := 0 }, { name := "DAYS", type := (.object "java/time/temporal/ChronoUnit"), accessFlags := 16409, slot := 7, constantValue := 0 }, { name := "WEEKS", type := (.object "java/time/temporal/ChronoUnit"), accessFlags := 16409, slot := 8, constantValue := 0 }, { name := "MONTHS", type := (.object "java/time/temporal/ChronoUnit"), accessFlags := 16409, slot := 9, constantValue := 0 }, { name := "YEARS", type := (.object "java/time/temporal/ChronoUnit"), accessFlags := 16409, slot := 10, constantValue := 0 }, { name := "DECADES", type := (.object "java/time/temporal/ChronoUnit"), accessFlags := 16409, slot := 11, constantValue := 0 }, { name := "CENTURIES", type := (.object "java/time/temporal/ChronoUnit"), accessFlags := 16409, slot := 12, constantValue := 0 }, { name := "MILLENNIA", type := (.object "java/time/temporal/ChronoUnit"), accessFlags := 16409, slot := 13, constantValue := 0 }, { name := "ERAS", type := (.object "java/time/temporal/ChronoUnit"), accessFlags := 16409, slot := 14, constantValue := 0 }, { name := "FOREVER", type := (.object "java/time/temporal/ChronoUnit"), accessFlags := 16409, slot := 15, constantValue := 0 }, { name := "name", type := (.object "java/lang/String"), accessFlags := 18, slot := 3, constantValue := 0 }, { name := "duration", type := (.object "java/time/Duration"), accessFlags := 18, slot := 4, constantValue := 0 }, { name := "$VALUES", type := (.array (.object "java/time/temporal/ChronoUnit")), accessFlags := 4122, slot := 16, constantValue := 0 }]
  methods := #[]
  instanceTypes := #[(.object "java/lang/String"), .int, .int, (.object "java/lang/String"), (.object "java/time/Duration")]
  staticTypes := #[(.object "java/time/temporal/ChronoUnit"), (.object "java/time/temporal/ChronoUnit"), (.object "java/time/temporal/ChronoUnit"), (.object "java/time/temporal/ChronoUnit"), (.object "java/time/temporal/ChronoUnit"), (.object "java/time/temporal/ChronoUnit"), (.object "java/time/temporal/ChronoUnit"), (.object "java/time/temporal/ChronoUnit"), (.object "java/time/temporal/ChronoUnit"), (.object "java/time/temporal/ChronoUnit"), (.object "java/time/temporal/ChronoUnit"), (.object "java/time/temporal/ChronoUnit"), (.object "java/time/temporal/ChronoUnit"), (.object "java/time/temporal/ChronoUnit"), (.object "java/time/temporal/ChronoUnit"), (.object "java/time/temporal/ChronoUnit"), (.array (.object "java/time/temporal/ChronoUnit"))]
  resolved := Array.replicate 237 none
  statics := some 6 }

def pool45 : Array CpInfo := pool [(1, .class_ 2), (0, u "java/time/temporal/TemporalAmount"), (0, .class_ 4), (0, u "java/lang/Object")] 11

/-- java/time/temporal/TemporalAmount -/
def k45 : Class := { plain "java/time/temporal/TemporalAmount" (some 0) with
  accessFlags := 1537
  interfaces := #[]
  cf := some (fileOf pool45 1 #[] #[] 1537 3 #[] #[])
  fields := #[]
  methods := #[]
  instanceTypes := #[]
  staticTypes := #[]
  resolved := Array.replicate 16 none
  statics := none }

def pool46 : Array CpInfo := pool [(11, .class_ 13), (1, u "java/time/Duration"), (20, u "ZERO"), (0, u "Ljava/time/Duration;"), (13, .class_ 51), (1, u "java/time/temporal/TemporalAmount"), (27, .class_ 81), (1, u "java/time/Duration$Lazy"), (35, u "seconds"), (101, .class_ 220), (0, u "java/lang/Object"), (2, u "J"), (2, u "nanos"), (0, u "I"), (11, .class_ 241), (1, u "java/time/Duration$DurationUnits"), (27, .class_ 271), (1, u "java/time/Duration$1"), (91, u "BI_NANOS_PER_SECOND"), (0, u "Ljava/math/BigInteger;"), (120, .class_ 486), (0, u "java/lang/Comparable"), (0, .class_ 488), (0, u "java/io/Serializable"), (0, u "serialVersionUID")] 166

/-- java/time/Duration -/
def k46 : Class := { plain "java/time/Duration" (some 0) with
  accessFlags := 49
  interfaces := #[45, 3, 2]
  cf := some (fileOf pool46 11 #[.nestMembers #[269, 239, 79]] #[] 49 219 #[49, 485, 487] #[{ accessFlags := 25, nameIndex := 34, descriptorIndex := 35, attributes := #[] }, { accessFlags := 26, nameIndex := 489, descriptorIndex := 223, attributes := #[] }, { accessFlags := 26, nameIndex := 363, descriptorIndex := 364, attributes := #[] }, { accessFlags := 18, nameIndex := 117, descriptorIndex := 223, attributes := #[] }, { accessFlags := 18, nameIndex := 226, descriptorIndex := 227, attributes := #[] }])
  fields := #[{ name := "ZERO", type := (.object "java/time/Duration"), accessFlags := 25, slot := 0, constantValue := 0 }, { name := "serialVersionUID", type := .long, accessFlags := 26, slot := 1, constantValue := 0 }, { name := "BI_NANOS_PER_SECOND", type := (.object "java/math/BigInteger"), accessFlags := 26, slot := 2, constantValue := 0 }, { name := "seconds", type := .long, accessFlags := 18, slot := 0, constantValue := 0 }, { name := "nanos", type := .int, accessFlags := 18, slot := 1, constantValue := 0 }]
  methods := #[]
  instanceTypes := #[.long, .int]
  staticTypes := #[(.object "java/time/Duration"), .long, (.object "java/math/BigInteger")]
  resolved := Array.replicate 656 none
  statics := none }

def pool47 : Array CpInfo := pool [(1, .class_ 2), (0, u "com/example/tranchery/tranchery/journal/InstallmentQueue"), (1, .class_ 6), (1, u "java/lang/Object"), (3, .class_ 12), (1, u "com/example/tranchery/tranchery/journal/InstallmentQueue$Run"), (0, u "age"), (0, u "J"), (2, u "keys"), (0, u "[J"), (2, u "dueDays"), (0, u "[I"), (2, u "monthEnds"), (0, u "[Z"), (4, u "amounts"), (0, u "[Ljava/math/BigDecimal;"), (2, u "next"), (0, u "I"), (2, u "end")] 109

/-- com/example/tranchery/tranchery/journal/InstallmentQueue$Run -/
def k47 : Class := { plain "com/example/tranchery/tranchery/journal/InstallmentQueue$Run" (some 0) with
  accessFlags := 48
  interfaces := #[]
  cf := some (fileOf pool47 10 #[.nestHost 1] #[] 48 4 #[] #[{ accessFlags := 18, nameIndex := 13, descriptorIndex := 14, attributes := #[] }, { accessFlags := 2, nameIndex := 17, descriptorIndex := 18, attributes := #[] }, { accessFlags := 2, nameIndex := 21, descriptorIndex := 22, attributes := #[] }, { accessFlags := 2, nameIndex := 25, descriptorIndex := 26, attributes := #[] }, { accessFlags := 2, nameIndex := 31, descriptorIndex := 32, attributes := #[] }, { accessFlags := 2, nameIndex := 35, descriptorIndex := 36, attributes := #[] }, { accessFlags := 2, nameIndex := 39, descriptorIndex := 36, attributes := #[] }])
  fields := #[{ name := "age", type := .long, accessFlags := 18, slot := 0, constantValue := 0 }, { name := "keys", type := (.array .long), accessFlags := 2, slot := 1, constantValue := 0 }, { name := "dueDays", type := (.array .int), accessFlags := 2, slot := 2, constantValue := 0 }, { name := "monthEnds", type := (.array .boolean), accessFlags := 2, slot := 3, constantValue := 0 }, { name := "amounts", type := (.array (.object "java/math/BigDecimal")), accessFlags := 2, slot := 4, constantValue := 0 }, { name := "next", type := .int, accessFlags := 2, slot := 5, constantValue := 0 }, { name := "end", type := .int, accessFlags := 2, slot := 6, constantValue := 0 }]
  methods := #[]
  instanceTypes := #[.long, (.array .long), (.array .int), (.array .boolean), (.array (.object "java/math/BigDecimal")), .int, .int]
  staticTypes := #[]
  resolved := Array.replicate 149 none
  statics := none }

def pool48 : Array CpInfo := pool [(1, u "java/lang/Cloneable"), (0, .class_ 1), (0, u "java/lang/Object"), (0, .class_ 3)] 3

/-- java/lang/Cloneable -/
def k48 : Class := { plain "java/lang/Cloneable" (some 0) with
  accessFlags := 1537
  interfaces := #[]
  cf := some (fileOf pool48 2 #[] #[] 1537 4 #[] #[])
  fields := #[]
  methods := #[]
  instanceTypes := #[]
  staticTypes := #[]
  resolved := Array.replicate 8 none
  statics := none }

/-- the primitive byte -/
def k49 : Class := { plain "byte" none with kind := .primitive 'B', accessFlags := 0x411 }
/-- [B -/
def k50 : Class := { plain "[B" (some 0) with kind := .array 49 .byte, interfaces := #[48, 2], accessFlags := 1041 }

/-- the primitive char -/
def k51 : Class := { plain "char" none with kind := .primitive 'C', accessFlags := 0x411 }
/-- [C -/
def k52 : Class := { plain "[C" (some 0) with kind := .array 51 .char, interfaces := #[48, 2], accessFlags := 1041 }

/-- the primitive int -/
def k53 : Class := { plain "int" none with kind := .primitive 'I', accessFlags := 0x411 }
/-- [I -/
def k54 : Class := { plain "[I" (some 0) with kind := .array 53 .int, interfaces := #[48, 2], accessFlags := 1041 }

/-- the primitive long -/
def k55 : Class := { plain "long" none with kind := .primitive 'J', accessFlags := 0x411 }
/-- [J -/
def k56 : Class := { plain "[J" (some 0) with kind := .array 55 .long, interfaces := #[48, 2], accessFlags := 1041 }

/-- [Lcom/example/tranchery/tranchery/journal/InstallmentQueue$Run; -/
def k57 : Class := { plain "[Lcom/example/tranchery/tranchery/journal/InstallmentQueue$Run;" (some 0) with kind := .array 47 (.object "com/example/tranchery/tranchery/journal/InstallmentQueue$Run"), interfaces := #[48, 2], accessFlags := 1041 }

/-- [Ljava/lang/Object; -/
def k58 : Class := { plain "[Ljava/lang/Object;" (some 0) with kind := .array 0 (.object "java/lang/Object"), interfaces := #[48, 2], accessFlags := 1041 }

/-- [Ljava/time/LocalDate; -/
def k59 : Class := { plain "[Ljava/time/LocalDate;" (some 0) with kind := .array 16 (.object "java/time/LocalDate"), interfaces := #[48, 2], accessFlags := 1041 }

def heap : Heap := #[{ cls := 7, slots := #[.long 0, .int 1, .null, .int 0, .null, .int 0, .int 0], vm := .statics 7 },
  { cls := 11, slots := #[.null, .null, .null], vm := .statics 11 },
  { cls := 19, slots := #[.null, .null, .null, .null, .null, .null, .null, .null, .null, .null, .null, .null, .null, .null, .null, .null, .null, .null, .ref 21, .null, .null, .null, .null, .ref 20, .null, .null, .ref 19, .null, .null, .null, .null], vm := .statics 19 },
  { cls := 24, slots := #[.int 0, .int 0, .ref 7, .ref 9], vm := .statics 24 },
  { cls := 28, slots := #[.ref 22, .long 0, .long 0], vm := .statics 28 },
  { cls := 33, slots := #[.long 0, .int 0, .null, .null, .ref 23, .null, .null, .null, .int 0, .int 0], vm := .statics 33 },
  { cls := 44, slots := #[.null, .null, .null, .null, .null, .null, .null, .ref 15, .null, .ref 14, .ref 12, .null, .null, .null, .null, .ref 13, .null], vm := .statics 44 },
  { cls := 57, slots := #[], vm := .none },
  { cls := 58, slots := #[], vm := .none },
  { cls := 56, slots := #[], vm := .none },
  { cls := 7, slots := #[.null, .int 0, .int 0, .int 0], vm := .none },
  { cls := 46, slots := #[.long 0, .int 0], vm := .none },
  { cls := 44, slots := #[.ref 10, .int 10, .int 0, .ref 10, .ref 11], vm := .none },
  { cls := 44, slots := #[.ref 10, .int 15, .int 0, .ref 10, .ref 11], vm := .none },
  { cls := 44, slots := #[.ref 10, .int 9, .int 0, .ref 10, .ref 11], vm := .none },
  { cls := 44, slots := #[.ref 10, .int 7, .int 0, .ref 10, .ref 11], vm := .none },
  { cls := 20, slots := #[.long (-999999999), .long (-999999999), .long 999999999, .long 999999999], vm := .none },
  { cls := 20, slots := #[.long 1, .long 1, .long 12, .long 12], vm := .none },
  { cls := 20, slots := #[.long 1, .long 1, .long 28, .long 31], vm := .none },
  { cls := 19, slots := #[.ref 10, .int 26, .int 0, .ref 10, .ref 12, .ref 13, .ref 16, .ref 10], vm := .none },
  { cls := 19, slots := #[.ref 10, .int 23, .int 0, .ref 10, .ref 14, .ref 12, .ref 17, .ref 10], vm := .none },
  { cls := 19, slots := #[.ref 10, .int 18, .int 0, .ref 10, .ref 15, .ref 14, .ref 18, .ref 10], vm := .none },
  { cls := 28, slots := #[], vm := .none },
  { cls := 38, slots := #[.ref 8, .int 0], vm := .none }]
def classes : Array Class := #[k0, k1, k2, k3, k4, k5, k6, k7, k8, k9, k10, k11, k12, k13, k14, k15, k16, k17, k18, k19, k20, k21, k22, k23, k24, k25, k26, k27, k28, k29, k30, k31, k32, k33, k34, k35, k36, k37, k38, k39, k40, k41, k42, k43, k44, k45, k46, k47, k48, k49, k50, k51, k52, k53, k54, k55, k56, k57, k58, k59]
def interned : List (Array UInt16 × Addr) := []
def slotsUsed : Nat := 139
def theMethod : MethodId := ⟨1, 2⟩
def args0 : Array Value := #[.int 5, .int 5, .int 5, .int 5, .int 5]
def aboutOver (below : List Frame) : State where
  vm := { classes := classes, interned := interned.toArray }
  heap := heap
  slotsUsed := slotsUsed
  threads := #[{ frames := .invoking theMethod args0 :: below }]
def below0 : List Frame := [.native { method := ⟨0, 0⟩, args := #[] }]
def about1 : State := aboutOver below0
def p0 : Program := .bare "" "" ""
def e0 : Env := launch0.env 0 0 0
theorem w_frames : about1.frames = Frame.invoking theMethod args0 :: below0 := rfl
set_option maxRecDepth 65536 in
theorem w_args : argsFit about1.vm theMethod args0 = true := by decide +kernel
set_option maxRecDepth 65536 in
theorem w_heap : heapFits about1 = true := by decide +kernel
set_option maxRecDepth 65536 in
theorem w_runnable : about1.curStatus? = some .runnable := by decide +kernel
set_option maxRecDepth 65536 in
theorem w_alone : about1.alone = true := by decide +kernel
set_option maxRecDepth 65536 in
theorem w_named : about1.methodNamed? x = some theMethod := by decide +kernel
set_option maxRecDepth 65536 in
theorem w_hears : about1.hears theMethod below0 = true := by decide +kernel
set_option maxRecDepth 65536 in
theorem w_ripe : about1.ripe theMethod args0 below0 = true := by decide +kernel
theorem w_running : about1.status = .running := rfl
set_option maxRecDepth 65536 in
theorem w_room : about1.hasRoom e0.platform room_1 = true :=
  launch0.hasRoom_least _ room_1 (by decide +kernel) (by decide +kernel) (by decide +kernel) (by decide +kernel) (by decide +kernel) (by decide +kernel)
theorem allAtoms_all (ts : List Jvm.Cond) (a : Array Jvm.Value) (st : Jvm.State) : (allAtoms ts).before a st = ts.all (fun c => c.before a st) := by
  induction ts with
  | nil => rfl
  | cons c t ih =>
    show (Jvm.Cond.and c (allAtoms t)).before a st = _
    rw [Jvm.Cond.before_and, ih, List.all_cons]
def words1 : List Jvm.Cond := Jvm.Cond.code x code maxLocals ret :: tables_1
/-- a 'code' word, met by the world's own term for the bytes: nothing is compared byte by byte -/
theorem code_word {y : MethodName} {bytes : ByteArray} {mx : Nat} {rt : Option FieldType} {a : Array Value} {s : State} {m : MethodId} {meth : Method} {c : Code} (h1 : s.methodNamed? y = some m) (h2 : s.vm.method? m = some meth) (h3 : meth.code = some c) (h4 : c.code = bytes)
    (h5 : (c.maxLocals == mx && c.exceptionTable.isEmpty && decide (c.maxStack ≤ mostOperands) && decide (meth.sig.returnType = rt) && !meth.locks && decide (parseMethodDescriptor y.desc = some meth.sig)) = true) : (Jvm.Cond.code y bytes mx rt).before a s = true := by
  simp only [Bool.and_eq_true, beq_iff_eq, Bool.not_eq_true', decide_eq_true_eq] at h5
  obtain ⟨⟨⟨⟨⟨g1, g2⟩, g3⟩, g4⟩, g5⟩, g6⟩ := h5
  simp [Cond.before, Cond.holds, Cond.value, h1, h2, h3, h4, g1, g2, g3, g4, g5, g6]
def isCode : Jvm.Cond → Bool
  | .code _ _ _ _ => true
  | _ => false
theorem all_split {L : List Jvm.Cond} {P : Jvm.Cond → Bool} (h1 : L.all (fun c => isCode c || P c) = true) (h2 : ∀ c ∈ L.filter isCode, P c = true) : L.all P = true := by
  refine List.all_eq_true.mpr fun c hc => ?_
  have h := List.all_eq_true.mp h1 c hc
  rcases Bool.eq_false_or_eq_true (isCode c) with hi | hi
  · exact h2 c (List.mem_filter.mpr ⟨hc, hi⟩)
  · simpa [hi] using h
set_option maxRecDepth 65536 in
theorem w_c0 : (Jvm.Cond.code x code maxLocals ret).before args0 about1 = true := code_word (m := ⟨1, 2⟩) (meth := k1m2) (c := k1c2) (by decide +kernel) rfl rfl rfl (by decide +kernel)
set_option maxRecDepth 65536 in
theorem w_c1 : (Jvm.Cond.code ({ cls := "com/example/tranchery/tranchery/journal/ScheduleHasRulePinLaw", name := "text", desc := "(III)Ljava/lang/String;" } : Jvm.MethodName) method_2_code (4 : Nat) (Option.some (Jvm.ClassFile.FieldType.object "java/lang/String"))).before args0 about1 = true := code_word (m := ⟨1, 1⟩) (meth := k1m1) (c := k1c1) (by decide +kernel) rfl rfl rfl (by decide +kernel)
set_option maxRecDepth 65536 in
theorem w_c2 : (Jvm.Cond.code ({ cls := "java/lang/String", name := "<init>", desc := "([C)V" } : Jvm.MethodName) jdk_42_method_3_code (2 : Nat) (Option.none : Option Jvm.ClassFile.FieldType)).before args0 about1 = true := code_word (m := ⟨7, 1⟩) (meth := k7m1) (c := k7c1) (by decide +kernel) rfl rfl rfl (by decide +kernel)
set_option maxRecDepth 65536 in
theorem w_c3 : (Jvm.Cond.code ({ cls := "java/lang/String", name := "<init>", desc := "([CIILjava/lang/Void;)V" } : Jvm.MethodName) jdk_42_method_149_code (6 : Nat) (Option.none : Option Jvm.ClassFile.FieldType)).before args0 about1 = true := code_word (m := ⟨7, 4⟩) (meth := k7m4) (c := k7c4) (by decide +kernel) rfl rfl rfl (by decide +kernel)
set_option maxRecDepth 65536 in
theorem w_c4 : (Jvm.Cond.code ({ cls := "java/lang/Object", name := "<init>", desc := "()V" } : Jvm.MethodName) object_method_1_code (1 : Nat) (Option.none : Option Jvm.ClassFile.FieldType)).before args0 about1 = true := code_word (m := ⟨0, 0⟩) (meth := k0m0) (c := k0c0) (by decide +kernel) rfl rfl rfl (by decide +kernel)
set_option maxRecDepth 65536 in
theorem w_c5 : (Jvm.Cond.code ({ cls := "java/lang/StringUTF16", name := "compress", desc := "([CII)[B" } : Jvm.MethodName) jdk_52_method_16_code (6 : Nat) (Option.some (Jvm.ClassFile.FieldType.array Jvm.ClassFile.FieldType.byte))).before args0 about1 = true := code_word (m := ⟨8, 2⟩) (meth := k8m2) (c := k8c2) (by decide +kernel) rfl rfl rfl (by decide +kernel)
set_option maxRecDepth 65536 in
theorem w_c6 : (Jvm.Cond.code ({ cls := "java/lang/StringUTF16", name := "compress", desc := "([CI[BII)I" } : Jvm.MethodName) jdk_52_method_21_code (7 : Nat) (Option.some Jvm.ClassFile.FieldType.int)).before args0 about1 = true := code_word (m := ⟨8, 3⟩) (meth := k8m3) (c := k8c3) (by decide +kernel) rfl rfl rfl (by decide +kernel)
set_option maxRecDepth 65536 in
theorem w_c7 : (Jvm.Cond.code ({ cls := "java/lang/StringUTF16", name := "coderFromArrayLen", desc := "([BI)B" } : Jvm.MethodName) jdk_52_method_15_code (2 : Nat) (Option.some Jvm.ClassFile.FieldType.byte)).before args0 about1 = true := code_word (m := ⟨8, 1⟩) (meth := k8m1) (c := k8c1) (by decide +kernel) rfl rfl rfl (by decide +kernel)
set_option maxRecDepth 65536 in
theorem w_c8 : (Jvm.Cond.code ({ cls := "java/lang/String", name := "length", desc := "()I" } : Jvm.MethodName) jdk_42_method_54_code (1 : Nat) (Option.some Jvm.ClassFile.FieldType.int)).before args0 about1 = true := code_word (m := ⟨7, 2⟩) (meth := k7m2) (c := k7c2) (by decide +kernel) rfl rfl rfl (by decide +kernel)
set_option maxRecDepth 65536 in
theorem w_c9 : (Jvm.Cond.code ({ cls := "java/lang/String", name := "coder", desc := "()B" } : Jvm.MethodName) jdk_42_method_152_code (1 : Nat) (Option.some Jvm.ClassFile.FieldType.byte)).before args0 about1 = true := code_word (m := ⟨7, 5⟩) (meth := k7m5) (c := k7c5) (by decide +kernel) rfl rfl rfl (by decide +kernel)
set_option maxRecDepth 65536 in
theorem w_c10 : (Jvm.Cond.code ({ cls := "com/example/tranchery/tranchery/journal/Fields", name := "isMonth", desc := "(Ljava/lang/String;)Z" } : Jvm.MethodName) prog_34_method_16_code (1 : Nat) (Option.some Jvm.ClassFile.FieldType.boolean)).before args0 about1 = true := code_word (m := ⟨9, 2⟩) (meth := k9m2) (c := k9c2) (by decide +kernel) rfl rfl rfl (by decide +kernel)
set_option maxRecDepth 65536 in
theorem w_c11 : (Jvm.Cond.code ({ cls := "com/example/tranchery/tranchery/journal/Fields", name := "isDigits", desc := "(Ljava/lang/String;II)Z" } : Jvm.MethodName) prog_34_method_19_code (4 : Nat) (Option.some Jvm.ClassFile.FieldType.boolean)).before args0 about1 = true := code_word (m := ⟨9, 3⟩) (meth := k9m3) (c := k9c3) (by decide +kernel) rfl rfl rfl (by decide +kernel)
set_option maxRecDepth 65536 in
theorem w_c12 : (Jvm.Cond.code ({ cls := "java/lang/String", name := "charAt", desc := "(I)C" } : Jvm.MethodName) jdk_42_method_56_code (2 : Nat) (Option.some Jvm.ClassFile.FieldType.char)).before args0 about1 = true := code_word (m := ⟨7, 3⟩) (meth := k7m3) (c := k7c3) (by decide +kernel) rfl rfl rfl (by decide +kernel)
set_option maxRecDepth 65536 in
theorem w_c13 : (Jvm.Cond.code ({ cls := "java/lang/String", name := "isLatin1", desc := "()Z" } : Jvm.MethodName) jdk_42_method_154_code (1 : Nat) (Option.some Jvm.ClassFile.FieldType.boolean)).before args0 about1 = true := code_word (m := ⟨7, 6⟩) (meth := k7m6) (c := k7c6) (by decide +kernel) rfl rfl rfl (by decide +kernel)
set_option maxRecDepth 65536 in
theorem w_c14 : (Jvm.Cond.code ({ cls := "java/lang/StringLatin1", name := "charAt", desc := "([BI)C" } : Jvm.MethodName) jdk_43_method_2_code (2 : Nat) (Option.some Jvm.ClassFile.FieldType.char)).before args0 about1 = true := code_word (m := ⟨10, 1⟩) (meth := k10m1) (c := k10c1) (by decide +kernel) rfl rfl rfl (by decide +kernel)
set_option maxRecDepth 65536 in
theorem w_c15 : (Jvm.Cond.code ({ cls := "java/lang/String", name := "checkIndex", desc := "(II)V" } : Jvm.MethodName) jdk_42_method_155_code (2 : Nat) (Option.none : Option Jvm.ClassFile.FieldType)).before args0 about1 = true := code_word (m := ⟨7, 7⟩) (meth := k7m7) (c := k7c7) (by decide +kernel) rfl rfl rfl (by decide +kernel)
set_option maxRecDepth 65536 in
theorem w_c16 : (Jvm.Cond.code ({ cls := "jdk/internal/util/Preconditions", name := "checkIndex", desc := "(IILjava/util/function/BiFunction;)I" } : Jvm.MethodName) jdk_41_method_11_code (3 : Nat) (Option.some Jvm.ClassFile.FieldType.int)).before args0 about1 = true := code_word (m := ⟨11, 1⟩) (meth := k11m1) (c := k11c1) (by decide +kernel) rfl rfl rfl (by decide +kernel)
set_option maxRecDepth 65536 in
theorem w_c17 : (Jvm.Cond.code ({ cls := "com/example/tranchery/tranchery/journal/Fields", name := "isDigit", desc := "(C)Z" } : Jvm.MethodName) prog_34_method_20_code (1 : Nat) (Option.some Jvm.ClassFile.FieldType.boolean)).before args0 about1 = true := code_word (m := ⟨9, 4⟩) (meth := k9m4) (c := k9c4) (by decide +kernel) rfl rfl rfl (by decide +kernel)
set_option maxRecDepth 65536 in
theorem w_c18 : (Jvm.Cond.code ({ cls := "com/example/tranchery/tranchery/journal/Fields", name := "number", desc := "(Ljava/lang/String;II)I" } : Jvm.MethodName) prog_34_method_21_code (5 : Nat) (Option.some Jvm.ClassFile.FieldType.int)).before args0 about1 = true := code_word (m := ⟨9, 5⟩) (meth := k9m5) (c := k9c5) (by decide +kernel) rfl rfl rfl (by decide +kernel)
set_option maxRecDepth 65536 in
theorem w_c19 : (Jvm.Cond.code ({ cls := "java/time/LocalDate", name := "of", desc := "(III)Ljava/time/LocalDate;" } : Jvm.MethodName) jdk_2323_method_5_code (3 : Nat) (Option.some (Jvm.ClassFile.FieldType.object "java/time/LocalDate"))).before args0 about1 = true := code_word (m := ⟨16, 0⟩) (meth := k16m0) (c := k16c0) (by decide +kernel) rfl rfl rfl (by decide +kernel)
set_option maxRecDepth 65536 in
theorem w_c20 : (Jvm.Cond.code ({ cls := "java/time/temporal/ChronoField", name := "checkValidValue", desc := "(J)J" } : Jvm.MethodName) jdk_2395_method_11_code (3 : Nat) (Option.some Jvm.ClassFile.FieldType.long)).before args0 about1 = true := code_word (m := ⟨19, 1⟩) (meth := k19m1) (c := k19c1) (by decide +kernel) rfl rfl rfl (by decide +kernel)
set_option maxRecDepth 65536 in
theorem w_c21 : (Jvm.Cond.code ({ cls := "java/time/temporal/ChronoField", name := "range", desc := "()Ljava/time/temporal/ValueRange;" } : Jvm.MethodName) jdk_2395_method_8_code (1 : Nat) (Option.some (Jvm.ClassFile.FieldType.object "java/time/temporal/ValueRange"))).before args0 about1 = true := code_word (m := ⟨19, 0⟩) (meth := k19m0) (c := k19c0) (by decide +kernel) rfl rfl rfl (by decide +kernel)
set_option maxRecDepth 65536 in
theorem w_c22 : (Jvm.Cond.code ({ cls := "java/time/temporal/ValueRange", name := "checkValidValue", desc := "(JLjava/time/temporal/TemporalField;)J" } : Jvm.MethodName) jdk_2423_method_13_code (4 : Nat) (Option.some Jvm.ClassFile.FieldType.long)).before args0 about1 = true := code_word (m := ⟨20, 3⟩) (meth := k20m3) (c := k20c3) (by decide +kernel) rfl rfl rfl (by decide +kernel)
set_option maxRecDepth 65536 in
theorem w_c23 : (Jvm.Cond.code ({ cls := "java/time/temporal/ValueRange", name := "isValidValue", desc := "(J)Z" } : Jvm.MethodName) jdk_2423_method_11_code (3 : Nat) (Option.some Jvm.ClassFile.FieldType.boolean)).before args0 about1 = true := code_word (m := ⟨20, 2⟩) (meth := k20m2) (c := k20c2) (by decide +kernel) rfl rfl rfl (by decide +kernel)
set_option maxRecDepth 65536 in
theorem w_c24 : (Jvm.Cond.code ({ cls := "java/time/temporal/ValueRange", name := "getMinimum", desc := "()J" } : Jvm.MethodName) jdk_2423_method_6_code (1 : Nat) (Option.some Jvm.ClassFile.FieldType.long)).before args0 about1 = true := code_word (m := ⟨20, 0⟩) (meth := k20m0) (c := k20c0) (by decide +kernel) rfl rfl rfl (by decide +kernel)
set_option maxRecDepth 65536 in
theorem w_c25 : (Jvm.Cond.code ({ cls := "java/time/temporal/ValueRange", name := "getMaximum", desc := "()J" } : Jvm.MethodName) jdk_2423_method_9_code (1 : Nat) (Option.some Jvm.ClassFile.FieldType.long)).before args0 about1 = true := code_word (m := ⟨20, 1⟩) (meth := k20m1) (c := k20c1) (by decide +kernel) rfl rfl rfl (by decide +kernel)
set_option maxRecDepth 65536 in
theorem w_c26 : (Jvm.Cond.code ({ cls := "java/time/LocalDate", name := "create", desc := "(III)Ljava/time/LocalDate;" } : Jvm.MethodName) jdk_2323_method_12_code (4 : Nat) (Option.some (Jvm.ClassFile.FieldType.object "java/time/LocalDate"))).before args0 about1 = true := code_word (m := ⟨16, 1⟩) (meth := k16m1) (c := k16c1) (by decide +kernel) rfl rfl rfl (by decide +kernel)
set_option maxRecDepth 65536 in
theorem w_c27 : (Jvm.Cond.code ({ cls := "java/time/LocalDate", name := "<init>", desc := "(III)V" } : Jvm.MethodName) jdk_2323_method_14_code (4 : Nat) (Option.none : Option Jvm.ClassFile.FieldType)).before args0 about1 = true := code_word (m := ⟨16, 2⟩) (meth := k16m2) (c := k16c2) (by decide +kernel) rfl rfl rfl (by decide +kernel)
set_option maxRecDepth 65536 in
theorem w_c28 : (Jvm.Cond.code ({ cls := "com/example/tranchery/tranchery/journal/BusinessDays", name := "<init>", desc := "(Lcom/example/tranchery/tranchery/journal/BusinessCalendar;Lcom/example/tranchery/tranchery/journal/Roll;)V" } : Jvm.MethodName) prog_23_method_1_code (3 : Nat) (Option.none : Option Jvm.ClassFile.FieldType)).before args0 about1 = true := code_word (m := ⟨22, 0⟩) (meth := k22m0) (c := k22c0) (by decide +kernel) rfl rfl rfl (by decide +kernel)
set_option maxRecDepth 65536 in
theorem w_c29 : (Jvm.Cond.code ({ cls := "java/lang/Record", name := "<init>", desc := "()V" } : Jvm.MethodName) jdk_30_method_1_code (1 : Nat) (Option.none : Option Jvm.ClassFile.FieldType)).before args0 about1 = true := code_word (m := ⟨21, 0⟩) (meth := k21m0) (c := k21c0) (by decide +kernel) rfl rfl rfl (by decide +kernel)
set_option maxRecDepth 65536 in
theorem w_c30 : (Jvm.Cond.code ({ cls := "com/example/tranchery/tranchery/journal/Schedule", name := "<init>", desc := "()V" } : Jvm.MethodName) prog_85_method_1_code (1 : Nat) (Option.none : Option Jvm.ClassFile.FieldType)).before args0 about1 = true := code_word (m := ⟨23, 0⟩) (meth := k23m0) (c := k23c0) (by decide +kernel) rfl rfl rfl (by decide +kernel)
set_option maxRecDepth 65536 in
theorem w_c31 : (Jvm.Cond.code ({ cls := "com/example/tranchery/tranchery/journal/InstallmentQueue", name := "<init>", desc := "()V" } : Jvm.MethodName) prog_47_method_1_code (1 : Nat) (Option.none : Option Jvm.ClassFile.FieldType)).before args0 about1 = true := code_word (m := ⟨24, 0⟩) (meth := k24m0) (c := k24c0) (by decide +kernel) rfl rfl rfl (by decide +kernel)
set_option maxRecDepth 65536 in
theorem w_c32 : (Jvm.Cond.code ({ cls := "com/example/tranchery/tranchery/journal/Timeline", name := "<init>", desc := "()V" } : Jvm.MethodName) prog_91_method_1_code (1 : Nat) (Option.none : Option Jvm.ClassFile.FieldType)).before args0 about1 = true := code_word (m := ⟨25, 0⟩) (meth := k25m0) (c := k25c0) (by decide +kernel) rfl rfl rfl (by decide +kernel)
set_option maxRecDepth 65536 in
theorem w_c33 : (Jvm.Cond.code ({ cls := "com/example/tranchery/tranchery/journal/Schedule", name := "hasRule", desc := "()Z" } : Jvm.MethodName) prog_85_method_2_code (1 : Nat) (Option.some Jvm.ClassFile.FieldType.boolean)).before args0 about1 = true := code_word (m := ⟨23, 1⟩) (meth := k23m1) (c := k23c1) (by decide +kernel) rfl rfl rfl (by decide +kernel)
set_option maxRecDepth 65536 in
theorem w_c34 : (Jvm.Cond.code ({ cls := "com/example/tranchery/tranchery/journal/Timeline", name := "size", desc := "()I" } : Jvm.MethodName) prog_91_method_7_code (1 : Nat) (Option.some Jvm.ClassFile.FieldType.int)).before args0 about1 = true := code_word (m := ⟨25, 2⟩) (meth := k25m2) (c := k25c2) (by decide +kernel) rfl rfl rfl (by decide +kernel)
set_option maxRecDepth 65536 in
theorem w_c35 : (Jvm.Cond.code ({ cls := "com/example/tranchery/tranchery/journal/Schedule", name := "setRule", desc := "(Ljava/time/LocalDate;Lcom/example/tranchery/tranchery/journal/BusinessDays;)V" } : Jvm.MethodName) prog_85_method_3_code (3 : Nat) (Option.none : Option Jvm.ClassFile.FieldType)).before args0 about1 = true := code_word (m := ⟨23, 2⟩) (meth := k23m2) (c := k23c2) (by decide +kernel) rfl rfl rfl (by decide +kernel)
set_option maxRecDepth 65536 in
theorem w_c36 : (Jvm.Cond.code ({ cls := "com/example/tranchery/tranchery/journal/Timeline", name := "set", desc := "(Ljava/time/LocalDate;Ljava/lang/Object;)V" } : Jvm.MethodName) prog_91_method_2_code (5 : Nat) (Option.none : Option Jvm.ClassFile.FieldType)).before args0 about1 = true := code_word (m := ⟨25, 1⟩) (meth := k25m1) (c := k25c1) (by decide +kernel) rfl rfl rfl (by decide +kernel)
set_option maxRecDepth 65536 in
theorem w_c37 : (Jvm.Cond.code ({ cls := "java/time/LocalDate", name := "toEpochDay", desc := "()J" } : Jvm.MethodName) jdk_2323_method_67_code (7 : Nat) (Option.some Jvm.ClassFile.FieldType.long)).before args0 about1 = true := code_word (m := ⟨16, 4⟩) (meth := k16m4) (c := k16c4) (by decide +kernel) rfl rfl rfl (by decide +kernel)
set_option maxRecDepth 65536 in
theorem w_c38 : (Jvm.Cond.code ({ cls := "java/time/LocalDate", name := "isLeapYear", desc := "()Z" } : Jvm.MethodName) jdk_2323_method_30_code (1 : Nat) (Option.some Jvm.ClassFile.FieldType.boolean)).before args0 about1 = true := code_word (m := ⟨16, 3⟩) (meth := k16m3) (c := k16c3) (by decide +kernel) rfl rfl rfl (by decide +kernel)
set_option maxRecDepth 65536 in
theorem w_c39 : (Jvm.Cond.code ({ cls := "java/time/chrono/IsoChronology", name := "isLeapYear", desc := "(J)Z" } : Jvm.MethodName) jdk_2369_method_18_code (3 : Nat) (Option.some Jvm.ClassFile.FieldType.boolean)).before args0 about1 = true := code_word (m := ⟨28, 1⟩) (meth := k28m1) (c := k28c1) (by decide +kernel) rfl rfl rfl (by decide +kernel)
set_option maxRecDepth 65536 in
theorem w_c40 : (Jvm.Cond.code ({ cls := "com/example/tranchery/tranchery/journal/InstallmentQueue", name := "removeAll", desc := "()Ljava/util/List;" } : Jvm.MethodName) prog_47_method_10_code (2 : Nat) (Option.some (Jvm.ClassFile.FieldType.object "java/util/List"))).before args0 about1 = true := code_word (m := ⟨24, 1⟩) (meth := k24m1) (c := k24c1) (by decide +kernel) rfl rfl rfl (by decide +kernel)
set_option maxRecDepth 65536 in
theorem w_c41 : (Jvm.Cond.code ({ cls := "java/util/List", name := "of", desc := "()Ljava/util/List;" } : Jvm.MethodName) jdk_40_method_36_code (0 : Nat) (Option.some (Jvm.ClassFile.FieldType.object "java/util/List"))).before args0 about1 = true := code_word (m := ⟨32, 1⟩) (meth := k32m1) (c := k32c1) (by decide +kernel) rfl rfl rfl (by decide +kernel)
set_option maxRecDepth 65536 in
theorem w_c42 : (Jvm.Cond.code ({ cls := "com/example/tranchery/tranchery/journal/Schedule", name := "refile", desc := "(Ljava/util/List;)V" } : Jvm.MethodName) prog_85_method_15_code (4 : Nat) (Option.none : Option Jvm.ClassFile.FieldType)).before args0 about1 = true := code_word (m := ⟨23, 3⟩) (meth := k23m3) (c := k23c3) (by decide +kernel) rfl rfl rfl (by decide +kernel)
set_option maxRecDepth 65536 in
theorem w_c43 : (Jvm.Cond.code ({ cls := "java/util/ImmutableCollections$AbstractImmutableList", name := "iterator", desc := "()Ljava/util/Iterator;" } : Jvm.MethodName) jdk_46_method_10_code (1 : Nat) (Option.some (Jvm.ClassFile.FieldType.object "java/util/Iterator"))).before args0 about1 = true := code_word (m := ⟨37, 1⟩) (meth := k37m1) (c := k37c1) (by decide +kernel) rfl rfl rfl (by decide +kernel)
set_option maxRecDepth 65536 in
theorem w_c44 : (Jvm.Cond.code ({ cls := "java/util/ImmutableCollections$ListN", name := "size", desc := "()I" } : Jvm.MethodName) jdk_45_method_3_code (1 : Nat) (Option.some Jvm.ClassFile.FieldType.int)).before args0 about1 = true := code_word (m := ⟨38, 0⟩) (meth := k38m0) (c := k38c0) (by decide +kernel) rfl rfl rfl (by decide +kernel)
set_option maxRecDepth 65536 in
theorem w_c45 : (Jvm.Cond.code ({ cls := "java/util/ImmutableCollections$ListItr", name := "<init>", desc := "(Ljava/util/List;I)V" } : Jvm.MethodName) jdk_53_method_1_code (3 : Nat) (Option.none : Option Jvm.ClassFile.FieldType)).before args0 about1 = true := code_word (m := ⟨41, 0⟩) (meth := k41m0) (c := k41c0) (by decide +kernel) rfl rfl rfl (by decide +kernel)
set_option maxRecDepth 65536 in
theorem w_c46 : (Jvm.Cond.code ({ cls := "java/util/ImmutableCollections$ListItr", name := "hasNext", desc := "()Z" } : Jvm.MethodName) jdk_53_method_3_code (1 : Nat) (Option.some Jvm.ClassFile.FieldType.boolean)).before args0 about1 = true := code_word (m := ⟨41, 1⟩) (meth := k41m1) (c := k41c1) (by decide +kernel) rfl rfl rfl (by decide +kernel)
set_option maxRecDepth 65536 in
theorem w_c47 : (Jvm.Cond.code ({ cls := "com/example/tranchery/tranchery/journal/Schedule", name := "fileMaturity", desc := "()V" } : Jvm.MethodName) prog_85_method_16_code (1 : Nat) (Option.none : Option Jvm.ClassFile.FieldType)).before args0 about1 = true := code_word (m := ⟨23, 4⟩) (meth := k23m4) (c := k23c4) (by decide +kernel) rfl rfl rfl (by decide +kernel)
def codes1 : List Jvm.Cond := [Jvm.Cond.code x code maxLocals ret, Jvm.Cond.code ({ cls := "com/example/tranchery/tranchery/journal/ScheduleHasRulePinLaw", name := "text", desc := "(III)Ljava/lang/String;" } : Jvm.MethodName) method_2_code (4 : Nat) (Option.some (Jvm.ClassFile.FieldType.object "java/lang/String")), Jvm.Cond.code ({ cls := "java/lang/String", name := "<init>", desc := "([C)V" } : Jvm.MethodName) jdk_42_method_3_code (2 : Nat) (Option.none : Option Jvm.ClassFile.FieldType), Jvm.Cond.code ({ cls := "java/lang/String", name := "<init>", desc := "([CIILjava/lang/Void;)V" } : Jvm.MethodName) jdk_42_method_149_code (6 : Nat) (Option.none : Option Jvm.ClassFile.FieldType), Jvm.Cond.code ({ cls := "java/lang/Object", name := "<init>", desc := "()V" } : Jvm.MethodName) object_method_1_code (1 : Nat) (Option.none : Option Jvm.ClassFile.FieldType), Jvm.Cond.code ({ cls := "java/lang/StringUTF16", name := "compress", desc := "([CII)[B" } : Jvm.MethodName) jdk_52_method_16_code (6 : Nat) (Option.some (Jvm.ClassFile.FieldType.array Jvm.ClassFile.FieldType.byte)), Jvm.Cond.code ({ cls := "java/lang/StringUTF16", name := "compress", desc := "([CI[BII)I" } : Jvm.MethodName) jdk_52_method_21_code (7 : Nat) (Option.some Jvm.ClassFile.FieldType.int), Jvm.Cond.code ({ cls := "java/lang/StringUTF16", name := "coderFromArrayLen", desc := "([BI)B" } : Jvm.MethodName) jdk_52_method_15_code (2 : Nat) (Option.some Jvm.ClassFile.FieldType.byte), Jvm.Cond.code ({ cls := "java/lang/String", name := "length", desc := "()I" } : Jvm.MethodName) jdk_42_method_54_code (1 : Nat) (Option.some Jvm.ClassFile.FieldType.int), Jvm.Cond.code ({ cls := "java/lang/String", name := "coder", desc := "()B" } : Jvm.MethodName) jdk_42_method_152_code (1 : Nat) (Option.some Jvm.ClassFile.FieldType.byte), Jvm.Cond.code ({ cls := "com/example/tranchery/tranchery/journal/Fields", name := "isMonth", desc := "(Ljava/lang/String;)Z" } : Jvm.MethodName) prog_34_method_16_code (1 : Nat) (Option.some Jvm.ClassFile.FieldType.boolean), Jvm.Cond.code ({ cls := "com/example/tranchery/tranchery/journal/Fields", name := "isDigits", desc := "(Ljava/lang/String;II)Z" } : Jvm.MethodName) prog_34_method_19_code (4 : Nat) (Option.some Jvm.ClassFile.FieldType.boolean), Jvm.Cond.code ({ cls := "java/lang/String", name := "charAt", desc := "(I)C" } : Jvm.MethodName) jdk_42_method_56_code (2 : Nat) (Option.some Jvm.ClassFile.FieldType.char), Jvm.Cond.code ({ cls := "java/lang/String", name := "isLatin1", desc := "()Z" } : Jvm.MethodName) jdk_42_method_154_code (1 : Nat) (Option.some Jvm.ClassFile.FieldType.boolean), Jvm.Cond.code ({ cls := "java/lang/StringLatin1", name := "charAt", desc := "([BI)C" } : Jvm.MethodName) jdk_43_method_2_code (2 : Nat) (Option.some Jvm.ClassFile.FieldType.char), Jvm.Cond.code ({ cls := "java/lang/String", name := "checkIndex", desc := "(II)V" } : Jvm.MethodName) jdk_42_method_155_code (2 : Nat) (Option.none : Option Jvm.ClassFile.FieldType), Jvm.Cond.code ({ cls := "jdk/internal/util/Preconditions", name := "checkIndex", desc := "(IILjava/util/function/BiFunction;)I" } : Jvm.MethodName) jdk_41_method_11_code (3 : Nat) (Option.some Jvm.ClassFile.FieldType.int), Jvm.Cond.code ({ cls := "com/example/tranchery/tranchery/journal/Fields", name := "isDigit", desc := "(C)Z" } : Jvm.MethodName) prog_34_method_20_code (1 : Nat) (Option.some Jvm.ClassFile.FieldType.boolean), Jvm.Cond.code ({ cls := "com/example/tranchery/tranchery/journal/Fields", name := "number", desc := "(Ljava/lang/String;II)I" } : Jvm.MethodName) prog_34_method_21_code (5 : Nat) (Option.some Jvm.ClassFile.FieldType.int), Jvm.Cond.code ({ cls := "java/time/LocalDate", name := "of", desc := "(III)Ljava/time/LocalDate;" } : Jvm.MethodName) jdk_2323_method_5_code (3 : Nat) (Option.some (Jvm.ClassFile.FieldType.object "java/time/LocalDate")), Jvm.Cond.code ({ cls := "java/time/temporal/ChronoField", name := "checkValidValue", desc := "(J)J" } : Jvm.MethodName) jdk_2395_method_11_code (3 : Nat) (Option.some Jvm.ClassFile.FieldType.long), Jvm.Cond.code ({ cls := "java/time/temporal/ChronoField", name := "range", desc := "()Ljava/time/temporal/ValueRange;" } : Jvm.MethodName) jdk_2395_method_8_code (1 : Nat) (Option.some (Jvm.ClassFile.FieldType.object "java/time/temporal/ValueRange")), Jvm.Cond.code ({ cls := "java/time/temporal/ValueRange", name := "checkValidValue", desc := "(JLjava/time/temporal/TemporalField;)J" } : Jvm.MethodName) jdk_2423_method_13_code (4 : Nat) (Option.some Jvm.ClassFile.FieldType.long), Jvm.Cond.code ({ cls := "java/time/temporal/ValueRange", name := "isValidValue", desc := "(J)Z" } : Jvm.MethodName) jdk_2423_method_11_code (3 : Nat) (Option.some Jvm.ClassFile.FieldType.boolean), Jvm.Cond.code ({ cls := "java/time/temporal/ValueRange", name := "getMinimum", desc := "()J" } : Jvm.MethodName) jdk_2423_method_6_code (1 : Nat) (Option.some Jvm.ClassFile.FieldType.long), Jvm.Cond.code ({ cls := "java/time/temporal/ValueRange", name := "getMaximum", desc := "()J" } : Jvm.MethodName) jdk_2423_method_9_code (1 : Nat) (Option.some Jvm.ClassFile.FieldType.long), Jvm.Cond.code ({ cls := "java/time/LocalDate", name := "create", desc := "(III)Ljava/time/LocalDate;" } : Jvm.MethodName) jdk_2323_method_12_code (4 : Nat) (Option.some (Jvm.ClassFile.FieldType.object "java/time/LocalDate")), Jvm.Cond.code ({ cls := "java/time/LocalDate", name := "<init>", desc := "(III)V" } : Jvm.MethodName) jdk_2323_method_14_code (4 : Nat) (Option.none : Option Jvm.ClassFile.FieldType), Jvm.Cond.code ({ cls := "com/example/tranchery/tranchery/journal/BusinessDays", name := "<init>", desc := "(Lcom/example/tranchery/tranchery/journal/BusinessCalendar;Lcom/example/tranchery/tranchery/journal/Roll;)V" } : Jvm.MethodName) prog_23_method_1_code (3 : Nat) (Option.none : Option Jvm.ClassFile.FieldType), Jvm.Cond.code ({ cls := "java/lang/Record", name := "<init>", desc := "()V" } : Jvm.MethodName) jdk_30_method_1_code (1 : Nat) (Option.none : Option Jvm.ClassFile.FieldType), Jvm.Cond.code ({ cls := "com/example/tranchery/tranchery/journal/Schedule", name := "<init>", desc := "()V" } : Jvm.MethodName) prog_85_method_1_code (1 : Nat) (Option.none : Option Jvm.ClassFile.FieldType), Jvm.Cond.code ({ cls := "com/example/tranchery/tranchery/journal/InstallmentQueue", name := "<init>", desc := "()V" } : Jvm.MethodName) prog_47_method_1_code (1 : Nat) (Option.none : Option Jvm.ClassFile.FieldType), Jvm.Cond.code ({ cls := "com/example/tranchery/tranchery/journal/Timeline", name := "<init>", desc := "()V" } : Jvm.MethodName) prog_91_method_1_code (1 : Nat) (Option.none : Option Jvm.ClassFile.FieldType), Jvm.Cond.code ({ cls := "com/example/tranchery/tranchery/journal/Schedule", name := "hasRule", desc := "()Z" } : Jvm.MethodName) prog_85_method_2_code (1 : Nat) (Option.some Jvm.ClassFile.FieldType.boolean), Jvm.Cond.code ({ cls := "com/example/tranchery/tranchery/journal/Timeline", name := "size", desc := "()I" } : Jvm.MethodName) prog_91_method_7_code (1 : Nat) (Option.some Jvm.ClassFile.FieldType.int), Jvm.Cond.code ({ cls := "com/example/tranchery/tranchery/journal/Schedule", name := "setRule", desc := "(Ljava/time/LocalDate;Lcom/example/tranchery/tranchery/journal/BusinessDays;)V" } : Jvm.MethodName) prog_85_method_3_code (3 : Nat) (Option.none : Option Jvm.ClassFile.FieldType), Jvm.Cond.code ({ cls := "com/example/tranchery/tranchery/journal/Timeline", name := "set", desc := "(Ljava/time/LocalDate;Ljava/lang/Object;)V" } : Jvm.MethodName) prog_91_method_2_code (5 : Nat) (Option.none : Option Jvm.ClassFile.FieldType), Jvm.Cond.code ({ cls := "java/time/LocalDate", name := "toEpochDay", desc := "()J" } : Jvm.MethodName) jdk_2323_method_67_code (7 : Nat) (Option.some Jvm.ClassFile.FieldType.long), Jvm.Cond.code ({ cls := "java/time/LocalDate", name := "isLeapYear", desc := "()Z" } : Jvm.MethodName) jdk_2323_method_30_code (1 : Nat) (Option.some Jvm.ClassFile.FieldType.boolean), Jvm.Cond.code ({ cls := "java/time/chrono/IsoChronology", name := "isLeapYear", desc := "(J)Z" } : Jvm.MethodName) jdk_2369_method_18_code (3 : Nat) (Option.some Jvm.ClassFile.FieldType.boolean), Jvm.Cond.code ({ cls := "com/example/tranchery/tranchery/journal/InstallmentQueue", name := "removeAll", desc := "()Ljava/util/List;" } : Jvm.MethodName) prog_47_method_10_code (2 : Nat) (Option.some (Jvm.ClassFile.FieldType.object "java/util/List")), Jvm.Cond.code ({ cls := "java/util/List", name := "of", desc := "()Ljava/util/List;" } : Jvm.MethodName) jdk_40_method_36_code (0 : Nat) (Option.some (Jvm.ClassFile.FieldType.object "java/util/List")), Jvm.Cond.code ({ cls := "com/example/tranchery/tranchery/journal/Schedule", name := "refile", desc := "(Ljava/util/List;)V" } : Jvm.MethodName) prog_85_method_15_code (4 : Nat) (Option.none : Option Jvm.ClassFile.FieldType), Jvm.Cond.code ({ cls := "java/util/ImmutableCollections$AbstractImmutableList", name := "iterator", desc := "()Ljava/util/Iterator;" } : Jvm.MethodName) jdk_46_method_10_code (1 : Nat) (Option.some (Jvm.ClassFile.FieldType.object "java/util/Iterator")), Jvm.Cond.code ({ cls := "java/util/ImmutableCollections$ListN", name := "size", desc := "()I" } : Jvm.MethodName) jdk_45_method_3_code (1 : Nat) (Option.some Jvm.ClassFile.FieldType.int), Jvm.Cond.code ({ cls := "java/util/ImmutableCollections$ListItr", name := "<init>", desc := "(Ljava/util/List;I)V" } : Jvm.MethodName) jdk_53_method_1_code (3 : Nat) (Option.none : Option Jvm.ClassFile.FieldType), Jvm.Cond.code ({ cls := "java/util/ImmutableCollections$ListItr", name := "hasNext", desc := "()Z" } : Jvm.MethodName) jdk_53_method_3_code (1 : Nat) (Option.some Jvm.ClassFile.FieldType.boolean), Jvm.Cond.code ({ cls := "com/example/tranchery/tranchery/journal/Schedule", name := "fileMaturity", desc := "()V" } : Jvm.MethodName) prog_85_method_16_code (1 : Nat) (Option.none : Option Jvm.ClassFile.FieldType)]
set_option maxRecDepth 65536 in
theorem codes_eq : words1.filter isCode = codes1 := rfl
theorem w_codes : ∀ c ∈ words1.filter isCode, c.before args0 about1 = true := by
  rw [codes_eq]
  intro c hc
  simp only [codes1, List.mem_cons, List.not_mem_nil, or_false] at hc
  rcases hc with rfl | rfl | rfl | rfl | rfl | rfl | rfl | rfl | rfl | rfl | rfl | rfl | rfl | rfl | rfl | rfl | rfl | rfl | rfl | rfl | rfl | rfl | rfl | rfl | rfl | rfl | rfl | rfl | rfl | rfl | rfl | rfl | rfl | rfl | rfl | rfl | rfl | rfl | rfl | rfl | rfl | rfl | rfl | rfl | rfl | rfl | rfl | rfl
  · exact w_c0
  · exact w_c1
  · exact w_c2
  · exact w_c3
  · exact w_c4
  · exact w_c5
  · exact w_c6
  · exact w_c7
  · exact w_c8
  · exact w_c9
  · exact w_c10
  · exact w_c11
  · exact w_c12
  · exact w_c13
  · exact w_c14
  · exact w_c15
  · exact w_c16
  · exact w_c17
  · exact w_c18
  · exact w_c19
  · exact w_c20
  · exact w_c21
  · exact w_c22
  · exact w_c23
  · exact w_c24
  · exact w_c25
  · exact w_c26
  · exact w_c27
  · exact w_c28
  · exact w_c29
  · exact w_c30
  · exact w_c31
  · exact w_c32
  · exact w_c33
  · exact w_c34
  · exact w_c35
  · exact w_c36
  · exact w_c37
  · exact w_c38
  · exact w_c39
  · exact w_c40
  · exact w_c41
  · exact w_c42
  · exact w_c43
  · exact w_c44
  · exact w_c45
  · exact w_c46
  · exact w_c47
set_option maxRecDepth 65536 in
theorem w_t1 : (words1.take 24).all (fun c => isCode c || c.before args0 about1) = true := by decide +kernel
set_option maxRecDepth 65536 in
theorem w_t2 : ((words1.drop 24).take 24).all (fun c => isCode c || c.before args0 about1) = true := by decide +kernel
set_option maxRecDepth 65536 in
theorem w_t3 : (((words1.drop 24).drop 24).take 24).all (fun c => isCode c || c.before args0 about1) = true := by decide +kernel
set_option maxRecDepth 65536 in
theorem w_t4 : ((((words1.drop 24).drop 24).drop 24).take 24).all (fun c => isCode c || c.before args0 about1) = true := by decide +kernel
set_option maxRecDepth 65536 in
theorem w_t5 : (((((words1.drop 24).drop 24).drop 24).drop 24).take 24).all (fun c => isCode c || c.before args0 about1) = true := by decide +kernel
set_option maxRecDepth 65536 in
theorem w_t6 : ((((((words1.drop 24).drop 24).drop 24).drop 24).drop 24).take 24).all (fun c => isCode c || c.before args0 about1) = true := by decide +kernel
set_option maxRecDepth 65536 in
theorem w_t7 : (((((((words1.drop 24).drop 24).drop 24).drop 24).drop 24).drop 24).take 24).all (fun c => isCode c || c.before args0 about1) = true := by decide +kernel
set_option maxRecDepth 65536 in
theorem w_t8 : ((((((((words1.drop 24).drop 24).drop 24).drop 24).drop 24).drop 24).drop 24).take 24).all (fun c => isCode c || c.before args0 about1) = true := by decide +kernel
set_option maxRecDepth 65536 in
theorem w_t9 : (((((((((words1.drop 24).drop 24).drop 24).drop 24).drop 24).drop 24).drop 24).drop 24).take 24).all (fun c => isCode c || c.before args0 about1) = true := by decide +kernel
set_option maxRecDepth 65536 in
theorem w_t10 : ((((((((((words1.drop 24).drop 24).drop 24).drop 24).drop 24).drop 24).drop 24).drop 24).drop 24).take 24).all (fun c => isCode c || c.before args0 about1) = true := by decide +kernel
set_option maxRecDepth 65536 in
theorem w_t11 : (((((((((((words1.drop 24).drop 24).drop 24).drop 24).drop 24).drop 24).drop 24).drop 24).drop 24).drop 24).take 24).all (fun c => isCode c || c.before args0 about1) = true := by decide +kernel
set_option maxRecDepth 65536 in
theorem w_t12 : ((((((((((((words1.drop 24).drop 24).drop 24).drop 24).drop 24).drop 24).drop 24).drop 24).drop 24).drop 24).drop 24).take 24).all (fun c => isCode c || c.before args0 about1) = true := by decide +kernel
set_option maxRecDepth 65536 in
theorem w_t13 : (((((((((((((words1.drop 24).drop 24).drop 24).drop 24).drop 24).drop 24).drop 24).drop 24).drop 24).drop 24).drop 24).drop 24).take 24).all (fun c => isCode c || c.before args0 about1) = true := by decide +kernel
set_option maxRecDepth 65536 in
theorem w_t14 : (((((((((((((words1.drop 24).drop 24).drop 24).drop 24).drop 24).drop 24).drop 24).drop 24).drop 24).drop 24).drop 24).drop 24).drop 24).all (fun c => isCode c || c.before args0 about1) = true := by decide +kernel
theorem w_tables : (allAtoms (Jvm.Cond.code x code maxLocals ret :: tables_1)).before args0 about1 = true := by
  rw [allAtoms_all]
  show words1.all (fun c => c.before args0 about1) = true
  refine all_split ?_ w_codes
  rw [← List.take_append_drop 24 words1, List.all_append, w_t1, ← List.take_append_drop 24 (words1.drop 24), List.all_append, w_t2, ← List.take_append_drop 24 ((words1.drop 24).drop 24), List.all_append, w_t3, ← List.take_append_drop 24 (((words1.drop 24).drop 24).drop 24), List.all_append, w_t4, ← List.take_append_drop 24 ((((words1.drop 24).drop 24).drop 24).drop 24), List.all_append, w_t5, ← List.take_append_drop 24 (((((words1.drop 24).drop 24).drop 24).drop 24).drop 24), List.all_append, w_t6, ← List.take_append_drop 24 ((((((words1.drop 24).drop 24).drop 24).drop 24).drop 24).drop 24), List.all_append, w_t7, ← List.take_append_drop 24 (((((((words1.drop 24).drop 24).drop 24).drop 24).drop 24).drop 24).drop 24), List.all_append, w_t8, ← List.take_append_drop 24 ((((((((words1.drop 24).drop 24).drop 24).drop 24).drop 24).drop 24).drop 24).drop 24), List.all_append, w_t9, ← List.take_append_drop 24 (((((((((words1.drop 24).drop 24).drop 24).drop 24).drop 24).drop 24).drop 24).drop 24).drop 24), List.all_append, w_t10, ← List.take_append_drop 24 ((((((((((words1.drop 24).drop 24).drop 24).drop 24).drop 24).drop 24).drop 24).drop 24).drop 24).drop 24), List.all_append, w_t11, ← List.take_append_drop 24 (((((((((((words1.drop 24).drop 24).drop 24).drop 24).drop 24).drop 24).drop 24).drop 24).drop 24).drop 24).drop 24), List.all_append, w_t12, ← List.take_append_drop 24 ((((((((((((words1.drop 24).drop 24).drop 24).drop 24).drop 24).drop 24).drop 24).drop 24).drop 24).drop 24).drop 24).drop 24), List.all_append, w_t13, w_t14]
  rfl
set_option maxRecDepth 65536 in
theorem w_rest : rest_1_c.before args0 about1 = true := by decide +kernel
set_option maxRecDepth 65536 in
theorem w_case : (Jvm.Cond.and given_1 narrow_1).before args0 about1 = true := by decide +kernel
theorem w_applies : (headSpec (Jvm.Cond.code x code maxLocals ret :: tables_1) room_1).applies x e0.platform about1 = true :=
  (Spec.applies_iff w_frames).mpr ⟨w_running, w_runnable, w_alone, w_named, w_hears, w_ripe, w_room, w_tables⟩
theorem atStart : AtStart classFile x code maxLocals ret World_1 tables_1 room_1 Calls_1 rest_1 Pre_1 launch0 p0 e0 about1 theMethod args0 below0 :=
  ⟨lists_1, trivial, launch0.admits_env _ _ _, launch0.least_env, fairChoices_fair.cas, fairChoices_fair.clock, w_frames, w_args, w_heap, w_applies, trivial, w_rest, w_case⟩
end start1
theorem witness_1 : WitnessClaimed_1 := ⟨start1.p0, start1.e0, start1.about1, start1.theMethod, start1.args0, start1.below0, start1.atStart⟩
end Jvm.Pilot.@@N@@
