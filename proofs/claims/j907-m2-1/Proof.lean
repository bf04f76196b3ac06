import JvmDerived
import JvmDerived.Pilot.@@N@@Statement
import JvmDerived.Pilot.@@N@@Code
set_option linter.unusedVariables false
set_option linter.unusedSimpArgs false
namespace Jvm.RoadKit
open Sem ClassFile Op Lib Jvm.Stand Jvm.Free Jvm.LawKit
section New
variable {p : Program} {l : Launch} {e : Env} {R : Room} {s : State} {m : MethodId} {args : Array Value} {below : List Frame} {meth : Method} {c : Code} {T : State} {locs : List Loc} {cells slots : Nat}
theorem retI (X : Stand p l e R s m args below meth c T locs cells slots) (hx : p.tables.exec = Jvm.exec) {pc : Nat} {Ls : Array Slot} {z : Int32} {rest : List Value} (hret : meth.sig.returnType = some .int) (hd : decode c.code pc = .ok (.ireturn, 1)) {fs : List Frame}
    (hl : ∀ (f : JFrame) (acts : List Action), f.method = m → f.locked = none → f.entered = [] → (doReturn e (T.setTop f) acts (some (.int z))).1 = T.setFrames fs) : Steps p.tables e below (T.setTop (mkF m pc Ls (.int z :: rest))) (T.setFrames fs) := by
  have hm' : T.vm.method? m = some meth := X.method'
  have hn : narrow .int (.int z) = .int z := rfl
  show Steps p.tables e below (T.setTop { method := m, pc := pc, locals := Ls, stack := _ :: rest, locked := none }) _
  jvm_step X.here [X.here.top, hx, hd, hm', hret, hn]
  first | (intro acts; rw [hl _ acts rfl rfl rfl]) | rw [hl _ _ rfl rfl rfl]
  exact Steps.refl _
end New
end Jvm.RoadKit
/- laws to paste: Road.backV, Road.lenW, Road.chN, Road.eqW, Road.empW, Road.codOf, narrow_ch (cut by pick.py; bodies as the Statement names them) -/
namespace Jvm.Pilot.@@N@@
namespace StrChars
open Jvm Sem ClassFile Op Lib Jvm.Stand Jvm.Free.XT Jvm.Free.ALB Jvm.Free.JM Jvm.Free
open Jvm.Lib.Cold (StaticIs)
/-- a char array whose places are chars -/
def Ch (a : Addr) (A : Cell) (U : State) : Prop := Arr .char a A U ∧ Typed .char A
theorem Ch.mv {a : Addr} {A : Cell} {U U' : State} (h : Ch a A U) (hal : U.vm.Alike U'.vm) (hh : U'.heap = U.heap) : Ch a A U' := ⟨h.1.mv hal hh, h.2⟩
theorem Ch.keep {a : Addr} {A : Cell} {U U' : State} (h : Ch a A U) (hal : U.vm.Alike U'.vm) (hk : U'.heap[a]? = some A) : Ch a A U' := ⟨h.1.keep hal hk, h.2⟩
/-- what place i of a char[]'s cell holds -/
def cv (A : Cell) (i : Nat) : Int32 := match A.slots[i]? with | some (.int x) => x | _ => 0
theorem Ch.get {a : Addr} {A : Cell} {U : State} (h : Ch a A U) {i : Nat} (hi : i < A.slots.size) : A.slots[i]? = some (.int (cv A i)) := by
  have e := Array.getElem?_eq_getElem hi
  have f := h.2 i _ e
  unfold cv; rw [e]
  generalize A.slots[i] = v at f
  cases v <;> simp [fits] at f ⊢
/-- the byte that i2b leaves of a char -/
def lo8 (x : Int32) : Int32 := x.toInt8.toInt32
theorem fits_lo8 (y : Int32) : fits .byte (.int (lo8 y)) = true := by
  have h1 := y.toInt8.le_toInt
  have h2 := y.toInt8.toInt_lt
  simp only [lo8, fits, Bool.and_eq_true, decide_eq_true_eq, Int32.le_iff_toInt_le, Int8.toInt_toInt32, show (-128 : Int32).toInt = -128 from by decide, show (127 : Int32).toInt = 127 from by decide]
  omega
/-- A' is A but that each place j of lo .. hi - 1 holds f j -/
def Laid (A A' : Cell) (lo hi : Nat) (f : Nat → Value) : Prop := A'.cls = A.cls ∧ A'.vm = A.vm ∧ A'.slots.size = A.slots.size ∧ ∀ i, A'.slots[i]? = if lo ≤ i ∧ i < hi then some (f i) else A.slots[i]?
theorem Laid.zero (A : Cell) (lo : Nat) (f : Nat → Value) : Laid A A lo (lo + 0) f := ⟨rfl, rfl, rfl, fun i => by rw [if_neg (by omega)]⟩
theorem Laid.step {A Ak : Cell} {lo k : Nat} {f : Nat → Value} {v : Value} (h : Laid A Ak lo k f) (hlo : lo ≤ k) (hk : k < Ak.slots.size) (hv : v = f k) : Laid A (Ak.setSlot k v) lo (k + 1) f := by
  refine ⟨h.1, h.2.1, by simpa [Cell.setSlot] using h.2.2.1, fun i => ?_⟩
  by_cases e : k = i
  · subst e; rw [Cell.slots_setSlot_self v hk, if_pos (by omega), hv]
  · rw [Cell.slots_setSlot_ne v e, h.2.2.2 i]
    by_cases q : lo ≤ i ∧ i < k
    · rw [if_pos q, if_pos (by omega)]
    · rw [if_neg q, if_neg (by omega)]
def U16 : String := "java/lang/StringUTF16"
namespace Cmp5
def yN : MethodName := ⟨"java/lang/StringUTF16", "compress", "([CI[BII)I"⟩
abbrev yB : ByteArray := jdk_52_method_21_code
theorem d0 : decode yB 0 = .ok (.iconst 0, 1) := by decide +kernel
theorem d1 : decode yB 1 = .ok (.istore 5, 2) := by decide +kernel
theorem d3 : decode yB 3 = .ok (.iload 5, 2) := by decide +kernel
theorem d5 : decode yB 5 = .ok (.iload 4, 2) := by decide +kernel
theorem d7 : decode yB 7 = .ok (.if_icmp (.ge) 37, 3) := by decide +kernel
theorem d10 : decode yB 10 = .ok (.aload_n 0, 1) := by decide +kernel
theorem d11 : decode yB 11 = .ok (.iload_n 1, 1) := by decide +kernel
theorem d12 : decode yB 12 = .ok (.caload, 1) := by decide +kernel
theorem d13 : decode yB 13 = .ok (.istore 6, 2) := by decide +kernel
theorem d15 : decode yB 15 = .ok (.iload 6, 2) := by decide +kernel
theorem d17 : decode yB 17 = .ok (.sipush 255, 3) := by decide +kernel
theorem d20 : decode yB 20 = .ok (.if_icmp (.le) 6, 3) := by decide +kernel
theorem d26 : decode yB 26 = .ok (.aload_n 2, 1) := by decide +kernel
theorem d27 : decode yB 27 = .ok (.iload_n 3, 1) := by decide +kernel
theorem d28 : decode yB 28 = .ok (.iload 6, 2) := by decide +kernel
theorem d30 : decode yB 30 = .ok (.i2b, 1) := by decide +kernel
theorem d31 : decode yB 31 = .ok (.bastore, 1) := by decide +kernel
theorem d32 : decode yB 32 = .ok (.iinc 1 1, 3) := by decide +kernel
theorem d35 : decode yB 35 = .ok (.iinc 3 1, 3) := by decide +kernel
theorem d38 : decode yB 38 = .ok (.iinc 5 1, 3) := by decide +kernel
theorem d41 : decode yB 41 = .ok (.goto (-38), 3) := by decide +kernel
theorem d44 : decode yB 44 = .ok (.iload 4, 2) := by decide +kernel
theorem d46 : decode yB 46 = .ok (.ireturn, 1) := by decide +kernel
def site : List Cond := []
def tab : Cond := tabOf yN yB 7 (some .int) site
def P (b : Addr) (A : Cell) (d : Addr) (B : Cell) (o q len : Nat) (args : Array Value) (s : State) : Prop := args = #[.ref b, .int (Int32.ofNat o), .ref d, .int (Int32.ofNat q), .int (Int32.ofNat len)] ∧ Ch b A s ∧ Arr .byte d B s ∧ b ≠ d ∧ o + len ≤ A.slots.size ∧ q + len ≤ B.slots.size ∧ ∀ i, i < len → ¬ 255 < cv A (o + i)
def E (b : Addr) (A : Cell) (d : Addr) (B : Cell) (o q len : Nat) (r : Option Value) (s u : State) : Prop := r = some (.int (Int32.ofNat len)) ∧ ∃ B', Put d B' s u ∧ Laid B B' q (q + len) (fun j => Value.int (lo8 (cv A (o + (j - q)))))
/-- no char of the range above 255: len; the places written hold each char's low byte -/
theorem law (l : Launch) (b : Addr) (A : Cell) (d : Addr) (B : Cell) (o q len : Nat) : Law l yN 5 5 0 0 yB 7 (some .int) site (P b A d B o q len) (E b A d B o q len) (copyLocs d q len) 0 0 := by
  refine Law.of_walk (plainFor_of_name (by decide +kernel)) (by decide +kernel) (by decide +kernel) (by decide) (fun _ _ h => by rw [h.1]; rfl) (fun _ U U' hal hh h => ⟨h.1, h.2.1.mv hal hh, h.2.2.1.mv hal hh, h.2.2.2⟩) (fun r U U' V V' h1 hal h2 h => ⟨h.1, h.2.elim fun B' q => ⟨B', q.1.mv h1 h2, q.2⟩⟩) ?_
  intro p e s m args below meth c s₁ X0 hexec hbytes hml hret hlk hnm hown hh0 W hP
  obtain ⟨rfl, hA, hB, hne, l1, l2, hp⟩ := hP
  have c1 : Steps p.tables e below (s₁.setTop (entryFrame m #[.ref b, .int (Int32.ofNat o), .ref d, .int (Int32.ofNat q), .int (Int32.ofNat len)] 7)) (s₁.setTop (mkF m 0 #[.val (.ref b), .val (.int (Int32.ofNat o)), .val (.ref d), .val (.int (Int32.ofNat q)), .val (.int (Int32.ofNat len)), .unset, .unset] [])) := entry rfl
  have hA0 := hA.1.mv X0.warmed.alike hh0
  have hB0 := hB.mv X0.warmed.alike hh0
  have a31 := hA.1.2.2.2
  have c2 : Steps p.tables e below (s₁.setTop (entryFrame m #[.ref b, .int (Int32.ofNat o), .ref d, .int (Int32.ofNat q), .int (Int32.ofNat len)] 7)) (s₁.setTop (mkF m 3 #[.val (.ref b), .val (.int (Int32.ofNat o)), .val (.ref d), .val (.int (Int32.ofNat q)), .val (.int (Int32.ofNat len)), .val (.int 0), .unset] [])) := c1.trans (by
    refine iconstV X0.here hexec rfl 0 (hb hbytes d0) (by decide) ?_
    refine XS.istore X0.here hexec rfl (hb hbytes d1) rfl rfl ?_
    exact Steps.refl _)
  have loop : ∀ (r i : Nat), i + r = len → ∀ (z : Slot), (z = .unset ∨ ∃ w, z = .val w ∧ w.category = 1) → ∀ (Tl : State) (Bk : Cell), Stand p l e { frames := 0, locals := 0, cells := 0, slots := 0 } s m #[.ref b, .int (Int32.ofNat o), .ref d, .int (Int32.ofNat q), .int (Int32.ofNat len)] below meth c Tl ([] ++ copyLocs d q i) 0 0 → Put d Bk s₁ Tl → Laid B Bk q (q + i) (fun j => Value.int (lo8 (cv A (o + (j - q))))) →
      Steps p.tables e below (s₁.setTop (entryFrame m #[.ref b, .int (Int32.ofNat o), .ref d, .int (Int32.ofNat q), .int (Int32.ofNat len)] 7)) (Tl.setTop (mkF m 3 #[.val (.ref b), .val (.int (Int32.ofNat (o + i))), .val (.ref d), .val (.int (Int32.ofNat (q + i))), .val (.int (Int32.ofNat len)), .val (.int (Int32.ofNat i)), z] [])) → ∃ (T' : State) (B' : Cell) (z' : Slot), Stand p l e { frames := 0, locals := 0, cells := 0, slots := 0 } s m #[.ref b, .int (Int32.ofNat o), .ref d, .int (Int32.ofNat q), .int (Int32.ofNat len)] below meth c T' ([] ++ copyLocs d q len) 0 0 ∧ Put d B' s₁ T' ∧ Laid B B' q (q + len) (fun j => Value.int (lo8 (cv A (o + (j - q))))) ∧
      Steps p.tables e below (s₁.setTop (entryFrame m #[.ref b, .int (Int32.ofNat o), .ref d, .int (Int32.ofNat q), .int (Int32.ofNat len)] 7)) (T'.setTop (mkF m 3 #[.val (.ref b), .val (.int (Int32.ofNat (o + len))), .val (.ref d), .val (.int (Int32.ofNat (q + len))), .val (.int (Int32.ofNat len)), .val (.int (Int32.ofNat len)), z'] [])) := by
    intro r
    induction r with
    | zero =>
      intro i hi z hz Tl Bk Xl pl fl cl
      have hil : i = len := by omega
      rw [hil] at Xl fl cl
      exact ⟨Tl, Bk, z, Xl, pl, fl, cl⟩
    | succ r ih =>
      intro i hi z hz Tl Bk Xl pl fl cl
      have all := X0.warmed.alike.symm.trans Xl.warmed.alike
      have hAl := hA0.keep all (pl.other hne hA0.1)
      have hBk := hB0.like all pl.1 fl.1 fl.2.1 fl.2.2.1
      have hlt : q + i < Bk.slots.size := by rw [fl.2.2.1]; omega
      have c3 : Steps p.tables e below (s₁.setTop (entryFrame m #[.ref b, .int (Int32.ofNat o), .ref d, .int (Int32.ofNat q), .int (Int32.ofNat len)] 7)) (Tl.setTop (mkF m 12 #[.val (.ref b), .val (.int (Int32.ofNat (o + i))), .val (.ref d), .val (.int (Int32.ofNat (q + i))), .val (.int (Int32.ofNat len)), .val (.int (Int32.ofNat i)), z] [.int (Int32.ofNat (o + i)), .ref b])) := cl.trans (by
        refine XS.iload Xl.here hexec rfl (hb hbytes d3) rfl ?_
        refine XS.iload Xl.here hexec rfl (hb hbytes d5) rfl ?_
        refine XS.icmpNo Xl.here hexec rfl (hb hbytes d7) rfl (ii_ge_f (lt32 (by omega) (by omega))) ?_
        refine XS.aloadN Xl.here hexec rfl (hb hbytes d10) rfl rfl ?_
        refine XS.iloadN Xl.here hexec rfl (hb hbytes d11) rfl ?_
        exact Steps.refl _)
      have c4 : Steps p.tables e below (s₁.setTop (entryFrame m #[.ref b, .int (Int32.ofNat o), .ref d, .int (Int32.ofNat q), .int (Int32.ofNat len)] 7)) (Tl.setTop (mkF m 13 #[.val (.ref b), .val (.int (Int32.ofNat (o + i))), .val (.ref d), .val (.int (Int32.ofNat (q + i))), .val (.int (Int32.ofNat len)), .val (.int (Int32.ofNat i)), z] [.int (cv A (o + i))])) := c3.trans (by
        refine Xl.aget hexec hAl rfl (hA.get (i := o + i) (by omega)) rfl rfl (hb hbytes d12) ?_
        exact Steps.refl _)
      have c5 : Steps p.tables e below (s₁.setTop (entryFrame m #[.ref b, .int (Int32.ofNat o), .ref d, .int (Int32.ofNat q), .int (Int32.ofNat len)] 7)) (Tl.setTop (mkF m 15 #[.val (.ref b), .val (.int (Int32.ofNat (o + i))), .val (.ref d), .val (.int (Int32.ofNat (q + i))), .val (.int (Int32.ofNat len)), .val (.int (Int32.ofNat i)), .val (.int (cv A (o + i)))] [])) := c4.trans (by
        refine XS.istoreS Xl.here hexec rfl (hb hbytes d13) rfl rfl hz ?_
        exact Steps.refl _)
      have c6 : Steps p.tables e below (s₁.setTop (entryFrame m #[.ref b, .int (Int32.ofNat o), .ref d, .int (Int32.ofNat q), .int (Int32.ofNat len)] 7)) (Tl.setTop (mkF m 31 #[.val (.ref b), .val (.int (Int32.ofNat (o + i))), .val (.ref d), .val (.int (Int32.ofNat (q + i))), .val (.int (Int32.ofNat len)), .val (.int (Int32.ofNat i)), .val (.int (cv A (o + i)))] [.int (lo8 (cv A (o + i))), .int (Int32.ofNat (q + i)), .ref d])) := c5.trans (by
        refine XS.iload Xl.here hexec rfl (hb hbytes d15) rfl ?_
        refine sipushV Xl.here hexec rfl 255 (hb hbytes d17) (by decide) ?_
        refine XS.icmpYes Xl.here hexec rfl (pc0 := 20) rfl (hb hbytes d20) rfl (ii_le_t (hp i (by omega))) (by decide) rfl ?_
        refine XS.aloadN Xl.here hexec rfl (hb hbytes d26) rfl rfl ?_
        refine XS.iloadN Xl.here hexec rfl (hb hbytes d27) rfl ?_
        refine XS.iload Xl.here hexec rfl (hb hbytes d28) rfl ?_
        refine i2b Xl.here hexec rfl (hb hbytes d30) rfl ?_
        exact Steps.refl _)
      obtain ⟨T7, X7, p7, st7⟩ := Xl.aput hexec hBk rfl hlt rfl (fits_lo8 (cv A (o + i))) (g := (mkF m 31 #[.val (.ref b), .val (.int (Int32.ofNat (o + i))), .val (.ref d), .val (.int (Int32.ofNat (q + i))), .val (.int (Int32.ofNat len)), .val (.int (Int32.ofNat i)), .val (.int (cv A (o + i)))] [.int (lo8 (cv A (o + i))), .int (Int32.ofNat (q + i)), .ref d])) rfl (rest := []) rfl (hb hbytes d31)
      have c8 : Steps p.tables e below (s₁.setTop (entryFrame m #[.ref b, .int (Int32.ofNat o), .ref d, .int (Int32.ofNat q), .int (Int32.ofNat len)] 7)) (T7.setTop (mkF m 32 #[.val (.ref b), .val (.int (Int32.ofNat (o + i))), .val (.ref d), .val (.int (Int32.ofNat (q + i))), .val (.int (Int32.ofNat len)), .val (.int (Int32.ofNat i)), .val (.int (cv A (o + i)))] [])) := c6.trans (st7 _ (Steps.refl _))
      have c9 : Steps p.tables e below (s₁.setTop (entryFrame m #[.ref b, .int (Int32.ofNat o), .ref d, .int (Int32.ofNat q), .int (Int32.ofNat len)] 7)) (T7.setTop (mkF m 3 #[.val (.ref b), .val (.int (Int32.ofNat (o + i) + 1)), .val (.ref d), .val (.int (Int32.ofNat (q + i) + 1)), .val (.int (Int32.ofNat len)), .val (.int (Int32.ofNat i + 1)), .val (.int (cv A (o + i)))] [])) := c8.trans (by
        refine iincV X7.here hexec rfl 1 (hb hbytes d32) (by decide) rfl rfl ?_
        refine iincV X7.here hexec rfl 1 (hb hbytes d35) (by decide) rfl rfl ?_
        refine iincV X7.here hexec rfl 1 (hb hbytes d38) (by decide) rfl rfl ?_
        refine XS.goto X7.here hexec rfl (pc0 := 41) rfl (hb hbytes d41) (by decide) rfl ?_
        exact Steps.refl _)
      have c10 : Steps p.tables e below (s₁.setTop (entryFrame m #[.ref b, .int (Int32.ofNat o), .ref d, .int (Int32.ofNat q), .int (Int32.ofNat len)] 7)) (T7.setTop (mkF m 3 #[.val (.ref b), .val (.int (Int32.ofNat (o + (i + 1)))), .val (.ref d), .val (.int (Int32.ofNat (q + (i + 1)))), .val (.int (Int32.ofNat len)), .val (.int (Int32.ofNat (i + 1))), .val (.int (cv A (o + i)))] [])) := by
        have := c9
        rw [succ32, succ32, succ32] at this
        exact this
      exact ih (i + 1) (by omega) _ (Or.inr ⟨_, rfl, rfl⟩) T7 _ (by rw [copyLocs_step, ← List.append_assoc]; exact X7) (pl.trans p7) (fl.step (by omega) hlt (by simp)) c10
  obtain ⟨T9, B9, z9, X9, p9, f9, g9⟩ := loop len 0 (by omega) .unset (Or.inl rfl) s₁ B (by simpa [copyLocs] using X0) ⟨hB0.1, fun _ _ => rfl, rfl⟩ (Laid.zero _ _ _) c2
  have c11 : Steps p.tables e below (s₁.setTop (entryFrame m #[.ref b, .int (Int32.ofNat o), .ref d, .int (Int32.ofNat q), .int (Int32.ofNat len)] 7)) (T9.setTop (mkF m 46 #[.val (.ref b), .val (.int (Int32.ofNat (o + len))), .val (.ref d), .val (.int (Int32.ofNat (q + len))), .val (.int (Int32.ofNat len)), .val (.int (Int32.ofNat len)), z9] [.int (Int32.ofNat len)])) := g9.trans (by
    refine XS.iload X9.here hexec rfl (hb hbytes d3) rfl ?_
    refine XS.iload X9.here hexec rfl (hb hbytes d5) rfl ?_
    refine XS.icmpYes X9.here hexec rfl (pc0 := 7) rfl (hb hbytes d7) rfl (ii_ge_t (nlt32 (by omega) (Nat.le_refl _))) (by decide) rfl ?_
    refine XS.iload X9.here hexec rfl (hb hbytes d44) rfl ?_
    exact Steps.refl _)
  exact ⟨T9, some (.int (Int32.ofNat len)), _, _, _, X9, by simp, rfl, rfl, (fun h => by cases h), ⟨rfl, B9, p9.from hh0, f9⟩, fun fs hl => c11.trans (X9.ireturnOut hexec hret rfl (Or.inl rfl) (hb hbytes d46) hl)⟩
end Cmp5
namespace Cmp3
def yN : MethodName := ⟨"java/lang/StringUTF16", "compress", "([CII)[B"⟩
abbrev yB : ByteArray := jdk_52_method_16_code
theorem d0 : decode yB 0 = .ok (.iload_n 2, 1) := by decide +kernel
theorem d1 : decode yB 1 = .ok (.newarray .byte, 2) := by decide +kernel
theorem d3 : decode yB 3 = .ok (.astore_n 3, 1) := by decide +kernel
theorem d4 : decode yB 4 = .ok (.aload_n 0, 1) := by decide +kernel
theorem d5 : decode yB 5 = .ok (.iload_n 1, 1) := by decide +kernel
theorem d6 : decode yB 6 = .ok (.aload_n 3, 1) := by decide +kernel
theorem d7 : decode yB 7 = .ok (.iconst 0, 1) := by decide +kernel
theorem d8 : decode yB 8 = .ok (.iload_n 2, 1) := by decide +kernel
theorem d9 : decode yB 9 = .ok (.invokestatic 115, 3) := by decide +kernel
theorem d12 : decode yB 12 = .ok (.istore 4, 2) := by decide +kernel
theorem d14 : decode yB 14 = .ok (.iload 4, 2) := by decide +kernel
theorem d16 : decode yB 16 = .ok (.iload_n 2, 1) := by decide +kernel
theorem d17 : decode yB 17 = .ok (.if_icmp (.eq) 40, 3) := by decide +kernel
theorem d57 : decode yB 57 = .ok (.aload_n 3, 1) := by decide +kernel
theorem d58 : decode yB 58 = .ok (.areturn, 1) := by decide +kernel
def site : List Cond := [.arrayClass .byte, Cmp5.tab] ++ staticW U16 115 Cmp5.yN
def tab : Cond := tabOf yN yB 6 (some (.array .byte)) site
def P (b : Addr) (A : Cell) (o len : Nat) (args : Array Value) (s : State) : Prop := args = #[.ref b, .int (Int32.ofNat o), .int (Int32.ofNat len)] ∧ Ch b A s ∧ o + len ≤ A.slots.size ∧ len ≤ 536870912 ∧ ∀ i, i < len → ¬ 255 < cv A (o + i)
def E (b : Addr) (A : Cell) (o len : Nat) (r : Option Value) (s u : State) : Prop := NewArr .byte "[B" len (fun j => .int (lo8 (cv A (o + j)))) r s u ∧ u.heap.size = s.heap.size + 1
/-- no char of the range above 255: a new byte[] of their low bytes -/
theorem law (l : Launch) (b : Addr) (A : Cell) (o len : Nat) : Law l yN 3 3 1 18 yB 6 (some (.array .byte)) site (P b A o len) (E b A o len) [] 1 len := by
  refine Law.of_walk (plainFor_of_name (by decide +kernel)) (by decide +kernel) (by decide +kernel) (by decide) (fun _ _ h => by rw [h.1]; rfl) (fun _ U U' hal hh h => ⟨h.1, h.2.1.mv hal hh, h.2.2⟩) (fun r U U' V V' h1 hal h2 h => ⟨NewArr.mv r U U' V V' h1 hal h2 h.1, by rw [h1, h2]; exact h.2⟩) ?_
  intro p e s m args below meth c s₁ X0 hexec hbytes hml hret hlk hnm hown hh0 W hP
  obtain ⟨rfl, hA, l1, l2, hp⟩ := hP
  have a31 := hA.1.2.2.2
  have c1 : Steps p.tables e below (s₁.setTop (entryFrame m #[.ref b, .int (Int32.ofNat o), .int (Int32.ofNat len)] 6)) (s₁.setTop (mkF m 0 #[.val (.ref b), .val (.int (Int32.ofNat o)), .val (.int (Int32.ofNat len)), .unset, .unset, .unset] [])) := entry rfl
  have c2 : Steps p.tables e below (s₁.setTop (entryFrame m #[.ref b, .int (Int32.ofNat o), .int (Int32.ofNat len)] 6)) (s₁.setTop (mkF m 1 #[.val (.ref b), .val (.int (Int32.ofNat o)), .val (.int (Int32.ofNat len)), .unset, .unset, .unset] [.int (Int32.ofNat len)])) := c1.trans (by
    refine XS.iloadN X0.here hexec rfl (hb hbytes d0) rfl ?_
    exact Steps.refl _)
  obtain ⟨T3, B3, X3, ba3, bs3, bv3, bh3, bf3, st3⟩ := X0.anew hexec (atype := .byte) (wk W (.arrayClass .byte)) rfl (by show len * 1 ≤ _; omega) (by omega) (g := (mkF m 1 #[.val (.ref b), .val (.int (Int32.ofNat o)), .val (.int (Int32.ofNat len)), .unset, .unset, .unset] [.int (Int32.ofNat len)])) rfl (hb hbytes d1) (rest := []) rfl (Nat.le_refl _) (by show 0 + len ≤ len; omega)
  rw [hh0] at ba3 st3
  have kp3 : XT.Kept s T3 := (XT.Kept.of_eq hh0).push bh3
  have hA3 := hA.keep X3.warmed.alike (kp3 _ _ hA.1.1)
  have hne : b ≠ s.heap.size := hA.1.ne
  have c4 : Steps p.tables e below (s₁.setTop (entryFrame m #[.ref b, .int (Int32.ofNat o), .int (Int32.ofNat len)] 6)) (T3.setTop (mkF m 3 #[.val (.ref b), .val (.int (Int32.ofNat o)), .val (.int (Int32.ofNat len)), .unset, .unset, .unset] [.ref s.heap.size])) := c2.trans (st3 _ (Steps.refl _))
  have c5 : Steps p.tables e below (s₁.setTop (entryFrame m #[.ref b, .int (Int32.ofNat o), .int (Int32.ofNat len)] 6)) (T3.setTop (mkF m 9 #[.val (.ref b), .val (.int (Int32.ofNat o)), .val (.int (Int32.ofNat len)), .val (.ref s.heap.size), .unset, .unset] [.int (Int32.ofNat len), .int 0, .ref s.heap.size, .int (Int32.ofNat o), .ref b])) := c4.trans (by
    refine XS.astoreN X3.here hexec rfl (hb hbytes d3) rfl rfl rfl ?_
    refine XS.aloadN X3.here hexec rfl (hb hbytes d4) rfl rfl ?_
    refine XS.iloadN X3.here hexec rfl (hb hbytes d5) rfl ?_
    refine XS.aloadN X3.here hexec rfl (hb hbytes d6) rfl rfl ?_
    refine iconstV X3.here hexec rfl 0 (hb hbytes d7) (by decide) ?_
    refine XS.iloadN X3.here hexec rfl (hb hbytes d8) rfl ?_
    exact Steps.refl _)
  obtain ⟨v6, T6, X6, E6, g6⟩ := X3.callS hexec (Cmp5.law l b A s.heap.size B3 o 0 len) hown (wks W (staticW U16 115 Cmp5.yN)) (wk W Cmp5.tab) (W := 0) (Nat.le_of_ble_eq_true rfl) (Nat.le_of_ble_eq_true rfl) (Nat.le_refl _) (by show 0 + len + 0 ≤ len; omega) (g := (mkF m 9 #[.val (.ref b), .val (.int (Int32.ofNat o)), .val (.int (Int32.ofNat len)), .val (.ref s.heap.size), .unset, .unset] [.int (Int32.ofNat len), .int (Int32.ofNat 0), .ref s.heap.size, .int (Int32.ofNat o), .ref b])) rfl (by rw [hml]; rfl) c5 (argsL := [.ref b, .int (Int32.ofNat o), .ref s.heap.size, .int (Int32.ofNat 0), .int (Int32.ofNat len)]) (rest := []) rfl rfl (by show 2 * 0 + 0 ≤ _; decide) (hb hbytes d9) (⟨rfl, hA3, ba3, hne, l1, by rw [bs3]; simp, hp⟩)
  obtain ⟨rfl, B6, p6, f6⟩ := E6
  have c7 : Steps p.tables e below (s₁.setTop (entryFrame m #[.ref b, .int (Int32.ofNat o), .int (Int32.ofNat len)] 6)) (T6.setTop (mkF m 12 #[.val (.ref b), .val (.int (Int32.ofNat o)), .val (.int (Int32.ofNat len)), .val (.ref s.heap.size), .unset, .unset] [.int (Int32.ofNat len)])) := g6
  have c8 : Steps p.tables e below (s₁.setTop (entryFrame m #[.ref b, .int (Int32.ofNat o), .int (Int32.ofNat len)] 6)) (T6.setTop (mkF m 58 #[.val (.ref b), .val (.int (Int32.ofNat o)), .val (.int (Int32.ofNat len)), .val (.ref s.heap.size), .val (.int (Int32.ofNat len)), .unset] [.ref s.heap.size])) := c7.trans (by
    refine XS.istore X6.here hexec rfl (hb hbytes d12) rfl rfl ?_
    refine XS.iload X6.here hexec rfl (hb hbytes d14) rfl ?_
    refine XS.iloadN X6.here hexec rfl (hb hbytes d16) rfl ?_
    refine XS.icmpYes X6.here hexec rfl (pc0 := 17) rfl (hb hbytes d17) rfl (ii_eq_t rfl) (by decide) rfl ?_
    refine XS.aloadN X6.here hexec rfl (hb hbytes d57) rfl rfl ?_
    exact Steps.refl _)
  have X8 := X6.wide (L' := []) (cells' := 1) (slots' := len) (fun x hx hlt => by
    simp only [List.nil_append, copyLocs, List.mem_map, List.mem_range] at hx
    obtain ⟨i, -, rfl⟩ := hx
    exact absurd hlt (Nat.lt_irrefl _)) (Nat.le_refl _) (by omega)
  exact ⟨T6, some (.ref s.heap.size), _, _, _, X8, rfl, rfl, rfl, (fun h => by cases h), ⟨⟨rfl, B6, ba3.like (X3.warmed.alike.symm.trans X6.warmed.alike) p6.1 f6.1 f6.2.1 f6.2.2.1, f6.2.1.trans bv3, by rw [X6.warmed.alike.findClass, f6.1]; exact bf3, by rw [f6.2.2.1, bs3]; simp, fun j hj => by rw [f6.2.2.2 j, if_pos (by omega)]; rfl, kp3.put p6 (Nat.le_refl _)⟩, by rw [p6.2.2, bh3, hh0]; simp⟩, fun fs hl => c8.trans (X8.areturnOut hexec rfl hret rfl (hb hbytes d58) hl)⟩
end Cmp3
namespace CodL
def yN : MethodName := ⟨"java/lang/StringUTF16", "coderFromArrayLen", "([BI)B"⟩
abbrev yB : ByteArray := jdk_52_method_15_code
theorem d0 : decode yB 0 = .ok (.iload_n 1, 1) := by decide +kernel
theorem d1 : decode yB 1 = .ok (.aload_n 0, 1) := by decide +kernel
theorem d2 : decode yB 2 = .ok (.arraylength, 1) := by decide +kernel
theorem d3 : decode yB 3 = .ok (.isub, 1) := by decide +kernel
theorem d4 : decode yB 4 = .ok (.bipush 31, 2) := by decide +kernel
theorem d6 : decode yB 6 = .ok (.iushr, 1) := by decide +kernel
theorem d7 : decode yB 7 = .ok (.i2b, 1) := by decide +kernel
theorem d8 : decode yB 8 = .ok (.ireturn, 1) := by decide +kernel
def site : List Cond := []
def tab : Cond := tabOf yN yB 2 (some .byte) site
def P (d : Addr) (B : Cell) (args : Array Value) (s : State) : Prop := args = #[.ref d, .int (Int32.ofNat B.slots.size)] ∧ Arr .byte d B s
def E (r : Option Value) (s u : State) : Prop := XT.PureE (some (.int 0)) r s u
/-- an array as long as the number of chars: LATIN1 -/
theorem law (l : Launch) (d : Addr) (B : Cell) : Law l yN 2 2 0 0 yB 2 (some .byte) site (P d B) E [] 0 0 := by
  refine Law.of_walk (plainFor_of_name (by decide +kernel)) (by decide +kernel) (by decide +kernel) (by decide) (fun _ _ h => by rw [h.1]; rfl) (fun _ U U' hal hh h => ⟨h.1, h.2.mv hal hh⟩) (fun r U U' V V' h1 hal h2 h => XT.PureE.mv r U U' V V' h1 hal h2 h) ?_
  intro p e s m args below meth c s₁ X0 hexec hbytes hml hret hlk hnm hown hh0 W hP
  obtain ⟨rfl, hB⟩ := hP
  have hB0 := hB.mv X0.warmed.alike hh0
  have c1 : Steps p.tables e below (s₁.setTop (entryFrame m #[.ref d, .int (Int32.ofNat B.slots.size)] 2)) (s₁.setTop (mkF m 0 #[.val (.ref d), .val (.int (Int32.ofNat B.slots.size))] [])) := entry rfl
  have c2 : Steps p.tables e below (s₁.setTop (entryFrame m #[.ref d, .int (Int32.ofNat B.slots.size)] 2)) (s₁.setTop (mkF m 2 #[.val (.ref d), .val (.int (Int32.ofNat B.slots.size))] [.ref d, .int (Int32.ofNat B.slots.size)])) := c1.trans (by
    refine XS.iloadN X0.here hexec rfl (hb hbytes d0) rfl ?_
    refine XS.aloadN X0.here hexec rfl (hb hbytes d1) rfl rfl ?_
    exact Steps.refl _)
  have c3 : Steps p.tables e below (s₁.setTop (entryFrame m #[.ref d, .int (Int32.ofNat B.slots.size)] 2)) (s₁.setTop (mkF m 8 #[.val (.ref d), .val (.int (Int32.ofNat B.slots.size))] [.int (lo8 (ushr (Int32.ofNat B.slots.size - Int32.ofNat B.slots.size) 31))])) := c2.trans (by
    refine X0.alen hexec hB0 rfl rfl (hb hbytes d2) ?_
    refine XS.isub X0.here hexec rfl (hb hbytes d3) rfl ?_
    refine bipushV X0.here hexec rfl 31 (hb hbytes d4) (by decide) ?_
    refine iushr X0.here hexec rfl (hb hbytes d6) rfl ?_
    refine i2b X0.here hexec rfl (hb hbytes d7) rfl ?_
    exact Steps.refl _)
  have e0 : lo8 (ushr (Int32.ofNat B.slots.size - Int32.ofNat B.slots.size) 31) = 0 := by rw [Int32.sub_self]; decide
  rw [e0] at c3
  exact ⟨s₁, some (.int 0), _, _, _, X0, rfl, rfl, rfl, (fun h => by cases h), ⟨rfl, hh0⟩, fun fs hl => c3.trans (X0.ireturnOut hexec hret rfl (Or.inr (Or.inr (Or.inl rfl))) (hb hbytes d8) hl)⟩
end CodL
/-- the String at a is Latin-1 over a new byte[] (the heap's one new cell): the low bytes of the len chars of A from o on; every cell but a is kept -/
def Got (a : Addr) (D : Cell) (fV fC : Field) (A : Cell) (o len : Nat) (r : Option Value) (s u : State) : Prop := r = none ∧ ∃ D' V : Cell, Blank "java/lang/String" a D' u ∧ Same D D' [fV.slot, fC.slot] ∧ D'.slots[fV.slot]? = some (.ref s.heap.size) ∧ D'.slots[fC.slot]? = some (.int 0) ∧ Arr .byte s.heap.size V u ∧ V.vm = .none ∧ u.vm.findClass "[B" = some V.cls ∧ V.slots.size = len ∧ (∀ j, j < len → V.slots[j]? = some (.int (lo8 (cv A (o + j))))) ∧ (∀ (y : Addr) (c : Cell), y ≠ a → s.heap[y]? = some c → u.heap[y]? = some c) ∧ u.heap.size = s.heap.size + 1
theorem Got.mv {a : Addr} {D A : Cell} {fV fC : Field} {o len : Nat} : ∀ r (U U' V V' : State), U'.heap = U.heap → V.vm.Alike V'.vm → V'.heap = V.heap → Got a D fV fC A o len r U V → Got a D fV fC A o len r U' V' :=
  fun r U U' V V' h1 hal h2 ⟨e0, D', X, a1, a2, a3, a4, a5, a6, a7, a8, a9, a10, a11⟩ => ⟨e0, D', X, a1.mv hal h2, a2, by rw [h1]; exact a3, a4, by rw [h1]; exact a5.mv hal h2, a6, by rw [hal.findClass]; exact a7, a8, a9, by rw [h1, h2]; exact a10, by rw [h1, h2]; exact a11⟩
namespace New4
def yN : MethodName := ⟨"java/lang/String", "<init>", "([CIILjava/lang/Void;)V"⟩
abbrev yB : ByteArray := jdk_42_method_149_code
theorem d0 : decode yB 0 = .ok (.aload_n 0, 1) := by decide +kernel
theorem d1 : decode yB 1 = .ok (.invokespecial 1, 3) := by decide +kernel
theorem d4 : decode yB 4 = .ok (.iload_n 3, 1) := by decide +kernel
theorem d5 : decode yB 5 = .ok (.ifCond (.ne) 22, 3) := by decide +kernel
theorem d27 : decode yB 27 = .ok (.getstatic 38, 3) := by decide +kernel
theorem d30 : decode yB 30 = .ok (.ifCond (.eq) 28, 3) := by decide +kernel
theorem d33 : decode yB 33 = .ok (.aload_n 1, 1) := by decide +kernel
theorem d34 : decode yB 34 = .ok (.iload_n 2, 1) := by decide +kernel
theorem d35 : decode yB 35 = .ok (.iload_n 3, 1) := by decide +kernel
theorem d36 : decode yB 36 = .ok (.invokestatic 177, 3) := by decide +kernel
theorem d39 : decode yB 39 = .ok (.astore 5, 2) := by decide +kernel
theorem d41 : decode yB 41 = .ok (.aload_n 0, 1) := by decide +kernel
theorem d42 : decode yB 42 = .ok (.aload 5, 2) := by decide +kernel
theorem d44 : decode yB 44 = .ok (.iload_n 3, 1) := by decide +kernel
theorem d45 : decode yB 45 = .ok (.invokestatic 47, 3) := by decide +kernel
theorem d48 : decode yB 48 = .ok (.putfield 15, 3) := by decide +kernel
theorem d51 : decode yB 51 = .ok (.aload_n 0, 1) := by decide +kernel
theorem d52 : decode yB 52 = .ok (.aload 5, 2) := by decide +kernel
theorem d54 : decode yB 54 = .ok (.putfield 9, 3) := by decide +kernel
theorem d57 : decode yB 57 = .ok (.return_, 1) := by decide +kernel
def site : List Cond := [.fieldLink "java/lang/String" 38 "java/lang/String" "COMPACT_STRINGS" "Z", Cmp3.tab, CodL.tab, .laysFinal "java/lang/String" "java/lang/String" "value" "[B", .fieldLink "java/lang/String" 9 "java/lang/String" "value" "[B", .laysFinal "java/lang/String" "java/lang/String" "coder" "B", .fieldLink "java/lang/String" 15 "java/lang/String" "coder" "B"] ++ objW "java/lang/String" 1 ++ staticW "java/lang/String" 177 Cmp3.yN ++ staticW "java/lang/String" 47 CodL.yN
def tab : Cond := tabOf yN yB 6 none site
def P (a : Addr) (D : Cell) (fV fC : Field) (b : Addr) (A : Cell) (z : Int32) (o len : Nat) (args : Array Value) (s : State) : Prop := args = #[.ref a, .ref b, .int (Int32.ofNat o), .int (Int32.ofNat len), .null] ∧ Blank "java/lang/String" a D s ∧ Found "java/lang/String" "value" "[B" fV s ∧ Found "java/lang/String" "coder" "B" fC s ∧ Ch b A s ∧ StaticIs s "java/lang/String" "COMPACT_STRINGS" "Z" (.int z) ∧ ¬ z = 0 ∧ 0 < len ∧ o + len ≤ A.slots.size ∧ len ≤ 536870912 ∧ ∀ i, i < len → ¬ 255 < cv A (o + i)
def E (a : Addr) (D : Cell) (fV fC : Field) (A : Cell) (o len : Nat) (r : Option Value) (s u : State) : Prop := Got a D fV fC A o len r s u
/-- len > 0, no char of the range above 255: a Latin-1 String of their low bytes -/
theorem law (l : Launch) (a : Addr) (D : Cell) (fV fC : Field) (b : Addr) (A : Cell) (z : Int32) (o len : Nat) : Law l yN 5 4 2 35 yB 6 none site (P a D fV fC b A z o len) (E a D fV fC A o len) [⟨a, fC.slot⟩, ⟨a, fV.slot⟩] 1 len := by
  refine Law.of_walk (plainFor_of_name (by decide +kernel)) (by decide +kernel) (by decide +kernel) (by decide) (fun _ _ h => by rw [h.1]; rfl) (fun _ U U' hal hh h => ⟨h.1, h.2.1.mv hal hh, h.2.2.1.al hal, h.2.2.2.1.al hal, h.2.2.2.2.1.mv hal hh, h.2.2.2.2.2.1.there hal hh, h.2.2.2.2.2.2⟩) (fun r U U' V V' h1 hal h2 h => Got.mv r U U' V V' h1 hal h2 h) ?_
  intro p e s m args below meth c s₁ X0 hexec hbytes hml hret hlk hnm hown hh0 W hP
  obtain ⟨rfl, hB, f1, f2, hA, s1, hz, l0, l1, l2, hp⟩ := hP
  have a31 := hA.1.2.2.2
  have c1 : Steps p.tables e below (s₁.setTop (entryFrame m #[.ref a, .ref b, .int (Int32.ofNat o), .int (Int32.ofNat len), .null] 6)) (s₁.setTop (mkF m 0 #[.val (.ref a), .val (.ref b), .val (.int (Int32.ofNat o)), .val (.int (Int32.ofNat len)), .val .null, .unset] [])) := entry rfl
  have c2 : Steps p.tables e below (s₁.setTop (entryFrame m #[.ref a, .ref b, .int (Int32.ofNat o), .int (Int32.ofNat len), .null] 6)) (s₁.setTop (mkF m 1 #[.val (.ref a), .val (.ref b), .val (.int (Int32.ofNat o)), .val (.int (Int32.ofNat len)), .val .null, .unset] [.ref a])) := c1.trans (by
    refine XS.aloadN X0.here hexec rfl (hb hbytes d0) rfl rfl ?_
    exact Steps.refl _)
  obtain ⟨T3, X3, q3, st3⟩ := X0.oinit hexec hown (wks W (objW "java/lang/String" 1)) (g := (mkF m 1 #[.val (.ref a), .val (.ref b), .val (.int (Int32.ofNat o)), .val (.int (Int32.ofNat len)), .val .null, .unset] [.ref a])) rfl (by rw [hml]; rfl) (rest := []) rfl (hb hbytes d1) (W := 0) (by show 2 * 0 + 0 ≤ _; decide) (Nat.le_of_ble_eq_true rfl) (Nat.le_of_ble_eq_true rfl)
  have hh3 := q3.trans hh0
  have c4 : Steps p.tables e below (s₁.setTop (entryFrame m #[.ref a, .ref b, .int (Int32.ofNat o), .int (Int32.ofNat len), .null] 6)) (T3.setTop (mkF m 27 #[.val (.ref a), .val (.ref b), .val (.int (Int32.ofNat o)), .val (.int (Int32.ofNat len)), .val .null, .unset] [])) := (c2.trans (st3 _ (Steps.refl _))).trans (by
    refine XS.iloadN X3.here hexec rfl (hb hbytes d4) rfl ?_
    refine XS.ifYes X3.here hexec rfl (pc0 := 5) rfl (hb hbytes d5) rfl (i0_ne_t (nz32 (by omega) l0)) (by decide) rfl ?_
    exact Steps.refl _)
  obtain ⟨T5, X5, q5, st5⟩ := X3.sget hexec hown (wk W (.fieldLink "java/lang/String" 38 "java/lang/String" "COMPACT_STRINGS" "Z")) s1 (fun _ _ h => by rw [hh3]; exact h) (g := (mkF m 27 #[.val (.ref a), .val (.ref b), .val (.int (Int32.ofNat o)), .val (.int (Int32.ofNat len)), .val .null, .unset] [])) rfl (hb hbytes d27)
  have hh5 := q5.trans hh3
  have c6 : Steps p.tables e below (s₁.setTop (entryFrame m #[.ref a, .ref b, .int (Int32.ofNat o), .int (Int32.ofNat len), .null] 6)) (T5.setTop (mkF m 30 #[.val (.ref a), .val (.ref b), .val (.int (Int32.ofNat o)), .val (.int (Int32.ofNat len)), .val .null, .unset] [.int z])) := c4.trans (st5 _ (Steps.refl _))
  have c7 : Steps p.tables e below (s₁.setTop (entryFrame m #[.ref a, .ref b, .int (Int32.ofNat o), .int (Int32.ofNat len), .null] 6)) (T5.setTop (mkF m 36 #[.val (.ref a), .val (.ref b), .val (.int (Int32.ofNat o)), .val (.int (Int32.ofNat len)), .val .null, .unset] [.int (Int32.ofNat len), .int (Int32.ofNat o), .ref b])) := c6.trans (by
    refine XS.ifNo X5.here hexec rfl (hb hbytes d30) rfl (i0_eq_f hz) ?_
    refine XS.aloadN X5.here hexec rfl (hb hbytes d33) rfl rfl ?_
    refine XS.iloadN X5.here hexec rfl (hb hbytes d34) rfl ?_
    refine XS.iloadN X5.here hexec rfl (hb hbytes d35) rfl ?_
    exact Steps.refl _)
  obtain ⟨v8, T8, X8, E8, g8⟩ := X5.callS hexec (Cmp3.law l b A o len) hown (wks W (staticW "java/lang/String" 177 Cmp3.yN)) (wk W Cmp3.tab) (W := 0) (Nat.le_of_ble_eq_true rfl) (Nat.le_of_ble_eq_true rfl) (Nat.le_refl _) (by show 0 + len ≤ len; omega) (g := (mkF m 36 #[.val (.ref a), .val (.ref b), .val (.int (Int32.ofNat o)), .val (.int (Int32.ofNat len)), .val .null, .unset] [.int (Int32.ofNat len), .int (Int32.ofNat o), .ref b])) rfl (by rw [hml]; rfl) c7 (argsL := [.ref b, .int (Int32.ofNat o), .int (Int32.ofNat len)]) (rest := []) rfl rfl (by show 2 * 0 + 0 ≤ _; decide) (hb hbytes d36) (⟨rfl, hA.mv X5.warmed.alike hh5, l1, l2, hp⟩)
  obtain ⟨e8, z8⟩ := E8
  obtain ⟨rfl, N, n1, n2, n3, n4, n5, n6⟩ := NewArr.mv _ T5 s _ _ hh5.symm (Vm.Alike.refl _) rfl e8
  rw [hh5] at z8
  have hB1 := hB.keep X8.warmed.alike (n6 _ _ hB.1)
  have hne : s.heap.size ≠ a := (Nat.ne_of_lt (Array.getElem?_eq_some_iff.mp hB.1).1).symm
  have c9 : Steps p.tables e below (s₁.setTop (entryFrame m #[.ref a, .ref b, .int (Int32.ofNat o), .int (Int32.ofNat len), .null] 6)) (T8.setTop (mkF m 39 #[.val (.ref a), .val (.ref b), .val (.int (Int32.ofNat o)), .val (.int (Int32.ofNat len)), .val .null, .unset] [.ref s.heap.size])) := g8
  have c10 : Steps p.tables e below (s₁.setTop (entryFrame m #[.ref a, .ref b, .int (Int32.ofNat o), .int (Int32.ofNat len), .null] 6)) (T8.setTop (mkF m 45 #[.val (.ref a), .val (.ref b), .val (.int (Int32.ofNat o)), .val (.int (Int32.ofNat len)), .val .null, .val (.ref s.heap.size)] [.int (Int32.ofNat N.slots.size), .ref s.heap.size, .ref a])) := by
    have hc : Steps p.tables e below (s₁.setTop (entryFrame m #[.ref a, .ref b, .int (Int32.ofNat o), .int (Int32.ofNat len), .null] 6)) (T8.setTop (mkF m 45 #[.val (.ref a), .val (.ref b), .val (.int (Int32.ofNat o)), .val (.int (Int32.ofNat len)), .val .null, .val (.ref s.heap.size)] [.int (Int32.ofNat len), .ref s.heap.size, .ref a])) := c9.trans (by
      refine XS.astore X8.here hexec rfl (hb hbytes d39) rfl rfl rfl ?_
      refine XS.aloadN X8.here hexec rfl (hb hbytes d41) rfl rfl ?_
      refine XS.aload X8.here hexec rfl (hb hbytes d42) rfl rfl ?_
      refine XS.iloadN X8.here hexec rfl (hb hbytes d44) rfl ?_
      exact Steps.refl _)
    rw [n4]; exact hc
  obtain ⟨v11, T11, X11, E11, g11⟩ := X8.callS hexec (CodL.law l s.heap.size N) hown (wks W (staticW "java/lang/String" 47 CodL.yN)) (wk W CodL.tab) (W := 1) (Nat.le_of_ble_eq_true rfl) (Nat.le_of_ble_eq_true rfl) (Nat.le_refl _) (by show 0 + len + 0 ≤ len; omega) (g := (mkF m 45 #[.val (.ref a), .val (.ref b), .val (.int (Int32.ofNat o)), .val (.int (Int32.ofNat len)), .val .null, .val (.ref s.heap.size)] [.int (Int32.ofNat N.slots.size), .ref s.heap.size, .ref a])) rfl (by rw [hml]; rfl) c10 (argsL := [.ref s.heap.size, .int (Int32.ofNat N.slots.size)]) (rest := [.ref a]) rfl rfl (by show 2 * 0 + (1 + 0) ≤ _; decide) (hb hbytes d45) (⟨rfl, n1⟩)
  obtain ⟨rfl, q11⟩ := E11
  have hB11 := hB1.mv (X8.warmed.alike.symm.trans X11.warmed.alike) q11
  have c12 : Steps p.tables e below (s₁.setTop (entryFrame m #[.ref a, .ref b, .int (Int32.ofNat o), .int (Int32.ofNat len), .null] 6)) (T11.setTop (mkF m 48 #[.val (.ref a), .val (.ref b), .val (.int (Int32.ofNat o)), .val (.int (Int32.ofNat len)), .val .null, .val (.ref s.heap.size)] [.int 0, .ref a])) := g11
  obtain ⟨T13, X13, p13, bl13, sl13, st13⟩ := X11.finit hexec hown (wk W (.fieldLink "java/lang/String" 15 "java/lang/String" "coder" "B")) (Or.inr ⟨_, (wk W (.laysFinal "java/lang/String" "java/lang/String" "coder" "B"))⟩) (Or.inl ⟨rfl, hnm⟩) f2 (Or.inl rfl) hB11 (t := .byte) (by decide +kernel) rfl (g := (mkF m 48 #[.val (.ref a), .val (.ref b), .val (.int (Int32.ofNat o)), .val (.int (Int32.ofNat len)), .val .null, .val (.ref s.heap.size)] [.int 0, .ref a])) rfl (rest := []) rfl (hb hbytes d48)
  have c14 : Steps p.tables e below (s₁.setTop (entryFrame m #[.ref a, .ref b, .int (Int32.ofNat o), .int (Int32.ofNat len), .null] 6)) (T13.setTop (mkF m 54 #[.val (.ref a), .val (.ref b), .val (.int (Int32.ofNat o)), .val (.int (Int32.ofNat len)), .val .null, .val (.ref s.heap.size)] [.ref s.heap.size, .ref a])) := (c12.trans (st13 _ (Steps.refl _))).trans (by
    refine XS.aloadN X13.here hexec rfl (hb hbytes d51) rfl rfl ?_
    refine XS.aload X13.here hexec rfl (hb hbytes d52) rfl rfl ?_
    exact Steps.refl _)
  obtain ⟨T15, X15, p15, bl15, sl15, st15⟩ := X13.finit hexec hown (wk W (.fieldLink "java/lang/String" 9 "java/lang/String" "value" "[B")) (Or.inr ⟨_, (wk W (.laysFinal "java/lang/String" "java/lang/String" "value" "[B"))⟩) (Or.inl ⟨rfl, hnm⟩) f1 (Or.inl rfl) bl13 (t := (.array .byte)) (by decide +kernel) rfl (g := (mkF m 54 #[.val (.ref a), .val (.ref b), .val (.int (Int32.ofNat o)), .val (.int (Int32.ofNat len)), .val .null, .val (.ref s.heap.size)] [.ref s.heap.size, .ref a])) rfl (rest := []) rfl (hb hbytes d54)
  have c16 : Steps p.tables e below (s₁.setTop (entryFrame m #[.ref a, .ref b, .int (Int32.ofNat o), .int (Int32.ofNat len), .null] 6)) (T15.setTop (mkF m 57 #[.val (.ref a), .val (.ref b), .val (.int (Int32.ofNat o)), .val (.int (Int32.ofNat len)), .val .null, .val (.ref s.heap.size)] [])) := c14.trans (st15 _ (Steps.refl _))
  have ap := apart (Or.inr ⟨_, (wk W (.laysFinal "java/lang/String" "java/lang/String" "value" "[B"))⟩) (Or.inr ⟨_, (wk W (.laysFinal "java/lang/String" "java/lang/String" "coder" "B"))⟩) f1 f2 (t₁ := .array .byte) (t₂ := .byte) (by decide +kernel) (by decide +kernel) (by decide)
  have al := X8.warmed.alike.symm.trans X15.warmed.alike
  have n7 : T11.heap[s.heap.size]? = some N := by rw [q11]; exact n1.1
  exact ⟨T15, none, _, _, _, X15, by simp, rfl, by omega, (fun _ => rfl), ⟨rfl, _, N, bl15, ((Same.refl D _).set _ (by simp)).set _ (by simp), sl15, (Cell.slots_setSlot_ne _ ap).trans sl13, n1.keep al (p15.other hne (p13.other hne n7)), n2, by rw [al.findClass]; exact n3, n4, n5, fun y c h1 h2 => p15.other h1 (p13.other h1 (by rw [q11]; exact n6 y c h2)), by rw [p15.2.2, p13.2.2, q11]; exact z8⟩, fun fs hl => c16.trans (X15.returnOut hexec hret (hb hbytes d57) hl)⟩
end New4
namespace New1
def yN : MethodName := ⟨"java/lang/String", "<init>", "([C)V"⟩
abbrev yB : ByteArray := jdk_42_method_3_code
theorem d0 : decode yB 0 = .ok (.aload_n 0, 1) := by decide +kernel
theorem d1 : decode yB 1 = .ok (.aload_n 1, 1) := by decide +kernel
theorem d2 : decode yB 2 = .ok (.iconst 0, 1) := by decide +kernel
theorem d3 : decode yB 3 = .ok (.aload_n 1, 1) := by decide +kernel
theorem d4 : decode yB 4 = .ok (.arraylength, 1) := by decide +kernel
theorem d5 : decode yB 5 = .ok (.aconst_null, 1) := by decide +kernel
theorem d6 : decode yB 6 = .ok (.invokespecial 27, 3) := by decide +kernel
theorem d9 : decode yB 9 = .ok (.return_, 1) := by decide +kernel
def site : List Cond := [New4.tab] ++ initW "java/lang/String" 27 New4.yN
def tab : Cond := tabOf yN yB 2 none site
def P (a : Addr) (D : Cell) (fV fC : Field) (b : Addr) (A : Cell) (z : Int32) (args : Array Value) (s : State) : Prop := args = #[.ref a, .ref b] ∧ Blank "java/lang/String" a D s ∧ Found "java/lang/String" "value" "[B" fV s ∧ Found "java/lang/String" "coder" "B" fC s ∧ Ch b A s ∧ StaticIs s "java/lang/String" "COMPACT_STRINGS" "Z" (.int z) ∧ ¬ z = 0 ∧ 0 < A.slots.size ∧ A.slots.size ≤ 536870912 ∧ ∀ i, i < A.slots.size → ¬ 255 < cv A i
def E (a : Addr) (D : Cell) (fV fC : Field) (A : Cell) (r : Option Value) (s u : State) : Prop := Got a D fV fC A 0 A.slots.size r s u
/-- new String(chars), not empty, no char above 255: a Latin-1 String of their low bytes -/
theorem law (l : Launch) (a : Addr) (D : Cell) (fV fC : Field) (b : Addr) (A : Cell) (z : Int32) : Law l yN 2 1 3 52 yB 2 none site (P a D fV fC b A z) (E a D fV fC A) [⟨a, fC.slot⟩, ⟨a, fV.slot⟩] 1 A.slots.size := by
  refine Law.of_walk (plainFor_of_name (by decide +kernel)) (by decide +kernel) (by decide +kernel) (by decide) (fun _ _ h => by rw [h.1]; rfl) (fun _ U U' hal hh h => ⟨h.1, h.2.1.mv hal hh, h.2.2.1.al hal, h.2.2.2.1.al hal, h.2.2.2.2.1.mv hal hh, h.2.2.2.2.2.1.there hal hh, h.2.2.2.2.2.2⟩) (fun r U U' V V' h1 hal h2 h => Got.mv r U U' V V' h1 hal h2 h) ?_
  intro p e s m args below meth c s₁ X0 hexec hbytes hml hret hlk hnm hown hh0 W hP
  obtain ⟨rfl, hB, f1, f2, hA, s1, hz, l0, l2, hp⟩ := hP
  have c1 : Steps p.tables e below (s₁.setTop (entryFrame m #[.ref a, .ref b] 2)) (s₁.setTop (mkF m 0 #[.val (.ref a), .val (.ref b)] [])) := entry rfl
  have c2 : Steps p.tables e below (s₁.setTop (entryFrame m #[.ref a, .ref b] 2)) (s₁.setTop (mkF m 6 #[.val (.ref a), .val (.ref b)] [.null, .int (Int32.ofNat A.slots.size), .int 0, .ref b, .ref a])) := c1.trans (by
    refine XS.aloadN X0.here hexec rfl (hb hbytes d0) rfl rfl ?_
    refine XS.aloadN X0.here hexec rfl (hb hbytes d1) rfl rfl ?_
    refine iconstV X0.here hexec rfl 0 (hb hbytes d2) (by decide) ?_
    refine XS.aloadN X0.here hexec rfl (hb hbytes d3) rfl rfl ?_
    refine X0.alen hexec (hA.1.mv X0.warmed.alike hh0) rfl rfl (hb hbytes d4) ?_
    refine XS.aconstNull X0.here hexec rfl (hb hbytes d5) ?_
    exact Steps.refl _)
  obtain ⟨v3, T3, X3, E3, g3⟩ := X0.callN hexec (New4.law l a D fV fC b A z 0 A.slots.size) rfl hown (wks W (initW "java/lang/String" 27 New4.yN)) (W New4.tab (by simp only [site, List.mem_cons, List.mem_append, true_or, or_true])) (W := 0) (Nat.le_of_ble_eq_true rfl) (Nat.le_of_ble_eq_true rfl) (Nat.le_refl _) (by show 0 + A.slots.size ≤ A.slots.size; omega) (g := (mkF m 6 #[.val (.ref a), .val (.ref b)] [.null, .int (Int32.ofNat A.slots.size), .int (Int32.ofNat 0), .ref b, .ref a])) rfl (by rw [hml]; rfl) c2 (argsL := [.ref b, .int (Int32.ofNat 0), .int (Int32.ofNat A.slots.size), .null]) (rest := []) rfl rfl (by show 2 * 0 + 0 ≤ _; decide) (hb hbytes d6) (⟨rfl, hB.mv X0.warmed.alike hh0, f1.al X0.warmed.alike, f2.al X0.warmed.alike, hA.mv X0.warmed.alike hh0, s1.there X0.warmed.alike hh0, hz, l0, by omega, l2, fun i hi => by rw [Nat.zero_add]; exact hp i hi⟩)
  have e0 := Got.mv _ s₁ s _ _ hh0.symm (Vm.Alike.refl _) rfl E3
  obtain rfl := e0.1
  have c4 : Steps p.tables e below (s₁.setTop (entryFrame m #[.ref a, .ref b] 2)) (T3.setTop (mkF m 9 #[.val (.ref a), .val (.ref b)] [])) := g3
  exact ⟨T3, none, _, _, _, X3, by simp, rfl, by omega, (fun _ => rfl), e0, fun fs hl => c4.trans (X3.returnOut hexec hret (hb hbytes d9) hl)⟩
theorem pays {l : Launch} {R : Room} {p : Program} {e : Env} {below : List Frame} {s : State} {sargs : Array Value} {len W : Nat} (a : Addr) (D : Cell) (fV fC : Field) (b : Addr) (A : Cell) (z : Int32) (htab : tab.before sargs s = true) (hfr : 4 ≤ R.frames) (hlo : W + 65 ≤ R.locals) :
    Back l R p e below s sargs yN len W (fun A₁ a₁ => A₁.cells + 1 ≤ R.cells ∧ A₁.slots + A.slots.size ≤ R.slots ∧ P a D fV fC b A z a₁ A₁.U) (fun A₁ _ v₁ B₁ => E a D fV fC A v₁ A₁.U B₁.U ∧ B₁.locs = A₁.locs ++ [⟨a, fC.slot⟩, ⟨a, fV.slot⟩] ∧ B₁.cells = A₁.cells + 1 ∧ B₁.slots = A₁.slots + A.slots.size) :=
  (law l a D fV fC b A z).pays htab hfr (by omega)
end New1
/-- the byte, read back as charAt reads it, is the char -/
theorem lo8_mask {x : Int32} (h0 : ¬ x < 0) (h1 : ¬ 255 < x) : lo8 x &&& 255 = x := by
  have t : ∀ k : Fin 256, lo8 (Int32.ofNat k.val) &&& 255 = Int32.ofNat k.val := by decide +kernel
  rw [Int32.lt_iff_toInt_lt] at h0 h1
  have e0 : (0 : Int32).toInt = 0 := rfl
  have e1 : (255 : Int32).toInt = 255 := rfl
  obtain ⟨k, hk⟩ : ∃ k : Nat, x.toInt = k := ⟨x.toInt.toNat, by omega⟩
  have hx : x = Int32.ofNat k := Int32.toInt_inj.mp (by rw [hk, Int32.toInt_ofNat_small (by omega)])
  rw [hx]
  exact t ⟨k, by omega⟩
end StrChars
namespace StrChars.Road
open Jvm Sem ClassFile Op Lib Jvm.Stand Jvm.Free Jvm.Free.XT
open Jvm.Lib.Cold (StaticIs)
abbrev ST : String := "java/lang/String"
/-- every table word that New1's law asks, flat -/
abbrev words : List Jvm.Cond := [.code New1.yN New1.yB 2 none, .initialized ST, .methodLink ST 27 New4.yN, .instanceMethod New4.yN,
  .code New4.yN New4.yB 6 none, .fieldLink ST 38 ST "COMPACT_STRINGS" "Z", .laysFinal ST ST "value" "[B", .fieldLink ST 9 ST "value" "[B", .laysFinal ST ST "coder" "B", .fieldLink ST 15 ST "coder" "B",
  .methodLink ST 1 Lib.objectInit, .instanceMethod Lib.objectInit, .code Lib.objectInit ⟨#[0xb1]⟩ 1 none, .methodLink ST 177 Cmp3.yN, .static Cmp3.yN, .methodLink ST 47 CodL.yN, .static CodL.yN,
  .code Cmp3.yN Cmp3.yB 6 (some (.array .byte)), .initialized U16, .arrayClass .byte, .methodLink U16 115 Cmp5.yN, .static Cmp5.yN, .code Cmp5.yN Cmp5.yB 7 (some .int), .code CodL.yN CodL.yB 2 (some .byte)]
theorem tab_of {a : Array Value} {s : State} (h : ∀ w ∈ words, w.before a s = true) : New1.tab.before a s = true := by
  have h5 : Cmp5.tab.before a s = true := unparts (wk h (.code Cmp5.yN Cmp5.yB 7 (some .int))) (wks h (.initialized Cmp5.yN.cls :: Cmp5.site))
  have hc : CodL.tab.before a s = true := unparts (wk h (.code CodL.yN CodL.yB 2 (some .byte))) (wks h (.initialized CodL.yN.cls :: CodL.site))
  have q5 : ∀ w ∈ Cmp5.tab :: words, w.before a s = true := fun w hw => (List.mem_cons.mp hw).elim (fun e => e ▸ h5) (h w)
  have h3 : Cmp3.tab.before a s = true := unparts (wk q5 (.code Cmp3.yN Cmp3.yB 6 (some (.array .byte)))) (wks q5 (.initialized Cmp3.yN.cls :: Cmp3.site))
  have q3 : ∀ w ∈ Cmp3.tab :: CodL.tab :: words, w.before a s = true := fun w hw => (List.mem_cons.mp hw).elim (fun e => e ▸ h3) fun hw => (List.mem_cons.mp hw).elim (fun e => e ▸ hc) (h w)
  have h4 : New4.tab.before a s = true := unparts (wk q3 (.code New4.yN New4.yB 6 none)) (wks q3 (.initialized New4.yN.cls :: New4.site))
  have q4 : ∀ w ∈ New4.tab :: words, w.before a s = true := fun w hw => (List.mem_cons.mp hw).elim (fun e => e ▸ h4) (h w)
  exact unparts (wk q4 (.code New1.yN New1.yB 2 none)) (wks q4 (.initialized New1.yN.cls :: New1.site))
/-- the words ride from the start Z to the walk's own state -/
theorem moved {Z s : State} {a0 args : Array Value} (hZ : Z.Warmed39 s.vm) (hw : ∀ d ∈ words, d.before a0 Z = true) : ∀ d ∈ words, d.before args s = true := fun d hd => by
  have q := hw d hd
  have t : ∀ d ∈ words, d = .arrayClass .byte ∨ (d.onTables && d.keepsFace) = true := by decide +kernel
  rcases t d hd with rfl | t
  · exact RoadKit.mvA hZ q
  · exact RoadKit.mv hZ q t
/-- WHAT COMES BACK, over the tables of the start Z: h the heap at the call, h' behind it -/
def Q (Z : State) (x : Addr) (A : Cell) (h : Heap) (v : Option Value) (h' : Heap) (L : List Loc) : Prop := v = none ∧ (∀ y ∈ L, y.base = x) ∧ RoadKit.Keep h h' [x] ∧ h'.size = h.size + 1 ∧ RoadKit.Exa Z h' x ST ∧ RoadKit.Fld Z h' x ST "value" "[B" (.ref h.size) ∧ RoadKit.Fld Z h' x ST "coder" "B" (.int 0) ∧
  (∃ V : Cell, RoadKit.Arr Z h' h.size V .byte ∧ V.vm = .none ∧ Z.vm.findClass "[B" = some V.cls ∧ V.slots.size = A.slots.size ∧ ∀ j, j < A.slots.size → V.slots[j]? = some (.int (lo8 (cv A j)))) ∧
  ∀ (O n d : String) (w : Value), RoadKit.Fld Z h x O n d w → RoadKit.slotOf Z O n d ≠ RoadKit.slotOf Z ST "value" "[B" → RoadKit.slotOf Z O n d ≠ RoadKit.slotOf Z ST "coder" "B" → RoadKit.Fld Z h' x O n d w
/-- **new String(chars) AT A CALL, IN THE ROAD'S FORM**: for specialBack behind newO: x the fresh String, b the char[] with the cell A -/
theorem back {p : Program} {l : Launch} {e : Env} {R : Room} {s : State} {args : Array Value} {below : List Frame} {len W : Nat} {Z : State} {a0 : Array Value} {h : Heap} (hZ : Z.Warmed39 s.vm) (hw : ∀ d ∈ words, d.before a0 Z = true) {kI : Nat} (wi : (Jvm.Cond.instantiable ST kI).before a0 Z = true)
    {x b : Addr} {A : Cell} {z : Int32} {v0 c0 : Value} (E : RoadKit.Exa Z h x ST) (V : RoadKit.Fld Z h x ST "value" "[B" v0) (C : RoadKit.Fld Z h x ST "coder" "B" c0) (K : RoadKit.Arr Z h b A .char) (hty : Typed .char A) (S : RoadKit.Sta Z h ST "COMPACT_STRINGS" "Z" (.int z)) (hz : ¬ z = 0)
    (l0 : 0 < A.slots.size) (l2 : A.slots.size ≤ 536870912) (hp : ∀ i, i < A.slots.size → ¬ 255 < cv A i) (hfr : 4 ≤ R.frames) (hlo : W + 65 ≤ R.locals) :
    Back l R p e below s args New1.yN len W (fun P a => a = #[.ref x, .ref b] ∧ P.U.heap = h ∧ P.cells + 1 ≤ R.cells ∧ P.slots + A.slots.size ≤ R.slots)
      (fun P _ v B => ∃ L, Q Z x A h v B.U.heap L ∧ B.locs = P.locs ++ L ∧ B.cells = P.cells + 1 ∧ B.slots = P.slots + A.slots.size) := by
  intro m meth c P g ig mk a X hg hsize hdg hW hn hp'
  obtain ⟨rfl, rfl, r1, r2⟩ := hp'
  have al : Z.vm.Alike P.U.vm := hZ.alike.trans X.warmed.alike
  obtain ⟨D, cfV, kV, iV, fV, hD, gV, stV, knV, obV, asV, slV⟩ := id V
  obtain ⟨D', cfC, kC, iC, fC, hD', gC, stC, -, -, asC, slC⟩ := id C
  cases hD.symm.trans hD'
  obtain ⟨D2, kD, e1, e2, e3, e4, e5⟩ := id E
  cases hD.symm.trans e1
  obtain ⟨c2, k2, i1, i2, i3, -⟩ := Cond.instantiable_spec wi
  cases e2.symm.trans i1
  cases e3.symm.trans i2
  obtain ⟨kU, u1, u2⟩ := al.2.2 _ _ e3
  have hB : Blank ST x D P.U := ⟨hD, ⟨knV, fun q hq => by rw [hq] at obV; cases obV⟩, by rw [al.findClass]; exact e2, kU, u1, by rw [u2]; exact i3, by rw [u2]; exact e5 i3⟩
  have F1 : Found ST "value" "[B" fV P.U := ⟨SBG.found_only al ⟨cfV, kV, iV, gV⟩, stV⟩
  have F2 : Found ST "coder" "B" fC P.U := ⟨SBG.found_only al ⟨cfC, kC, iC, gC⟩, stC⟩
  have hA : Ch b A P.U := ⟨⟨K.1, State.isArrayOf_alike al K.2.1, K.2.2, by omega⟩, hty⟩
  have hS : StaticIs P.U ST "COMPACT_STRINGS" "Z" (.int z) := by
    obtain ⟨cfS, iS, kS, fS, st, cS, t1, t2, t3, t4, t5, t6, t7⟩ := S
    exact StaticIs.there (s := { Z with heap := P.U.heap }) ⟨cfS, iS, kS, fS, st, cS, t1, t2, t3, t4, t5, (fun q => by rw [q] at t6; cases t6), t7⟩ al rfl
  obtain ⟨v, B, X', ⟨⟨hv, E', V', q1, q2, q3, q4, q5, q6, q7, q8, q9, q10, q11⟩, hl, hc, hs⟩, st⟩ := New1.pays x D fV fC b A z (tab_of (moved hZ hw)) hfr hlo m meth c P g ig mk _ X hg hsize hdg hW hn ⟨r1, r2, rfl, hB, F1, F2, hA, hS, hz, l0, l2, hp⟩
  have al' : Z.vm.Alike B.U.vm := hZ.alike.trans X'.warmed.alike
  have hsz : E'.slots.size = D.slots.size := by
    obtain ⟨-, -, -, kB, w1, w2, w3⟩ := q1
    obtain ⟨kB', y1, y2⟩ := al'.2.2 _ _ e3
    rw [q2.2.1] at w1
    cases w1.symm.trans y1
    rw [w3, e5 i3, y2]
  refine ⟨v, B, X', ⟨_, ⟨hv, ?_, ⟨by omega, fun y cy hy hn' => q10 y cy (by simpa using hn') hy, fun y cy hy => ?_⟩, q11, ⟨E', _, q1.1, by rw [q2.2.1]; exact e2, by rw [q2.2.1]; exact e3, by rw [q2.1]; exact obV, fun _ => by rw [hsz]; exact e5 i3⟩,
    ⟨E', cfV, kV, iV, fV, q1.1, gV, stV, by rw [q2.1]; exact knV, by rw [q2.1]; exact obV, by rw [q2.2.1]; exact asV, q3⟩, ⟨E', cfC, kC, iC, fC, q1.1, gC, stC, by rw [q2.1]; exact knV, by rw [q2.1]; exact obV, by rw [q2.2.1]; exact asC, q4⟩,
    ⟨V', ⟨q5.1, State.isArrayOf_alike al'.symm q5.2.1, q5.2.2.1⟩, q6, by rw [← al'.findClass]; exact q7, q8, fun j hj => by have := q9 j hj; rwa [Nat.zero_add] at this⟩, fun O n d w F n1 n2 => ?_⟩, hl, hc, hs⟩, st⟩
  · intro y hy
    simp only [List.mem_cons, List.not_mem_nil, or_false] at hy
    rcases hy with rfl | rfl <;> rfl
  · by_cases q : y = x
    · subst q
      cases hD.symm.trans hy
      exact ⟨E', q1.1, q2.2.1, q2.1, hsz⟩
    · exact ⟨cy, q10 y cy q hy, rfl, rfl, rfl⟩
  · obtain ⟨D3, cf, k, i, f, g1, g2, g3, g4, g5, g6, g7⟩ := F
    cases hD.symm.trans g1
    simp only [RoadKit.slotOf, g2, gV, gC, Option.map_some, Option.getD_some] at n1 n2
    exact ⟨E', cf, k, i, f, q1.1, g2, g3, by rw [q2.1]; exact g4, by rw [q2.1]; exact g5, by rw [q2.2.1]; exact g6, by rw [q2.2.2 f.slot (by simp [n1, n2])]; exact g7⟩
end StrChars.Road
namespace StrChars.Road
open Jvm Sem ClassFile Op Lib Jvm.Stand Jvm.Free Jvm.Free.XT
/-- WHAT COMES BACK, the byte[] as a list of values -/
def QA (Z : State) (x : Addr) (zn : Int32) (cs : List Int32) (h : Heap) (v : Option Value) (h' : Heap) (L : List Loc) : Prop := v = none ∧ (∀ y ∈ L, y.base = x) ∧ RoadKit.Keep h h' [x] ∧ h'.size = h.size + 1 ∧ RoadKit.Exa Z h' x ST ∧ RoadKit.Fld Z h' x ST "value" "[B" (.ref h.size) ∧ RoadKit.Fld Z h' x ST "coder" "B" (.int 0) ∧
  (∃ kb, Z.vm.findClass "[B" = some kb ∧ RoadKit.Arv Z h' h.size kb .byte zn (cs.map fun c => .int (lo8 c)) (.int 0)) ∧
  ∀ (O n d : String) (w : Value), RoadKit.Fld Z h x O n d w → RoadKit.slotOf Z O n d ≠ RoadKit.slotOf Z ST "value" "[B" → RoadKit.slotOf Z O n d ≠ RoadKit.slotOf Z ST "coder" "B" → RoadKit.Fld Z h' x O n d w
/-- **new String(chars) AT A CALL, THE ARRAYS AS LISTS**: the char[] at b holds cs, not empty, no char above 255 -/
theorem backArv {p : Program} {l : Launch} {e : Env} {R : Room} {s : State} {args : Array Value} {below : List Frame} {len W : Nat} {Z : State} {a0 : Array Value} {h : Heap} (hZ : Z.Warmed39 s.vm) (hw : ∀ d ∈ words, d.before a0 Z = true) {kI : Nat} (wi : (Jvm.Cond.instantiable ST kI).before a0 Z = true)
    {x b : Addr} {k : ClassId} {zn z : Int32} {cs : List Int32} {dv v0 c0 : Value} (E : RoadKit.Exa Z h x ST) (V : RoadKit.Fld Z h x ST "value" "[B" v0) (C : RoadKit.Fld Z h x ST "coder" "B" c0) (K : RoadKit.Arv Z h b k .char zn (cs.map Value.int) dv) (S : RoadKit.Sta Z h ST "COMPACT_STRINGS" "Z" (.int z)) (hz : ¬ z = 0)
    (hlen : zn.toNatClampNeg = cs.length) (h0 : 0 < cs.length) (hbig : cs.length ≤ 536870912) (hall : ∀ c ∈ cs, ¬ 255 < c) (hfr : 4 ≤ R.frames) (hlo : W + 65 ≤ R.locals) :
    Back l R p e below s args New1.yN len W (fun P a => a = #[.ref x, .ref b] ∧ P.U.heap = h ∧ P.cells + 1 ≤ R.cells ∧ P.slots + cs.length ≤ R.slots)
      (fun P _ v B => ∃ L, QA Z x zn cs h v B.U.heap L ∧ B.locs = P.locs ++ L ∧ B.cells = P.cells + 1 ∧ B.slots = P.slots + cs.length) := by
  obtain ⟨A, K1, K2, K3, K4, K5, K6⟩ := K
  have e : A.slots.size = cs.length := K3.trans hlen
  have hat : ∀ (i : Nat) (hi : i < cs.length), A.slots[i]? = some (.int cs[i]) := fun i hi => by rw [K5 i (by omega)]; simp [List.getD_eq_getElem?_getD, hi]
  have hcv : ∀ (i : Nat) (hi : i < cs.length), cv A i = cs[i] := fun i hi => by unfold cv; rw [hat i hi]
  have hty : Typed .char A := fun i v hv => by
    have hi : i < A.slots.size := (Array.getElem?_eq_some_iff.mp hv).1
    have q := K5 i hi
    rw [hv] at q
    rw [Option.some.inj q]
    exact K6 i hi
  refine Back.mono (back hZ hw wi E V C K1 hty S hz (by omega) (by omega) (fun i hi => by rw [hcv i (by omega)]; exact hall _ (List.getElem_mem _)) hfr hlo) (fun P a hp => ⟨hp.1, hp.2.1, hp.2.2.1, by rw [e]; exact hp.2.2.2⟩) (fun P a v B hp hq => ?_)
  obtain ⟨L, ⟨q1, q2, q3, q4, q5, q6, q7, ⟨V', v1, v2, v3, v4, v5⟩, q9⟩, hl, hc, hs⟩ := hq
  refine ⟨L, ⟨q1, q2, q3, q4, q5, q6, q7, ⟨V'.cls, v3, V', v1, rfl, by rw [v4, e, hlen], K4, fun i hi => ?_, fun i hi => ?_⟩, q9⟩, hl, hc, by rw [hs, e]⟩
  · have hi' : i < cs.length := by omega
    rw [v5 i (by omega), hcv i hi']; simp [List.getD_eq_getElem?_getD, hi']
  · have hi' : i < cs.length := by omega
    simp only [List.getD_eq_getElem?_getD, List.getElem?_map, List.getElem?_eq_getElem hi', Option.map_some, Option.getD_some]
    exact fits_lo8 _
end StrChars.Road
namespace StrChars.Road
open Jvm Sem ClassFile Op Lib Jvm.Stand Jvm.Free Jvm.Free.XT
/-- WHAT COMES BACK, in the writer's own shape -/
def QV (Z : State) (x : Addr) (N : Int32) (bs : List Int32) (h : Heap) (n0 : Nat) (v : Option Value) (h' : Heap) (L : List Loc) : Prop := v = none ∧ RoadKit.Fr n0 L ∧ RoadKit.Keep h h' [x] ∧ RoadKit.Exa Z h' x ST ∧ RoadKit.Fld Z h' x ST "coder" "B" (.int 0) ∧
  ∃ (t : Addr) (kb : ClassId), n0 ≤ t ∧ h.size ≤ t ∧ ¬ t = x ∧ RoadKit.Fld Z h' x ST "value" "[B" (.ref t) ∧ RoadKit.Arv Z h' t kb .byte N (bs.map Value.int) (.int 0)
/-- **new String(chars) AT A CALL, FOR THE WRITER**: a char[] of n known ints, each 0 to 255 -/
theorem backV {p : Program} {l : Launch} {e : Env} {R : Room} {s : State} {args : Array Value} {below : List Frame} {len W : Nat} {Z : State} {a0 : Array Value} {h : Heap} (hZ : Z.Warmed39 s.vm) (hw : ∀ d ∈ words, d.before a0 Z = true) {kI : Nat} (wi : (Jvm.Cond.instantiable ST kI).before a0 Z = true)
    {x b : Addr} {kC : ClassId} {cs bs : List Int32} {d v0 c0 : Value} {z N : Int32} {n n0 : Nat} (hx0 : n0 ≤ x) (hh0 : n0 ≤ h.size) (E : RoadKit.Exa Z h x ST) (V : RoadKit.Fld Z h x ST "value" "[B" v0) (C : RoadKit.Fld Z h x ST "coder" "B" c0) (K : RoadKit.Arv Z h b kC .char N (cs.map Value.int) d) (S : RoadKit.Sta Z h ST "COMPACT_STRINGS" "Z" (.int z)) (hz : ¬ z = 0)
    (hn : cs.length = n) (hN : N = Int32.ofNat n) (l0 : 0 < n) (l2 : n ≤ 4000) (hp : ∀ c ∈ cs, ¬ c < 0 ∧ ¬ (255 : Int32) < c) (hb : bs = cs.map (fun c => c.toInt8.toInt32)) (hfr : 4 ≤ R.frames) (hlo : W + 65 ≤ R.locals) :
    Back l R p e below s args (⟨"java/lang/String", "<init>", "([C)V"⟩ : MethodName) len W (fun P a => a = #[.ref x, .ref b] ∧ P.U.heap = h ∧ P.cells + 1 ≤ R.cells ∧ P.slots + n ≤ R.slots)
      (fun P _ v B => ∃ L, QV Z x N bs h n0 v B.U.heap L ∧ B.locs = P.locs ++ L ∧ B.cells = P.cells + 1 ∧ B.slots = P.slots + n) := by
  subst hn hN hb
  refine Back.mono (backArv hZ hw wi E V C K S hz (n32 (by omega)) l0 (by omega) (fun c hc => (hp c hc).2) hfr hlo) (fun P a hp => hp) (fun P a v B hp hq => ?_)
  obtain ⟨L, ⟨q1, q2, q3, q4, q5, q6, q7, ⟨kb, v1, v2⟩, q9⟩, hl, hc, hs⟩ := hq
  exact ⟨L, ⟨q1, fun y hy => by rw [q2 y hy]; exact hx0, q3, q5, q7, h.size, kb, hh0, Nat.le_refl _, Nat.ne_of_gt E.lt, q6, by rw [List.map_map]; exact v2⟩, hl, hc, hs⟩
end StrChars.Road
namespace StrChars
open Jvm Sem ClassFile Op Lib Jvm.Stand Jvm.Free.XT Jvm.Free.ALB Jvm.Free.JM Jvm.Free
open Jvm.Lib.Cold (StaticIs)
def hi8 (x : Int32) : Int32 := lo8 (x >>> ((8 : Int32) &&& 31))
/-- what StringUTF16.getChar makes of two bytes -/
def pairCh (u v : Int32) : Int32 := (((u &&& 255) <<< ((0 : Int32) &&& 31)) ||| ((v &&& 255) <<< ((8 : Int32) &&& 31))).toUInt32.toUInt16.toUInt32.toInt32
theorem shr0 (c : Int32) : c >>> ((0 : Int32) &&& 31) = c := by
  have e : ((0 : Int32) &&& 31) = 0 := by decide
  rw [e]
  apply Int32.toBitVec_inj.mp
  rw [Int32.toBitVec_shiftRight]
  have e1 : ((0 : Int32).toBitVec.smod 32) = 0#32 := by decide
  rw [e1, BitVec.sshiftRight_eq']
  exact BitVec.sshiftRight_zero
theorem lo8_and (x : Int32) : (lo8 x &&& 255).toBitVec.toNat = x.toBitVec.toNat % 256 := by
  have h : (lo8 x).toBitVec = (x.toBitVec.signExtend 8).signExtend 32 := by rw [lo8, Int8.toBitVec_toInt32, Int32.toBitVec_toInt8]
  rw [Int32.toBitVec_and, BitVec.toNat_and, h]
  have e : ((x.toBitVec.signExtend 8).signExtend 32).toNat % 256 = x.toBitVec.toNat % 256 := by
    rw [BitVec.toNat_signExtend]
    have hlt := x.toBitVec.isLt
    simp only [BitVec.toNat_setWidth, BitVec.toNat_signExtend]
    split <;> split <;> omega
  rw [← e]
  exact Nat.and_two_pow_sub_one_eq_mod _ 8
theorem pair_says {c : Int32} (h0 : ¬ c < 0) (h1 : ¬ 65535 < c) : pairCh (lo8 c) (hi8 c) = c := by
  rw [Int32.lt_iff_toInt_lt] at h0 h1
  have e0 : (0 : Int32).toInt = 0 := rfl
  have e1 : (65535 : Int32).toInt = 65535 := rfl
  have hc : c.toInt = c.toBitVec.toNat := by
    have := c.toBitVec.isLt
    have e : c.toInt = c.toBitVec.toInt := rfl
    rw [e] at h0 h1
    rw [e]
    rw [BitVec.toInt_eq_toNat_cond] at h0 h1 ⊢
    split at h0 <;> split <;> omega
  have hn : c.toBitVec.toNat < 65536 := by omega
  have a1 := lo8_and c
  have a2 : (hi8 c &&& 255).toBitVec.toNat = c.toBitVec.toNat / 256 := by
    rw [hi8, lo8_and]
    have e : ((8 : Int32) &&& 31) = 8 := by decide
    rw [e, Int32.toBitVec_shiftRight]
    have e2 : ((8 : Int32).toBitVec.smod 32) = 8#32 := by decide
    rw [e2, BitVec.sshiftRight_eq', BitVec.toNat_sshiftRight_of_msb_false (by rw [BitVec.msb_eq_false_iff_two_mul_lt]; omega)]
    show c.toBitVec.toNat >>> 8 % 256 = _
    rw [Nat.shiftRight_eq_div_pow]
    omega
  unfold pairCh
  apply Int32.toBitVec_inj.mp
  apply BitVec.eq_of_toNat_eq
  have f0 : ((0 : Int32) &&& 31) = 0 := by decide
  have f8 : ((8 : Int32) &&& 31) = 8 := by decide
  rw [f0, f8]
  have g : (((lo8 c &&& 255) <<< (0 : Int32)) ||| ((hi8 c &&& 255) <<< (8 : Int32))).toBitVec.toNat = c.toBitVec.toNat := by
    rw [Int32.toBitVec_or, Int32.toBitVec_shiftLeft, Int32.toBitVec_shiftLeft]
    have s0 : ((0 : Int32).toBitVec.smod 32) = 0#32 := by decide
    have s8 : ((8 : Int32).toBitVec.smod 32) = 8#32 := by decide
    rw [s0, s8, BitVec.toNat_or]
    simp only [BitVec.shiftLeft_eq', BitVec.toNat_shiftLeft, a1, a2]
    show (c.toBitVec.toNat % 256) <<< 0 % 2 ^ 32 ||| (c.toBitVec.toNat / 256) <<< 8 % 2 ^ 32 = _
    rw [Nat.shiftLeft_zero, Nat.mod_eq_of_lt (show c.toBitVec.toNat % 256 < 2 ^ 32 by omega), Nat.mod_eq_of_lt (show (c.toBitVec.toNat / 256) <<< 8 < 2 ^ 32 by rw [Nat.shiftLeft_eq]; omega), Nat.or_comm, ← Nat.shiftLeft_add_eq_or_of_lt (by omega), Nat.shiftLeft_eq]
    omega
  show BitVec.toNat (((((lo8 c &&& 255) <<< (0 : Int32)) ||| ((hi8 c &&& 255) <<< (8 : Int32))).toBitVec.setWidth 16).setWidth 32) = _
  rw [BitVec.toNat_setWidth, BitVec.toNat_setWidth, g]
  omega
end StrChars
namespace StrChars
open Jvm Sem ClassFile Op Lib Jvm.Stand Jvm.Free.XT Jvm.Free.ALB Jvm.Free.JM Jvm.Free
open Jvm.Lib.Cold (StaticIs)
theorem shr1 {n : Nat} (h : 2 * n < 2 ^ 31) : Int32.ofNat (2 * n) >>> ((1 : Int32) &&& 31) = Int32.ofNat n := by
  have e : ((1 : Int32) &&& 31) = 1 := by decide
  rw [e]
  apply Int32.toBitVec_inj.mp
  rw [Int32.toBitVec_shiftRight]
  have e1 : ((1 : Int32).toBitVec.smod 32) = 1#32 := by decide
  have hm : (BitVec.ofNat 32 (2 * n)).toNat = 2 * n := by rw [BitVec.toNat_ofNat, Nat.mod_eq_of_lt (by omega)]
  rw [e1, BitVec.sshiftRight_eq']
  apply BitVec.eq_of_toNat_eq
  show ((BitVec.ofNat 32 (2 * n)).sshiftRight 1).toNat = (BitVec.ofNat 32 n).toNat
  rw [BitVec.toNat_sshiftRight_of_msb_false (by rw [BitVec.msb_eq_false_iff_two_mul_lt, hm]; omega), hm, BitVec.toNat_ofNat, Nat.shiftRight_eq_div_pow]
  omega
/-- charAt's cast of a byte read back -/
def chr8 (u : Int32) : Int32 := (u &&& 255).toUInt32.toUInt16.toUInt32.toInt32
theorem chr8_lo8 {c : Int32} (h0 : ¬ c < 0) (h1 : ¬ 255 < c) : chr8 (lo8 c) = c := by
  have t : ∀ k : Fin 256, (Int32.ofNat k.val).toUInt32.toUInt16.toUInt32.toInt32 = Int32.ofNat k.val := by decide +kernel
  unfold chr8
  rw [lo8_mask h0 h1]
  rw [Int32.lt_iff_toInt_lt] at h0 h1
  have e0 : (0 : Int32).toInt = 0 := rfl
  have e1 : (255 : Int32).toInt = 255 := rfl
  obtain ⟨k, hk⟩ : ∃ k : Nat, c.toInt = k := ⟨c.toInt.toNat, by omega⟩
  have hx : c = Int32.ofNat k := Int32.toInt_inj.mp (by rw [hk, Int32.toInt_ofNat_small (by omega)])
  rw [hx]
  exact t ⟨k, by omega⟩
theorem narrow_ch {c : Int32} (h0 : ¬ c < 0) (h1 : ¬ 65535 < c) : narrow .char (.int c) = .int c := by
  have q : narrow .char (.int (pairCh (lo8 c) (hi8 c))) = .int (pairCh (lo8 c) (hi8 c)) := narrow_c _
  rwa [pair_says h0 h1] at q
/-- the array's cell V codes the n chars f 0 .. f (n - 1) by the coder cd, as the JDK does: coder 1 just where some char is above 255 -/
def Cod (cd : Int32) (n : Nat) (f : Nat → Int32) (V : Cell) : Prop := (cd = 0 ∧ V.slots.size = n ∧ ∀ j, j < n → V.slots[j]? = some (.int (lo8 (f j))) ∧ ¬ 255 < f j) ∨ (cd = 1 ∧ V.slots.size = 2 * n ∧ (∀ j, j < n → V.slots[2 * j]? = some (.int (lo8 (f j))) ∧ V.slots[2 * j + 1]? = some (.int (hi8 (f j)))) ∧ ∃ j, j < n ∧ 255 < f j)
theorem Cod.cd {cd : Int32} {n : Nat} {f : Nat → Int32} {V : Cell} (h : Cod cd n f V) : cd = 0 ∨ cd = 1 := h.imp (fun q => q.1) fun q => q.1
theorem Cod.len {cd : Int32} {n : Nat} {f : Nat → Int32} {V : Cell} (h : Cod cd n f V) (hs : V.slots.size < 2 ^ 31) : Int32.ofNat V.slots.size >>> (cd &&& 31) = Int32.ofNat n := by
  rcases h with ⟨rfl, h, -⟩ | ⟨rfl, h, -⟩
  · rw [shr0, h]
  · rw [h, shr1 (by omega)]
/-- **x is a String of the n chars f 0 .. f (n - 1)**, Latin-1 or UTF-16; its array at t has the cell V -/
def Txt (x t : Addr) (V : Cell) (cd : Int32) (n : Nat) (f : Nat → Int32) (U : State) : Prop := Exact "java/lang/String" x U ∧ Has x "java/lang/String" "value" "[B" (.ref t) U ∧ Has x "java/lang/String" "coder" "B" (.int cd) U ∧ XT.Arr .byte t V U ∧ Cod cd n f V ∧ ∀ j, j < n → ¬ f j < 0 ∧ ¬ 65535 < f j
theorem Txt.mv {x t : Addr} {V : Cell} {cd : Int32} {n : Nat} {f : Nat → Int32} {U U' : State} (h : Txt x t V cd n f U) (hal : U.vm.Alike U'.vm) (hh : U'.heap = U.heap) : Txt x t V cd n f U' := ⟨h.1.mv hal hh, h.2.1.mv hal hh, h.2.2.1.mv hal hh, h.2.2.2.1.mv hal hh, h.2.2.2.2⟩
namespace Cdr
def yN : MethodName := ⟨"java/lang/String", "coder", "()B"⟩
abbrev yB : ByteArray := jdk_42_method_152_code
theorem d0 : decode yB 0 = .ok (.getstatic 38, 3) := by decide +kernel
theorem d3 : decode yB 3 = .ok (.ifCond (.eq) 10, 3) := by decide +kernel
theorem d6 : decode yB 6 = .ok (.aload_n 0, 1) := by decide +kernel
theorem d7 : decode yB 7 = .ok (.getfield 15, 3) := by decide +kernel
theorem d10 : decode yB 10 = .ok (.goto 4, 3) := by decide +kernel
theorem d14 : decode yB 14 = .ok (.ireturn, 1) := by decide +kernel
def site : List Cond := [.fieldLink "java/lang/String" 38 "java/lang/String" "COMPACT_STRINGS" "Z", .fieldLink "java/lang/String" 15 "java/lang/String" "coder" "B"]
def tab : Cond := tabOf yN yB 1 (some .byte) site
def P (x : Addr) (cd z : Int32) (args : Array Value) (s : State) : Prop := args = #[.ref x] ∧ Has x "java/lang/String" "coder" "B" (.int cd) s ∧ (cd = 0 ∨ cd = 1) ∧ StaticIs s "java/lang/String" "COMPACT_STRINGS" "Z" (.int z) ∧ ¬ z = 0
def E (cd : Int32) (r : Option Value) (s u : State) : Prop := XT.PureE (some (.int cd)) r s u
theorem law (l : Launch) (x : Addr) (cd z : Int32) : Law l yN 1 0 0 0 yB 1 (some .byte) site (P x cd z) (E cd) [] 0 0 := by
  refine Law.of_walk (plainFor_of_name (by decide +kernel)) (by decide +kernel) (by decide +kernel) (by decide) (fun _ _ h => by rw [h.1]; rfl) (fun _ U U' hal hh h => ⟨h.1, h.2.1.mv hal hh, h.2.2.1, h.2.2.2.1.there hal hh, h.2.2.2.2⟩) (fun r U U' V V' h1 hal h2 h => XT.PureE.mv r U U' V V' h1 hal h2 h) ?_
  intro p e s m args below meth c s₁ X0 hexec hbytes hml hret hlk hnm hown hh0 W hP
  obtain ⟨rfl, hx, hc, s1, hz⟩ := hP
  have c1 : Steps p.tables e below (s₁.setTop (entryFrame m #[.ref x] 1)) (s₁.setTop (mkF m 0 #[.val (.ref x)] [])) := entry rfl
  obtain ⟨T2, X2, q2, st2⟩ := X0.sget hexec hown (wk W (.fieldLink "java/lang/String" 38 "java/lang/String" "COMPACT_STRINGS" "Z")) s1 (fun _ _ h => by rw [hh0]; exact h) (g := (mkF m 0 #[.val (.ref x)] [])) rfl (hb hbytes d0)
  have hh2 := q2.trans hh0
  have c3 : Steps p.tables e below (s₁.setTop (entryFrame m #[.ref x] 1)) (T2.setTop (mkF m 7 #[.val (.ref x)] [.ref x])) := (c1.trans (st2 _ (Steps.refl _))).trans (by
    refine XS.ifNo X2.here hexec rfl (hb hbytes d3) rfl (i0_eq_f hz) ?_
    refine XS.aloadN X2.here hexec rfl (hb hbytes d6) rfl rfl ?_
    exact Steps.refl _)
  obtain ⟨T4, X4, q4, st4⟩ := X2.hget hexec hown (wk W (.fieldLink "java/lang/String" 15 "java/lang/String" "coder" "B")) (hx.mv X2.warmed.alike hh2) (g := (mkF m 7 #[.val (.ref x)] [.ref x])) rfl (rest := []) rfl (hb hbytes d7)
  have c5 : Steps p.tables e below (s₁.setTop (entryFrame m #[.ref x] 1)) (T4.setTop (mkF m 14 #[.val (.ref x)] [.int cd])) := (c3.trans (st4 _ (Steps.refl _))).trans (by
    refine XS.goto X4.here hexec rfl (pc0 := 10) rfl (hb hbytes d10) (by decide) rfl ?_
    exact Steps.refl _)
  exact ⟨T4, some (.int cd), _, _, _, X4, rfl, rfl, rfl, (fun h => by cases h), ⟨rfl, q4.trans hh2⟩, fun fs hl => c5.trans (X4.ireturnOut hexec hret (by rcases hc with rfl | rfl <;> rfl) (Or.inr (Or.inr (Or.inl rfl))) (hb hbytes d14) hl)⟩
end Cdr
namespace Len
def yN : MethodName := ⟨"java/lang/String", "length", "()I"⟩
abbrev yB : ByteArray := jdk_42_method_54_code
theorem d0 : decode yB 0 = .ok (.aload_n 0, 1) := by decide +kernel
theorem d1 : decode yB 1 = .ok (.getfield 9, 3) := by decide +kernel
theorem d4 : decode yB 4 = .ok (.arraylength, 1) := by decide +kernel
theorem d5 : decode yB 5 = .ok (.aload_n 0, 1) := by decide +kernel
theorem d6 : decode yB 6 = .ok (.invokevirtual 335, 3) := by decide +kernel
theorem d9 : decode yB 9 = .ok (.ishr, 1) := by decide +kernel
theorem d10 : decode yB 10 = .ok (.ireturn, 1) := by decide +kernel
def site : List Cond := [.fieldLink "java/lang/String" 9 "java/lang/String" "value" "[B", Cdr.tab] ++ virtW "java/lang/String" 335 "java/lang/String" Cdr.yN Cdr.yN
def tab : Cond := tabOf yN yB 1 (some .int) site
def P (x t : Addr) (V : Cell) (cd : Int32) (n : Nat) (f : Nat → Int32) (z : Int32) (args : Array Value) (s : State) : Prop := args = #[.ref x] ∧ Txt x t V cd n f s ∧ StaticIs s "java/lang/String" "COMPACT_STRINGS" "Z" (.int z) ∧ ¬ z = 0
def E (n : Nat) (r : Option Value) (s u : State) : Prop := XT.PureE (some (.int (Int32.ofNat n))) r s u
/-- length() of a String of n chars, in either coding -/
theorem law (l : Launch) (x t : Addr) (V : Cell) (cd : Int32) (n : Nat) (f : Nat → Int32) (z : Int32) : Law l yN 1 0 1 13 yB 1 (some .int) site (P x t V cd n f z) (E n) [] 0 0 := by
  refine Law.of_walk (plainFor_of_name (by decide +kernel)) (by decide +kernel) (by decide +kernel) (by decide) (fun _ _ h => by rw [h.1]; rfl) (fun _ U U' hal hh h => ⟨h.1, h.2.1.mv hal hh, h.2.2.1.there hal hh, h.2.2.2⟩) (fun r U U' V V' h1 hal h2 h => XT.PureE.mv r U U' V V' h1 hal h2 h) ?_
  intro p e s m args below meth c s₁ X0 hexec hbytes hml hret hlk hnm hown hh0 W hP
  obtain ⟨rfl, hx, s1, hz⟩ := hP
  have v31 := hx.2.2.2.1.2.2.2
  have c1 : Steps p.tables e below (s₁.setTop (entryFrame m #[.ref x] 1)) (s₁.setTop (mkF m 1 #[.val (.ref x)] [.ref x])) := Steps.trans (entry rfl) (by
    show Steps p.tables e below (s₁.setTop (mkF m 0 #[.val (.ref x)] [])) _
    refine XS.aloadN X0.here hexec rfl (hb hbytes d0) rfl rfl ?_
    exact Steps.refl _)
  obtain ⟨T2, X2, q2, st2⟩ := X0.hget hexec hown (wk W (.fieldLink "java/lang/String" 9 "java/lang/String" "value" "[B")) (hx.mv X0.warmed.alike hh0).2.1 (g := (mkF m 1 #[.val (.ref x)] [.ref x])) rfl (rest := []) rfl (hb hbytes d1)
  have hh2 := q2.trans hh0
  have hx2 := hx.mv X2.warmed.alike hh2
  have c3 : Steps p.tables e below (s₁.setTop (entryFrame m #[.ref x] 1)) (T2.setTop (mkF m 6 #[.val (.ref x)] [.ref x, .int (Int32.ofNat V.slots.size)])) := (c1.trans (st2 _ (Steps.refl _))).trans (by
    refine X2.alen hexec hx2.2.2.2.1 rfl rfl (hb hbytes d4) ?_
    refine XS.aloadN X2.here hexec rfl (hb hbytes d5) rfl rfl ?_
    exact Steps.refl _)
  obtain ⟨v4, T4, X4, E4, g4⟩ := X2.callV hexec (Cdr.law l x cd z) hown (wks W (virtW "java/lang/String" 335 "java/lang/String" Cdr.yN Cdr.yN)) rfl (by decide) (wk W Cdr.tab) (W := 1) (Nat.le_of_ble_eq_true rfl) (Nat.le_of_ble_eq_true rfl) (Nat.le_refl _) (Nat.le_refl _) (hx2.1.fc X2.warmed.alike) hx2.1.is (g := (mkF m 6 #[.val (.ref x)] [.ref x, .int (Int32.ofNat V.slots.size)])) rfl (by rw [hml]; rfl) c3 (argsL := []) (rest := [.int (Int32.ofNat V.slots.size)]) rfl rfl (by show 2 * 0 + (1 + 0) ≤ _; decide) (hb hbytes d6) (⟨rfl, hx2.2.2.1, hx.2.2.2.2.1.cd, s1.there X2.warmed.alike hh2, hz⟩)
  obtain ⟨rfl, q4⟩ := E4
  have c5 : Steps p.tables e below (s₁.setTop (entryFrame m #[.ref x] 1)) (T4.setTop (mkF m 10 #[.val (.ref x)] [.int (Int32.ofNat V.slots.size >>> (cd &&& 31))])) := Steps.trans g4 (by
    refine ishr X4.here hexec rfl (hb hbytes d9) rfl ?_
    exact Steps.refl _)
  rw [hx.2.2.2.2.1.len v31] at c5
  exact ⟨T4, some (.int (Int32.ofNat n)), _, _, _, X4, rfl, rfl, rfl, (fun h => by cases h), ⟨rfl, q4.trans hh2⟩, fun fs hl => c5.trans (X4.ireturnOut hexec hret rfl (Or.inl rfl) (hb hbytes d10) hl)⟩
theorem pays {l : Launch} {R : Room} {p : Program} {e : Env} {below : List Frame} {s : State} {sargs : Array Value} {len W : Nat} (x t : Addr) (V : Cell) (cd : Int32) (n : Nat) (f : Nat → Int32) (z : Int32) (htab : tab.before sargs s = true) (hfr : 2 ≤ R.frames) (hlo : W + 25 ≤ R.locals) :
    Back l R p e below s sargs yN len W (fun A₁ a₁ => A₁.cells + 0 ≤ R.cells ∧ A₁.slots + 0 ≤ R.slots ∧ P x t V cd n f z a₁ A₁.U) (fun A₁ _ v₁ B₁ => E n v₁ A₁.U B₁.U ∧ B₁.locs = A₁.locs ++ [] ∧ B₁.cells = A₁.cells + 0 ∧ B₁.slots = A₁.slots + 0) :=
  (law l x t V cd n f z).pays htab hfr (by omega)
end Len
namespace IsL
def yN : MethodName := ⟨"java/lang/String", "isLatin1", "()Z"⟩
abbrev yB : ByteArray := jdk_42_method_154_code
theorem d0 : decode yB 0 = .ok (.getstatic 38, 3) := by decide +kernel
theorem d3 : decode yB 3 = .ok (.ifCond (.eq) 14, 3) := by decide +kernel
theorem d6 : decode yB 6 = .ok (.aload_n 0, 1) := by decide +kernel
theorem d7 : decode yB 7 = .ok (.getfield 15, 3) := by decide +kernel
theorem d10 : decode yB 10 = .ok (.ifCond (.ne) 7, 3) := by decide +kernel
theorem d13 : decode yB 13 = .ok (.iconst 1, 1) := by decide +kernel
theorem d14 : decode yB 14 = .ok (.goto 4, 3) := by decide +kernel
theorem d17 : decode yB 17 = .ok (.iconst 0, 1) := by decide +kernel
theorem d18 : decode yB 18 = .ok (.ireturn, 1) := by decide +kernel
def site : List Cond := [.fieldLink "java/lang/String" 38 "java/lang/String" "COMPACT_STRINGS" "Z", .fieldLink "java/lang/String" 15 "java/lang/String" "coder" "B"]
def tab : Cond := tabOf yN yB 1 (some .boolean) site
def P (x : Addr) (cd z : Int32) (args : Array Value) (s : State) : Prop := args = #[.ref x] ∧ Has x "java/lang/String" "coder" "B" (.int cd) s ∧ (cd = 0 ∨ cd = 1) ∧ StaticIs s "java/lang/String" "COMPACT_STRINGS" "Z" (.int z) ∧ ¬ z = 0
def E (cd : Int32) (r : Option Value) (s u : State) : Prop := XT.PureE (some (.int (1 - cd))) r s u
theorem law (l : Launch) (x : Addr) (cd z : Int32) : Law l yN 1 0 0 0 yB 1 (some .boolean) site (P x cd z) (E cd) [] 0 0 := by
  refine Law.of_walk (plainFor_of_name (by decide +kernel)) (by decide +kernel) (by decide +kernel) (by decide) (fun _ _ h => by rw [h.1]; rfl) (fun _ U U' hal hh h => ⟨h.1, h.2.1.mv hal hh, h.2.2.1, h.2.2.2.1.there hal hh, h.2.2.2.2⟩) (fun r U U' V V' h1 hal h2 h => XT.PureE.mv r U U' V V' h1 hal h2 h) ?_
  intro p e s m args below meth c s₁ X0 hexec hbytes hml hret hlk hnm hown hh0 W hP
  obtain ⟨rfl, hx, hc, s1, hz⟩ := hP
  have c1 : Steps p.tables e below (s₁.setTop (entryFrame m #[.ref x] 1)) (s₁.setTop (mkF m 0 #[.val (.ref x)] [])) := entry rfl
  obtain ⟨T2, X2, q2, st2⟩ := X0.sget hexec hown (wk W (.fieldLink "java/lang/String" 38 "java/lang/String" "COMPACT_STRINGS" "Z")) s1 (fun _ _ h => by rw [hh0]; exact h) (g := (mkF m 0 #[.val (.ref x)] [])) rfl (hb hbytes d0)
  have hh2 := q2.trans hh0
  have c3 : Steps p.tables e below (s₁.setTop (entryFrame m #[.ref x] 1)) (T2.setTop (mkF m 7 #[.val (.ref x)] [.ref x])) := (c1.trans (st2 _ (Steps.refl _))).trans (by
    refine XS.ifNo X2.here hexec rfl (hb hbytes d3) rfl (i0_eq_f hz) ?_
    refine XS.aloadN X2.here hexec rfl (hb hbytes d6) rfl rfl ?_
    exact Steps.refl _)
  obtain ⟨T4, X4, q4, st4⟩ := X2.hget hexec hown (wk W (.fieldLink "java/lang/String" 15 "java/lang/String" "coder" "B")) (hx.mv X2.warmed.alike hh2) (g := (mkF m 7 #[.val (.ref x)] [.ref x])) rfl (rest := []) rfl (hb hbytes d7)
  have c5 : Steps p.tables e below (s₁.setTop (entryFrame m #[.ref x] 1)) (T4.setTop (mkF m 10 #[.val (.ref x)] [.int cd])) := c3.trans (st4 _ (Steps.refl _))
  have c6 : Steps p.tables e below (s₁.setTop (entryFrame m #[.ref x] 1)) (T4.setTop (mkF m 18 #[.val (.ref x)] [.int (1 - cd)])) := by
    rcases hc with rfl | rfl
    · exact c5.trans (by
        refine XS.ifNo X4.here hexec rfl (hb hbytes d10) rfl (i0_ne_f rfl) ?_
        refine iconstV X4.here hexec rfl 1 (hb hbytes d13) (by decide) ?_
        refine XS.goto X4.here hexec rfl (pc0 := 14) rfl (hb hbytes d14) (by decide) rfl ?_
        exact Steps.refl _)
    · exact c5.trans (by
        refine XS.ifYes X4.here hexec rfl (pc0 := 10) rfl (hb hbytes d10) rfl (i0_ne_t (by decide)) (by decide) rfl ?_
        refine iconstV X4.here hexec rfl 0 (hb hbytes d17) (by decide) ?_
        exact Steps.refl _)
  exact ⟨T4, some (.int (1 - cd)), _, _, _, X4, rfl, rfl, rfl, (fun h => by cases h), ⟨rfl, q4.trans hh2⟩, fun fs hl => c6.trans (X4.ireturnOut hexec hret (by rcases hc with rfl | rfl <;> rfl) (Or.inr (Or.inl rfl)) (hb hbytes d18) hl)⟩
end IsL
namespace LChA
def yN : MethodName := ⟨"java/lang/StringLatin1", "charAt", "([BI)C"⟩
abbrev yB : ByteArray := jdk_43_method_2_code
theorem d0 : decode yB 0 = .ok (.iload_n 1, 1) := by decide +kernel
theorem d1 : decode yB 1 = .ok (.aload_n 0, 1) := by decide +kernel
theorem d2 : decode yB 2 = .ok (.arraylength, 1) := by decide +kernel
theorem d3 : decode yB 3 = .ok (.invokestatic 9, 3) := by decide +kernel
theorem d6 : decode yB 6 = .ok (.aload_n 0, 1) := by decide +kernel
theorem d7 : decode yB 7 = .ok (.iload_n 1, 1) := by decide +kernel
theorem d8 : decode yB 8 = .ok (.baload, 1) := by decide +kernel
theorem d9 : decode yB 9 = .ok (.sipush 255, 3) := by decide +kernel
theorem d12 : decode yB 12 = .ok (.iand, 1) := by decide +kernel
theorem d13 : decode yB 13 = .ok (.i2c, 1) := by decide +kernel
theorem d14 : decode yB 14 = .ok (.ireturn, 1) := by decide +kernel
def site : List Cond := [JO.Str_checkIndex.tab] ++ staticW "java/lang/StringLatin1" 9 JO.Str_checkIndex.yN
def tab : Cond := tabOf yN yB 2 (some .char) site
def P (t : Addr) (V : Cell) (i : Nat) (u : Int32) (fm : Value) (args : Array Value) (s : State) : Prop := args = #[.ref t, .int (Int32.ofNat i)] ∧ XT.Arr .byte t V s ∧ V.slots[i]? = some (.int u) ∧ (StaticIs s "jdk/internal/util/Preconditions" "SIOOBE_FORMATTER" "Ljava/util/function/BiFunction;" fm ∧ fm.isRef = true)
def E (u : Int32) (r : Option Value) (s w : State) : Prop := XT.PureE (some (.int (chr8 u))) r s w
theorem law (l : Launch) (t : Addr) (V : Cell) (i : Nat) (u : Int32) (fm : Value) : Law l yN 2 2 2 27 yB 2 (some .char) site (P t V i u fm) (E u) [] 0 0 := by
  refine Law.of_walk (plainFor_of_name (by decide +kernel)) (by decide +kernel) (by decide +kernel) (by decide) (fun _ _ h => by rw [h.1]; rfl) (fun _ U U' hal hh h => ⟨h.1, h.2.1.mv hal hh, h.2.2.1, h.2.2.2.1.there hal hh, h.2.2.2.2⟩) (fun r U U' V V' h1 hal h2 h => XT.PureE.mv r U U' V V' h1 hal h2 h) ?_
  intro p e s m args below meth c s₁ X0 hexec hbytes hml hret hlk hnm hown hh0 W hP
  obtain ⟨rfl, hV, hu, s1, rf⟩ := hP
  have v31 := hV.2.2.2
  have hi : i < V.slots.size := (Array.getElem?_eq_some_iff.mp hu).1
  have c1 : Steps p.tables e below (s₁.setTop (entryFrame m #[.ref t, .int (Int32.ofNat i)] 2)) (s₁.setTop (mkF m 0 #[.val (.ref t), .val (.int (Int32.ofNat i))] [])) := entry rfl
  have c2 : Steps p.tables e below (s₁.setTop (entryFrame m #[.ref t, .int (Int32.ofNat i)] 2)) (s₁.setTop (mkF m 3 #[.val (.ref t), .val (.int (Int32.ofNat i))] [.int (Int32.ofNat V.slots.size), .int (Int32.ofNat i)])) := c1.trans (by
    refine XS.iloadN X0.here hexec rfl (hb hbytes d0) rfl ?_
    refine XS.aloadN X0.here hexec rfl (hb hbytes d1) rfl rfl ?_
    refine X0.alen hexec (hV.mv X0.warmed.alike hh0) rfl rfl (hb hbytes d2) ?_
    exact Steps.refl _)
  obtain ⟨v3, T3, X3, E3, g3⟩ := X0.callS hexec (JO.Str_checkIndex.law l (Int32.ofNat i) (Int32.ofNat V.slots.size) fm) hown (wks W (staticW "java/lang/StringLatin1" 9 JO.Str_checkIndex.yN)) (wk W JO.Str_checkIndex.tab) (W := 0) (Nat.le_of_ble_eq_true rfl) (Nat.le_of_ble_eq_true rfl) (Nat.le_refl _) (Nat.le_refl _) (g := (mkF m 3 #[.val (.ref t), .val (.int (Int32.ofNat i))] [.int (Int32.ofNat V.slots.size), .int (Int32.ofNat i)])) rfl (by rw [hml]; rfl) c2 (argsL := [.int (Int32.ofNat i), .int (Int32.ofNat V.slots.size)]) (rest := []) rfl rfl (by show 2 * 0 + 0 ≤ _; decide) (hb hbytes d3) (⟨rfl, rf, s1.there X0.warmed.alike hh0, Int32.ofNat_not_neg (by omega), lt32 v31 hi⟩)
  obtain ⟨rfl, q3⟩ := E3
  have hh3 := q3.trans hh0
  have c4 : Steps p.tables e below (s₁.setTop (entryFrame m #[.ref t, .int (Int32.ofNat i)] 2)) (T3.setTop (mkF m 14 #[.val (.ref t), .val (.int (Int32.ofNat i))] [.int (chr8 u)])) := Steps.trans g3 (by
    refine XS.aloadN X3.here hexec rfl (hb hbytes d6) rfl rfl ?_
    refine XS.iloadN X3.here hexec rfl (hb hbytes d7) rfl ?_
    refine X3.aget hexec (hV.mv X3.warmed.alike hh3) rfl hu rfl rfl (hb hbytes d8) ?_
    refine sipushV X3.here hexec rfl 255 (hb hbytes d9) (by decide) ?_
    refine XS.iand X3.here hexec rfl (hb hbytes d12) rfl ?_
    refine i2c X3.here hexec rfl (hb hbytes d13) rfl ?_
    exact Steps.refl _)
  exact ⟨T3, some (.int (chr8 u)), _, _, _, X3, rfl, rfl, rfl, (fun h => by cases h), ⟨rfl, hh3⟩, fun fs hl => c4.trans (X3.ireturnOut hexec hret (narrow_c _) (Or.inr (Or.inr (Or.inr (Or.inl rfl)))) (hb hbytes d14) hl)⟩
end LChA
end StrChars
namespace StrChars.Road
open Jvm Sem ClassFile Op Lib Jvm.Stand Jvm.Free Jvm.Free.XT
open Jvm.Lib.Cold (StaticIs)
theorem consq {a : Array Value} {s : State} {c : Jvm.Cond} {L : List Jvm.Cond} (h0 : c.before a s = true) (h : ∀ w ∈ L, w.before a s = true) : ∀ w ∈ c :: L, w.before a s = true := fun w hw => (List.mem_cons.mp hw).elim (fun e => e ▸ h0) (h w)
/-- the words of String.length(), either coding -/
abbrev wordsLen : List Jvm.Cond := [.code Len.yN Len.yB 1 (some .int), .initialized ST, .fieldLink ST 9 ST "value" "[B", .fieldLink ST 38 ST "COMPACT_STRINGS" "Z", .fieldLink ST 15 ST "coder" "B", .code Cdr.yN Cdr.yB 1 (some .byte), .methodLink ST 335 Cdr.yN, .declares Cdr.yN, .selects ST Cdr.yN Cdr.yN, .instanceMethod Cdr.yN]
theorem tabLen_of {a : Array Value} {s : State} (h : ∀ w ∈ wordsLen, w.before a s = true) : Len.tab.before a s = true := by
  have hc : Cdr.tab.before a s = true := unparts (wk h (.code Cdr.yN Cdr.yB 1 (some .byte))) (wks h (.initialized Cdr.yN.cls :: Cdr.site))
  have q := consq hc h
  exact unparts (wk q (.code Len.yN Len.yB 1 (some .int))) (wks q (.initialized Len.yN.cls :: Len.site))
theorem movedLen {Z s : State} {a0 args : Array Value} (hZ : Z.Warmed39 s.vm) (hw : ∀ d ∈ wordsLen, d.before a0 Z = true) : ∀ d ∈ wordsLen, d.before args s = true := fun d hd => by
  have q := hw d hd
  have t : ∀ d ∈ wordsLen, d = .arrayClass .byte ∨ (d.onTables && d.keepsFace) = true := by decide +kernel
  rcases t d hd with rfl | t
  · exact RoadKit.mvA hZ q
  · exact RoadKit.mv hZ q t
/-- the bytes of the chars cs, low before high -/
def wideBytes : List Int32 → List Value
  | [] => []
  | c :: cs => .int (lo8 c) :: .int (hi8 c) :: wideBytes cs
theorem wide_lo (d : Value) : ∀ (cs : List Int32) (j : Nat), j < cs.length → (wideBytes cs).getD (2 * j) d = .int (lo8 (cs.getD j 0))
  | [], j, h => absurd h (Nat.not_lt_zero j)
  | c :: cs, 0, _ => rfl
  | c :: cs, j + 1, h => by
    have q := wide_lo d cs j (by simpa using h)
    rw [show 2 * (j + 1) = 2 * j + 1 + 1 from by omega]
    simpa [wideBytes] using q
theorem wide_hi (d : Value) : ∀ (cs : List Int32) (j : Nat), j < cs.length → (wideBytes cs).getD (2 * j + 1) d = .int (hi8 (cs.getD j 0))
  | [], j, h => absurd h (Nat.not_lt_zero j)
  | c :: cs, 0, _ => rfl
  | c :: cs, j + 1, h => by
    have q := wide_hi d cs j (by simpa using h)
    rw [show 2 * (j + 1) + 1 = 2 * j + 1 + 1 + 1 from by omega]
    simpa [wideBytes] using q
theorem low_at (d : Value) (cs : List Int32) (j : Nat) (h : j < cs.length) : (cs.map fun c => Value.int (lo8 c)).getD j d = .int (lo8 (cs.getD j 0)) := by
  simp [List.getD_eq_getElem?_getD, h]
/-- an array of N2 bytes vs codes the chars cs by the coder cd -/
def CodA (cs : List Int32) (cd N2 : Int32) (vs : List Value) : Prop := (cd = 0 ∧ N2 = Int32.ofNat cs.length ∧ vs = (cs.map fun c => Value.int (lo8 c)) ∧ ∀ c ∈ cs, ¬ 255 < c) ∨ (cd = 1 ∧ N2 = Int32.ofNat (2 * cs.length) ∧ vs = wideBytes cs ∧ ∃ c ∈ cs, 255 < c)
theorem CodA.cod {cs : List Int32} {cd N2 : Int32} {vs : List Value} {V : Cell} (h : CodA cs cd N2 vs) (hn : 2 * cs.length < 2 ^ 31) (hs : V.slots.size = N2.toNatClampNeg) (hv : RoadKit.Has V vs (.int 0)) : Cod cd cs.length (fun j => cs.getD j 0) V := by
  rcases h with ⟨rfl, rfl, rfl, h⟩ | ⟨rfl, rfl, rfl, c, hc, hw⟩
  · rw [n32 (by omega)] at hs
    exact Or.inl ⟨rfl, hs, fun j hj => ⟨by rw [hv j (by omega), low_at _ _ _ hj], by
      have e : cs.getD j 0 = cs[j] := by simp [List.getD_eq_getElem?_getD, hj]
      show ¬ 255 < cs.getD j 0
      rw [e]; exact h _ (List.getElem_mem _)⟩⟩
  · rw [n32 (by omega)] at hs
    obtain ⟨j, hj, rfl⟩ := List.getElem_of_mem hc
    exact Or.inr ⟨rfl, hs, fun j hj => ⟨by rw [hv _ (by omega), wide_lo _ _ _ hj], by rw [hv _ (by omega), wide_hi _ _ _ hj]⟩, j, hj, by
      have e : cs.getD j 0 = cs[j] := by simp [List.getD_eq_getElem?_getD, hj]
      show 255 < cs.getD j 0
      rw [e]; exact hw⟩
/-- an object of exactly java/lang/String, its two fields found: as the laws ask it -/
theorem strObj {Z U : State} {a0 : Array Value} {kI : Nat} (wi : (Jvm.Cond.instantiable ST kI).before a0 Z = true) (al : Z.vm.Alike U.vm) {x : Addr} {v0 c0 : Value} (E : RoadKit.Exa Z U.heap x ST) (V : RoadKit.Fld Z U.heap x ST "value" "[B" v0) (C : RoadKit.Fld Z U.heap x ST "coder" "B" c0) :
    ∃ (D : Cell) (fV fC : Field), Blank ST x D U ∧ Found ST "value" "[B" fV U ∧ Found ST "coder" "B" fC U ∧ D.slots[fV.slot]? = some v0 ∧ D.slots[fC.slot]? = some c0 ∧ RoadKit.slotOf Z ST "value" "[B" = fV.slot ∧ RoadKit.slotOf Z ST "coder" "B" = fC.slot := by
  obtain ⟨D, cfV, kV, iV, fV, hD, gV, stV, knV, obV, asV, slV⟩ := V
  obtain ⟨D', cfC, kC, iC, fC, hD', gC, stC, -, -, asC, slC⟩ := C
  cases hD.symm.trans hD'
  obtain ⟨D2, kD, e1, e2, e3, e4, e5⟩ := E
  cases hD.symm.trans e1
  obtain ⟨c2, k2, i1, i2, i3, -⟩ := Cond.instantiable_spec wi
  cases e2.symm.trans i1
  cases e3.symm.trans i2
  obtain ⟨kU, u1, u2⟩ := al.2.2 _ _ e3
  exact ⟨D, fV, fC, ⟨hD, ⟨knV, fun q hq => by rw [hq] at obV; cases obV⟩, by rw [al.findClass]; exact e2, kU, u1, by rw [u2]; exact i3, by rw [u2]; exact e5 i3⟩, ⟨SBG.found_only al ⟨cfV, kV, iV, gV⟩, stV⟩, ⟨SBG.found_only al ⟨cfC, kC, iC, gC⟩, stC⟩, slV, slC, by simp [RoadKit.slotOf, gV], by simp [RoadKit.slotOf, gC]⟩
theorem sta_is {Z U : State} (al : Z.vm.Alike U.vm) {C n d : String} {v : Value} (S : RoadKit.Sta Z U.heap C n d v) : StaticIs U C n d v := by
  obtain ⟨cfS, iS, kS, fS, st, cS, t1, t2, t3, t4, t5, t6, t7⟩ := S
  exact StaticIs.there (s := { Z with heap := U.heap }) ⟨cfS, iS, kS, fS, st, cS, t1, t2, t3, t4, t5, (fun q => by rw [q] at t6; cases t6), t7⟩ al rfl
/-- **length() OF SUCH A STRING** -/
theorem lenW {p : Program} {l : Launch} {e : Env} {R : Room} {s : State} {args : Array Value} {below : List Frame} {len W : Nat} {Z : State} {a0 : Array Value} {h : Heap} (hZ : Z.Warmed39 s.vm) (hw : ∀ d ∈ wordsLen, d.before a0 Z = true) {kI : Nat} (wi : (Jvm.Cond.instantiable ST kI).before a0 Z = true)
    {x t : Addr} {kb : ClassId} {cs : List Int32} {cd N2 z : Int32} {vs : List Value} (E : RoadKit.Exa Z h x ST) (V : RoadKit.Fld Z h x ST "value" "[B" (.ref t)) (C : RoadKit.Fld Z h x ST "coder" "B" (.int cd)) (K : RoadKit.Arv Z h t kb .byte N2 vs (.int 0)) (hc : CodA cs cd N2 vs) (hb : ∀ c ∈ cs, ¬ c < 0 ∧ ¬ (65535 : Int32) < c)
    (S : RoadKit.Sta Z h ST "COMPACT_STRINGS" "Z" (.int z)) (hz : ¬ z = 0) (l2 : cs.length ≤ 4000) (hfr : 2 ≤ R.frames) (hlo : W + 25 ≤ R.locals) :
    Back l R p e below s args (⟨"java/lang/String", "length", "()I"⟩ : MethodName) len W (fun P a => a = #[.ref x] ∧ P.U.heap = h ∧ P.cells + 0 ≤ R.cells ∧ P.slots + 0 ≤ R.slots)
      (fun P _ v B => ∃ L, (v = some (.int (Int32.ofNat cs.length)) ∧ L = [] ∧ B.U.heap = h) ∧ B.locs = P.locs ++ L ∧ B.cells = P.cells + 0 ∧ B.slots = P.slots + 0) := by
  obtain ⟨A, K1, K2, K3, K4, K5, K6⟩ := K
  have hcod := hc.cod (by omega) K3 K5
  intro m meth c P g ig mk a X hg hsize hdg hW hn hp'
  obtain ⟨rfl, rfl, r1, r2⟩ := hp'
  have al : Z.vm.Alike P.U.vm := hZ.alike.trans X.warmed.alike
  obtain ⟨D, fV, fC, hB, F1, F2, g1, g2, -, -⟩ := strObj wi al E V C
  have hx : Txt x t A cd cs.length (fun j => cs.getD j 0) P.U := ⟨⟨_, hB.2.2.1, D, hB.1, rfl, by cases q : D.vm <;> first | rfl | exact absurd q (hB.2.1.2 _)⟩, Has.of hB F1 g1, Has.of hB F2 g2, ⟨K1.1, State.isArrayOf_alike al K1.2.1, K1.2.2, by rcases hcod with ⟨-, q, -⟩ | ⟨-, q, -⟩ <;> omega⟩, hcod, fun j hj => by
    have e : cs.getD j 0 = cs[j] := by simp [List.getD_eq_getElem?_getD, hj]
    show ¬ cs.getD j 0 < 0 ∧ ¬ 65535 < cs.getD j 0
    rw [e]; exact hb _ (List.getElem_mem _)⟩
  obtain ⟨v, B, X', ⟨⟨hv, hh⟩, hl, hk, hs⟩, st⟩ := Len.pays x t A cd cs.length (fun j => cs.getD j 0) z (tabLen_of (movedLen hZ hw)) hfr hlo m meth c P g ig mk _ X hg hsize hdg hW hn ⟨r1, r2, rfl, hx, sta_is al S, hz⟩
  exact ⟨v, B, X', ⟨[], ⟨hv, rfl, hh⟩, hl, hk, hs⟩, st⟩
end StrChars.Road
namespace StrChars
open Jvm Sem ClassFile Op Lib Jvm.Stand Jvm.Free.XT Jvm.Free.ALB Jvm.Free.JM Jvm.Free
open Jvm.Lib.Cold (StaticIs)
namespace Emp
def yN : MethodName := ⟨"java/lang/String", "isEmpty", "()Z"⟩
abbrev yB : ByteArray := jdk_42_method_55_code
theorem d0 : decode yB 0 = .ok (.aload_n 0, 1) := by decide +kernel
theorem d1 : decode yB 1 = .ok (.getfield 9, 3) := by decide +kernel
theorem d4 : decode yB 4 = .ok (.arraylength, 1) := by decide +kernel
theorem d5 : decode yB 5 = .ok (.ifCond (.ne) 7, 3) := by decide +kernel
theorem d8 : decode yB 8 = .ok (.iconst 1, 1) := by decide +kernel
theorem d9 : decode yB 9 = .ok (.goto 4, 3) := by decide +kernel
theorem d12 : decode yB 12 = .ok (.iconst 0, 1) := by decide +kernel
theorem d13 : decode yB 13 = .ok (.ireturn, 1) := by decide +kernel
def site : List Cond := [.fieldLink "java/lang/String" 9 "java/lang/String" "value" "[B"]
def tab : Cond := tabOf yN yB 1 (some .boolean) site
def P (x t : Addr) (V : Cell) (cd : Int32) (n : Nat) (f : Nat → Int32) (args : Array Value) (s : State) : Prop := args = #[.ref x] ∧ Txt x t V cd n f s
def E (n : Nat) (r : Option Value) (s u : State) : Prop := XT.PureE (some (.int (if n = 0 then 1 else 0))) r s u
/-- isEmpty() of a String of n chars -/
theorem law (l : Launch) (x t : Addr) (V : Cell) (cd : Int32) (n : Nat) (f : Nat → Int32) : Law l yN 1 0 0 0 yB 1 (some .boolean) site (P x t V cd n f) (E n) [] 0 0 := by
  refine Law.of_walk (plainFor_of_name (by decide +kernel)) (by decide +kernel) (by decide +kernel) (by decide) (fun _ _ h => by rw [h.1]; rfl) (fun _ U U' hal hh h => ⟨h.1, h.2.mv hal hh⟩) (fun r U U' V V' h1 hal h2 h => XT.PureE.mv r U U' V V' h1 hal h2 h) ?_
  intro p e s m args below meth c s₁ X0 hexec hbytes hml hret hlk hnm hown hh0 W hP
  obtain ⟨rfl, hx⟩ := hP
  have v31 := hx.2.2.2.1.2.2.2
  have c1 : Steps p.tables e below (s₁.setTop (entryFrame m #[.ref x] 1)) (s₁.setTop (mkF m 1 #[.val (.ref x)] [.ref x])) := Steps.trans (entry rfl) (by
    show Steps p.tables e below (s₁.setTop (mkF m 0 #[.val (.ref x)] [])) _
    refine XS.aloadN X0.here hexec rfl (hb hbytes d0) rfl rfl ?_
    exact Steps.refl _)
  obtain ⟨T2, X2, q2, st2⟩ := X0.hget hexec hown (wk W (.fieldLink "java/lang/String" 9 "java/lang/String" "value" "[B")) (hx.mv X0.warmed.alike hh0).2.1 (g := (mkF m 1 #[.val (.ref x)] [.ref x])) rfl (rest := []) rfl (hb hbytes d1)
  have hh2 := q2.trans hh0
  have hx2 := hx.mv X2.warmed.alike hh2
  have c3 : Steps p.tables e below (s₁.setTop (entryFrame m #[.ref x] 1)) (T2.setTop (mkF m 5 #[.val (.ref x)] [.int (Int32.ofNat V.slots.size)])) := (c1.trans (st2 _ (Steps.refl _))).trans (by
    refine X2.alen hexec hx2.2.2.2.1 rfl rfl (hb hbytes d4) ?_
    exact Steps.refl _)
  have hz : V.slots.size = 0 ↔ n = 0 := by
    rcases hx.2.2.2.2.1 with ⟨-, q, -⟩ | ⟨-, q, -⟩ <;> omega
  by_cases h0 : n = 0
  · have c4 : Steps p.tables e below (s₁.setTop (entryFrame m #[.ref x] 1)) (T2.setTop (mkF m 13 #[.val (.ref x)] [.int 1])) := c3.trans (by
      refine XS.ifNo X2.here hexec rfl (hb hbytes d5) rfl (i0_ne_f (by rw [hz.mpr h0]; rfl)) ?_
      refine iconstV X2.here hexec rfl 1 (hb hbytes d8) (by decide) ?_
      refine XS.goto X2.here hexec rfl (pc0 := 9) rfl (hb hbytes d9) (by decide) rfl ?_
      exact Steps.refl _)
    exact ⟨T2, some (.int 1), _, _, _, X2, rfl, rfl, rfl, (fun h => by cases h), ⟨by rw [if_pos h0], hh2⟩, fun fs hl => c4.trans (X2.ireturnOut hexec hret rfl (Or.inr (Or.inl rfl)) (hb hbytes d13) hl)⟩
  · have c4 : Steps p.tables e below (s₁.setTop (entryFrame m #[.ref x] 1)) (T2.setTop (mkF m 13 #[.val (.ref x)] [.int 0])) := c3.trans (by
      refine XS.ifYes X2.here hexec rfl (pc0 := 5) rfl (hb hbytes d5) rfl (i0_ne_t (nz32 v31 (by omega))) (by decide) rfl ?_
      refine iconstV X2.here hexec rfl 0 (hb hbytes d12) (by decide) ?_
      exact Steps.refl _)
    exact ⟨T2, some (.int 0), _, _, _, X2, rfl, rfl, rfl, (fun h => by cases h), ⟨by rw [if_neg h0], hh2⟩, fun fs hl => c4.trans (X2.ireturnOut hexec hret rfl (Or.inr (Or.inl rfl)) (hb hbytes d13) hl)⟩
theorem pays {l : Launch} {R : Room} {p : Program} {e : Env} {below : List Frame} {s : State} {sargs : Array Value} {len W : Nat} (x t : Addr) (V : Cell) (cd : Int32) (n : Nat) (f : Nat → Int32) (htab : tab.before sargs s = true) (hfr : 1 ≤ R.frames) (hlo : W + 12 ≤ R.locals) :
    Back l R p e below s sargs yN len W (fun A₁ a₁ => A₁.cells + 0 ≤ R.cells ∧ A₁.slots + 0 ≤ R.slots ∧ P x t V cd n f a₁ A₁.U) (fun A₁ _ v₁ B₁ => E n v₁ A₁.U B₁.U ∧ B₁.locs = A₁.locs ++ [] ∧ B₁.cells = A₁.cells + 0 ∧ B₁.slots = A₁.slots + 0) :=
  (law l x t V cd n f).pays htab hfr (by omega)
end Emp
/-- what place i of a byte[]'s cell holds -/
def yv (A : Cell) (i : Nat) : Int32 := match A.slots[i]? with | some (.int x) => x | _ => 0
theorem yv_get {a : Addr} {A : Cell} {U : State} (h : XT.Arr .byte a A U) (ht : Typed .byte A) {i : Nat} (hi : i < A.slots.size) : A.slots[i]? = some (.int (yv A i)) := by
  have e := Array.getElem?_eq_getElem hi
  have f := ht i _ e
  unfold yv; rw [e]
  generalize A.slots[i] = v at f
  cases v <;> simp [fits] at f ⊢
/-- the two arrays are equal, place for place -/
def EqC (A B : Cell) : Prop := A.slots.size = B.slots.size ∧ ∀ i, i < A.slots.size → yv A i = yv B i
/-- a boolean that says whether p -/
def Says01 (q : Prop) (r : Option Value) (s u : State) : Prop := ∃ v : Int32, r = some (.int v) ∧ u.heap = s.heap ∧ ((v = 1 ∧ q) ∨ (v = 0 ∧ ¬ q))
theorem Says01.mv {q : Prop} : ∀ r (U U' V V' : State), U'.heap = U.heap → V.vm.Alike V'.vm → V'.heap = V.heap → Says01 q r U V → Says01 q r U' V' :=
  fun r U U' V V' h1 _ h2 ⟨v, a, b, c⟩ => ⟨v, a, by rw [h1, h2]; exact b, c⟩
namespace LEq
def yN : MethodName := ⟨"java/lang/StringLatin1", "equals", "([B[B)Z"⟩
abbrev yB : ByteArray := jdk_43_method_13_code
theorem d0 : decode yB 0 = .ok (.aload_n 0, 1) := by decide +kernel
theorem d1 : decode yB 1 = .ok (.arraylength, 1) := by decide +kernel
theorem d2 : decode yB 2 = .ok (.aload_n 1, 1) := by decide +kernel
theorem d3 : decode yB 3 = .ok (.arraylength, 1) := by decide +kernel
theorem d4 : decode yB 4 = .ok (.if_icmp (.ne) 30, 3) := by decide +kernel
theorem d7 : decode yB 7 = .ok (.iconst 0, 1) := by decide +kernel
theorem d8 : decode yB 8 = .ok (.istore_n 2, 1) := by decide +kernel
theorem d9 : decode yB 9 = .ok (.iload_n 2, 1) := by decide +kernel
theorem d10 : decode yB 10 = .ok (.aload_n 0, 1) := by decide +kernel
theorem d11 : decode yB 11 = .ok (.arraylength, 1) := by decide +kernel
theorem d12 : decode yB 12 = .ok (.if_icmp (.ge) 20, 3) := by decide +kernel
theorem d15 : decode yB 15 = .ok (.aload_n 0, 1) := by decide +kernel
theorem d16 : decode yB 16 = .ok (.iload_n 2, 1) := by decide +kernel
theorem d17 : decode yB 17 = .ok (.baload, 1) := by decide +kernel
theorem d18 : decode yB 18 = .ok (.aload_n 1, 1) := by decide +kernel
theorem d19 : decode yB 19 = .ok (.iload_n 2, 1) := by decide +kernel
theorem d20 : decode yB 20 = .ok (.baload, 1) := by decide +kernel
theorem d21 : decode yB 21 = .ok (.if_icmp (.eq) 5, 3) := by decide +kernel
theorem d24 : decode yB 24 = .ok (.iconst 0, 1) := by decide +kernel
theorem d25 : decode yB 25 = .ok (.ireturn, 1) := by decide +kernel
theorem d26 : decode yB 26 = .ok (.iinc 2 1, 3) := by decide +kernel
theorem d29 : decode yB 29 = .ok (.goto (-20), 3) := by decide +kernel
theorem d32 : decode yB 32 = .ok (.iconst 1, 1) := by decide +kernel
theorem d33 : decode yB 33 = .ok (.ireturn, 1) := by decide +kernel
theorem d34 : decode yB 34 = .ok (.iconst 0, 1) := by decide +kernel
theorem d35 : decode yB 35 = .ok (.ireturn, 1) := by decide +kernel
def site : List Cond := []
def tab : Cond := tabOf yN yB 3 (some .boolean) site
def P (a : Addr) (A : Cell) (b : Addr) (B : Cell) (args : Array Value) (s : State) : Prop := args = #[.ref a, .ref b] ∧ XT.Arr .byte a A s ∧ Typed .byte A ∧ XT.Arr .byte b B s ∧ Typed .byte B
/-- whether two byte[] are equal, place for place -/
theorem law (l : Launch) (a : Addr) (A : Cell) (b : Addr) (B : Cell) : Law l yN 2 2 0 0 yB 3 (some .boolean) site (P a A b B) (Says01 (EqC A B)) [] 0 0 := by
  refine Law.of_walk (plainFor_of_name (by decide +kernel)) (by decide +kernel) (by decide +kernel) (by decide) (fun _ _ h => by rw [h.1]; rfl) (fun _ U U' hal hh h => ⟨h.1, h.2.1.mv hal hh, h.2.2.1, h.2.2.2.1.mv hal hh, h.2.2.2.2⟩) (fun r U U' V V' h1 hal h2 h => Says01.mv r U U' V V' h1 hal h2 h) ?_
  intro p e s m args below meth c s₁ X0 hexec hbytes hml hret hlk hnm hown hh0 W hP
  obtain ⟨rfl, hA, tA, hB, tB⟩ := hP
  have a31 := hA.2.2.2
  have b31 := hB.2.2.2
  have hA0 := hA.mv X0.warmed.alike hh0
  have hB0 := hB.mv X0.warmed.alike hh0
  have c1 : Steps p.tables e below (s₁.setTop (entryFrame m #[.ref a, .ref b] 3)) (s₁.setTop (mkF m 0 #[.val (.ref a), .val (.ref b), .unset] [])) := entry rfl
  have c2 : Steps p.tables e below (s₁.setTop (entryFrame m #[.ref a, .ref b] 3)) (s₁.setTop (mkF m 4 #[.val (.ref a), .val (.ref b), .unset] [.int (Int32.ofNat B.slots.size), .int (Int32.ofNat A.slots.size)])) := c1.trans (by
    refine XS.aloadN X0.here hexec rfl (hb hbytes d0) rfl rfl ?_
    refine X0.alen hexec hA0 rfl rfl (hb hbytes d1) ?_
    refine XS.aloadN X0.here hexec rfl (hb hbytes d2) rfl rfl ?_
    refine X0.alen hexec hB0 rfl rfl (hb hbytes d3) ?_
    exact Steps.refl _)
  by_cases hs : A.slots.size = B.slots.size
  · have c3 : Steps p.tables e below (s₁.setTop (entryFrame m #[.ref a, .ref b] 3)) (s₁.setTop (mkF m 9 #[.val (.ref a), .val (.ref b), .val (.int 0)] [])) := c2.trans (by
      refine XS.icmpNo X0.here hexec rfl (hb hbytes d4) rfl (ii_ne_f (by rw [hs])) ?_
      refine iconstV X0.here hexec rfl 0 (hb hbytes d7) (by decide) ?_
      refine XS.istoreN X0.here hexec rfl (hb hbytes d8) rfl rfl ?_
      exact Steps.refl _)
    have loop : ∀ (r i : Nat), i + r = A.slots.size → (∀ j, j < i → yv A j = yv B j) → Steps p.tables e below (s₁.setTop (entryFrame m #[.ref a, .ref b] 3)) (s₁.setTop (mkF m 9 #[.val (.ref a), .val (.ref b), .val (.int (Int32.ofNat i))] [])) → ∃ (pc : Nat) (Ls : Array Slot) (v : Int32), (pc = 25 ∨ pc = 33) ∧ ((v = 1 ∧ EqC A B) ∨ (v = 0 ∧ ¬ EqC A B)) ∧ Steps p.tables e below (s₁.setTop (entryFrame m #[.ref a, .ref b] 3)) (s₁.setTop (mkF m pc Ls [.int v])) := by
      intro r
      induction r with
      | zero =>
        intro i hi he cl
        exact ⟨33, _, 1, Or.inr rfl, Or.inl ⟨rfl, hs, fun j hj => he j (by omega)⟩, cl.trans (by
          refine XS.iloadN X0.here hexec rfl (hb hbytes d9) rfl ?_
          refine XS.aloadN X0.here hexec rfl (hb hbytes d10) rfl rfl ?_
          refine X0.alen hexec hA0 rfl rfl (hb hbytes d11) ?_
          refine XS.icmpYes X0.here hexec rfl (pc0 := 12) rfl (hb hbytes d12) rfl (ii_ge_t (nlt32 (by omega) (by omega))) (by decide) rfl ?_
          refine iconstV X0.here hexec rfl 1 (hb hbytes d32) (by decide) ?_
          exact Steps.refl _)⟩
      | succ r ih =>
        intro i hi he cl
        have c4 : Steps p.tables e below (s₁.setTop (entryFrame m #[.ref a, .ref b] 3)) (s₁.setTop (mkF m 21 #[.val (.ref a), .val (.ref b), .val (.int (Int32.ofNat i))] [.int (yv B i), .int (yv A i)])) := cl.trans (by
          refine XS.iloadN X0.here hexec rfl (hb hbytes d9) rfl ?_
          refine XS.aloadN X0.here hexec rfl (hb hbytes d10) rfl rfl ?_
          refine X0.alen hexec hA0 rfl rfl (hb hbytes d11) ?_
          refine XS.icmpNo X0.here hexec rfl (hb hbytes d12) rfl (ii_ge_f (lt32 (by omega) (by omega))) ?_
          refine XS.aloadN X0.here hexec rfl (hb hbytes d15) rfl rfl ?_
          refine XS.iloadN X0.here hexec rfl (hb hbytes d16) rfl ?_
          refine X0.aget hexec hA0 rfl (yv_get hA tA (i := i) (by omega)) rfl rfl (hb hbytes d17) ?_
          refine XS.aloadN X0.here hexec rfl (hb hbytes d18) rfl rfl ?_
          refine XS.iloadN X0.here hexec rfl (hb hbytes d19) rfl ?_
          refine X0.aget hexec hB0 rfl (yv_get hB tB (i := i) (by omega)) rfl rfl (hb hbytes d20) ?_
          exact Steps.refl _)
        by_cases hv : yv A i = yv B i
        · have c5 : Steps p.tables e below (s₁.setTop (entryFrame m #[.ref a, .ref b] 3)) (s₁.setTop (mkF m 9 #[.val (.ref a), .val (.ref b), .val (.int (Int32.ofNat i + 1))] [])) := c4.trans (by
            refine XS.icmpYes X0.here hexec rfl (pc0 := 21) rfl (hb hbytes d21) rfl (ii_eq_t hv) (by decide) rfl ?_
            refine iincV X0.here hexec rfl 1 (hb hbytes d26) (by decide) rfl rfl ?_
            refine XS.goto X0.here hexec rfl (pc0 := 29) rfl (hb hbytes d29) (by decide) rfl ?_
            exact Steps.refl _)
          rw [succ32] at c5
          exact ih (i + 1) (by omega) (fun j hj => by
            by_cases e : j = i
            · rw [e]; exact hv
            · exact he j (by omega)) c5
        · exact ⟨25, _, 0, Or.inl rfl, Or.inr ⟨rfl, fun q => hv (q.2 i (by omega))⟩, c4.trans (by
            refine XS.icmpNo X0.here hexec rfl (hb hbytes d21) rfl (ii_eq_f hv) ?_
            refine iconstV X0.here hexec rfl 0 (hb hbytes d24) (by decide) ?_
            exact Steps.refl _)⟩
    obtain ⟨pc, Ls, v, hpc, hv, cz⟩ := loop A.slots.size 0 (by omega) (fun j hj => absurd hj (Nat.not_lt_zero j)) c3
    have nv : narrow .boolean (.int v) = .int v := by rcases hv with ⟨rfl, -⟩ | ⟨rfl, -⟩ <;> rfl
    rcases hpc with rfl | rfl
    · exact ⟨s₁, some (.int v), _, _, _, X0, rfl, rfl, rfl, (fun h => by cases h), ⟨v, rfl, hh0, hv⟩, fun fs hl => cz.trans (X0.ireturnOut hexec hret nv (Or.inr (Or.inl rfl)) (hb hbytes d25) hl)⟩
    · exact ⟨s₁, some (.int v), _, _, _, X0, rfl, rfl, rfl, (fun h => by cases h), ⟨v, rfl, hh0, hv⟩, fun fs hl => cz.trans (X0.ireturnOut hexec hret nv (Or.inr (Or.inl rfl)) (hb hbytes d33) hl)⟩
  · have c3 : Steps p.tables e below (s₁.setTop (entryFrame m #[.ref a, .ref b] 3)) (s₁.setTop (mkF m 35 #[.val (.ref a), .val (.ref b), .unset] [.int 0])) := c2.trans (by
      refine XS.icmpYes X0.here hexec rfl (pc0 := 4) rfl (hb hbytes d4) rfl (ii_ne_t (ne32 a31 b31 hs)) (by decide) rfl ?_
      refine iconstV X0.here hexec rfl 0 (hb hbytes d34) (by decide) ?_
      exact Steps.refl _)
    exact ⟨s₁, some (.int 0), _, _, _, X0, rfl, rfl, rfl, (fun h => by cases h), ⟨0, rfl, hh0, Or.inr ⟨rfl, fun q => hs q.1⟩⟩, fun fs hl => c3.trans (X0.ireturnOut hexec hret rfl (Or.inr (Or.inl rfl)) (hb hbytes d35) hl)⟩
end LEq
theorem Cod.ty {cd : Int32} {n : Nat} {f : Nat → Int32} {V : Cell} (h : Cod cd n f V) : Typed .byte V := fun i v hv => by
  have hi : i < V.slots.size := (Array.getElem?_eq_some_iff.mp hv).1
  rcases h with ⟨-, k1, k2⟩ | ⟨-, k1, k2, -⟩
  · rw [(k2 i (by omega)).1] at hv; cases hv; exact fits_lo8 _
  · rcases Nat.mod_two_eq_zero_or_one i with e | e
    · obtain ⟨j, rfl⟩ : ∃ j, i = 2 * j := ⟨i / 2, by omega⟩
      rw [(k2 j (by omega)).1] at hv; cases hv; exact fits_lo8 _
    · obtain ⟨j, rfl⟩ : ∃ j, i = 2 * j + 1 := ⟨i / 2, by omega⟩
      rw [(k2 j (by omega)).2] at hv; cases hv; exact fits_lo8 _
/-- the same text -/
def SameT (n : Nat) (f : Nat → Int32) (k : Nat) (g : Nat → Int32) : Prop := n = k ∧ ∀ j, j < n → f j = g j
theorem lo8_inj {x y : Int32} (h0 : ¬ x < 0) (h1 : ¬ 255 < x) (k0 : ¬ y < 0) (k1 : ¬ 255 < y) (h : lo8 x = lo8 y) : x = y := by
  rw [← lo8_mask h0 h1, ← lo8_mask k0 k1, h]
/-- arrays coded by one coder are equal just where the texts are -/
theorem Cod.eqv {cd : Int32} {n k : Nat} {f g : Nat → Int32} {V V' : Cell} (h : Cod cd n f V) (h' : Cod cd k g V') (hf : ∀ j, j < n → ¬ f j < 0 ∧ ¬ 65535 < f j) (hg : ∀ j, j < k → ¬ g j < 0 ∧ ¬ 65535 < g j) : EqC V V' ↔ SameT n f k g := by
  have yvv : ∀ {W : Cell} {i : Nat} {x : Int32}, W.slots[i]? = some (.int x) → yv W i = x := fun q => by unfold yv; rw [q]
  rcases h with ⟨rfl, k1, k2⟩ | ⟨rfl, k1, k2, -⟩
  · rcases h' with ⟨-, m1, m2⟩ | ⟨e, -⟩
    · constructor
      · rintro ⟨e1, e2⟩
        refine ⟨by omega, fun j hj => ?_⟩
        have q := e2 j (by omega)
        rw [yvv (k2 j hj).1, yvv (m2 j (by omega)).1] at q
        exact lo8_inj (hf j hj).1 (k2 j hj).2 (hg j (by omega)).1 (m2 j (by omega)).2 q
      · rintro ⟨rfl, e2⟩
        refine ⟨by omega, fun j hj => ?_⟩
        rw [yvv (k2 j (by omega)).1, yvv (m2 j (by omega)).1, e2 j (by omega)]
    · exact absurd e (by decide)
  · rcases h' with ⟨e, -⟩ | ⟨-, m1, m2, -⟩
    · exact absurd e (by decide)
    · constructor
      · rintro ⟨e1, e2⟩
        refine ⟨by omega, fun j hj => ?_⟩
        have q1 := e2 (2 * j) (by omega)
        have q2 := e2 (2 * j + 1) (by omega)
        rw [yvv (k2 j hj).1, yvv (m2 j (by omega)).1] at q1
        rw [yvv (k2 j hj).2, yvv (m2 j (by omega)).2] at q2
        rw [← pair_says (hf j hj).1 (hf j hj).2, ← pair_says (hg j (by omega)).1 (hg j (by omega)).2, q1, q2]
      · rintro ⟨rfl, e2⟩
        refine ⟨by omega, fun i hi => ?_⟩
        rcases Nat.mod_two_eq_zero_or_one i with e | e
        · obtain ⟨j, rfl⟩ : ∃ j, i = 2 * j := ⟨i / 2, by omega⟩
          rw [yvv (k2 j (by omega)).1, yvv (m2 j (by omega)).1, e2 j (by omega)]
        · obtain ⟨j, rfl⟩ : ∃ j, i = 2 * j + 1 := ⟨i / 2, by omega⟩
          rw [yvv (k2 j (by omega)).2, yvv (m2 j (by omega)).2, e2 j (by omega)]
/-- two codings differ: so do the texts -/
theorem Cod.dif {cd cd' : Int32} {n k : Nat} {f g : Nat → Int32} {V V' : Cell} (h : Cod cd n f V) (h' : Cod cd' k g V') (hne : ¬ cd = cd') : ¬ SameT n f k g := by
  rintro ⟨rfl, e⟩
  rcases h with ⟨rfl, -, k2⟩ | ⟨rfl, -, -, j, hj, hw⟩
  · rcases h' with ⟨rfl, -⟩ | ⟨-, -, -, j, hj, hw⟩
    · exact hne rfl
    · exact (k2 j hj).2 (by rw [e j hj]; exact hw)
  · rcases h' with ⟨-, -, m2⟩ | ⟨rfl, -⟩
    · exact (m2 j hj).2 (by rw [← e j hj]; exact hw)
    · exact hne rfl
/-- an object of exactly C is an instance of C -/
theorem cinst {p : Program} {l : Launch} {e : Env} {R : Room} {s : State} {m : MethodId} {args : Array Value} {below : List Frame} {meth : Method} {c : Code} {T : State} {locs : List Loc} {cells slots : Nat} (X : Stand p l e R s m args below meth c T locs cells slots) (hexec : p.tables.exec = Jvm.exec) {own C : String} {index : Nat} (hown : s.vm.findClass own = some m.cls) (hlink : (Cond.classLink own index C).before args s = true) {a : Addr} (hE : Exact C a T)
    {g : JFrame} (hg : g.method = m) {rest : List Value} (hstack : g.stack = .ref a :: rest) (hdg : decode c.code g.pc = .ok (.instanceof index, 3)) :
    ∃ T', Stand p l e R s m args below meth c T' locs cells slots ∧ T'.heap = T.heap ∧ ∀ target, Steps p.tables e below (T'.setTop { g with pc := g.pc + 3, stack := .int 1 :: rest }) target → Steps p.tables e below (T.setTop g) target := by
  obtain ⟨cB, h1, D, h2, h3, h4⟩ := hE
  have h1' : s.vm.findClass C = some cB := by rw [← X.warmed.alike.findClass]; exact h1
  obtain ⟨vm', X', st⟩ := X.instanceofYes hexec hown hlink h2 h4 h1' (by rw [h3]; exact Jvm.Free.SB.assignable_self _ _) hg hstack hdg
  exact ⟨_, X', rfl, st⟩
theorem cself {p : Program} {l : Launch} {e : Env} {R : Room} {s : State} {m : MethodId} {args : Array Value} {below : List Frame} {meth : Method} {c : Code} {T : State} {locs : List Loc} {cells slots : Nat} (X : Stand p l e R s m args below meth c T locs cells slots) (hexec : p.tables.exec = Jvm.exec) {own C : String} {index : Nat} (hown : s.vm.findClass own = some m.cls) (hlink : (Cond.classLink own index C).before args s = true) {a : Addr} (hE : Exact C a T)
    {g : JFrame} (hg : g.method = m) {rest : List Value} (hstack : g.stack = .ref a :: rest) (hdg : decode c.code g.pc = .ok (.checkcast index, 3)) :
    ∃ T', Stand p l e R s m args below meth c T' locs cells slots ∧ T'.heap = T.heap ∧ ∀ target, Steps p.tables e below (T'.setTop { g with pc := g.pc + 3, stack := .ref a :: rest }) target → Steps p.tables e below (T.setTop g) target := by
  obtain ⟨cB, h1, D, h2, h3, h4⟩ := hE
  have h1' : s.vm.findClass C = some cB := by rw [← X.warmed.alike.findClass]; exact h1
  obtain ⟨vm', X', st⟩ := X.checkcastYes hexec hown hlink h2 h4 h1' (by rw [h3]; exact Jvm.Free.SB.assignable_self _ _) hg hstack hdg
  exact ⟨_, X', rfl, fun t h => st t (by rw [← hstack] at h; exact h)⟩
namespace SEq
def yN : MethodName := ⟨"java/lang/String", "equals", "(Ljava/lang/Object;)Z"⟩
abbrev yB : ByteArray := jdk_42_method_66_code
theorem d0 : decode yB 0 = .ok (.aload_n 0, 1) := by decide +kernel
theorem d1 : decode yB 1 = .ok (.aload_n 1, 1) := by decide +kernel
theorem d2 : decode yB 2 = .ok (.if_acmp (.ne) 5, 3) := by decide +kernel
theorem d5 : decode yB 5 = .ok (.iconst 1, 1) := by decide +kernel
theorem d6 : decode yB 6 = .ok (.ireturn, 1) := by decide +kernel
theorem d7 : decode yB 7 = .ok (.aload_n 1, 1) := by decide +kernel
theorem d8 : decode yB 8 = .ok (.instanceof 10, 3) := by decide +kernel
theorem d11 : decode yB 11 = .ok (.ifCond (.eq) 43, 3) := by decide +kernel
theorem d14 : decode yB 14 = .ok (.aload_n 1, 1) := by decide +kernel
theorem d15 : decode yB 15 = .ok (.checkcast 10, 3) := by decide +kernel
theorem d18 : decode yB 18 = .ok (.astore_n 2, 1) := by decide +kernel
theorem d19 : decode yB 19 = .ok (.getstatic 38, 3) := by decide +kernel
theorem d22 : decode yB 22 = .ok (.ifCond (.eq) 14, 3) := by decide +kernel
theorem d25 : decode yB 25 = .ok (.aload_n 0, 1) := by decide +kernel
theorem d26 : decode yB 26 = .ok (.getfield 15, 3) := by decide +kernel
theorem d29 : decode yB 29 = .ok (.aload_n 2, 1) := by decide +kernel
theorem d30 : decode yB 30 = .ok (.getfield 15, 3) := by decide +kernel
theorem d33 : decode yB 33 = .ok (.if_icmp (.ne) 21, 3) := by decide +kernel
theorem d36 : decode yB 36 = .ok (.aload_n 0, 1) := by decide +kernel
theorem d37 : decode yB 37 = .ok (.getfield 9, 3) := by decide +kernel
theorem d40 : decode yB 40 = .ok (.aload_n 2, 1) := by decide +kernel
theorem d41 : decode yB 41 = .ok (.getfield 9, 3) := by decide +kernel
theorem d44 : decode yB 44 = .ok (.invokestatic 541, 3) := by decide +kernel
theorem d47 : decode yB 47 = .ok (.ifCond (.eq) 7, 3) := by decide +kernel
theorem d50 : decode yB 50 = .ok (.iconst 1, 1) := by decide +kernel
theorem d51 : decode yB 51 = .ok (.goto 4, 3) := by decide +kernel
theorem d54 : decode yB 54 = .ok (.iconst 0, 1) := by decide +kernel
theorem d55 : decode yB 55 = .ok (.ireturn, 1) := by decide +kernel
def site : List Cond := [.classLink "java/lang/String" 10 "java/lang/String", .fieldLink "java/lang/String" 38 "java/lang/String" "COMPACT_STRINGS" "Z", .fieldLink "java/lang/String" 15 "java/lang/String" "coder" "B", .fieldLink "java/lang/String" 9 "java/lang/String" "value" "[B", LEq.tab] ++ staticW "java/lang/String" 541 LEq.yN
def tab : Cond := tabOf yN yB 3 (some .boolean) site
def P (x t : Addr) (V : Cell) (cd : Int32) (n : Nat) (f : Nat → Int32) (y t' : Addr) (V' : Cell) (cd' : Int32) (k : Nat) (g : Nat → Int32) (z : Int32) (args : Array Value) (s : State) : Prop := args = #[.ref x, .ref y] ∧ Txt x t V cd n f s ∧ Txt y t' V' cd' k g s ∧ StaticIs s "java/lang/String" "COMPACT_STRINGS" "Z" (.int z) ∧ ¬ z = 0
/-- equals(Object) of two Strings: whether the texts are the same -/
theorem law (l : Launch) (x t : Addr) (V : Cell) (cd : Int32) (n : Nat) (f : Nat → Int32) (y t' : Addr) (V' : Cell) (cd' : Int32) (k : Nat) (g : Nat → Int32) (z : Int32) : Law l yN 2 1 1 14 yB 3 (some .boolean) site (P x t V cd n f y t' V' cd' k g z) (Says01 (SameT n f k g)) [] 0 0 := by
  refine Law.of_walk (plainFor_of_name (by decide +kernel)) (by decide +kernel) (by decide +kernel) (by decide) (fun _ _ h => by rw [h.1]; rfl) (fun _ U U' hal hh h => ⟨h.1, h.2.1.mv hal hh, h.2.2.1.mv hal hh, h.2.2.2.1.there hal hh, h.2.2.2.2⟩) (fun r U U' V V' h1 hal h2 h => Says01.mv r U U' V V' h1 hal h2 h) ?_
  intro p e s m args below meth c s₁ X0 hexec hbytes hml hret hlk hnm hown hh0 W hP
  obtain ⟨rfl, hx, hy, s1, hz⟩ := hP
  have c1 : Steps p.tables e below (s₁.setTop (entryFrame m #[.ref x, .ref y] 3)) (s₁.setTop (mkF m 2 #[.val (.ref x), .val (.ref y), .unset] [.ref y, .ref x])) := Steps.trans (entry rfl) (by
    show Steps p.tables e below (s₁.setTop (mkF m 0 #[.val (.ref x), .val (.ref y), .unset] [])) _
    refine XS.aloadN X0.here hexec rfl (hb hbytes d0) rfl rfl ?_
    refine XS.aloadN X0.here hexec rfl (hb hbytes d1) rfl rfl ?_
    exact Steps.refl _)
  by_cases hxy : x = y
  · have c2 : Steps p.tables e below (s₁.setTop (entryFrame m #[.ref x, .ref y] 3)) (s₁.setTop (mkF m 6 #[.val (.ref x), .val (.ref y), .unset] [.int 1])) := c1.trans (by
      refine acmpNo X0.here hexec rfl (hb hbytes d2) rfl rfl rfl (by simp [acmp, hxy]) ?_
      refine iconstV X0.here hexec rfl 1 (hb hbytes d5) (by decide) ?_
      exact Steps.refl _)
    subst hxy
    have ec : cd = cd' := by
      obtain ⟨D, fd, a1, a2, a3⟩ := hx.2.2.1
      obtain ⟨D', fd', b1, b2, b3⟩ := hy.2.2.1
      cases a1.symm.trans b1
      obtain ⟨q1, q2, q3, q4⟩ := a2.1
      obtain ⟨r1, r2, r3, r4⟩ := b2.1
      cases q4.symm.trans r4
      cases a3.symm.trans b3; rfl
    have et : t = t' := by
      obtain ⟨D, fd, a1, a2, a3⟩ := hx.2.1
      obtain ⟨D', fd', b1, b2, b3⟩ := hy.2.1
      cases a1.symm.trans b1
      obtain ⟨q1, q2, q3, q4⟩ := a2.1
      obtain ⟨r1, r2, r3, r4⟩ := b2.1
      cases q4.symm.trans r4
      cases a3.symm.trans b3; rfl
    subst ec et
    have ev : V = V' := by cases hx.2.2.2.1.1.symm.trans hy.2.2.2.1.1; rfl
    subst ev
    have hs : SameT n f k g := (Cod.eqv hx.2.2.2.2.1 hy.2.2.2.2.1 hx.2.2.2.2.2 hy.2.2.2.2.2).mp ⟨rfl, fun _ _ => rfl⟩
    exact ⟨s₁, some (.int 1), _, _, _, X0, rfl, rfl, rfl, (fun h => by cases h), ⟨1, rfl, hh0, Or.inl ⟨rfl, hs⟩⟩, fun fs hl => c2.trans (X0.ireturnOut hexec hret rfl (Or.inr (Or.inl rfl)) (hb hbytes d6) hl)⟩
  · have c2 : Steps p.tables e below (s₁.setTop (entryFrame m #[.ref x, .ref y] 3)) (s₁.setTop (mkF m 8 #[.val (.ref x), .val (.ref y), .unset] [.ref y])) := c1.trans (by
      refine acmpYes X0.here hexec rfl (pc0 := 2) rfl (hb hbytes d2) rfl rfl rfl (by simp [acmp, hxy]) (by decide) rfl ?_
      refine XS.aloadN X0.here hexec rfl (hb hbytes d7) rfl rfl ?_
      exact Steps.refl _)
    obtain ⟨T3, X3, q3, st3⟩ := cinst X0 hexec hown (wk W (.classLink "java/lang/String" 10 "java/lang/String")) (hy.mv X0.warmed.alike hh0).1 (g := (mkF m 8 #[.val (.ref x), .val (.ref y), .unset] [.ref y])) rfl (rest := []) rfl (hb hbytes d8)
    have hh3 := q3.trans hh0
    have c4 : Steps p.tables e below (s₁.setTop (entryFrame m #[.ref x, .ref y] 3)) (T3.setTop (mkF m 15 #[.val (.ref x), .val (.ref y), .unset] [.ref y])) := (c2.trans (st3 _ (Steps.refl _))).trans (by
      refine XS.ifNo X3.here hexec rfl (hb hbytes d11) rfl (i0_eq_f (by decide)) ?_
      refine XS.aloadN X3.here hexec rfl (hb hbytes d14) rfl rfl ?_
      exact Steps.refl _)
    obtain ⟨T5, X5, q5, st5⟩ := cself X3 hexec hown (wk W (.classLink "java/lang/String" 10 "java/lang/String")) (hy.mv X3.warmed.alike hh3).1 (g := (mkF m 15 #[.val (.ref x), .val (.ref y), .unset] [.ref y])) rfl (rest := []) rfl (hb hbytes d15)
    have hh5 := q5.trans hh3
    have c6 : Steps p.tables e below (s₁.setTop (entryFrame m #[.ref x, .ref y] 3)) (T5.setTop (mkF m 19 #[.val (.ref x), .val (.ref y), .val (.ref y)] [])) := (c4.trans (st5 _ (Steps.refl _))).trans (by
      refine XS.astoreN X5.here hexec rfl (hb hbytes d18) rfl rfl rfl ?_
      exact Steps.refl _)
    obtain ⟨T7, X7, q7, st7⟩ := X5.sget hexec hown (wk W (.fieldLink "java/lang/String" 38 "java/lang/String" "COMPACT_STRINGS" "Z")) s1 (fun _ _ h => by rw [hh5]; exact h) (g := (mkF m 19 #[.val (.ref x), .val (.ref y), .val (.ref y)] [])) rfl (hb hbytes d19)
    have hh7 := q7.trans hh5
    have c8 : Steps p.tables e below (s₁.setTop (entryFrame m #[.ref x, .ref y] 3)) (T7.setTop (mkF m 26 #[.val (.ref x), .val (.ref y), .val (.ref y)] [.ref x])) := (c6.trans (st7 _ (Steps.refl _))).trans (by
      refine XS.ifNo X7.here hexec rfl (hb hbytes d22) rfl (i0_eq_f hz) ?_
      refine XS.aloadN X7.here hexec rfl (hb hbytes d25) rfl rfl ?_
      exact Steps.refl _)
    obtain ⟨T9, X9, q9, st9⟩ := X7.hget hexec hown (wk W (.fieldLink "java/lang/String" 15 "java/lang/String" "coder" "B")) (hx.mv X7.warmed.alike hh7).2.2.1 (g := (mkF m 26 #[.val (.ref x), .val (.ref y), .val (.ref y)] [.ref x])) rfl (rest := []) rfl (hb hbytes d26)
    have hh9 := q9.trans hh7
    have c10 : Steps p.tables e below (s₁.setTop (entryFrame m #[.ref x, .ref y] 3)) (T9.setTop (mkF m 30 #[.val (.ref x), .val (.ref y), .val (.ref y)] [.ref y, .int cd])) := (c8.trans (st9 _ (Steps.refl _))).trans (by
      refine XS.aloadN X9.here hexec rfl (hb hbytes d29) rfl rfl ?_
      exact Steps.refl _)
    obtain ⟨T11, X11, q11, st11⟩ := X9.hget hexec hown (wk W (.fieldLink "java/lang/String" 15 "java/lang/String" "coder" "B")) (hy.mv X9.warmed.alike hh9).2.2.1 (g := (mkF m 30 #[.val (.ref x), .val (.ref y), .val (.ref y)] [.ref y, .int cd])) rfl (rest := [.int cd]) rfl (hb hbytes d30)
    have hh11 := q11.trans hh9
    have c12 : Steps p.tables e below (s₁.setTop (entryFrame m #[.ref x, .ref y] 3)) (T11.setTop (mkF m 33 #[.val (.ref x), .val (.ref y), .val (.ref y)] [.int cd', .int cd])) := c10.trans (st11 _ (Steps.refl _))
    by_cases hcd : cd = cd'
    · subst hcd
      have c13 : Steps p.tables e below (s₁.setTop (entryFrame m #[.ref x, .ref y] 3)) (T11.setTop (mkF m 37 #[.val (.ref x), .val (.ref y), .val (.ref y)] [.ref x])) := c12.trans (by
        refine XS.icmpNo X11.here hexec rfl (hb hbytes d33) rfl (ii_ne_f rfl) ?_
        refine XS.aloadN X11.here hexec rfl (hb hbytes d36) rfl rfl ?_
        exact Steps.refl _)
      obtain ⟨T14, X14, q14, st14⟩ := X11.hget hexec hown (wk W (.fieldLink "java/lang/String" 9 "java/lang/String" "value" "[B")) (hx.mv X11.warmed.alike hh11).2.1 (g := (mkF m 37 #[.val (.ref x), .val (.ref y), .val (.ref y)] [.ref x])) rfl (rest := []) rfl (hb hbytes d37)
      have hh14 := q14.trans hh11
      have c15 : Steps p.tables e below (s₁.setTop (entryFrame m #[.ref x, .ref y] 3)) (T14.setTop (mkF m 41 #[.val (.ref x), .val (.ref y), .val (.ref y)] [.ref y, .ref t])) := (c13.trans (st14 _ (Steps.refl _))).trans (by
        refine XS.aloadN X14.here hexec rfl (hb hbytes d40) rfl rfl ?_
        exact Steps.refl _)
      obtain ⟨T16, X16, q16, st16⟩ := X14.hget hexec hown (wk W (.fieldLink "java/lang/String" 9 "java/lang/String" "value" "[B")) (hy.mv X14.warmed.alike hh14).2.1 (g := (mkF m 41 #[.val (.ref x), .val (.ref y), .val (.ref y)] [.ref y, .ref t])) rfl (rest := [.ref t]) rfl (hb hbytes d41)
      have hh16 := q16.trans hh14
      have c17 : Steps p.tables e below (s₁.setTop (entryFrame m #[.ref x, .ref y] 3)) (T16.setTop (mkF m 44 #[.val (.ref x), .val (.ref y), .val (.ref y)] [.ref t', .ref t])) := c15.trans (st16 _ (Steps.refl _))
      obtain ⟨v18, T18, X18, E18, g18⟩ := X16.callS hexec (LEq.law l t V t' V') hown (wks W (staticW "java/lang/String" 541 LEq.yN)) (wk W LEq.tab) (W := 0) (Nat.le_of_ble_eq_true rfl) (Nat.le_of_ble_eq_true rfl) (Nat.le_refl _) (Nat.le_refl _) (g := (mkF m 44 #[.val (.ref x), .val (.ref y), .val (.ref y)] [.ref t', .ref t])) rfl (by rw [hml]; rfl) c17 (argsL := [.ref t, .ref t']) (rest := []) rfl rfl (by show 2 * 0 + 0 ≤ _; decide) (hb hbytes d44) (⟨rfl, hx.2.2.2.1.mv X16.warmed.alike hh16, hx.2.2.2.2.1.ty, hy.2.2.2.1.mv X16.warmed.alike hh16, hy.2.2.2.2.1.ty⟩)
      obtain ⟨v, rfl, q18, hv⟩ := E18
      have iff := Cod.eqv hx.2.2.2.2.1 hy.2.2.2.2.1 hx.2.2.2.2.2 hy.2.2.2.2.2
      rcases hv with ⟨rfl, he⟩ | ⟨rfl, he⟩
      · have c19 : Steps p.tables e below (s₁.setTop (entryFrame m #[.ref x, .ref y] 3)) (T18.setTop (mkF m 55 #[.val (.ref x), .val (.ref y), .val (.ref y)] [.int 1])) := Steps.trans g18 (by
          refine XS.ifNo X18.here hexec rfl (hb hbytes d47) rfl (i0_eq_f (by decide)) ?_
          refine iconstV X18.here hexec rfl 1 (hb hbytes d50) (by decide) ?_
          refine XS.goto X18.here hexec rfl (pc0 := 51) rfl (hb hbytes d51) (by decide) rfl ?_
          exact Steps.refl _)
        exact ⟨T18, some (.int 1), _, _, _, X18, rfl, rfl, rfl, (fun h => by cases h), ⟨1, rfl, q18.trans hh16, Or.inl ⟨rfl, iff.mp he⟩⟩, fun fs hl => c19.trans (X18.ireturnOut hexec hret rfl (Or.inr (Or.inl rfl)) (hb hbytes d55) hl)⟩
      · have c19 : Steps p.tables e below (s₁.setTop (entryFrame m #[.ref x, .ref y] 3)) (T18.setTop (mkF m 55 #[.val (.ref x), .val (.ref y), .val (.ref y)] [.int 0])) := Steps.trans g18 (by
          refine XS.ifYes X18.here hexec rfl (pc0 := 47) rfl (hb hbytes d47) rfl (i0_eq_t rfl) (by decide) rfl ?_
          refine iconstV X18.here hexec rfl 0 (hb hbytes d54) (by decide) ?_
          exact Steps.refl _)
        exact ⟨T18, some (.int 0), _, _, _, X18, rfl, rfl, rfl, (fun h => by cases h), ⟨0, rfl, q18.trans hh16, Or.inr ⟨rfl, fun q => he (iff.mpr q)⟩⟩, fun fs hl => c19.trans (X18.ireturnOut hexec hret rfl (Or.inr (Or.inl rfl)) (hb hbytes d55) hl)⟩
    · have c13 : Steps p.tables e below (s₁.setTop (entryFrame m #[.ref x, .ref y] 3)) (T11.setTop (mkF m 55 #[.val (.ref x), .val (.ref y), .val (.ref y)] [.int 0])) := c12.trans (by
        refine XS.icmpYes X11.here hexec rfl (pc0 := 33) rfl (hb hbytes d33) rfl (ii_ne_t hcd) (by decide) rfl ?_
        refine iconstV X11.here hexec rfl 0 (hb hbytes d54) (by decide) ?_
        exact Steps.refl _)
      exact ⟨T11, some (.int 0), _, _, _, X11, rfl, rfl, rfl, (fun h => by cases h), ⟨0, rfl, hh11, Or.inr ⟨rfl, Cod.dif hx.2.2.2.2.1 hy.2.2.2.2.1 hcd⟩⟩, fun fs hl => c13.trans (X11.ireturnOut hexec hret rfl (Or.inr (Or.inl rfl)) (hb hbytes d55) hl)⟩
theorem pays {l : Launch} {R : Room} {p : Program} {e : Env} {below : List Frame} {s : State} {sargs : Array Value} {len W : Nat} (x t : Addr) (V : Cell) (cd : Int32) (n : Nat) (f : Nat → Int32) (y t' : Addr) (V' : Cell) (cd' : Int32) (k : Nat) (g : Nat → Int32) (z : Int32) (htab : tab.before sargs s = true) (hfr : 2 ≤ R.frames) (hlo : W + 28 ≤ R.locals) :
    Back l R p e below s sargs yN len W (fun A₁ a₁ => A₁.cells + 0 ≤ R.cells ∧ A₁.slots + 0 ≤ R.slots ∧ P x t V cd n f y t' V' cd' k g z a₁ A₁.U) (fun A₁ _ v₁ B₁ => Says01 (SameT n f k g) v₁ A₁.U B₁.U ∧ B₁.locs = A₁.locs ++ [] ∧ B₁.cells = A₁.cells + 0 ∧ B₁.slots = A₁.slots + 0) :=
  (law l x t V cd n f y t' V' cd' k g z).pays htab hfr (by omega)
end SEq
end StrChars
namespace StrChars.Road
open Jvm Sem ClassFile Op Lib Jvm.Stand Jvm.Free Jvm.Free.XT
open Jvm.Lib.Cold (StaticIs)
/-- the words of String.isEmpty() -/
abbrev wordsEmp : List Jvm.Cond := [.code Emp.yN Emp.yB 1 (some .boolean), .initialized ST, .fieldLink ST 9 ST "value" "[B"]
theorem tabEmp_of {a : Array Value} {s : State} (h : ∀ w ∈ wordsEmp, w.before a s = true) : Emp.tab.before a s = true := unparts (wk h (.code Emp.yN Emp.yB 1 (some .boolean))) (wks h (.initialized Emp.yN.cls :: Emp.site))
theorem movedEmp {Z s : State} {a0 args : Array Value} (hZ : Z.Warmed39 s.vm) (hw : ∀ d ∈ wordsEmp, d.before a0 Z = true) : ∀ d ∈ wordsEmp, d.before args s = true := fun d hd => by
  have t : ∀ d ∈ wordsEmp, (d.onTables && d.keepsFace) = true := by decide +kernel
  exact RoadKit.mv hZ (hw d hd) (t d hd)
/-- the words of String.equals(Object) -/
abbrev wordsEq : List Jvm.Cond := [.code SEq.yN SEq.yB 3 (some .boolean), .initialized ST, .classLink ST 10 ST, .fieldLink ST 38 ST "COMPACT_STRINGS" "Z", .fieldLink ST 15 ST "coder" "B", .fieldLink ST 9 ST "value" "[B", .methodLink ST 541 LEq.yN, .static LEq.yN, .code LEq.yN LEq.yB 3 (some .boolean), .initialized "java/lang/StringLatin1"]
theorem tabEq_of {a : Array Value} {s : State} (h : ∀ w ∈ wordsEq, w.before a s = true) : SEq.tab.before a s = true := by
  have hl : LEq.tab.before a s = true := unparts (wk h (.code LEq.yN LEq.yB 3 (some .boolean))) (wks h (.initialized LEq.yN.cls :: LEq.site))
  have q := consq hl h
  exact unparts (wk q (.code SEq.yN SEq.yB 3 (some .boolean))) (wks q (.initialized SEq.yN.cls :: SEq.site))
theorem movedEq {Z s : State} {a0 args : Array Value} (hZ : Z.Warmed39 s.vm) (hw : ∀ d ∈ wordsEq, d.before a0 Z = true) : ∀ d ∈ wordsEq, d.before args s = true := fun d hd => by
  have t : ∀ d ∈ wordsEq, (d.onTables && d.keepsFace) = true := by decide +kernel
  exact RoadKit.mv hZ (hw d hd) (t d hd)
/-- the road's facts of a String, as the laws ask it -/
theorem txt_of {Z U : State} {a0 : Array Value} {kI : Nat} (wi : (Jvm.Cond.instantiable ST kI).before a0 Z = true) (al : Z.vm.Alike U.vm) {x t : Addr} {kb : ClassId} {cs : List Int32} {cd N2 : Int32} {vs : List Value} (E : RoadKit.Exa Z U.heap x ST) (V : RoadKit.Fld Z U.heap x ST "value" "[B" (.ref t)) (C : RoadKit.Fld Z U.heap x ST "coder" "B" (.int cd)) (K : RoadKit.Arv Z U.heap t kb .byte N2 vs (.int 0)) (hc : CodA cs cd N2 vs) (hb : ∀ c ∈ cs, ¬ c < 0 ∧ ¬ (65535 : Int32) < c) (l2 : cs.length ≤ 4000) :
    ∃ A, Txt x t A cd cs.length (fun j => cs.getD j 0) U := by
  obtain ⟨A, K1, K2, K3, K4, K5, K6⟩ := K
  have hcod := hc.cod (by omega) K3 K5
  obtain ⟨D, fV, fC, hB, F1, F2, g1, g2, -, -⟩ := strObj wi al E V C
  exact ⟨A, ⟨_, hB.2.2.1, D, hB.1, rfl, by cases q : D.vm <;> first | rfl | exact absurd q (hB.2.1.2 _)⟩, Has.of hB F1 g1, Has.of hB F2 g2, ⟨K1.1, State.isArrayOf_alike al K1.2.1, K1.2.2, by rcases hcod with ⟨-, q, -⟩ | ⟨-, q, -⟩ <;> omega⟩, hcod, fun j hj => by
    have e : cs.getD j 0 = cs[j] := by simp [List.getD_eq_getElem?_getD, hj]
    show ¬ cs.getD j 0 < 0 ∧ ¬ 65535 < cs.getD j 0
    rw [e]; exact hb _ (List.getElem_mem _)⟩
theorem same_list (cs ds : List Int32) : SameT cs.length (fun j => cs.getD j 0) ds.length (fun j => ds.getD j 0) ↔ cs = ds := by
  constructor
  · rintro ⟨e, q⟩
    refine List.ext_getElem e fun j h1 h2 => ?_
    have := q j h1
    simpa [List.getD_eq_getElem?_getD, h1, h2] using this
  · rintro rfl
    exact ⟨rfl, fun _ _ => rfl⟩
/-- **isEmpty() OF SUCH A STRING** -/
theorem empW {p : Program} {l : Launch} {e : Env} {R : Room} {s : State} {args : Array Value} {below : List Frame} {len W : Nat} {Z : State} {a0 : Array Value} {h : Heap} (hZ : Z.Warmed39 s.vm) (hw : ∀ d ∈ wordsEmp, d.before a0 Z = true) {kI : Nat} (wi : (Jvm.Cond.instantiable ST kI).before a0 Z = true)
    {x t : Addr} {kb : ClassId} {cs : List Int32} {cd N2 : Int32} {vs : List Value} (E : RoadKit.Exa Z h x ST) (V : RoadKit.Fld Z h x ST "value" "[B" (.ref t)) (C : RoadKit.Fld Z h x ST "coder" "B" (.int cd)) (K : RoadKit.Arv Z h t kb .byte N2 vs (.int 0)) (hc : CodA cs cd N2 vs) (hb : ∀ c ∈ cs, ¬ c < 0 ∧ ¬ (65535 : Int32) < c) (l2 : cs.length ≤ 4000) (hfr : 1 ≤ R.frames) (hlo : W + 12 ≤ R.locals) :
    Back l R p e below s args (⟨"java/lang/String", "isEmpty", "()Z"⟩ : MethodName) len W (fun P a => a = #[.ref x] ∧ P.U.heap = h ∧ P.cells + 0 ≤ R.cells ∧ P.slots + 0 ≤ R.slots)
      (fun P _ v B => ∃ L, (v = some (.int (if cs.length = 0 then 1 else 0)) ∧ L = [] ∧ B.U.heap = h) ∧ B.locs = P.locs ++ L ∧ B.cells = P.cells + 0 ∧ B.slots = P.slots + 0) := by
  intro m meth c P g ig mk a X hg hsize hdg hW hn hp'
  obtain ⟨rfl, rfl, r1, r2⟩ := hp'
  have al : Z.vm.Alike P.U.vm := hZ.alike.trans X.warmed.alike
  obtain ⟨A, hx⟩ := txt_of wi al E V C K hc hb l2
  obtain ⟨v, B, X', ⟨⟨hv, hh⟩, hl, hk, hs⟩, st⟩ := Emp.pays x t A cd cs.length (fun j => cs.getD j 0) (tabEmp_of (movedEmp hZ hw)) hfr hlo m meth c P g ig mk _ X hg hsize hdg hW hn ⟨r1, r2, rfl, hx⟩
  exact ⟨v, B, X', ⟨[], ⟨hv, rfl, hh⟩, hl, hk, hs⟩, st⟩
/-- **equals(Object) OF TWO SUCH STRINGS**: 1 just where the chars are the same -/
theorem eqW {p : Program} {l : Launch} {e : Env} {R : Room} {s : State} {args : Array Value} {below : List Frame} {len W : Nat} {Z : State} {a0 : Array Value} {h : Heap} (hZ : Z.Warmed39 s.vm) (hw : ∀ d ∈ wordsEq, d.before a0 Z = true) {kI : Nat} (wi : (Jvm.Cond.instantiable ST kI).before a0 Z = true)
    {x t : Addr} {kb : ClassId} {cs : List Int32} {cd N2 : Int32} {vs : List Value} (E : RoadKit.Exa Z h x ST) (V : RoadKit.Fld Z h x ST "value" "[B" (.ref t)) (C : RoadKit.Fld Z h x ST "coder" "B" (.int cd)) (K : RoadKit.Arv Z h t kb .byte N2 vs (.int 0)) (hc : CodA cs cd N2 vs) (hb : ∀ c ∈ cs, ¬ c < 0 ∧ ¬ (65535 : Int32) < c) (l2 : cs.length ≤ 4000)
    {y t' : Addr} {kb' : ClassId} {ds : List Int32} {cd' N2' : Int32} {vs' : List Value} (E' : RoadKit.Exa Z h y ST) (V' : RoadKit.Fld Z h y ST "value" "[B" (.ref t')) (C' : RoadKit.Fld Z h y ST "coder" "B" (.int cd')) (K' : RoadKit.Arv Z h t' kb' .byte N2' vs' (.int 0)) (hc' : CodA ds cd' N2' vs') (hb' : ∀ c ∈ ds, ¬ c < 0 ∧ ¬ (65535 : Int32) < c) (l2' : ds.length ≤ 4000)
    {z : Int32} (S : RoadKit.Sta Z h ST "COMPACT_STRINGS" "Z" (.int z)) (hz : ¬ z = 0) (hfr : 2 ≤ R.frames) (hlo : W + 28 ≤ R.locals) :
    Back l R p e below s args (⟨"java/lang/String", "equals", "(Ljava/lang/Object;)Z"⟩ : MethodName) len W (fun P a => a = #[.ref x, .ref y] ∧ P.U.heap = h ∧ P.cells + 0 ≤ R.cells ∧ P.slots + 0 ≤ R.slots)
      (fun P _ v B => ∃ L, (((v = some (.int 1) ∧ cs = ds) ∨ (v = some (.int 0) ∧ ¬ cs = ds)) ∧ L = [] ∧ B.U.heap = h) ∧ B.locs = P.locs ++ L ∧ B.cells = P.cells + 0 ∧ B.slots = P.slots + 0) := by
  intro m meth c P g ig mk a X hg hsize hdg hW hn hp'
  obtain ⟨rfl, rfl, r1, r2⟩ := hp'
  have al : Z.vm.Alike P.U.vm := hZ.alike.trans X.warmed.alike
  obtain ⟨A, hx⟩ := txt_of wi al E V C K hc hb l2
  obtain ⟨A', hy⟩ := txt_of wi al E' V' C' K' hc' hb' l2'
  obtain ⟨v, B, X', ⟨⟨w, hv, hh, hq⟩, hl, hk, hs⟩, st⟩ := SEq.pays x t A cd cs.length (fun j => cs.getD j 0) y t' A' cd' ds.length (fun j => ds.getD j 0) z (tabEq_of (movedEq hZ hw)) hfr hlo m meth c P g ig mk _ X hg hsize hdg hW hn ⟨r1, r2, rfl, hx, hy, sta_is al S, hz⟩
  refine ⟨v, B, X', ⟨[], ⟨?_, rfl, hh⟩, hl, hk, hs⟩, st⟩
  rcases hq with ⟨rfl, q⟩ | ⟨rfl, q⟩
  · exact Or.inl ⟨hv, (same_list cs ds).mp q⟩
  · exact Or.inr ⟨hv, fun e => q ((same_list cs ds).mpr e)⟩
end StrChars.Road
namespace StrChars
open Jvm Sem ClassFile Op Lib Jvm.Stand Jvm.Free.XT Jvm.Free.ALB Jvm.Free.JM Jvm.Free
open Jvm.Lib.Cold (StaticIs)
namespace ChN
def yN : MethodName := ⟨"java/lang/String", "charAt", "(I)C"⟩
abbrev yB : ByteArray := jdk_42_method_56_code
theorem d0 : decode yB 0 = .ok (.aload_n 0, 1) := by decide +kernel
theorem d1 : decode yB 1 = .ok (.invokevirtual 492, 3) := by decide +kernel
theorem d4 : decode yB 4 = .ok (.ifCond (.eq) 12, 3) := by decide +kernel
theorem d7 : decode yB 7 = .ok (.aload_n 0, 1) := by decide +kernel
theorem d8 : decode yB 8 = .ok (.getfield 9, 3) := by decide +kernel
theorem d11 : decode yB 11 = .ok (.iload_n 1, 1) := by decide +kernel
theorem d12 : decode yB 12 = .ok (.invokestatic 495, 3) := by decide +kernel
theorem d15 : decode yB 15 = .ok (.ireturn, 1) := by decide +kernel
def site : List Cond := [.fieldLink "java/lang/String" 9 "java/lang/String" "value" "[B", IsL.tab, LChA.tab] ++ virtW "java/lang/String" 492 "java/lang/String" IsL.yN IsL.yN ++ staticW "java/lang/String" 495 LChA.yN
def tab : Cond := tabOf yN yB 2 (some .char) site
def P (x t : Addr) (V : Cell) (n : Nat) (f : Nat → Int32) (z : Int32) (fm : Value) (i : Nat) (args : Array Value) (s : State) : Prop := args = #[.ref x, .int (Int32.ofNat i)] ∧ Txt x t V 0 n f s ∧ i < n ∧ StaticIs s "java/lang/String" "COMPACT_STRINGS" "Z" (.int z) ∧ ¬ z = 0 ∧ StaticIs s "jdk/internal/util/Preconditions" "SIOOBE_FORMATTER" "Ljava/util/function/BiFunction;" fm ∧ fm.isRef = true
def E (f : Nat → Int32) (i : Nat) (r : Option Value) (s u : State) : Prop := XT.PureE (some (.int (f i))) r s u
/-- charAt(i) of a Latin-1 String of n chars, i < n: f i -/
theorem law (l : Launch) (x t : Addr) (V : Cell) (n : Nat) (f : Nat → Int32) (z : Int32) (fm : Value) (i : Nat) : Law l yN 2 1 3 40 yB 2 (some .char) site (P x t V n f z fm i) (E f i) [] 0 0 := by
  refine Law.of_walk (plainFor_of_name (by decide +kernel)) (by decide +kernel) (by decide +kernel) (by decide) (fun _ _ h => by rw [h.1]; rfl) (fun _ U U' hal hh h => ⟨h.1, h.2.1.mv hal hh, h.2.2.1, h.2.2.2.1.there hal hh, h.2.2.2.2.1, h.2.2.2.2.2.1.there hal hh, h.2.2.2.2.2.2⟩) (fun r U U' V V' h1 hal h2 h => XT.PureE.mv r U U' V V' h1 hal h2 h) ?_
  intro p e s m args below meth c s₁ X0 hexec hbytes hml hret hlk hnm hown hh0 W hP
  obtain ⟨rfl, hx, hi, s1, hz, s3, rf⟩ := hP
  have v31 := hx.2.2.2.1.2.2.2
  have hr := hx.2.2.2.2.2 i hi
  have hx0 := hx.mv X0.warmed.alike hh0
  have c1 : Steps p.tables e below (s₁.setTop (entryFrame m #[.ref x, .int (Int32.ofNat i)] 2)) (s₁.setTop (mkF m 1 #[.val (.ref x), .val (.int (Int32.ofNat i))] [.ref x])) := Steps.trans (entry rfl) (by
    show Steps p.tables e below (s₁.setTop (mkF m 0 #[.val (.ref x), .val (.int (Int32.ofNat i))] [])) _
    refine XS.aloadN X0.here hexec rfl (hb hbytes d0) rfl rfl ?_
    exact Steps.refl _)
  obtain ⟨v2, T2, X2, E2, g2⟩ := X0.callV hexec (IsL.law l x 0 z) hown (wks W (virtW "java/lang/String" 492 "java/lang/String" IsL.yN IsL.yN)) rfl (by decide) (wk W IsL.tab) (W := 0) (Nat.le_of_ble_eq_true rfl) (Nat.le_of_ble_eq_true rfl) (Nat.le_refl _) (Nat.le_refl _) (hx0.1.fc X0.warmed.alike) hx0.1.is (g := (mkF m 1 #[.val (.ref x), .val (.int (Int32.ofNat i))] [.ref x])) rfl (by rw [hml]; rfl) c1 (argsL := []) (rest := []) rfl rfl (by show 2 * 0 + 0 ≤ _; decide) (hb hbytes d1) (⟨rfl, hx0.2.2.1, hx.2.2.2.2.1.cd, s1.there X0.warmed.alike hh0, hz⟩)
  obtain ⟨rfl, q2⟩ := E2
  have hh2 := q2.trans hh0
  have hx2 := hx.mv X2.warmed.alike hh2
  obtain ⟨-, k1, k2⟩ | ⟨k0, -⟩ := hx.2.2.2.2.1
  · have c3 : Steps p.tables e below (s₁.setTop (entryFrame m #[.ref x, .int (Int32.ofNat i)] 2)) (T2.setTop (mkF m 8 #[.val (.ref x), .val (.int (Int32.ofNat i))] [.ref x])) := Steps.trans g2 (by
      refine XS.ifNo X2.here hexec rfl (hb hbytes d4) rfl (i0_eq_f (by decide)) ?_
      refine XS.aloadN X2.here hexec rfl (hb hbytes d7) rfl rfl ?_
      exact Steps.refl _)
    obtain ⟨T4, X4, q4, st4⟩ := X2.hget hexec hown (wk W (.fieldLink "java/lang/String" 9 "java/lang/String" "value" "[B")) hx2.2.1 (g := (mkF m 8 #[.val (.ref x), .val (.int (Int32.ofNat i))] [.ref x])) rfl (rest := []) rfl (hb hbytes d8)
    have hh4 := q4.trans hh2
    have c5 : Steps p.tables e below (s₁.setTop (entryFrame m #[.ref x, .int (Int32.ofNat i)] 2)) (T4.setTop (mkF m 12 #[.val (.ref x), .val (.int (Int32.ofNat i))] [.int (Int32.ofNat i), .ref t])) := (c3.trans (st4 _ (Steps.refl _))).trans (by
      refine XS.iloadN X4.here hexec rfl (hb hbytes d11) rfl ?_
      exact Steps.refl _)
    obtain ⟨v6, T6, X6, E6, g6⟩ := X4.callS hexec (LChA.law l t V i (lo8 (f i)) fm) hown (wks W (staticW "java/lang/String" 495 LChA.yN)) (wk W LChA.tab) (W := 0) (Nat.le_of_ble_eq_true rfl) (Nat.le_of_ble_eq_true rfl) (Nat.le_refl _) (Nat.le_refl _) (g := (mkF m 12 #[.val (.ref x), .val (.int (Int32.ofNat i))] [.int (Int32.ofNat i), .ref t])) rfl (by rw [hml]; rfl) c5 (argsL := [.ref t, .int (Int32.ofNat i)]) (rest := []) rfl rfl (by show 2 * 0 + 0 ≤ _; decide) (hb hbytes d12) (⟨rfl, hx.2.2.2.1.mv X4.warmed.alike hh4, (k2 i hi).1, s3.there X4.warmed.alike hh4, rf⟩)
    obtain ⟨rfl, q6⟩ := E6
    rw [chr8_lo8 hr.1 (k2 i hi).2] at g6
    exact ⟨T6, some (.int (f i)), _, _, _, X6, rfl, rfl, rfl, (fun h => by cases h), ⟨rfl, q6.trans hh4⟩, fun fs hl => Steps.trans g6 (X6.ireturnOut hexec hret (narrow_ch hr.1 hr.2) (Or.inr (Or.inr (Or.inr (Or.inl rfl)))) (hb hbytes d15) hl)⟩
  · exact absurd k0 (by decide)
theorem pays {l : Launch} {R : Room} {p : Program} {e : Env} {below : List Frame} {s : State} {sargs : Array Value} {len W : Nat} (x t : Addr) (V : Cell) (n : Nat) (f : Nat → Int32) (z : Int32) (fm : Value) (i : Nat) (htab : tab.before sargs s = true) (hfr : 4 ≤ R.frames) (hlo : W + 53 ≤ R.locals) :
    Back l R p e below s sargs yN len W (fun A₁ a₁ => A₁.cells + 0 ≤ R.cells ∧ A₁.slots + 0 ≤ R.slots ∧ P x t V n f z fm i a₁ A₁.U) (fun A₁ _ v₁ B₁ => E f i v₁ A₁.U B₁.U ∧ B₁.locs = A₁.locs ++ [] ∧ B₁.cells = A₁.cells + 0 ∧ B₁.slots = A₁.slots + 0) :=
  (law l x t V n f z fm i).pays htab hfr (by omega)
end ChN
end StrChars
namespace StrChars.Road
open Jvm Sem ClassFile Op Lib Jvm.Stand Jvm.Free Jvm.Free.XT
open Jvm.Lib.Cold (StaticIs)
/-- the words of String.charAt(int), the Latin-1 road alone -/
abbrev wordsChN : List Jvm.Cond := [.code ChN.yN ChN.yB 2 (some .char), .initialized ST, .fieldLink ST 9 ST "value" "[B", .fieldLink ST 38 ST "COMPACT_STRINGS" "Z", .fieldLink ST 15 ST "coder" "B", .code IsL.yN IsL.yB 1 (some .boolean), .methodLink ST 492 IsL.yN, .declares IsL.yN, .selects ST IsL.yN IsL.yN, .instanceMethod IsL.yN,
  .methodLink ST 495 LChA.yN, .static LChA.yN, .code LChA.yN LChA.yB 2 (some .char), .initialized "java/lang/StringLatin1", .methodLink "java/lang/StringLatin1" 9 JO.Str_checkIndex.yN, .static JO.Str_checkIndex.yN, .code JO.Str_checkIndex.yN JO.Str_checkIndex.yB 2 none,
  .fieldLink ST 1053 "jdk/internal/util/Preconditions" "SIOOBE_FORMATTER" "Ljava/util/function/BiFunction;", .methodLink ST 1059 JC.PreCheck.yN, .static JC.PreCheck.yN, .code JC.PreCheck.yN JC.PreCheck.yB 3 (some .int), .initialized "jdk/internal/util/Preconditions"]
theorem tabChN_of {a : Array Value} {s : State} (h : ∀ w ∈ wordsChN, w.before a s = true) : ChN.tab.before a s = true := by
  have hp : JC.PreCheck.tab.before a s = true := unparts (wk h (.code JC.PreCheck.yN JC.PreCheck.yB 3 (some .int))) (wks h (.initialized JC.PreCheck.yN.cls :: JC.PreCheck.site))
  have qk := consq hp h
  have hk : JO.Str_checkIndex.tab.before a s = true := unparts (wk qk (.code JO.Str_checkIndex.yN JO.Str_checkIndex.yB 2 none)) (wks qk (.initialized JO.Str_checkIndex.yN.cls :: JO.Str_checkIndex.site))
  have ql := consq hk h
  have hl : LChA.tab.before a s = true := unparts (wk ql (.code LChA.yN LChA.yB 2 (some .char))) (wks ql (.initialized LChA.yN.cls :: LChA.site))
  have hi : IsL.tab.before a s = true := unparts (wk h (.code IsL.yN IsL.yB 1 (some .boolean))) (wks h (.initialized IsL.yN.cls :: IsL.site))
  have q := consq hi (consq hl h)
  exact unparts (wk q (.code ChN.yN ChN.yB 2 (some .char))) (wks q (.initialized ChN.yN.cls :: ChN.site))
theorem movedChN {Z s : State} {a0 args : Array Value} (hZ : Z.Warmed39 s.vm) (hw : ∀ d ∈ wordsChN, d.before a0 Z = true) : ∀ d ∈ wordsChN, d.before args s = true := fun d hd => by
  have t : ∀ d ∈ wordsChN, (d.onTables && d.keepsFace) = true := by decide +kernel
  exact RoadKit.mv hZ (hw d hd) (t d hd)
/-- **charAt(i) OF A LATIN-1 STRING**, i < n: the char -/
theorem chN {p : Program} {l : Launch} {e : Env} {R : Room} {s : State} {args : Array Value} {below : List Frame} {len W : Nat} {Z : State} {a0 : Array Value} {h : Heap} (hZ : Z.Warmed39 s.vm) (hw : ∀ d ∈ wordsChN, d.before a0 Z = true) {kI : Nat} (wi : (Jvm.Cond.instantiable ST kI).before a0 Z = true)
    {x t : Addr} {kb : ClassId} {cs : List Int32} {N2 z : Int32} {vs : List Value} {fm : Value} {i : Nat} {j : Int32} (E : RoadKit.Exa Z h x ST) (V : RoadKit.Fld Z h x ST "value" "[B" (.ref t)) (C : RoadKit.Fld Z h x ST "coder" "B" (.int 0)) (K : RoadKit.Arv Z h t kb .byte N2 vs (.int 0)) (hc : CodA cs 0 N2 vs) (hb : ∀ c ∈ cs, ¬ c < 0 ∧ ¬ (65535 : Int32) < c)
    (S : RoadKit.Sta Z h ST "COMPACT_STRINGS" "Z" (.int z)) (hz : ¬ z = 0) (F : RoadKit.Sta Z h "jdk/internal/util/Preconditions" "SIOOBE_FORMATTER" "Ljava/util/function/BiFunction;" fm) (rf : fm.isRef = true) (l2 : cs.length ≤ 4000) (hi : i < cs.length) (hj : j = Int32.ofNat i) (hfr : 4 ≤ R.frames) (hlo : W + 53 ≤ R.locals) :
    Back l R p e below s args (⟨"java/lang/String", "charAt", "(I)C"⟩ : MethodName) len W (fun P a => a = #[.ref x, .int j] ∧ P.U.heap = h ∧ P.cells + 0 ≤ R.cells ∧ P.slots + 0 ≤ R.slots)
      (fun P _ v B => ∃ L, (v = some (.int (cs.getD i 0)) ∧ L = [] ∧ B.U.heap = h) ∧ B.locs = P.locs ++ L ∧ B.cells = P.cells + 0 ∧ B.slots = P.slots + 0) := by
  subst hj
  intro m meth c P g ig mk a X hg hsize hdg hW hn hp'
  obtain ⟨rfl, rfl, r1, r2⟩ := hp'
  have al : Z.vm.Alike P.U.vm := hZ.alike.trans X.warmed.alike
  obtain ⟨A, hx⟩ := txt_of wi al E V C K hc hb l2
  obtain ⟨v, B, X', ⟨⟨hv, hh⟩, hl, hk, hs⟩, st⟩ := ChN.pays x t A cs.length (fun j => cs.getD j 0) z fm i (tabChN_of (movedChN hZ hw)) hfr hlo m meth c P g ig mk _ X hg hsize hdg hW hn ⟨r1, r2, rfl, hx, hi, sta_is al S, hz, sta_is al F, rf⟩
  exact ⟨v, B, X', ⟨[], ⟨hv, rfl, hh⟩, hl, hk, hs⟩, st⟩
/-- what backV says of its String, as the contracts of this text ask it: cs's low bytes, coder 0 -/
theorem codOf {cs : List Int32} {n : Nat} (hn : cs.length = n) (hb : ∀ c ∈ cs, ¬ 255 < c) : CodA cs 0 (Int32.ofNat n) ((cs.map lo8).map Value.int) := Or.inl ⟨rfl, by rw [hn], by simp [List.map_map, Function.comp_def], hb⟩
end StrChars.Road
end Jvm.Pilot.@@N@@
namespace Jvm.Pilot.@@N@@
open Jvm Jvm.ClassFile Sem Op Lib Jvm.Free Jvm.Stand Jvm.LawKit Jvm.RoadKit Bundle Jvm.Free.Fl Jvm.Pilot.@@N@@.Jvm.D
abbrev vU : Slot := .unset
abbrev vI (x : Int32) : Slot := .val (.int x)
abbrev vJ (x : Int64) : Slot := .val (.long x)
abbrev vD (x : UInt64) : Slot := .val (.double x)
abbrev vR (x : Addr) : Slot := .val (.ref x)
/-- a step's goal -/
abbrev Sp (p : Program) (e : Env) (below : List Frame) (T : State) (g : JFrame) (t : State) : Prop := Steps p.tables e below (T.setTop g) t
theorem own_h {a0 : Array Value} {Z : State} (hw : ∀ d ∈ tables_1, d.before a0 Z = true) (i : Nat) {d : Jvm.Cond} (h : tables_1[i]? = some d) : d.before a0 Z = true := hw d (List.mem_of_getElem? h)
/-- the run comes from the frame g0 (over T0) to the frame g (over T) -/
abbrev Go (p : Program) (e : Env) (below : List Frame) (T0 : State) (g0 : JFrame) (T : State) (g : JFrame) : Prop :=
  ∀ t, Steps p.tables e below (T.setTop g) t → Steps p.tables e below (T0.setTop g0) t
theorem own_neArr {Z : State} {h : Heap} {x y : Addr} {k k' : ClassId} {t t' : FieldType} {n n' : Int32} {vs vs' : List Value} {d d' : Value} (A : Arv Z h x k t n vs d) (B : Arv Z h y k' t' n' vs' d') (ht : t ≠ t') : x ≠ y := by
  rintro rfl
  obtain ⟨c1, A1, -⟩ := A
  obtain ⟨c2, B1, -⟩ := B
  have e := Option.some.inj (A1.1.symm.trans B1.1)
  subst e
  obtain ⟨-, k1, hk1, p1, q1⟩ := A1.2.1
  obtain ⟨-, k2, hk2, p2, q2⟩ := B1.2.1
  cases hk1.symm.trans hk2
  rw [q1] at q2
  cases q2
  exact ht rfl
theorem own_neStr {Z : State} {a0 : Array Value} {h : Heap} {x y : Addr} {C : String} {k : ClassId} {t : FieldType} {n : Int32} {vs : List Value} {d : Value} {sl : Nat} (E : Exa Z h x C) (B : Arv Z h y k t n vs d) (wi : (Jvm.Cond.instantiable C sl).before a0 Z = true) : x ≠ y := by
  rintro rfl
  obtain ⟨c1, k1, e1, e2, e3, -⟩ := E
  obtain ⟨c2, B1, -⟩ := B
  have e := Option.some.inj (e1.symm.trans B1.1)
  subst e
  obtain ⟨-, k2, hk2, p2, q2⟩ := B1.2.1
  obtain ⟨c3, k3, h1, h2, h3, -⟩ := Jvm.Cond.instantiable_spec wi
  cases e2.symm.trans h1
  cases e3.symm.trans h2
  cases e3.symm.trans hk2
  rw [q2] at h3
  cases h3
theorem own_selp {Z s : State} {a0 args : Array Value} {y : MethodName} {k : Nat} (hZ : Z.Warmed39 s.vm) (wi : (Jvm.Cond.instantiable y.cls k).before a0 Z = true) (wp : (Jvm.Cond.privateMethod y).before a0 Z = true) (wm : (Jvm.Cond.instanceMethod y).before a0 Z = true) (hy : y.cls ≠ "java/lang/invoke/MethodHandle" ∧ y.cls ≠ "java/lang/invoke/VarHandle") : (Jvm.Cond.selects y.cls y y).before args s = true := by
  have hi : (Jvm.Cond.instantiable y.cls k).before args s = true := mvT hZ wi
  obtain ⟨c, kk, h1, h2, h3, h4, -⟩ := Jvm.Cond.instantiable_spec hi
  exact selects_self_of_private h1 h2 (by simp only [Bool.or_eq_false_iff] at h4; exact h4.1) (Cond.privateMethod_at (mvP hZ wp (args := #[]))) (mvT hZ wm) hy
/-- a call's outcome, its point opened -/
theorem own_outV {p : Program} {l : Launch} {e : Env} {R : Room} {s : State} {m : MethodId} {args : Array Value} {below : List Frame} {meth : Method} {c : Code} {s₀ : State} {locs : List Loc} {cells slots : Nat} {Q : Option Value → Heap → List Loc → Prop} {kc ks : Nat} {g' : Option Value → JFrame}
    (H : ∃ (v : Option Value) (vm₁ : Vm) (B : Pt), s.WarmedH vm₁ ∧ Stand p l e R s m args below meth c B.U B.locs B.cells B.slots ∧ (∃ L, Q v B.U.heap L ∧ B.locs = locs ++ L ∧ B.cells = cells + kc ∧ B.slots = slots + ks) ∧ Steps p.tables e below s₀ (B.U.setTop (g' v))) :
    ∃ (v : Option Value) (T' : State) (L : List Loc), Stand p l e R s m args below meth c T' (locs ++ L) (cells + kc) (slots + ks) ∧ Q v T'.heap L ∧ ∀ t, Steps p.tables e below (T'.setTop (g' v)) t → Steps p.tables e below s₀ t := by
  obtain ⟨v, vm, ⟨T', L', k', n'⟩, -, X, ⟨L, hQ, e1, e2, e3⟩, st⟩ := H
  subst e1 e2 e3
  exact ⟨v, T', L, X, hQ, fun t k => st.trans k⟩
theorem own_outS {p : Program} {l : Launch} {e : Env} {R : Room} {s : State} {m : MethodId} {args : Array Value} {below : List Frame} {meth : Method} {c : Code} {s₀ : State} {locs : List Loc} {cells slots : Nat} {Q : Option Value → Heap → List Loc → Prop} {kc ks : Nat} {g' : Option Value → JFrame}
    (H : ∃ (v : Option Value) (vm₁ : Vm) (B : Pt), s.WarmedH vm₁ ∧ Stand p l e R s m args below meth c B.U B.locs B.cells B.slots ∧ (∃ L, Q v B.U.heap L ∧ B.locs = locs ++ L ∧ B.cells = cells + kc ∧ B.slots = slots + ks) ∧ ∀ t, Steps p.tables e below (B.U.setTop (g' v)) t → Steps p.tables e below s₀ t) :
    ∃ (v : Option Value) (T' : State) (L : List Loc), Stand p l e R s m args below meth c T' (locs ++ L) (cells + kc) (slots + ks) ∧ Q v T'.heap L ∧ ∀ t, Steps p.tables e below (T'.setTop (g' v)) t → Steps p.tables e below s₀ t := by
  obtain ⟨v, vm, ⟨T', L', k', n'⟩, -, X, ⟨L, hQ, e1, e2, e3⟩, st⟩ := H
  subst e1 e2 e3
  exact ⟨v, T', L, X, hQ, st⟩
theorem d1_0 : decode method_2_code 0 = .ok (.ldc 7, 2) := by decide +kernel
theorem d1_2 : decode method_2_code 2 = .ok (.iload_n 0, 1) := by decide +kernel
theorem d1_3 : decode method_2_code 3 = .ok (.ldc 9, 2) := by decide +kernel
theorem d1_5 : decode method_2_code 5 = .ok (.iand, 1) := by decide +kernel
theorem d1_6 : decode method_2_code 6 = .ok (.bipush 65, 2) := by decide +kernel
theorem d1_8 : decode method_2_code 8 = .ok (.irem, 1) := by decide +kernel
theorem d1_9 : decode method_2_code 9 = .ok (.invokevirtual 10, 3) := by decide +kernel
theorem d1_12 : decode method_2_code 12 = .ok (.ireturn, 1) := by decide +kernel
theorem d13_0 : decode prog_12_method_2_code 0 = .ok (.aload_n 0, 1) := by decide +kernel
theorem d13_1 : decode prog_12_method_2_code 1 = .ok (.ldc 13, 2) := by decide +kernel
theorem d13_3 : decode prog_12_method_2_code 3 = .ok (.invokestatic 14, 3) := by decide +kernel
theorem d13_6 : decode prog_12_method_2_code 6 = .ok (.pop, 1) := by decide +kernel
theorem d13_7 : decode prog_12_method_2_code 7 = .ok (.aload_n 0, 1) := by decide +kernel
theorem d13_8 : decode prog_12_method_2_code 8 = .ok (.invokevirtual 20, 3) := by decide +kernel
theorem d13_11 : decode prog_12_method_2_code 11 = .ok (.ifCond .eq 13, 3) := by decide +kernel
theorem d13_24 : decode prog_12_method_2_code 24 = .ok (.iconst 0, 1) := by decide +kernel
theorem d13_25 : decode prog_12_method_2_code 25 = .ok (.istore_n 1, 1) := by decide +kernel
theorem d13_26 : decode prog_12_method_2_code 26 = .ok (.iload_n 1, 1) := by decide +kernel
theorem d13_27 : decode prog_12_method_2_code 27 = .ok (.aload_n 0, 1) := by decide +kernel
theorem d13_28 : decode prog_12_method_2_code 28 = .ok (.invokevirtual 33, 3) := by decide +kernel
theorem d13_31 : decode prog_12_method_2_code 31 = .ok (.if_icmp .ge 62, 3) := by decide +kernel
theorem d13_34 : decode prog_12_method_2_code 34 = .ok (.aload_n 0, 1) := by decide +kernel
theorem d13_35 : decode prog_12_method_2_code 35 = .ok (.iload_n 1, 1) := by decide +kernel
theorem d13_36 : decode prog_12_method_2_code 36 = .ok (.invokevirtual 37, 3) := by decide +kernel
theorem d13_39 : decode prog_12_method_2_code 39 = .ok (.invokestatic 41, 3) := by decide +kernel
theorem d13_42 : decode prog_12_method_2_code 42 = .ok (.ifCond .ne 45, 3) := by decide +kernel
theorem d13_87 : decode prog_12_method_2_code 87 = .ok (.iinc 1 1, 3) := by decide +kernel
theorem d13_90 : decode prog_12_method_2_code 90 = .ok (.goto (-64), 3) := by decide +kernel
theorem d13_93 : decode prog_12_method_2_code 93 = .ok (.aload_n 0, 1) := by decide +kernel
theorem d13_94 : decode prog_12_method_2_code 94 = .ok (.invokevirtual 33, 3) := by decide +kernel
theorem d13_97 : decode prog_12_method_2_code 97 = .ok (.bipush 64, 2) := by decide +kernel
theorem d13_99 : decode prog_12_method_2_code 99 = .ok (.if_icmp .le 38, 3) := by decide +kernel
theorem d13_137 : decode prog_12_method_2_code 137 = .ok (.new 8, 3) := by decide +kernel
theorem d13_140 : decode prog_12_method_2_code 140 = .ok (.dup, 1) := by decide +kernel
theorem d13_141 : decode prog_12_method_2_code 141 = .ok (.aload_n 0, 1) := by decide +kernel
theorem d13_142 : decode prog_12_method_2_code 142 = .ok (.invokespecial 67, 3) := by decide +kernel
theorem d13_145 : decode prog_12_method_2_code 145 = .ok (.areturn, 1) := by decide +kernel
theorem d14_0 : decode jdk_31_method_11_code 0 = .ok (.aload_n 0, 1) := by decide +kernel
theorem d14_1 : decode jdk_31_method_11_code 1 = .ok (.ifnonnull 12, 3) := by decide +kernel
theorem d14_13 : decode jdk_31_method_11_code 13 = .ok (.aload_n 0, 1) := by decide +kernel
theorem d14_14 : decode jdk_31_method_11_code 14 = .ok (.areturn, 1) := by decide +kernel
theorem d18_0 : decode prog_12_method_3_code 0 = .ok (.iload_n 0, 1) := by decide +kernel
theorem d18_1 : decode prog_12_method_3_code 1 = .ok (.bipush 97, 2) := by decide +kernel
theorem d18_3 : decode prog_12_method_3_code 3 = .ok (.if_icmp .lt 9, 3) := by decide +kernel
theorem d18_6 : decode prog_12_method_3_code 6 = .ok (.iload_n 0, 1) := by decide +kernel
theorem d18_7 : decode prog_12_method_3_code 7 = .ok (.bipush 122, 2) := by decide +kernel
theorem d18_9 : decode prog_12_method_3_code 9 = .ok (.if_icmp .le 45, 3) := by decide +kernel
theorem d18_12 : decode prog_12_method_3_code 12 = .ok (.iload_n 0, 1) := by decide +kernel
theorem d18_13 : decode prog_12_method_3_code 13 = .ok (.bipush 65, 2) := by decide +kernel
theorem d18_15 : decode prog_12_method_3_code 15 = .ok (.if_icmp .lt 9, 3) := by decide +kernel
theorem d18_18 : decode prog_12_method_3_code 18 = .ok (.iload_n 0, 1) := by decide +kernel
theorem d18_19 : decode prog_12_method_3_code 19 = .ok (.bipush 90, 2) := by decide +kernel
theorem d18_21 : decode prog_12_method_3_code 21 = .ok (.if_icmp .le 33, 3) := by decide +kernel
theorem d18_24 : decode prog_12_method_3_code 24 = .ok (.iload_n 0, 1) := by decide +kernel
theorem d18_25 : decode prog_12_method_3_code 25 = .ok (.bipush 48, 2) := by decide +kernel
theorem d18_27 : decode prog_12_method_3_code 27 = .ok (.if_icmp .lt 9, 3) := by decide +kernel
theorem d18_30 : decode prog_12_method_3_code 30 = .ok (.iload_n 0, 1) := by decide +kernel
theorem d18_31 : decode prog_12_method_3_code 31 = .ok (.bipush 57, 2) := by decide +kernel
theorem d18_33 : decode prog_12_method_3_code 33 = .ok (.if_icmp .le 21, 3) := by decide +kernel
theorem d18_36 : decode prog_12_method_3_code 36 = .ok (.iload_n 0, 1) := by decide +kernel
theorem d18_37 : decode prog_12_method_3_code 37 = .ok (.bipush 46, 2) := by decide +kernel
theorem d18_39 : decode prog_12_method_3_code 39 = .ok (.if_icmp .eq 15, 3) := by decide +kernel
theorem d18_42 : decode prog_12_method_3_code 42 = .ok (.iload_n 0, 1) := by decide +kernel
theorem d18_43 : decode prog_12_method_3_code 43 = .ok (.bipush 95, 2) := by decide +kernel
theorem d18_45 : decode prog_12_method_3_code 45 = .ok (.if_icmp .eq 9, 3) := by decide +kernel
theorem d18_48 : decode prog_12_method_3_code 48 = .ok (.iload_n 0, 1) := by decide +kernel
theorem d18_49 : decode prog_12_method_3_code 49 = .ok (.bipush 45, 2) := by decide +kernel
theorem d18_51 : decode prog_12_method_3_code 51 = .ok (.if_icmp .ne 7, 3) := by decide +kernel
theorem d18_54 : decode prog_12_method_3_code 54 = .ok (.iconst 1, 1) := by decide +kernel
theorem d18_55 : decode prog_12_method_3_code 55 = .ok (.goto 4, 3) := by decide +kernel
theorem d18_59 : decode prog_12_method_3_code 59 = .ok (.ireturn, 1) := by decide +kernel
theorem d19_0 : decode prog_12_method_1_code 0 = .ok (.aload_n 0, 1) := by decide +kernel
theorem d19_1 : decode prog_12_method_1_code 1 = .ok (.invokespecial 1, 3) := by decide +kernel
theorem d19_4 : decode prog_12_method_1_code 4 = .ok (.aload_n 0, 1) := by decide +kernel
theorem d19_5 : decode prog_12_method_1_code 5 = .ok (.aload_n 1, 1) := by decide +kernel
theorem d19_6 : decode prog_12_method_1_code 6 = .ok (.putfield 7, 3) := by decide +kernel
theorem d19_9 : decode prog_12_method_1_code 9 = .ok (.return_, 1) := by decide +kernel
theorem d20_0 : decode prog_12_method_4_code 0 = .ok (.aload_n 0, 1) := by decide +kernel
theorem d20_1 : decode prog_12_method_4_code 1 = .ok (.getfield 7, 3) := by decide +kernel
theorem d20_4 : decode prog_12_method_4_code 4 = .ok (.areturn, 1) := by decide +kernel
theorem d22_0 : decode prog_12_method_5_code 0 = .ok (.aload_n 1, 1) := by decide +kernel
theorem d22_1 : decode prog_12_method_5_code 1 = .ok (.instanceof 8, 3) := by decide +kernel
theorem d22_4 : decode prog_12_method_5_code 4 = .ok (.ifCond .eq 26, 3) := by decide +kernel
theorem d22_7 : decode prog_12_method_5_code 7 = .ok (.aload_n 1, 1) := by decide +kernel
theorem d22_8 : decode prog_12_method_5_code 8 = .ok (.checkcast 8, 3) := by decide +kernel
theorem d22_11 : decode prog_12_method_5_code 11 = .ok (.astore_n 2, 1) := by decide +kernel
theorem d22_12 : decode prog_12_method_5_code 12 = .ok (.aload_n 0, 1) := by decide +kernel
theorem d22_13 : decode prog_12_method_5_code 13 = .ok (.getfield 7, 3) := by decide +kernel
theorem d22_16 : decode prog_12_method_5_code 16 = .ok (.aload_n 2, 1) := by decide +kernel
theorem d22_17 : decode prog_12_method_5_code 17 = .ok (.getfield 7, 3) := by decide +kernel
theorem d22_20 : decode prog_12_method_5_code 20 = .ok (.invokevirtual 68, 3) := by decide +kernel
theorem d22_23 : decode prog_12_method_5_code 23 = .ok (.ifCond .eq 7, 3) := by decide +kernel
theorem d22_26 : decode prog_12_method_5_code 26 = .ok (.iconst 1, 1) := by decide +kernel
theorem d22_27 : decode prog_12_method_5_code 27 = .ok (.goto 4, 3) := by decide +kernel
theorem d22_31 : decode prog_12_method_5_code 31 = .ok (.ireturn, 1) := by decide +kernel
theorem pd__I_C : parseMethodDescriptor "(I)C" = some ⟨[.int], some .char⟩ := by decide +kernel
theorem pd___I : parseMethodDescriptor "()I" = some ⟨[], some .int⟩ := by decide +kernel
theorem pd__C_Z : parseMethodDescriptor "(C)Z" = some ⟨[.char], some .boolean⟩ := by decide +kernel
theorem pd__Ljava_lang_Object_Ljava_lang_String__Ljava_lang_Object_ : parseMethodDescriptor "(Ljava/lang/Object;Ljava/lang/String;)Ljava/lang/Object;" = some ⟨[(.object "java/lang/Object"), (.object "java/lang/String")], some (.object "java/lang/Object")⟩ := by decide +kernel
theorem pd___Z : parseMethodDescriptor "()Z" = some ⟨[], some .boolean⟩ := by decide +kernel
theorem pd__Ljava_lang_String__V : parseMethodDescriptor "(Ljava/lang/String;)V" = some ⟨[(.object "java/lang/String")], none⟩ := by decide +kernel
theorem pd__Ljava_lang_Object__Z : parseMethodDescriptor "(Ljava/lang/Object;)Z" = some ⟨[(.object "java/lang/Object")], some .boolean⟩ := by decide +kernel
theorem pd___C_V : parseMethodDescriptor "([C)V" = some ⟨[(.array .char)], none⟩ := by decide +kernel
theorem pd__Ljava_lang_String__Lcom_example_requeue_requeue_QueueName_ : parseMethodDescriptor "(Ljava/lang/String;)Lcom/example/requeue/requeue/QueueName;" = some ⟨[(.object "java/lang/String")], some (.object "com/example/requeue/requeue/QueueName")⟩ := by decide +kernel
theorem pd___Ljava_lang_String_ : parseMethodDescriptor "()Ljava/lang/String;" = some ⟨[], some (.object "java/lang/String")⟩ := by decide +kernel
theorem own_wS : ∀ d ∈ Bundle.stringAtoms, d ∈ tables_1 := by decide +kernel
theorem own_wLen : ∀ d ∈ StrChars.Road.wordsLen, d ∈ tables_1 := by decide +kernel
theorem own_wEmp : ∀ d ∈ StrChars.Road.wordsEmp, d ∈ tables_1 := by decide +kernel
theorem own_wChN : ∀ d ∈ StrChars.Road.wordsChN, d ∈ tables_1 := by decide +kernel
theorem own_wEq : ∀ d ∈ StrChars.Road.wordsEq, d ∈ tables_1 := by decide +kernel
theorem own_w : ∀ d ∈ StrChars.Road.words, d ∈ tables_1 := by decide +kernel
section OwnS
variable {p : Program} {l : Launch} {e : Env} {R : Room} {s : State} {m : MethodId} {args : Array Value} {below : List Frame} {meth : Method} {c : Code} {T : State} {locs : List Loc} {cells slots : Nat} {Z : State} {a0 : Array Value} {h : Heap}
/-- a callee that may intern, its contract asking something of the tables and saying something of them -/
theorem own_backS {y : MethodName} {bytes : ByteArray} {maxL : Nat} {ret : Option FieldType} {rm : Room} {len W : Nat} {as' : Array Value} {Pv : State → Prop} {Q : Option Value → Vm → Heap → List Loc → Prop}
    (hM : MetFree l y (head1 [Cond.code y bytes maxL ret] rm) (fun a U => a = as' ∧ Z.Warmed39 U.vm ∧ U.heap = h ∧ Pv U) (fun _ _ _ _ _ => True) (fun _ U o U' => ∃ v L, o = .returned v ∧ Q v U'.vm U'.heap L ∧ ReturnedEndW U o U' L rm.cells rm.slots))
    (hZ : Z.Warmed39 s.vm) (wc : (Cond.code y bytes maxL ret).before a0 Z = true) (wz : (Cond.initialized y.cls).before a0 Z = true) (hf : rm.frames + 1 ≤ R.frames) (hl : W + (maxL + 11) + rm.locals ≤ R.locals) (hv : ∀ U : State, s.WarmedH U.vm → Pv U) :
    BackS l R p e below s args y len W (fun A a => a = as' ∧ A.U.heap = h ∧ A.cells + rm.cells ≤ R.cells ∧ A.slots + rm.slots ≤ R.slots)
      (fun A _ v B => ∃ L, Q v B.U.vm B.U.heap L ∧ B.locs = A.locs ++ L ∧ B.cells = A.cells + rm.cells ∧ B.slots = A.slots + rm.slots) := by
  refine BackS.of_freeW (bytes := bytes) (maxL := maxL) (ret := ret) (E := fun _ _ o t L k n => k = rm.cells ∧ n = rm.slots ∧ ∃ v, o = .returned v ∧ Q v t.vm t.heap L) hM hf hl ?_ ?_ (fun _ _ _ _ _ _ _ _ _ => trivial) ?_ ?_
  · intro m meth c A a Y hp
    have hU : Z.Warmed39 A.U.vm := wtrans hZ Y.warmed
    exact ⟨by show (Cond.and _ .tt).before a A.U = true; rw [Cond.before_and, mv hU wc]; rfl, mv hU wc, mv hU wz, hp.2.2.1, hp.2.2.2⟩
  · intro m meth c A a g mk Y hp
    exact ⟨hp.1, wtrans hZ Y.warmed, hp.2.1, hv _ Y.warmed⟩
  · rintro a first o t ⟨v, L, h1, h2, h3⟩
    exact ⟨L, _, _, h3, rfl, rfl, v, h1, h2⟩
  · rintro m meth c A a g mk v t L k n Y hp - - ⟨e1, e2, v', e3, e4⟩
    cases e3
    subst e1 e2
    exact ⟨L, e4, rfl, rfl, rfl⟩
/-- .. one that interns nothing, and asks something of the tables -/
theorem own_backL {y : MethodName} {bytes : ByteArray} {maxL : Nat} {ret : Option FieldType} {rm : Room} {len W : Nat} {as' : Array Value} {Pv : State → Prop} {Q : Option Value → Heap → List Loc → Prop}
    (hM : MetFree l y (head1 [Cond.code y bytes maxL ret] rm) (fun a U => a = as' ∧ Z.Warmed39 U.vm ∧ U.heap = h ∧ Pv U) (fun _ _ _ _ _ => True) (fun _ U o U' => ∃ v L, o = .returned v ∧ Q v U'.heap L ∧ FrameEnd U o U' L rm.cells rm.slots))
    (hZ : Z.Warmed39 s.vm) (wc : (Cond.code y bytes maxL ret).before a0 Z = true) (wz : (Cond.initialized y.cls).before a0 Z = true) (hf : rm.frames + 1 ≤ R.frames) (hl : W + (maxL + 11) + rm.locals ≤ R.locals) (hv : ∀ U : State, s.WarmedH U.vm → Pv U) :
    Back l R p e below s args y len W (fun A a => a = as' ∧ A.U.heap = h ∧ A.cells + rm.cells ≤ R.cells ∧ A.slots + rm.slots ≤ R.slots)
      (fun A _ v B => ∃ L, Q v B.U.heap L ∧ B.locs = A.locs ++ L ∧ B.cells = A.cells + rm.cells ∧ B.slots = A.slots + rm.slots) := by
  refine Back.of_free (bytes := bytes) (maxL := maxL) (ret := ret) (E := fun _ _ o t L k n => k = rm.cells ∧ n = rm.slots ∧ ∃ v, o = .returned v ∧ Q v t.heap L) hM hf hl ?_ ?_ (fun _ _ _ _ _ _ _ _ _ => trivial) ?_ ?_
  · intro m meth c A a Y hp
    have hU : Z.Warmed39 A.U.vm := wtrans hZ Y.warmed
    exact ⟨by show (Cond.and _ .tt).before a A.U = true; rw [Cond.before_and, mv hU wc]; rfl, mv hU wc, mv hU wz, hp.2.2.1, hp.2.2.2⟩
  · intro m meth c A a g mk Y hp
    exact ⟨hp.1, wtrans hZ Y.warmed, hp.2.1, hv _ Y.warmed⟩
  · rintro a first o t ⟨v, L, h1, h2, h3⟩
    exact ⟨L, _, _, h3, rfl, rfl, v, h1, h2⟩
  · rintro m meth c A a g mk v t L k n Y hp - - ⟨e1, e2, v', e3, e4⟩
    cases e3
    subst e1 e2
    exact ⟨L, e4, rfl, rfl, rfl⟩
theorem own_outSS {own : String} {vm0 : Vm} {k0 : Nat} {g : JFrame} {g' : Option Value → JFrame} {Q : Option Value → Vm → Heap → List Loc → Prop} {kc ks : Nat} (hS : s.Since vm0 k0) (hk : k0 ≤ T.heap.size) (hZ : Z.Warmed39 (s.setVm vm0).vm) (hown : (s.setVm vm0).vm.findClass own = some m.cls)
    (H : ∃ (v : Option Value) (vm₁ : Vm) (B : Pt), (s.setVm vm0).WarmedH vm₁ ∧ Stand p l e R ((s.setVm vm0).setVm B.U.vm) m args below meth c B.U B.locs B.cells B.slots ∧ (s.setVm vm0).Since B.U.vm B.U.heap.size ∧ T.heap.size ≤ B.U.heap.size ∧ (∃ L, Q v B.U.vm B.U.heap L ∧ B.locs = locs ++ L ∧ B.cells = cells + kc ∧ B.slots = slots + ks) ∧ Steps p.tables e below (T.setTop g) (B.U.setTop (g' v))) :
    ∃ (v : Option Value) (T' : State) (L : List Loc), Stand p l e R (s.setVm T'.vm) m args below meth c T' (locs ++ L) (cells + kc) (slots + ks) ∧ Q v T'.vm T'.heap L ∧ s.Since T'.vm T'.heap.size ∧ T.heap.size ≤ T'.heap.size ∧ Z.Warmed39 (s.setVm T'.vm).vm ∧ (s.setVm T'.vm).vm.findClass own = some m.cls ∧ ∀ t, Steps p.tables e below (T'.setTop (g' v)) t → Steps p.tables e below (T.setTop g) t := by
  obtain ⟨v, vm, ⟨T', L', k', n'⟩, -, X, h2, hgr, ⟨L, hQ, e1, e2, e3⟩, st⟩ := H
  subst e1 e2 e3
  obtain ⟨X1, h3, h4, h5⟩ := rebS hS hk X h2 hgr hZ hown
  exact ⟨v, T', L, X1, hQ, h3, hgr, h4, h5, fun t k => st.trans k⟩
theorem own_litU {own : String} {ix : Nat} {la : Addr} (hL : Lit s own ix la) : ∀ U : State, s.WarmedH U.vm → Lit U own ix la := fun U hU => (Lit.stays (s := s) (vm0 := s.vm) hL hU.wide : Lit (s.setVm U.vm) own ix la)
theorem own_ibU {Ts : List String} (hI : IB Z s.vm Ts) : ∀ U : State, s.WarmedH U.vm → IB Z U.vm Ts := fun U hU => by
  obtain ⟨more, e, hm⟩ := hI
  exact ⟨more, hU.interned_eq.trans e, hm⟩
end OwnS
theorem own_lit2 {p : Program} {l : Launch} {e : Env} {R : Room} {s : State} {m : MethodId} {args : Array Value} {below : List Frame} {meth : Method} {c : Code} {T : State} {locs : List Loc} {cells slots : Nat} {Z : State} {vm0 : Vm} {own : String} {ix : Nat} {a : Addr} (L : Lit (s.setVm vm0) own ix a) (X : Stand p l e R (s.setVm vm0) m args below meth c T locs cells slots) : Lit (Z.setVm T.vm) own ix a :=
  (Lit.stays L X.warmed.wide : Lit (s.setVm T.vm) own ix a)
theorem own_ib2 {p : Program} {l : Launch} {e : Env} {R : Room} {s : State} {m : MethodId} {args : Array Value} {below : List Frame} {meth : Method} {c : Code} {T : State} {locs : List Loc} {cells slots : Nat} {Z : State} {vm0 : Vm} {Ts : List String} (I : IB Z vm0 Ts) (X : Stand p l e R (s.setVm vm0) m args below meth c T locs cells slots) : IB Z T.vm Ts := by
  obtain ⟨more, e, hm⟩ := I
  exact ⟨more, X.warmed.interned_eq.trans e, hm⟩
theorem own_hl {p : Program} {l : Launch} {e : Env} {R : Room} {s : State} {m : MethodId} {args : Array Value} {below : List Frame} {meth : Method} {c : Code} {T : State} {locs : List Loc} {cells slots n0 : Nat} (X : Stand p l e R s m args below meth c T locs cells slots) (N : Fr n0 locs) : ∃ L, Stand p l e R s m args below meth c T L cells slots ∧ Fr n0 L := ⟨_, X, N⟩
def own_St (Z : State) : Prop := (∃ z : Int32, Sta Z Z.heap "java/lang/String" "COMPACT_STRINGS" "Z" (.int z) ∧ ¬ z = 0) ∧ (∃ v : Value, Sta Z Z.heap "jdk/internal/util/Preconditions" "SIOOBE_FORMATTER" "Ljava/util/function/BiFunction;" v ∧ v.isRef = true)
theorem own_ss {args : Array Value} {s : State} (hsets : ∀ d ∈ jdkStatics_1, d.before args s = true) : own_St s := by
  obtain ⟨i, e1⟩ := is_v (Cond.before_iff.mp (hsets _ (List.mem_of_getElem? (i := 1) rfl)))
  obtain ⟨v, e2, r2⟩ := isR_v (Cond.before_iff.mp (hsets _ (List.mem_of_getElem? (i := 8) rfl)))
  have n5 := not_v (Cond.before_iff.mp (hsets _ (List.mem_of_getElem? (i := 2) rfl)))
  exact ⟨⟨i, Sta.start e1 (Or.inl (hsets _ (List.mem_of_getElem? (i := 0) rfl))), gotF (Cond.eq_ints e1 (Term.int_eval (0))) n5⟩, ⟨v, Sta.start e2 (Or.inl (hsets _ (List.mem_of_getElem? (i := 7) rfl))), r2⟩⟩
/-- an allowed sign -/
def own_ok (z : Int32) : Prop := (97 ≤ z.toInt ∧ z.toInt ≤ 122) ∨ (65 ≤ z.toInt ∧ z.toInt ≤ 90) ∨ (48 ≤ z.toInt ∧ z.toInt ≤ 57) ∨ z.toInt = 46 ∨ z.toInt = 95 ∨ z.toInt = 45
theorem own_lt {z k : Int32} (n : Int) (hk : k.toInt = n) : z < k ↔ z.toInt < n := by rw [Int32.lt_iff_toInt_lt, hk]
theorem own_gt {z k : Int32} (n : Int) (hk : k.toInt = n) : k < z ↔ n < z.toInt := by rw [Int32.lt_iff_toInt_lt, hk]
theorem own_eq {z k : Int32} (n : Int) (hk : k.toInt = n) : z = k ↔ z.toInt = n := by rw [← Int32.toInt_inj, hk]
theorem own_rng {z : Int32} (h : own_ok z) : ¬ z < 0 ∧ ¬ (255 : Int32) < z := by
  rw [own_lt (k := 0) 0 rfl, own_gt (k := 255) 255 rfl]
  rcases h with h | h | h | h | h | h <;> omega
theorem own_rng2 {z : Int32} (h : own_ok z) : ¬ z < 0 ∧ ¬ (65535 : Int32) < z := by
  rw [own_lt (k := 0) 0 rfl, own_gt (k := 65535) 65535 rfl]
  rcases h with h | h | h | h | h | h <;> omega
theorem own_nc {z : Int32} (h : own_ok z) : nar .char z = z := Value.int.inj (StrChars.narrow_ch (own_rng2 h).1 (own_rng2 h).2)
theorem own_nc2 {z : Int32} (h : own_ok z) : z.toUInt32.toUInt16.toUInt32.toInt32 = z := own_nc h
theorem own_mem {cs : List Int32} {P : Int32 → Prop} {j : Nat} (h : ∀ z ∈ cs, P z) (hj : j < cs.length) : P (cs.getD j 0) := by
  rw [List.getD_eq_getElem?_getD, List.getElem?_eq_getElem hj]
  exact h _ (List.getElem_mem hj)
/-- the signs of a text -/
def own_cs (t : List Char) : List Int32 := t.map fun z => Int32.ofNat z.toNat
def own_t65 : List Int32 := [97, 98, 99, 100, 101, 102, 103, 104, 105, 106, 107, 108, 109, 110, 111, 112, 113, 114, 115, 116, 117, 118, 119, 120, 121, 122, 65, 66, 67, 68, 69, 70, 71, 72, 73, 74, 75, 76, 77, 78, 79, 80, 81, 82, 83, 84, 85, 86, 87, 88, 89, 90, 48, 49, 50, 51, 52, 53, 54, 55, 56, 57, 46, 95, 45]
def own_t64 : List Int32 := own_t65.drop 1
def own_vs (cs : List Int32) : List Value := cs.map fun z => Value.int (StrChars.lo8 z)
theorem own_ok65 : ∀ z ∈ own_t65, own_ok z := by unfold own_ok; decide +kernel
theorem own_ok64 : ∀ z ∈ own_t64, own_ok z := fun z hz => own_ok65 z (List.mem_of_mem_drop hz)
theorem own_ht65 : (∀ c ∈ "abcdefghijklmnopqrstuvwxyzABCDEFGHIJKLMNOPQRSTUVWXYZ0123456789._-".toList, c.toNat < 256) ∧ "abcdefghijklmnopqrstuvwxyzABCDEFGHIJKLMNOPQRSTUVWXYZ0123456789._-".toList.map (fun c => Value.int (Jvm.Lit.byteI c.toNat.toUInt16)) = own_vs own_t65 := ⟨by decide +kernel, by decide +kernel⟩
theorem own_ht64 : (∀ c ∈ "bcdefghijklmnopqrstuvwxyzABCDEFGHIJKLMNOPQRSTUVWXYZ0123456789._-".toList, c.toNat < 256) ∧ "bcdefghijklmnopqrstuvwxyzABCDEFGHIJKLMNOPQRSTUVWXYZ0123456789._-".toList.map (fun c => Value.int (Jvm.Lit.byteI c.toNat.toUInt16)) = own_vs own_t64 := ⟨by decide +kernel, by decide +kernel⟩
theorem own_coda {cs : List Int32} {n : Int32} (hn : n = Int32.ofNat cs.length) (h : ∀ z ∈ cs, own_ok z) : StrChars.Road.CodA cs 0 n (own_vs cs) := Or.inl ⟨rfl, hn, rfl, fun z hz => (own_rng (h z hz)).2⟩
theorem own_hb {cs : List Int32} (h : ∀ z ∈ cs, own_ok z) : ∀ z ∈ cs, ¬ z < 0 ∧ ¬ (65535 : Int32) < z := fun z hz => own_rng2 (h z hz)
theorem own_toI {j : Nat} (h : j < 2000) : (Int32.ofNat j).toInt = j := Int32.toInt_ofNat_of_lt (by omega)
theorem own_and (x : Int32) : 0 ≤ (x &&& 2147483647).toInt := by
  have h : (x &&& 2147483647).toBitVec.toNat ≤ 2147483647 := by
    rw [Int32.toBitVec_and, BitVec.toNat_and]; exact Nat.and_le_right
  have e : (x &&& 2147483647).toInt = (x &&& 2147483647).toBitVec.toInt := rfl
  rw [e, BitVec.toInt_eq_toNat_cond, if_pos (by omega)]
  omega
theorem own_mod (x : Int32) {k : Int32} (n : Nat) (hk : k.toInt = n) (h0 : 0 < n) (h1 : n < 1000) : ∃ j : Nat, j < n ∧ (x &&& 2147483647) % k = Int32.ofNat j := by
  have h := own_and x
  refine ⟨((x &&& 2147483647).toInt % n).toNat, ?_, ?_⟩
  · have := Int.emod_lt_of_pos (x &&& 2147483647).toInt (show (0 : Int) < n by omega)
    have := Int.emod_nonneg (x &&& 2147483647).toInt (show (n : Int) ≠ 0 by omega)
    omega
  · apply Int32.toInt_inj.mp
    have a := Int.emod_lt_of_pos (x &&& 2147483647).toInt (show (0 : Int) < n by omega)
    have b := Int.emod_nonneg (x &&& 2147483647).toInt (show (n : Int) ≠ 0 by omega)
    rw [own_toI (by omega), Int32.toInt_mod, hk, Int.tmod_eq_emod_of_nonneg h]
    omega
theorem own_not (t : String) : t ∉ ([] : List String) := fun h => nomatch h
theorem own_not2 : "bcdefghijklmnopqrstuvwxyzABCDEFGHIJKLMNOPQRSTUVWXYZ0123456789._-" ∉ ["abcdefghijklmnopqrstuvwxyzABCDEFGHIJKLMNOPQRSTUVWXYZ0123456789._-"] := by decide +kernel
theorem own_inc {j : Nat} (h : j < 1999) : Int32.ofNat j + (1 : Int32) = Int32.ofNat (j + 1) := (Int32.ofNat_add j 1).symm
theorem own_ltn {i j : Nat} (hi : i < 2000) (hj : j < 2000) : Int32.ofNat i < Int32.ofNat j ↔ i < j := by
  rw [Int32.lt_iff_toInt_lt, own_toI hi, own_toI hj]; omega
abbrev eF_pickW (m : MethodId) (x0 : Int32) : JFrame := entryFrame m #[(.int x0)] 1
theorem ef_pickW (m : MethodId) (x0 : Int32) : entryFrame m #[(.int x0)] 1 = mkF m 0 #[.val (.int x0)] [] := by first | (simp [entryFrame, mkF, argsToLocals, Value.category]; done) | rfl
theorem pn_pickW : plainName "com/example/requeue/requeue/QueueNameOfPinLaw" = true := by first | (simp [plainName, overriddenIn]; done) | decide +kernel
def Q_pickW (Z : State)  (h0 : Heap) (n0 : Nat) (v : Option Value) (h : Heap) (L : List Loc) : Prop := ∃ ch : Int32, v = some (.int ch) ∧ own_ok ch ∧ Fr n0 L ∧ h = h0
set_option maxRecDepth 65536 in
set_option maxHeartbeats 40000000 in
theorem rm_pickW (l : Launch) (Z : State) (a0 : Array Value) (hw : ∀ d ∈ tables_1, d.before a0 Z = true) (ws : List Jvm.Cond) (x : Int32) (la : Addr) (lb : Addr) (lk : ClassId) (h0 : Heap) (n0 : Nat) (Z0 : n0 ≤ h0.size) (SS : own_St Z) (O0 : Old Z n0 h0) (E : Exa Z h0 la "java/lang/String") (F : Fld Z h0 la "java/lang/String" "coder" "B" (.int (0 : Int32))) (G : Fld Z h0 la "java/lang/String" "value" "[B" (.ref lb)) (V : Arv Z h0 lb lk .byte (65 : Int32) (own_vs own_t65) (.int (0 : Int32))) (hcd : StrChars.Road.CodA own_t65 0 (65 : Int32) (own_vs own_t65)) :
    MetFree l (⟨"com/example/requeue/requeue/QueueNameOfPinLaw", "pick", "(I)C"⟩ : MethodName) (head1 (Jvm.Cond.code (⟨"com/example/requeue/requeue/QueueNameOfPinLaw", "pick", "(I)C"⟩ : MethodName) method_2_code 1 (some .char) :: ws) ({ frames := 4, cells := 0, slots := 0, locals := 53 } : Room)) (fun aa U => aa = #[(.int x)] ∧ Z.Warmed39 U.vm ∧ U.heap = h0 ∧ Lit U "com/example/requeue/requeue/QueueNameOfPinLaw" 7 la) (fun _ _ _ _ _ => True) (fun _ U o U' => ∃ v L, o = .returned v ∧ Q_pickW Z  h0 n0 v U'.heap L ∧ FrameEnd U o U' L ({ frames := 4, cells := 0, slots := 0, locals := 53 } : Room).cells ({ frames := 4, cells := 0, slots := 0, locals := 53 } : Room).slots) := by
  refine MetFree.of_bodySF (plainFor_of_name pn_pickW) hisR ?_
  intro p e s m args below meth c s₁ Bd hml0 hP hK
  obtain ⟨rfl, hZ, hh, hPv⟩ := hP
  have hx := Bd.exec
  have hby := Bd.bytes
  have hml : c.maxLocals = 1 := hml0
  have hown : s.vm.findClass "com/example/requeue/requeue/QueueNameOfPinLaw" = some m.cls := findClass_of_methodNamed Bd.named
  have hnm := (name_of_methodNamed Bd.named Bd.method).1
  have X0 : Stand p l e ({ frames := 4, cells := 0, slots := 0, locals := 53 } : Room) s m #[(.int x)] below meth c s₁ [] 0 0 := Stand.of_body Bd
  have e0 : s₁.heap = h0 := by rw [← hh, Bd.state]; rfl
  have N0 := Fr.nil n0
  have S0 : Go p e below s₁ (eF_pickW m x) s₁ (mkF m 0 #[vI x] []) := fun t k => castTop (ef_pickW m x) k
  obtain ⟨⟨cz, S_cs, hcz⟩, ⟨fm, S_fm, hfm⟩⟩ := id SS
  have hch : ∀ d ∈ StrChars.Road.wordsChN, d.before a0 Z = true := fun d hd => hw d (own_wChN d hd)
  have XC : Stand p l e ({ frames := 4, cells := 0, slots := 0, locals := 53 } : Room) (s.setVm s.vm) m #[(.int x)] below meth c s₁ [] 0 0 := X0
  have S1 : Go p e below s₁ (eF_pickW m x) s₁ (mkF m 2 #[vI x] [(.ref la)]) := fun t kt => S0 t (by
    refine ldcAgain XC hx (s := s) (vm0 := s.vm) hZ hown (own_h hw 5 rfl) (a := la) hPv (g := (mkF m 0 #[vI x] [])) rfl (hb hby d1_0) _ ?_
    show Sp p e below s₁ (mkF m 2 #[vI x] [(.ref la)]) _
    exact kt)
  clear S0
  have S2 : Go p e below s₁ (eF_pickW m x) s₁ (mkF m 9 #[vI x] [(.int ((x &&& (2147483647 : Int32)) % (65 : Int32))), (.ref la)]) := fun t kt => S1 t (by
    refine XS.iloadN X0.here hx rfl (hb hby d1_2) rfl ?_
    show Sp p e below s₁ (mkF m 3 #[vI x] [(.int x), (.ref la)]) _
    refine X0.ldcInt hx hown (mvT hZ (own_h hw 13 rfl)) (g := (mkF m 3 #[vI x] [(.int x), (.ref la)])) rfl (hb hby d1_3) _ ?_
    show Sp p e below s₁ (mkF m 5 #[vI x] [(.int (2147483647 : Int32)), (.int x), (.ref la)]) _
    refine XS.iand X0.here hx rfl (hb hby d1_5) rfl ?_
    show Sp p e below s₁ (mkF m 6 #[vI x] [(.int (x &&& (2147483647 : Int32))), (.ref la)]) _
    refine XS.bipush X0.here hx rfl (hb hby d1_6) ?_
    show Sp p e below s₁ (mkF m 8 #[vI x] [(.int (65 : Int32)), (.int (x &&& (2147483647 : Int32))), (.ref la)]) _
    refine iremM X0 hx rfl (hb hby d1_8) rfl (by decide) ?_
    show Sp p e below s₁ (mkF m 9 #[vI x] [(.int ((x &&& (2147483647 : Int32)) % (65 : Int32))), (.ref la)]) _
    exact kt)
  clear S1
  obtain ⟨j, hj, hij⟩ := own_mod x (k := 65) 65 rfl (by decide) (by decide)
  have q4 : ((x &&& (2147483647 : Int32)) % (65 : Int32)) = (Int32.ofNat j) := hij
  have S3 : Go p e below s₁ (eF_pickW m x) s₁ (mkF m 9 #[vI x] [(.int (Int32.ofNat j)), (.ref la)]) := by have h := S2; rw [q4] at h; exact h
  clear S2
  have hjl : j < own_t65.length := hj
  obtain ⟨cq5, kq5, q5a, q5b, q5c⟩ := isOf hZ e0 E
  obtain ⟨v5, T5, L5, X5, hQ5, st5⟩ := own_outV (Q := (fun v h' L => v = some (.int (own_t65.getD j 0)) ∧ L = [] ∧ h' = h0)) (X0.virtualBack hx (y := (⟨"java/lang/String", "charAt", "(I)C"⟩ : MethodName)) (z := (⟨"java/lang/String", "charAt", "(I)C"⟩ : MethodName)) hown (mvT hZ (own_h hw 14 rfl)) (mvT hZ (own_h hw 15 rfl)) (notFace_of_selects (args := #[]) (mvT hZ (own_h hw 17 rfl))) (mvT hZ (own_h hw 17 rfl)) (mvT hZ (own_h hw 16 rfl)) (by decide) (StrChars.Road.chN (W := 0) hZ hch (kI := 4) (own_h hw 7 rfl) E G F V hcd (own_hb own_ok65) (S_cs.ext O0.2) hcz (S_fm.ext O0.2) hfm (by decide) (i := j) hjl (j := (Int32.ofNat j)) rfl (by decide) (by decide)) q5a q5c (g := (mkF m 9 #[vI x] [(.int (Int32.ofNat j)), (.ref la)])) rfl (by rw [hml]; rfl) (Steps.refl _) (argsL := [(.int (Int32.ofNat j))]) (rest := []) (lenOf pd__I_C rfl) rfl (by show 2 * 0 + _ ≤ _; exact Nat.le_of_eq rfl) (hb hby d1_9) (fun _ _ => ⟨rfl, e0, (by decide : 0 + 0 ≤ _), (by decide : 0 + 0 ≤ _)⟩))
  obtain ⟨rfl, rfl, e5⟩ := hQ5
  have N5 := Fr.app N0 (Fr.nil n0)
  have S6 : Go p e below s₁ (eF_pickW m x) T5 (mkF m 12 #[vI x] [(.int (own_t65.getD j 0))]) := fun t kt => S3 t (st5 t kt)
  clear S3 st5 X0 e0
  have hok : own_ok (own_t65.getD j 0) := own_mem (P := own_ok) own_ok65 hjl
  generalize own_t65.getD j 0 = ch at hok S6
  obtain ⟨fs, hr, hrun, hended, hW, hsame⟩ := X5.leave (v := some (.int (nar .char ch))) (fun h => by first | rfl | (rw [Bd.returns] at h; cases h))
  refine ⟨_, _, S6 _ ?_, hrun, hended, _, _, rfl, ?_, ⟨_, rfl⟩, hW, hsame.mono (by decide) (by decide)⟩
  · exact retN X5 hx (t := .char) Bd.returns (by simp) (hb hby d1_12) hr
  · show Q_pickW Z  h0 n0 _ T5.heap _
    rw [e5]
    exact ⟨ch, by rw [own_nc hok], hok, N5, rfl⟩
abbrev eF_pickC (m : MethodId) (x0 : Int32) : JFrame := entryFrame m #[(.int x0)] 1
theorem ef_pickC (m : MethodId) (x0 : Int32) : entryFrame m #[(.int x0)] 1 = mkF m 0 #[.val (.int x0)] [] := by first | (simp [entryFrame, mkF, argsToLocals, Value.category]; done) | rfl
theorem pn_pickC : plainName "com/example/requeue/requeue/QueueNameOfPinLaw" = true := by first | (simp [plainName, overriddenIn]; done) | decide +kernel
def Q_pickC (Z : State)  (h0 : Heap) (n0 : Nat) (v : Option Value) (vm : Vm) (h : Heap) (L : List Loc) : Prop := ∃ ch : Int32, v = some (.int ch) ∧ own_ok ch ∧ Fr n0 L ∧ Keep h0 h [] ∧ ∃ (la lb : Addr) (lk : ClassId), Lit (Z.setVm vm) "com/example/requeue/requeue/QueueNameOfPinLaw" 7 la ∧ IB Z vm ["abcdefghijklmnopqrstuvwxyzABCDEFGHIJKLMNOPQRSTUVWXYZ0123456789._-"] ∧ Exa Z h la "java/lang/String" ∧ Fld Z h la "java/lang/String" "coder" "B" (.int (0 : Int32)) ∧ Fld Z h la "java/lang/String" "value" "[B" (.ref lb) ∧ Arv Z h lb lk .byte (65 : Int32) (own_vs own_t65) (.int (0 : Int32))
set_option maxRecDepth 65536 in
set_option maxHeartbeats 40000000 in
theorem rm_pickC (l : Launch) (Z : State) (a0 : Array Value) (hw : ∀ d ∈ tables_1, d.before a0 Z = true) (ws : List Jvm.Cond) (x : Int32) (h0 : Heap) (n0 : Nat) (Z0 : n0 ≤ h0.size) (SS : own_St Z) (O0 : Old Z n0 h0)(hcst : Jvm.Lit.constHeld Z "com/example/requeue/requeue/QueueNameOfPinLaw" 7) (hcw : Jvm.Lit.compactW.before a0 Z = true) :
    MetFree l (⟨"com/example/requeue/requeue/QueueNameOfPinLaw", "pick", "(I)C"⟩ : MethodName) (head1 (Jvm.Cond.code (⟨"com/example/requeue/requeue/QueueNameOfPinLaw", "pick", "(I)C"⟩ : MethodName) method_2_code 1 (some .char) :: ws) ({ frames := 4, cells := 2, slots := 264, locals := 53 } : Room)) (fun aa U => aa = #[(.int x)] ∧ Z.Warmed39 U.vm ∧ U.heap = h0 ∧ IB Z U.vm []) (fun _ _ _ _ _ => True) (fun _ U o U' => ∃ v L, o = .returned v ∧ Q_pickC Z  h0 n0 v U'.vm U'.heap L ∧ ReturnedEndW U o U' L ({ frames := 4, cells := 2, slots := 264, locals := 53 } : Room).cells ({ frames := 4, cells := 2, slots := 264, locals := 53 } : Room).slots) := by
  refine MetFree.of_bodySF (plainFor_of_name pn_pickC) hisR ?_
  intro p e s m args below meth c s₁ Bd hml0 hP hK
  obtain ⟨rfl, hZ, hh, hPv⟩ := hP
  have hx := Bd.exec
  have hby := Bd.bytes
  have hml : c.maxLocals = 1 := hml0
  have hown : s.vm.findClass "com/example/requeue/requeue/QueueNameOfPinLaw" = some m.cls := findClass_of_methodNamed Bd.named
  have hnm := (name_of_methodNamed Bd.named Bd.method).1
  have X0 : Stand p l e ({ frames := 4, cells := 2, slots := 264, locals := 53 } : Room) (s.setVm s.vm) m #[(.int x)] below meth c s₁ [] 0 0 := Stand.of_body Bd
  have e0 : s₁.heap = h0 := by rw [← hh, Bd.state]; rfl
  have N0 := Fr.nil n0
  have S0 : Go p e below s₁ (eF_pickC m x) s₁ (mkF m 0 #[vI x] []) := fun t k => castTop (ef_pickC m x) k
  have hZ : Z.Warmed39 (s.setVm s.vm).vm := hZ
  have hown : (s.setVm s.vm).vm.findClass "com/example/requeue/requeue/QueueNameOfPinLaw" = some m.cls := hown
  have hS : s.Since s.vm 0 := (State.WarmedH.refl s).since 0
  have hki0 := Nat.zero_le h0.size
  obtain ⟨⟨cz, S_cs, hcz⟩, ⟨fm, S_fm, hfm⟩⟩ := id SS
  have hch : ∀ d ∈ StrChars.Road.wordsChN, d.before a0 Z = true := fun d hd => hw d (own_wChN d hd)
  obtain ⟨la, T7, h7, ki7, lb, kb7, X7, e7, E7, hS, hki7, hZ, hown, Es7, Fs7, Gs7, Vs7, -, -, hIB, hLit7, st7⟩ := ldcSVL X0 hx hZ hown (own_h hw 5 rfl) (fun d hd => hw d (own_wS d hd)) e0 hS hki0 (Fr.nil _) (fun b cl q => by rw [hh]; exact O0.2.2 b cl q) hPv (own_not _) hcst hcw (vs := (own_vs own_t65)) (z := (65 : Int32)) own_ht65 (by decide) rfl (g := (mkF m 0 #[vI x] [])) rfl (hb hby d1_0) (n := 260) (by decide +kernel) (by decide) (by decide) (by decide)
  have K7 : Keep h0 h7 [] := (Keep.refl h0 []).ext E7
  have S8 : Go p e below s₁ (eF_pickC m x) T7 (mkF m 2 #[vI x] [(.ref la)]) := fun t kt => S0 t (st7 t kt)
  clear S0 st7 X0 e0
  have hcd : StrChars.Road.CodA own_t65 0 (65 : Int32) (own_vs own_t65) := own_coda rfl own_ok65
  have S9 : Go p e below s₁ (eF_pickC m x) T7 (mkF m 9 #[vI x] [(.int ((x &&& (2147483647 : Int32)) % (65 : Int32))), (.ref la)]) := fun t kt => S8 t (by
    refine XS.iloadN X7.here hx rfl (hb hby d1_2) rfl ?_
    show Sp p e below T7 (mkF m 3 #[vI x] [(.int x), (.ref la)]) _
    refine X7.ldcInt hx hown (mvT hZ (own_h hw 13 rfl)) (g := (mkF m 3 #[vI x] [(.int x), (.ref la)])) rfl (hb hby d1_3) _ ?_
    show Sp p e below T7 (mkF m 5 #[vI x] [(.int (2147483647 : Int32)), (.int x), (.ref la)]) _
    refine XS.iand X7.here hx rfl (hb hby d1_5) rfl ?_
    show Sp p e below T7 (mkF m 6 #[vI x] [(.int (x &&& (2147483647 : Int32))), (.ref la)]) _
    refine XS.bipush X7.here hx rfl (hb hby d1_6) ?_
    show Sp p e below T7 (mkF m 8 #[vI x] [(.int (65 : Int32)), (.int (x &&& (2147483647 : Int32))), (.ref la)]) _
    refine iremM X7 hx rfl (hb hby d1_8) rfl (by decide) ?_
    show Sp p e below T7 (mkF m 9 #[vI x] [(.int ((x &&& (2147483647 : Int32)) % (65 : Int32))), (.ref la)]) _
    exact kt)
  clear S8
  obtain ⟨j, hj, hij⟩ := own_mod x (k := 65) 65 rfl (by decide) (by decide)
  have q11 : ((x &&& (2147483647 : Int32)) % (65 : Int32)) = (Int32.ofNat j) := hij
  have S10 : Go p e below s₁ (eF_pickC m x) T7 (mkF m 9 #[vI x] [(.int (Int32.ofNat j)), (.ref la)]) := by have h := S9; rw [q11] at h; exact h
  clear S9
  have hjl : j < own_t65.length := hj
  have f12 := (O0.ext E7)
  obtain ⟨cq13, kq13, q13a, q13b, q13c⟩ := isOf hZ e7 Es7
  obtain ⟨v13, T13, L13, X13, hQ13, st13⟩ := own_outV (Q := (fun v h' L => v = some (.int (own_t65.getD j 0)) ∧ L = [] ∧ h' = h7)) (X7.virtualBack hx (y := (⟨"java/lang/String", "charAt", "(I)C"⟩ : MethodName)) (z := (⟨"java/lang/String", "charAt", "(I)C"⟩ : MethodName)) hown (mvT hZ (own_h hw 14 rfl)) (mvT hZ (own_h hw 15 rfl)) (notFace_of_selects (args := #[]) (mvT hZ (own_h hw 17 rfl))) (mvT hZ (own_h hw 17 rfl)) (mvT hZ (own_h hw 16 rfl)) (by decide) (StrChars.Road.chN (W := 0) hZ hch (kI := 4) (own_h hw 7 rfl) Es7 Gs7 Fs7 Vs7 hcd (own_hb own_ok65) (S_cs.ext f12.2) hcz (S_fm.ext f12.2) hfm (by decide) (i := j) hjl (j := (Int32.ofNat j)) rfl (by decide) (by decide)) q13a q13c (g := (mkF m 9 #[vI x] [(.int (Int32.ofNat j)), (.ref la)])) rfl (by rw [hml]; rfl) (Steps.refl _) (argsL := [(.int (Int32.ofNat j))]) (rest := []) (lenOf pd__I_C rfl) rfl (by show 2 * 0 + _ ≤ _; exact Nat.le_of_eq rfl) (hb hby d1_9) (fun _ _ => ⟨rfl, e7, (by decide : 2 + 0 ≤ _), (by decide : 264 + 0 ≤ _)⟩))
  obtain ⟨rfl, rfl, e13⟩ := hQ13
  have N13 := Fr.app N0 (Fr.nil n0)
  have S14 : Go p e below s₁ (eF_pickC m x) T13 (mkF m 12 #[vI x] [(.int (own_t65.getD j 0))]) := fun t kt => S10 t (st13 t kt)
  clear S10 st13 X7 e7
  have hok : own_ok (own_t65.getD j 0) := own_mem (P := own_ok) own_ok65 hjl
  generalize own_t65.getD j 0 = ch at hok S14
  have hlit2 : Lit (Z.setVm T13.vm) "com/example/requeue/requeue/QueueNameOfPinLaw" 7 la := own_lit2 hLit7 X13
  have hib2 : IB Z T13.vm ["abcdefghijklmnopqrstuvwxyzABCDEFGHIJKLMNOPQRSTUVWXYZ0123456789._-"] := own_ib2 hIB X13
  obtain ⟨fs, hr, hrun, hended, hRE⟩ := X13.leaveW hS (n := _) (by rw [e13]; exact hki7) (v := some (.int (nar .char ch))) (fun h => by first | rfl | (rw [Bd.returns] at h; cases h))
  refine ⟨_, _, S14 _ ?_, hrun, hended, _, _, rfl, ?_, hRE.1, hRE.2.1, hRE.2.2.1, hRE.2.2.2.mono (by decide) (by decide)⟩
  · exact retN X13 hx (t := .char) Bd.returns (by simp) (hb hby d1_12) hr
  · show Q_pickC Z  h0 n0 _ T13.vm T13.heap _
    rw [e13]
    exact ⟨ch, by rw [own_nc hok], hok, N13, K7, la, lb, _, hlit2, hib2, Es7, Fs7, Gs7, Vs7⟩
abbrev eF_rnn (m : MethodId) (x0 : Addr) (x1 : Addr) : JFrame := entryFrame m #[(.ref x0), (.ref x1)] 2
theorem ef_rnn (m : MethodId) (x0 : Addr) (x1 : Addr) : entryFrame m #[(.ref x0), (.ref x1)] 2 = mkF m 0 #[.val (.ref x0), .val (.ref x1)] [] := by first | (simp [entryFrame, mkF, argsToLocals, Value.category]; done) | rfl
theorem pn_rnn : plainName "java/util/Objects" = true := by first | (simp [plainName, overriddenIn]; done) | decide +kernel
def Q_rnn (Z : State) (a : Addr) (h0 : Heap) (n0 : Nat) (v : Option Value) (h : Heap) (L : List Loc) : Prop := v = some (.ref a) ∧ Fr n0 L ∧ h = h0
set_option maxRecDepth 65536 in
set_option maxHeartbeats 40000000 in
theorem rm_rnn (l : Launch) (Z : State) (a0 : Array Value) (hw : ∀ d ∈ tables_1, d.before a0 Z = true) (ws : List Jvm.Cond) (a : Addr) (nm : Addr) (h0 : Heap) (n0 : Nat) (Z0 : n0 ≤ h0.size)  :
    MetFree l (⟨"java/util/Objects", "requireNonNull", "(Ljava/lang/Object;Ljava/lang/String;)Ljava/lang/Object;"⟩ : MethodName) (head1 (Jvm.Cond.code (⟨"java/util/Objects", "requireNonNull", "(Ljava/lang/Object;Ljava/lang/String;)Ljava/lang/Object;"⟩ : MethodName) jdk_31_method_11_code 2 (some (.object "java/lang/Object")) :: ws) ({ frames := 0, cells := 0, slots := 0, locals := 0 } : Room)) (fun aa U => aa = #[(.ref a), (.ref nm)] ∧ Z.Warmed39 U.vm ∧ U.heap = h0) (fun _ _ _ _ _ => True) (fun _ U o U' => ∃ v L, o = .returned v ∧ Q_rnn Z a h0 n0 v U'.heap L ∧ FrameEnd U o U' L ({ frames := 0, cells := 0, slots := 0, locals := 0 } : Room).cells ({ frames := 0, cells := 0, slots := 0, locals := 0 } : Room).slots) := by
  refine MetFree.of_bodySF (plainFor_of_name pn_rnn) hisR ?_
  intro p e s m args below meth c s₁ Bd hml0 hP hK
  obtain ⟨rfl, hZ, hh⟩ := hP
  have hx := Bd.exec
  have hby := Bd.bytes
  have hml : c.maxLocals = 2 := hml0
  have hown : s.vm.findClass "java/util/Objects" = some m.cls := findClass_of_methodNamed Bd.named
  have hnm := (name_of_methodNamed Bd.named Bd.method).1
  have X0 : Stand p l e ({ frames := 0, cells := 0, slots := 0, locals := 0 } : Room) s m #[(.ref a), (.ref nm)] below meth c s₁ [] 0 0 := Stand.of_body Bd
  have e0 : s₁.heap = h0 := by rw [← hh, Bd.state]; rfl
  have N0 := Fr.nil n0
  have S0 : Go p e below s₁ (eF_rnn m a nm) s₁ (mkF m 0 #[vR a, vR nm] []) := fun t k => castTop (ef_rnn m a nm) k
  have S15 : Go p e below s₁ (eF_rnn m a nm) s₁ (mkF m 14 #[vR a, vR nm] [(.ref a)]) := fun t kt => S0 t (by
    refine XS.aloadN X0.here hx rfl (hb hby d14_0) rfl rfl ?_
    show Sp p e below s₁ (mkF m 1 #[vR a, vR nm] [(.ref a)]) _
    refine XS.ifnonnullYes X0.here hx rfl (pc0 := 1) (pc' := 13) rfl (hb hby d14_1) rfl (by decide) (by decide) ?_
    show Sp p e below s₁ (mkF m 13 #[vR a, vR nm] []) _
    refine XS.aloadN X0.here hx rfl (hb hby d14_13) rfl rfl ?_
    show Sp p e below s₁ (mkF m 14 #[vR a, vR nm] [(.ref a)]) _
    exact kt)
  clear S0
  obtain ⟨fs, hr, hrun, hended, hW, hsame⟩ := X0.leave (v := some (.ref a)) (fun h => by first | rfl | (rw [Bd.returns] at h; cases h))
  refine ⟨_, _, S15 _ ?_, hrun, hended, _, _, rfl, ?_, ⟨_, rfl⟩, hW, hsame.mono (by decide) (by decide)⟩
  · exact retOut X0 hx Bd.returns rfl (Or.inr (Or.inr (Or.inr (Or.inr ⟨rfl, rfl, rfl⟩)))) (hb hby d14_14) hr
  · show Q_rnn Z a h0 n0 _ s₁.heap _
    rw [e0]
    exact ⟨rfl, N0, rfl⟩
abbrev eF_alw (m : MethodId) (x0 : Int32) : JFrame := entryFrame m #[(.int x0)] 1
theorem ef_alw (m : MethodId) (x0 : Int32) : entryFrame m #[(.int x0)] 1 = mkF m 0 #[.val (.int x0)] [] := by first | (simp [entryFrame, mkF, argsToLocals, Value.category]; done) | rfl
theorem pn_alw : plainName "com/example/requeue/requeue/QueueName" = true := by first | (simp [plainName, overriddenIn]; done) | decide +kernel
def Q_alw (Z : State)  (h0 : Heap) (n0 : Nat) (v : Option Value) (h : Heap) (L : List Loc) : Prop := v = some (.int (1 : Int32)) ∧ Fr n0 L ∧ h = h0
set_option maxRecDepth 65536 in
set_option maxHeartbeats 40000000 in
theorem rm_alw (l : Launch) (Z : State) (a0 : Array Value) (hw : ∀ d ∈ tables_1, d.before a0 Z = true) (ws : List Jvm.Cond) (ch : Int32) (h0 : Heap) (n0 : Nat) (Z0 : n0 ≤ h0.size) (ho : own_ok ch) :
    MetFree l (⟨"com/example/requeue/requeue/QueueName", "isAllowed", "(C)Z"⟩ : MethodName) (head1 (Jvm.Cond.code (⟨"com/example/requeue/requeue/QueueName", "isAllowed", "(C)Z"⟩ : MethodName) prog_12_method_3_code 1 (some .boolean) :: ws) ({ frames := 0, cells := 0, slots := 0, locals := 0 } : Room)) (fun aa U => aa = #[(.int ch)] ∧ Z.Warmed39 U.vm ∧ U.heap = h0) (fun _ _ _ _ _ => True) (fun _ U o U' => ∃ v L, o = .returned v ∧ Q_alw Z  h0 n0 v U'.heap L ∧ FrameEnd U o U' L ({ frames := 0, cells := 0, slots := 0, locals := 0 } : Room).cells ({ frames := 0, cells := 0, slots := 0, locals := 0 } : Room).slots) := by
  refine MetFree.of_bodySF (plainFor_of_name pn_alw) hisR ?_
  intro p e s m args below meth c s₁ Bd hml0 hP hK
  obtain ⟨rfl, hZ, hh⟩ := hP
  have hx := Bd.exec
  have hby := Bd.bytes
  have hml : c.maxLocals = 1 := hml0
  have hown : s.vm.findClass "com/example/requeue/requeue/QueueName" = some m.cls := findClass_of_methodNamed Bd.named
  have hnm := (name_of_methodNamed Bd.named Bd.method).1
  have X0 : Stand p l e ({ frames := 0, cells := 0, slots := 0, locals := 0 } : Room) s m #[(.int ch)] below meth c s₁ [] 0 0 := Stand.of_body Bd
  have e0 : s₁.heap = h0 := by rw [← hh, Bd.state]; rfl
  have N0 := Fr.nil n0
  have S0 : Go p e below s₁ (eF_alw m ch) s₁ (mkF m 0 #[vI ch] []) := fun t k => castTop (ef_alw m ch) k
  rcases ho with ho | ho | ho | ho | ho | ho
  · have S16 : Go p e below s₁ (eF_alw m ch) s₁ (mkF m 3 #[vI ch] [(.int (97 : Int32)), (.int ch)]) := fun t kt => S0 t (by
      refine XS.iloadN X0.here hx rfl (hb hby d18_0) rfl ?_
      show Sp p e below s₁ (mkF m 1 #[vI ch] [(.int ch)]) _
      refine XS.bipush X0.here hx rfl (hb hby d18_1) ?_
      show Sp p e below s₁ (mkF m 3 #[vI ch] [(.int (97 : Int32)), (.int ch)]) _
      exact kt)
    clear S0
    have S17 : Go p e below s₁ (eF_alw m ch) s₁ (mkF m 9 #[vI ch] [(.int (122 : Int32)), (.int ch)]) := fun t kt => S16 t (by
      refine XS.icmpNo X0.here hx rfl (hb hby d18_3) rfl (flt (show ¬ (ch < (97 : Int32)) from (fun q => absurd ((own_lt (k := 97) 97 rfl).mp q) (by omega)))).1 ?_
      show Sp p e below s₁ (mkF m 6 #[vI ch] []) _
      refine XS.iloadN X0.here hx rfl (hb hby d18_6) rfl ?_
      show Sp p e below s₁ (mkF m 7 #[vI ch] [(.int ch)]) _
      refine XS.bipush X0.here hx rfl (hb hby d18_7) ?_
      show Sp p e below s₁ (mkF m 9 #[vI ch] [(.int (122 : Int32)), (.int ch)]) _
      exact kt)
    clear S16
    have S18 : Go p e below s₁ (eF_alw m ch) s₁ (mkF m 59 #[vI ch] [(.int (1 : Int32))]) := fun t kt => S17 t (by
      refine XS.icmpYes X0.here hx rfl (pc0 := 9) (pc' := 54) rfl (hb hby d18_9) rfl (flt (show ¬ ((122 : Int32) < ch) from (fun q => absurd ((own_gt (k := 122) 122 rfl).mp q) (by omega)))).2.2.2 (by decide) (by decide) ?_
      show Sp p e below s₁ (mkF m 54 #[vI ch] []) _
      refine XS.iconst X0.here hx rfl (hb hby d18_54) ?_
      show Sp p e below s₁ (mkF m 55 #[vI ch] [(.int (1 : Int32))]) _
      refine XS.goto X0.here hx rfl (pc0 := 55) (pc' := 59) rfl (hb hby d18_55) (by decide) (by decide) ?_
      show Sp p e below s₁ (mkF m 59 #[vI ch] [(.int (1 : Int32))]) _
      exact kt)
    clear S17
    obtain ⟨fs, hr, hrun, hended, hW, hsame⟩ := X0.leave (v := some (.int (1 : Int32))) (fun h => by first | rfl | (rw [Bd.returns] at h; cases h))
    refine ⟨_, _, S18 _ ?_, hrun, hended, _, _, rfl, ?_, ⟨_, rfl⟩, hW, hsame.mono (by decide) (by decide)⟩
    · exact retN X0 hx (t := .boolean) Bd.returns (by simp) (hb hby d18_59) hr
    · show Q_alw Z  h0 n0 _ s₁.heap _
      rw [e0]
      exact ⟨rfl, N0, rfl⟩
  · have S19 : Go p e below s₁ (eF_alw m ch) s₁ (mkF m 3 #[vI ch] [(.int (97 : Int32)), (.int ch)]) := fun t kt => S0 t (by
      refine XS.iloadN X0.here hx rfl (hb hby d18_0) rfl ?_
      show Sp p e below s₁ (mkF m 1 #[vI ch] [(.int ch)]) _
      refine XS.bipush X0.here hx rfl (hb hby d18_1) ?_
      show Sp p e below s₁ (mkF m 3 #[vI ch] [(.int (97 : Int32)), (.int ch)]) _
      exact kt)
    clear S0
    have S20 : Go p e below s₁ (eF_alw m ch) s₁ (mkF m 15 #[vI ch] [(.int (65 : Int32)), (.int ch)]) := fun t kt => S19 t (by
      refine XS.icmpYes X0.here hx rfl (pc0 := 3) (pc' := 12) rfl (hb hby d18_3) rfl (tlt (show ch < (97 : Int32) from ((own_lt (k := 97) 97 rfl).mpr (by omega)))).1 (by decide) (by decide) ?_
      show Sp p e below s₁ (mkF m 12 #[vI ch] []) _
      refine XS.iloadN X0.here hx rfl (hb hby d18_12) rfl ?_
      show Sp p e below s₁ (mkF m 13 #[vI ch] [(.int ch)]) _
      refine XS.bipush X0.here hx rfl (hb hby d18_13) ?_
      show Sp p e below s₁ (mkF m 15 #[vI ch] [(.int (65 : Int32)), (.int ch)]) _
      exact kt)
    clear S19
    have S21 : Go p e below s₁ (eF_alw m ch) s₁ (mkF m 21 #[vI ch] [(.int (90 : Int32)), (.int ch)]) := fun t kt => S20 t (by
      refine XS.icmpNo X0.here hx rfl (hb hby d18_15) rfl (flt (show ¬ (ch < (65 : Int32)) from (fun q => absurd ((own_lt (k := 65) 65 rfl).mp q) (by omega)))).1 ?_
      show Sp p e below s₁ (mkF m 18 #[vI ch] []) _
      refine XS.iloadN X0.here hx rfl (hb hby d18_18) rfl ?_
      show Sp p e below s₁ (mkF m 19 #[vI ch] [(.int ch)]) _
      refine XS.bipush X0.here hx rfl (hb hby d18_19) ?_
      show Sp p e below s₁ (mkF m 21 #[vI ch] [(.int (90 : Int32)), (.int ch)]) _
      exact kt)
    clear S20
    have S22 : Go p e below s₁ (eF_alw m ch) s₁ (mkF m 59 #[vI ch] [(.int (1 : Int32))]) := fun t kt => S21 t (by
      refine XS.icmpYes X0.here hx rfl (pc0 := 21) (pc' := 54) rfl (hb hby d18_21) rfl (flt (show ¬ ((90 : Int32) < ch) from (fun q => absurd ((own_gt (k := 90) 90 rfl).mp q) (by omega)))).2.2.2 (by decide) (by decide) ?_
      show Sp p e below s₁ (mkF m 54 #[vI ch] []) _
      refine XS.iconst X0.here hx rfl (hb hby d18_54) ?_
      show Sp p e below s₁ (mkF m 55 #[vI ch] [(.int (1 : Int32))]) _
      refine XS.goto X0.here hx rfl (pc0 := 55) (pc' := 59) rfl (hb hby d18_55) (by decide) (by decide) ?_
      show Sp p e below s₁ (mkF m 59 #[vI ch] [(.int (1 : Int32))]) _
      exact kt)
    clear S21
    obtain ⟨fs, hr, hrun, hended, hW, hsame⟩ := X0.leave (v := some (.int (1 : Int32))) (fun h => by first | rfl | (rw [Bd.returns] at h; cases h))
    refine ⟨_, _, S22 _ ?_, hrun, hended, _, _, rfl, ?_, ⟨_, rfl⟩, hW, hsame.mono (by decide) (by decide)⟩
    · exact retN X0 hx (t := .boolean) Bd.returns (by simp) (hb hby d18_59) hr
    · show Q_alw Z  h0 n0 _ s₁.heap _
      rw [e0]
      exact ⟨rfl, N0, rfl⟩
  · have S23 : Go p e below s₁ (eF_alw m ch) s₁ (mkF m 3 #[vI ch] [(.int (97 : Int32)), (.int ch)]) := fun t kt => S0 t (by
      refine XS.iloadN X0.here hx rfl (hb hby d18_0) rfl ?_
      show Sp p e below s₁ (mkF m 1 #[vI ch] [(.int ch)]) _
      refine XS.bipush X0.here hx rfl (hb hby d18_1) ?_
      show Sp p e below s₁ (mkF m 3 #[vI ch] [(.int (97 : Int32)), (.int ch)]) _
      exact kt)
    clear S0
    have S24 : Go p e below s₁ (eF_alw m ch) s₁ (mkF m 15 #[vI ch] [(.int (65 : Int32)), (.int ch)]) := fun t kt => S23 t (by
      refine XS.icmpYes X0.here hx rfl (pc0 := 3) (pc' := 12) rfl (hb hby d18_3) rfl (tlt (show ch < (97 : Int32) from ((own_lt (k := 97) 97 rfl).mpr (by omega)))).1 (by decide) (by decide) ?_
      show Sp p e below s₁ (mkF m 12 #[vI ch] []) _
      refine XS.iloadN X0.here hx rfl (hb hby d18_12) rfl ?_
      show Sp p e below s₁ (mkF m 13 #[vI ch] [(.int ch)]) _
      refine XS.bipush X0.here hx rfl (hb hby d18_13) ?_
      show Sp p e below s₁ (mkF m 15 #[vI ch] [(.int (65 : Int32)), (.int ch)]) _
      exact kt)
    clear S23
    have S25 : Go p e below s₁ (eF_alw m ch) s₁ (mkF m 27 #[vI ch] [(.int (48 : Int32)), (.int ch)]) := fun t kt => S24 t (by
      refine XS.icmpYes X0.here hx rfl (pc0 := 15) (pc' := 24) rfl (hb hby d18_15) rfl (tlt (show ch < (65 : Int32) from ((own_lt (k := 65) 65 rfl).mpr (by omega)))).1 (by decide) (by decide) ?_
      show Sp p e below s₁ (mkF m 24 #[vI ch] []) _
      refine XS.iloadN X0.here hx rfl (hb hby d18_24) rfl ?_
      show Sp p e below s₁ (mkF m 25 #[vI ch] [(.int ch)]) _
      refine XS.bipush X0.here hx rfl (hb hby d18_25) ?_
      show Sp p e below s₁ (mkF m 27 #[vI ch] [(.int (48 : Int32)), (.int ch)]) _
      exact kt)
    clear S24
    have S26 : Go p e below s₁ (eF_alw m ch) s₁ (mkF m 33 #[vI ch] [(.int (57 : Int32)), (.int ch)]) := fun t kt => S25 t (by
      refine XS.icmpNo X0.here hx rfl (hb hby d18_27) rfl (flt (show ¬ (ch < (48 : Int32)) from (fun q => absurd ((own_lt (k := 48) 48 rfl).mp q) (by omega)))).1 ?_
      show Sp p e below s₁ (mkF m 30 #[vI ch] []) _
      refine XS.iloadN X0.here hx rfl (hb hby d18_30) rfl ?_
      show Sp p e below s₁ (mkF m 31 #[vI ch] [(.int ch)]) _
      refine XS.bipush X0.here hx rfl (hb hby d18_31) ?_
      show Sp p e below s₁ (mkF m 33 #[vI ch] [(.int (57 : Int32)), (.int ch)]) _
      exact kt)
    clear S25
    have S27 : Go p e below s₁ (eF_alw m ch) s₁ (mkF m 59 #[vI ch] [(.int (1 : Int32))]) := fun t kt => S26 t (by
      refine XS.icmpYes X0.here hx rfl (pc0 := 33) (pc' := 54) rfl (hb hby d18_33) rfl (flt (show ¬ ((57 : Int32) < ch) from (fun q => absurd ((own_gt (k := 57) 57 rfl).mp q) (by omega)))).2.2.2 (by decide) (by decide) ?_
      show Sp p e below s₁ (mkF m 54 #[vI ch] []) _
      refine XS.iconst X0.here hx rfl (hb hby d18_54) ?_
      show Sp p e below s₁ (mkF m 55 #[vI ch] [(.int (1 : Int32))]) _
      refine XS.goto X0.here hx rfl (pc0 := 55) (pc' := 59) rfl (hb hby d18_55) (by decide) (by decide) ?_
      show Sp p e below s₁ (mkF m 59 #[vI ch] [(.int (1 : Int32))]) _
      exact kt)
    clear S26
    obtain ⟨fs, hr, hrun, hended, hW, hsame⟩ := X0.leave (v := some (.int (1 : Int32))) (fun h => by first | rfl | (rw [Bd.returns] at h; cases h))
    refine ⟨_, _, S27 _ ?_, hrun, hended, _, _, rfl, ?_, ⟨_, rfl⟩, hW, hsame.mono (by decide) (by decide)⟩
    · exact retN X0 hx (t := .boolean) Bd.returns (by simp) (hb hby d18_59) hr
    · show Q_alw Z  h0 n0 _ s₁.heap _
      rw [e0]
      exact ⟨rfl, N0, rfl⟩
  · have S28 : Go p e below s₁ (eF_alw m ch) s₁ (mkF m 3 #[vI ch] [(.int (97 : Int32)), (.int ch)]) := fun t kt => S0 t (by
      refine XS.iloadN X0.here hx rfl (hb hby d18_0) rfl ?_
      show Sp p e below s₁ (mkF m 1 #[vI ch] [(.int ch)]) _
      refine XS.bipush X0.here hx rfl (hb hby d18_1) ?_
      show Sp p e below s₁ (mkF m 3 #[vI ch] [(.int (97 : Int32)), (.int ch)]) _
      exact kt)
    clear S0
    have S29 : Go p e below s₁ (eF_alw m ch) s₁ (mkF m 15 #[vI ch] [(.int (65 : Int32)), (.int ch)]) := fun t kt => S28 t (by
      refine XS.icmpYes X0.here hx rfl (pc0 := 3) (pc' := 12) rfl (hb hby d18_3) rfl (tlt (show ch < (97 : Int32) from ((own_lt (k := 97) 97 rfl).mpr (by omega)))).1 (by decide) (by decide) ?_
      show Sp p e below s₁ (mkF m 12 #[vI ch] []) _
      refine XS.iloadN X0.here hx rfl (hb hby d18_12) rfl ?_
      show Sp p e below s₁ (mkF m 13 #[vI ch] [(.int ch)]) _
      refine XS.bipush X0.here hx rfl (hb hby d18_13) ?_
      show Sp p e below s₁ (mkF m 15 #[vI ch] [(.int (65 : Int32)), (.int ch)]) _
      exact kt)
    clear S28
    have S30 : Go p e below s₁ (eF_alw m ch) s₁ (mkF m 27 #[vI ch] [(.int (48 : Int32)), (.int ch)]) := fun t kt => S29 t (by
      refine XS.icmpYes X0.here hx rfl (pc0 := 15) (pc' := 24) rfl (hb hby d18_15) rfl (tlt (show ch < (65 : Int32) from ((own_lt (k := 65) 65 rfl).mpr (by omega)))).1 (by decide) (by decide) ?_
      show Sp p e below s₁ (mkF m 24 #[vI ch] []) _
      refine XS.iloadN X0.here hx rfl (hb hby d18_24) rfl ?_
      show Sp p e below s₁ (mkF m 25 #[vI ch] [(.int ch)]) _
      refine XS.bipush X0.here hx rfl (hb hby d18_25) ?_
      show Sp p e below s₁ (mkF m 27 #[vI ch] [(.int (48 : Int32)), (.int ch)]) _
      exact kt)
    clear S29
    have S31 : Go p e below s₁ (eF_alw m ch) s₁ (mkF m 39 #[vI ch] [(.int (46 : Int32)), (.int ch)]) := fun t kt => S30 t (by
      refine XS.icmpYes X0.here hx rfl (pc0 := 27) (pc' := 36) rfl (hb hby d18_27) rfl (tlt (show ch < (48 : Int32) from ((own_lt (k := 48) 48 rfl).mpr (by omega)))).1 (by decide) (by decide) ?_
      show Sp p e below s₁ (mkF m 36 #[vI ch] []) _
      refine XS.iloadN X0.here hx rfl (hb hby d18_36) rfl ?_
      show Sp p e below s₁ (mkF m 37 #[vI ch] [(.int ch)]) _
      refine XS.bipush X0.here hx rfl (hb hby d18_37) ?_
      show Sp p e below s₁ (mkF m 39 #[vI ch] [(.int (46 : Int32)), (.int ch)]) _
      exact kt)
    clear S30
    have S32 : Go p e below s₁ (eF_alw m ch) s₁ (mkF m 59 #[vI ch] [(.int (1 : Int32))]) := fun t kt => S31 t (by
      refine XS.icmpYes X0.here hx rfl (pc0 := 39) (pc' := 54) rfl (hb hby d18_39) rfl (teq (show ch = (46 : Int32) from ((own_eq (k := 46) 46 rfl).mpr (by omega)))).1 (by decide) (by decide) ?_
      show Sp p e below s₁ (mkF m 54 #[vI ch] []) _
      refine XS.iconst X0.here hx rfl (hb hby d18_54) ?_
      show Sp p e below s₁ (mkF m 55 #[vI ch] [(.int (1 : Int32))]) _
      refine XS.goto X0.here hx rfl (pc0 := 55) (pc' := 59) rfl (hb hby d18_55) (by decide) (by decide) ?_
      show Sp p e below s₁ (mkF m 59 #[vI ch] [(.int (1 : Int32))]) _
      exact kt)
    clear S31
    obtain ⟨fs, hr, hrun, hended, hW, hsame⟩ := X0.leave (v := some (.int (1 : Int32))) (fun h => by first | rfl | (rw [Bd.returns] at h; cases h))
    refine ⟨_, _, S32 _ ?_, hrun, hended, _, _, rfl, ?_, ⟨_, rfl⟩, hW, hsame.mono (by decide) (by decide)⟩
    · exact retN X0 hx (t := .boolean) Bd.returns (by simp) (hb hby d18_59) hr
    · show Q_alw Z  h0 n0 _ s₁.heap _
      rw [e0]
      exact ⟨rfl, N0, rfl⟩
  · have S33 : Go p e below s₁ (eF_alw m ch) s₁ (mkF m 3 #[vI ch] [(.int (97 : Int32)), (.int ch)]) := fun t kt => S0 t (by
      refine XS.iloadN X0.here hx rfl (hb hby d18_0) rfl ?_
      show Sp p e below s₁ (mkF m 1 #[vI ch] [(.int ch)]) _
      refine XS.bipush X0.here hx rfl (hb hby d18_1) ?_
      show Sp p e below s₁ (mkF m 3 #[vI ch] [(.int (97 : Int32)), (.int ch)]) _
      exact kt)
    clear S0
    have S34 : Go p e below s₁ (eF_alw m ch) s₁ (mkF m 15 #[vI ch] [(.int (65 : Int32)), (.int ch)]) := fun t kt => S33 t (by
      refine XS.icmpYes X0.here hx rfl (pc0 := 3) (pc' := 12) rfl (hb hby d18_3) rfl (tlt (show ch < (97 : Int32) from ((own_lt (k := 97) 97 rfl).mpr (by omega)))).1 (by decide) (by decide) ?_
      show Sp p e below s₁ (mkF m 12 #[vI ch] []) _
      refine XS.iloadN X0.here hx rfl (hb hby d18_12) rfl ?_
      show Sp p e below s₁ (mkF m 13 #[vI ch] [(.int ch)]) _
      refine XS.bipush X0.here hx rfl (hb hby d18_13) ?_
      show Sp p e below s₁ (mkF m 15 #[vI ch] [(.int (65 : Int32)), (.int ch)]) _
      exact kt)
    clear S33
    have S35 : Go p e below s₁ (eF_alw m ch) s₁ (mkF m 21 #[vI ch] [(.int (90 : Int32)), (.int ch)]) := fun t kt => S34 t (by
      refine XS.icmpNo X0.here hx rfl (hb hby d18_15) rfl (flt (show ¬ (ch < (65 : Int32)) from (fun q => absurd ((own_lt (k := 65) 65 rfl).mp q) (by omega)))).1 ?_
      show Sp p e below s₁ (mkF m 18 #[vI ch] []) _
      refine XS.iloadN X0.here hx rfl (hb hby d18_18) rfl ?_
      show Sp p e below s₁ (mkF m 19 #[vI ch] [(.int ch)]) _
      refine XS.bipush X0.here hx rfl (hb hby d18_19) ?_
      show Sp p e below s₁ (mkF m 21 #[vI ch] [(.int (90 : Int32)), (.int ch)]) _
      exact kt)
    clear S34
    have S36 : Go p e below s₁ (eF_alw m ch) s₁ (mkF m 27 #[vI ch] [(.int (48 : Int32)), (.int ch)]) := fun t kt => S35 t (by
      refine XS.icmpNo X0.here hx rfl (hb hby d18_21) rfl (tlt (show (90 : Int32) < ch from ((own_gt (k := 90) 90 rfl).mpr (by omega)))).2.2.2 ?_
      show Sp p e below s₁ (mkF m 24 #[vI ch] []) _
      refine XS.iloadN X0.here hx rfl (hb hby d18_24) rfl ?_
      show Sp p e below s₁ (mkF m 25 #[vI ch] [(.int ch)]) _
      refine XS.bipush X0.here hx rfl (hb hby d18_25) ?_
      show Sp p e below s₁ (mkF m 27 #[vI ch] [(.int (48 : Int32)), (.int ch)]) _
      exact kt)
    clear S35
    have S37 : Go p e below s₁ (eF_alw m ch) s₁ (mkF m 33 #[vI ch] [(.int (57 : Int32)), (.int ch)]) := fun t kt => S36 t (by
      refine XS.icmpNo X0.here hx rfl (hb hby d18_27) rfl (flt (show ¬ (ch < (48 : Int32)) from (fun q => absurd ((own_lt (k := 48) 48 rfl).mp q) (by omega)))).1 ?_
      show Sp p e below s₁ (mkF m 30 #[vI ch] []) _
      refine XS.iloadN X0.here hx rfl (hb hby d18_30) rfl ?_
      show Sp p e below s₁ (mkF m 31 #[vI ch] [(.int ch)]) _
      refine XS.bipush X0.here hx rfl (hb hby d18_31) ?_
      show Sp p e below s₁ (mkF m 33 #[vI ch] [(.int (57 : Int32)), (.int ch)]) _
      exact kt)
    clear S36
    have S38 : Go p e below s₁ (eF_alw m ch) s₁ (mkF m 39 #[vI ch] [(.int (46 : Int32)), (.int ch)]) := fun t kt => S37 t (by
      refine XS.icmpNo X0.here hx rfl (hb hby d18_33) rfl (tlt (show (57 : Int32) < ch from ((own_gt (k := 57) 57 rfl).mpr (by omega)))).2.2.2 ?_
      show Sp p e below s₁ (mkF m 36 #[vI ch] []) _
      refine XS.iloadN X0.here hx rfl (hb hby d18_36) rfl ?_
      show Sp p e below s₁ (mkF m 37 #[vI ch] [(.int ch)]) _
      refine XS.bipush X0.here hx rfl (hb hby d18_37) ?_
      show Sp p e below s₁ (mkF m 39 #[vI ch] [(.int (46 : Int32)), (.int ch)]) _
      exact kt)
    clear S37
    have S39 : Go p e below s₁ (eF_alw m ch) s₁ (mkF m 45 #[vI ch] [(.int (95 : Int32)), (.int ch)]) := fun t kt => S38 t (by
      refine XS.icmpNo X0.here hx rfl (hb hby d18_39) rfl (feq (show ¬ (ch = (46 : Int32)) from (fun q => absurd ((own_eq (k := 46) 46 rfl).mp q) (by omega)))).1 ?_
      show Sp p e below s₁ (mkF m 42 #[vI ch] []) _
      refine XS.iloadN X0.here hx rfl (hb hby d18_42) rfl ?_
      show Sp p e below s₁ (mkF m 43 #[vI ch] [(.int ch)]) _
      refine XS.bipush X0.here hx rfl (hb hby d18_43) ?_
      show Sp p e below s₁ (mkF m 45 #[vI ch] [(.int (95 : Int32)), (.int ch)]) _
      exact kt)
    clear S38
    have S40 : Go p e below s₁ (eF_alw m ch) s₁ (mkF m 59 #[vI ch] [(.int (1 : Int32))]) := fun t kt => S39 t (by
      refine XS.icmpYes X0.here hx rfl (pc0 := 45) (pc' := 54) rfl (hb hby d18_45) rfl (teq (show ch = (95 : Int32) from ((own_eq (k := 95) 95 rfl).mpr (by omega)))).1 (by decide) (by decide) ?_
      show Sp p e below s₁ (mkF m 54 #[vI ch] []) _
      refine XS.iconst X0.here hx rfl (hb hby d18_54) ?_
      show Sp p e below s₁ (mkF m 55 #[vI ch] [(.int (1 : Int32))]) _
      refine XS.goto X0.here hx rfl (pc0 := 55) (pc' := 59) rfl (hb hby d18_55) (by decide) (by decide) ?_
      show Sp p e below s₁ (mkF m 59 #[vI ch] [(.int (1 : Int32))]) _
      exact kt)
    clear S39
    obtain ⟨fs, hr, hrun, hended, hW, hsame⟩ := X0.leave (v := some (.int (1 : Int32))) (fun h => by first | rfl | (rw [Bd.returns] at h; cases h))
    refine ⟨_, _, S40 _ ?_, hrun, hended, _, _, rfl, ?_, ⟨_, rfl⟩, hW, hsame.mono (by decide) (by decide)⟩
    · exact retN X0 hx (t := .boolean) Bd.returns (by simp) (hb hby d18_59) hr
    · show Q_alw Z  h0 n0 _ s₁.heap _
      rw [e0]
      exact ⟨rfl, N0, rfl⟩
  · have S41 : Go p e below s₁ (eF_alw m ch) s₁ (mkF m 3 #[vI ch] [(.int (97 : Int32)), (.int ch)]) := fun t kt => S0 t (by
      refine XS.iloadN X0.here hx rfl (hb hby d18_0) rfl ?_
      show Sp p e below s₁ (mkF m 1 #[vI ch] [(.int ch)]) _
      refine XS.bipush X0.here hx rfl (hb hby d18_1) ?_
      show Sp p e below s₁ (mkF m 3 #[vI ch] [(.int (97 : Int32)), (.int ch)]) _
      exact kt)
    clear S0
    have S42 : Go p e below s₁ (eF_alw m ch) s₁ (mkF m 15 #[vI ch] [(.int (65 : Int32)), (.int ch)]) := fun t kt => S41 t (by
      refine XS.icmpYes X0.here hx rfl (pc0 := 3) (pc' := 12) rfl (hb hby d18_3) rfl (tlt (show ch < (97 : Int32) from ((own_lt (k := 97) 97 rfl).mpr (by omega)))).1 (by decide) (by decide) ?_
      show Sp p e below s₁ (mkF m 12 #[vI ch] []) _
      refine XS.iloadN X0.here hx rfl (hb hby d18_12) rfl ?_
      show Sp p e below s₁ (mkF m 13 #[vI ch] [(.int ch)]) _
      refine XS.bipush X0.here hx rfl (hb hby d18_13) ?_
      show Sp p e below s₁ (mkF m 15 #[vI ch] [(.int (65 : Int32)), (.int ch)]) _
      exact kt)
    clear S41
    have S43 : Go p e below s₁ (eF_alw m ch) s₁ (mkF m 27 #[vI ch] [(.int (48 : Int32)), (.int ch)]) := fun t kt => S42 t (by
      refine XS.icmpYes X0.here hx rfl (pc0 := 15) (pc' := 24) rfl (hb hby d18_15) rfl (tlt (show ch < (65 : Int32) from ((own_lt (k := 65) 65 rfl).mpr (by omega)))).1 (by decide) (by decide) ?_
      show Sp p e below s₁ (mkF m 24 #[vI ch] []) _
      refine XS.iloadN X0.here hx rfl (hb hby d18_24) rfl ?_
      show Sp p e below s₁ (mkF m 25 #[vI ch] [(.int ch)]) _
      refine XS.bipush X0.here hx rfl (hb hby d18_25) ?_
      show Sp p e below s₁ (mkF m 27 #[vI ch] [(.int (48 : Int32)), (.int ch)]) _
      exact kt)
    clear S42
    have S44 : Go p e below s₁ (eF_alw m ch) s₁ (mkF m 39 #[vI ch] [(.int (46 : Int32)), (.int ch)]) := fun t kt => S43 t (by
      refine XS.icmpYes X0.here hx rfl (pc0 := 27) (pc' := 36) rfl (hb hby d18_27) rfl (tlt (show ch < (48 : Int32) from ((own_lt (k := 48) 48 rfl).mpr (by omega)))).1 (by decide) (by decide) ?_
      show Sp p e below s₁ (mkF m 36 #[vI ch] []) _
      refine XS.iloadN X0.here hx rfl (hb hby d18_36) rfl ?_
      show Sp p e below s₁ (mkF m 37 #[vI ch] [(.int ch)]) _
      refine XS.bipush X0.here hx rfl (hb hby d18_37) ?_
      show Sp p e below s₁ (mkF m 39 #[vI ch] [(.int (46 : Int32)), (.int ch)]) _
      exact kt)
    clear S43
    have S45 : Go p e below s₁ (eF_alw m ch) s₁ (mkF m 45 #[vI ch] [(.int (95 : Int32)), (.int ch)]) := fun t kt => S44 t (by
      refine XS.icmpNo X0.here hx rfl (hb hby d18_39) rfl (feq (show ¬ (ch = (46 : Int32)) from (fun q => absurd ((own_eq (k := 46) 46 rfl).mp q) (by omega)))).1 ?_
      show Sp p e below s₁ (mkF m 42 #[vI ch] []) _
      refine XS.iloadN X0.here hx rfl (hb hby d18_42) rfl ?_
      show Sp p e below s₁ (mkF m 43 #[vI ch] [(.int ch)]) _
      refine XS.bipush X0.here hx rfl (hb hby d18_43) ?_
      show Sp p e below s₁ (mkF m 45 #[vI ch] [(.int (95 : Int32)), (.int ch)]) _
      exact kt)
    clear S44
    have S46 : Go p e below s₁ (eF_alw m ch) s₁ (mkF m 51 #[vI ch] [(.int (45 : Int32)), (.int ch)]) := fun t kt => S45 t (by
      refine XS.icmpNo X0.here hx rfl (hb hby d18_45) rfl (feq (show ¬ (ch = (95 : Int32)) from (fun q => absurd ((own_eq (k := 95) 95 rfl).mp q) (by omega)))).1 ?_
      show Sp p e below s₁ (mkF m 48 #[vI ch] []) _
      refine XS.iloadN X0.here hx rfl (hb hby d18_48) rfl ?_
      show Sp p e below s₁ (mkF m 49 #[vI ch] [(.int ch)]) _
      refine XS.bipush X0.here hx rfl (hb hby d18_49) ?_
      show Sp p e below s₁ (mkF m 51 #[vI ch] [(.int (45 : Int32)), (.int ch)]) _
      exact kt)
    clear S45
    have S47 : Go p e below s₁ (eF_alw m ch) s₁ (mkF m 59 #[vI ch] [(.int (1 : Int32))]) := fun t kt => S46 t (by
      refine XS.icmpNo X0.here hx rfl (hb hby d18_51) rfl (teq (show ch = (45 : Int32) from ((own_eq (k := 45) 45 rfl).mpr (by omega)))).2 ?_
      show Sp p e below s₁ (mkF m 54 #[vI ch] []) _
      refine XS.iconst X0.here hx rfl (hb hby d18_54) ?_
      show Sp p e below s₁ (mkF m 55 #[vI ch] [(.int (1 : Int32))]) _
      refine XS.goto X0.here hx rfl (pc0 := 55) (pc' := 59) rfl (hb hby d18_55) (by decide) (by decide) ?_
      show Sp p e below s₁ (mkF m 59 #[vI ch] [(.int (1 : Int32))]) _
      exact kt)
    clear S46
    obtain ⟨fs, hr, hrun, hended, hW, hsame⟩ := X0.leave (v := some (.int (1 : Int32))) (fun h => by first | rfl | (rw [Bd.returns] at h; cases h))
    refine ⟨_, _, S47 _ ?_, hrun, hended, _, _, rfl, ?_, ⟨_, rfl⟩, hW, hsame.mono (by decide) (by decide)⟩
    · exact retN X0 hx (t := .boolean) Bd.returns (by simp) (hb hby d18_59) hr
    · show Q_alw Z  h0 n0 _ s₁.heap _
      rw [e0]
      exact ⟨rfl, N0, rfl⟩
abbrev eF_qin (m : MethodId) (x0 : Addr) (x1 : Addr) : JFrame := entryFrame m #[(.ref x0), (.ref x1)] 2
theorem ef_qin (m : MethodId) (x0 : Addr) (x1 : Addr) : entryFrame m #[(.ref x0), (.ref x1)] 2 = mkF m 0 #[.val (.ref x0), .val (.ref x1)] [] := by first | (simp [entryFrame, mkF, argsToLocals, Value.category]; done) | rfl
theorem pn_qin : plainName "com/example/requeue/requeue/QueueName" = true := by first | (simp [plainName, overriddenIn]; done) | decide +kernel
def Q_qin (Z : State) (x : Addr) (a : Addr) (h0 : Heap) (n0 : Nat) (v : Option Value) (h : Heap) (L : List Loc) : Prop := v = none ∧ Fr n0 L ∧ Keep h0 h [x] ∧ Exa Z h x "com/example/requeue/requeue/QueueName" ∧ Fld Z h x "com/example/requeue/requeue/QueueName" "name" "Ljava/lang/String;" (.ref a)
set_option maxRecDepth 65536 in
set_option maxHeartbeats 40000000 in
theorem rm_qin (l : Launch) (Z : State) (a0 : Array Value) (hw : ∀ d ∈ tables_1, d.before a0 Z = true) (ws : List Jvm.Cond) (x : Addr) (a : Addr) (h0 : Heap) (n0 : Nat) (Z0 : n0 ≤ h0.size) (E0 : Exa Z h0 x "com/example/requeue/requeue/QueueName") (F0 : Fld Z h0 x "com/example/requeue/requeue/QueueName" "name" "Ljava/lang/String;" .null) (g_x : n0 ≤ x) :
    MetFree l (⟨"com/example/requeue/requeue/QueueName", "<init>", "(Ljava/lang/String;)V"⟩ : MethodName) (head1 (Jvm.Cond.code (⟨"com/example/requeue/requeue/QueueName", "<init>", "(Ljava/lang/String;)V"⟩ : MethodName) prog_12_method_1_code 2 none :: ws) ({ frames := 1, cells := 0, slots := 0, locals := 12 } : Room)) (fun aa U => aa = #[(.ref x), (.ref a)] ∧ Z.Warmed39 U.vm ∧ U.heap = h0) (fun _ _ _ _ _ => True) (fun _ U o U' => ∃ v L, o = .returned v ∧ Q_qin Z x a h0 n0 v U'.heap L ∧ FrameEnd U o U' L ({ frames := 1, cells := 0, slots := 0, locals := 12 } : Room).cells ({ frames := 1, cells := 0, slots := 0, locals := 12 } : Room).slots) := by
  refine MetFree.of_bodySF (plainFor_of_name pn_qin) hisR ?_
  intro p e s m args below meth c s₁ Bd hml0 hP hK
  obtain ⟨rfl, hZ, hh⟩ := hP
  have hx := Bd.exec
  have hby := Bd.bytes
  have hml : c.maxLocals = 2 := hml0
  have hown : s.vm.findClass "com/example/requeue/requeue/QueueName" = some m.cls := findClass_of_methodNamed Bd.named
  have hnm := (name_of_methodNamed Bd.named Bd.method).1
  have X0 : Stand p l e ({ frames := 1, cells := 0, slots := 0, locals := 12 } : Room) s m #[(.ref x), (.ref a)] below meth c s₁ [] 0 0 := Stand.of_body Bd
  have e0 : s₁.heap = h0 := by rw [← hh, Bd.state]; rfl
  have N0 := Fr.nil n0
  have S0 : Go p e below s₁ (eF_qin m x a) s₁ (mkF m 0 #[vR x, vR a] []) := fun t k => castTop (ef_qin m x a) k
  have S48 : Go p e below s₁ (eF_qin m x a) s₁ (mkF m 1 #[vR x, vR a] [(.ref x)]) := fun t kt => S0 t (by
    refine XS.aloadN X0.here hx rfl (hb hby d19_0) rfl rfl ?_
    show Sp p e below s₁ (mkF m 1 #[vR x, vR a] [(.ref x)]) _
    exact kt)
  clear S0
  obtain ⟨T49, X49, e49, st49⟩ := initO X0 hx hZ hown (own_h hw 93 rfl) (own_h hw 48 rfl) (own_h hw 49 rfl) e0 (g := (mkF m 1 #[vR x, vR a] [(.ref x)])) rfl (by rw [hml]; rfl) rfl (hb hby d19_1) (by decide) (W := 0) (by show 2 * 0 + _ ≤ _; exact Nat.le_of_eq rfl) (by decide)
  have S50 : Go p e below s₁ (eF_qin m x a) T49 (mkF m 4 #[vR x, vR a] []) := fun t kt => S48 t (st49 t kt)
  clear S48 st49 X0 e0
  have S51 : Go p e below s₁ (eF_qin m x a) T49 (mkF m 6 #[vR x, vR a] [(.ref a), (.ref x)]) := fun t kt => S50 t (by
    refine XS.aloadN X49.here hx rfl (hb hby d19_4) rfl rfl ?_
    show Sp p e below T49 (mkF m 5 #[vR x, vR a] [(.ref x)]) _
    refine XS.aloadN X49.here hx rfl (hb hby d19_5) rfl rfl ?_
    show Sp p e below T49 (mkF m 6 #[vR x, vR a] [(.ref a), (.ref x)]) _
    exact kt)
  clear S50
  obtain ⟨T52, h52, X52, e52, W52, st52⟩ := putF X49 hx hZ hown (host := "") (Or.inl (own_h hw 94 rfl)) Via.refl e49 F0 E0 (Or.inr ⟨(own_h hw 95 rfl), rfl, hnm⟩) (own_h hw 89 rfl) (ty := (.object "java/lang/String")) (by decide) rfl rfl (g := (mkF m 6 #[vR x, vR a] [(.ref a), (.ref x)])) rfl rfl (hb hby d19_6)
  have N52 := Fr.snoc X52 N0 g_x
  obtain ⟨Lo52, X52o, N52o⟩ := own_hl X52 N52
  have K52 : Keep h0 h52 [x] := (Keep.refl h0 [x]).wr W52 (Or.inl (by simp))
  have Fw52 := F0.same W52
  have S53 : Go p e below s₁ (eF_qin m x a) T52 (mkF m 9 #[vR x, vR a] []) := fun t kt => S51 t (st52 t kt)
  clear S51 st52 X49 e49 X52 N52
  have f54 := (E0.wr W52)
  obtain ⟨fs, hr, hrun, hended, hW, hsame⟩ := X52o.leave (v := none) (fun h => by first | rfl | (rw [Bd.returns] at h; cases h))
  refine ⟨_, _, S53 _ ?_, hrun, hended, _, _, rfl, ?_, ⟨_, rfl⟩, hW, hsame.mono (by decide) (by decide)⟩
  · exact X52o.returnOut hx Bd.returns (hb hby d19_9) hr
  · show Q_qin Z x a h0 n0 _ T52.heap _
    rw [e52]
    exact ⟨rfl, N52o, K52, f54, Fw52⟩
abbrev eF_qts (m : MethodId) (x0 : Addr) : JFrame := entryFrame m #[(.ref x0)] 1
theorem ef_qts (m : MethodId) (x0 : Addr) : entryFrame m #[(.ref x0)] 1 = mkF m 0 #[.val (.ref x0)] [] := by first | (simp [entryFrame, mkF, argsToLocals, Value.category]; done) | rfl
theorem pn_qts : plainName "com/example/requeue/requeue/QueueName" = true := by first | (simp [plainName, overriddenIn]; done) | decide +kernel
def Q_qts (Z : State) (a : Addr) (h0 : Heap) (n0 : Nat) (v : Option Value) (h : Heap) (L : List Loc) : Prop := v = some (.ref a) ∧ Fr n0 L ∧ h = h0
set_option maxRecDepth 65536 in
set_option maxHeartbeats 40000000 in
theorem rm_qts (l : Launch) (Z : State) (a0 : Array Value) (hw : ∀ d ∈ tables_1, d.before a0 Z = true) (ws : List Jvm.Cond) (x : Addr) (a : Addr) (h0 : Heap) (n0 : Nat) (Z0 : n0 ≤ h0.size) (F0 : Fld Z h0 x "com/example/requeue/requeue/QueueName" "name" "Ljava/lang/String;" (.ref a)) :
    MetFree l (⟨"com/example/requeue/requeue/QueueName", "toString", "()Ljava/lang/String;"⟩ : MethodName) (head1 (Jvm.Cond.code (⟨"com/example/requeue/requeue/QueueName", "toString", "()Ljava/lang/String;"⟩ : MethodName) prog_12_method_4_code 1 (some (.object "java/lang/String")) :: ws) ({ frames := 0, cells := 0, slots := 0, locals := 0 } : Room)) (fun aa U => aa = #[(.ref x)] ∧ Z.Warmed39 U.vm ∧ U.heap = h0) (fun _ _ _ _ _ => True) (fun _ U o U' => ∃ v L, o = .returned v ∧ Q_qts Z a h0 n0 v U'.heap L ∧ FrameEnd U o U' L ({ frames := 0, cells := 0, slots := 0, locals := 0 } : Room).cells ({ frames := 0, cells := 0, slots := 0, locals := 0 } : Room).slots) := by
  refine MetFree.of_bodySF (plainFor_of_name pn_qts) hisR ?_
  intro p e s m args below meth c s₁ Bd hml0 hP hK
  obtain ⟨rfl, hZ, hh⟩ := hP
  have hx := Bd.exec
  have hby := Bd.bytes
  have hml : c.maxLocals = 1 := hml0
  have hown : s.vm.findClass "com/example/requeue/requeue/QueueName" = some m.cls := findClass_of_methodNamed Bd.named
  have hnm := (name_of_methodNamed Bd.named Bd.method).1
  have X0 : Stand p l e ({ frames := 0, cells := 0, slots := 0, locals := 0 } : Room) s m #[(.ref x)] below meth c s₁ [] 0 0 := Stand.of_body Bd
  have e0 : s₁.heap = h0 := by rw [← hh, Bd.state]; rfl
  have N0 := Fr.nil n0
  have S0 : Go p e below s₁ (eF_qts m x) s₁ (mkF m 0 #[vR x] []) := fun t k => castTop (ef_qts m x) k
  have S55 : Go p e below s₁ (eF_qts m x) s₁ (mkF m 1 #[vR x] [(.ref x)]) := fun t kt => S0 t (by
    refine XS.aloadN X0.here hx rfl (hb hby d20_0) rfl rfl ?_
    show Sp p e below s₁ (mkF m 1 #[vR x] [(.ref x)]) _
    exact kt)
  clear S0
  obtain ⟨T56, X56, e56, st56⟩ := getF X0 hx hZ hown (host := "") (Or.inl (own_h hw 94 rfl)) Via.refl e0 F0 (g := (mkF m 1 #[vR x] [(.ref x)])) rfl rfl (hb hby d20_1)
  have S57 : Go p e below s₁ (eF_qts m x) T56 (mkF m 4 #[vR x] [(.ref a)]) := fun t kt => S55 t (st56 t kt)
  clear S55 st56 X0 e0
  obtain ⟨fs, hr, hrun, hended, hW, hsame⟩ := X56.leave (v := some (.ref a)) (fun h => by first | rfl | (rw [Bd.returns] at h; cases h))
  refine ⟨_, _, S57 _ ?_, hrun, hended, _, _, rfl, ?_, ⟨_, rfl⟩, hW, hsame.mono (by decide) (by decide)⟩
  · exact retOut X56 hx Bd.returns rfl (Or.inr (Or.inr (Or.inr (Or.inr ⟨rfl, rfl, rfl⟩)))) (hb hby d20_4) hr
  · show Q_qts Z a h0 n0 _ T56.heap _
    rw [e56]
    exact ⟨rfl, N0, rfl⟩
set_option maxRecDepth 65536 in
set_option maxHeartbeats 40000000 in
theorem lp_of {p : Program} {l : Launch} {e : Env} {s : State} {m : MethodId} {args : Array Value} {below : List Frame} {meth : Method} {c : Code} (Z : State) (a0 : Array Value) (hw : ∀ d ∈ tables_1, d.before a0 Z = true) (a : Addr) (b : Addr) (k : ClassId) (n : Int32) (vs : List Value) (cs : List Int32) (h0 : Heap) (n0 : Nat) (Z0 : n0 ≤ h0.size) (SS : own_St Z) (O0 : Old Z n0 h0) (E : Exa Z h0 a "java/lang/String") (F : Fld Z h0 a "java/lang/String" "coder" "B" (.int (0 : Int32))) (G : Fld Z h0 a "java/lang/String" "value" "[B" (.ref b)) (V : Arv Z h0 b k .byte n vs (.int (0 : Int32))) (hcd : StrChars.Road.CodA cs 0 n vs) (hok : ∀ z ∈ cs, own_ok z) (hl : cs.length ≤ 64) (hx : p.tables.exec = Jvm.exec) (hZ : Z.Warmed39 s.vm) (hby : c.code = prog_12_method_2_code) (hml : c.maxLocals = 2) (hown : s.vm.findClass "com/example/requeue/requeue/QueueName" = some m.cls) :
    ∀ (k' j : Nat) (T : State) (locs : List Loc), j + k' = cs.length → Stand p l e ({ frames := 5, cells := 3, slots := 21, locals := 100 } : Room) s m args below meth c T locs 2 20 → T.heap = h0 → Fr n0 locs → ∃ (T' : State) (locs' : List Loc), Stand p l e ({ frames := 5, cells := 3, slots := 21, locals := 100 } : Room) s m args below meth c T' locs' 2 20 ∧ T'.heap = h0 ∧ Fr n0 locs' ∧ Go p e below T (mkF m 26 #[vR a, vI (Int32.ofNat j)] []) T' (mkF m 93 #[vR a, vI (Int32.ofNat cs.length)] []) := by
  intro k'
  induction k' with
  | zero =>
    intro j T locs hj X0 e0 N0
    obtain rfl : j = cs.length := by omega
    have S0 : Go p e below T (mkF m 26 #[vR a, vI (Int32.ofNat cs.length)] []) T (mkF m 26 #[vR a, vI (Int32.ofNat cs.length)] []) := fun t k => k
    obtain ⟨⟨cz, S_cs, hcz⟩, ⟨fm, S_fm, hfm⟩⟩ := id SS
    have hln : ∀ d ∈ StrChars.Road.wordsLen, d.before a0 Z = true := fun d hd => hw d (own_wLen d hd)
    have hch : ∀ d ∈ StrChars.Road.wordsChN, d.before a0 Z = true := fun d hd => hw d (own_wChN d hd)
    have hb0 := own_hb hok
    have S58 : Go p e below T (mkF m 26 #[vR a, vI (Int32.ofNat cs.length)] []) T (mkF m 28 #[vR a, vI (Int32.ofNat cs.length)] [(.ref a), (.int (Int32.ofNat cs.length))]) := fun t kt => S0 t (by
      refine XS.iloadN X0.here hx rfl (hb hby d13_26) rfl ?_
      show Sp p e below T (mkF m 27 #[vR a, vI (Int32.ofNat cs.length)] [(.int (Int32.ofNat cs.length))]) _
      refine XS.aloadN X0.here hx rfl (hb hby d13_27) rfl rfl ?_
      show Sp p e below T (mkF m 28 #[vR a, vI (Int32.ofNat cs.length)] [(.ref a), (.int (Int32.ofNat cs.length))]) _
      exact kt)
    clear S0
    obtain ⟨cq59, kq59, q59a, q59b, q59c⟩ := isOf hZ e0 E
    obtain ⟨v59, T59, L59, X59, hQ59, st59⟩ := own_outV (Q := (fun v h' L => v = some (.int (Int32.ofNat cs.length)) ∧ L = [] ∧ h' = h0)) (X0.virtualBack hx (y := (⟨"java/lang/String", "length", "()I"⟩ : MethodName)) (z := (⟨"java/lang/String", "length", "()I"⟩ : MethodName)) hown (mvT hZ (own_h hw 74 rfl)) (mvT hZ (own_h hw 75 rfl)) (notFace_of_selects (args := #[]) (mvT hZ (own_h hw 77 rfl))) (mvT hZ (own_h hw 77 rfl)) (mvT hZ (own_h hw 76 rfl)) (by decide) (StrChars.Road.lenW (W := 1) hZ hln (kI := 4) (own_h hw 7 rfl) E G F V hcd hb0 (S_cs.ext O0.2) hcz (by omega) (by decide) (by decide)) q59a q59c (g := (mkF m 28 #[vR a, vI (Int32.ofNat cs.length)] [(.ref a), (.int (Int32.ofNat cs.length))])) rfl (by rw [hml]; rfl) (Steps.refl _) (argsL := []) (rest := [(.int (Int32.ofNat cs.length))]) (lenOf pd___I rfl) rfl (by show 2 * 0 + _ ≤ _; exact Nat.le_of_eq rfl) (hb hby d13_28) (fun _ _ => ⟨rfl, e0, (by decide : 2 + 0 ≤ _), (by decide : 20 + 0 ≤ _)⟩))
    obtain ⟨rfl, rfl, e59⟩ := hQ59
    have N59 := Fr.app N0 (Fr.nil n0)
    have S60 : Go p e below T (mkF m 26 #[vR a, vI (Int32.ofNat cs.length)] []) T59 (mkF m 31 #[vR a, vI (Int32.ofNat cs.length)] [(.int (Int32.ofNat cs.length)), (.int (Int32.ofNat cs.length))]) := fun t kt => S58 t (st59 t kt)
    clear S58 st59 X0 e0
    have S61 : Go p e below T (mkF m 26 #[vR a, vI (Int32.ofNat cs.length)] []) T59 (mkF m 93 #[vR a, vI (Int32.ofNat cs.length)] []) := fun t kt => S60 t (by
      refine XS.icmpYes X59.here hx rfl (pc0 := 31) (pc' := 93) rfl (hb hby d13_31) rfl (flt (show ¬ ((Int32.ofNat cs.length) < (Int32.ofNat cs.length)) from (fun q => absurd ((own_ltn (by omega) (by omega)).mp q) (by omega)))).2.1 (by decide) (by decide) ?_
      show Sp p e below T59 (mkF m 93 #[vR a, vI (Int32.ofNat cs.length)] []) _
      exact kt)
    clear S60
    exact ⟨_, _, X59, e59, N59, S61⟩
  | succ k' ih =>
    intro j T locs hj X0 e0 N0
    have S0 : Go p e below T (mkF m 26 #[vR a, vI (Int32.ofNat j)] []) T (mkF m 26 #[vR a, vI (Int32.ofNat j)] []) := fun t k => k
    obtain ⟨⟨cz, S_cs, hcz⟩, ⟨fm, S_fm, hfm⟩⟩ := id SS
    have hln : ∀ d ∈ StrChars.Road.wordsLen, d.before a0 Z = true := fun d hd => hw d (own_wLen d hd)
    have hch : ∀ d ∈ StrChars.Road.wordsChN, d.before a0 Z = true := fun d hd => hw d (own_wChN d hd)
    have hb0 := own_hb hok
    have hjc : j < cs.length := by omega
    have S62 : Go p e below T (mkF m 26 #[vR a, vI (Int32.ofNat j)] []) T (mkF m 28 #[vR a, vI (Int32.ofNat j)] [(.ref a), (.int (Int32.ofNat j))]) := fun t kt => S0 t (by
      refine XS.iloadN X0.here hx rfl (hb hby d13_26) rfl ?_
      show Sp p e below T (mkF m 27 #[vR a, vI (Int32.ofNat j)] [(.int (Int32.ofNat j))]) _
      refine XS.aloadN X0.here hx rfl (hb hby d13_27) rfl rfl ?_
      show Sp p e below T (mkF m 28 #[vR a, vI (Int32.ofNat j)] [(.ref a), (.int (Int32.ofNat j))]) _
      exact kt)
    clear S0
    obtain ⟨cq63, kq63, q63a, q63b, q63c⟩ := isOf hZ e0 E
    obtain ⟨v63, T63, L63, X63, hQ63, st63⟩ := own_outV (Q := (fun v h' L => v = some (.int (Int32.ofNat cs.length)) ∧ L = [] ∧ h' = h0)) (X0.virtualBack hx (y := (⟨"java/lang/String", "length", "()I"⟩ : MethodName)) (z := (⟨"java/lang/String", "length", "()I"⟩ : MethodName)) hown (mvT hZ (own_h hw 74 rfl)) (mvT hZ (own_h hw 75 rfl)) (notFace_of_selects (args := #[]) (mvT hZ (own_h hw 77 rfl))) (mvT hZ (own_h hw 77 rfl)) (mvT hZ (own_h hw 76 rfl)) (by decide) (StrChars.Road.lenW (W := 1) hZ hln (kI := 4) (own_h hw 7 rfl) E G F V hcd hb0 (S_cs.ext O0.2) hcz (by omega) (by decide) (by decide)) q63a q63c (g := (mkF m 28 #[vR a, vI (Int32.ofNat j)] [(.ref a), (.int (Int32.ofNat j))])) rfl (by rw [hml]; rfl) (Steps.refl _) (argsL := []) (rest := [(.int (Int32.ofNat j))]) (lenOf pd___I rfl) rfl (by show 2 * 0 + _ ≤ _; exact Nat.le_of_eq rfl) (hb hby d13_28) (fun _ _ => ⟨rfl, e0, (by decide : 2 + 0 ≤ _), (by decide : 20 + 0 ≤ _)⟩))
    obtain ⟨rfl, rfl, e63⟩ := hQ63
    have N63 := Fr.app N0 (Fr.nil n0)
    have S64 : Go p e below T (mkF m 26 #[vR a, vI (Int32.ofNat j)] []) T63 (mkF m 31 #[vR a, vI (Int32.ofNat j)] [(.int (Int32.ofNat cs.length)), (.int (Int32.ofNat j))]) := fun t kt => S62 t (st63 t kt)
    clear S62 st63 X0 e0
    have S65 : Go p e below T (mkF m 26 #[vR a, vI (Int32.ofNat j)] []) T63 (mkF m 36 #[vR a, vI (Int32.ofNat j)] [(.int (Int32.ofNat j)), (.ref a)]) := fun t kt => S64 t (by
      refine XS.icmpNo X63.here hx rfl (hb hby d13_31) rfl (tlt (show (Int32.ofNat j) < (Int32.ofNat cs.length) from ((own_ltn (by omega) (by omega)).mpr hjc))).2.1 ?_
      show Sp p e below T63 (mkF m 34 #[vR a, vI (Int32.ofNat j)] []) _
      refine XS.aloadN X63.here hx rfl (hb hby d13_34) rfl rfl ?_
      show Sp p e below T63 (mkF m 35 #[vR a, vI (Int32.ofNat j)] [(.ref a)]) _
      refine XS.iloadN X63.here hx rfl (hb hby d13_35) rfl ?_
      show Sp p e below T63 (mkF m 36 #[vR a, vI (Int32.ofNat j)] [(.int (Int32.ofNat j)), (.ref a)]) _
      exact kt)
    clear S64
    obtain ⟨cq66, kq66, q66a, q66b, q66c⟩ := isOf hZ e63 E
    obtain ⟨v66, T66, L66, X66, hQ66, st66⟩ := own_outV (Q := (fun v h' L => v = some (.int (cs.getD j 0)) ∧ L = [] ∧ h' = h0)) (X63.virtualBack hx (y := (⟨"java/lang/String", "charAt", "(I)C"⟩ : MethodName)) (z := (⟨"java/lang/String", "charAt", "(I)C"⟩ : MethodName)) hown (mvT hZ (own_h hw 84 rfl)) (mvT hZ (own_h hw 15 rfl)) (notFace_of_selects (args := #[]) (mvT hZ (own_h hw 17 rfl))) (mvT hZ (own_h hw 17 rfl)) (mvT hZ (own_h hw 16 rfl)) (by decide) (StrChars.Road.chN (W := 0) hZ hch (kI := 4) (own_h hw 7 rfl) E G F V hcd hb0 (S_cs.ext O0.2) hcz (S_fm.ext O0.2) hfm (by omega) (i := j) hjc (j := (Int32.ofNat j)) rfl (by decide) (by decide)) q66a q66c (g := (mkF m 36 #[vR a, vI (Int32.ofNat j)] [(.int (Int32.ofNat j)), (.ref a)])) rfl (by rw [hml]; rfl) (Steps.refl _) (argsL := [(.int (Int32.ofNat j))]) (rest := []) (lenOf pd__I_C rfl) rfl (by show 2 * 0 + _ ≤ _; exact Nat.le_of_eq rfl) (hb hby d13_36) (fun _ _ => ⟨rfl, e63, (by decide : 2 + 0 ≤ _), (by decide : 20 + 0 ≤ _)⟩))
    obtain ⟨rfl, rfl, e66⟩ := hQ66
    have N66 := Fr.app N63 (Fr.nil n0)
    have S67 : Go p e below T (mkF m 26 #[vR a, vI (Int32.ofNat j)] []) T66 (mkF m 39 #[vR a, vI (Int32.ofNat j)] [(.int (cs.getD j 0))]) := fun t kt => S65 t (st66 t kt)
    clear S65 st66 X63 e63
    have hokj : own_ok (cs.getD j 0) := own_mem (P := own_ok) hok hjc
    generalize cs.getD j 0 = ch at hokj S67
    obtain ⟨v68, T68, L68, X68, hQ68, st68⟩ := own_outS (Jvm.LawKit.callS X66 hx (y := (⟨"com/example/requeue/requeue/QueueName", "isAllowed", "(C)Z"⟩ : MethodName)) hown (mvT hZ (own_h hw 85 rfl)) (mvT hZ (own_h hw 86 rfl)) (mvT hZ (own_h hw 62 rfl)) (mvT hZ (own_h hw 87 rfl)) (by decide) (backOf (W := 0) (rm_alw l Z a0 hw [] ch h0 n0 Z0 hokj) hZ (own_h hw 87 rfl) (own_h hw 62 rfl) (by decide) (by decide)) (g := (mkF m 39 #[vR a, vI (Int32.ofNat j)] [(.int ch)])) rfl (by rw [hml]; rfl) (argsL := [(.int ch)]) (rest := []) (lenOf pd__C_Z rfl) rfl (by show 2 * 0 + _ ≤ _; exact Nat.le_of_eq rfl) (hb hby d13_39) (fun _ _ => ⟨rfl, e66, (by decide : 2 + 0 ≤ _), (by decide : 20 + 0 ≤ _)⟩))
    obtain ⟨rfl, N68q, e68⟩ := hQ68
    have N68 := Fr.app N66 N68q
    obtain ⟨Lo68, X68o, N68o⟩ := own_hl X68 N68
    have S69 : Go p e below T (mkF m 26 #[vR a, vI (Int32.ofNat j)] []) T68 (mkF m 42 #[vR a, vI (Int32.ofNat j)] [(.int (1 : Int32))]) := fun t kt => S67 t (st68 t kt)
    clear S67 st68 X66 e66 X68 N68
    have S70 : Go p e below T (mkF m 26 #[vR a, vI (Int32.ofNat j)] []) T68 (mkF m 26 #[vR a, vI ((Int32.ofNat j) + (1 : Int32))] []) := fun t kt => S69 t (by
      refine XS.ifYes X68o.here hx rfl (pc0 := 42) (pc' := 87) rfl (hb hby d13_42) rfl ((if0 _ _).trans (feq (show ¬ ((1 : Int32) = (0 : Int32)) from (by decide))).2) (by decide) (by decide) ?_
      show Sp p e below T68 (mkF m 87 #[vR a, vI (Int32.ofNat j)] []) _
      refine XS.iinc X68o.here hx rfl (hb hby d13_87) rfl (l' := #[vR a, vI ((Int32.ofNat j) + (1 : Int32))]) rfl ?_
      show Sp p e below T68 (mkF m 90 #[vR a, vI ((Int32.ofNat j) + (1 : Int32))] []) _
      refine XS.goto X68o.here hx rfl (pc0 := 90) (pc' := 26) rfl (hb hby d13_90) (by decide) (by decide) ?_
      show Sp p e below T68 (mkF m 26 #[vR a, vI ((Int32.ofNat j) + (1 : Int32))] []) _
      exact kt)
    clear S69
    have q72 : ((Int32.ofNat j) + (1 : Int32)) = (Int32.ofNat (j + 1)) := own_inc (by omega)
    have S71 : Go p e below T (mkF m 26 #[vR a, vI (Int32.ofNat j)] []) T68 (mkF m 26 #[vR a, vI (Int32.ofNat (j + 1))] []) := by have h := S70; rw [q72] at h; exact h
    clear S70
    obtain ⟨T', locs', X', e', N', G'⟩ := ih (j + 1) _ _ (by omega) X68o e68 N68o
    exact ⟨T', locs', X', e', N', fun t k => S71 t (G' t k)⟩
abbrev eF_of (m : MethodId) (x0 : Addr) : JFrame := entryFrame m #[(.ref x0)] 2
theorem ef_of (m : MethodId) (x0 : Addr) : entryFrame m #[(.ref x0)] 2 = mkF m 0 #[.val (.ref x0), .unset] [] := by first | (simp [entryFrame, mkF, argsToLocals, Value.category]; done) | rfl
theorem pn_of : plainName "com/example/requeue/requeue/QueueName" = true := by first | (simp [plainName, overriddenIn]; done) | decide +kernel
def Q_of (Z : State) (a : Addr) (h0 : Heap) (n0 : Nat) (v : Option Value) (vm : Vm) (h : Heap) (L : List Loc) : Prop := ∃ q, v = some (.ref q) ∧ Fr n0 L ∧ Keep h0 h [] ∧ h0.size ≤ q ∧ Exa Z h q "com/example/requeue/requeue/QueueName" ∧ Fld Z h q "com/example/requeue/requeue/QueueName" "name" "Ljava/lang/String;" (.ref a)
set_option maxRecDepth 65536 in
set_option maxHeartbeats 40000000 in
theorem rm_of (l : Launch) (Z : State) (a0 : Array Value) (hw : ∀ d ∈ tables_1, d.before a0 Z = true) (ws : List Jvm.Cond) (a : Addr) (b : Addr) (k : ClassId) (n : Int32) (vs : List Value) (cs : List Int32) (h0 : Heap) (n0 : Nat) (Z0 : n0 ≤ h0.size) (SS : own_St Z) (O0 : Old Z n0 h0) (E : Exa Z h0 a "java/lang/String") (F : Fld Z h0 a "java/lang/String" "coder" "B" (.int (0 : Int32))) (G : Fld Z h0 a "java/lang/String" "value" "[B" (.ref b)) (V : Arv Z h0 b k .byte n vs (.int (0 : Int32))) (hcd : StrChars.Road.CodA cs 0 n vs) (hok : ∀ z ∈ cs, own_ok z) (hl : cs.length ≤ 64) (hne : ¬ cs.length = 0) :
    MetFree l (⟨"com/example/requeue/requeue/QueueName", "of", "(Ljava/lang/String;)Lcom/example/requeue/requeue/QueueName;"⟩ : MethodName) (head1 (Jvm.Cond.code (⟨"com/example/requeue/requeue/QueueName", "of", "(Ljava/lang/String;)Lcom/example/requeue/requeue/QueueName;"⟩ : MethodName) prog_12_method_2_code 2 (some (.object "com/example/requeue/requeue/QueueName")) :: ws) ({ frames := 5, cells := 3, slots := 21, locals := 100 } : Room)) (fun aa U => aa = #[(.ref a)] ∧ Z.Warmed39 U.vm ∧ U.heap = h0 ∧ True) (fun _ _ _ _ _ => True) (fun _ U o U' => ∃ v L, o = .returned v ∧ Q_of Z a h0 n0 v U'.vm U'.heap L ∧ ReturnedEndW U o U' L ({ frames := 5, cells := 3, slots := 21, locals := 100 } : Room).cells ({ frames := 5, cells := 3, slots := 21, locals := 100 } : Room).slots) := by
  refine MetFree.of_bodySF (plainFor_of_name pn_of) hisR ?_
  intro p e s m args below meth c s₁ Bd hml0 hP hK
  obtain ⟨rfl, hZ, hh, hPv⟩ := hP
  have hx := Bd.exec
  have hby := Bd.bytes
  have hml : c.maxLocals = 2 := hml0
  have hown : s.vm.findClass "com/example/requeue/requeue/QueueName" = some m.cls := findClass_of_methodNamed Bd.named
  have hnm := (name_of_methodNamed Bd.named Bd.method).1
  have X0 : Stand p l e ({ frames := 5, cells := 3, slots := 21, locals := 100 } : Room) (s.setVm s.vm) m #[(.ref a)] below meth c s₁ [] 0 0 := Stand.of_body Bd
  have e0 : s₁.heap = h0 := by rw [← hh, Bd.state]; rfl
  have N0 := Fr.nil n0
  have S0 : Go p e below s₁ (eF_of m a) s₁ (mkF m 0 #[vR a, vU] []) := fun t k => castTop (ef_of m a) k
  have hZ : Z.Warmed39 (s.setVm s.vm).vm := hZ
  have hown : (s.setVm s.vm).vm.findClass "com/example/requeue/requeue/QueueName" = some m.cls := hown
  have hS : s.Since s.vm 0 := (State.WarmedH.refl s).since 0
  have hki0 := Nat.zero_le h0.size
  obtain ⟨⟨cz, S_cs, hcz⟩, ⟨fm, S_fm, hfm⟩⟩ := id SS
  have hln : ∀ d ∈ StrChars.Road.wordsLen, d.before a0 Z = true := fun d hd => hw d (own_wLen d hd)
  have hem : ∀ d ∈ StrChars.Road.wordsEmp, d.before a0 Z = true := fun d hd => hw d (own_wEmp d hd)
  have hb0 := own_hb hok
  have S73 : Go p e below s₁ (eF_of m a) s₁ (mkF m 1 #[vR a, vU] [(.ref a)]) := fun t kt => S0 t (by
    refine XS.aloadN X0.here hx rfl (hb hby d13_0) rfl rfl ?_
    show Sp p e below s₁ (mkF m 1 #[vR a, vU] [(.ref a)]) _
    exact kt)
  clear S0
  obtain ⟨nm, T74, h74, ki74, X74, e74, E74, hS, hki74, hZ, hown, st74⟩ := ldcS X0 hx hZ hown (own_h hw 64 rfl) (fun d hd => hw d (own_wS d hd)) e0 hS hki0 (g := (mkF m 1 #[vR a, vU] [(.ref a)])) rfl (hb hby d13_1) (n := 16) (by decide +kernel) (by decide) (by decide) (by decide)
  have K74 : Keep h0 h74 [] := (Keep.refl h0 []).ext E74
  have S75 : Go p e below s₁ (eF_of m a) T74 (mkF m 3 #[vR a, vU] [(.ref nm), (.ref a)]) := fun t kt => S73 t (st74 t kt)
  clear S73 st74 X0 e0
  have z76 := (Nat.le_trans Z0 E74.1)
  obtain ⟨v77, T77, L77, X77, hQ77, st77⟩ := own_outS (Jvm.LawKit.callS X74 hx (y := (⟨"java/util/Objects", "requireNonNull", "(Ljava/lang/Object;Ljava/lang/String;)Ljava/lang/Object;"⟩ : MethodName)) hown (mvT hZ (own_h hw 65 rfl)) (mvT hZ (own_h hw 66 rfl)) (mvT hZ (own_h hw 67 rfl)) (mvT hZ (own_h hw 68 rfl)) (by decide) (backOf (W := 0) (rm_rnn l Z a0 hw [] a nm h74 n0 z76) hZ (own_h hw 68 rfl) (own_h hw 67 rfl) (by decide) (by decide)) (g := (mkF m 3 #[vR a, vU] [(.ref nm), (.ref a)])) rfl (by rw [hml]; rfl) (argsL := [(.ref a), (.ref nm)]) (rest := []) (lenOf pd__Ljava_lang_Object_Ljava_lang_String__Ljava_lang_Object_ rfl) rfl (by show 2 * 0 + _ ≤ _; exact Nat.le_of_eq rfl) (hb hby d13_3) (fun _ _ => ⟨rfl, e74, (by decide : 2 + 0 ≤ _), (by decide : 20 + 0 ≤ _)⟩))
  obtain ⟨rfl, N77q, e77⟩ := hQ77
  have N77 := Fr.app N0 N77q
  obtain ⟨Lo77, X77o, N77o⟩ := own_hl X77 N77
  have S78 : Go p e below s₁ (eF_of m a) T77 (mkF m 6 #[vR a, vU] [(.ref a)]) := fun t kt => S75 t (st77 t kt)
  clear S75 st77 X74 e74 X77 N77
  have S79 : Go p e below s₁ (eF_of m a) T77 (mkF m 8 #[vR a, vU] [(.ref a)]) := fun t kt => S78 t (by
    refine XS.pop X77o.here hx rfl (hb hby d13_6) rfl rfl ?_
    show Sp p e below T77 (mkF m 7 #[vR a, vU] []) _
    refine XS.aloadN X77o.here hx rfl (hb hby d13_7) rfl rfl ?_
    show Sp p e below T77 (mkF m 8 #[vR a, vU] [(.ref a)]) _
    exact kt)
  clear S78
  have f80 := (E.ext E74)
  have f81 := (G.ext E74)
  have f82 := (F.ext E74)
  have f83 := (V.ext E74)
  obtain ⟨cq84, kq84, q84a, q84b, q84c⟩ := isOf hZ e77 f80
  obtain ⟨v84, T84, L84, X84, hQ84, st84⟩ := own_outV (Q := (fun v h' L => v = some (.int (if cs.length = 0 then 1 else 0)) ∧ L = [] ∧ h' = h74)) (X77o.virtualBack hx (y := (⟨"java/lang/String", "isEmpty", "()Z"⟩ : MethodName)) (z := (⟨"java/lang/String", "isEmpty", "()Z"⟩ : MethodName)) hown (mvT hZ (own_h hw 69 rfl)) (mvT hZ (own_h hw 70 rfl)) (notFace_of_selects (args := #[]) (mvT hZ (own_h hw 72 rfl))) (mvT hZ (own_h hw 72 rfl)) (mvT hZ (own_h hw 71 rfl)) (by decide) (StrChars.Road.empW (W := 0) hZ hem (kI := 4) (own_h hw 7 rfl) f80 f81 f82 f83 hcd hb0 (by omega) (by decide) (by decide)) q84a q84c (g := (mkF m 8 #[vR a, vU] [(.ref a)])) rfl (by rw [hml]; rfl) (Steps.refl _) (argsL := []) (rest := []) (lenOf pd___Z rfl) rfl (by show 2 * 0 + _ ≤ _; exact Nat.le_of_eq rfl) (hb hby d13_8) (fun _ _ => ⟨rfl, e77, (by decide : 2 + 0 ≤ _), (by decide : 20 + 0 ≤ _)⟩))
  obtain ⟨rfl, rfl, e84⟩ := hQ84
  have N84 := Fr.app N77o (Fr.nil n0)
  have S85 : Go p e below s₁ (eF_of m a) T84 (mkF m 11 #[vR a, vU] [(.int (if cs.length = 0 then 1 else 0))]) := fun t kt => S79 t (st84 t kt)
  clear S79 st84 X77o e77
  have q87 : (if cs.length = 0 then 1 else 0) = (0 : Int32) := if_neg hne
  have S86 : Go p e below s₁ (eF_of m a) T84 (mkF m 11 #[vR a, vU] [(.int (0 : Int32))]) := by have h := S85; rw [q87] at h; exact h
  clear S85
  have S88 : Go p e below s₁ (eF_of m a) T84 (mkF m 26 #[vR a, vI (0 : Int32)] []) := fun t kt => S86 t (by
    refine XS.ifYes X84.here hx rfl (pc0 := 11) (pc' := 24) rfl (hb hby d13_11) rfl ((if0 _ _).trans (teq (show (0 : Int32) = (0 : Int32) from (by decide))).1) (by decide) (by decide) ?_
    show Sp p e below T84 (mkF m 24 #[vR a, vU] []) _
    refine XS.iconst X84.here hx rfl (hb hby d13_24) ?_
    show Sp p e below T84 (mkF m 25 #[vR a, vU] [(.int (0 : Int32))]) _
    refine XS.istoreN X84.here hx rfl (hb hby d13_25) rfl (l' := #[vR a, vI (0 : Int32)]) rfl ?_
    show Sp p e below T84 (mkF m 26 #[vR a, vI (0 : Int32)] []) _
    exact kt)
  clear S86
  have q90 : (0 : Int32) = (Int32.ofNat 0) := rfl
  have S89 : Go p e below s₁ (eF_of m a) T84 (mkF m 26 #[vR a, vI (Int32.ofNat 0)] []) := by have h := S88; rw [q90] at h; exact h
  clear S88
  have f91 := (O0.ext E74)
  obtain ⟨Tl, Ll, Xl, el, Nl, Gl⟩ := lp_of Z a0 hw a b k n vs cs h74 n0 z76 SS f91 f80 f82 f81 f83 hcd hok hl hx hZ hby hml hown cs.length 0 T84 _ (by omega) X84 e84 N84
  have SL : Go p e below s₁ (eF_of m a) Tl (mkF m 93 #[vR a, vI (Int32.ofNat cs.length)] []) := fun t kt => S89 t (Gl t kt)
  have S92 : Go p e below s₁ (eF_of m a) Tl (mkF m 94 #[vR a, vI (Int32.ofNat cs.length)] [(.ref a)]) := fun t kt => SL t (by
    refine XS.aloadN Xl.here hx rfl (hb hby d13_93) rfl rfl ?_
    show Sp p e below Tl (mkF m 94 #[vR a, vI (Int32.ofNat cs.length)] [(.ref a)]) _
    exact kt)
  clear SL
  obtain ⟨cq93, kq93, q93a, q93b, q93c⟩ := isOf hZ el f80
  obtain ⟨v93, T93, L93, X93, hQ93, st93⟩ := own_outV (Q := (fun v h' L => v = some (.int (Int32.ofNat cs.length)) ∧ L = [] ∧ h' = h74)) (Xl.virtualBack hx (y := (⟨"java/lang/String", "length", "()I"⟩ : MethodName)) (z := (⟨"java/lang/String", "length", "()I"⟩ : MethodName)) hown (mvT hZ (own_h hw 74 rfl)) (mvT hZ (own_h hw 75 rfl)) (notFace_of_selects (args := #[]) (mvT hZ (own_h hw 77 rfl))) (mvT hZ (own_h hw 77 rfl)) (mvT hZ (own_h hw 76 rfl)) (by decide) (StrChars.Road.lenW (W := 0) hZ hln (kI := 4) (own_h hw 7 rfl) f80 f81 f82 f83 hcd hb0 (S_cs.ext f91.2) hcz (by omega) (by decide) (by decide)) q93a q93c (g := (mkF m 94 #[vR a, vI (Int32.ofNat cs.length)] [(.ref a)])) rfl (by rw [hml]; rfl) (Steps.refl _) (argsL := []) (rest := []) (lenOf pd___I rfl) rfl (by show 2 * 0 + _ ≤ _; exact Nat.le_of_eq rfl) (hb hby d13_94) (fun _ _ => ⟨rfl, el, (by decide : 2 + 0 ≤ _), (by decide : 20 + 0 ≤ _)⟩))
  obtain ⟨rfl, rfl, e93⟩ := hQ93
  have N93 := Fr.app Nl (Fr.nil n0)
  have S94 : Go p e below s₁ (eF_of m a) T93 (mkF m 97 #[vR a, vI (Int32.ofNat cs.length)] [(.int (Int32.ofNat cs.length))]) := fun t kt => S92 t (st93 t kt)
  clear S92 st93 Xl el
  have S95 : Go p e below s₁ (eF_of m a) T93 (mkF m 99 #[vR a, vI (Int32.ofNat cs.length)] [(.int (64 : Int32)), (.int (Int32.ofNat cs.length))]) := fun t kt => S94 t (by
    refine XS.bipush X93.here hx rfl (hb hby d13_97) ?_
    show Sp p e below T93 (mkF m 99 #[vR a, vI (Int32.ofNat cs.length)] [(.int (64 : Int32)), (.int (Int32.ofNat cs.length))]) _
    exact kt)
  clear S94
  have S96 : Go p e below s₁ (eF_of m a) T93 (mkF m 137 #[vR a, vI (Int32.ofNat cs.length)] []) := fun t kt => S95 t (by
    refine XS.icmpYes X93.here hx rfl (pc0 := 99) (pc' := 137) rfl (hb hby d13_99) rfl (flt (show ¬ ((64 : Int32) < (Int32.ofNat cs.length)) from (fun q => absurd (Int32.lt_iff_toInt_lt.mp q) (by rw [own_toI (by omega)]; have e : (64 : Int32).toInt = 64 := rfl; omega)))).2.2.2 (by decide) (by decide) ?_
    show Sp p e below T93 (mkF m 137 #[vR a, vI (Int32.ofNat cs.length)] []) _
    exact kt)
  clear S95
  obtain ⟨T97, h97, X97, e97, E97, A97, D97, -, st97⟩ := newO X93 hx hZ hown (own_h hw 88 rfl) (own_h hw 89 rfl) (own_h hw 62 rfl) e93 (g := (mkF m 137 #[vR a, vI (Int32.ofNat cs.length)] [])) rfl (hb hby d13_137) (by decide) (by decide)
  obtain ⟨q1, g97⟩ : ∃ z, z = h74.size := ⟨_, rfl⟩
  rw [← g97] at A97 D97 st97
  have ne98 : a ≠ q1 := by rw [g97]; exact Nat.ne_of_lt f80.lt
  have ne99 : b ≠ q1 := by rw [g97]; exact Nat.ne_of_lt f83.lt
  have g_q1 : n0 ≤ q1 := Nat.le_trans z76 (Nat.le_of_eq g97.symm)
  have sz_q1 : h0.size ≤ q1 := Nat.le_trans K74.1 (Nat.le_of_eq g97.symm)
  have K97 : Keep h0 h97 [] := K74.ext E97
  have F_name_q1 : Fld Z h97 q1 "com/example/requeue/requeue/QueueName" "name" "Ljava/lang/String;" .null := D97 (Or.inr (own_h hw 95 rfl)) (ty := (.object "java/lang/String")) (by decide)
  have S100 : Go p e below s₁ (eF_of m a) T97 (mkF m 140 #[vR a, vI (Int32.ofNat cs.length)] [(.ref q1)]) := fun t kt => S96 t (st97 t kt)
  clear S96 st97 X93 e93
  have S101 : Go p e below s₁ (eF_of m a) T97 (mkF m 142 #[vR a, vI (Int32.ofNat cs.length)] [(.ref a), (.ref q1), (.ref q1)]) := fun t kt => S100 t (by
    refine XS.dup X97.here hx rfl (hb hby d13_140) rfl rfl ?_
    show Sp p e below T97 (mkF m 141 #[vR a, vI (Int32.ofNat cs.length)] [(.ref q1), (.ref q1)]) _
    refine XS.aloadN X97.here hx rfl (hb hby d13_141) rfl rfl ?_
    show Sp p e below T97 (mkF m 142 #[vR a, vI (Int32.ofNat cs.length)] [(.ref a), (.ref q1), (.ref q1)]) _
    exact kt)
  clear S100
  have z102 := (Nat.le_trans z76 E97.1)
  obtain ⟨v103, T103, L103, X103, hQ103, st103⟩ := own_outV (X97.specialBack hx (y := (⟨"com/example/requeue/requeue/QueueName", "<init>", "(Ljava/lang/String;)V"⟩ : MethodName)) rfl hown (mvT hZ (own_h hw 90 rfl)) (mvT hZ (own_h hw 91 rfl)) (mvT hZ (own_h hw 92 rfl)) (by decide) (backOf (W := 1) (rm_qin l Z a0 hw [] q1 a h97 n0 z102 A97 F_name_q1 g_q1) hZ (own_h hw 92 rfl) (own_h hw 62 rfl) (by decide) (by decide)) (g := (mkF m 142 #[vR a, vI (Int32.ofNat cs.length)] [(.ref a), (.ref q1), (.ref q1)])) rfl (by rw [hml]; rfl) (Steps.refl _) (a := q1) (argsL := [(.ref a)]) (rest := [(.ref q1)]) (lenOf pd__Ljava_lang_String__V rfl) rfl (by show 2 * 0 + _ ≤ _; exact Nat.le_of_eq rfl) (hb hby d13_142) (fun _ _ => ⟨rfl, e97, (by decide : 3 + 0 ≤ _), (by decide : 21 + 0 ≤ _)⟩))
  obtain ⟨rfl, N103q, K103, E103, F103⟩ := hQ103
  have N103 := Fr.app N93 N103q
  obtain ⟨Lo103, X103o, N103o⟩ := own_hl X103 N103
  have KK103 : Keep h0 T103.heap [] := K97.trans K103 (allS (Or.inr sz_q1) all0)
  have S104 : Go p e below s₁ (eF_of m a) T103 (mkF m 145 #[vR a, vI (Int32.ofNat cs.length)] [(.ref q1)]) := fun t kt => S101 t (st103 t kt)
  clear S101 st103 X97 e97 X103 N103
  obtain ⟨fs, hr, hrun, hended, hRE⟩ := X103o.leaveW hS (n := _) (Nat.le_trans (Nat.le_trans hki74 E97.1) K103.1) (v := some (.ref q1)) (fun h => by first | rfl | (rw [Bd.returns] at h; cases h))
  refine ⟨_, _, S104 _ ?_, hrun, hended, _, _, rfl, ?_, hRE.1, hRE.2.1, hRE.2.2.1, hRE.2.2.2.mono (by decide) (by decide)⟩
  · exact retOut X103o hx Bd.returns rfl (Or.inr (Or.inr (Or.inr (Or.inr ⟨rfl, rfl, rfl⟩)))) (hb hby d13_145) hr
  · show Q_of Z a h0 n0 _ T103.vm T103.heap _
    exact ⟨q1, rfl, N103o, KK103, sz_q1, E103, F103⟩
abbrev eF_qeq (m : MethodId) (x0 : Addr) (x1 : Addr) : JFrame := entryFrame m #[(.ref x0), (.ref x1)] 3
theorem ef_qeq (m : MethodId) (x0 : Addr) (x1 : Addr) : entryFrame m #[(.ref x0), (.ref x1)] 3 = mkF m 0 #[.val (.ref x0), .val (.ref x1), .unset] [] := by first | (simp [entryFrame, mkF, argsToLocals, Value.category]; done) | rfl
theorem pn_qeq : plainName "com/example/requeue/requeue/QueueName" = true := by first | (simp [plainName, overriddenIn]; done) | decide +kernel
def Q_qeq (Z : State)  (h0 : Heap) (n0 : Nat) (v : Option Value) (h : Heap) (L : List Loc) : Prop := v = some (.int (1 : Int32)) ∧ Fr n0 L ∧ h = h0
set_option maxRecDepth 65536 in
set_option maxHeartbeats 40000000 in
theorem rm_qeq (l : Launch) (Z : State) (a0 : Array Value) (hw : ∀ d ∈ tables_1, d.before a0 Z = true) (ws : List Jvm.Cond) (x : Addr) (y : Addr) (a : Addr) (b : Addr) (k : ClassId) (a' : Addr) (b' : Addr) (k' : ClassId) (n : Int32) (vs : List Value) (cs : List Int32) (h0 : Heap) (n0 : Nat) (Z0 : n0 ≤ h0.size) (SS : own_St Z) (O0 : Old Z n0 h0) (Ey : Exa Z h0 y "com/example/requeue/requeue/QueueName") (Fx : Fld Z h0 x "com/example/requeue/requeue/QueueName" "name" "Ljava/lang/String;" (.ref a)) (Fy : Fld Z h0 y "com/example/requeue/requeue/QueueName" "name" "Ljava/lang/String;" (.ref a')) (E : Exa Z h0 a "java/lang/String") (F : Fld Z h0 a "java/lang/String" "coder" "B" (.int (0 : Int32))) (G : Fld Z h0 a "java/lang/String" "value" "[B" (.ref b)) (V : Arv Z h0 b k .byte n vs (.int (0 : Int32))) (hcd : StrChars.Road.CodA cs 0 n vs) (E' : Exa Z h0 a' "java/lang/String") (F' : Fld Z h0 a' "java/lang/String" "coder" "B" (.int (0 : Int32))) (G' : Fld Z h0 a' "java/lang/String" "value" "[B" (.ref b')) (V' : Arv Z h0 b' k' .byte n vs (.int (0 : Int32))) (hcd' : StrChars.Road.CodA cs 0 n vs) (hok : ∀ z ∈ cs, own_ok z) (hl : cs.length ≤ 64) :
    MetFree l (⟨"com/example/requeue/requeue/QueueName", "equals", "(Ljava/lang/Object;)Z"⟩ : MethodName) (head1 (Jvm.Cond.code (⟨"com/example/requeue/requeue/QueueName", "equals", "(Ljava/lang/Object;)Z"⟩ : MethodName) prog_12_method_5_code 3 (some .boolean) :: ws) ({ frames := 2, cells := 0, slots := 0, locals := 28 } : Room)) (fun aa U => aa = #[(.ref x), (.ref y)] ∧ Z.Warmed39 U.vm ∧ U.heap = h0) (fun _ _ _ _ _ => True) (fun _ U o U' => ∃ v L, o = .returned v ∧ Q_qeq Z  h0 n0 v U'.heap L ∧ FrameEnd U o U' L ({ frames := 2, cells := 0, slots := 0, locals := 28 } : Room).cells ({ frames := 2, cells := 0, slots := 0, locals := 28 } : Room).slots) := by
  refine MetFree.of_bodySF (plainFor_of_name pn_qeq) hisR ?_
  intro p e s m args below meth c s₁ Bd hml0 hP hK
  obtain ⟨rfl, hZ, hh⟩ := hP
  have hx := Bd.exec
  have hby := Bd.bytes
  have hml : c.maxLocals = 3 := hml0
  have hown : s.vm.findClass "com/example/requeue/requeue/QueueName" = some m.cls := findClass_of_methodNamed Bd.named
  have hnm := (name_of_methodNamed Bd.named Bd.method).1
  have X0 : Stand p l e ({ frames := 2, cells := 0, slots := 0, locals := 28 } : Room) s m #[(.ref x), (.ref y)] below meth c s₁ [] 0 0 := Stand.of_body Bd
  have e0 : s₁.heap = h0 := by rw [← hh, Bd.state]; rfl
  have N0 := Fr.nil n0
  have S0 : Go p e below s₁ (eF_qeq m x y) s₁ (mkF m 0 #[vR x, vR y, vU] []) := fun t k => castTop (ef_qeq m x y) k
  obtain ⟨⟨cz, S_cs, hcz⟩, ⟨fm, S_fm, hfm⟩⟩ := id SS
  have heq : ∀ d ∈ StrChars.Road.wordsEq, d.before a0 Z = true := fun d hd => hw d (own_wEq d hd)
  have hb0 := own_hb hok
  have S105 : Go p e below s₁ (eF_qeq m x y) s₁ (mkF m 1 #[vR x, vR y, vU] [(.ref y)]) := fun t kt => S0 t (by
    refine XS.aloadN X0.here hx rfl (hb hby d22_0) rfl rfl ?_
    show Sp p e below s₁ (mkF m 1 #[vR x, vR y, vU] [(.ref y)]) _
    exact kt)
  clear S0
  obtain ⟨T106, X106, e106, st106⟩ := instY X0 hx hZ hown (own_h hw 88 rfl) e0 (Ins.self Ey) (g := (mkF m 1 #[vR x, vR y, vU] [(.ref y)])) rfl rfl (hb hby d22_1)
  have S107 : Go p e below s₁ (eF_qeq m x y) T106 (mkF m 4 #[vR x, vR y, vU] [(.int (1 : Int32))]) := fun t kt => S105 t (st106 t kt)
  clear S105 st106 X0 e0
  have S108 : Go p e below s₁ (eF_qeq m x y) T106 (mkF m 8 #[vR x, vR y, vU] [(.ref y)]) := fun t kt => S107 t (by
    refine XS.ifNo X106.here hx rfl (hb hby d22_4) rfl ((if0 _ _).trans (feq (show ¬ ((1 : Int32) = (0 : Int32)) from (by decide))).1) ?_
    show Sp p e below T106 (mkF m 7 #[vR x, vR y, vU] []) _
    refine XS.aloadN X106.here hx rfl (hb hby d22_7) rfl rfl ?_
    show Sp p e below T106 (mkF m 8 #[vR x, vR y, vU] [(.ref y)]) _
    exact kt)
  clear S107
  obtain ⟨T109, X109, e109, st109⟩ := castY X106 hx hZ hown (own_h hw 88 rfl) e106 (Ins.self Ey) (g := (mkF m 8 #[vR x, vR y, vU] [(.ref y)])) rfl rfl (hb hby d22_8)
  have S110 : Go p e below s₁ (eF_qeq m x y) T109 (mkF m 11 #[vR x, vR y, vU] [(.ref y)]) := fun t kt => S108 t (st109 t kt)
  clear S108 st109 X106 e106
  have S111 : Go p e below s₁ (eF_qeq m x y) T109 (mkF m 13 #[vR x, vR y, vR y] [(.ref x)]) := fun t kt => S110 t (by
    refine XS.astoreN X109.here hx rfl (hb hby d22_11) rfl rfl (l' := #[vR x, vR y, vR y]) rfl ?_
    show Sp p e below T109 (mkF m 12 #[vR x, vR y, vR y] []) _
    refine XS.aloadN X109.here hx rfl (hb hby d22_12) rfl rfl ?_
    show Sp p e below T109 (mkF m 13 #[vR x, vR y, vR y] [(.ref x)]) _
    exact kt)
  clear S110
  obtain ⟨T112, X112, e112, st112⟩ := getF X109 hx hZ hown (host := "") (Or.inl (own_h hw 94 rfl)) Via.refl e109 Fx (g := (mkF m 13 #[vR x, vR y, vR y] [(.ref x)])) rfl rfl (hb hby d22_13)
  have S113 : Go p e below s₁ (eF_qeq m x y) T112 (mkF m 16 #[vR x, vR y, vR y] [(.ref a)]) := fun t kt => S111 t (st112 t kt)
  clear S111 st112 X109 e109
  have S114 : Go p e below s₁ (eF_qeq m x y) T112 (mkF m 17 #[vR x, vR y, vR y] [(.ref y), (.ref a)]) := fun t kt => S113 t (by
    refine XS.aloadN X112.here hx rfl (hb hby d22_16) rfl rfl ?_
    show Sp p e below T112 (mkF m 17 #[vR x, vR y, vR y] [(.ref y), (.ref a)]) _
    exact kt)
  clear S113
  obtain ⟨T115, X115, e115, st115⟩ := getF X112 hx hZ hown (host := "") (Or.inl (own_h hw 94 rfl)) Via.refl e112 Fy (g := (mkF m 17 #[vR x, vR y, vR y] [(.ref y), (.ref a)])) rfl rfl (hb hby d22_17)
  have S116 : Go p e below s₁ (eF_qeq m x y) T115 (mkF m 20 #[vR x, vR y, vR y] [(.ref a'), (.ref a)]) := fun t kt => S114 t (st115 t kt)
  clear S114 st115 X112 e112
  obtain ⟨cq117, kq117, q117a, q117b, q117c⟩ := isOf hZ e115 E
  obtain ⟨v117, T117, L117, X117, hQ117, st117⟩ := own_outV (Q := (fun v h' L => ((v = some (.int 1) ∧ cs = cs) ∨ (v = some (.int 0) ∧ ¬ cs = cs)) ∧ L = [] ∧ h' = h0)) (X115.virtualBack hx (y := (⟨"java/lang/String", "equals", "(Ljava/lang/Object;)Z"⟩ : MethodName)) (z := (⟨"java/lang/String", "equals", "(Ljava/lang/Object;)Z"⟩ : MethodName)) hown (mvT hZ (own_h hw 112 rfl)) (mvT hZ (own_h hw 102 rfl)) (notFace_of_selects (args := #[]) (mvT hZ (own_h hw 104 rfl))) (mvT hZ (own_h hw 104 rfl)) (mvT hZ (own_h hw 103 rfl)) (by decide) (StrChars.Road.eqW (W := 0) hZ heq (kI := 4) (own_h hw 7 rfl) E G F V hcd hb0 (by omega) E' G' F' V' hcd' hb0 (by omega) (S_cs.ext O0.2) hcz (by decide) (by decide)) q117a q117c (g := (mkF m 20 #[vR x, vR y, vR y] [(.ref a'), (.ref a)])) rfl (by rw [hml]; rfl) (Steps.refl _) (argsL := [(.ref a')]) (rest := []) (lenOf pd__Ljava_lang_Object__Z rfl) rfl (by show 2 * 0 + _ ≤ _; exact Nat.le_of_eq rfl) (hb hby d22_20) (fun _ _ => ⟨rfl, e115, (by decide : 0 + 0 ≤ _), (by decide : 0 + 0 ≤ _)⟩))
  obtain ⟨hor117, rfl, e117⟩ := hQ117
  obtain rfl : v117 = some (.int 1) := by rcases hor117 with ⟨q, -⟩ | ⟨-, q⟩ <;> first | exact q | exact absurd rfl q
  have N117 := Fr.app N0 (Fr.nil n0)
  have S118 : Go p e below s₁ (eF_qeq m x y) T117 (mkF m 23 #[vR x, vR y, vR y] [(.int (1 : Int32))]) := fun t kt => S116 t (st117 t kt)
  clear S116 st117 X115 e115
  have S119 : Go p e below s₁ (eF_qeq m x y) T117 (mkF m 31 #[vR x, vR y, vR y] [(.int (1 : Int32))]) := fun t kt => S118 t (by
    refine XS.ifNo X117.here hx rfl (hb hby d22_23) rfl ((if0 _ _).trans (feq (show ¬ ((1 : Int32) = (0 : Int32)) from (by decide))).1) ?_
    show Sp p e below T117 (mkF m 26 #[vR x, vR y, vR y] []) _
    refine XS.iconst X117.here hx rfl (hb hby d22_26) ?_
    show Sp p e below T117 (mkF m 27 #[vR x, vR y, vR y] [(.int (1 : Int32))]) _
    refine XS.goto X117.here hx rfl (pc0 := 27) (pc' := 31) rfl (hb hby d22_27) (by decide) (by decide) ?_
    show Sp p e below T117 (mkF m 31 #[vR x, vR y, vR y] [(.int (1 : Int32))]) _
    exact kt)
  clear S118
  obtain ⟨fs, hr, hrun, hended, hW, hsame⟩ := X117.leave (v := some (.int (1 : Int32))) (fun h => by first | rfl | (rw [Bd.returns] at h; cases h))
  refine ⟨_, _, S119 _ ?_, hrun, hended, _, _, rfl, ?_, ⟨_, rfl⟩, hW, hsame.mono (by decide) (by decide)⟩
  · exact retN X117 hx (t := .boolean) Bd.returns (by simp) (hb hby d22_31) hr
  · show Q_qeq Z  h0 n0 _ T117.heap _
    rw [e117]
    exact ⟨rfl, N117, rfl⟩
abbrev eF_law (m : MethodId) (x0 : Int32) (x1 : Int32) (x2 : Int32) (x3 : Int32) (x4 : Int32) (x5 : Int32) : JFrame := entryFrame m #[(.int x0), (.int x1), (.int x2), (.int x3), (.int x4), (.int x5)] maxLocals
theorem ef_law (m : MethodId) (x0 : Int32) (x1 : Int32) (x2 : Int32) (x3 : Int32) (x4 : Int32) (x5 : Int32) : entryFrame m #[(.int x0), (.int x1), (.int x2), (.int x3), (.int x4), (.int x5)] maxLocals = mkF m 0 #[.val (.int x0), .val (.int x1), .val (.int x2), .val (.int x3), .val (.int x4), .val (.int x5), .unset, .unset, .unset, .unset, .unset, .unset, .unset, .unset, .unset, .unset, .unset] [] := by first | (simp [entryFrame, mkF, argsToLocals, Value.category, maxLocals]; done) | rfl
theorem pn_law : plainName "com/example/requeue/requeue/QueueNameOfPinLaw" = true := by first | (simp [plainName, overriddenIn]; done) | decide +kernel
def Q_law (Z : State)  (h0 : Heap) (n0 : Nat) (v : Option Value) (h : Heap) (L : List Loc) : Prop := v = some (.int 1) ∧ Fr n0 L
set_option maxRecDepth 65536 in
set_option maxHeartbeats 40000000 in
theorem rm_law (l : Launch) (Z : State) (a0 : Array Value) (hw : ∀ d ∈ tables_1, d.before a0 Z = true) (ws : List Jvm.Cond) (a : Int32) (b : Int32) (d : Int32) (f : Int32) (g : Int32) (md : Int32) (h0 : Heap) (n0 : Nat) (Z0 : n0 ≤ h0.size) (SS : own_St Z) (O0 : Old Z n0 h0)(hcst : Jvm.Lit.constHeld Z "com/example/requeue/requeue/QueueNameOfPinLaw" 7) (hcst2 : Jvm.Lit.constHeld Z "com/example/requeue/requeue/QueueNameOfPinLaw" 21) (hcw : Jvm.Lit.compactW.before a0 Z = true) (hn0 : n0 = h0.size) :
    MetFree l x (head1 (Jvm.Cond.code x code maxLocals ret :: ws) room_1) (fun aa U => aa = #[(.int a), (.int b), (.int d), (.int f), (.int g), (.int md)] ∧ Z.Warmed39 U.vm ∧ U.heap = h0 ∧ IB Z U.vm []) (fun _ _ _ _ _ => True) (fun _ U o U' => ∃ v L, o = .returned v ∧ Q_law Z  h0 n0 v U'.heap L ∧ ReturnedEndW U o U' L 17 581) := by
  refine MetFree.of_bodySF (plainFor_of_name pn_law) hisR ?_
  intro p e s m args below meth c s₁ Bd hml0 hP hK
  obtain ⟨rfl, hZ, hh, hPv⟩ := hP
  have hx := Bd.exec
  have hby := Bd.bytes
  have hml : c.maxLocals = 17 := hml0
  have hown : s.vm.findClass "com/example/requeue/requeue/QueueNameOfPinLaw" = some m.cls := findClass_of_methodNamed Bd.named
  have hnm := (name_of_methodNamed Bd.named Bd.method).1
  have X0 : Stand p l e room_1 (s.setVm s.vm) m #[(.int a), (.int b), (.int d), (.int f), (.int g), (.int md)] below meth c s₁ [] 0 0 := Stand.of_body Bd
  have e0 : s₁.heap = h0 := by rw [← hh, Bd.state]; rfl
  have N0 := Fr.nil n0
  have S0 : Go p e below s₁ (eF_law m a b d f g md) s₁ (mkF m 0 #[vI a, vI b, vI d, vI f, vI g, vI md, vU, vU, vU, vU, vU, vU, vU, vU, vU, vU, vU] []) := fun t k => castTop (ef_law m a b d f g md) k
  have hZ : Z.Warmed39 (s.setVm s.vm).vm := hZ
  have hown : (s.setVm s.vm).vm.findClass "com/example/requeue/requeue/QueueNameOfPinLaw" = some m.cls := hown
  have hS : s.Since s.vm 0 := (State.WarmedH.refl s).since 0
  have hki0 := Nat.zero_le h0.size
  obtain ⟨⟨cz, S_cs, hcz⟩, ⟨fm, S_fm, hfm⟩⟩ := id SS
  have heq : ∀ d ∈ StrChars.Road.wordsEq, d.before a0 Z = true := fun d hd => hw d (own_wEq d hd)
  have hws : ∀ d ∈ StrChars.Road.words, d.before a0 Z = true := fun d hd => hw d (own_w d hd)
  have S120 : Go p e below s₁ (eF_law m a b d f g md) s₁ (mkF m 1 #[vI a, vI b, vI d, vI f, vI g, vI md, vU, vU, vU, vU, vU, vU, vU, vU, vU, vU, vU] [(.int (1 : Int32))]) := fun t kt => S0 t (by
    refine XS.iconst X0.here hx rfl (hb hby at_0) ?_
    show Sp p e below s₁ (mkF m 1 #[vI a, vI b, vI d, vI f, vI g, vI md, vU, vU, vU, vU, vU, vU, vU, vU, vU, vU, vU] [(.int (1 : Int32))]) _
    exact kt)
  clear S0
  obtain ⟨T121, h121, k121, X121, e121, E121, A121, st121⟩ := newP X0 hx hZ (own_h hw 0 rfl) e0 (g := (mkF m 1 #[vI a, vI b, vI d, vI f, vI g, vI md, vU, vU, vU, vU, vU, vU, vU, vU, vU, vU, vU] [(.int (1 : Int32))])) rfl (hb hby at_1) rfl (by decide) (cap := 1) (by decide) (by decide) (by decide) (by decide)
  obtain ⟨ar1, g121⟩ : ∃ z, z = h0.size := ⟨_, rfl⟩
  rw [← g121] at A121 st121
  have g_ar1 : n0 ≤ ar1 := Nat.le_trans Z0 (Nat.le_of_eq g121.symm)
  have V121 : Arv Z h121 ar1 k121 .char (1 : Int32) [(.int (0 : Int32))] (.int (0 : Int32)) := (Arv.new A121 (by decide)).pad (pad_rep [] _ 1)
  have S122 : Go p e below s₁ (eF_law m a b d f g md) T121 (mkF m 3 #[vI a, vI b, vI d, vI f, vI g, vI md, vU, vU, vU, vU, vU, vU, vU, vU, vU, vU, vU] [(.ref ar1)]) := fun t kt => S120 t (st121 t kt)
  clear S120 st121 X0 e0
  have S123 : Go p e below s₁ (eF_law m a b d f g md) T121 (mkF m 6 #[vI a, vI b, vI d, vI f, vI g, vI md, vU, vU, vU, vU, vU, vU, vU, vU, vU, vU, vU] [(.int a), (.int (0 : Int32)), (.ref ar1), (.ref ar1)]) := fun t kt => S122 t (by
    refine XS.dup X121.here hx rfl (hb hby at_3) rfl rfl ?_
    show Sp p e below T121 (mkF m 4 #[vI a, vI b, vI d, vI f, vI g, vI md, vU, vU, vU, vU, vU, vU, vU, vU, vU, vU, vU] [(.ref ar1), (.ref ar1)]) _
    refine XS.iconst X121.here hx rfl (hb hby at_4) ?_
    show Sp p e below T121 (mkF m 5 #[vI a, vI b, vI d, vI f, vI g, vI md, vU, vU, vU, vU, vU, vU, vU, vU, vU, vU, vU] [(.int (0 : Int32)), (.ref ar1), (.ref ar1)]) _
    refine XS.iloadN X121.here hx rfl (hb hby at_5) rfl ?_
    show Sp p e below T121 (mkF m 6 #[vI a, vI b, vI d, vI f, vI g, vI md, vU, vU, vU, vU, vU, vU, vU, vU, vU, vU, vU] [(.int a), (.int (0 : Int32)), (.ref ar1), (.ref ar1)]) _
    exact kt)
  clear S122
  have z124 := (Nat.le_trans Z0 E121.1)
  have f125 := (O0.ext E121)
  obtain ⟨v126, T126, L126, X126, hQ126, hS, hgr126, hZ, hown, st126⟩ := own_outSS hS (by rw [e121]; exact (Nat.le_trans hki0 E121.1)) hZ hown (Jvm.RoadKit.callSS X121 hx (y := (⟨"com/example/requeue/requeue/QueueNameOfPinLaw", "pick", "(I)C"⟩ : MethodName)) hown (mvT hZ (own_h hw 1 rfl)) (mvT hZ (own_h hw 2 rfl)) (mvT hZ (own_h hw 3 rfl)) (mvT hZ (own_h hw 4 rfl)) (by decide) (own_backS (W := 3) (Pv := fun U => IB Z U.vm []) (rm_pickC l Z a0 hw [] a h121 n0 z124 SS f125 hcst hcw) hZ (own_h hw 4 rfl) (own_h hw 3 rfl) (by decide) (by decide) (own_ibU hPv)) (g := (mkF m 6 #[vI a, vI b, vI d, vI f, vI g, vI md, vU, vU, vU, vU, vU, vU, vU, vU, vU, vU, vU] [(.int a), (.int (0 : Int32)), (.ref ar1), (.ref ar1)])) rfl (by rw [hml]; rfl) (argsL := [(.int a)]) (rest := [(.int (0 : Int32)), (.ref ar1), (.ref ar1)]) (lenOf pd__I_C rfl) rfl (by show 2 * 0 + _ ≤ _; exact Nat.le_of_eq rfl) (hb hby at_6) (fun _ _ => ⟨rfl, e121, (by decide : 1 + 2 ≤ _), (by decide : 1 + 264 ≤ _)⟩))
  obtain ⟨c1_0, rfl, hk_c1_0, N126q, K126, la, lb, lk, hLit126, hIB126, El126, Fl126, Gl126, Vl126⟩ := hQ126
  have N126 := Fr.app N0 N126q
  obtain ⟨Lo126, X126o, N126o⟩ := own_hl X126 N126
  have hib1 := hIB126
  have hki126 := Nat.le_refl T126.heap.size
  have S127 : Go p e below s₁ (eF_law m a b d f g md) T126 (mkF m 9 #[vI a, vI b, vI d, vI f, vI g, vI md, vU, vU, vU, vU, vU, vU, vU, vU, vU, vU, vU] [(.int c1_0), (.int (0 : Int32)), (.ref ar1), (.ref ar1)]) := fun t kt => S123 t (st126 t kt)
  clear S123 st126 X121 e121 X126 N126
  have hlit : Lit (s.setVm T126.vm) "com/example/requeue/requeue/QueueNameOfPinLaw" 7 la := hLit126
  have hcd : StrChars.Road.CodA own_t65 0 (65 : Int32) (own_vs own_t65) := own_coda rfl own_ok65
  have f128 := (V121.keep K126 nin0)
  obtain ⟨co129, Ao129, qo129, So129, No129, Ho129, Go129⟩ := id f128
  have hino129 : ¬ ((0 : Int32) < 0 ∨ co129.slots.size ≤ ((0 : Int32)).toNatClampNeg) := inb_of So129 ⟨by decide, by decide⟩
  obtain ⟨T130, h130, X130, e130, W130, st130⟩ := stC X126o hx hZ rfl Ao129 (j := (0 : Int32)) hino129 (g := (mkF m 9 #[vI a, vI b, vI d, vI f, vI g, vI md, vU, vU, vU, vU, vU, vU, vU, vU, vU, vU, vU] [(.int c1_0), (.int (0 : Int32)), (.ref ar1), (.ref ar1)])) rfl rfl (hb hby at_9)
  have N130 := Fr.snoc X130 N126o g_ar1
  obtain ⟨Lo130, X130o, N130o⟩ := own_hl X130 N130
  have V130 : Arv Z h130 ar1 k121 .char (1 : Int32) [(.int (c1_0.toUInt32.toUInt16.toUInt32.toInt32))] (.int (0 : Int32)) := Arv.set Ao129 qo129 So129 No129 Ho129 Go129 (fits_nar_char _) W130 0 rfl (Nat.le_of_ble_eq_true rfl)
  rw [own_nc2 hk_c1_0] at V130
  have S131 : Go p e below s₁ (eF_law m a b d f g md) T130 (mkF m 10 #[vI a, vI b, vI d, vI f, vI g, vI md, vU, vU, vU, vU, vU, vU, vU, vU, vU, vU, vU] [(.ref ar1)]) := fun t kt => S127 t (st130 t kt)
  clear S127 st130 X126o X130 N130
  have S132 : Go p e below s₁ (eF_law m a b d f g md) T130 (mkF m 13 #[vI a, vI b, vI d, vI f, vI g, vI md, vR ar1, vU, vU, vU, vU, vU, vU, vU, vU, vU, vU] [(.int (2 : Int32))]) := fun t kt => S131 t (by
    refine XS.astore X130o.here hx rfl (hb hby at_10) rfl rfl (l' := #[vI a, vI b, vI d, vI f, vI g, vI md, vR ar1, vU, vU, vU, vU, vU, vU, vU, vU, vU, vU]) rfl ?_
    show Sp p e below T130 (mkF m 12 #[vI a, vI b, vI d, vI f, vI g, vI md, vR ar1, vU, vU, vU, vU, vU, vU, vU, vU, vU, vU] []) _
    refine XS.iconst X130o.here hx rfl (hb hby at_12) ?_
    show Sp p e below T130 (mkF m 13 #[vI a, vI b, vI d, vI f, vI g, vI md, vR ar1, vU, vU, vU, vU, vU, vU, vU, vU, vU, vU] [(.int (2 : Int32))]) _
    exact kt)
  clear S131
  obtain ⟨T133, h133, k133, X133, e133, E133, A133, st133⟩ := newP X130o hx hZ (own_h hw 0 rfl) e130 (g := (mkF m 13 #[vI a, vI b, vI d, vI f, vI g, vI md, vR ar1, vU, vU, vU, vU, vU, vU, vU, vU, vU, vU] [(.int (2 : Int32))])) rfl (hb hby at_13) rfl (by decide) (cap := 2) (by decide) (by decide) (by decide) (by decide)
  obtain ⟨ar2, g133⟩ : ∃ z, z = h130.size := ⟨_, rfl⟩
  rw [← g133] at A133 st133
  have f134 := (El126.wr W130)
  have ne135 : la ≠ ar2 := by rw [g133]; exact Nat.ne_of_lt f134.lt
  have ne136 : ar1 ≠ ar2 := by rw [g133]; exact Nat.ne_of_lt V130.lt
  have ne137 : lb ≠ ar1 := own_neArr Vl126 f128 (by decide)
  have f138 := (Vl126.other W130 ne137)
  have ne139 : lb ≠ ar2 := by rw [g133]; exact Nat.ne_of_lt f138.lt
  have z140 := (Nat.le_trans (Nat.le_trans z124 K126.1) (Keep.of_wr W130).1)
  have g_ar2 : n0 ≤ ar2 := Nat.le_trans z140 (Nat.le_of_eq g133.symm)
  have V133 : Arv Z h133 ar2 k133 .char (2 : Int32) [(.int (0 : Int32)), (.int (0 : Int32))] (.int (0 : Int32)) := (Arv.new A133 (by decide)).pad (pad_rep [] _ 2)
  have S141 : Go p e below s₁ (eF_law m a b d f g md) T133 (mkF m 15 #[vI a, vI b, vI d, vI f, vI g, vI md, vR ar1, vU, vU, vU, vU, vU, vU, vU, vU, vU, vU] [(.ref ar2)]) := fun t kt => S132 t (st133 t kt)
  clear S132 st133 X130o e130
  have S142 : Go p e below s₁ (eF_law m a b d f g md) T133 (mkF m 18 #[vI a, vI b, vI d, vI f, vI g, vI md, vR ar1, vU, vU, vU, vU, vU, vU, vU, vU, vU, vU] [(.int a), (.int (0 : Int32)), (.ref ar2), (.ref ar2)]) := fun t kt => S141 t (by
    refine XS.dup X133.here hx rfl (hb hby at_15) rfl rfl ?_
    show Sp p e below T133 (mkF m 16 #[vI a, vI b, vI d, vI f, vI g, vI md, vR ar1, vU, vU, vU, vU, vU, vU, vU, vU, vU, vU] [(.ref ar2), (.ref ar2)]) _
    refine XS.iconst X133.here hx rfl (hb hby at_16) ?_
    show Sp p e below T133 (mkF m 17 #[vI a, vI b, vI d, vI f, vI g, vI md, vR ar1, vU, vU, vU, vU, vU, vU, vU, vU, vU, vU] [(.int (0 : Int32)), (.ref ar2), (.ref ar2)]) _
    refine XS.iloadN X133.here hx rfl (hb hby at_17) rfl ?_
    show Sp p e below T133 (mkF m 18 #[vI a, vI b, vI d, vI f, vI g, vI md, vR ar1, vU, vU, vU, vU, vU, vU, vU, vU, vU, vU] [(.int a), (.int (0 : Int32)), (.ref ar2), (.ref ar2)]) _
    exact kt)
  clear S141
  have z143 := (Nat.le_trans z140 E133.1)
  have f144 := (((f125.keep K126 all0).wr W130 g_ar1).ext E133)
  have f145 := (f134.ext E133)
  have ne146 : la ≠ ar1 := own_neStr El126 f128 (own_h hw 7 rfl)
  have f147 := ((Fl126.other W130 (Or.inl ne146)).ext E133)
  have f148 := ((Gl126.other W130 (Or.inl ne146)).ext E133)
  have f149 := (f138.ext E133)
  obtain ⟨v150, T150, L150, X150, hQ150, st150⟩ := own_outS (Jvm.LawKit.callS X133 hx (y := (⟨"com/example/requeue/requeue/QueueNameOfPinLaw", "pick", "(I)C"⟩ : MethodName)) hown (mvT hZ (own_h hw 1 rfl)) (mvT hZ (own_h hw 2 rfl)) (mvT hZ (own_h hw 3 rfl)) (mvT hZ (own_h hw 4 rfl)) (by decide) (own_backL (W := 3) (Pv := fun U => Lit U "com/example/requeue/requeue/QueueNameOfPinLaw" 7 la) (rm_pickW l Z a0 hw [] a la lb lk h133 n0 z143 SS f144 f145 f147 f148 f149 hcd) hZ (own_h hw 4 rfl) (own_h hw 3 rfl) (by decide) (by decide) (own_litU hlit)) (g := (mkF m 18 #[vI a, vI b, vI d, vI f, vI g, vI md, vR ar1, vU, vU, vU, vU, vU, vU, vU, vU, vU, vU] [(.int a), (.int (0 : Int32)), (.ref ar2), (.ref ar2)])) rfl (by rw [hml]; rfl) (argsL := [(.int a)]) (rest := [(.int (0 : Int32)), (.ref ar2), (.ref ar2)]) (lenOf pd__I_C rfl) rfl (by show 2 * 0 + _ ≤ _; exact Nat.le_of_eq rfl) (hb hby at_18) (fun _ _ => ⟨rfl, e133, (by decide : 4 + 0 ≤ _), (by decide : 267 + 0 ≤ _)⟩))
  obtain ⟨c2_0, rfl, hk_c2_0, N150q, e150⟩ := hQ150
  have N150 := Fr.app N130o N150q
  obtain ⟨Lo150, X150o, N150o⟩ := own_hl X150 N150
  have S151 : Go p e below s₁ (eF_law m a b d f g md) T150 (mkF m 21 #[vI a, vI b, vI d, vI f, vI g, vI md, vR ar1, vU, vU, vU, vU, vU, vU, vU, vU, vU, vU] [(.int c2_0), (.int (0 : Int32)), (.ref ar2), (.ref ar2)]) := fun t kt => S142 t (st150 t kt)
  clear S142 st150 X133 e133 X150 N150
  obtain ⟨co152, Ao152, qo152, So152, No152, Ho152, Go152⟩ := id V133
  have hino152 : ¬ ((0 : Int32) < 0 ∨ co152.slots.size ≤ ((0 : Int32)).toNatClampNeg) := inb_of So152 ⟨by decide, by decide⟩
  obtain ⟨T153, h153, X153, e153, W153, st153⟩ := stC X150o hx hZ e150 Ao152 (j := (0 : Int32)) hino152 (g := (mkF m 21 #[vI a, vI b, vI d, vI f, vI g, vI md, vR ar1, vU, vU, vU, vU, vU, vU, vU, vU, vU, vU] [(.int c2_0), (.int (0 : Int32)), (.ref ar2), (.ref ar2)])) rfl rfl (hb hby at_21)
  have N153 := Fr.snoc X153 N150o g_ar2
  obtain ⟨Lo153, X153o, N153o⟩ := own_hl X153 N153
  have V153 : Arv Z h153 ar2 k133 .char (2 : Int32) [(.int (c2_0.toUInt32.toUInt16.toUInt32.toInt32)), (.int (0 : Int32))] (.int (0 : Int32)) := Arv.set Ao152 qo152 So152 No152 Ho152 Go152 (fits_nar_char _) W153 0 rfl (Nat.le_of_ble_eq_true rfl)
  rw [own_nc2 hk_c2_0] at V153
  have S154 : Go p e below s₁ (eF_law m a b d f g md) T153 (mkF m 22 #[vI a, vI b, vI d, vI f, vI g, vI md, vR ar1, vU, vU, vU, vU, vU, vU, vU, vU, vU, vU] [(.ref ar2)]) := fun t kt => S151 t (st153 t kt)
  clear S151 st153 X150o e150 X153 N153
  have S155 : Go p e below s₁ (eF_law m a b d f g md) T153 (mkF m 25 #[vI a, vI b, vI d, vI f, vI g, vI md, vR ar1, vU, vU, vU, vU, vU, vU, vU, vU, vU, vU] [(.int b), (.int (1 : Int32)), (.ref ar2), (.ref ar2)]) := fun t kt => S154 t (by
    refine XS.dup X153o.here hx rfl (hb hby at_22) rfl rfl ?_
    show Sp p e below T153 (mkF m 23 #[vI a, vI b, vI d, vI f, vI g, vI md, vR ar1, vU, vU, vU, vU, vU, vU, vU, vU, vU, vU] [(.ref ar2), (.ref ar2)]) _
    refine XS.iconst X153o.here hx rfl (hb hby at_23) ?_
    show Sp p e below T153 (mkF m 24 #[vI a, vI b, vI d, vI f, vI g, vI md, vR ar1, vU, vU, vU, vU, vU, vU, vU, vU, vU, vU] [(.int (1 : Int32)), (.ref ar2), (.ref ar2)]) _
    refine XS.iloadN X153o.here hx rfl (hb hby at_24) rfl ?_
    show Sp p e below T153 (mkF m 25 #[vI a, vI b, vI d, vI f, vI g, vI md, vR ar1, vU, vU, vU, vU, vU, vU, vU, vU, vU, vU] [(.int b), (.int (1 : Int32)), (.ref ar2), (.ref ar2)]) _
    exact kt)
  clear S154
  have z156 := (Nat.le_trans z143 (Keep.of_wr W153).1)
  have f157 := (f144.wr W153 g_ar2)
  have f158 := (f145.wr W153)
  have f159 := (f147.other W153 (Or.inl ne135))
  have f160 := (f148.other W153 (Or.inl ne135))
  have f161 := (f149.other W153 ne139)
  obtain ⟨v162, T162, L162, X162, hQ162, st162⟩ := own_outS (Jvm.LawKit.callS X153o hx (y := (⟨"com/example/requeue/requeue/QueueNameOfPinLaw", "pick", "(I)C"⟩ : MethodName)) hown (mvT hZ (own_h hw 1 rfl)) (mvT hZ (own_h hw 2 rfl)) (mvT hZ (own_h hw 3 rfl)) (mvT hZ (own_h hw 4 rfl)) (by decide) (own_backL (W := 3) (Pv := fun U => Lit U "com/example/requeue/requeue/QueueNameOfPinLaw" 7 la) (rm_pickW l Z a0 hw [] b la lb lk h153 n0 z156 SS f157 f158 f159 f160 f161 hcd) hZ (own_h hw 4 rfl) (own_h hw 3 rfl) (by decide) (by decide) (own_litU hlit)) (g := (mkF m 25 #[vI a, vI b, vI d, vI f, vI g, vI md, vR ar1, vU, vU, vU, vU, vU, vU, vU, vU, vU, vU] [(.int b), (.int (1 : Int32)), (.ref ar2), (.ref ar2)])) rfl (by rw [hml]; rfl) (argsL := [(.int b)]) (rest := [(.int (1 : Int32)), (.ref ar2), (.ref ar2)]) (lenOf pd__I_C rfl) rfl (by show 2 * 0 + _ ≤ _; exact Nat.le_of_eq rfl) (hb hby at_25) (fun _ _ => ⟨rfl, e153, (by decide : 4 + 0 ≤ _), (by decide : 267 + 0 ≤ _)⟩))
  obtain ⟨c2_1, rfl, hk_c2_1, N162q, e162⟩ := hQ162
  have N162 := Fr.app N153o N162q
  obtain ⟨Lo162, X162o, N162o⟩ := own_hl X162 N162
  have S163 : Go p e below s₁ (eF_law m a b d f g md) T162 (mkF m 28 #[vI a, vI b, vI d, vI f, vI g, vI md, vR ar1, vU, vU, vU, vU, vU, vU, vU, vU, vU, vU] [(.int c2_1), (.int (1 : Int32)), (.ref ar2), (.ref ar2)]) := fun t kt => S155 t (st162 t kt)
  clear S155 st162 X153o e153 X162 N162
  obtain ⟨co164, Ao164, qo164, So164, No164, Ho164, Go164⟩ := id V153
  have hino164 : ¬ ((1 : Int32) < 0 ∨ co164.slots.size ≤ ((1 : Int32)).toNatClampNeg) := inb_of So164 ⟨by decide, by decide⟩
  obtain ⟨T165, h165, X165, e165, W165, st165⟩ := stC X162o hx hZ e162 Ao164 (j := (1 : Int32)) hino164 (g := (mkF m 28 #[vI a, vI b, vI d, vI f, vI g, vI md, vR ar1, vU, vU, vU, vU, vU, vU, vU, vU, vU, vU] [(.int c2_1), (.int (1 : Int32)), (.ref ar2), (.ref ar2)])) rfl rfl (hb hby at_28)
  have N165 := Fr.snoc X165 N162o g_ar2
  obtain ⟨Lo165, X165o, N165o⟩ := own_hl X165 N165
  have V165 : Arv Z h165 ar2 k133 .char (2 : Int32) [(.int c2_0), (.int (c2_1.toUInt32.toUInt16.toUInt32.toInt32))] (.int (0 : Int32)) := Arv.set Ao164 qo164 So164 No164 Ho164 Go164 (fits_nar_char _) W165 1 rfl (Nat.le_of_ble_eq_true rfl)
  rw [own_nc2 hk_c2_1] at V165
  have S166 : Go p e below s₁ (eF_law m a b d f g md) T165 (mkF m 29 #[vI a, vI b, vI d, vI f, vI g, vI md, vR ar1, vU, vU, vU, vU, vU, vU, vU, vU, vU, vU] [(.ref ar2)]) := fun t kt => S163 t (st165 t kt)
  clear S163 st165 X162o e162 X165 N165
  have S167 : Go p e below s₁ (eF_law m a b d f g md) T165 (mkF m 32 #[vI a, vI b, vI d, vI f, vI g, vI md, vR ar1, vR ar2, vU, vU, vU, vU, vU, vU, vU, vU, vU] [(.int (3 : Int32))]) := fun t kt => S166 t (by
    refine XS.astore X165o.here hx rfl (hb hby at_29) rfl rfl (l' := #[vI a, vI b, vI d, vI f, vI g, vI md, vR ar1, vR ar2, vU, vU, vU, vU, vU, vU, vU, vU, vU]) rfl ?_
    show Sp p e below T165 (mkF m 31 #[vI a, vI b, vI d, vI f, vI g, vI md, vR ar1, vR ar2, vU, vU, vU, vU, vU, vU, vU, vU, vU] []) _
    refine XS.iconst X165o.here hx rfl (hb hby at_31) ?_
    show Sp p e below T165 (mkF m 32 #[vI a, vI b, vI d, vI f, vI g, vI md, vR ar1, vR ar2, vU, vU, vU, vU, vU, vU, vU, vU, vU] [(.int (3 : Int32))]) _
    exact kt)
  clear S166
  obtain ⟨T168, h168, k168, X168, e168, E168, A168, st168⟩ := newP X165o hx hZ (own_h hw 0 rfl) e165 (g := (mkF m 32 #[vI a, vI b, vI d, vI f, vI g, vI md, vR ar1, vR ar2, vU, vU, vU, vU, vU, vU, vU, vU, vU] [(.int (3 : Int32))])) rfl (hb hby at_32) rfl (by decide) (cap := 3) (by decide) (by decide) (by decide) (by decide)
  obtain ⟨ar3, g168⟩ : ∃ z, z = h165.size := ⟨_, rfl⟩
  rw [← g168] at A168 st168
  have f169 := (f158.wr W165)
  have ne170 : la ≠ ar3 := by rw [g168]; exact Nat.ne_of_lt f169.lt
  have f171 := (((V130.ext E133).other W153 ne136).other W165 ne136)
  have ne172 : ar1 ≠ ar3 := by rw [g168]; exact Nat.ne_of_lt f171.lt
  have f173 := (f161.other W165 ne139)
  have ne174 : lb ≠ ar3 := by rw [g168]; exact Nat.ne_of_lt f173.lt
  have ne175 : ar2 ≠ ar3 := by rw [g168]; exact Nat.ne_of_lt V165.lt
  have z176 := (Nat.le_trans z156 (Keep.of_wr W165).1)
  have g_ar3 : n0 ≤ ar3 := Nat.le_trans z176 (Nat.le_of_eq g168.symm)
  have V168 : Arv Z h168 ar3 k168 .char (3 : Int32) [(.int (0 : Int32)), (.int (0 : Int32)), (.int (0 : Int32))] (.int (0 : Int32)) := (Arv.new A168 (by decide)).pad (pad_rep [] _ 3)
  have S177 : Go p e below s₁ (eF_law m a b d f g md) T168 (mkF m 34 #[vI a, vI b, vI d, vI f, vI g, vI md, vR ar1, vR ar2, vU, vU, vU, vU, vU, vU, vU, vU, vU] [(.ref ar3)]) := fun t kt => S167 t (st168 t kt)
  clear S167 st168 X165o e165
  have S178 : Go p e below s₁ (eF_law m a b d f g md) T168 (mkF m 37 #[vI a, vI b, vI d, vI f, vI g, vI md, vR ar1, vR ar2, vU, vU, vU, vU, vU, vU, vU, vU, vU] [(.int a), (.int (0 : Int32)), (.ref ar3), (.ref ar3)]) := fun t kt => S177 t (by
    refine XS.dup X168.here hx rfl (hb hby at_34) rfl rfl ?_
    show Sp p e below T168 (mkF m 35 #[vI a, vI b, vI d, vI f, vI g, vI md, vR ar1, vR ar2, vU, vU, vU, vU, vU, vU, vU, vU, vU] [(.ref ar3), (.ref ar3)]) _
    refine XS.iconst X168.here hx rfl (hb hby at_35) ?_
    show Sp p e below T168 (mkF m 36 #[vI a, vI b, vI d, vI f, vI g, vI md, vR ar1, vR ar2, vU, vU, vU, vU, vU, vU, vU, vU, vU] [(.int (0 : Int32)), (.ref ar3), (.ref ar3)]) _
    refine XS.iloadN X168.here hx rfl (hb hby at_36) rfl ?_
    show Sp p e below T168 (mkF m 37 #[vI a, vI b, vI d, vI f, vI g, vI md, vR ar1, vR ar2, vU, vU, vU, vU, vU, vU, vU, vU, vU] [(.int a), (.int (0 : Int32)), (.ref ar3), (.ref ar3)]) _
    exact kt)
  clear S177
  have z179 := (Nat.le_trans z176 E168.1)
  have f180 := ((f157.wr W165 g_ar2).ext E168)
  have f181 := (f169.ext E168)
  have f182 := ((f159.other W165 (Or.inl ne135)).ext E168)
  have f183 := ((f160.other W165 (Or.inl ne135)).ext E168)
  have f184 := (f173.ext E168)
  obtain ⟨v185, T185, L185, X185, hQ185, st185⟩ := own_outS (Jvm.LawKit.callS X168 hx (y := (⟨"com/example/requeue/requeue/QueueNameOfPinLaw", "pick", "(I)C"⟩ : MethodName)) hown (mvT hZ (own_h hw 1 rfl)) (mvT hZ (own_h hw 2 rfl)) (mvT hZ (own_h hw 3 rfl)) (mvT hZ (own_h hw 4 rfl)) (by decide) (own_backL (W := 3) (Pv := fun U => Lit U "com/example/requeue/requeue/QueueNameOfPinLaw" 7 la) (rm_pickW l Z a0 hw [] a la lb lk h168 n0 z179 SS f180 f181 f182 f183 f184 hcd) hZ (own_h hw 4 rfl) (own_h hw 3 rfl) (by decide) (by decide) (own_litU hlit)) (g := (mkF m 37 #[vI a, vI b, vI d, vI f, vI g, vI md, vR ar1, vR ar2, vU, vU, vU, vU, vU, vU, vU, vU, vU] [(.int a), (.int (0 : Int32)), (.ref ar3), (.ref ar3)])) rfl (by rw [hml]; rfl) (argsL := [(.int a)]) (rest := [(.int (0 : Int32)), (.ref ar3), (.ref ar3)]) (lenOf pd__I_C rfl) rfl (by show 2 * 0 + _ ≤ _; exact Nat.le_of_eq rfl) (hb hby at_37) (fun _ _ => ⟨rfl, e168, (by decide : 5 + 0 ≤ _), (by decide : 270 + 0 ≤ _)⟩))
  obtain ⟨c3_0, rfl, hk_c3_0, N185q, e185⟩ := hQ185
  have N185 := Fr.app N165o N185q
  obtain ⟨Lo185, X185o, N185o⟩ := own_hl X185 N185
  have S186 : Go p e below s₁ (eF_law m a b d f g md) T185 (mkF m 40 #[vI a, vI b, vI d, vI f, vI g, vI md, vR ar1, vR ar2, vU, vU, vU, vU, vU, vU, vU, vU, vU] [(.int c3_0), (.int (0 : Int32)), (.ref ar3), (.ref ar3)]) := fun t kt => S178 t (st185 t kt)
  clear S178 st185 X168 e168 X185 N185
  obtain ⟨co187, Ao187, qo187, So187, No187, Ho187, Go187⟩ := id V168
  have hino187 : ¬ ((0 : Int32) < 0 ∨ co187.slots.size ≤ ((0 : Int32)).toNatClampNeg) := inb_of So187 ⟨by decide, by decide⟩
  obtain ⟨T188, h188, X188, e188, W188, st188⟩ := stC X185o hx hZ e185 Ao187 (j := (0 : Int32)) hino187 (g := (mkF m 40 #[vI a, vI b, vI d, vI f, vI g, vI md, vR ar1, vR ar2, vU, vU, vU, vU, vU, vU, vU, vU, vU] [(.int c3_0), (.int (0 : Int32)), (.ref ar3), (.ref ar3)])) rfl rfl (hb hby at_40)
  have N188 := Fr.snoc X188 N185o g_ar3
  obtain ⟨Lo188, X188o, N188o⟩ := own_hl X188 N188
  have V188 : Arv Z h188 ar3 k168 .char (3 : Int32) [(.int (c3_0.toUInt32.toUInt16.toUInt32.toInt32)), (.int (0 : Int32)), (.int (0 : Int32))] (.int (0 : Int32)) := Arv.set Ao187 qo187 So187 No187 Ho187 Go187 (fits_nar_char _) W188 0 rfl (Nat.le_of_ble_eq_true rfl)
  rw [own_nc2 hk_c3_0] at V188
  have S189 : Go p e below s₁ (eF_law m a b d f g md) T188 (mkF m 41 #[vI a, vI b, vI d, vI f, vI g, vI md, vR ar1, vR ar2, vU, vU, vU, vU, vU, vU, vU, vU, vU] [(.ref ar3)]) := fun t kt => S186 t (st188 t kt)
  clear S186 st188 X185o e185 X188 N188
  have S190 : Go p e below s₁ (eF_law m a b d f g md) T188 (mkF m 44 #[vI a, vI b, vI d, vI f, vI g, vI md, vR ar1, vR ar2, vU, vU, vU, vU, vU, vU, vU, vU, vU] [(.int b), (.int (1 : Int32)), (.ref ar3), (.ref ar3)]) := fun t kt => S189 t (by
    refine XS.dup X188o.here hx rfl (hb hby at_41) rfl rfl ?_
    show Sp p e below T188 (mkF m 42 #[vI a, vI b, vI d, vI f, vI g, vI md, vR ar1, vR ar2, vU, vU, vU, vU, vU, vU, vU, vU, vU] [(.ref ar3), (.ref ar3)]) _
    refine XS.iconst X188o.here hx rfl (hb hby at_42) ?_
    show Sp p e below T188 (mkF m 43 #[vI a, vI b, vI d, vI f, vI g, vI md, vR ar1, vR ar2, vU, vU, vU, vU, vU, vU, vU, vU, vU] [(.int (1 : Int32)), (.ref ar3), (.ref ar3)]) _
    refine XS.iloadN X188o.here hx rfl (hb hby at_43) rfl ?_
    show Sp p e below T188 (mkF m 44 #[vI a, vI b, vI d, vI f, vI g, vI md, vR ar1, vR ar2, vU, vU, vU, vU, vU, vU, vU, vU, vU] [(.int b), (.int (1 : Int32)), (.ref ar3), (.ref ar3)]) _
    exact kt)
  clear S189
  have z191 := (Nat.le_trans z179 (Keep.of_wr W188).1)
  have f192 := (f180.wr W188 g_ar3)
  have f193 := (f181.wr W188)
  have f194 := (f182.other W188 (Or.inl ne170))
  have f195 := (f183.other W188 (Or.inl ne170))
  have f196 := (f184.other W188 ne174)
  obtain ⟨v197, T197, L197, X197, hQ197, st197⟩ := own_outS (Jvm.LawKit.callS X188o hx (y := (⟨"com/example/requeue/requeue/QueueNameOfPinLaw", "pick", "(I)C"⟩ : MethodName)) hown (mvT hZ (own_h hw 1 rfl)) (mvT hZ (own_h hw 2 rfl)) (mvT hZ (own_h hw 3 rfl)) (mvT hZ (own_h hw 4 rfl)) (by decide) (own_backL (W := 3) (Pv := fun U => Lit U "com/example/requeue/requeue/QueueNameOfPinLaw" 7 la) (rm_pickW l Z a0 hw [] b la lb lk h188 n0 z191 SS f192 f193 f194 f195 f196 hcd) hZ (own_h hw 4 rfl) (own_h hw 3 rfl) (by decide) (by decide) (own_litU hlit)) (g := (mkF m 44 #[vI a, vI b, vI d, vI f, vI g, vI md, vR ar1, vR ar2, vU, vU, vU, vU, vU, vU, vU, vU, vU] [(.int b), (.int (1 : Int32)), (.ref ar3), (.ref ar3)])) rfl (by rw [hml]; rfl) (argsL := [(.int b)]) (rest := [(.int (1 : Int32)), (.ref ar3), (.ref ar3)]) (lenOf pd__I_C rfl) rfl (by show 2 * 0 + _ ≤ _; exact Nat.le_of_eq rfl) (hb hby at_44) (fun _ _ => ⟨rfl, e188, (by decide : 5 + 0 ≤ _), (by decide : 270 + 0 ≤ _)⟩))
  obtain ⟨c3_1, rfl, hk_c3_1, N197q, e197⟩ := hQ197
  have N197 := Fr.app N188o N197q
  obtain ⟨Lo197, X197o, N197o⟩ := own_hl X197 N197
  have S198 : Go p e below s₁ (eF_law m a b d f g md) T197 (mkF m 47 #[vI a, vI b, vI d, vI f, vI g, vI md, vR ar1, vR ar2, vU, vU, vU, vU, vU, vU, vU, vU, vU] [(.int c3_1), (.int (1 : Int32)), (.ref ar3), (.ref ar3)]) := fun t kt => S190 t (st197 t kt)
  clear S190 st197 X188o e188 X197 N197
  obtain ⟨co199, Ao199, qo199, So199, No199, Ho199, Go199⟩ := id V188
  have hino199 : ¬ ((1 : Int32) < 0 ∨ co199.slots.size ≤ ((1 : Int32)).toNatClampNeg) := inb_of So199 ⟨by decide, by decide⟩
  obtain ⟨T200, h200, X200, e200, W200, st200⟩ := stC X197o hx hZ e197 Ao199 (j := (1 : Int32)) hino199 (g := (mkF m 47 #[vI a, vI b, vI d, vI f, vI g, vI md, vR ar1, vR ar2, vU, vU, vU, vU, vU, vU, vU, vU, vU] [(.int c3_1), (.int (1 : Int32)), (.ref ar3), (.ref ar3)])) rfl rfl (hb hby at_47)
  have N200 := Fr.snoc X200 N197o g_ar3
  obtain ⟨Lo200, X200o, N200o⟩ := own_hl X200 N200
  have V200 : Arv Z h200 ar3 k168 .char (3 : Int32) [(.int c3_0), (.int (c3_1.toUInt32.toUInt16.toUInt32.toInt32)), (.int (0 : Int32))] (.int (0 : Int32)) := Arv.set Ao199 qo199 So199 No199 Ho199 Go199 (fits_nar_char _) W200 1 rfl (Nat.le_of_ble_eq_true rfl)
  rw [own_nc2 hk_c3_1] at V200
  have S201 : Go p e below s₁ (eF_law m a b d f g md) T200 (mkF m 48 #[vI a, vI b, vI d, vI f, vI g, vI md, vR ar1, vR ar2, vU, vU, vU, vU, vU, vU, vU, vU, vU] [(.ref ar3)]) := fun t kt => S198 t (st200 t kt)
  clear S198 st200 X197o e197 X200 N200
  have S202 : Go p e below s₁ (eF_law m a b d f g md) T200 (mkF m 51 #[vI a, vI b, vI d, vI f, vI g, vI md, vR ar1, vR ar2, vU, vU, vU, vU, vU, vU, vU, vU, vU] [(.int d), (.int (2 : Int32)), (.ref ar3), (.ref ar3)]) := fun t kt => S201 t (by
    refine XS.dup X200o.here hx rfl (hb hby at_48) rfl rfl ?_
    show Sp p e below T200 (mkF m 49 #[vI a, vI b, vI d, vI f, vI g, vI md, vR ar1, vR ar2, vU, vU, vU, vU, vU, vU, vU, vU, vU] [(.ref ar3), (.ref ar3)]) _
    refine XS.iconst X200o.here hx rfl (hb hby at_49) ?_
    show Sp p e below T200 (mkF m 50 #[vI a, vI b, vI d, vI f, vI g, vI md, vR ar1, vR ar2, vU, vU, vU, vU, vU, vU, vU, vU, vU] [(.int (2 : Int32)), (.ref ar3), (.ref ar3)]) _
    refine XS.iloadN X200o.here hx rfl (hb hby at_50) rfl ?_
    show Sp p e below T200 (mkF m 51 #[vI a, vI b, vI d, vI f, vI g, vI md, vR ar1, vR ar2, vU, vU, vU, vU, vU, vU, vU, vU, vU] [(.int d), (.int (2 : Int32)), (.ref ar3), (.ref ar3)]) _
    exact kt)
  clear S201
  have z203 := (Nat.le_trans z191 (Keep.of_wr W200).1)
  have f204 := (f192.wr W200 g_ar3)
  have f205 := (f193.wr W200)
  have f206 := (f194.other W200 (Or.inl ne170))
  have f207 := (f195.other W200 (Or.inl ne170))
  have f208 := (f196.other W200 ne174)
  obtain ⟨v209, T209, L209, X209, hQ209, st209⟩ := own_outS (Jvm.LawKit.callS X200o hx (y := (⟨"com/example/requeue/requeue/QueueNameOfPinLaw", "pick", "(I)C"⟩ : MethodName)) hown (mvT hZ (own_h hw 1 rfl)) (mvT hZ (own_h hw 2 rfl)) (mvT hZ (own_h hw 3 rfl)) (mvT hZ (own_h hw 4 rfl)) (by decide) (own_backL (W := 3) (Pv := fun U => Lit U "com/example/requeue/requeue/QueueNameOfPinLaw" 7 la) (rm_pickW l Z a0 hw [] d la lb lk h200 n0 z203 SS f204 f205 f206 f207 f208 hcd) hZ (own_h hw 4 rfl) (own_h hw 3 rfl) (by decide) (by decide) (own_litU hlit)) (g := (mkF m 51 #[vI a, vI b, vI d, vI f, vI g, vI md, vR ar1, vR ar2, vU, vU, vU, vU, vU, vU, vU, vU, vU] [(.int d), (.int (2 : Int32)), (.ref ar3), (.ref ar3)])) rfl (by rw [hml]; rfl) (argsL := [(.int d)]) (rest := [(.int (2 : Int32)), (.ref ar3), (.ref ar3)]) (lenOf pd__I_C rfl) rfl (by show 2 * 0 + _ ≤ _; exact Nat.le_of_eq rfl) (hb hby at_51) (fun _ _ => ⟨rfl, e200, (by decide : 5 + 0 ≤ _), (by decide : 270 + 0 ≤ _)⟩))
  obtain ⟨c3_2, rfl, hk_c3_2, N209q, e209⟩ := hQ209
  have N209 := Fr.app N200o N209q
  obtain ⟨Lo209, X209o, N209o⟩ := own_hl X209 N209
  have S210 : Go p e below s₁ (eF_law m a b d f g md) T209 (mkF m 54 #[vI a, vI b, vI d, vI f, vI g, vI md, vR ar1, vR ar2, vU, vU, vU, vU, vU, vU, vU, vU, vU] [(.int c3_2), (.int (2 : Int32)), (.ref ar3), (.ref ar3)]) := fun t kt => S202 t (st209 t kt)
  clear S202 st209 X200o e200 X209 N209
  obtain ⟨co211, Ao211, qo211, So211, No211, Ho211, Go211⟩ := id V200
  have hino211 : ¬ ((2 : Int32) < 0 ∨ co211.slots.size ≤ ((2 : Int32)).toNatClampNeg) := inb_of So211 ⟨by decide, by decide⟩
  obtain ⟨T212, h212, X212, e212, W212, st212⟩ := stC X209o hx hZ e209 Ao211 (j := (2 : Int32)) hino211 (g := (mkF m 54 #[vI a, vI b, vI d, vI f, vI g, vI md, vR ar1, vR ar2, vU, vU, vU, vU, vU, vU, vU, vU, vU] [(.int c3_2), (.int (2 : Int32)), (.ref ar3), (.ref ar3)])) rfl rfl (hb hby at_54)
  have N212 := Fr.snoc X212 N209o g_ar3
  obtain ⟨Lo212, X212o, N212o⟩ := own_hl X212 N212
  have V212 : Arv Z h212 ar3 k168 .char (3 : Int32) [(.int c3_0), (.int c3_1), (.int (c3_2.toUInt32.toUInt16.toUInt32.toInt32))] (.int (0 : Int32)) := Arv.set Ao211 qo211 So211 No211 Ho211 Go211 (fits_nar_char _) W212 2 rfl (Nat.le_of_ble_eq_true rfl)
  rw [own_nc2 hk_c3_2] at V212
  have S213 : Go p e below s₁ (eF_law m a b d f g md) T212 (mkF m 55 #[vI a, vI b, vI d, vI f, vI g, vI md, vR ar1, vR ar2, vU, vU, vU, vU, vU, vU, vU, vU, vU] [(.ref ar3)]) := fun t kt => S210 t (st212 t kt)
  clear S210 st212 X209o e209 X212 N212
  have S214 : Go p e below s₁ (eF_law m a b d f g md) T212 (mkF m 58 #[vI a, vI b, vI d, vI f, vI g, vI md, vR ar1, vR ar2, vR ar3, vU, vU, vU, vU, vU, vU, vU, vU] [(.int (4 : Int32))]) := fun t kt => S213 t (by
    refine XS.astore X212o.here hx rfl (hb hby at_55) rfl rfl (l' := #[vI a, vI b, vI d, vI f, vI g, vI md, vR ar1, vR ar2, vR ar3, vU, vU, vU, vU, vU, vU, vU, vU]) rfl ?_
    show Sp p e below T212 (mkF m 57 #[vI a, vI b, vI d, vI f, vI g, vI md, vR ar1, vR ar2, vR ar3, vU, vU, vU, vU, vU, vU, vU, vU] []) _
    refine XS.iconst X212o.here hx rfl (hb hby at_57) ?_
    show Sp p e below T212 (mkF m 58 #[vI a, vI b, vI d, vI f, vI g, vI md, vR ar1, vR ar2, vR ar3, vU, vU, vU, vU, vU, vU, vU, vU] [(.int (4 : Int32))]) _
    exact kt)
  clear S213
  obtain ⟨T215, h215, k215, X215, e215, E215, A215, st215⟩ := newP X212o hx hZ (own_h hw 0 rfl) e212 (g := (mkF m 58 #[vI a, vI b, vI d, vI f, vI g, vI md, vR ar1, vR ar2, vR ar3, vU, vU, vU, vU, vU, vU, vU, vU] [(.int (4 : Int32))])) rfl (hb hby at_58) rfl (by decide) (cap := 4) (by decide) (by decide) (by decide) (by decide)
  obtain ⟨ar4, g215⟩ : ∃ z, z = h212.size := ⟨_, rfl⟩
  rw [← g215] at A215 st215
  have f216 := (f205.wr W212)
  have ne217 : la ≠ ar4 := by rw [g215]; exact Nat.ne_of_lt f216.lt
  have f218 := ((((f171.ext E168).other W188 ne172).other W200 ne172).other W212 ne172)
  have ne219 : ar1 ≠ ar4 := by rw [g215]; exact Nat.ne_of_lt f218.lt
  have f220 := (f208.other W212 ne174)
  have ne221 : lb ≠ ar4 := by rw [g215]; exact Nat.ne_of_lt f220.lt
  have f222 := ((((V165.ext E168).other W188 ne175).other W200 ne175).other W212 ne175)
  have ne223 : ar2 ≠ ar4 := by rw [g215]; exact Nat.ne_of_lt f222.lt
  have ne224 : ar3 ≠ ar4 := by rw [g215]; exact Nat.ne_of_lt V212.lt
  have z225 := (Nat.le_trans z203 (Keep.of_wr W212).1)
  have g_ar4 : n0 ≤ ar4 := Nat.le_trans z225 (Nat.le_of_eq g215.symm)
  have V215 : Arv Z h215 ar4 k215 .char (4 : Int32) [(.int (0 : Int32)), (.int (0 : Int32)), (.int (0 : Int32)), (.int (0 : Int32))] (.int (0 : Int32)) := (Arv.new A215 (by decide)).pad (pad_rep [] _ 4)
  have S226 : Go p e below s₁ (eF_law m a b d f g md) T215 (mkF m 60 #[vI a, vI b, vI d, vI f, vI g, vI md, vR ar1, vR ar2, vR ar3, vU, vU, vU, vU, vU, vU, vU, vU] [(.ref ar4)]) := fun t kt => S214 t (st215 t kt)
  clear S214 st215 X212o e212
  have S227 : Go p e below s₁ (eF_law m a b d f g md) T215 (mkF m 63 #[vI a, vI b, vI d, vI f, vI g, vI md, vR ar1, vR ar2, vR ar3, vU, vU, vU, vU, vU, vU, vU, vU] [(.int a), (.int (0 : Int32)), (.ref ar4), (.ref ar4)]) := fun t kt => S226 t (by
    refine XS.dup X215.here hx rfl (hb hby at_60) rfl rfl ?_
    show Sp p e below T215 (mkF m 61 #[vI a, vI b, vI d, vI f, vI g, vI md, vR ar1, vR ar2, vR ar3, vU, vU, vU, vU, vU, vU, vU, vU] [(.ref ar4), (.ref ar4)]) _
    refine XS.iconst X215.here hx rfl (hb hby at_61) ?_
    show Sp p e below T215 (mkF m 62 #[vI a, vI b, vI d, vI f, vI g, vI md, vR ar1, vR ar2, vR ar3, vU, vU, vU, vU, vU, vU, vU, vU] [(.int (0 : Int32)), (.ref ar4), (.ref ar4)]) _
    refine XS.iloadN X215.here hx rfl (hb hby at_62) rfl ?_
    show Sp p e below T215 (mkF m 63 #[vI a, vI b, vI d, vI f, vI g, vI md, vR ar1, vR ar2, vR ar3, vU, vU, vU, vU, vU, vU, vU, vU] [(.int a), (.int (0 : Int32)), (.ref ar4), (.ref ar4)]) _
    exact kt)
  clear S226
  have z228 := (Nat.le_trans z225 E215.1)
  have f229 := ((f204.wr W212 g_ar3).ext E215)
  have f230 := (f216.ext E215)
  have f231 := ((f206.other W212 (Or.inl ne170)).ext E215)
  have f232 := ((f207.other W212 (Or.inl ne170)).ext E215)
  have f233 := (f220.ext E215)
  obtain ⟨v234, T234, L234, X234, hQ234, st234⟩ := own_outS (Jvm.LawKit.callS X215 hx (y := (⟨"com/example/requeue/requeue/QueueNameOfPinLaw", "pick", "(I)C"⟩ : MethodName)) hown (mvT hZ (own_h hw 1 rfl)) (mvT hZ (own_h hw 2 rfl)) (mvT hZ (own_h hw 3 rfl)) (mvT hZ (own_h hw 4 rfl)) (by decide) (own_backL (W := 3) (Pv := fun U => Lit U "com/example/requeue/requeue/QueueNameOfPinLaw" 7 la) (rm_pickW l Z a0 hw [] a la lb lk h215 n0 z228 SS f229 f230 f231 f232 f233 hcd) hZ (own_h hw 4 rfl) (own_h hw 3 rfl) (by decide) (by decide) (own_litU hlit)) (g := (mkF m 63 #[vI a, vI b, vI d, vI f, vI g, vI md, vR ar1, vR ar2, vR ar3, vU, vU, vU, vU, vU, vU, vU, vU] [(.int a), (.int (0 : Int32)), (.ref ar4), (.ref ar4)])) rfl (by rw [hml]; rfl) (argsL := [(.int a)]) (rest := [(.int (0 : Int32)), (.ref ar4), (.ref ar4)]) (lenOf pd__I_C rfl) rfl (by show 2 * 0 + _ ≤ _; exact Nat.le_of_eq rfl) (hb hby at_63) (fun _ _ => ⟨rfl, e215, (by decide : 6 + 0 ≤ _), (by decide : 274 + 0 ≤ _)⟩))
  obtain ⟨c4_0, rfl, hk_c4_0, N234q, e234⟩ := hQ234
  have N234 := Fr.app N212o N234q
  obtain ⟨Lo234, X234o, N234o⟩ := own_hl X234 N234
  have S235 : Go p e below s₁ (eF_law m a b d f g md) T234 (mkF m 66 #[vI a, vI b, vI d, vI f, vI g, vI md, vR ar1, vR ar2, vR ar3, vU, vU, vU, vU, vU, vU, vU, vU] [(.int c4_0), (.int (0 : Int32)), (.ref ar4), (.ref ar4)]) := fun t kt => S227 t (st234 t kt)
  clear S227 st234 X215 e215 X234 N234
  obtain ⟨co236, Ao236, qo236, So236, No236, Ho236, Go236⟩ := id V215
  have hino236 : ¬ ((0 : Int32) < 0 ∨ co236.slots.size ≤ ((0 : Int32)).toNatClampNeg) := inb_of So236 ⟨by decide, by decide⟩
  obtain ⟨T237, h237, X237, e237, W237, st237⟩ := stC X234o hx hZ e234 Ao236 (j := (0 : Int32)) hino236 (g := (mkF m 66 #[vI a, vI b, vI d, vI f, vI g, vI md, vR ar1, vR ar2, vR ar3, vU, vU, vU, vU, vU, vU, vU, vU] [(.int c4_0), (.int (0 : Int32)), (.ref ar4), (.ref ar4)])) rfl rfl (hb hby at_66)
  have N237 := Fr.snoc X237 N234o g_ar4
  obtain ⟨Lo237, X237o, N237o⟩ := own_hl X237 N237
  have V237 : Arv Z h237 ar4 k215 .char (4 : Int32) [(.int (c4_0.toUInt32.toUInt16.toUInt32.toInt32)), (.int (0 : Int32)), (.int (0 : Int32)), (.int (0 : Int32))] (.int (0 : Int32)) := Arv.set Ao236 qo236 So236 No236 Ho236 Go236 (fits_nar_char _) W237 0 rfl (Nat.le_of_ble_eq_true rfl)
  rw [own_nc2 hk_c4_0] at V237
  have S238 : Go p e below s₁ (eF_law m a b d f g md) T237 (mkF m 67 #[vI a, vI b, vI d, vI f, vI g, vI md, vR ar1, vR ar2, vR ar3, vU, vU, vU, vU, vU, vU, vU, vU] [(.ref ar4)]) := fun t kt => S235 t (st237 t kt)
  clear S235 st237 X234o e234 X237 N237
  have S239 : Go p e below s₁ (eF_law m a b d f g md) T237 (mkF m 70 #[vI a, vI b, vI d, vI f, vI g, vI md, vR ar1, vR ar2, vR ar3, vU, vU, vU, vU, vU, vU, vU, vU] [(.int b), (.int (1 : Int32)), (.ref ar4), (.ref ar4)]) := fun t kt => S238 t (by
    refine XS.dup X237o.here hx rfl (hb hby at_67) rfl rfl ?_
    show Sp p e below T237 (mkF m 68 #[vI a, vI b, vI d, vI f, vI g, vI md, vR ar1, vR ar2, vR ar3, vU, vU, vU, vU, vU, vU, vU, vU] [(.ref ar4), (.ref ar4)]) _
    refine XS.iconst X237o.here hx rfl (hb hby at_68) ?_
    show Sp p e below T237 (mkF m 69 #[vI a, vI b, vI d, vI f, vI g, vI md, vR ar1, vR ar2, vR ar3, vU, vU, vU, vU, vU, vU, vU, vU] [(.int (1 : Int32)), (.ref ar4), (.ref ar4)]) _
    refine XS.iloadN X237o.here hx rfl (hb hby at_69) rfl ?_
    show Sp p e below T237 (mkF m 70 #[vI a, vI b, vI d, vI f, vI g, vI md, vR ar1, vR ar2, vR ar3, vU, vU, vU, vU, vU, vU, vU, vU] [(.int b), (.int (1 : Int32)), (.ref ar4), (.ref ar4)]) _
    exact kt)
  clear S238
  have z240 := (Nat.le_trans z228 (Keep.of_wr W237).1)
  have f241 := (f229.wr W237 g_ar4)
  have f242 := (f230.wr W237)
  have f243 := (f231.other W237 (Or.inl ne217))
  have f244 := (f232.other W237 (Or.inl ne217))
  have f245 := (f233.other W237 ne221)
  obtain ⟨v246, T246, L246, X246, hQ246, st246⟩ := own_outS (Jvm.LawKit.callS X237o hx (y := (⟨"com/example/requeue/requeue/QueueNameOfPinLaw", "pick", "(I)C"⟩ : MethodName)) hown (mvT hZ (own_h hw 1 rfl)) (mvT hZ (own_h hw 2 rfl)) (mvT hZ (own_h hw 3 rfl)) (mvT hZ (own_h hw 4 rfl)) (by decide) (own_backL (W := 3) (Pv := fun U => Lit U "com/example/requeue/requeue/QueueNameOfPinLaw" 7 la) (rm_pickW l Z a0 hw [] b la lb lk h237 n0 z240 SS f241 f242 f243 f244 f245 hcd) hZ (own_h hw 4 rfl) (own_h hw 3 rfl) (by decide) (by decide) (own_litU hlit)) (g := (mkF m 70 #[vI a, vI b, vI d, vI f, vI g, vI md, vR ar1, vR ar2, vR ar3, vU, vU, vU, vU, vU, vU, vU, vU] [(.int b), (.int (1 : Int32)), (.ref ar4), (.ref ar4)])) rfl (by rw [hml]; rfl) (argsL := [(.int b)]) (rest := [(.int (1 : Int32)), (.ref ar4), (.ref ar4)]) (lenOf pd__I_C rfl) rfl (by show 2 * 0 + _ ≤ _; exact Nat.le_of_eq rfl) (hb hby at_70) (fun _ _ => ⟨rfl, e237, (by decide : 6 + 0 ≤ _), (by decide : 274 + 0 ≤ _)⟩))
  obtain ⟨c4_1, rfl, hk_c4_1, N246q, e246⟩ := hQ246
  have N246 := Fr.app N237o N246q
  obtain ⟨Lo246, X246o, N246o⟩ := own_hl X246 N246
  have S247 : Go p e below s₁ (eF_law m a b d f g md) T246 (mkF m 73 #[vI a, vI b, vI d, vI f, vI g, vI md, vR ar1, vR ar2, vR ar3, vU, vU, vU, vU, vU, vU, vU, vU] [(.int c4_1), (.int (1 : Int32)), (.ref ar4), (.ref ar4)]) := fun t kt => S239 t (st246 t kt)
  clear S239 st246 X237o e237 X246 N246
  obtain ⟨co248, Ao248, qo248, So248, No248, Ho248, Go248⟩ := id V237
  have hino248 : ¬ ((1 : Int32) < 0 ∨ co248.slots.size ≤ ((1 : Int32)).toNatClampNeg) := inb_of So248 ⟨by decide, by decide⟩
  obtain ⟨T249, h249, X249, e249, W249, st249⟩ := stC X246o hx hZ e246 Ao248 (j := (1 : Int32)) hino248 (g := (mkF m 73 #[vI a, vI b, vI d, vI f, vI g, vI md, vR ar1, vR ar2, vR ar3, vU, vU, vU, vU, vU, vU, vU, vU] [(.int c4_1), (.int (1 : Int32)), (.ref ar4), (.ref ar4)])) rfl rfl (hb hby at_73)
  have N249 := Fr.snoc X249 N246o g_ar4
  obtain ⟨Lo249, X249o, N249o⟩ := own_hl X249 N249
  have V249 : Arv Z h249 ar4 k215 .char (4 : Int32) [(.int c4_0), (.int (c4_1.toUInt32.toUInt16.toUInt32.toInt32)), (.int (0 : Int32)), (.int (0 : Int32))] (.int (0 : Int32)) := Arv.set Ao248 qo248 So248 No248 Ho248 Go248 (fits_nar_char _) W249 1 rfl (Nat.le_of_ble_eq_true rfl)
  rw [own_nc2 hk_c4_1] at V249
  have S250 : Go p e below s₁ (eF_law m a b d f g md) T249 (mkF m 74 #[vI a, vI b, vI d, vI f, vI g, vI md, vR ar1, vR ar2, vR ar3, vU, vU, vU, vU, vU, vU, vU, vU] [(.ref ar4)]) := fun t kt => S247 t (st249 t kt)
  clear S247 st249 X246o e246 X249 N249
  have S251 : Go p e below s₁ (eF_law m a b d f g md) T249 (mkF m 77 #[vI a, vI b, vI d, vI f, vI g, vI md, vR ar1, vR ar2, vR ar3, vU, vU, vU, vU, vU, vU, vU, vU] [(.int d), (.int (2 : Int32)), (.ref ar4), (.ref ar4)]) := fun t kt => S250 t (by
    refine XS.dup X249o.here hx rfl (hb hby at_74) rfl rfl ?_
    show Sp p e below T249 (mkF m 75 #[vI a, vI b, vI d, vI f, vI g, vI md, vR ar1, vR ar2, vR ar3, vU, vU, vU, vU, vU, vU, vU, vU] [(.ref ar4), (.ref ar4)]) _
    refine XS.iconst X249o.here hx rfl (hb hby at_75) ?_
    show Sp p e below T249 (mkF m 76 #[vI a, vI b, vI d, vI f, vI g, vI md, vR ar1, vR ar2, vR ar3, vU, vU, vU, vU, vU, vU, vU, vU] [(.int (2 : Int32)), (.ref ar4), (.ref ar4)]) _
    refine XS.iloadN X249o.here hx rfl (hb hby at_76) rfl ?_
    show Sp p e below T249 (mkF m 77 #[vI a, vI b, vI d, vI f, vI g, vI md, vR ar1, vR ar2, vR ar3, vU, vU, vU, vU, vU, vU, vU, vU] [(.int d), (.int (2 : Int32)), (.ref ar4), (.ref ar4)]) _
    exact kt)
  clear S250
  have z252 := (Nat.le_trans z240 (Keep.of_wr W249).1)
  have f253 := (f241.wr W249 g_ar4)
  have f254 := (f242.wr W249)
  have f255 := (f243.other W249 (Or.inl ne217))
  have f256 := (f244.other W249 (Or.inl ne217))
  have f257 := (f245.other W249 ne221)
  obtain ⟨v258, T258, L258, X258, hQ258, st258⟩ := own_outS (Jvm.LawKit.callS X249o hx (y := (⟨"com/example/requeue/requeue/QueueNameOfPinLaw", "pick", "(I)C"⟩ : MethodName)) hown (mvT hZ (own_h hw 1 rfl)) (mvT hZ (own_h hw 2 rfl)) (mvT hZ (own_h hw 3 rfl)) (mvT hZ (own_h hw 4 rfl)) (by decide) (own_backL (W := 3) (Pv := fun U => Lit U "com/example/requeue/requeue/QueueNameOfPinLaw" 7 la) (rm_pickW l Z a0 hw [] d la lb lk h249 n0 z252 SS f253 f254 f255 f256 f257 hcd) hZ (own_h hw 4 rfl) (own_h hw 3 rfl) (by decide) (by decide) (own_litU hlit)) (g := (mkF m 77 #[vI a, vI b, vI d, vI f, vI g, vI md, vR ar1, vR ar2, vR ar3, vU, vU, vU, vU, vU, vU, vU, vU] [(.int d), (.int (2 : Int32)), (.ref ar4), (.ref ar4)])) rfl (by rw [hml]; rfl) (argsL := [(.int d)]) (rest := [(.int (2 : Int32)), (.ref ar4), (.ref ar4)]) (lenOf pd__I_C rfl) rfl (by show 2 * 0 + _ ≤ _; exact Nat.le_of_eq rfl) (hb hby at_77) (fun _ _ => ⟨rfl, e249, (by decide : 6 + 0 ≤ _), (by decide : 274 + 0 ≤ _)⟩))
  obtain ⟨c4_2, rfl, hk_c4_2, N258q, e258⟩ := hQ258
  have N258 := Fr.app N249o N258q
  obtain ⟨Lo258, X258o, N258o⟩ := own_hl X258 N258
  have S259 : Go p e below s₁ (eF_law m a b d f g md) T258 (mkF m 80 #[vI a, vI b, vI d, vI f, vI g, vI md, vR ar1, vR ar2, vR ar3, vU, vU, vU, vU, vU, vU, vU, vU] [(.int c4_2), (.int (2 : Int32)), (.ref ar4), (.ref ar4)]) := fun t kt => S251 t (st258 t kt)
  clear S251 st258 X249o e249 X258 N258
  obtain ⟨co260, Ao260, qo260, So260, No260, Ho260, Go260⟩ := id V249
  have hino260 : ¬ ((2 : Int32) < 0 ∨ co260.slots.size ≤ ((2 : Int32)).toNatClampNeg) := inb_of So260 ⟨by decide, by decide⟩
  obtain ⟨T261, h261, X261, e261, W261, st261⟩ := stC X258o hx hZ e258 Ao260 (j := (2 : Int32)) hino260 (g := (mkF m 80 #[vI a, vI b, vI d, vI f, vI g, vI md, vR ar1, vR ar2, vR ar3, vU, vU, vU, vU, vU, vU, vU, vU] [(.int c4_2), (.int (2 : Int32)), (.ref ar4), (.ref ar4)])) rfl rfl (hb hby at_80)
  have N261 := Fr.snoc X261 N258o g_ar4
  obtain ⟨Lo261, X261o, N261o⟩ := own_hl X261 N261
  have V261 : Arv Z h261 ar4 k215 .char (4 : Int32) [(.int c4_0), (.int c4_1), (.int (c4_2.toUInt32.toUInt16.toUInt32.toInt32)), (.int (0 : Int32))] (.int (0 : Int32)) := Arv.set Ao260 qo260 So260 No260 Ho260 Go260 (fits_nar_char _) W261 2 rfl (Nat.le_of_ble_eq_true rfl)
  rw [own_nc2 hk_c4_2] at V261
  have S262 : Go p e below s₁ (eF_law m a b d f g md) T261 (mkF m 81 #[vI a, vI b, vI d, vI f, vI g, vI md, vR ar1, vR ar2, vR ar3, vU, vU, vU, vU, vU, vU, vU, vU] [(.ref ar4)]) := fun t kt => S259 t (st261 t kt)
  clear S259 st261 X258o e258 X261 N261
  have S263 : Go p e below s₁ (eF_law m a b d f g md) T261 (mkF m 84 #[vI a, vI b, vI d, vI f, vI g, vI md, vR ar1, vR ar2, vR ar3, vU, vU, vU, vU, vU, vU, vU, vU] [(.int f), (.int (3 : Int32)), (.ref ar4), (.ref ar4)]) := fun t kt => S262 t (by
    refine XS.dup X261o.here hx rfl (hb hby at_81) rfl rfl ?_
    show Sp p e below T261 (mkF m 82 #[vI a, vI b, vI d, vI f, vI g, vI md, vR ar1, vR ar2, vR ar3, vU, vU, vU, vU, vU, vU, vU, vU] [(.ref ar4), (.ref ar4)]) _
    refine XS.iconst X261o.here hx rfl (hb hby at_82) ?_
    show Sp p e below T261 (mkF m 83 #[vI a, vI b, vI d, vI f, vI g, vI md, vR ar1, vR ar2, vR ar3, vU, vU, vU, vU, vU, vU, vU, vU] [(.int (3 : Int32)), (.ref ar4), (.ref ar4)]) _
    refine XS.iloadN X261o.here hx rfl (hb hby at_83) rfl ?_
    show Sp p e below T261 (mkF m 84 #[vI a, vI b, vI d, vI f, vI g, vI md, vR ar1, vR ar2, vR ar3, vU, vU, vU, vU, vU, vU, vU, vU] [(.int f), (.int (3 : Int32)), (.ref ar4), (.ref ar4)]) _
    exact kt)
  clear S262
  have z264 := (Nat.le_trans z252 (Keep.of_wr W261).1)
  have f265 := (f253.wr W261 g_ar4)
  have f266 := (f254.wr W261)
  have f267 := (f255.other W261 (Or.inl ne217))
  have f268 := (f256.other W261 (Or.inl ne217))
  have f269 := (f257.other W261 ne221)
  obtain ⟨v270, T270, L270, X270, hQ270, st270⟩ := own_outS (Jvm.LawKit.callS X261o hx (y := (⟨"com/example/requeue/requeue/QueueNameOfPinLaw", "pick", "(I)C"⟩ : MethodName)) hown (mvT hZ (own_h hw 1 rfl)) (mvT hZ (own_h hw 2 rfl)) (mvT hZ (own_h hw 3 rfl)) (mvT hZ (own_h hw 4 rfl)) (by decide) (own_backL (W := 3) (Pv := fun U => Lit U "com/example/requeue/requeue/QueueNameOfPinLaw" 7 la) (rm_pickW l Z a0 hw [] f la lb lk h261 n0 z264 SS f265 f266 f267 f268 f269 hcd) hZ (own_h hw 4 rfl) (own_h hw 3 rfl) (by decide) (by decide) (own_litU hlit)) (g := (mkF m 84 #[vI a, vI b, vI d, vI f, vI g, vI md, vR ar1, vR ar2, vR ar3, vU, vU, vU, vU, vU, vU, vU, vU] [(.int f), (.int (3 : Int32)), (.ref ar4), (.ref ar4)])) rfl (by rw [hml]; rfl) (argsL := [(.int f)]) (rest := [(.int (3 : Int32)), (.ref ar4), (.ref ar4)]) (lenOf pd__I_C rfl) rfl (by show 2 * 0 + _ ≤ _; exact Nat.le_of_eq rfl) (hb hby at_84) (fun _ _ => ⟨rfl, e261, (by decide : 6 + 0 ≤ _), (by decide : 274 + 0 ≤ _)⟩))
  obtain ⟨c4_3, rfl, hk_c4_3, N270q, e270⟩ := hQ270
  have N270 := Fr.app N261o N270q
  obtain ⟨Lo270, X270o, N270o⟩ := own_hl X270 N270
  have S271 : Go p e below s₁ (eF_law m a b d f g md) T270 (mkF m 87 #[vI a, vI b, vI d, vI f, vI g, vI md, vR ar1, vR ar2, vR ar3, vU, vU, vU, vU, vU, vU, vU, vU] [(.int c4_3), (.int (3 : Int32)), (.ref ar4), (.ref ar4)]) := fun t kt => S263 t (st270 t kt)
  clear S263 st270 X261o e261 X270 N270
  obtain ⟨co272, Ao272, qo272, So272, No272, Ho272, Go272⟩ := id V261
  have hino272 : ¬ ((3 : Int32) < 0 ∨ co272.slots.size ≤ ((3 : Int32)).toNatClampNeg) := inb_of So272 ⟨by decide, by decide⟩
  obtain ⟨T273, h273, X273, e273, W273, st273⟩ := stC X270o hx hZ e270 Ao272 (j := (3 : Int32)) hino272 (g := (mkF m 87 #[vI a, vI b, vI d, vI f, vI g, vI md, vR ar1, vR ar2, vR ar3, vU, vU, vU, vU, vU, vU, vU, vU] [(.int c4_3), (.int (3 : Int32)), (.ref ar4), (.ref ar4)])) rfl rfl (hb hby at_87)
  have N273 := Fr.snoc X273 N270o g_ar4
  obtain ⟨Lo273, X273o, N273o⟩ := own_hl X273 N273
  have V273 : Arv Z h273 ar4 k215 .char (4 : Int32) [(.int c4_0), (.int c4_1), (.int c4_2), (.int (c4_3.toUInt32.toUInt16.toUInt32.toInt32))] (.int (0 : Int32)) := Arv.set Ao272 qo272 So272 No272 Ho272 Go272 (fits_nar_char _) W273 3 rfl (Nat.le_of_ble_eq_true rfl)
  rw [own_nc2 hk_c4_3] at V273
  have S274 : Go p e below s₁ (eF_law m a b d f g md) T273 (mkF m 88 #[vI a, vI b, vI d, vI f, vI g, vI md, vR ar1, vR ar2, vR ar3, vU, vU, vU, vU, vU, vU, vU, vU] [(.ref ar4)]) := fun t kt => S271 t (st273 t kt)
  clear S271 st273 X270o e270 X273 N273
  have S275 : Go p e below s₁ (eF_law m a b d f g md) T273 (mkF m 91 #[vI a, vI b, vI d, vI f, vI g, vI md, vR ar1, vR ar2, vR ar3, vR ar4, vU, vU, vU, vU, vU, vU, vU] [(.int (5 : Int32))]) := fun t kt => S274 t (by
    refine XS.astore X273o.here hx rfl (hb hby at_88) rfl rfl (l' := #[vI a, vI b, vI d, vI f, vI g, vI md, vR ar1, vR ar2, vR ar3, vR ar4, vU, vU, vU, vU, vU, vU, vU]) rfl ?_
    show Sp p e below T273 (mkF m 90 #[vI a, vI b, vI d, vI f, vI g, vI md, vR ar1, vR ar2, vR ar3, vR ar4, vU, vU, vU, vU, vU, vU, vU] []) _
    refine XS.iconst X273o.here hx rfl (hb hby at_90) ?_
    show Sp p e below T273 (mkF m 91 #[vI a, vI b, vI d, vI f, vI g, vI md, vR ar1, vR ar2, vR ar3, vR ar4, vU, vU, vU, vU, vU, vU, vU] [(.int (5 : Int32))]) _
    exact kt)
  clear S274
  obtain ⟨T276, h276, k276, X276, e276, E276, A276, st276⟩ := newP X273o hx hZ (own_h hw 0 rfl) e273 (g := (mkF m 91 #[vI a, vI b, vI d, vI f, vI g, vI md, vR ar1, vR ar2, vR ar3, vR ar4, vU, vU, vU, vU, vU, vU, vU] [(.int (5 : Int32))])) rfl (hb hby at_91) rfl (by decide) (cap := 5) (by decide) (by decide) (by decide) (by decide)
  obtain ⟨ar5, g276⟩ : ∃ z, z = h273.size := ⟨_, rfl⟩
  rw [← g276] at A276 st276
  have f277 := (f266.wr W273)
  have ne278 : la ≠ ar5 := by rw [g276]; exact Nat.ne_of_lt f277.lt
  have f279 := (((((f218.ext E215).other W237 ne219).other W249 ne219).other W261 ne219).other W273 ne219)
  have ne280 : ar1 ≠ ar5 := by rw [g276]; exact Nat.ne_of_lt f279.lt
  have f281 := (f269.other W273 ne221)
  have ne282 : lb ≠ ar5 := by rw [g276]; exact Nat.ne_of_lt f281.lt
  have f283 := (((((f222.ext E215).other W237 ne223).other W249 ne223).other W261 ne223).other W273 ne223)
  have ne284 : ar2 ≠ ar5 := by rw [g276]; exact Nat.ne_of_lt f283.lt
  have f285 := (((((V212.ext E215).other W237 ne224).other W249 ne224).other W261 ne224).other W273 ne224)
  have ne286 : ar3 ≠ ar5 := by rw [g276]; exact Nat.ne_of_lt f285.lt
  have ne287 : ar4 ≠ ar5 := by rw [g276]; exact Nat.ne_of_lt V273.lt
  have z288 := (Nat.le_trans z264 (Keep.of_wr W273).1)
  have g_ar5 : n0 ≤ ar5 := Nat.le_trans z288 (Nat.le_of_eq g276.symm)
  have V276 : Arv Z h276 ar5 k276 .char (5 : Int32) [(.int (0 : Int32)), (.int (0 : Int32)), (.int (0 : Int32)), (.int (0 : Int32)), (.int (0 : Int32))] (.int (0 : Int32)) := (Arv.new A276 (by decide)).pad (pad_rep [] _ 5)
  have S289 : Go p e below s₁ (eF_law m a b d f g md) T276 (mkF m 93 #[vI a, vI b, vI d, vI f, vI g, vI md, vR ar1, vR ar2, vR ar3, vR ar4, vU, vU, vU, vU, vU, vU, vU] [(.ref ar5)]) := fun t kt => S275 t (st276 t kt)
  clear S275 st276 X273o e273
  have S290 : Go p e below s₁ (eF_law m a b d f g md) T276 (mkF m 96 #[vI a, vI b, vI d, vI f, vI g, vI md, vR ar1, vR ar2, vR ar3, vR ar4, vU, vU, vU, vU, vU, vU, vU] [(.int a), (.int (0 : Int32)), (.ref ar5), (.ref ar5)]) := fun t kt => S289 t (by
    refine XS.dup X276.here hx rfl (hb hby at_93) rfl rfl ?_
    show Sp p e below T276 (mkF m 94 #[vI a, vI b, vI d, vI f, vI g, vI md, vR ar1, vR ar2, vR ar3, vR ar4, vU, vU, vU, vU, vU, vU, vU] [(.ref ar5), (.ref ar5)]) _
    refine XS.iconst X276.here hx rfl (hb hby at_94) ?_
    show Sp p e below T276 (mkF m 95 #[vI a, vI b, vI d, vI f, vI g, vI md, vR ar1, vR ar2, vR ar3, vR ar4, vU, vU, vU, vU, vU, vU, vU] [(.int (0 : Int32)), (.ref ar5), (.ref ar5)]) _
    refine XS.iloadN X276.here hx rfl (hb hby at_95) rfl ?_
    show Sp p e below T276 (mkF m 96 #[vI a, vI b, vI d, vI f, vI g, vI md, vR ar1, vR ar2, vR ar3, vR ar4, vU, vU, vU, vU, vU, vU, vU] [(.int a), (.int (0 : Int32)), (.ref ar5), (.ref ar5)]) _
    exact kt)
  clear S289
  have z291 := (Nat.le_trans z288 E276.1)
  have f292 := ((f265.wr W273 g_ar4).ext E276)
  have f293 := (f277.ext E276)
  have f294 := ((f267.other W273 (Or.inl ne217)).ext E276)
  have f295 := ((f268.other W273 (Or.inl ne217)).ext E276)
  have f296 := (f281.ext E276)
  obtain ⟨v297, T297, L297, X297, hQ297, st297⟩ := own_outS (Jvm.LawKit.callS X276 hx (y := (⟨"com/example/requeue/requeue/QueueNameOfPinLaw", "pick", "(I)C"⟩ : MethodName)) hown (mvT hZ (own_h hw 1 rfl)) (mvT hZ (own_h hw 2 rfl)) (mvT hZ (own_h hw 3 rfl)) (mvT hZ (own_h hw 4 rfl)) (by decide) (own_backL (W := 3) (Pv := fun U => Lit U "com/example/requeue/requeue/QueueNameOfPinLaw" 7 la) (rm_pickW l Z a0 hw [] a la lb lk h276 n0 z291 SS f292 f293 f294 f295 f296 hcd) hZ (own_h hw 4 rfl) (own_h hw 3 rfl) (by decide) (by decide) (own_litU hlit)) (g := (mkF m 96 #[vI a, vI b, vI d, vI f, vI g, vI md, vR ar1, vR ar2, vR ar3, vR ar4, vU, vU, vU, vU, vU, vU, vU] [(.int a), (.int (0 : Int32)), (.ref ar5), (.ref ar5)])) rfl (by rw [hml]; rfl) (argsL := [(.int a)]) (rest := [(.int (0 : Int32)), (.ref ar5), (.ref ar5)]) (lenOf pd__I_C rfl) rfl (by show 2 * 0 + _ ≤ _; exact Nat.le_of_eq rfl) (hb hby at_96) (fun _ _ => ⟨rfl, e276, (by decide : 7 + 0 ≤ _), (by decide : 279 + 0 ≤ _)⟩))
  obtain ⟨c5_0, rfl, hk_c5_0, N297q, e297⟩ := hQ297
  have N297 := Fr.app N273o N297q
  obtain ⟨Lo297, X297o, N297o⟩ := own_hl X297 N297
  have S298 : Go p e below s₁ (eF_law m a b d f g md) T297 (mkF m 99 #[vI a, vI b, vI d, vI f, vI g, vI md, vR ar1, vR ar2, vR ar3, vR ar4, vU, vU, vU, vU, vU, vU, vU] [(.int c5_0), (.int (0 : Int32)), (.ref ar5), (.ref ar5)]) := fun t kt => S290 t (st297 t kt)
  clear S290 st297 X276 e276 X297 N297
  obtain ⟨co299, Ao299, qo299, So299, No299, Ho299, Go299⟩ := id V276
  have hino299 : ¬ ((0 : Int32) < 0 ∨ co299.slots.size ≤ ((0 : Int32)).toNatClampNeg) := inb_of So299 ⟨by decide, by decide⟩
  obtain ⟨T300, h300, X300, e300, W300, st300⟩ := stC X297o hx hZ e297 Ao299 (j := (0 : Int32)) hino299 (g := (mkF m 99 #[vI a, vI b, vI d, vI f, vI g, vI md, vR ar1, vR ar2, vR ar3, vR ar4, vU, vU, vU, vU, vU, vU, vU] [(.int c5_0), (.int (0 : Int32)), (.ref ar5), (.ref ar5)])) rfl rfl (hb hby at_99)
  have N300 := Fr.snoc X300 N297o g_ar5
  obtain ⟨Lo300, X300o, N300o⟩ := own_hl X300 N300
  have V300 : Arv Z h300 ar5 k276 .char (5 : Int32) [(.int (c5_0.toUInt32.toUInt16.toUInt32.toInt32)), (.int (0 : Int32)), (.int (0 : Int32)), (.int (0 : Int32)), (.int (0 : Int32))] (.int (0 : Int32)) := Arv.set Ao299 qo299 So299 No299 Ho299 Go299 (fits_nar_char _) W300 0 rfl (Nat.le_of_ble_eq_true rfl)
  rw [own_nc2 hk_c5_0] at V300
  have S301 : Go p e below s₁ (eF_law m a b d f g md) T300 (mkF m 100 #[vI a, vI b, vI d, vI f, vI g, vI md, vR ar1, vR ar2, vR ar3, vR ar4, vU, vU, vU, vU, vU, vU, vU] [(.ref ar5)]) := fun t kt => S298 t (st300 t kt)
  clear S298 st300 X297o e297 X300 N300
  have S302 : Go p e below s₁ (eF_law m a b d f g md) T300 (mkF m 103 #[vI a, vI b, vI d, vI f, vI g, vI md, vR ar1, vR ar2, vR ar3, vR ar4, vU, vU, vU, vU, vU, vU, vU] [(.int b), (.int (1 : Int32)), (.ref ar5), (.ref ar5)]) := fun t kt => S301 t (by
    refine XS.dup X300o.here hx rfl (hb hby at_100) rfl rfl ?_
    show Sp p e below T300 (mkF m 101 #[vI a, vI b, vI d, vI f, vI g, vI md, vR ar1, vR ar2, vR ar3, vR ar4, vU, vU, vU, vU, vU, vU, vU] [(.ref ar5), (.ref ar5)]) _
    refine XS.iconst X300o.here hx rfl (hb hby at_101) ?_
    show Sp p e below T300 (mkF m 102 #[vI a, vI b, vI d, vI f, vI g, vI md, vR ar1, vR ar2, vR ar3, vR ar4, vU, vU, vU, vU, vU, vU, vU] [(.int (1 : Int32)), (.ref ar5), (.ref ar5)]) _
    refine XS.iloadN X300o.here hx rfl (hb hby at_102) rfl ?_
    show Sp p e below T300 (mkF m 103 #[vI a, vI b, vI d, vI f, vI g, vI md, vR ar1, vR ar2, vR ar3, vR ar4, vU, vU, vU, vU, vU, vU, vU] [(.int b), (.int (1 : Int32)), (.ref ar5), (.ref ar5)]) _
    exact kt)
  clear S301
  have z303 := (Nat.le_trans z291 (Keep.of_wr W300).1)
  have f304 := (f292.wr W300 g_ar5)
  have f305 := (f293.wr W300)
  have f306 := (f294.other W300 (Or.inl ne278))
  have f307 := (f295.other W300 (Or.inl ne278))
  have f308 := (f296.other W300 ne282)
  obtain ⟨v309, T309, L309, X309, hQ309, st309⟩ := own_outS (Jvm.LawKit.callS X300o hx (y := (⟨"com/example/requeue/requeue/QueueNameOfPinLaw", "pick", "(I)C"⟩ : MethodName)) hown (mvT hZ (own_h hw 1 rfl)) (mvT hZ (own_h hw 2 rfl)) (mvT hZ (own_h hw 3 rfl)) (mvT hZ (own_h hw 4 rfl)) (by decide) (own_backL (W := 3) (Pv := fun U => Lit U "com/example/requeue/requeue/QueueNameOfPinLaw" 7 la) (rm_pickW l Z a0 hw [] b la lb lk h300 n0 z303 SS f304 f305 f306 f307 f308 hcd) hZ (own_h hw 4 rfl) (own_h hw 3 rfl) (by decide) (by decide) (own_litU hlit)) (g := (mkF m 103 #[vI a, vI b, vI d, vI f, vI g, vI md, vR ar1, vR ar2, vR ar3, vR ar4, vU, vU, vU, vU, vU, vU, vU] [(.int b), (.int (1 : Int32)), (.ref ar5), (.ref ar5)])) rfl (by rw [hml]; rfl) (argsL := [(.int b)]) (rest := [(.int (1 : Int32)), (.ref ar5), (.ref ar5)]) (lenOf pd__I_C rfl) rfl (by show 2 * 0 + _ ≤ _; exact Nat.le_of_eq rfl) (hb hby at_103) (fun _ _ => ⟨rfl, e300, (by decide : 7 + 0 ≤ _), (by decide : 279 + 0 ≤ _)⟩))
  obtain ⟨c5_1, rfl, hk_c5_1, N309q, e309⟩ := hQ309
  have N309 := Fr.app N300o N309q
  obtain ⟨Lo309, X309o, N309o⟩ := own_hl X309 N309
  have S310 : Go p e below s₁ (eF_law m a b d f g md) T309 (mkF m 106 #[vI a, vI b, vI d, vI f, vI g, vI md, vR ar1, vR ar2, vR ar3, vR ar4, vU, vU, vU, vU, vU, vU, vU] [(.int c5_1), (.int (1 : Int32)), (.ref ar5), (.ref ar5)]) := fun t kt => S302 t (st309 t kt)
  clear S302 st309 X300o e300 X309 N309
  obtain ⟨co311, Ao311, qo311, So311, No311, Ho311, Go311⟩ := id V300
  have hino311 : ¬ ((1 : Int32) < 0 ∨ co311.slots.size ≤ ((1 : Int32)).toNatClampNeg) := inb_of So311 ⟨by decide, by decide⟩
  obtain ⟨T312, h312, X312, e312, W312, st312⟩ := stC X309o hx hZ e309 Ao311 (j := (1 : Int32)) hino311 (g := (mkF m 106 #[vI a, vI b, vI d, vI f, vI g, vI md, vR ar1, vR ar2, vR ar3, vR ar4, vU, vU, vU, vU, vU, vU, vU] [(.int c5_1), (.int (1 : Int32)), (.ref ar5), (.ref ar5)])) rfl rfl (hb hby at_106)
  have N312 := Fr.snoc X312 N309o g_ar5
  obtain ⟨Lo312, X312o, N312o⟩ := own_hl X312 N312
  have V312 : Arv Z h312 ar5 k276 .char (5 : Int32) [(.int c5_0), (.int (c5_1.toUInt32.toUInt16.toUInt32.toInt32)), (.int (0 : Int32)), (.int (0 : Int32)), (.int (0 : Int32))] (.int (0 : Int32)) := Arv.set Ao311 qo311 So311 No311 Ho311 Go311 (fits_nar_char _) W312 1 rfl (Nat.le_of_ble_eq_true rfl)
  rw [own_nc2 hk_c5_1] at V312
  have S313 : Go p e below s₁ (eF_law m a b d f g md) T312 (mkF m 107 #[vI a, vI b, vI d, vI f, vI g, vI md, vR ar1, vR ar2, vR ar3, vR ar4, vU, vU, vU, vU, vU, vU, vU] [(.ref ar5)]) := fun t kt => S310 t (st312 t kt)
  clear S310 st312 X309o e309 X312 N312
  have S314 : Go p e below s₁ (eF_law m a b d f g md) T312 (mkF m 110 #[vI a, vI b, vI d, vI f, vI g, vI md, vR ar1, vR ar2, vR ar3, vR ar4, vU, vU, vU, vU, vU, vU, vU] [(.int d), (.int (2 : Int32)), (.ref ar5), (.ref ar5)]) := fun t kt => S313 t (by
    refine XS.dup X312o.here hx rfl (hb hby at_107) rfl rfl ?_
    show Sp p e below T312 (mkF m 108 #[vI a, vI b, vI d, vI f, vI g, vI md, vR ar1, vR ar2, vR ar3, vR ar4, vU, vU, vU, vU, vU, vU, vU] [(.ref ar5), (.ref ar5)]) _
    refine XS.iconst X312o.here hx rfl (hb hby at_108) ?_
    show Sp p e below T312 (mkF m 109 #[vI a, vI b, vI d, vI f, vI g, vI md, vR ar1, vR ar2, vR ar3, vR ar4, vU, vU, vU, vU, vU, vU, vU] [(.int (2 : Int32)), (.ref ar5), (.ref ar5)]) _
    refine XS.iloadN X312o.here hx rfl (hb hby at_109) rfl ?_
    show Sp p e below T312 (mkF m 110 #[vI a, vI b, vI d, vI f, vI g, vI md, vR ar1, vR ar2, vR ar3, vR ar4, vU, vU, vU, vU, vU, vU, vU] [(.int d), (.int (2 : Int32)), (.ref ar5), (.ref ar5)]) _
    exact kt)
  clear S313
  have z315 := (Nat.le_trans z303 (Keep.of_wr W312).1)
  have f316 := (f304.wr W312 g_ar5)
  have f317 := (f305.wr W312)
  have f318 := (f306.other W312 (Or.inl ne278))
  have f319 := (f307.other W312 (Or.inl ne278))
  have f320 := (f308.other W312 ne282)
  obtain ⟨v321, T321, L321, X321, hQ321, st321⟩ := own_outS (Jvm.LawKit.callS X312o hx (y := (⟨"com/example/requeue/requeue/QueueNameOfPinLaw", "pick", "(I)C"⟩ : MethodName)) hown (mvT hZ (own_h hw 1 rfl)) (mvT hZ (own_h hw 2 rfl)) (mvT hZ (own_h hw 3 rfl)) (mvT hZ (own_h hw 4 rfl)) (by decide) (own_backL (W := 3) (Pv := fun U => Lit U "com/example/requeue/requeue/QueueNameOfPinLaw" 7 la) (rm_pickW l Z a0 hw [] d la lb lk h312 n0 z315 SS f316 f317 f318 f319 f320 hcd) hZ (own_h hw 4 rfl) (own_h hw 3 rfl) (by decide) (by decide) (own_litU hlit)) (g := (mkF m 110 #[vI a, vI b, vI d, vI f, vI g, vI md, vR ar1, vR ar2, vR ar3, vR ar4, vU, vU, vU, vU, vU, vU, vU] [(.int d), (.int (2 : Int32)), (.ref ar5), (.ref ar5)])) rfl (by rw [hml]; rfl) (argsL := [(.int d)]) (rest := [(.int (2 : Int32)), (.ref ar5), (.ref ar5)]) (lenOf pd__I_C rfl) rfl (by show 2 * 0 + _ ≤ _; exact Nat.le_of_eq rfl) (hb hby at_110) (fun _ _ => ⟨rfl, e312, (by decide : 7 + 0 ≤ _), (by decide : 279 + 0 ≤ _)⟩))
  obtain ⟨c5_2, rfl, hk_c5_2, N321q, e321⟩ := hQ321
  have N321 := Fr.app N312o N321q
  obtain ⟨Lo321, X321o, N321o⟩ := own_hl X321 N321
  have S322 : Go p e below s₁ (eF_law m a b d f g md) T321 (mkF m 113 #[vI a, vI b, vI d, vI f, vI g, vI md, vR ar1, vR ar2, vR ar3, vR ar4, vU, vU, vU, vU, vU, vU, vU] [(.int c5_2), (.int (2 : Int32)), (.ref ar5), (.ref ar5)]) := fun t kt => S314 t (st321 t kt)
  clear S314 st321 X312o e312 X321 N321
  obtain ⟨co323, Ao323, qo323, So323, No323, Ho323, Go323⟩ := id V312
  have hino323 : ¬ ((2 : Int32) < 0 ∨ co323.slots.size ≤ ((2 : Int32)).toNatClampNeg) := inb_of So323 ⟨by decide, by decide⟩
  obtain ⟨T324, h324, X324, e324, W324, st324⟩ := stC X321o hx hZ e321 Ao323 (j := (2 : Int32)) hino323 (g := (mkF m 113 #[vI a, vI b, vI d, vI f, vI g, vI md, vR ar1, vR ar2, vR ar3, vR ar4, vU, vU, vU, vU, vU, vU, vU] [(.int c5_2), (.int (2 : Int32)), (.ref ar5), (.ref ar5)])) rfl rfl (hb hby at_113)
  have N324 := Fr.snoc X324 N321o g_ar5
  obtain ⟨Lo324, X324o, N324o⟩ := own_hl X324 N324
  have V324 : Arv Z h324 ar5 k276 .char (5 : Int32) [(.int c5_0), (.int c5_1), (.int (c5_2.toUInt32.toUInt16.toUInt32.toInt32)), (.int (0 : Int32)), (.int (0 : Int32))] (.int (0 : Int32)) := Arv.set Ao323 qo323 So323 No323 Ho323 Go323 (fits_nar_char _) W324 2 rfl (Nat.le_of_ble_eq_true rfl)
  rw [own_nc2 hk_c5_2] at V324
  have S325 : Go p e below s₁ (eF_law m a b d f g md) T324 (mkF m 114 #[vI a, vI b, vI d, vI f, vI g, vI md, vR ar1, vR ar2, vR ar3, vR ar4, vU, vU, vU, vU, vU, vU, vU] [(.ref ar5)]) := fun t kt => S322 t (st324 t kt)
  clear S322 st324 X321o e321 X324 N324
  have S326 : Go p e below s₁ (eF_law m a b d f g md) T324 (mkF m 117 #[vI a, vI b, vI d, vI f, vI g, vI md, vR ar1, vR ar2, vR ar3, vR ar4, vU, vU, vU, vU, vU, vU, vU] [(.int f), (.int (3 : Int32)), (.ref ar5), (.ref ar5)]) := fun t kt => S325 t (by
    refine XS.dup X324o.here hx rfl (hb hby at_114) rfl rfl ?_
    show Sp p e below T324 (mkF m 115 #[vI a, vI b, vI d, vI f, vI g, vI md, vR ar1, vR ar2, vR ar3, vR ar4, vU, vU, vU, vU, vU, vU, vU] [(.ref ar5), (.ref ar5)]) _
    refine XS.iconst X324o.here hx rfl (hb hby at_115) ?_
    show Sp p e below T324 (mkF m 116 #[vI a, vI b, vI d, vI f, vI g, vI md, vR ar1, vR ar2, vR ar3, vR ar4, vU, vU, vU, vU, vU, vU, vU] [(.int (3 : Int32)), (.ref ar5), (.ref ar5)]) _
    refine XS.iloadN X324o.here hx rfl (hb hby at_116) rfl ?_
    show Sp p e below T324 (mkF m 117 #[vI a, vI b, vI d, vI f, vI g, vI md, vR ar1, vR ar2, vR ar3, vR ar4, vU, vU, vU, vU, vU, vU, vU] [(.int f), (.int (3 : Int32)), (.ref ar5), (.ref ar5)]) _
    exact kt)
  clear S325
  have z327 := (Nat.le_trans z315 (Keep.of_wr W324).1)
  have f328 := (f316.wr W324 g_ar5)
  have f329 := (f317.wr W324)
  have f330 := (f318.other W324 (Or.inl ne278))
  have f331 := (f319.other W324 (Or.inl ne278))
  have f332 := (f320.other W324 ne282)
  obtain ⟨v333, T333, L333, X333, hQ333, st333⟩ := own_outS (Jvm.LawKit.callS X324o hx (y := (⟨"com/example/requeue/requeue/QueueNameOfPinLaw", "pick", "(I)C"⟩ : MethodName)) hown (mvT hZ (own_h hw 1 rfl)) (mvT hZ (own_h hw 2 rfl)) (mvT hZ (own_h hw 3 rfl)) (mvT hZ (own_h hw 4 rfl)) (by decide) (own_backL (W := 3) (Pv := fun U => Lit U "com/example/requeue/requeue/QueueNameOfPinLaw" 7 la) (rm_pickW l Z a0 hw [] f la lb lk h324 n0 z327 SS f328 f329 f330 f331 f332 hcd) hZ (own_h hw 4 rfl) (own_h hw 3 rfl) (by decide) (by decide) (own_litU hlit)) (g := (mkF m 117 #[vI a, vI b, vI d, vI f, vI g, vI md, vR ar1, vR ar2, vR ar3, vR ar4, vU, vU, vU, vU, vU, vU, vU] [(.int f), (.int (3 : Int32)), (.ref ar5), (.ref ar5)])) rfl (by rw [hml]; rfl) (argsL := [(.int f)]) (rest := [(.int (3 : Int32)), (.ref ar5), (.ref ar5)]) (lenOf pd__I_C rfl) rfl (by show 2 * 0 + _ ≤ _; exact Nat.le_of_eq rfl) (hb hby at_117) (fun _ _ => ⟨rfl, e324, (by decide : 7 + 0 ≤ _), (by decide : 279 + 0 ≤ _)⟩))
  obtain ⟨c5_3, rfl, hk_c5_3, N333q, e333⟩ := hQ333
  have N333 := Fr.app N324o N333q
  obtain ⟨Lo333, X333o, N333o⟩ := own_hl X333 N333
  have S334 : Go p e below s₁ (eF_law m a b d f g md) T333 (mkF m 120 #[vI a, vI b, vI d, vI f, vI g, vI md, vR ar1, vR ar2, vR ar3, vR ar4, vU, vU, vU, vU, vU, vU, vU] [(.int c5_3), (.int (3 : Int32)), (.ref ar5), (.ref ar5)]) := fun t kt => S326 t (st333 t kt)
  clear S326 st333 X324o e324 X333 N333
  obtain ⟨co335, Ao335, qo335, So335, No335, Ho335, Go335⟩ := id V324
  have hino335 : ¬ ((3 : Int32) < 0 ∨ co335.slots.size ≤ ((3 : Int32)).toNatClampNeg) := inb_of So335 ⟨by decide, by decide⟩
  obtain ⟨T336, h336, X336, e336, W336, st336⟩ := stC X333o hx hZ e333 Ao335 (j := (3 : Int32)) hino335 (g := (mkF m 120 #[vI a, vI b, vI d, vI f, vI g, vI md, vR ar1, vR ar2, vR ar3, vR ar4, vU, vU, vU, vU, vU, vU, vU] [(.int c5_3), (.int (3 : Int32)), (.ref ar5), (.ref ar5)])) rfl rfl (hb hby at_120)
  have N336 := Fr.snoc X336 N333o g_ar5
  obtain ⟨Lo336, X336o, N336o⟩ := own_hl X336 N336
  have V336 : Arv Z h336 ar5 k276 .char (5 : Int32) [(.int c5_0), (.int c5_1), (.int c5_2), (.int (c5_3.toUInt32.toUInt16.toUInt32.toInt32)), (.int (0 : Int32))] (.int (0 : Int32)) := Arv.set Ao335 qo335 So335 No335 Ho335 Go335 (fits_nar_char _) W336 3 rfl (Nat.le_of_ble_eq_true rfl)
  rw [own_nc2 hk_c5_3] at V336
  have S337 : Go p e below s₁ (eF_law m a b d f g md) T336 (mkF m 121 #[vI a, vI b, vI d, vI f, vI g, vI md, vR ar1, vR ar2, vR ar3, vR ar4, vU, vU, vU, vU, vU, vU, vU] [(.ref ar5)]) := fun t kt => S334 t (st336 t kt)
  clear S334 st336 X333o e333 X336 N336
  have S338 : Go p e below s₁ (eF_law m a b d f g md) T336 (mkF m 125 #[vI a, vI b, vI d, vI f, vI g, vI md, vR ar1, vR ar2, vR ar3, vR ar4, vU, vU, vU, vU, vU, vU, vU] [(.int g), (.int (4 : Int32)), (.ref ar5), (.ref ar5)]) := fun t kt => S337 t (by
    refine XS.dup X336o.here hx rfl (hb hby at_121) rfl rfl ?_
    show Sp p e below T336 (mkF m 122 #[vI a, vI b, vI d, vI f, vI g, vI md, vR ar1, vR ar2, vR ar3, vR ar4, vU, vU, vU, vU, vU, vU, vU] [(.ref ar5), (.ref ar5)]) _
    refine XS.iconst X336o.here hx rfl (hb hby at_122) ?_
    show Sp p e below T336 (mkF m 123 #[vI a, vI b, vI d, vI f, vI g, vI md, vR ar1, vR ar2, vR ar3, vR ar4, vU, vU, vU, vU, vU, vU, vU] [(.int (4 : Int32)), (.ref ar5), (.ref ar5)]) _
    refine XS.iload X336o.here hx rfl (hb hby at_123) rfl ?_
    show Sp p e below T336 (mkF m 125 #[vI a, vI b, vI d, vI f, vI g, vI md, vR ar1, vR ar2, vR ar3, vR ar4, vU, vU, vU, vU, vU, vU, vU] [(.int g), (.int (4 : Int32)), (.ref ar5), (.ref ar5)]) _
    exact kt)
  clear S337
  have z339 := (Nat.le_trans z327 (Keep.of_wr W336).1)
  have f340 := (f328.wr W336 g_ar5)
  have f341 := (f329.wr W336)
  have f342 := (f330.other W336 (Or.inl ne278))
  have f343 := (f331.other W336 (Or.inl ne278))
  have f344 := (f332.other W336 ne282)
  obtain ⟨v345, T345, L345, X345, hQ345, st345⟩ := own_outS (Jvm.LawKit.callS X336o hx (y := (⟨"com/example/requeue/requeue/QueueNameOfPinLaw", "pick", "(I)C"⟩ : MethodName)) hown (mvT hZ (own_h hw 1 rfl)) (mvT hZ (own_h hw 2 rfl)) (mvT hZ (own_h hw 3 rfl)) (mvT hZ (own_h hw 4 rfl)) (by decide) (own_backL (W := 3) (Pv := fun U => Lit U "com/example/requeue/requeue/QueueNameOfPinLaw" 7 la) (rm_pickW l Z a0 hw [] g la lb lk h336 n0 z339 SS f340 f341 f342 f343 f344 hcd) hZ (own_h hw 4 rfl) (own_h hw 3 rfl) (by decide) (by decide) (own_litU hlit)) (g := (mkF m 125 #[vI a, vI b, vI d, vI f, vI g, vI md, vR ar1, vR ar2, vR ar3, vR ar4, vU, vU, vU, vU, vU, vU, vU] [(.int g), (.int (4 : Int32)), (.ref ar5), (.ref ar5)])) rfl (by rw [hml]; rfl) (argsL := [(.int g)]) (rest := [(.int (4 : Int32)), (.ref ar5), (.ref ar5)]) (lenOf pd__I_C rfl) rfl (by show 2 * 0 + _ ≤ _; exact Nat.le_of_eq rfl) (hb hby at_125) (fun _ _ => ⟨rfl, e336, (by decide : 7 + 0 ≤ _), (by decide : 279 + 0 ≤ _)⟩))
  obtain ⟨c5_4, rfl, hk_c5_4, N345q, e345⟩ := hQ345
  have N345 := Fr.app N336o N345q
  obtain ⟨Lo345, X345o, N345o⟩ := own_hl X345 N345
  have S346 : Go p e below s₁ (eF_law m a b d f g md) T345 (mkF m 128 #[vI a, vI b, vI d, vI f, vI g, vI md, vR ar1, vR ar2, vR ar3, vR ar4, vU, vU, vU, vU, vU, vU, vU] [(.int c5_4), (.int (4 : Int32)), (.ref ar5), (.ref ar5)]) := fun t kt => S338 t (st345 t kt)
  clear S338 st345 X336o e336 X345 N345
  obtain ⟨co347, Ao347, qo347, So347, No347, Ho347, Go347⟩ := id V336
  have hino347 : ¬ ((4 : Int32) < 0 ∨ co347.slots.size ≤ ((4 : Int32)).toNatClampNeg) := inb_of So347 ⟨by decide, by decide⟩
  obtain ⟨T348, h348, X348, e348, W348, st348⟩ := stC X345o hx hZ e345 Ao347 (j := (4 : Int32)) hino347 (g := (mkF m 128 #[vI a, vI b, vI d, vI f, vI g, vI md, vR ar1, vR ar2, vR ar3, vR ar4, vU, vU, vU, vU, vU, vU, vU] [(.int c5_4), (.int (4 : Int32)), (.ref ar5), (.ref ar5)])) rfl rfl (hb hby at_128)
  have N348 := Fr.snoc X348 N345o g_ar5
  obtain ⟨Lo348, X348o, N348o⟩ := own_hl X348 N348
  have V348 : Arv Z h348 ar5 k276 .char (5 : Int32) [(.int c5_0), (.int c5_1), (.int c5_2), (.int c5_3), (.int (c5_4.toUInt32.toUInt16.toUInt32.toInt32))] (.int (0 : Int32)) := Arv.set Ao347 qo347 So347 No347 Ho347 Go347 (fits_nar_char _) W348 4 rfl (Nat.le_of_ble_eq_true rfl)
  rw [own_nc2 hk_c5_4] at V348
  have S349 : Go p e below s₁ (eF_law m a b d f g md) T348 (mkF m 129 #[vI a, vI b, vI d, vI f, vI g, vI md, vR ar1, vR ar2, vR ar3, vR ar4, vU, vU, vU, vU, vU, vU, vU] [(.ref ar5)]) := fun t kt => S346 t (st348 t kt)
  clear S346 st348 X345o e345 X348 N348
  have S350 : Go p e below s₁ (eF_law m a b d f g md) T348 (mkF m 139 #[vI a, vI b, vI d, vI f, vI g, vI md, vR ar1, vR ar2, vR ar3, vR ar4, vR ar5, vU, vU, vU, vU, vU, vU] [(.int ((md &&& (2147483647 : Int32)) % (6 : Int32)))]) := fun t kt => S349 t (by
    refine XS.astore X348o.here hx rfl (hb hby at_129) rfl rfl (l' := #[vI a, vI b, vI d, vI f, vI g, vI md, vR ar1, vR ar2, vR ar3, vR ar4, vR ar5, vU, vU, vU, vU, vU, vU]) rfl ?_
    show Sp p e below T348 (mkF m 131 #[vI a, vI b, vI d, vI f, vI g, vI md, vR ar1, vR ar2, vR ar3, vR ar4, vR ar5, vU, vU, vU, vU, vU, vU] []) _
    refine XS.iload X348o.here hx rfl (hb hby at_131) rfl ?_
    show Sp p e below T348 (mkF m 133 #[vI a, vI b, vI d, vI f, vI g, vI md, vR ar1, vR ar2, vR ar3, vR ar4, vR ar5, vU, vU, vU, vU, vU, vU] [(.int md)]) _
    refine X348o.ldcInt hx hown (mvT hZ (own_h hw 13 rfl)) (g := (mkF m 133 #[vI a, vI b, vI d, vI f, vI g, vI md, vR ar1, vR ar2, vR ar3, vR ar4, vR ar5, vU, vU, vU, vU, vU, vU] [(.int md)])) rfl (hb hby at_133) _ ?_
    show Sp p e below T348 (mkF m 135 #[vI a, vI b, vI d, vI f, vI g, vI md, vR ar1, vR ar2, vR ar3, vR ar4, vR ar5, vU, vU, vU, vU, vU, vU] [(.int (2147483647 : Int32)), (.int md)]) _
    refine XS.iand X348o.here hx rfl (hb hby at_135) rfl ?_
    show Sp p e below T348 (mkF m 136 #[vI a, vI b, vI d, vI f, vI g, vI md, vR ar1, vR ar2, vR ar3, vR ar4, vR ar5, vU, vU, vU, vU, vU, vU] [(.int (md &&& (2147483647 : Int32)))]) _
    refine XS.bipush X348o.here hx rfl (hb hby at_136) ?_
    show Sp p e below T348 (mkF m 138 #[vI a, vI b, vI d, vI f, vI g, vI md, vR ar1, vR ar2, vR ar3, vR ar4, vR ar5, vU, vU, vU, vU, vU, vU] [(.int (6 : Int32)), (.int (md &&& (2147483647 : Int32)))]) _
    refine iremM X348o hx rfl (hb hby at_138) rfl (by decide) ?_
    show Sp p e below T348 (mkF m 139 #[vI a, vI b, vI d, vI f, vI g, vI md, vR ar1, vR ar2, vR ar3, vR ar4, vR ar5, vU, vU, vU, vU, vU, vU] [(.int ((md &&& (2147483647 : Int32)) % (6 : Int32)))]) _
    exact kt)
  clear S349
  obtain ⟨kk, q_kk⟩ : ∃ z : Int32, z = ((md &&& (2147483647 : Int32)) % (6 : Int32)) := ⟨_, rfl⟩
  have S351 : Go p e below s₁ (eF_law m a b d f g md) T348 (mkF m 139 #[vI a, vI b, vI d, vI f, vI g, vI md, vR ar1, vR ar2, vR ar3, vR ar4, vR ar5, vU, vU, vU, vU, vU, vU] [(.int kk)]) := by subst q_kk; exact S350
  clear S350
  obtain ⟨jk, hjk, hkk⟩ := own_mod md (k := 6) 6 rfl (by decide) (by decide)
  rw [← q_kk] at hkk
  have S352 : Go p e below s₁ (eF_law m a b d f g md) T348 (mkF m 143 #[vI a, vI b, vI d, vI f, vI g, vI md, vR ar1, vR ar2, vR ar3, vR ar4, vR ar5, vI kk, vU, vU, vU, vU, vU] [(.int kk)]) := fun t kt => S351 t (by
    refine XS.istore X348o.here hx rfl (hb hby at_139) rfl (l' := #[vI a, vI b, vI d, vI f, vI g, vI md, vR ar1, vR ar2, vR ar3, vR ar4, vR ar5, vI kk, vU, vU, vU, vU, vU]) rfl ?_
    show Sp p e below T348 (mkF m 141 #[vI a, vI b, vI d, vI f, vI g, vI md, vR ar1, vR ar2, vR ar3, vR ar4, vR ar5, vI kk, vU, vU, vU, vU, vU] []) _
    refine XS.iload X348o.here hx rfl (hb hby at_141) rfl ?_
    show Sp p e below T348 (mkF m 143 #[vI a, vI b, vI d, vI f, vI g, vI md, vR ar1, vR ar2, vR ar3, vR ar4, vR ar5, vI kk, vU, vU, vU, vU, vU] [(.int kk)]) _
    exact kt)
  clear S351
  by_cases hn1 : kk = (0 : Int32)
  · have S356 : Go p e below s₁ (eF_law m a b d f g md) T348 (mkF m 191 #[vI a, vI b, vI d, vI f, vI g, vI md, vR ar1, vR ar2, vR ar3, vR ar4, vR ar5, vI kk, vR ar1, vU, vU, vU, vU] [(.int (5 : Int32)), (.int kk)]) := fun t kt => S352 t (by
      refine XS.ifNo X348o.here hx rfl (hb hby at_143) rfl ((if0 _ _).trans (teq (show kk = (0 : Int32) from hn1)).2) ?_
      show Sp p e below T348 (mkF m 146 #[vI a, vI b, vI d, vI f, vI g, vI md, vR ar1, vR ar2, vR ar3, vR ar4, vR ar5, vI kk, vU, vU, vU, vU, vU] []) _
      refine XS.aload X348o.here hx rfl (hb hby at_146) rfl rfl ?_
      show Sp p e below T348 (mkF m 148 #[vI a, vI b, vI d, vI f, vI g, vI md, vR ar1, vR ar2, vR ar3, vR ar4, vR ar5, vI kk, vU, vU, vU, vU, vU] [(.ref ar1)]) _
      refine XS.goto X348o.here hx rfl (pc0 := 148) (pc' := 186) rfl (hb hby at_148) (by decide) (by decide) ?_
      show Sp p e below T348 (mkF m 186 #[vI a, vI b, vI d, vI f, vI g, vI md, vR ar1, vR ar2, vR ar3, vR ar4, vR ar5, vI kk, vU, vU, vU, vU, vU] [(.ref ar1)]) _
      refine XS.astore X348o.here hx rfl (hb hby at_186) rfl rfl (l' := #[vI a, vI b, vI d, vI f, vI g, vI md, vR ar1, vR ar2, vR ar3, vR ar4, vR ar5, vI kk, vR ar1, vU, vU, vU, vU]) rfl ?_
      show Sp p e below T348 (mkF m 188 #[vI a, vI b, vI d, vI f, vI g, vI md, vR ar1, vR ar2, vR ar3, vR ar4, vR ar5, vI kk, vR ar1, vU, vU, vU, vU] []) _
      refine XS.iload X348o.here hx rfl (hb hby at_188) rfl ?_
      show Sp p e below T348 (mkF m 190 #[vI a, vI b, vI d, vI f, vI g, vI md, vR ar1, vR ar2, vR ar3, vR ar4, vR ar5, vI kk, vR ar1, vU, vU, vU, vU] [(.int kk)]) _
      refine XS.iconst X348o.here hx rfl (hb hby at_190) ?_
      show Sp p e below T348 (mkF m 191 #[vI a, vI b, vI d, vI f, vI g, vI md, vR ar1, vR ar2, vR ar3, vR ar4, vR ar5, vI kk, vR ar1, vU, vU, vU, vU] [(.int (5 : Int32)), (.int kk)]) _
      exact kt)
    clear S352
    have q358 : kk = (0 : Int32) := hn1
    have S357 : Go p e below s₁ (eF_law m a b d f g md) T348 (mkF m 191 #[vI a, vI b, vI d, vI f, vI g, vI md, vR ar1, vR ar2, vR ar3, vR ar4, vR ar5, vI (0 : Int32), vR ar1, vU, vU, vU, vU] [(.int (5 : Int32)), (.int (0 : Int32))]) := by have h := S356; rw [q358] at h; exact h
    clear S356
    have hokx : ∀ z ∈ ([c1_0] : List Int32), own_ok z := fun z hz => by simp only [List.mem_cons, List.not_mem_nil, or_false] at hz; rcases hz with rfl <;> assumption
    have hcx : StrChars.Road.CodA ([c1_0] : List Int32) 0 (1 : Int32) (own_vs ([c1_0] : List Int32)) := own_coda rfl hokx
    have S369 : Go p e below s₁ (eF_law m a b d f g md) T348 (mkF m 205 #[vI a, vI b, vI d, vI f, vI g, vI md, vR ar1, vR ar2, vR ar3, vR ar4, vR ar5, vI (0 : Int32), vR ar1, vU, vU, vU, vU] []) := fun t kt => S357 t (by
      refine XS.icmpYes X348o.here hx rfl (pc0 := 191) (pc' := 205) rfl (hb hby at_191) rfl (feq (show ¬ ((0 : Int32) = (5 : Int32)) from (by decide))).2 (by decide) (by decide) ?_
      show Sp p e below T348 (mkF m 205 #[vI a, vI b, vI d, vI f, vI g, vI md, vR ar1, vR ar2, vR ar3, vR ar4, vR ar5, vI (0 : Int32), vR ar1, vU, vU, vU, vU] []) _
      exact kt)
    clear S357
    obtain ⟨T370, h370, X370, e370, E370, A370, D370, -, st370⟩ := newO X348o hx hZ hown (own_h hw 39 rfl) (own_h hw 7 rfl) (own_h hw 6 rfl) e348 (g := (mkF m 205 #[vI a, vI b, vI d, vI f, vI g, vI md, vR ar1, vR ar2, vR ar3, vR ar4, vR ar5, vI (0 : Int32), vR ar1, vU, vU, vU, vU] [])) rfl (hb hby at_205) (by decide) (by decide)
    obtain ⟨x1, g370⟩ : ∃ z, z = h348.size := ⟨_, rfl⟩
    rw [← g370] at A370 D370 st370
    have f371 := (f341.wr W348)
    have ne372 : la ≠ x1 := by rw [g370]; exact Nat.ne_of_lt f371.lt
    have f373 := ((((((f279.ext E276).other W300 ne280).other W312 ne280).other W324 ne280).other W336 ne280).other W348 ne280)
    have ne374 : ar1 ≠ x1 := by rw [g370]; exact Nat.ne_of_lt f373.lt
    have f375 := (f344.other W348 ne282)
    have ne376 : lb ≠ x1 := by rw [g370]; exact Nat.ne_of_lt f375.lt
    have f377 := ((((((f283.ext E276).other W300 ne284).other W312 ne284).other W324 ne284).other W336 ne284).other W348 ne284)
    have ne378 : ar2 ≠ x1 := by rw [g370]; exact Nat.ne_of_lt f377.lt
    have f379 := ((((((f285.ext E276).other W300 ne286).other W312 ne286).other W324 ne286).other W336 ne286).other W348 ne286)
    have ne380 : ar3 ≠ x1 := by rw [g370]; exact Nat.ne_of_lt f379.lt
    have f381 := ((((((V273.ext E276).other W300 ne287).other W312 ne287).other W324 ne287).other W336 ne287).other W348 ne287)
    have ne382 : ar4 ≠ x1 := by rw [g370]; exact Nat.ne_of_lt f381.lt
    have ne383 : ar5 ≠ x1 := by rw [g370]; exact Nat.ne_of_lt V348.lt
    have z384 := (Nat.le_trans z339 (Keep.of_wr W348).1)
    have g_x1 : n0 ≤ x1 := Nat.le_trans z384 (Nat.le_of_eq g370.symm)
    have F_value_x1 : Fld Z h370 x1 "java/lang/String" "value" "[B" .null := D370 (Or.inr (own_h hw 9 rfl)) (ty := (.array .byte)) (by decide)
    have F_coder_x1 : Fld Z h370 x1 "java/lang/String" "coder" "B" (.int (0 : Int32)) := D370 (Or.inr (own_h hw 10 rfl)) (ty := .byte) (by decide)
    have S385 : Go p e below s₁ (eF_law m a b d f g md) T370 (mkF m 208 #[vI a, vI b, vI d, vI f, vI g, vI md, vR ar1, vR ar2, vR ar3, vR ar4, vR ar5, vI (0 : Int32), vR ar1, vU, vU, vU, vU] [(.ref x1)]) := fun t kt => S369 t (st370 t kt)
    clear S369 st370 X348o e348
    have S386 : Go p e below s₁ (eF_law m a b d f g md) T370 (mkF m 211 #[vI a, vI b, vI d, vI f, vI g, vI md, vR ar1, vR ar2, vR ar3, vR ar4, vR ar5, vI (0 : Int32), vR ar1, vU, vU, vU, vU] [(.ref ar1), (.ref x1), (.ref x1)]) := fun t kt => S385 t (by
      refine XS.dup X370.here hx rfl (hb hby at_208) rfl rfl ?_
      show Sp p e below T370 (mkF m 209 #[vI a, vI b, vI d, vI f, vI g, vI md, vR ar1, vR ar2, vR ar3, vR ar4, vR ar5, vI (0 : Int32), vR ar1, vU, vU, vU, vU] [(.ref x1), (.ref x1)]) _
      refine XS.aload X370.here hx rfl (hb hby at_209) rfl rfl ?_
      show Sp p e below T370 (mkF m 211 #[vI a, vI b, vI d, vI f, vI g, vI md, vR ar1, vR ar2, vR ar3, vR ar4, vR ar5, vI (0 : Int32), vR ar1, vU, vU, vU, vU] [(.ref ar1), (.ref x1), (.ref x1)]) _
      exact kt)
    clear S385
    have z387 := (Nat.le_trans z384 E370.1)
    have f388 := (f373.ext E370)
    have f389 := ((f340.wr W348 g_ar5).ext E370)
    obtain ⟨v390, T390, L390, X390, hQ390, st390⟩ := own_outV (X370.specialBack hx (y := (⟨"java/lang/String", "<init>", "([C)V"⟩ : MethodName)) rfl hown (mvT hZ (own_h hw 40 rfl)) (mvT hZ (own_h hw 41 rfl)) (mvT hZ (own_h hw 42 rfl)) (by decide) (StrChars.Road.backV (W := 1) hZ hws (kI := 4) (own_h hw 7 rfl) (cs := ([c1_0] : List Int32)) (bs := ([c1_0] : List Int32).map (fun c => c.toInt8.toInt32)) (n := 1) (n0 := n0) g_x1 z387 A370 F_value_x1 F_coder_x1 f388 (S_cs.ext f389.2) hcz rfl rfl (by decide) (by decide) (fun z hz => own_rng (hokx z hz)) rfl (by decide) (by decide)) (g := (mkF m 211 #[vI a, vI b, vI d, vI f, vI g, vI md, vR ar1, vR ar2, vR ar3, vR ar4, vR ar5, vI (0 : Int32), vR ar1, vU, vU, vU, vU] [(.ref ar1), (.ref x1), (.ref x1)])) rfl (by rw [hml]; rfl) (Steps.refl _) (a := x1) (argsL := [(.ref ar1)]) (rest := [(.ref x1)]) (lenOf pd___C_V rfl) rfl (by show 2 * 0 + _ ≤ _; exact Nat.le_of_eq rfl) (hb hby at_211) (fun _ _ => ⟨rfl, e370, (by decide : 8 + 1 ≤ _), (by decide : 283 + 1 ≤ _)⟩))
    obtain ⟨rfl, N390q, K390, E390, F390, t1, kb390, g_t1, sz390, ntx390, G390, V390⟩ := hQ390
    have N390 := Fr.app N348o N390q
    obtain ⟨Lo390, X390o, N390o⟩ := own_hl X390 N390
    have V390' : Arv Z T390.heap t1 kb390 .byte (1 : Int32) (own_vs ([c1_0] : List Int32)) (.int (0 : Int32)) := by have q := V390; rw [List.map_map] at q; exact q
    have S391 : Go p e below s₁ (eF_law m a b d f g md) T390 (mkF m 214 #[vI a, vI b, vI d, vI f, vI g, vI md, vR ar1, vR ar2, vR ar3, vR ar4, vR ar5, vI (0 : Int32), vR ar1, vU, vU, vU, vU] [(.ref x1)]) := fun t kt => S386 t (st390 t kt)
    clear S386 st390 X370 e370 X390 N390
    have S392 : Go p e below s₁ (eF_law m a b d f g md) T390 (mkF m 216 #[vI a, vI b, vI d, vI f, vI g, vI md, vR ar1, vR ar2, vR ar3, vR ar4, vR ar5, vI (0 : Int32), vR ar1, vR x1, vU, vU, vU] []) := fun t kt => S391 t (by
      refine XS.astore X390o.here hx rfl (hb hby at_214) rfl rfl (l' := #[vI a, vI b, vI d, vI f, vI g, vI md, vR ar1, vR ar2, vR ar3, vR ar4, vR ar5, vI (0 : Int32), vR ar1, vR x1, vU, vU, vU]) rfl ?_
      show Sp p e below T390 (mkF m 216 #[vI a, vI b, vI d, vI f, vI g, vI md, vR ar1, vR ar2, vR ar3, vR ar4, vR ar5, vI (0 : Int32), vR ar1, vR x1, vU, vU, vU] []) _
      exact kt)
    clear S391
    obtain ⟨T393, h393, X393, e393, E393, A393, D393, -, st393⟩ := newO X390o hx hZ hown (own_h hw 39 rfl) (own_h hw 7 rfl) (own_h hw 6 rfl) rfl (g := (mkF m 216 #[vI a, vI b, vI d, vI f, vI g, vI md, vR ar1, vR ar2, vR ar3, vR ar4, vR ar5, vI (0 : Int32), vR ar1, vR x1, vU, vU, vU] [])) rfl (hb hby at_216) (by decide) (by decide)
    obtain ⟨x2, g393⟩ : ∃ z, z = T390.heap.size := ⟨_, rfl⟩
    rw [← g393] at A393 D393 st393
    have f394 := ((f371.ext E370).keep K390)
    have ne395 : la ≠ x2 := by rw [g393]; exact Nat.ne_of_lt f394.lt
    have ne396 : x1 ≠ x2 := by rw [g393]; exact Nat.ne_of_lt E390.lt
    have f397 := (f388.keep K390 (ninS ne374 nin0))
    have ne398 : ar1 ≠ x2 := by rw [g393]; exact Nat.ne_of_lt f397.lt
    have f399 := ((f375.ext E370).keep K390 (ninS ne376 nin0))
    have ne400 : lb ≠ x2 := by rw [g393]; exact Nat.ne_of_lt f399.lt
    have f401 := ((f377.ext E370).keep K390 (ninS ne378 nin0))
    have ne402 : ar2 ≠ x2 := by rw [g393]; exact Nat.ne_of_lt f401.lt
    have f403 := ((f379.ext E370).keep K390 (ninS ne380 nin0))
    have ne404 : ar3 ≠ x2 := by rw [g393]; exact Nat.ne_of_lt f403.lt
    have f405 := ((f381.ext E370).keep K390 (ninS ne382 nin0))
    have ne406 : ar4 ≠ x2 := by rw [g393]; exact Nat.ne_of_lt f405.lt
    have f407 := ((V348.ext E370).keep K390 (ninS ne383 nin0))
    have ne408 : ar5 ≠ x2 := by rw [g393]; exact Nat.ne_of_lt f407.lt
    have ne409 : t1 ≠ x2 := by rw [g393]; exact Nat.ne_of_lt V390'.lt
    have z410 := (Nat.le_trans z387 K390.1)
    have g_x2 : n0 ≤ x2 := Nat.le_trans z410 (Nat.le_of_eq g393.symm)
    have F_value_x2 : Fld Z h393 x2 "java/lang/String" "value" "[B" .null := D393 (Or.inr (own_h hw 9 rfl)) (ty := (.array .byte)) (by decide)
    have F_coder_x2 : Fld Z h393 x2 "java/lang/String" "coder" "B" (.int (0 : Int32)) := D393 (Or.inr (own_h hw 10 rfl)) (ty := .byte) (by decide)
    have S411 : Go p e below s₁ (eF_law m a b d f g md) T393 (mkF m 219 #[vI a, vI b, vI d, vI f, vI g, vI md, vR ar1, vR ar2, vR ar3, vR ar4, vR ar5, vI (0 : Int32), vR ar1, vR x1, vU, vU, vU] [(.ref x2)]) := fun t kt => S392 t (st393 t kt)
    clear S392 st393 X390o
    have S412 : Go p e below s₁ (eF_law m a b d f g md) T393 (mkF m 222 #[vI a, vI b, vI d, vI f, vI g, vI md, vR ar1, vR ar2, vR ar3, vR ar4, vR ar5, vI (0 : Int32), vR ar1, vR x1, vU, vU, vU] [(.ref ar1), (.ref x2), (.ref x2)]) := fun t kt => S411 t (by
      refine XS.dup X393.here hx rfl (hb hby at_219) rfl rfl ?_
      show Sp p e below T393 (mkF m 220 #[vI a, vI b, vI d, vI f, vI g, vI md, vR ar1, vR ar2, vR ar3, vR ar4, vR ar5, vI (0 : Int32), vR ar1, vR x1, vU, vU, vU] [(.ref x2), (.ref x2)]) _
      refine XS.aload X393.here hx rfl (hb hby at_220) rfl rfl ?_
      show Sp p e below T393 (mkF m 222 #[vI a, vI b, vI d, vI f, vI g, vI md, vR ar1, vR ar2, vR ar3, vR ar4, vR ar5, vI (0 : Int32), vR ar1, vR x1, vU, vU, vU] [(.ref ar1), (.ref x2), (.ref x2)]) _
      exact kt)
    clear S411
    have z413 := (Nat.le_trans z410 E393.1)
    have f414 := (f397.ext E393)
    have f415 := ((f389.keep K390 (allS g_x1 all0)).ext E393)
    obtain ⟨v416, T416, L416, X416, hQ416, st416⟩ := own_outV (X393.specialBack hx (y := (⟨"java/lang/String", "<init>", "([C)V"⟩ : MethodName)) rfl hown (mvT hZ (own_h hw 40 rfl)) (mvT hZ (own_h hw 41 rfl)) (mvT hZ (own_h hw 42 rfl)) (by decide) (StrChars.Road.backV (W := 1) hZ hws (kI := 4) (own_h hw 7 rfl) (cs := ([c1_0] : List Int32)) (bs := ([c1_0] : List Int32).map (fun c => c.toInt8.toInt32)) (n := 1) (n0 := n0) g_x2 z413 A393 F_value_x2 F_coder_x2 f414 (S_cs.ext f415.2) hcz rfl rfl (by decide) (by decide) (fun z hz => own_rng (hokx z hz)) rfl (by decide) (by decide)) (g := (mkF m 222 #[vI a, vI b, vI d, vI f, vI g, vI md, vR ar1, vR ar2, vR ar3, vR ar4, vR ar5, vI (0 : Int32), vR ar1, vR x1, vU, vU, vU] [(.ref ar1), (.ref x2), (.ref x2)])) rfl (by rw [hml]; rfl) (Steps.refl _) (a := x2) (argsL := [(.ref ar1)]) (rest := [(.ref x2)]) (lenOf pd___C_V rfl) rfl (by show 2 * 0 + _ ≤ _; exact Nat.le_of_eq rfl) (hb hby at_222) (fun _ _ => ⟨rfl, e393, (by decide : 10 + 1 ≤ _), (by decide : 288 + 1 ≤ _)⟩))
    obtain ⟨rfl, N416q, K416, E416, F416, t2, kb416, g_t2, sz416, ntx416, G416, V416⟩ := hQ416
    have N416 := Fr.app N390o N416q
    obtain ⟨Lo416, X416o, N416o⟩ := own_hl X416 N416
    have V416' : Arv Z T416.heap t2 kb416 .byte (1 : Int32) (own_vs ([c1_0] : List Int32)) (.int (0 : Int32)) := by have q := V416; rw [List.map_map] at q; exact q
    have S417 : Go p e below s₁ (eF_law m a b d f g md) T416 (mkF m 225 #[vI a, vI b, vI d, vI f, vI g, vI md, vR ar1, vR ar2, vR ar3, vR ar4, vR ar5, vI (0 : Int32), vR ar1, vR x1, vU, vU, vU] [(.ref x2)]) := fun t kt => S412 t (st416 t kt)
    clear S412 st416 X393 e393 X416 N416
    have S418 : Go p e below s₁ (eF_law m a b d f g md) T416 (mkF m 229 #[vI a, vI b, vI d, vI f, vI g, vI md, vR ar1, vR ar2, vR ar3, vR ar4, vR ar5, vI (0 : Int32), vR ar1, vR x1, vR x2, vU, vU] [(.ref x1)]) := fun t kt => S417 t (by
      refine XS.astore X416o.here hx rfl (hb hby at_225) rfl rfl (l' := #[vI a, vI b, vI d, vI f, vI g, vI md, vR ar1, vR ar2, vR ar3, vR ar4, vR ar5, vI (0 : Int32), vR ar1, vR x1, vR x2, vU, vU]) rfl ?_
      show Sp p e below T416 (mkF m 227 #[vI a, vI b, vI d, vI f, vI g, vI md, vR ar1, vR ar2, vR ar3, vR ar4, vR ar5, vI (0 : Int32), vR ar1, vR x1, vR x2, vU, vU] []) _
      refine XS.aload X416o.here hx rfl (hb hby at_227) rfl rfl ?_
      show Sp p e below T416 (mkF m 229 #[vI a, vI b, vI d, vI f, vI g, vI md, vR ar1, vR ar2, vR ar3, vR ar4, vR ar5, vI (0 : Int32), vR ar1, vR x1, vR x2, vU, vU] [(.ref x1)]) _
      exact kt)
    clear S417
    have z419 := (Nat.le_trans z413 K416.1)
    have f420 := (f415.keep K416 (allS g_x2 all0))
    have f421 := ((E390.ext E393).keep K416)
    have f422 := ((F390.ext E393).keep K416 (ninS ne396 nin0))
    have f423 := ((G390.ext E393).keep K416 (ninS ne396 nin0))
    have f424 := ((V390'.ext E393).keep K416 (ninS ne409 nin0))
    obtain ⟨v425, T425, L425, X425, hQ425, hS, hgr425, hZ, hown, st425⟩ := own_outSS hS (Nat.le_trans (Nat.le_trans (Nat.le_trans (Nat.le_trans (Nat.le_trans (Nat.le_trans (Nat.le_trans (Nat.le_trans (Nat.le_trans (Nat.le_trans (Nat.le_trans (Nat.le_trans (Nat.le_trans (Nat.le_trans (Nat.le_trans (Nat.le_trans (Nat.le_trans (Nat.le_trans (Nat.le_trans (Nat.le_trans (Nat.le_trans (Nat.le_trans (Nat.le_trans hki126 (Keep.of_wr W130).1) E133.1) (Keep.of_wr W153).1) (Keep.of_wr W165).1) E168.1) (Keep.of_wr W188).1) (Keep.of_wr W200).1) (Keep.of_wr W212).1) E215.1) (Keep.of_wr W237).1) (Keep.of_wr W249).1) (Keep.of_wr W261).1) (Keep.of_wr W273).1) E276.1) (Keep.of_wr W300).1) (Keep.of_wr W312).1) (Keep.of_wr W324).1) (Keep.of_wr W336).1) (Keep.of_wr W348).1) E370.1) K390.1) E393.1) K416.1) hZ hown (Jvm.RoadKit.callSS X416o hx (y := (⟨"com/example/requeue/requeue/QueueName", "of", "(Ljava/lang/String;)Lcom/example/requeue/requeue/QueueName;"⟩ : MethodName)) hown (mvT hZ (own_h hw 60 rfl)) (mvT hZ (own_h hw 61 rfl)) (mvT hZ (own_h hw 62 rfl)) (mvT hZ (own_h hw 63 rfl)) (by decide) (own_backS (W := 0) (Pv := fun _ => True) (rm_of l Z a0 hw [] x1 t1 kb390 (1 : Int32) (own_vs ([c1_0] : List Int32)) ([c1_0] : List Int32) T416.heap n0 z419 SS f420 f421 f422 f423 f424 hcx hokx (Nat.le_of_ble_eq_true rfl) (by simp)) hZ (own_h hw 63 rfl) (own_h hw 62 rfl) (by decide) (by decide) (fun _ _ => trivial)) (g := (mkF m 229 #[vI a, vI b, vI d, vI f, vI g, vI md, vR ar1, vR ar2, vR ar3, vR ar4, vR ar5, vI (0 : Int32), vR ar1, vR x1, vR x2, vU, vU] [(.ref x1)])) rfl (by rw [hml]; rfl) (argsL := [(.ref x1)]) (rest := []) (lenOf pd__Ljava_lang_String__Lcom_example_requeue_requeue_QueueName_ rfl) rfl (by show 2 * 0 + _ ≤ _; exact Nat.le_of_eq rfl) (hb hby at_229) (fun _ _ => ⟨rfl, rfl, (by decide : 11 + 3 ≤ _), (by decide : 289 + 21 ≤ _)⟩))
    obtain ⟨q0, rfl, N425q, K425, sz425, E425, F425⟩ := hQ425
    have N425 := Fr.app N416o N425q
    obtain ⟨Lo425, X425o, N425o⟩ := own_hl X425 N425
    have g_q0 : n0 ≤ q0 := Nat.le_trans z419 sz425
    have hki425 := Nat.le_refl T425.heap.size
    have S426 : Go p e below s₁ (eF_law m a b d f g md) T425 (mkF m 232 #[vI a, vI b, vI d, vI f, vI g, vI md, vR ar1, vR ar2, vR ar3, vR ar4, vR ar5, vI (0 : Int32), vR ar1, vR x1, vR x2, vU, vU] [(.ref q0)]) := fun t kt => S418 t (st425 t kt)
    clear S418 st425 X416o X425 N425
    have S427 : Go p e below s₁ (eF_law m a b d f g md) T425 (mkF m 236 #[vI a, vI b, vI d, vI f, vI g, vI md, vR ar1, vR ar2, vR ar3, vR ar4, vR ar5, vI (0 : Int32), vR ar1, vR x1, vR x2, vR q0, vU] [(.ref x2)]) := fun t kt => S426 t (by
      refine XS.astore X425o.here hx rfl (hb hby at_232) rfl rfl (l' := #[vI a, vI b, vI d, vI f, vI g, vI md, vR ar1, vR ar2, vR ar3, vR ar4, vR ar5, vI (0 : Int32), vR ar1, vR x1, vR x2, vR q0, vU]) rfl ?_
      show Sp p e below T425 (mkF m 234 #[vI a, vI b, vI d, vI f, vI g, vI md, vR ar1, vR ar2, vR ar3, vR ar4, vR ar5, vI (0 : Int32), vR ar1, vR x1, vR x2, vR q0, vU] []) _
      refine XS.aload X425o.here hx rfl (hb hby at_234) rfl rfl ?_
      show Sp p e below T425 (mkF m 236 #[vI a, vI b, vI d, vI f, vI g, vI md, vR ar1, vR ar2, vR ar3, vR ar4, vR ar5, vI (0 : Int32), vR ar1, vR x1, vR x2, vR q0, vU] [(.ref x2)]) _
      exact kt)
    clear S426
    have z428 := (Nat.le_trans z419 K425.1)
    have f429 := (f420.keep K425 all0)
    have f430 := (E416.keep K425)
    have f431 := (F416.keep K425 nin0)
    have f432 := (G416.keep K425 nin0)
    have f433 := (V416'.keep K425 nin0)
    obtain ⟨v434, T434, L434, X434, hQ434, hS, hgr434, hZ, hown, st434⟩ := own_outSS hS hki425 hZ hown (Jvm.RoadKit.callSS X425o hx (y := (⟨"com/example/requeue/requeue/QueueName", "of", "(Ljava/lang/String;)Lcom/example/requeue/requeue/QueueName;"⟩ : MethodName)) hown (mvT hZ (own_h hw 60 rfl)) (mvT hZ (own_h hw 61 rfl)) (mvT hZ (own_h hw 62 rfl)) (mvT hZ (own_h hw 63 rfl)) (by decide) (own_backS (W := 0) (Pv := fun _ => True) (rm_of l Z a0 hw [] x2 t2 kb416 (1 : Int32) (own_vs ([c1_0] : List Int32)) ([c1_0] : List Int32) T425.heap n0 z428 SS f429 f430 f431 f432 f433 hcx hokx (Nat.le_of_ble_eq_true rfl) (by simp)) hZ (own_h hw 63 rfl) (own_h hw 62 rfl) (by decide) (by decide) (fun _ _ => trivial)) (g := (mkF m 236 #[vI a, vI b, vI d, vI f, vI g, vI md, vR ar1, vR ar2, vR ar3, vR ar4, vR ar5, vI (0 : Int32), vR ar1, vR x1, vR x2, vR q0, vU] [(.ref x2)])) rfl (by rw [hml]; rfl) (argsL := [(.ref x2)]) (rest := []) (lenOf pd__Ljava_lang_String__Lcom_example_requeue_requeue_QueueName_ rfl) rfl (by show 2 * 0 + _ ≤ _; exact Nat.le_of_eq rfl) (hb hby at_236) (fun _ _ => ⟨rfl, rfl, (by decide : 14 + 3 ≤ _), (by decide : 310 + 21 ≤ _)⟩))
    obtain ⟨q1, rfl, N434q, K434, sz434, E434, F434⟩ := hQ434
    have N434 := Fr.app N425o N434q
    obtain ⟨Lo434, X434o, N434o⟩ := own_hl X434 N434
    have g_q1 : n0 ≤ q1 := Nat.le_trans z428 sz434
    have hki434 := Nat.le_refl T434.heap.size
    have S435 : Go p e below s₁ (eF_law m a b d f g md) T434 (mkF m 239 #[vI a, vI b, vI d, vI f, vI g, vI md, vR ar1, vR ar2, vR ar3, vR ar4, vR ar5, vI (0 : Int32), vR ar1, vR x1, vR x2, vR q0, vU] [(.ref q1)]) := fun t kt => S427 t (st434 t kt)
    clear S427 st434 X425o X434 N434
    have S436 : Go p e below s₁ (eF_law m a b d f g md) T434 (mkF m 245 #[vI a, vI b, vI d, vI f, vI g, vI md, vR ar1, vR ar2, vR ar3, vR ar4, vR ar5, vI (0 : Int32), vR ar1, vR x1, vR x2, vR q0, vR q1] [(.ref q0), (.ref x1)]) := fun t kt => S435 t (by
      refine XS.astore X434o.here hx rfl (hb hby at_239) rfl rfl (l' := #[vI a, vI b, vI d, vI f, vI g, vI md, vR ar1, vR ar2, vR ar3, vR ar4, vR ar5, vI (0 : Int32), vR ar1, vR x1, vR x2, vR q0, vR q1]) rfl ?_
      show Sp p e below T434 (mkF m 241 #[vI a, vI b, vI d, vI f, vI g, vI md, vR ar1, vR ar2, vR ar3, vR ar4, vR ar5, vI (0 : Int32), vR ar1, vR x1, vR x2, vR q0, vR q1] []) _
      refine XS.aload X434o.here hx rfl (hb hby at_241) rfl rfl ?_
      show Sp p e below T434 (mkF m 243 #[vI a, vI b, vI d, vI f, vI g, vI md, vR ar1, vR ar2, vR ar3, vR ar4, vR ar5, vI (0 : Int32), vR ar1, vR x1, vR x2, vR q0, vR q1] [(.ref x1)]) _
      refine XS.aload X434o.here hx rfl (hb hby at_243) rfl rfl ?_
      show Sp p e below T434 (mkF m 245 #[vI a, vI b, vI d, vI f, vI g, vI md, vR ar1, vR ar2, vR ar3, vR ar4, vR ar5, vI (0 : Int32), vR ar1, vR x1, vR x2, vR q0, vR q1] [(.ref q0), (.ref x1)]) _
      exact kt)
    clear S435
    have z437 := (Nat.le_trans z428 K434.1)
    have f438 := (F425.keep K434 nin0)
    have f440 := (E425.keep K434)
    obtain ⟨cq439, kq439, q439a, q439b, q439c⟩ := isOf hZ rfl f440
    obtain ⟨v439, T439, L439, X439, hQ439, st439⟩ := own_outV (X434o.virtualBack hx (y := (⟨"com/example/requeue/requeue/QueueName", "toString", "()Ljava/lang/String;"⟩ : MethodName)) (z := (⟨"com/example/requeue/requeue/QueueName", "toString", "()Ljava/lang/String;"⟩ : MethodName)) hown (mvT hZ (own_h hw 96 rfl)) (mvT hZ (own_h hw 97 rfl)) (notFace_of_selects (args := #[]) (mvT hZ (own_h hw 99 rfl))) (mvT hZ (own_h hw 99 rfl)) (mvT hZ (own_h hw 98 rfl)) (by decide) (backOf (W := 1) (rm_qts l Z a0 hw [] q0 x1 T434.heap n0 z437 f438) hZ (own_h hw 100 rfl) (own_h hw 62 rfl) (by decide) (by decide)) q439a q439c (g := (mkF m 245 #[vI a, vI b, vI d, vI f, vI g, vI md, vR ar1, vR ar2, vR ar3, vR ar4, vR ar5, vI (0 : Int32), vR ar1, vR x1, vR x2, vR q0, vR q1] [(.ref q0), (.ref x1)])) rfl (by rw [hml]; rfl) (Steps.refl _) (argsL := []) (rest := [(.ref x1)]) (lenOf pd___Ljava_lang_String_ rfl) rfl (by show 2 * 0 + _ ≤ _; exact Nat.le_of_eq rfl) (hb hby at_245) (fun _ _ => ⟨rfl, rfl, (by decide : 17 + 0 ≤ _), (by decide : 331 + 0 ≤ _)⟩))
    obtain ⟨rfl, N439q, e439⟩ := hQ439
    have N439 := Fr.app N434o N439q
    obtain ⟨Lo439, X439o, N439o⟩ := own_hl X439 N439
    have S441 : Go p e below s₁ (eF_law m a b d f g md) T439 (mkF m 248 #[vI a, vI b, vI d, vI f, vI g, vI md, vR ar1, vR ar2, vR ar3, vR ar4, vR ar5, vI (0 : Int32), vR ar1, vR x1, vR x2, vR q0, vR q1] [(.ref x1), (.ref x1)]) := fun t kt => S436 t (st439 t kt)
    clear S436 st439 X434o X439 N439
    have hb0 := own_hb hokx
    have f442 := ((f421.keep K425).keep K434)
    have f443 := ((f423.keep K425 nin0).keep K434 nin0)
    have f444 := ((f422.keep K425 nin0).keep K434 nin0)
    have f445 := ((f424.keep K425 nin0).keep K434 nin0)
    have f446 := (f429.keep K434 all0)
    obtain ⟨cq447, kq447, q447a, q447b, q447c⟩ := isOf hZ e439 f442
    obtain ⟨v447, T447, L447, X447, hQ447, st447⟩ := own_outV (Q := (fun v h' L => ((v = some (.int 1) ∧ ([c1_0] : List Int32) = ([c1_0] : List Int32)) ∨ (v = some (.int 0) ∧ ¬ ([c1_0] : List Int32) = ([c1_0] : List Int32))) ∧ L = [] ∧ h' = T434.heap)) (X439o.virtualBack hx (y := (⟨"java/lang/String", "equals", "(Ljava/lang/Object;)Z"⟩ : MethodName)) (z := (⟨"java/lang/String", "equals", "(Ljava/lang/Object;)Z"⟩ : MethodName)) hown (mvT hZ (own_h hw 101 rfl)) (mvT hZ (own_h hw 102 rfl)) (notFace_of_selects (args := #[]) (mvT hZ (own_h hw 104 rfl))) (mvT hZ (own_h hw 104 rfl)) (mvT hZ (own_h hw 103 rfl)) (by decide) (StrChars.Road.eqW (W := 0) hZ heq (kI := 4) (own_h hw 7 rfl) f442 f443 f444 f445 hcx hb0 (Nat.le_of_ble_eq_true rfl) f442 f443 f444 f445 hcx hb0 (Nat.le_of_ble_eq_true rfl) (S_cs.ext f446.2) hcz (by decide) (by decide)) q447a q447c (g := (mkF m 248 #[vI a, vI b, vI d, vI f, vI g, vI md, vR ar1, vR ar2, vR ar3, vR ar4, vR ar5, vI (0 : Int32), vR ar1, vR x1, vR x2, vR q0, vR q1] [(.ref x1), (.ref x1)])) rfl (by rw [hml]; rfl) (Steps.refl _) (argsL := [(.ref x1)]) (rest := []) (lenOf pd__Ljava_lang_Object__Z rfl) rfl (by show 2 * 0 + _ ≤ _; exact Nat.le_of_eq rfl) (hb hby at_248) (fun _ _ => ⟨rfl, e439, (by decide : 17 + 0 ≤ _), (by decide : 331 + 0 ≤ _)⟩))
    obtain ⟨hor447, rfl, e447⟩ := hQ447
    obtain rfl : v447 = some (.int 1) := by rcases hor447 with ⟨q, -⟩ | ⟨-, q⟩ <;> first | exact q | exact absurd rfl q
    have N447 := Fr.app N439o (Fr.nil n0)
    have S448 : Go p e below s₁ (eF_law m a b d f g md) T447 (mkF m 251 #[vI a, vI b, vI d, vI f, vI g, vI md, vR ar1, vR ar2, vR ar3, vR ar4, vR ar5, vI (0 : Int32), vR ar1, vR x1, vR x2, vR q0, vR q1] [(.int (1 : Int32))]) := fun t kt => S441 t (st447 t kt)
    clear S441 st447 X439o e439
    have S449 : Go p e below s₁ (eF_law m a b d f g md) T447 (mkF m 258 #[vI a, vI b, vI d, vI f, vI g, vI md, vR ar1, vR ar2, vR ar3, vR ar4, vR ar5, vI (0 : Int32), vR ar1, vR x1, vR x2, vR q0, vR q1] [(.ref q1), (.ref q0)]) := fun t kt => S448 t (by
      refine XS.ifNo X447.here hx rfl (hb hby at_251) rfl ((if0 _ _).trans (feq (show ¬ ((1 : Int32) = (0 : Int32)) from (by decide))).1) ?_
      show Sp p e below T447 (mkF m 254 #[vI a, vI b, vI d, vI f, vI g, vI md, vR ar1, vR ar2, vR ar3, vR ar4, vR ar5, vI (0 : Int32), vR ar1, vR x1, vR x2, vR q0, vR q1] []) _
      refine XS.aload X447.here hx rfl (hb hby at_254) rfl rfl ?_
      show Sp p e below T447 (mkF m 256 #[vI a, vI b, vI d, vI f, vI g, vI md, vR ar1, vR ar2, vR ar3, vR ar4, vR ar5, vI (0 : Int32), vR ar1, vR x1, vR x2, vR q0, vR q1] [(.ref q0)]) _
      refine XS.aload X447.here hx rfl (hb hby at_256) rfl rfl ?_
      show Sp p e below T447 (mkF m 258 #[vI a, vI b, vI d, vI f, vI g, vI md, vR ar1, vR ar2, vR ar3, vR ar4, vR ar5, vI (0 : Int32), vR ar1, vR x1, vR x2, vR q0, vR q1] [(.ref q1), (.ref q0)]) _
      exact kt)
    clear S448
    have f450 := (f430.keep K434)
    have f451 := (f431.keep K434 nin0)
    have f452 := (f432.keep K434 nin0)
    have f453 := (f433.keep K434 nin0)
    obtain ⟨cq454, kq454, q454a, q454b, q454c⟩ := isOf hZ e447 f440
    obtain ⟨v454, T454, L454, X454, hQ454, st454⟩ := own_outV (X447.virtualBack hx (y := (⟨"com/example/requeue/requeue/QueueName", "equals", "(Ljava/lang/Object;)Z"⟩ : MethodName)) (z := (⟨"com/example/requeue/requeue/QueueName", "equals", "(Ljava/lang/Object;)Z"⟩ : MethodName)) hown (mvT hZ (own_h hw 106 rfl)) (mvT hZ (own_h hw 107 rfl)) (notFace_of_selects (args := #[]) (mvT hZ (own_h hw 109 rfl))) (mvT hZ (own_h hw 109 rfl)) (mvT hZ (own_h hw 108 rfl)) (by decide) (backOf (W := 0) (rm_qeq l Z a0 hw [] q0 q1 x1 t1 kb390 x2 t2 kb416 (1 : Int32) (own_vs ([c1_0] : List Int32)) ([c1_0] : List Int32) T434.heap n0 z437 SS f446 E434 f438 F434 f442 f444 f443 f445 hcx f450 f451 f452 f453 hcx hokx (Nat.le_of_ble_eq_true rfl)) hZ (own_h hw 110 rfl) (own_h hw 62 rfl) (by decide) (by decide)) q454a q454c (g := (mkF m 258 #[vI a, vI b, vI d, vI f, vI g, vI md, vR ar1, vR ar2, vR ar3, vR ar4, vR ar5, vI (0 : Int32), vR ar1, vR x1, vR x2, vR q0, vR q1] [(.ref q1), (.ref q0)])) rfl (by rw [hml]; rfl) (Steps.refl _) (argsL := [(.ref q1)]) (rest := []) (lenOf pd__Ljava_lang_Object__Z rfl) rfl (by show 2 * 0 + _ ≤ _; exact Nat.le_of_eq rfl) (hb hby at_258) (fun _ _ => ⟨rfl, e447, (by decide : 17 + 0 ≤ _), (by decide : 331 + 0 ≤ _)⟩))
    obtain ⟨rfl, N454q, e454⟩ := hQ454
    have N454 := Fr.app N447 N454q
    obtain ⟨Lo454, X454o, N454o⟩ := own_hl X454 N454
    have S455 : Go p e below s₁ (eF_law m a b d f g md) T454 (mkF m 261 #[vI a, vI b, vI d, vI f, vI g, vI md, vR ar1, vR ar2, vR ar3, vR ar4, vR ar5, vI (0 : Int32), vR ar1, vR x1, vR x2, vR q0, vR q1] [(.int (1 : Int32))]) := fun t kt => S449 t (st454 t kt)
    clear S449 st454 X447 e447 X454 N454
    have S456 : Go p e below s₁ (eF_law m a b d f g md) T454 (mkF m 269 #[vI a, vI b, vI d, vI f, vI g, vI md, vR ar1, vR ar2, vR ar3, vR ar4, vR ar5, vI (0 : Int32), vR ar1, vR x1, vR x2, vR q0, vR q1] [(.int (1 : Int32))]) := fun t kt => S455 t (by
      refine XS.ifNo X454o.here hx rfl (hb hby at_261) rfl ((if0 _ _).trans (feq (show ¬ ((1 : Int32) = (0 : Int32)) from (by decide))).1) ?_
      show Sp p e below T454 (mkF m 264 #[vI a, vI b, vI d, vI f, vI g, vI md, vR ar1, vR ar2, vR ar3, vR ar4, vR ar5, vI (0 : Int32), vR ar1, vR x1, vR x2, vR q0, vR q1] []) _
      refine XS.iconst X454o.here hx rfl (hb hby at_264) ?_
      show Sp p e below T454 (mkF m 265 #[vI a, vI b, vI d, vI f, vI g, vI md, vR ar1, vR ar2, vR ar3, vR ar4, vR ar5, vI (0 : Int32), vR ar1, vR x1, vR x2, vR q0, vR q1] [(.int (1 : Int32))]) _
      refine XS.goto X454o.here hx rfl (pc0 := 265) (pc' := 269) rfl (hb hby at_265) (by decide) (by decide) ?_
      show Sp p e below T454 (mkF m 269 #[vI a, vI b, vI d, vI f, vI g, vI md, vR ar1, vR ar2, vR ar3, vR ar4, vR ar5, vI (0 : Int32), vR ar1, vR x1, vR x2, vR q0, vR q1] [(.int (1 : Int32))]) _
      exact kt)
    clear S455
    obtain ⟨fs, hr, hrun, hended, hRE⟩ := X454o.leaveW hS (n := _) (by rw [e454]; exact hki434) (v := some (.int (1 : Int32))) (fun h => by first | rfl | (rw [Bd.returns] at h; cases h))
    refine ⟨_, _, S456 _ ?_, hrun, hended, _, _, rfl, ?_, hRE.1, hRE.2.1, hRE.2.2.1, hRE.2.2.2.mono (by decide) (by decide)⟩
    · exact retN X454o hx (t := .boolean) Bd.returns (by simp) (hb hby at_269) hr
    · show Q_law Z  h0 n0 _ T454.heap _
      rw [e454]
      exact ⟨rfl, N454o⟩
  · have S353 : Go p e below s₁ (eF_law m a b d f g md) T348 (mkF m 154 #[vI a, vI b, vI d, vI f, vI g, vI md, vR ar1, vR ar2, vR ar3, vR ar4, vR ar5, vI kk, vU, vU, vU, vU, vU] [(.int (1 : Int32)), (.int kk)]) := fun t kt => S352 t (by
      refine XS.ifYes X348o.here hx rfl (pc0 := 143) (pc' := 151) rfl (hb hby at_143) rfl ((if0 _ _).trans (feq (show ¬ (kk = (0 : Int32)) from hn1)).2) (by decide) (by decide) ?_
      show Sp p e below T348 (mkF m 151 #[vI a, vI b, vI d, vI f, vI g, vI md, vR ar1, vR ar2, vR ar3, vR ar4, vR ar5, vI kk, vU, vU, vU, vU, vU] []) _
      refine XS.iload X348o.here hx rfl (hb hby at_151) rfl ?_
      show Sp p e below T348 (mkF m 153 #[vI a, vI b, vI d, vI f, vI g, vI md, vR ar1, vR ar2, vR ar3, vR ar4, vR ar5, vI kk, vU, vU, vU, vU, vU] [(.int kk)]) _
      refine XS.iconst X348o.here hx rfl (hb hby at_153) ?_
      show Sp p e below T348 (mkF m 154 #[vI a, vI b, vI d, vI f, vI g, vI md, vR ar1, vR ar2, vR ar3, vR ar4, vR ar5, vI kk, vU, vU, vU, vU, vU] [(.int (1 : Int32)), (.int kk)]) _
      exact kt)
    clear S352
    by_cases hn2 : kk = (1 : Int32)
    · have S359 : Go p e below s₁ (eF_law m a b d f g md) T348 (mkF m 191 #[vI a, vI b, vI d, vI f, vI g, vI md, vR ar1, vR ar2, vR ar3, vR ar4, vR ar5, vI kk, vR ar2, vU, vU, vU, vU] [(.int (5 : Int32)), (.int kk)]) := fun t kt => S353 t (by
        refine XS.icmpNo X348o.here hx rfl (hb hby at_154) rfl (teq (show kk = (1 : Int32) from hn2)).2 ?_
        show Sp p e below T348 (mkF m 157 #[vI a, vI b, vI d, vI f, vI g, vI md, vR ar1, vR ar2, vR ar3, vR ar4, vR ar5, vI kk, vU, vU, vU, vU, vU] []) _
        refine XS.aload X348o.here hx rfl (hb hby at_157) rfl rfl ?_
        show Sp p e below T348 (mkF m 159 #[vI a, vI b, vI d, vI f, vI g, vI md, vR ar1, vR ar2, vR ar3, vR ar4, vR ar5, vI kk, vU, vU, vU, vU, vU] [(.ref ar2)]) _
        refine XS.goto X348o.here hx rfl (pc0 := 159) (pc' := 186) rfl (hb hby at_159) (by decide) (by decide) ?_
        show Sp p e below T348 (mkF m 186 #[vI a, vI b, vI d, vI f, vI g, vI md, vR ar1, vR ar2, vR ar3, vR ar4, vR ar5, vI kk, vU, vU, vU, vU, vU] [(.ref ar2)]) _
        refine XS.astore X348o.here hx rfl (hb hby at_186) rfl rfl (l' := #[vI a, vI b, vI d, vI f, vI g, vI md, vR ar1, vR ar2, vR ar3, vR ar4, vR ar5, vI kk, vR ar2, vU, vU, vU, vU]) rfl ?_
        show Sp p e below T348 (mkF m 188 #[vI a, vI b, vI d, vI f, vI g, vI md, vR ar1, vR ar2, vR ar3, vR ar4, vR ar5, vI kk, vR ar2, vU, vU, vU, vU] []) _
        refine XS.iload X348o.here hx rfl (hb hby at_188) rfl ?_
        show Sp p e below T348 (mkF m 190 #[vI a, vI b, vI d, vI f, vI g, vI md, vR ar1, vR ar2, vR ar3, vR ar4, vR ar5, vI kk, vR ar2, vU, vU, vU, vU] [(.int kk)]) _
        refine XS.iconst X348o.here hx rfl (hb hby at_190) ?_
        show Sp p e below T348 (mkF m 191 #[vI a, vI b, vI d, vI f, vI g, vI md, vR ar1, vR ar2, vR ar3, vR ar4, vR ar5, vI kk, vR ar2, vU, vU, vU, vU] [(.int (5 : Int32)), (.int kk)]) _
        exact kt)
      clear S353
      have q361 : kk = (1 : Int32) := hn2
      have S360 : Go p e below s₁ (eF_law m a b d f g md) T348 (mkF m 191 #[vI a, vI b, vI d, vI f, vI g, vI md, vR ar1, vR ar2, vR ar3, vR ar4, vR ar5, vI (1 : Int32), vR ar2, vU, vU, vU, vU] [(.int (5 : Int32)), (.int (1 : Int32))]) := by have h := S359; rw [q361] at h; exact h
      clear S359
      have hokx : ∀ z ∈ ([c2_0, c2_1] : List Int32), own_ok z := fun z hz => by simp only [List.mem_cons, List.not_mem_nil, or_false] at hz; rcases hz with rfl | rfl <;> assumption
      have hcx : StrChars.Road.CodA ([c2_0, c2_1] : List Int32) 0 (2 : Int32) (own_vs ([c2_0, c2_1] : List Int32)) := own_coda rfl hokx
      have S457 : Go p e below s₁ (eF_law m a b d f g md) T348 (mkF m 205 #[vI a, vI b, vI d, vI f, vI g, vI md, vR ar1, vR ar2, vR ar3, vR ar4, vR ar5, vI (1 : Int32), vR ar2, vU, vU, vU, vU] []) := fun t kt => S360 t (by
        refine XS.icmpYes X348o.here hx rfl (pc0 := 191) (pc' := 205) rfl (hb hby at_191) rfl (feq (show ¬ ((1 : Int32) = (5 : Int32)) from (by decide))).2 (by decide) (by decide) ?_
        show Sp p e below T348 (mkF m 205 #[vI a, vI b, vI d, vI f, vI g, vI md, vR ar1, vR ar2, vR ar3, vR ar4, vR ar5, vI (1 : Int32), vR ar2, vU, vU, vU, vU] []) _
        exact kt)
      clear S360
      obtain ⟨T458, h458, X458, e458, E458, A458, D458, -, st458⟩ := newO X348o hx hZ hown (own_h hw 39 rfl) (own_h hw 7 rfl) (own_h hw 6 rfl) e348 (g := (mkF m 205 #[vI a, vI b, vI d, vI f, vI g, vI md, vR ar1, vR ar2, vR ar3, vR ar4, vR ar5, vI (1 : Int32), vR ar2, vU, vU, vU, vU] [])) rfl (hb hby at_205) (by decide) (by decide)
      obtain ⟨x1, g458⟩ : ∃ z, z = h348.size := ⟨_, rfl⟩
      rw [← g458] at A458 D458 st458
      have f459 := (f341.wr W348)
      have ne460 : la ≠ x1 := by rw [g458]; exact Nat.ne_of_lt f459.lt
      have f461 := ((((((f279.ext E276).other W300 ne280).other W312 ne280).other W324 ne280).other W336 ne280).other W348 ne280)
      have ne462 : ar1 ≠ x1 := by rw [g458]; exact Nat.ne_of_lt f461.lt
      have f463 := (f344.other W348 ne282)
      have ne464 : lb ≠ x1 := by rw [g458]; exact Nat.ne_of_lt f463.lt
      have f465 := ((((((f283.ext E276).other W300 ne284).other W312 ne284).other W324 ne284).other W336 ne284).other W348 ne284)
      have ne466 : ar2 ≠ x1 := by rw [g458]; exact Nat.ne_of_lt f465.lt
      have f467 := ((((((f285.ext E276).other W300 ne286).other W312 ne286).other W324 ne286).other W336 ne286).other W348 ne286)
      have ne468 : ar3 ≠ x1 := by rw [g458]; exact Nat.ne_of_lt f467.lt
      have f469 := ((((((V273.ext E276).other W300 ne287).other W312 ne287).other W324 ne287).other W336 ne287).other W348 ne287)
      have ne470 : ar4 ≠ x1 := by rw [g458]; exact Nat.ne_of_lt f469.lt
      have ne471 : ar5 ≠ x1 := by rw [g458]; exact Nat.ne_of_lt V348.lt
      have z472 := (Nat.le_trans z339 (Keep.of_wr W348).1)
      have g_x1 : n0 ≤ x1 := Nat.le_trans z472 (Nat.le_of_eq g458.symm)
      have F_value_x1 : Fld Z h458 x1 "java/lang/String" "value" "[B" .null := D458 (Or.inr (own_h hw 9 rfl)) (ty := (.array .byte)) (by decide)
      have F_coder_x1 : Fld Z h458 x1 "java/lang/String" "coder" "B" (.int (0 : Int32)) := D458 (Or.inr (own_h hw 10 rfl)) (ty := .byte) (by decide)
      have S473 : Go p e below s₁ (eF_law m a b d f g md) T458 (mkF m 208 #[vI a, vI b, vI d, vI f, vI g, vI md, vR ar1, vR ar2, vR ar3, vR ar4, vR ar5, vI (1 : Int32), vR ar2, vU, vU, vU, vU] [(.ref x1)]) := fun t kt => S457 t (st458 t kt)
      clear S457 st458 X348o e348
      have S474 : Go p e below s₁ (eF_law m a b d f g md) T458 (mkF m 211 #[vI a, vI b, vI d, vI f, vI g, vI md, vR ar1, vR ar2, vR ar3, vR ar4, vR ar5, vI (1 : Int32), vR ar2, vU, vU, vU, vU] [(.ref ar2), (.ref x1), (.ref x1)]) := fun t kt => S473 t (by
        refine XS.dup X458.here hx rfl (hb hby at_208) rfl rfl ?_
        show Sp p e below T458 (mkF m 209 #[vI a, vI b, vI d, vI f, vI g, vI md, vR ar1, vR ar2, vR ar3, vR ar4, vR ar5, vI (1 : Int32), vR ar2, vU, vU, vU, vU] [(.ref x1), (.ref x1)]) _
        refine XS.aload X458.here hx rfl (hb hby at_209) rfl rfl ?_
        show Sp p e below T458 (mkF m 211 #[vI a, vI b, vI d, vI f, vI g, vI md, vR ar1, vR ar2, vR ar3, vR ar4, vR ar5, vI (1 : Int32), vR ar2, vU, vU, vU, vU] [(.ref ar2), (.ref x1), (.ref x1)]) _
        exact kt)
      clear S473
      have z475 := (Nat.le_trans z472 E458.1)
      have f476 := (f465.ext E458)
      have f477 := ((f340.wr W348 g_ar5).ext E458)
      obtain ⟨v478, T478, L478, X478, hQ478, st478⟩ := own_outV (X458.specialBack hx (y := (⟨"java/lang/String", "<init>", "([C)V"⟩ : MethodName)) rfl hown (mvT hZ (own_h hw 40 rfl)) (mvT hZ (own_h hw 41 rfl)) (mvT hZ (own_h hw 42 rfl)) (by decide) (StrChars.Road.backV (W := 1) hZ hws (kI := 4) (own_h hw 7 rfl) (cs := ([c2_0, c2_1] : List Int32)) (bs := ([c2_0, c2_1] : List Int32).map (fun c => c.toInt8.toInt32)) (n := 2) (n0 := n0) g_x1 z475 A458 F_value_x1 F_coder_x1 f476 (S_cs.ext f477.2) hcz rfl rfl (by decide) (by decide) (fun z hz => own_rng (hokx z hz)) rfl (by decide) (by decide)) (g := (mkF m 211 #[vI a, vI b, vI d, vI f, vI g, vI md, vR ar1, vR ar2, vR ar3, vR ar4, vR ar5, vI (1 : Int32), vR ar2, vU, vU, vU, vU] [(.ref ar2), (.ref x1), (.ref x1)])) rfl (by rw [hml]; rfl) (Steps.refl _) (a := x1) (argsL := [(.ref ar2)]) (rest := [(.ref x1)]) (lenOf pd___C_V rfl) rfl (by show 2 * 0 + _ ≤ _; exact Nat.le_of_eq rfl) (hb hby at_211) (fun _ _ => ⟨rfl, e458, (by decide : 8 + 1 ≤ _), (by decide : 283 + 2 ≤ _)⟩))
      obtain ⟨rfl, N478q, K478, E478, F478, t1, kb478, g_t1, sz478, ntx478, G478, V478⟩ := hQ478
      have N478 := Fr.app N348o N478q
      obtain ⟨Lo478, X478o, N478o⟩ := own_hl X478 N478
      have V478' : Arv Z T478.heap t1 kb478 .byte (2 : Int32) (own_vs ([c2_0, c2_1] : List Int32)) (.int (0 : Int32)) := by have q := V478; rw [List.map_map] at q; exact q
      have S479 : Go p e below s₁ (eF_law m a b d f g md) T478 (mkF m 214 #[vI a, vI b, vI d, vI f, vI g, vI md, vR ar1, vR ar2, vR ar3, vR ar4, vR ar5, vI (1 : Int32), vR ar2, vU, vU, vU, vU] [(.ref x1)]) := fun t kt => S474 t (st478 t kt)
      clear S474 st478 X458 e458 X478 N478
      have S480 : Go p e below s₁ (eF_law m a b d f g md) T478 (mkF m 216 #[vI a, vI b, vI d, vI f, vI g, vI md, vR ar1, vR ar2, vR ar3, vR ar4, vR ar5, vI (1 : Int32), vR ar2, vR x1, vU, vU, vU] []) := fun t kt => S479 t (by
        refine XS.astore X478o.here hx rfl (hb hby at_214) rfl rfl (l' := #[vI a, vI b, vI d, vI f, vI g, vI md, vR ar1, vR ar2, vR ar3, vR ar4, vR ar5, vI (1 : Int32), vR ar2, vR x1, vU, vU, vU]) rfl ?_
        show Sp p e below T478 (mkF m 216 #[vI a, vI b, vI d, vI f, vI g, vI md, vR ar1, vR ar2, vR ar3, vR ar4, vR ar5, vI (1 : Int32), vR ar2, vR x1, vU, vU, vU] []) _
        exact kt)
      clear S479
      obtain ⟨T481, h481, X481, e481, E481, A481, D481, -, st481⟩ := newO X478o hx hZ hown (own_h hw 39 rfl) (own_h hw 7 rfl) (own_h hw 6 rfl) rfl (g := (mkF m 216 #[vI a, vI b, vI d, vI f, vI g, vI md, vR ar1, vR ar2, vR ar3, vR ar4, vR ar5, vI (1 : Int32), vR ar2, vR x1, vU, vU, vU] [])) rfl (hb hby at_216) (by decide) (by decide)
      obtain ⟨x2, g481⟩ : ∃ z, z = T478.heap.size := ⟨_, rfl⟩
      rw [← g481] at A481 D481 st481
      have f482 := ((f459.ext E458).keep K478)
      have ne483 : la ≠ x2 := by rw [g481]; exact Nat.ne_of_lt f482.lt
      have ne484 : x1 ≠ x2 := by rw [g481]; exact Nat.ne_of_lt E478.lt
      have f485 := ((f461.ext E458).keep K478 (ninS ne462 nin0))
      have ne486 : ar1 ≠ x2 := by rw [g481]; exact Nat.ne_of_lt f485.lt
      have f487 := ((f463.ext E458).keep K478 (ninS ne464 nin0))
      have ne488 : lb ≠ x2 := by rw [g481]; exact Nat.ne_of_lt f487.lt
      have f489 := (f476.keep K478 (ninS ne466 nin0))
      have ne490 : ar2 ≠ x2 := by rw [g481]; exact Nat.ne_of_lt f489.lt
      have f491 := ((f467.ext E458).keep K478 (ninS ne468 nin0))
      have ne492 : ar3 ≠ x2 := by rw [g481]; exact Nat.ne_of_lt f491.lt
      have f493 := ((f469.ext E458).keep K478 (ninS ne470 nin0))
      have ne494 : ar4 ≠ x2 := by rw [g481]; exact Nat.ne_of_lt f493.lt
      have f495 := ((V348.ext E458).keep K478 (ninS ne471 nin0))
      have ne496 : ar5 ≠ x2 := by rw [g481]; exact Nat.ne_of_lt f495.lt
      have ne497 : t1 ≠ x2 := by rw [g481]; exact Nat.ne_of_lt V478'.lt
      have z498 := (Nat.le_trans z475 K478.1)
      have g_x2 : n0 ≤ x2 := Nat.le_trans z498 (Nat.le_of_eq g481.symm)
      have F_value_x2 : Fld Z h481 x2 "java/lang/String" "value" "[B" .null := D481 (Or.inr (own_h hw 9 rfl)) (ty := (.array .byte)) (by decide)
      have F_coder_x2 : Fld Z h481 x2 "java/lang/String" "coder" "B" (.int (0 : Int32)) := D481 (Or.inr (own_h hw 10 rfl)) (ty := .byte) (by decide)
      have S499 : Go p e below s₁ (eF_law m a b d f g md) T481 (mkF m 219 #[vI a, vI b, vI d, vI f, vI g, vI md, vR ar1, vR ar2, vR ar3, vR ar4, vR ar5, vI (1 : Int32), vR ar2, vR x1, vU, vU, vU] [(.ref x2)]) := fun t kt => S480 t (st481 t kt)
      clear S480 st481 X478o
      have S500 : Go p e below s₁ (eF_law m a b d f g md) T481 (mkF m 222 #[vI a, vI b, vI d, vI f, vI g, vI md, vR ar1, vR ar2, vR ar3, vR ar4, vR ar5, vI (1 : Int32), vR ar2, vR x1, vU, vU, vU] [(.ref ar2), (.ref x2), (.ref x2)]) := fun t kt => S499 t (by
        refine XS.dup X481.here hx rfl (hb hby at_219) rfl rfl ?_
        show Sp p e below T481 (mkF m 220 #[vI a, vI b, vI d, vI f, vI g, vI md, vR ar1, vR ar2, vR ar3, vR ar4, vR ar5, vI (1 : Int32), vR ar2, vR x1, vU, vU, vU] [(.ref x2), (.ref x2)]) _
        refine XS.aload X481.here hx rfl (hb hby at_220) rfl rfl ?_
        show Sp p e below T481 (mkF m 222 #[vI a, vI b, vI d, vI f, vI g, vI md, vR ar1, vR ar2, vR ar3, vR ar4, vR ar5, vI (1 : Int32), vR ar2, vR x1, vU, vU, vU] [(.ref ar2), (.ref x2), (.ref x2)]) _
        exact kt)
      clear S499
      have z501 := (Nat.le_trans z498 E481.1)
      have f502 := (f489.ext E481)
      have f503 := ((f477.keep K478 (allS g_x1 all0)).ext E481)
      obtain ⟨v504, T504, L504, X504, hQ504, st504⟩ := own_outV (X481.specialBack hx (y := (⟨"java/lang/String", "<init>", "([C)V"⟩ : MethodName)) rfl hown (mvT hZ (own_h hw 40 rfl)) (mvT hZ (own_h hw 41 rfl)) (mvT hZ (own_h hw 42 rfl)) (by decide) (StrChars.Road.backV (W := 1) hZ hws (kI := 4) (own_h hw 7 rfl) (cs := ([c2_0, c2_1] : List Int32)) (bs := ([c2_0, c2_1] : List Int32).map (fun c => c.toInt8.toInt32)) (n := 2) (n0 := n0) g_x2 z501 A481 F_value_x2 F_coder_x2 f502 (S_cs.ext f503.2) hcz rfl rfl (by decide) (by decide) (fun z hz => own_rng (hokx z hz)) rfl (by decide) (by decide)) (g := (mkF m 222 #[vI a, vI b, vI d, vI f, vI g, vI md, vR ar1, vR ar2, vR ar3, vR ar4, vR ar5, vI (1 : Int32), vR ar2, vR x1, vU, vU, vU] [(.ref ar2), (.ref x2), (.ref x2)])) rfl (by rw [hml]; rfl) (Steps.refl _) (a := x2) (argsL := [(.ref ar2)]) (rest := [(.ref x2)]) (lenOf pd___C_V rfl) rfl (by show 2 * 0 + _ ≤ _; exact Nat.le_of_eq rfl) (hb hby at_222) (fun _ _ => ⟨rfl, e481, (by decide : 10 + 1 ≤ _), (by decide : 289 + 2 ≤ _)⟩))
      obtain ⟨rfl, N504q, K504, E504, F504, t2, kb504, g_t2, sz504, ntx504, G504, V504⟩ := hQ504
      have N504 := Fr.app N478o N504q
      obtain ⟨Lo504, X504o, N504o⟩ := own_hl X504 N504
      have V504' : Arv Z T504.heap t2 kb504 .byte (2 : Int32) (own_vs ([c2_0, c2_1] : List Int32)) (.int (0 : Int32)) := by have q := V504; rw [List.map_map] at q; exact q
      have S505 : Go p e below s₁ (eF_law m a b d f g md) T504 (mkF m 225 #[vI a, vI b, vI d, vI f, vI g, vI md, vR ar1, vR ar2, vR ar3, vR ar4, vR ar5, vI (1 : Int32), vR ar2, vR x1, vU, vU, vU] [(.ref x2)]) := fun t kt => S500 t (st504 t kt)
      clear S500 st504 X481 e481 X504 N504
      have S506 : Go p e below s₁ (eF_law m a b d f g md) T504 (mkF m 229 #[vI a, vI b, vI d, vI f, vI g, vI md, vR ar1, vR ar2, vR ar3, vR ar4, vR ar5, vI (1 : Int32), vR ar2, vR x1, vR x2, vU, vU] [(.ref x1)]) := fun t kt => S505 t (by
        refine XS.astore X504o.here hx rfl (hb hby at_225) rfl rfl (l' := #[vI a, vI b, vI d, vI f, vI g, vI md, vR ar1, vR ar2, vR ar3, vR ar4, vR ar5, vI (1 : Int32), vR ar2, vR x1, vR x2, vU, vU]) rfl ?_
        show Sp p e below T504 (mkF m 227 #[vI a, vI b, vI d, vI f, vI g, vI md, vR ar1, vR ar2, vR ar3, vR ar4, vR ar5, vI (1 : Int32), vR ar2, vR x1, vR x2, vU, vU] []) _
        refine XS.aload X504o.here hx rfl (hb hby at_227) rfl rfl ?_
        show Sp p e below T504 (mkF m 229 #[vI a, vI b, vI d, vI f, vI g, vI md, vR ar1, vR ar2, vR ar3, vR ar4, vR ar5, vI (1 : Int32), vR ar2, vR x1, vR x2, vU, vU] [(.ref x1)]) _
        exact kt)
      clear S505
      have z507 := (Nat.le_trans z501 K504.1)
      have f508 := (f503.keep K504 (allS g_x2 all0))
      have f509 := ((E478.ext E481).keep K504)
      have f510 := ((F478.ext E481).keep K504 (ninS ne484 nin0))
      have f511 := ((G478.ext E481).keep K504 (ninS ne484 nin0))
      have f512 := ((V478'.ext E481).keep K504 (ninS ne497 nin0))
      obtain ⟨v513, T513, L513, X513, hQ513, hS, hgr513, hZ, hown, st513⟩ := own_outSS hS (Nat.le_trans (Nat.le_trans (Nat.le_trans (Nat.le_trans (Nat.le_trans (Nat.le_trans (Nat.le_trans (Nat.le_trans (Nat.le_trans (Nat.le_trans (Nat.le_trans (Nat.le_trans (Nat.le_trans (Nat.le_trans (Nat.le_trans (Nat.le_trans (Nat.le_trans (Nat.le_trans (Nat.le_trans (Nat.le_trans (Nat.le_trans (Nat.le_trans (Nat.le_trans hki126 (Keep.of_wr W130).1) E133.1) (Keep.of_wr W153).1) (Keep.of_wr W165).1) E168.1) (Keep.of_wr W188).1) (Keep.of_wr W200).1) (Keep.of_wr W212).1) E215.1) (Keep.of_wr W237).1) (Keep.of_wr W249).1) (Keep.of_wr W261).1) (Keep.of_wr W273).1) E276.1) (Keep.of_wr W300).1) (Keep.of_wr W312).1) (Keep.of_wr W324).1) (Keep.of_wr W336).1) (Keep.of_wr W348).1) E458.1) K478.1) E481.1) K504.1) hZ hown (Jvm.RoadKit.callSS X504o hx (y := (⟨"com/example/requeue/requeue/QueueName", "of", "(Ljava/lang/String;)Lcom/example/requeue/requeue/QueueName;"⟩ : MethodName)) hown (mvT hZ (own_h hw 60 rfl)) (mvT hZ (own_h hw 61 rfl)) (mvT hZ (own_h hw 62 rfl)) (mvT hZ (own_h hw 63 rfl)) (by decide) (own_backS (W := 0) (Pv := fun _ => True) (rm_of l Z a0 hw [] x1 t1 kb478 (2 : Int32) (own_vs ([c2_0, c2_1] : List Int32)) ([c2_0, c2_1] : List Int32) T504.heap n0 z507 SS f508 f509 f510 f511 f512 hcx hokx (Nat.le_of_ble_eq_true rfl) (by simp)) hZ (own_h hw 63 rfl) (own_h hw 62 rfl) (by decide) (by decide) (fun _ _ => trivial)) (g := (mkF m 229 #[vI a, vI b, vI d, vI f, vI g, vI md, vR ar1, vR ar2, vR ar3, vR ar4, vR ar5, vI (1 : Int32), vR ar2, vR x1, vR x2, vU, vU] [(.ref x1)])) rfl (by rw [hml]; rfl) (argsL := [(.ref x1)]) (rest := []) (lenOf pd__Ljava_lang_String__Lcom_example_requeue_requeue_QueueName_ rfl) rfl (by show 2 * 0 + _ ≤ _; exact Nat.le_of_eq rfl) (hb hby at_229) (fun _ _ => ⟨rfl, rfl, (by decide : 11 + 3 ≤ _), (by decide : 291 + 21 ≤ _)⟩))
      obtain ⟨q0, rfl, N513q, K513, sz513, E513, F513⟩ := hQ513
      have N513 := Fr.app N504o N513q
      obtain ⟨Lo513, X513o, N513o⟩ := own_hl X513 N513
      have g_q0 : n0 ≤ q0 := Nat.le_trans z507 sz513
      have hki513 := Nat.le_refl T513.heap.size
      have S514 : Go p e below s₁ (eF_law m a b d f g md) T513 (mkF m 232 #[vI a, vI b, vI d, vI f, vI g, vI md, vR ar1, vR ar2, vR ar3, vR ar4, vR ar5, vI (1 : Int32), vR ar2, vR x1, vR x2, vU, vU] [(.ref q0)]) := fun t kt => S506 t (st513 t kt)
      clear S506 st513 X504o X513 N513
      have S515 : Go p e below s₁ (eF_law m a b d f g md) T513 (mkF m 236 #[vI a, vI b, vI d, vI f, vI g, vI md, vR ar1, vR ar2, vR ar3, vR ar4, vR ar5, vI (1 : Int32), vR ar2, vR x1, vR x2, vR q0, vU] [(.ref x2)]) := fun t kt => S514 t (by
        refine XS.astore X513o.here hx rfl (hb hby at_232) rfl rfl (l' := #[vI a, vI b, vI d, vI f, vI g, vI md, vR ar1, vR ar2, vR ar3, vR ar4, vR ar5, vI (1 : Int32), vR ar2, vR x1, vR x2, vR q0, vU]) rfl ?_
        show Sp p e below T513 (mkF m 234 #[vI a, vI b, vI d, vI f, vI g, vI md, vR ar1, vR ar2, vR ar3, vR ar4, vR ar5, vI (1 : Int32), vR ar2, vR x1, vR x2, vR q0, vU] []) _
        refine XS.aload X513o.here hx rfl (hb hby at_234) rfl rfl ?_
        show Sp p e below T513 (mkF m 236 #[vI a, vI b, vI d, vI f, vI g, vI md, vR ar1, vR ar2, vR ar3, vR ar4, vR ar5, vI (1 : Int32), vR ar2, vR x1, vR x2, vR q0, vU] [(.ref x2)]) _
        exact kt)
      clear S514
      have z516 := (Nat.le_trans z507 K513.1)
      have f517 := (f508.keep K513 all0)
      have f518 := (E504.keep K513)
      have f519 := (F504.keep K513 nin0)
      have f520 := (G504.keep K513 nin0)
      have f521 := (V504'.keep K513 nin0)
      obtain ⟨v522, T522, L522, X522, hQ522, hS, hgr522, hZ, hown, st522⟩ := own_outSS hS hki513 hZ hown (Jvm.RoadKit.callSS X513o hx (y := (⟨"com/example/requeue/requeue/QueueName", "of", "(Ljava/lang/String;)Lcom/example/requeue/requeue/QueueName;"⟩ : MethodName)) hown (mvT hZ (own_h hw 60 rfl)) (mvT hZ (own_h hw 61 rfl)) (mvT hZ (own_h hw 62 rfl)) (mvT hZ (own_h hw 63 rfl)) (by decide) (own_backS (W := 0) (Pv := fun _ => True) (rm_of l Z a0 hw [] x2 t2 kb504 (2 : Int32) (own_vs ([c2_0, c2_1] : List Int32)) ([c2_0, c2_1] : List Int32) T513.heap n0 z516 SS f517 f518 f519 f520 f521 hcx hokx (Nat.le_of_ble_eq_true rfl) (by simp)) hZ (own_h hw 63 rfl) (own_h hw 62 rfl) (by decide) (by decide) (fun _ _ => trivial)) (g := (mkF m 236 #[vI a, vI b, vI d, vI f, vI g, vI md, vR ar1, vR ar2, vR ar3, vR ar4, vR ar5, vI (1 : Int32), vR ar2, vR x1, vR x2, vR q0, vU] [(.ref x2)])) rfl (by rw [hml]; rfl) (argsL := [(.ref x2)]) (rest := []) (lenOf pd__Ljava_lang_String__Lcom_example_requeue_requeue_QueueName_ rfl) rfl (by show 2 * 0 + _ ≤ _; exact Nat.le_of_eq rfl) (hb hby at_236) (fun _ _ => ⟨rfl, rfl, (by decide : 14 + 3 ≤ _), (by decide : 312 + 21 ≤ _)⟩))
      obtain ⟨q1, rfl, N522q, K522, sz522, E522, F522⟩ := hQ522
      have N522 := Fr.app N513o N522q
      obtain ⟨Lo522, X522o, N522o⟩ := own_hl X522 N522
      have g_q1 : n0 ≤ q1 := Nat.le_trans z516 sz522
      have hki522 := Nat.le_refl T522.heap.size
      have S523 : Go p e below s₁ (eF_law m a b d f g md) T522 (mkF m 239 #[vI a, vI b, vI d, vI f, vI g, vI md, vR ar1, vR ar2, vR ar3, vR ar4, vR ar5, vI (1 : Int32), vR ar2, vR x1, vR x2, vR q0, vU] [(.ref q1)]) := fun t kt => S515 t (st522 t kt)
      clear S515 st522 X513o X522 N522
      have S524 : Go p e below s₁ (eF_law m a b d f g md) T522 (mkF m 245 #[vI a, vI b, vI d, vI f, vI g, vI md, vR ar1, vR ar2, vR ar3, vR ar4, vR ar5, vI (1 : Int32), vR ar2, vR x1, vR x2, vR q0, vR q1] [(.ref q0), (.ref x1)]) := fun t kt => S523 t (by
        refine XS.astore X522o.here hx rfl (hb hby at_239) rfl rfl (l' := #[vI a, vI b, vI d, vI f, vI g, vI md, vR ar1, vR ar2, vR ar3, vR ar4, vR ar5, vI (1 : Int32), vR ar2, vR x1, vR x2, vR q0, vR q1]) rfl ?_
        show Sp p e below T522 (mkF m 241 #[vI a, vI b, vI d, vI f, vI g, vI md, vR ar1, vR ar2, vR ar3, vR ar4, vR ar5, vI (1 : Int32), vR ar2, vR x1, vR x2, vR q0, vR q1] []) _
        refine XS.aload X522o.here hx rfl (hb hby at_241) rfl rfl ?_
        show Sp p e below T522 (mkF m 243 #[vI a, vI b, vI d, vI f, vI g, vI md, vR ar1, vR ar2, vR ar3, vR ar4, vR ar5, vI (1 : Int32), vR ar2, vR x1, vR x2, vR q0, vR q1] [(.ref x1)]) _
        refine XS.aload X522o.here hx rfl (hb hby at_243) rfl rfl ?_
        show Sp p e below T522 (mkF m 245 #[vI a, vI b, vI d, vI f, vI g, vI md, vR ar1, vR ar2, vR ar3, vR ar4, vR ar5, vI (1 : Int32), vR ar2, vR x1, vR x2, vR q0, vR q1] [(.ref q0), (.ref x1)]) _
        exact kt)
      clear S523
      have z525 := (Nat.le_trans z516 K522.1)
      have f526 := (F513.keep K522 nin0)
      have f528 := (E513.keep K522)
      obtain ⟨cq527, kq527, q527a, q527b, q527c⟩ := isOf hZ rfl f528
      obtain ⟨v527, T527, L527, X527, hQ527, st527⟩ := own_outV (X522o.virtualBack hx (y := (⟨"com/example/requeue/requeue/QueueName", "toString", "()Ljava/lang/String;"⟩ : MethodName)) (z := (⟨"com/example/requeue/requeue/QueueName", "toString", "()Ljava/lang/String;"⟩ : MethodName)) hown (mvT hZ (own_h hw 96 rfl)) (mvT hZ (own_h hw 97 rfl)) (notFace_of_selects (args := #[]) (mvT hZ (own_h hw 99 rfl))) (mvT hZ (own_h hw 99 rfl)) (mvT hZ (own_h hw 98 rfl)) (by decide) (backOf (W := 1) (rm_qts l Z a0 hw [] q0 x1 T522.heap n0 z525 f526) hZ (own_h hw 100 rfl) (own_h hw 62 rfl) (by decide) (by decide)) q527a q527c (g := (mkF m 245 #[vI a, vI b, vI d, vI f, vI g, vI md, vR ar1, vR ar2, vR ar3, vR ar4, vR ar5, vI (1 : Int32), vR ar2, vR x1, vR x2, vR q0, vR q1] [(.ref q0), (.ref x1)])) rfl (by rw [hml]; rfl) (Steps.refl _) (argsL := []) (rest := [(.ref x1)]) (lenOf pd___Ljava_lang_String_ rfl) rfl (by show 2 * 0 + _ ≤ _; exact Nat.le_of_eq rfl) (hb hby at_245) (fun _ _ => ⟨rfl, rfl, (by decide : 17 + 0 ≤ _), (by decide : 333 + 0 ≤ _)⟩))
      obtain ⟨rfl, N527q, e527⟩ := hQ527
      have N527 := Fr.app N522o N527q
      obtain ⟨Lo527, X527o, N527o⟩ := own_hl X527 N527
      have S529 : Go p e below s₁ (eF_law m a b d f g md) T527 (mkF m 248 #[vI a, vI b, vI d, vI f, vI g, vI md, vR ar1, vR ar2, vR ar3, vR ar4, vR ar5, vI (1 : Int32), vR ar2, vR x1, vR x2, vR q0, vR q1] [(.ref x1), (.ref x1)]) := fun t kt => S524 t (st527 t kt)
      clear S524 st527 X522o X527 N527
      have hb0 := own_hb hokx
      have f530 := ((f509.keep K513).keep K522)
      have f531 := ((f511.keep K513 nin0).keep K522 nin0)
      have f532 := ((f510.keep K513 nin0).keep K522 nin0)
      have f533 := ((f512.keep K513 nin0).keep K522 nin0)
      have f534 := (f517.keep K522 all0)
      obtain ⟨cq535, kq535, q535a, q535b, q535c⟩ := isOf hZ e527 f530
      obtain ⟨v535, T535, L535, X535, hQ535, st535⟩ := own_outV (Q := (fun v h' L => ((v = some (.int 1) ∧ ([c2_0, c2_1] : List Int32) = ([c2_0, c2_1] : List Int32)) ∨ (v = some (.int 0) ∧ ¬ ([c2_0, c2_1] : List Int32) = ([c2_0, c2_1] : List Int32))) ∧ L = [] ∧ h' = T522.heap)) (X527o.virtualBack hx (y := (⟨"java/lang/String", "equals", "(Ljava/lang/Object;)Z"⟩ : MethodName)) (z := (⟨"java/lang/String", "equals", "(Ljava/lang/Object;)Z"⟩ : MethodName)) hown (mvT hZ (own_h hw 101 rfl)) (mvT hZ (own_h hw 102 rfl)) (notFace_of_selects (args := #[]) (mvT hZ (own_h hw 104 rfl))) (mvT hZ (own_h hw 104 rfl)) (mvT hZ (own_h hw 103 rfl)) (by decide) (StrChars.Road.eqW (W := 0) hZ heq (kI := 4) (own_h hw 7 rfl) f530 f531 f532 f533 hcx hb0 (Nat.le_of_ble_eq_true rfl) f530 f531 f532 f533 hcx hb0 (Nat.le_of_ble_eq_true rfl) (S_cs.ext f534.2) hcz (by decide) (by decide)) q535a q535c (g := (mkF m 248 #[vI a, vI b, vI d, vI f, vI g, vI md, vR ar1, vR ar2, vR ar3, vR ar4, vR ar5, vI (1 : Int32), vR ar2, vR x1, vR x2, vR q0, vR q1] [(.ref x1), (.ref x1)])) rfl (by rw [hml]; rfl) (Steps.refl _) (argsL := [(.ref x1)]) (rest := []) (lenOf pd__Ljava_lang_Object__Z rfl) rfl (by show 2 * 0 + _ ≤ _; exact Nat.le_of_eq rfl) (hb hby at_248) (fun _ _ => ⟨rfl, e527, (by decide : 17 + 0 ≤ _), (by decide : 333 + 0 ≤ _)⟩))
      obtain ⟨hor535, rfl, e535⟩ := hQ535
      obtain rfl : v535 = some (.int 1) := by rcases hor535 with ⟨q, -⟩ | ⟨-, q⟩ <;> first | exact q | exact absurd rfl q
      have N535 := Fr.app N527o (Fr.nil n0)
      have S536 : Go p e below s₁ (eF_law m a b d f g md) T535 (mkF m 251 #[vI a, vI b, vI d, vI f, vI g, vI md, vR ar1, vR ar2, vR ar3, vR ar4, vR ar5, vI (1 : Int32), vR ar2, vR x1, vR x2, vR q0, vR q1] [(.int (1 : Int32))]) := fun t kt => S529 t (st535 t kt)
      clear S529 st535 X527o e527
      have S537 : Go p e below s₁ (eF_law m a b d f g md) T535 (mkF m 258 #[vI a, vI b, vI d, vI f, vI g, vI md, vR ar1, vR ar2, vR ar3, vR ar4, vR ar5, vI (1 : Int32), vR ar2, vR x1, vR x2, vR q0, vR q1] [(.ref q1), (.ref q0)]) := fun t kt => S536 t (by
        refine XS.ifNo X535.here hx rfl (hb hby at_251) rfl ((if0 _ _).trans (feq (show ¬ ((1 : Int32) = (0 : Int32)) from (by decide))).1) ?_
        show Sp p e below T535 (mkF m 254 #[vI a, vI b, vI d, vI f, vI g, vI md, vR ar1, vR ar2, vR ar3, vR ar4, vR ar5, vI (1 : Int32), vR ar2, vR x1, vR x2, vR q0, vR q1] []) _
        refine XS.aload X535.here hx rfl (hb hby at_254) rfl rfl ?_
        show Sp p e below T535 (mkF m 256 #[vI a, vI b, vI d, vI f, vI g, vI md, vR ar1, vR ar2, vR ar3, vR ar4, vR ar5, vI (1 : Int32), vR ar2, vR x1, vR x2, vR q0, vR q1] [(.ref q0)]) _
        refine XS.aload X535.here hx rfl (hb hby at_256) rfl rfl ?_
        show Sp p e below T535 (mkF m 258 #[vI a, vI b, vI d, vI f, vI g, vI md, vR ar1, vR ar2, vR ar3, vR ar4, vR ar5, vI (1 : Int32), vR ar2, vR x1, vR x2, vR q0, vR q1] [(.ref q1), (.ref q0)]) _
        exact kt)
      clear S536
      have f538 := (f518.keep K522)
      have f539 := (f519.keep K522 nin0)
      have f540 := (f520.keep K522 nin0)
      have f541 := (f521.keep K522 nin0)
      obtain ⟨cq542, kq542, q542a, q542b, q542c⟩ := isOf hZ e535 f528
      obtain ⟨v542, T542, L542, X542, hQ542, st542⟩ := own_outV (X535.virtualBack hx (y := (⟨"com/example/requeue/requeue/QueueName", "equals", "(Ljava/lang/Object;)Z"⟩ : MethodName)) (z := (⟨"com/example/requeue/requeue/QueueName", "equals", "(Ljava/lang/Object;)Z"⟩ : MethodName)) hown (mvT hZ (own_h hw 106 rfl)) (mvT hZ (own_h hw 107 rfl)) (notFace_of_selects (args := #[]) (mvT hZ (own_h hw 109 rfl))) (mvT hZ (own_h hw 109 rfl)) (mvT hZ (own_h hw 108 rfl)) (by decide) (backOf (W := 0) (rm_qeq l Z a0 hw [] q0 q1 x1 t1 kb478 x2 t2 kb504 (2 : Int32) (own_vs ([c2_0, c2_1] : List Int32)) ([c2_0, c2_1] : List Int32) T522.heap n0 z525 SS f534 E522 f526 F522 f530 f532 f531 f533 hcx f538 f539 f540 f541 hcx hokx (Nat.le_of_ble_eq_true rfl)) hZ (own_h hw 110 rfl) (own_h hw 62 rfl) (by decide) (by decide)) q542a q542c (g := (mkF m 258 #[vI a, vI b, vI d, vI f, vI g, vI md, vR ar1, vR ar2, vR ar3, vR ar4, vR ar5, vI (1 : Int32), vR ar2, vR x1, vR x2, vR q0, vR q1] [(.ref q1), (.ref q0)])) rfl (by rw [hml]; rfl) (Steps.refl _) (argsL := [(.ref q1)]) (rest := []) (lenOf pd__Ljava_lang_Object__Z rfl) rfl (by show 2 * 0 + _ ≤ _; exact Nat.le_of_eq rfl) (hb hby at_258) (fun _ _ => ⟨rfl, e535, (by decide : 17 + 0 ≤ _), (by decide : 333 + 0 ≤ _)⟩))
      obtain ⟨rfl, N542q, e542⟩ := hQ542
      have N542 := Fr.app N535 N542q
      obtain ⟨Lo542, X542o, N542o⟩ := own_hl X542 N542
      have S543 : Go p e below s₁ (eF_law m a b d f g md) T542 (mkF m 261 #[vI a, vI b, vI d, vI f, vI g, vI md, vR ar1, vR ar2, vR ar3, vR ar4, vR ar5, vI (1 : Int32), vR ar2, vR x1, vR x2, vR q0, vR q1] [(.int (1 : Int32))]) := fun t kt => S537 t (st542 t kt)
      clear S537 st542 X535 e535 X542 N542
      have S544 : Go p e below s₁ (eF_law m a b d f g md) T542 (mkF m 269 #[vI a, vI b, vI d, vI f, vI g, vI md, vR ar1, vR ar2, vR ar3, vR ar4, vR ar5, vI (1 : Int32), vR ar2, vR x1, vR x2, vR q0, vR q1] [(.int (1 : Int32))]) := fun t kt => S543 t (by
        refine XS.ifNo X542o.here hx rfl (hb hby at_261) rfl ((if0 _ _).trans (feq (show ¬ ((1 : Int32) = (0 : Int32)) from (by decide))).1) ?_
        show Sp p e below T542 (mkF m 264 #[vI a, vI b, vI d, vI f, vI g, vI md, vR ar1, vR ar2, vR ar3, vR ar4, vR ar5, vI (1 : Int32), vR ar2, vR x1, vR x2, vR q0, vR q1] []) _
        refine XS.iconst X542o.here hx rfl (hb hby at_264) ?_
        show Sp p e below T542 (mkF m 265 #[vI a, vI b, vI d, vI f, vI g, vI md, vR ar1, vR ar2, vR ar3, vR ar4, vR ar5, vI (1 : Int32), vR ar2, vR x1, vR x2, vR q0, vR q1] [(.int (1 : Int32))]) _
        refine XS.goto X542o.here hx rfl (pc0 := 265) (pc' := 269) rfl (hb hby at_265) (by decide) (by decide) ?_
        show Sp p e below T542 (mkF m 269 #[vI a, vI b, vI d, vI f, vI g, vI md, vR ar1, vR ar2, vR ar3, vR ar4, vR ar5, vI (1 : Int32), vR ar2, vR x1, vR x2, vR q0, vR q1] [(.int (1 : Int32))]) _
        exact kt)
      clear S543
      obtain ⟨fs, hr, hrun, hended, hRE⟩ := X542o.leaveW hS (n := _) (by rw [e542]; exact hki522) (v := some (.int (1 : Int32))) (fun h => by first | rfl | (rw [Bd.returns] at h; cases h))
      refine ⟨_, _, S544 _ ?_, hrun, hended, _, _, rfl, ?_, hRE.1, hRE.2.1, hRE.2.2.1, hRE.2.2.2.mono (by decide) (by decide)⟩
      · exact retN X542o hx (t := .boolean) Bd.returns (by simp) (hb hby at_269) hr
      · show Q_law Z  h0 n0 _ T542.heap _
        rw [e542]
        exact ⟨rfl, N542o⟩
    · have S354 : Go p e below s₁ (eF_law m a b d f g md) T348 (mkF m 165 #[vI a, vI b, vI d, vI f, vI g, vI md, vR ar1, vR ar2, vR ar3, vR ar4, vR ar5, vI kk, vU, vU, vU, vU, vU] [(.int (2 : Int32)), (.int kk)]) := fun t kt => S353 t (by
        refine XS.icmpYes X348o.here hx rfl (pc0 := 154) (pc' := 162) rfl (hb hby at_154) rfl (feq (show ¬ (kk = (1 : Int32)) from hn2)).2 (by decide) (by decide) ?_
        show Sp p e below T348 (mkF m 162 #[vI a, vI b, vI d, vI f, vI g, vI md, vR ar1, vR ar2, vR ar3, vR ar4, vR ar5, vI kk, vU, vU, vU, vU, vU] []) _
        refine XS.iload X348o.here hx rfl (hb hby at_162) rfl ?_
        show Sp p e below T348 (mkF m 164 #[vI a, vI b, vI d, vI f, vI g, vI md, vR ar1, vR ar2, vR ar3, vR ar4, vR ar5, vI kk, vU, vU, vU, vU, vU] [(.int kk)]) _
        refine XS.iconst X348o.here hx rfl (hb hby at_164) ?_
        show Sp p e below T348 (mkF m 165 #[vI a, vI b, vI d, vI f, vI g, vI md, vR ar1, vR ar2, vR ar3, vR ar4, vR ar5, vI kk, vU, vU, vU, vU, vU] [(.int (2 : Int32)), (.int kk)]) _
        exact kt)
      clear S353
      by_cases hn3 : kk = (2 : Int32)
      · have S362 : Go p e below s₁ (eF_law m a b d f g md) T348 (mkF m 191 #[vI a, vI b, vI d, vI f, vI g, vI md, vR ar1, vR ar2, vR ar3, vR ar4, vR ar5, vI kk, vR ar3, vU, vU, vU, vU] [(.int (5 : Int32)), (.int kk)]) := fun t kt => S354 t (by
          refine XS.icmpNo X348o.here hx rfl (hb hby at_165) rfl (teq (show kk = (2 : Int32) from hn3)).2 ?_
          show Sp p e below T348 (mkF m 168 #[vI a, vI b, vI d, vI f, vI g, vI md, vR ar1, vR ar2, vR ar3, vR ar4, vR ar5, vI kk, vU, vU, vU, vU, vU] []) _
          refine XS.aload X348o.here hx rfl (hb hby at_168) rfl rfl ?_
          show Sp p e below T348 (mkF m 170 #[vI a, vI b, vI d, vI f, vI g, vI md, vR ar1, vR ar2, vR ar3, vR ar4, vR ar5, vI kk, vU, vU, vU, vU, vU] [(.ref ar3)]) _
          refine XS.goto X348o.here hx rfl (pc0 := 170) (pc' := 186) rfl (hb hby at_170) (by decide) (by decide) ?_
          show Sp p e below T348 (mkF m 186 #[vI a, vI b, vI d, vI f, vI g, vI md, vR ar1, vR ar2, vR ar3, vR ar4, vR ar5, vI kk, vU, vU, vU, vU, vU] [(.ref ar3)]) _
          refine XS.astore X348o.here hx rfl (hb hby at_186) rfl rfl (l' := #[vI a, vI b, vI d, vI f, vI g, vI md, vR ar1, vR ar2, vR ar3, vR ar4, vR ar5, vI kk, vR ar3, vU, vU, vU, vU]) rfl ?_
          show Sp p e below T348 (mkF m 188 #[vI a, vI b, vI d, vI f, vI g, vI md, vR ar1, vR ar2, vR ar3, vR ar4, vR ar5, vI kk, vR ar3, vU, vU, vU, vU] []) _
          refine XS.iload X348o.here hx rfl (hb hby at_188) rfl ?_
          show Sp p e below T348 (mkF m 190 #[vI a, vI b, vI d, vI f, vI g, vI md, vR ar1, vR ar2, vR ar3, vR ar4, vR ar5, vI kk, vR ar3, vU, vU, vU, vU] [(.int kk)]) _
          refine XS.iconst X348o.here hx rfl (hb hby at_190) ?_
          show Sp p e below T348 (mkF m 191 #[vI a, vI b, vI d, vI f, vI g, vI md, vR ar1, vR ar2, vR ar3, vR ar4, vR ar5, vI kk, vR ar3, vU, vU, vU, vU] [(.int (5 : Int32)), (.int kk)]) _
          exact kt)
        clear S354
        have q364 : kk = (2 : Int32) := hn3
        have S363 : Go p e below s₁ (eF_law m a b d f g md) T348 (mkF m 191 #[vI a, vI b, vI d, vI f, vI g, vI md, vR ar1, vR ar2, vR ar3, vR ar4, vR ar5, vI (2 : Int32), vR ar3, vU, vU, vU, vU] [(.int (5 : Int32)), (.int (2 : Int32))]) := by have h := S362; rw [q364] at h; exact h
        clear S362
        have hokx : ∀ z ∈ ([c3_0, c3_1, c3_2] : List Int32), own_ok z := fun z hz => by simp only [List.mem_cons, List.not_mem_nil, or_false] at hz; rcases hz with rfl | rfl | rfl <;> assumption
        have hcx : StrChars.Road.CodA ([c3_0, c3_1, c3_2] : List Int32) 0 (3 : Int32) (own_vs ([c3_0, c3_1, c3_2] : List Int32)) := own_coda rfl hokx
        have S545 : Go p e below s₁ (eF_law m a b d f g md) T348 (mkF m 205 #[vI a, vI b, vI d, vI f, vI g, vI md, vR ar1, vR ar2, vR ar3, vR ar4, vR ar5, vI (2 : Int32), vR ar3, vU, vU, vU, vU] []) := fun t kt => S363 t (by
          refine XS.icmpYes X348o.here hx rfl (pc0 := 191) (pc' := 205) rfl (hb hby at_191) rfl (feq (show ¬ ((2 : Int32) = (5 : Int32)) from (by decide))).2 (by decide) (by decide) ?_
          show Sp p e below T348 (mkF m 205 #[vI a, vI b, vI d, vI f, vI g, vI md, vR ar1, vR ar2, vR ar3, vR ar4, vR ar5, vI (2 : Int32), vR ar3, vU, vU, vU, vU] []) _
          exact kt)
        clear S363
        obtain ⟨T546, h546, X546, e546, E546, A546, D546, -, st546⟩ := newO X348o hx hZ hown (own_h hw 39 rfl) (own_h hw 7 rfl) (own_h hw 6 rfl) e348 (g := (mkF m 205 #[vI a, vI b, vI d, vI f, vI g, vI md, vR ar1, vR ar2, vR ar3, vR ar4, vR ar5, vI (2 : Int32), vR ar3, vU, vU, vU, vU] [])) rfl (hb hby at_205) (by decide) (by decide)
        obtain ⟨x1, g546⟩ : ∃ z, z = h348.size := ⟨_, rfl⟩
        rw [← g546] at A546 D546 st546
        have f547 := (f341.wr W348)
        have ne548 : la ≠ x1 := by rw [g546]; exact Nat.ne_of_lt f547.lt
        have f549 := ((((((f279.ext E276).other W300 ne280).other W312 ne280).other W324 ne280).other W336 ne280).other W348 ne280)
        have ne550 : ar1 ≠ x1 := by rw [g546]; exact Nat.ne_of_lt f549.lt
        have f551 := (f344.other W348 ne282)
        have ne552 : lb ≠ x1 := by rw [g546]; exact Nat.ne_of_lt f551.lt
        have f553 := ((((((f283.ext E276).other W300 ne284).other W312 ne284).other W324 ne284).other W336 ne284).other W348 ne284)
        have ne554 : ar2 ≠ x1 := by rw [g546]; exact Nat.ne_of_lt f553.lt
        have f555 := ((((((f285.ext E276).other W300 ne286).other W312 ne286).other W324 ne286).other W336 ne286).other W348 ne286)
        have ne556 : ar3 ≠ x1 := by rw [g546]; exact Nat.ne_of_lt f555.lt
        have f557 := ((((((V273.ext E276).other W300 ne287).other W312 ne287).other W324 ne287).other W336 ne287).other W348 ne287)
        have ne558 : ar4 ≠ x1 := by rw [g546]; exact Nat.ne_of_lt f557.lt
        have ne559 : ar5 ≠ x1 := by rw [g546]; exact Nat.ne_of_lt V348.lt
        have z560 := (Nat.le_trans z339 (Keep.of_wr W348).1)
        have g_x1 : n0 ≤ x1 := Nat.le_trans z560 (Nat.le_of_eq g546.symm)
        have F_value_x1 : Fld Z h546 x1 "java/lang/String" "value" "[B" .null := D546 (Or.inr (own_h hw 9 rfl)) (ty := (.array .byte)) (by decide)
        have F_coder_x1 : Fld Z h546 x1 "java/lang/String" "coder" "B" (.int (0 : Int32)) := D546 (Or.inr (own_h hw 10 rfl)) (ty := .byte) (by decide)
        have S561 : Go p e below s₁ (eF_law m a b d f g md) T546 (mkF m 208 #[vI a, vI b, vI d, vI f, vI g, vI md, vR ar1, vR ar2, vR ar3, vR ar4, vR ar5, vI (2 : Int32), vR ar3, vU, vU, vU, vU] [(.ref x1)]) := fun t kt => S545 t (st546 t kt)
        clear S545 st546 X348o e348
        have S562 : Go p e below s₁ (eF_law m a b d f g md) T546 (mkF m 211 #[vI a, vI b, vI d, vI f, vI g, vI md, vR ar1, vR ar2, vR ar3, vR ar4, vR ar5, vI (2 : Int32), vR ar3, vU, vU, vU, vU] [(.ref ar3), (.ref x1), (.ref x1)]) := fun t kt => S561 t (by
          refine XS.dup X546.here hx rfl (hb hby at_208) rfl rfl ?_
          show Sp p e below T546 (mkF m 209 #[vI a, vI b, vI d, vI f, vI g, vI md, vR ar1, vR ar2, vR ar3, vR ar4, vR ar5, vI (2 : Int32), vR ar3, vU, vU, vU, vU] [(.ref x1), (.ref x1)]) _
          refine XS.aload X546.here hx rfl (hb hby at_209) rfl rfl ?_
          show Sp p e below T546 (mkF m 211 #[vI a, vI b, vI d, vI f, vI g, vI md, vR ar1, vR ar2, vR ar3, vR ar4, vR ar5, vI (2 : Int32), vR ar3, vU, vU, vU, vU] [(.ref ar3), (.ref x1), (.ref x1)]) _
          exact kt)
        clear S561
        have z563 := (Nat.le_trans z560 E546.1)
        have f564 := (f555.ext E546)
        have f565 := ((f340.wr W348 g_ar5).ext E546)
        obtain ⟨v566, T566, L566, X566, hQ566, st566⟩ := own_outV (X546.specialBack hx (y := (⟨"java/lang/String", "<init>", "([C)V"⟩ : MethodName)) rfl hown (mvT hZ (own_h hw 40 rfl)) (mvT hZ (own_h hw 41 rfl)) (mvT hZ (own_h hw 42 rfl)) (by decide) (StrChars.Road.backV (W := 1) hZ hws (kI := 4) (own_h hw 7 rfl) (cs := ([c3_0, c3_1, c3_2] : List Int32)) (bs := ([c3_0, c3_1, c3_2] : List Int32).map (fun c => c.toInt8.toInt32)) (n := 3) (n0 := n0) g_x1 z563 A546 F_value_x1 F_coder_x1 f564 (S_cs.ext f565.2) hcz rfl rfl (by decide) (by decide) (fun z hz => own_rng (hokx z hz)) rfl (by decide) (by decide)) (g := (mkF m 211 #[vI a, vI b, vI d, vI f, vI g, vI md, vR ar1, vR ar2, vR ar3, vR ar4, vR ar5, vI (2 : Int32), vR ar3, vU, vU, vU, vU] [(.ref ar3), (.ref x1), (.ref x1)])) rfl (by rw [hml]; rfl) (Steps.refl _) (a := x1) (argsL := [(.ref ar3)]) (rest := [(.ref x1)]) (lenOf pd___C_V rfl) rfl (by show 2 * 0 + _ ≤ _; exact Nat.le_of_eq rfl) (hb hby at_211) (fun _ _ => ⟨rfl, e546, (by decide : 8 + 1 ≤ _), (by decide : 283 + 3 ≤ _)⟩))
        obtain ⟨rfl, N566q, K566, E566, F566, t1, kb566, g_t1, sz566, ntx566, G566, V566⟩ := hQ566
        have N566 := Fr.app N348o N566q
        obtain ⟨Lo566, X566o, N566o⟩ := own_hl X566 N566
        have V566' : Arv Z T566.heap t1 kb566 .byte (3 : Int32) (own_vs ([c3_0, c3_1, c3_2] : List Int32)) (.int (0 : Int32)) := by have q := V566; rw [List.map_map] at q; exact q
        have S567 : Go p e below s₁ (eF_law m a b d f g md) T566 (mkF m 214 #[vI a, vI b, vI d, vI f, vI g, vI md, vR ar1, vR ar2, vR ar3, vR ar4, vR ar5, vI (2 : Int32), vR ar3, vU, vU, vU, vU] [(.ref x1)]) := fun t kt => S562 t (st566 t kt)
        clear S562 st566 X546 e546 X566 N566
        have S568 : Go p e below s₁ (eF_law m a b d f g md) T566 (mkF m 216 #[vI a, vI b, vI d, vI f, vI g, vI md, vR ar1, vR ar2, vR ar3, vR ar4, vR ar5, vI (2 : Int32), vR ar3, vR x1, vU, vU, vU] []) := fun t kt => S567 t (by
          refine XS.astore X566o.here hx rfl (hb hby at_214) rfl rfl (l' := #[vI a, vI b, vI d, vI f, vI g, vI md, vR ar1, vR ar2, vR ar3, vR ar4, vR ar5, vI (2 : Int32), vR ar3, vR x1, vU, vU, vU]) rfl ?_
          show Sp p e below T566 (mkF m 216 #[vI a, vI b, vI d, vI f, vI g, vI md, vR ar1, vR ar2, vR ar3, vR ar4, vR ar5, vI (2 : Int32), vR ar3, vR x1, vU, vU, vU] []) _
          exact kt)
        clear S567
        obtain ⟨T569, h569, X569, e569, E569, A569, D569, -, st569⟩ := newO X566o hx hZ hown (own_h hw 39 rfl) (own_h hw 7 rfl) (own_h hw 6 rfl) rfl (g := (mkF m 216 #[vI a, vI b, vI d, vI f, vI g, vI md, vR ar1, vR ar2, vR ar3, vR ar4, vR ar5, vI (2 : Int32), vR ar3, vR x1, vU, vU, vU] [])) rfl (hb hby at_216) (by decide) (by decide)
        obtain ⟨x2, g569⟩ : ∃ z, z = T566.heap.size := ⟨_, rfl⟩
        rw [← g569] at A569 D569 st569
        have f570 := ((f547.ext E546).keep K566)
        have ne571 : la ≠ x2 := by rw [g569]; exact Nat.ne_of_lt f570.lt
        have ne572 : x1 ≠ x2 := by rw [g569]; exact Nat.ne_of_lt E566.lt
        have f573 := ((f549.ext E546).keep K566 (ninS ne550 nin0))
        have ne574 : ar1 ≠ x2 := by rw [g569]; exact Nat.ne_of_lt f573.lt
        have f575 := ((f551.ext E546).keep K566 (ninS ne552 nin0))
        have ne576 : lb ≠ x2 := by rw [g569]; exact Nat.ne_of_lt f575.lt
        have f577 := ((f553.ext E546).keep K566 (ninS ne554 nin0))
        have ne578 : ar2 ≠ x2 := by rw [g569]; exact Nat.ne_of_lt f577.lt
        have f579 := (f564.keep K566 (ninS ne556 nin0))
        have ne580 : ar3 ≠ x2 := by rw [g569]; exact Nat.ne_of_lt f579.lt
        have f581 := ((f557.ext E546).keep K566 (ninS ne558 nin0))
        have ne582 : ar4 ≠ x2 := by rw [g569]; exact Nat.ne_of_lt f581.lt
        have f583 := ((V348.ext E546).keep K566 (ninS ne559 nin0))
        have ne584 : ar5 ≠ x2 := by rw [g569]; exact Nat.ne_of_lt f583.lt
        have ne585 : t1 ≠ x2 := by rw [g569]; exact Nat.ne_of_lt V566'.lt
        have z586 := (Nat.le_trans z563 K566.1)
        have g_x2 : n0 ≤ x2 := Nat.le_trans z586 (Nat.le_of_eq g569.symm)
        have F_value_x2 : Fld Z h569 x2 "java/lang/String" "value" "[B" .null := D569 (Or.inr (own_h hw 9 rfl)) (ty := (.array .byte)) (by decide)
        have F_coder_x2 : Fld Z h569 x2 "java/lang/String" "coder" "B" (.int (0 : Int32)) := D569 (Or.inr (own_h hw 10 rfl)) (ty := .byte) (by decide)
        have S587 : Go p e below s₁ (eF_law m a b d f g md) T569 (mkF m 219 #[vI a, vI b, vI d, vI f, vI g, vI md, vR ar1, vR ar2, vR ar3, vR ar4, vR ar5, vI (2 : Int32), vR ar3, vR x1, vU, vU, vU] [(.ref x2)]) := fun t kt => S568 t (st569 t kt)
        clear S568 st569 X566o
        have S588 : Go p e below s₁ (eF_law m a b d f g md) T569 (mkF m 222 #[vI a, vI b, vI d, vI f, vI g, vI md, vR ar1, vR ar2, vR ar3, vR ar4, vR ar5, vI (2 : Int32), vR ar3, vR x1, vU, vU, vU] [(.ref ar3), (.ref x2), (.ref x2)]) := fun t kt => S587 t (by
          refine XS.dup X569.here hx rfl (hb hby at_219) rfl rfl ?_
          show Sp p e below T569 (mkF m 220 #[vI a, vI b, vI d, vI f, vI g, vI md, vR ar1, vR ar2, vR ar3, vR ar4, vR ar5, vI (2 : Int32), vR ar3, vR x1, vU, vU, vU] [(.ref x2), (.ref x2)]) _
          refine XS.aload X569.here hx rfl (hb hby at_220) rfl rfl ?_
          show Sp p e below T569 (mkF m 222 #[vI a, vI b, vI d, vI f, vI g, vI md, vR ar1, vR ar2, vR ar3, vR ar4, vR ar5, vI (2 : Int32), vR ar3, vR x1, vU, vU, vU] [(.ref ar3), (.ref x2), (.ref x2)]) _
          exact kt)
        clear S587
        have z589 := (Nat.le_trans z586 E569.1)
        have f590 := (f579.ext E569)
        have f591 := ((f565.keep K566 (allS g_x1 all0)).ext E569)
        obtain ⟨v592, T592, L592, X592, hQ592, st592⟩ := own_outV (X569.specialBack hx (y := (⟨"java/lang/String", "<init>", "([C)V"⟩ : MethodName)) rfl hown (mvT hZ (own_h hw 40 rfl)) (mvT hZ (own_h hw 41 rfl)) (mvT hZ (own_h hw 42 rfl)) (by decide) (StrChars.Road.backV (W := 1) hZ hws (kI := 4) (own_h hw 7 rfl) (cs := ([c3_0, c3_1, c3_2] : List Int32)) (bs := ([c3_0, c3_1, c3_2] : List Int32).map (fun c => c.toInt8.toInt32)) (n := 3) (n0 := n0) g_x2 z589 A569 F_value_x2 F_coder_x2 f590 (S_cs.ext f591.2) hcz rfl rfl (by decide) (by decide) (fun z hz => own_rng (hokx z hz)) rfl (by decide) (by decide)) (g := (mkF m 222 #[vI a, vI b, vI d, vI f, vI g, vI md, vR ar1, vR ar2, vR ar3, vR ar4, vR ar5, vI (2 : Int32), vR ar3, vR x1, vU, vU, vU] [(.ref ar3), (.ref x2), (.ref x2)])) rfl (by rw [hml]; rfl) (Steps.refl _) (a := x2) (argsL := [(.ref ar3)]) (rest := [(.ref x2)]) (lenOf pd___C_V rfl) rfl (by show 2 * 0 + _ ≤ _; exact Nat.le_of_eq rfl) (hb hby at_222) (fun _ _ => ⟨rfl, e569, (by decide : 10 + 1 ≤ _), (by decide : 290 + 3 ≤ _)⟩))
        obtain ⟨rfl, N592q, K592, E592, F592, t2, kb592, g_t2, sz592, ntx592, G592, V592⟩ := hQ592
        have N592 := Fr.app N566o N592q
        obtain ⟨Lo592, X592o, N592o⟩ := own_hl X592 N592
        have V592' : Arv Z T592.heap t2 kb592 .byte (3 : Int32) (own_vs ([c3_0, c3_1, c3_2] : List Int32)) (.int (0 : Int32)) := by have q := V592; rw [List.map_map] at q; exact q
        have S593 : Go p e below s₁ (eF_law m a b d f g md) T592 (mkF m 225 #[vI a, vI b, vI d, vI f, vI g, vI md, vR ar1, vR ar2, vR ar3, vR ar4, vR ar5, vI (2 : Int32), vR ar3, vR x1, vU, vU, vU] [(.ref x2)]) := fun t kt => S588 t (st592 t kt)
        clear S588 st592 X569 e569 X592 N592
        have S594 : Go p e below s₁ (eF_law m a b d f g md) T592 (mkF m 229 #[vI a, vI b, vI d, vI f, vI g, vI md, vR ar1, vR ar2, vR ar3, vR ar4, vR ar5, vI (2 : Int32), vR ar3, vR x1, vR x2, vU, vU] [(.ref x1)]) := fun t kt => S593 t (by
          refine XS.astore X592o.here hx rfl (hb hby at_225) rfl rfl (l' := #[vI a, vI b, vI d, vI f, vI g, vI md, vR ar1, vR ar2, vR ar3, vR ar4, vR ar5, vI (2 : Int32), vR ar3, vR x1, vR x2, vU, vU]) rfl ?_
          show Sp p e below T592 (mkF m 227 #[vI a, vI b, vI d, vI f, vI g, vI md, vR ar1, vR ar2, vR ar3, vR ar4, vR ar5, vI (2 : Int32), vR ar3, vR x1, vR x2, vU, vU] []) _
          refine XS.aload X592o.here hx rfl (hb hby at_227) rfl rfl ?_
          show Sp p e below T592 (mkF m 229 #[vI a, vI b, vI d, vI f, vI g, vI md, vR ar1, vR ar2, vR ar3, vR ar4, vR ar5, vI (2 : Int32), vR ar3, vR x1, vR x2, vU, vU] [(.ref x1)]) _
          exact kt)
        clear S593
        have z595 := (Nat.le_trans z589 K592.1)
        have f596 := (f591.keep K592 (allS g_x2 all0))
        have f597 := ((E566.ext E569).keep K592)
        have f598 := ((F566.ext E569).keep K592 (ninS ne572 nin0))
        have f599 := ((G566.ext E569).keep K592 (ninS ne572 nin0))
        have f600 := ((V566'.ext E569).keep K592 (ninS ne585 nin0))
        obtain ⟨v601, T601, L601, X601, hQ601, hS, hgr601, hZ, hown, st601⟩ := own_outSS hS (Nat.le_trans (Nat.le_trans (Nat.le_trans (Nat.le_trans (Nat.le_trans (Nat.le_trans (Nat.le_trans (Nat.le_trans (Nat.le_trans (Nat.le_trans (Nat.le_trans (Nat.le_trans (Nat.le_trans (Nat.le_trans (Nat.le_trans (Nat.le_trans (Nat.le_trans (Nat.le_trans (Nat.le_trans (Nat.le_trans (Nat.le_trans (Nat.le_trans (Nat.le_trans hki126 (Keep.of_wr W130).1) E133.1) (Keep.of_wr W153).1) (Keep.of_wr W165).1) E168.1) (Keep.of_wr W188).1) (Keep.of_wr W200).1) (Keep.of_wr W212).1) E215.1) (Keep.of_wr W237).1) (Keep.of_wr W249).1) (Keep.of_wr W261).1) (Keep.of_wr W273).1) E276.1) (Keep.of_wr W300).1) (Keep.of_wr W312).1) (Keep.of_wr W324).1) (Keep.of_wr W336).1) (Keep.of_wr W348).1) E546.1) K566.1) E569.1) K592.1) hZ hown (Jvm.RoadKit.callSS X592o hx (y := (⟨"com/example/requeue/requeue/QueueName", "of", "(Ljava/lang/String;)Lcom/example/requeue/requeue/QueueName;"⟩ : MethodName)) hown (mvT hZ (own_h hw 60 rfl)) (mvT hZ (own_h hw 61 rfl)) (mvT hZ (own_h hw 62 rfl)) (mvT hZ (own_h hw 63 rfl)) (by decide) (own_backS (W := 0) (Pv := fun _ => True) (rm_of l Z a0 hw [] x1 t1 kb566 (3 : Int32) (own_vs ([c3_0, c3_1, c3_2] : List Int32)) ([c3_0, c3_1, c3_2] : List Int32) T592.heap n0 z595 SS f596 f597 f598 f599 f600 hcx hokx (Nat.le_of_ble_eq_true rfl) (by simp)) hZ (own_h hw 63 rfl) (own_h hw 62 rfl) (by decide) (by decide) (fun _ _ => trivial)) (g := (mkF m 229 #[vI a, vI b, vI d, vI f, vI g, vI md, vR ar1, vR ar2, vR ar3, vR ar4, vR ar5, vI (2 : Int32), vR ar3, vR x1, vR x2, vU, vU] [(.ref x1)])) rfl (by rw [hml]; rfl) (argsL := [(.ref x1)]) (rest := []) (lenOf pd__Ljava_lang_String__Lcom_example_requeue_requeue_QueueName_ rfl) rfl (by show 2 * 0 + _ ≤ _; exact Nat.le_of_eq rfl) (hb hby at_229) (fun _ _ => ⟨rfl, rfl, (by decide : 11 + 3 ≤ _), (by decide : 293 + 21 ≤ _)⟩))
        obtain ⟨q0, rfl, N601q, K601, sz601, E601, F601⟩ := hQ601
        have N601 := Fr.app N592o N601q
        obtain ⟨Lo601, X601o, N601o⟩ := own_hl X601 N601
        have g_q0 : n0 ≤ q0 := Nat.le_trans z595 sz601
        have hki601 := Nat.le_refl T601.heap.size
        have S602 : Go p e below s₁ (eF_law m a b d f g md) T601 (mkF m 232 #[vI a, vI b, vI d, vI f, vI g, vI md, vR ar1, vR ar2, vR ar3, vR ar4, vR ar5, vI (2 : Int32), vR ar3, vR x1, vR x2, vU, vU] [(.ref q0)]) := fun t kt => S594 t (st601 t kt)
        clear S594 st601 X592o X601 N601
        have S603 : Go p e below s₁ (eF_law m a b d f g md) T601 (mkF m 236 #[vI a, vI b, vI d, vI f, vI g, vI md, vR ar1, vR ar2, vR ar3, vR ar4, vR ar5, vI (2 : Int32), vR ar3, vR x1, vR x2, vR q0, vU] [(.ref x2)]) := fun t kt => S602 t (by
          refine XS.astore X601o.here hx rfl (hb hby at_232) rfl rfl (l' := #[vI a, vI b, vI d, vI f, vI g, vI md, vR ar1, vR ar2, vR ar3, vR ar4, vR ar5, vI (2 : Int32), vR ar3, vR x1, vR x2, vR q0, vU]) rfl ?_
          show Sp p e below T601 (mkF m 234 #[vI a, vI b, vI d, vI f, vI g, vI md, vR ar1, vR ar2, vR ar3, vR ar4, vR ar5, vI (2 : Int32), vR ar3, vR x1, vR x2, vR q0, vU] []) _
          refine XS.aload X601o.here hx rfl (hb hby at_234) rfl rfl ?_
          show Sp p e below T601 (mkF m 236 #[vI a, vI b, vI d, vI f, vI g, vI md, vR ar1, vR ar2, vR ar3, vR ar4, vR ar5, vI (2 : Int32), vR ar3, vR x1, vR x2, vR q0, vU] [(.ref x2)]) _
          exact kt)
        clear S602
        have z604 := (Nat.le_trans z595 K601.1)
        have f605 := (f596.keep K601 all0)
        have f606 := (E592.keep K601)
        have f607 := (F592.keep K601 nin0)
        have f608 := (G592.keep K601 nin0)
        have f609 := (V592'.keep K601 nin0)
        obtain ⟨v610, T610, L610, X610, hQ610, hS, hgr610, hZ, hown, st610⟩ := own_outSS hS hki601 hZ hown (Jvm.RoadKit.callSS X601o hx (y := (⟨"com/example/requeue/requeue/QueueName", "of", "(Ljava/lang/String;)Lcom/example/requeue/requeue/QueueName;"⟩ : MethodName)) hown (mvT hZ (own_h hw 60 rfl)) (mvT hZ (own_h hw 61 rfl)) (mvT hZ (own_h hw 62 rfl)) (mvT hZ (own_h hw 63 rfl)) (by decide) (own_backS (W := 0) (Pv := fun _ => True) (rm_of l Z a0 hw [] x2 t2 kb592 (3 : Int32) (own_vs ([c3_0, c3_1, c3_2] : List Int32)) ([c3_0, c3_1, c3_2] : List Int32) T601.heap n0 z604 SS f605 f606 f607 f608 f609 hcx hokx (Nat.le_of_ble_eq_true rfl) (by simp)) hZ (own_h hw 63 rfl) (own_h hw 62 rfl) (by decide) (by decide) (fun _ _ => trivial)) (g := (mkF m 236 #[vI a, vI b, vI d, vI f, vI g, vI md, vR ar1, vR ar2, vR ar3, vR ar4, vR ar5, vI (2 : Int32), vR ar3, vR x1, vR x2, vR q0, vU] [(.ref x2)])) rfl (by rw [hml]; rfl) (argsL := [(.ref x2)]) (rest := []) (lenOf pd__Ljava_lang_String__Lcom_example_requeue_requeue_QueueName_ rfl) rfl (by show 2 * 0 + _ ≤ _; exact Nat.le_of_eq rfl) (hb hby at_236) (fun _ _ => ⟨rfl, rfl, (by decide : 14 + 3 ≤ _), (by decide : 314 + 21 ≤ _)⟩))
        obtain ⟨q1, rfl, N610q, K610, sz610, E610, F610⟩ := hQ610
        have N610 := Fr.app N601o N610q
        obtain ⟨Lo610, X610o, N610o⟩ := own_hl X610 N610
        have g_q1 : n0 ≤ q1 := Nat.le_trans z604 sz610
        have hki610 := Nat.le_refl T610.heap.size
        have S611 : Go p e below s₁ (eF_law m a b d f g md) T610 (mkF m 239 #[vI a, vI b, vI d, vI f, vI g, vI md, vR ar1, vR ar2, vR ar3, vR ar4, vR ar5, vI (2 : Int32), vR ar3, vR x1, vR x2, vR q0, vU] [(.ref q1)]) := fun t kt => S603 t (st610 t kt)
        clear S603 st610 X601o X610 N610
        have S612 : Go p e below s₁ (eF_law m a b d f g md) T610 (mkF m 245 #[vI a, vI b, vI d, vI f, vI g, vI md, vR ar1, vR ar2, vR ar3, vR ar4, vR ar5, vI (2 : Int32), vR ar3, vR x1, vR x2, vR q0, vR q1] [(.ref q0), (.ref x1)]) := fun t kt => S611 t (by
          refine XS.astore X610o.here hx rfl (hb hby at_239) rfl rfl (l' := #[vI a, vI b, vI d, vI f, vI g, vI md, vR ar1, vR ar2, vR ar3, vR ar4, vR ar5, vI (2 : Int32), vR ar3, vR x1, vR x2, vR q0, vR q1]) rfl ?_
          show Sp p e below T610 (mkF m 241 #[vI a, vI b, vI d, vI f, vI g, vI md, vR ar1, vR ar2, vR ar3, vR ar4, vR ar5, vI (2 : Int32), vR ar3, vR x1, vR x2, vR q0, vR q1] []) _
          refine XS.aload X610o.here hx rfl (hb hby at_241) rfl rfl ?_
          show Sp p e below T610 (mkF m 243 #[vI a, vI b, vI d, vI f, vI g, vI md, vR ar1, vR ar2, vR ar3, vR ar4, vR ar5, vI (2 : Int32), vR ar3, vR x1, vR x2, vR q0, vR q1] [(.ref x1)]) _
          refine XS.aload X610o.here hx rfl (hb hby at_243) rfl rfl ?_
          show Sp p e below T610 (mkF m 245 #[vI a, vI b, vI d, vI f, vI g, vI md, vR ar1, vR ar2, vR ar3, vR ar4, vR ar5, vI (2 : Int32), vR ar3, vR x1, vR x2, vR q0, vR q1] [(.ref q0), (.ref x1)]) _
          exact kt)
        clear S611
        have z613 := (Nat.le_trans z604 K610.1)
        have f614 := (F601.keep K610 nin0)
        have f616 := (E601.keep K610)
        obtain ⟨cq615, kq615, q615a, q615b, q615c⟩ := isOf hZ rfl f616
        obtain ⟨v615, T615, L615, X615, hQ615, st615⟩ := own_outV (X610o.virtualBack hx (y := (⟨"com/example/requeue/requeue/QueueName", "toString", "()Ljava/lang/String;"⟩ : MethodName)) (z := (⟨"com/example/requeue/requeue/QueueName", "toString", "()Ljava/lang/String;"⟩ : MethodName)) hown (mvT hZ (own_h hw 96 rfl)) (mvT hZ (own_h hw 97 rfl)) (notFace_of_selects (args := #[]) (mvT hZ (own_h hw 99 rfl))) (mvT hZ (own_h hw 99 rfl)) (mvT hZ (own_h hw 98 rfl)) (by decide) (backOf (W := 1) (rm_qts l Z a0 hw [] q0 x1 T610.heap n0 z613 f614) hZ (own_h hw 100 rfl) (own_h hw 62 rfl) (by decide) (by decide)) q615a q615c (g := (mkF m 245 #[vI a, vI b, vI d, vI f, vI g, vI md, vR ar1, vR ar2, vR ar3, vR ar4, vR ar5, vI (2 : Int32), vR ar3, vR x1, vR x2, vR q0, vR q1] [(.ref q0), (.ref x1)])) rfl (by rw [hml]; rfl) (Steps.refl _) (argsL := []) (rest := [(.ref x1)]) (lenOf pd___Ljava_lang_String_ rfl) rfl (by show 2 * 0 + _ ≤ _; exact Nat.le_of_eq rfl) (hb hby at_245) (fun _ _ => ⟨rfl, rfl, (by decide : 17 + 0 ≤ _), (by decide : 335 + 0 ≤ _)⟩))
        obtain ⟨rfl, N615q, e615⟩ := hQ615
        have N615 := Fr.app N610o N615q
        obtain ⟨Lo615, X615o, N615o⟩ := own_hl X615 N615
        have S617 : Go p e below s₁ (eF_law m a b d f g md) T615 (mkF m 248 #[vI a, vI b, vI d, vI f, vI g, vI md, vR ar1, vR ar2, vR ar3, vR ar4, vR ar5, vI (2 : Int32), vR ar3, vR x1, vR x2, vR q0, vR q1] [(.ref x1), (.ref x1)]) := fun t kt => S612 t (st615 t kt)
        clear S612 st615 X610o X615 N615
        have hb0 := own_hb hokx
        have f618 := ((f597.keep K601).keep K610)
        have f619 := ((f599.keep K601 nin0).keep K610 nin0)
        have f620 := ((f598.keep K601 nin0).keep K610 nin0)
        have f621 := ((f600.keep K601 nin0).keep K610 nin0)
        have f622 := (f605.keep K610 all0)
        obtain ⟨cq623, kq623, q623a, q623b, q623c⟩ := isOf hZ e615 f618
        obtain ⟨v623, T623, L623, X623, hQ623, st623⟩ := own_outV (Q := (fun v h' L => ((v = some (.int 1) ∧ ([c3_0, c3_1, c3_2] : List Int32) = ([c3_0, c3_1, c3_2] : List Int32)) ∨ (v = some (.int 0) ∧ ¬ ([c3_0, c3_1, c3_2] : List Int32) = ([c3_0, c3_1, c3_2] : List Int32))) ∧ L = [] ∧ h' = T610.heap)) (X615o.virtualBack hx (y := (⟨"java/lang/String", "equals", "(Ljava/lang/Object;)Z"⟩ : MethodName)) (z := (⟨"java/lang/String", "equals", "(Ljava/lang/Object;)Z"⟩ : MethodName)) hown (mvT hZ (own_h hw 101 rfl)) (mvT hZ (own_h hw 102 rfl)) (notFace_of_selects (args := #[]) (mvT hZ (own_h hw 104 rfl))) (mvT hZ (own_h hw 104 rfl)) (mvT hZ (own_h hw 103 rfl)) (by decide) (StrChars.Road.eqW (W := 0) hZ heq (kI := 4) (own_h hw 7 rfl) f618 f619 f620 f621 hcx hb0 (Nat.le_of_ble_eq_true rfl) f618 f619 f620 f621 hcx hb0 (Nat.le_of_ble_eq_true rfl) (S_cs.ext f622.2) hcz (by decide) (by decide)) q623a q623c (g := (mkF m 248 #[vI a, vI b, vI d, vI f, vI g, vI md, vR ar1, vR ar2, vR ar3, vR ar4, vR ar5, vI (2 : Int32), vR ar3, vR x1, vR x2, vR q0, vR q1] [(.ref x1), (.ref x1)])) rfl (by rw [hml]; rfl) (Steps.refl _) (argsL := [(.ref x1)]) (rest := []) (lenOf pd__Ljava_lang_Object__Z rfl) rfl (by show 2 * 0 + _ ≤ _; exact Nat.le_of_eq rfl) (hb hby at_248) (fun _ _ => ⟨rfl, e615, (by decide : 17 + 0 ≤ _), (by decide : 335 + 0 ≤ _)⟩))
        obtain ⟨hor623, rfl, e623⟩ := hQ623
        obtain rfl : v623 = some (.int 1) := by rcases hor623 with ⟨q, -⟩ | ⟨-, q⟩ <;> first | exact q | exact absurd rfl q
        have N623 := Fr.app N615o (Fr.nil n0)
        have S624 : Go p e below s₁ (eF_law m a b d f g md) T623 (mkF m 251 #[vI a, vI b, vI d, vI f, vI g, vI md, vR ar1, vR ar2, vR ar3, vR ar4, vR ar5, vI (2 : Int32), vR ar3, vR x1, vR x2, vR q0, vR q1] [(.int (1 : Int32))]) := fun t kt => S617 t (st623 t kt)
        clear S617 st623 X615o e615
        have S625 : Go p e below s₁ (eF_law m a b d f g md) T623 (mkF m 258 #[vI a, vI b, vI d, vI f, vI g, vI md, vR ar1, vR ar2, vR ar3, vR ar4, vR ar5, vI (2 : Int32), vR ar3, vR x1, vR x2, vR q0, vR q1] [(.ref q1), (.ref q0)]) := fun t kt => S624 t (by
          refine XS.ifNo X623.here hx rfl (hb hby at_251) rfl ((if0 _ _).trans (feq (show ¬ ((1 : Int32) = (0 : Int32)) from (by decide))).1) ?_
          show Sp p e below T623 (mkF m 254 #[vI a, vI b, vI d, vI f, vI g, vI md, vR ar1, vR ar2, vR ar3, vR ar4, vR ar5, vI (2 : Int32), vR ar3, vR x1, vR x2, vR q0, vR q1] []) _
          refine XS.aload X623.here hx rfl (hb hby at_254) rfl rfl ?_
          show Sp p e below T623 (mkF m 256 #[vI a, vI b, vI d, vI f, vI g, vI md, vR ar1, vR ar2, vR ar3, vR ar4, vR ar5, vI (2 : Int32), vR ar3, vR x1, vR x2, vR q0, vR q1] [(.ref q0)]) _
          refine XS.aload X623.here hx rfl (hb hby at_256) rfl rfl ?_
          show Sp p e below T623 (mkF m 258 #[vI a, vI b, vI d, vI f, vI g, vI md, vR ar1, vR ar2, vR ar3, vR ar4, vR ar5, vI (2 : Int32), vR ar3, vR x1, vR x2, vR q0, vR q1] [(.ref q1), (.ref q0)]) _
          exact kt)
        clear S624
        have f626 := (f606.keep K610)
        have f627 := (f607.keep K610 nin0)
        have f628 := (f608.keep K610 nin0)
        have f629 := (f609.keep K610 nin0)
        obtain ⟨cq630, kq630, q630a, q630b, q630c⟩ := isOf hZ e623 f616
        obtain ⟨v630, T630, L630, X630, hQ630, st630⟩ := own_outV (X623.virtualBack hx (y := (⟨"com/example/requeue/requeue/QueueName", "equals", "(Ljava/lang/Object;)Z"⟩ : MethodName)) (z := (⟨"com/example/requeue/requeue/QueueName", "equals", "(Ljava/lang/Object;)Z"⟩ : MethodName)) hown (mvT hZ (own_h hw 106 rfl)) (mvT hZ (own_h hw 107 rfl)) (notFace_of_selects (args := #[]) (mvT hZ (own_h hw 109 rfl))) (mvT hZ (own_h hw 109 rfl)) (mvT hZ (own_h hw 108 rfl)) (by decide) (backOf (W := 0) (rm_qeq l Z a0 hw [] q0 q1 x1 t1 kb566 x2 t2 kb592 (3 : Int32) (own_vs ([c3_0, c3_1, c3_2] : List Int32)) ([c3_0, c3_1, c3_2] : List Int32) T610.heap n0 z613 SS f622 E610 f614 F610 f618 f620 f619 f621 hcx f626 f627 f628 f629 hcx hokx (Nat.le_of_ble_eq_true rfl)) hZ (own_h hw 110 rfl) (own_h hw 62 rfl) (by decide) (by decide)) q630a q630c (g := (mkF m 258 #[vI a, vI b, vI d, vI f, vI g, vI md, vR ar1, vR ar2, vR ar3, vR ar4, vR ar5, vI (2 : Int32), vR ar3, vR x1, vR x2, vR q0, vR q1] [(.ref q1), (.ref q0)])) rfl (by rw [hml]; rfl) (Steps.refl _) (argsL := [(.ref q1)]) (rest := []) (lenOf pd__Ljava_lang_Object__Z rfl) rfl (by show 2 * 0 + _ ≤ _; exact Nat.le_of_eq rfl) (hb hby at_258) (fun _ _ => ⟨rfl, e623, (by decide : 17 + 0 ≤ _), (by decide : 335 + 0 ≤ _)⟩))
        obtain ⟨rfl, N630q, e630⟩ := hQ630
        have N630 := Fr.app N623 N630q
        obtain ⟨Lo630, X630o, N630o⟩ := own_hl X630 N630
        have S631 : Go p e below s₁ (eF_law m a b d f g md) T630 (mkF m 261 #[vI a, vI b, vI d, vI f, vI g, vI md, vR ar1, vR ar2, vR ar3, vR ar4, vR ar5, vI (2 : Int32), vR ar3, vR x1, vR x2, vR q0, vR q1] [(.int (1 : Int32))]) := fun t kt => S625 t (st630 t kt)
        clear S625 st630 X623 e623 X630 N630
        have S632 : Go p e below s₁ (eF_law m a b d f g md) T630 (mkF m 269 #[vI a, vI b, vI d, vI f, vI g, vI md, vR ar1, vR ar2, vR ar3, vR ar4, vR ar5, vI (2 : Int32), vR ar3, vR x1, vR x2, vR q0, vR q1] [(.int (1 : Int32))]) := fun t kt => S631 t (by
          refine XS.ifNo X630o.here hx rfl (hb hby at_261) rfl ((if0 _ _).trans (feq (show ¬ ((1 : Int32) = (0 : Int32)) from (by decide))).1) ?_
          show Sp p e below T630 (mkF m 264 #[vI a, vI b, vI d, vI f, vI g, vI md, vR ar1, vR ar2, vR ar3, vR ar4, vR ar5, vI (2 : Int32), vR ar3, vR x1, vR x2, vR q0, vR q1] []) _
          refine XS.iconst X630o.here hx rfl (hb hby at_264) ?_
          show Sp p e below T630 (mkF m 265 #[vI a, vI b, vI d, vI f, vI g, vI md, vR ar1, vR ar2, vR ar3, vR ar4, vR ar5, vI (2 : Int32), vR ar3, vR x1, vR x2, vR q0, vR q1] [(.int (1 : Int32))]) _
          refine XS.goto X630o.here hx rfl (pc0 := 265) (pc' := 269) rfl (hb hby at_265) (by decide) (by decide) ?_
          show Sp p e below T630 (mkF m 269 #[vI a, vI b, vI d, vI f, vI g, vI md, vR ar1, vR ar2, vR ar3, vR ar4, vR ar5, vI (2 : Int32), vR ar3, vR x1, vR x2, vR q0, vR q1] [(.int (1 : Int32))]) _
          exact kt)
        clear S631
        obtain ⟨fs, hr, hrun, hended, hRE⟩ := X630o.leaveW hS (n := _) (by rw [e630]; exact hki610) (v := some (.int (1 : Int32))) (fun h => by first | rfl | (rw [Bd.returns] at h; cases h))
        refine ⟨_, _, S632 _ ?_, hrun, hended, _, _, rfl, ?_, hRE.1, hRE.2.1, hRE.2.2.1, hRE.2.2.2.mono (by decide) (by decide)⟩
        · exact retN X630o hx (t := .boolean) Bd.returns (by simp) (hb hby at_269) hr
        · show Q_law Z  h0 n0 _ T630.heap _
          rw [e630]
          exact ⟨rfl, N630o⟩
      · have S355 : Go p e below s₁ (eF_law m a b d f g md) T348 (mkF m 176 #[vI a, vI b, vI d, vI f, vI g, vI md, vR ar1, vR ar2, vR ar3, vR ar4, vR ar5, vI kk, vU, vU, vU, vU, vU] [(.int (3 : Int32)), (.int kk)]) := fun t kt => S354 t (by
          refine XS.icmpYes X348o.here hx rfl (pc0 := 165) (pc' := 173) rfl (hb hby at_165) rfl (feq (show ¬ (kk = (2 : Int32)) from hn3)).2 (by decide) (by decide) ?_
          show Sp p e below T348 (mkF m 173 #[vI a, vI b, vI d, vI f, vI g, vI md, vR ar1, vR ar2, vR ar3, vR ar4, vR ar5, vI kk, vU, vU, vU, vU, vU] []) _
          refine XS.iload X348o.here hx rfl (hb hby at_173) rfl ?_
          show Sp p e below T348 (mkF m 175 #[vI a, vI b, vI d, vI f, vI g, vI md, vR ar1, vR ar2, vR ar3, vR ar4, vR ar5, vI kk, vU, vU, vU, vU, vU] [(.int kk)]) _
          refine XS.iconst X348o.here hx rfl (hb hby at_175) ?_
          show Sp p e below T348 (mkF m 176 #[vI a, vI b, vI d, vI f, vI g, vI md, vR ar1, vR ar2, vR ar3, vR ar4, vR ar5, vI kk, vU, vU, vU, vU, vU] [(.int (3 : Int32)), (.int kk)]) _
          exact kt)
        clear S354
        by_cases hn4 : kk = (3 : Int32)
        · have S365 : Go p e below s₁ (eF_law m a b d f g md) T348 (mkF m 191 #[vI a, vI b, vI d, vI f, vI g, vI md, vR ar1, vR ar2, vR ar3, vR ar4, vR ar5, vI kk, vR ar4, vU, vU, vU, vU] [(.int (5 : Int32)), (.int kk)]) := fun t kt => S355 t (by
            refine XS.icmpNo X348o.here hx rfl (hb hby at_176) rfl (teq (show kk = (3 : Int32) from hn4)).2 ?_
            show Sp p e below T348 (mkF m 179 #[vI a, vI b, vI d, vI f, vI g, vI md, vR ar1, vR ar2, vR ar3, vR ar4, vR ar5, vI kk, vU, vU, vU, vU, vU] []) _
            refine XS.aload X348o.here hx rfl (hb hby at_179) rfl rfl ?_
            show Sp p e below T348 (mkF m 181 #[vI a, vI b, vI d, vI f, vI g, vI md, vR ar1, vR ar2, vR ar3, vR ar4, vR ar5, vI kk, vU, vU, vU, vU, vU] [(.ref ar4)]) _
            refine XS.goto X348o.here hx rfl (pc0 := 181) (pc' := 186) rfl (hb hby at_181) (by decide) (by decide) ?_
            show Sp p e below T348 (mkF m 186 #[vI a, vI b, vI d, vI f, vI g, vI md, vR ar1, vR ar2, vR ar3, vR ar4, vR ar5, vI kk, vU, vU, vU, vU, vU] [(.ref ar4)]) _
            refine XS.astore X348o.here hx rfl (hb hby at_186) rfl rfl (l' := #[vI a, vI b, vI d, vI f, vI g, vI md, vR ar1, vR ar2, vR ar3, vR ar4, vR ar5, vI kk, vR ar4, vU, vU, vU, vU]) rfl ?_
            show Sp p e below T348 (mkF m 188 #[vI a, vI b, vI d, vI f, vI g, vI md, vR ar1, vR ar2, vR ar3, vR ar4, vR ar5, vI kk, vR ar4, vU, vU, vU, vU] []) _
            refine XS.iload X348o.here hx rfl (hb hby at_188) rfl ?_
            show Sp p e below T348 (mkF m 190 #[vI a, vI b, vI d, vI f, vI g, vI md, vR ar1, vR ar2, vR ar3, vR ar4, vR ar5, vI kk, vR ar4, vU, vU, vU, vU] [(.int kk)]) _
            refine XS.iconst X348o.here hx rfl (hb hby at_190) ?_
            show Sp p e below T348 (mkF m 191 #[vI a, vI b, vI d, vI f, vI g, vI md, vR ar1, vR ar2, vR ar3, vR ar4, vR ar5, vI kk, vR ar4, vU, vU, vU, vU] [(.int (5 : Int32)), (.int kk)]) _
            exact kt)
          clear S355
          have q367 : kk = (3 : Int32) := hn4
          have S366 : Go p e below s₁ (eF_law m a b d f g md) T348 (mkF m 191 #[vI a, vI b, vI d, vI f, vI g, vI md, vR ar1, vR ar2, vR ar3, vR ar4, vR ar5, vI (3 : Int32), vR ar4, vU, vU, vU, vU] [(.int (5 : Int32)), (.int (3 : Int32))]) := by have h := S365; rw [q367] at h; exact h
          clear S365
          have hokx : ∀ z ∈ ([c4_0, c4_1, c4_2, c4_3] : List Int32), own_ok z := fun z hz => by simp only [List.mem_cons, List.not_mem_nil, or_false] at hz; rcases hz with rfl | rfl | rfl | rfl <;> assumption
          have hcx : StrChars.Road.CodA ([c4_0, c4_1, c4_2, c4_3] : List Int32) 0 (4 : Int32) (own_vs ([c4_0, c4_1, c4_2, c4_3] : List Int32)) := own_coda rfl hokx
          have S633 : Go p e below s₁ (eF_law m a b d f g md) T348 (mkF m 205 #[vI a, vI b, vI d, vI f, vI g, vI md, vR ar1, vR ar2, vR ar3, vR ar4, vR ar5, vI (3 : Int32), vR ar4, vU, vU, vU, vU] []) := fun t kt => S366 t (by
            refine XS.icmpYes X348o.here hx rfl (pc0 := 191) (pc' := 205) rfl (hb hby at_191) rfl (feq (show ¬ ((3 : Int32) = (5 : Int32)) from (by decide))).2 (by decide) (by decide) ?_
            show Sp p e below T348 (mkF m 205 #[vI a, vI b, vI d, vI f, vI g, vI md, vR ar1, vR ar2, vR ar3, vR ar4, vR ar5, vI (3 : Int32), vR ar4, vU, vU, vU, vU] []) _
            exact kt)
          clear S366
          obtain ⟨T634, h634, X634, e634, E634, A634, D634, -, st634⟩ := newO X348o hx hZ hown (own_h hw 39 rfl) (own_h hw 7 rfl) (own_h hw 6 rfl) e348 (g := (mkF m 205 #[vI a, vI b, vI d, vI f, vI g, vI md, vR ar1, vR ar2, vR ar3, vR ar4, vR ar5, vI (3 : Int32), vR ar4, vU, vU, vU, vU] [])) rfl (hb hby at_205) (by decide) (by decide)
          obtain ⟨x1, g634⟩ : ∃ z, z = h348.size := ⟨_, rfl⟩
          rw [← g634] at A634 D634 st634
          have f635 := (f341.wr W348)
          have ne636 : la ≠ x1 := by rw [g634]; exact Nat.ne_of_lt f635.lt
          have f637 := ((((((f279.ext E276).other W300 ne280).other W312 ne280).other W324 ne280).other W336 ne280).other W348 ne280)
          have ne638 : ar1 ≠ x1 := by rw [g634]; exact Nat.ne_of_lt f637.lt
          have f639 := (f344.other W348 ne282)
          have ne640 : lb ≠ x1 := by rw [g634]; exact Nat.ne_of_lt f639.lt
          have f641 := ((((((f283.ext E276).other W300 ne284).other W312 ne284).other W324 ne284).other W336 ne284).other W348 ne284)
          have ne642 : ar2 ≠ x1 := by rw [g634]; exact Nat.ne_of_lt f641.lt
          have f643 := ((((((f285.ext E276).other W300 ne286).other W312 ne286).other W324 ne286).other W336 ne286).other W348 ne286)
          have ne644 : ar3 ≠ x1 := by rw [g634]; exact Nat.ne_of_lt f643.lt
          have f645 := ((((((V273.ext E276).other W300 ne287).other W312 ne287).other W324 ne287).other W336 ne287).other W348 ne287)
          have ne646 : ar4 ≠ x1 := by rw [g634]; exact Nat.ne_of_lt f645.lt
          have ne647 : ar5 ≠ x1 := by rw [g634]; exact Nat.ne_of_lt V348.lt
          have z648 := (Nat.le_trans z339 (Keep.of_wr W348).1)
          have g_x1 : n0 ≤ x1 := Nat.le_trans z648 (Nat.le_of_eq g634.symm)
          have F_value_x1 : Fld Z h634 x1 "java/lang/String" "value" "[B" .null := D634 (Or.inr (own_h hw 9 rfl)) (ty := (.array .byte)) (by decide)
          have F_coder_x1 : Fld Z h634 x1 "java/lang/String" "coder" "B" (.int (0 : Int32)) := D634 (Or.inr (own_h hw 10 rfl)) (ty := .byte) (by decide)
          have S649 : Go p e below s₁ (eF_law m a b d f g md) T634 (mkF m 208 #[vI a, vI b, vI d, vI f, vI g, vI md, vR ar1, vR ar2, vR ar3, vR ar4, vR ar5, vI (3 : Int32), vR ar4, vU, vU, vU, vU] [(.ref x1)]) := fun t kt => S633 t (st634 t kt)
          clear S633 st634 X348o e348
          have S650 : Go p e below s₁ (eF_law m a b d f g md) T634 (mkF m 211 #[vI a, vI b, vI d, vI f, vI g, vI md, vR ar1, vR ar2, vR ar3, vR ar4, vR ar5, vI (3 : Int32), vR ar4, vU, vU, vU, vU] [(.ref ar4), (.ref x1), (.ref x1)]) := fun t kt => S649 t (by
            refine XS.dup X634.here hx rfl (hb hby at_208) rfl rfl ?_
            show Sp p e below T634 (mkF m 209 #[vI a, vI b, vI d, vI f, vI g, vI md, vR ar1, vR ar2, vR ar3, vR ar4, vR ar5, vI (3 : Int32), vR ar4, vU, vU, vU, vU] [(.ref x1), (.ref x1)]) _
            refine XS.aload X634.here hx rfl (hb hby at_209) rfl rfl ?_
            show Sp p e below T634 (mkF m 211 #[vI a, vI b, vI d, vI f, vI g, vI md, vR ar1, vR ar2, vR ar3, vR ar4, vR ar5, vI (3 : Int32), vR ar4, vU, vU, vU, vU] [(.ref ar4), (.ref x1), (.ref x1)]) _
            exact kt)
          clear S649
          have z651 := (Nat.le_trans z648 E634.1)
          have f652 := (f645.ext E634)
          have f653 := ((f340.wr W348 g_ar5).ext E634)
          obtain ⟨v654, T654, L654, X654, hQ654, st654⟩ := own_outV (X634.specialBack hx (y := (⟨"java/lang/String", "<init>", "([C)V"⟩ : MethodName)) rfl hown (mvT hZ (own_h hw 40 rfl)) (mvT hZ (own_h hw 41 rfl)) (mvT hZ (own_h hw 42 rfl)) (by decide) (StrChars.Road.backV (W := 1) hZ hws (kI := 4) (own_h hw 7 rfl) (cs := ([c4_0, c4_1, c4_2, c4_3] : List Int32)) (bs := ([c4_0, c4_1, c4_2, c4_3] : List Int32).map (fun c => c.toInt8.toInt32)) (n := 4) (n0 := n0) g_x1 z651 A634 F_value_x1 F_coder_x1 f652 (S_cs.ext f653.2) hcz rfl rfl (by decide) (by decide) (fun z hz => own_rng (hokx z hz)) rfl (by decide) (by decide)) (g := (mkF m 211 #[vI a, vI b, vI d, vI f, vI g, vI md, vR ar1, vR ar2, vR ar3, vR ar4, vR ar5, vI (3 : Int32), vR ar4, vU, vU, vU, vU] [(.ref ar4), (.ref x1), (.ref x1)])) rfl (by rw [hml]; rfl) (Steps.refl _) (a := x1) (argsL := [(.ref ar4)]) (rest := [(.ref x1)]) (lenOf pd___C_V rfl) rfl (by show 2 * 0 + _ ≤ _; exact Nat.le_of_eq rfl) (hb hby at_211) (fun _ _ => ⟨rfl, e634, (by decide : 8 + 1 ≤ _), (by decide : 283 + 4 ≤ _)⟩))
          obtain ⟨rfl, N654q, K654, E654, F654, t1, kb654, g_t1, sz654, ntx654, G654, V654⟩ := hQ654
          have N654 := Fr.app N348o N654q
          obtain ⟨Lo654, X654o, N654o⟩ := own_hl X654 N654
          have V654' : Arv Z T654.heap t1 kb654 .byte (4 : Int32) (own_vs ([c4_0, c4_1, c4_2, c4_3] : List Int32)) (.int (0 : Int32)) := by have q := V654; rw [List.map_map] at q; exact q
          have S655 : Go p e below s₁ (eF_law m a b d f g md) T654 (mkF m 214 #[vI a, vI b, vI d, vI f, vI g, vI md, vR ar1, vR ar2, vR ar3, vR ar4, vR ar5, vI (3 : Int32), vR ar4, vU, vU, vU, vU] [(.ref x1)]) := fun t kt => S650 t (st654 t kt)
          clear S650 st654 X634 e634 X654 N654
          have S656 : Go p e below s₁ (eF_law m a b d f g md) T654 (mkF m 216 #[vI a, vI b, vI d, vI f, vI g, vI md, vR ar1, vR ar2, vR ar3, vR ar4, vR ar5, vI (3 : Int32), vR ar4, vR x1, vU, vU, vU] []) := fun t kt => S655 t (by
            refine XS.astore X654o.here hx rfl (hb hby at_214) rfl rfl (l' := #[vI a, vI b, vI d, vI f, vI g, vI md, vR ar1, vR ar2, vR ar3, vR ar4, vR ar5, vI (3 : Int32), vR ar4, vR x1, vU, vU, vU]) rfl ?_
            show Sp p e below T654 (mkF m 216 #[vI a, vI b, vI d, vI f, vI g, vI md, vR ar1, vR ar2, vR ar3, vR ar4, vR ar5, vI (3 : Int32), vR ar4, vR x1, vU, vU, vU] []) _
            exact kt)
          clear S655
          obtain ⟨T657, h657, X657, e657, E657, A657, D657, -, st657⟩ := newO X654o hx hZ hown (own_h hw 39 rfl) (own_h hw 7 rfl) (own_h hw 6 rfl) rfl (g := (mkF m 216 #[vI a, vI b, vI d, vI f, vI g, vI md, vR ar1, vR ar2, vR ar3, vR ar4, vR ar5, vI (3 : Int32), vR ar4, vR x1, vU, vU, vU] [])) rfl (hb hby at_216) (by decide) (by decide)
          obtain ⟨x2, g657⟩ : ∃ z, z = T654.heap.size := ⟨_, rfl⟩
          rw [← g657] at A657 D657 st657
          have f658 := ((f635.ext E634).keep K654)
          have ne659 : la ≠ x2 := by rw [g657]; exact Nat.ne_of_lt f658.lt
          have ne660 : x1 ≠ x2 := by rw [g657]; exact Nat.ne_of_lt E654.lt
          have f661 := ((f637.ext E634).keep K654 (ninS ne638 nin0))
          have ne662 : ar1 ≠ x2 := by rw [g657]; exact Nat.ne_of_lt f661.lt
          have f663 := ((f639.ext E634).keep K654 (ninS ne640 nin0))
          have ne664 : lb ≠ x2 := by rw [g657]; exact Nat.ne_of_lt f663.lt
          have f665 := ((f641.ext E634).keep K654 (ninS ne642 nin0))
          have ne666 : ar2 ≠ x2 := by rw [g657]; exact Nat.ne_of_lt f665.lt
          have f667 := ((f643.ext E634).keep K654 (ninS ne644 nin0))
          have ne668 : ar3 ≠ x2 := by rw [g657]; exact Nat.ne_of_lt f667.lt
          have f669 := (f652.keep K654 (ninS ne646 nin0))
          have ne670 : ar4 ≠ x2 := by rw [g657]; exact Nat.ne_of_lt f669.lt
          have f671 := ((V348.ext E634).keep K654 (ninS ne647 nin0))
          have ne672 : ar5 ≠ x2 := by rw [g657]; exact Nat.ne_of_lt f671.lt
          have ne673 : t1 ≠ x2 := by rw [g657]; exact Nat.ne_of_lt V654'.lt
          have z674 := (Nat.le_trans z651 K654.1)
          have g_x2 : n0 ≤ x2 := Nat.le_trans z674 (Nat.le_of_eq g657.symm)
          have F_value_x2 : Fld Z h657 x2 "java/lang/String" "value" "[B" .null := D657 (Or.inr (own_h hw 9 rfl)) (ty := (.array .byte)) (by decide)
          have F_coder_x2 : Fld Z h657 x2 "java/lang/String" "coder" "B" (.int (0 : Int32)) := D657 (Or.inr (own_h hw 10 rfl)) (ty := .byte) (by decide)
          have S675 : Go p e below s₁ (eF_law m a b d f g md) T657 (mkF m 219 #[vI a, vI b, vI d, vI f, vI g, vI md, vR ar1, vR ar2, vR ar3, vR ar4, vR ar5, vI (3 : Int32), vR ar4, vR x1, vU, vU, vU] [(.ref x2)]) := fun t kt => S656 t (st657 t kt)
          clear S656 st657 X654o
          have S676 : Go p e below s₁ (eF_law m a b d f g md) T657 (mkF m 222 #[vI a, vI b, vI d, vI f, vI g, vI md, vR ar1, vR ar2, vR ar3, vR ar4, vR ar5, vI (3 : Int32), vR ar4, vR x1, vU, vU, vU] [(.ref ar4), (.ref x2), (.ref x2)]) := fun t kt => S675 t (by
            refine XS.dup X657.here hx rfl (hb hby at_219) rfl rfl ?_
            show Sp p e below T657 (mkF m 220 #[vI a, vI b, vI d, vI f, vI g, vI md, vR ar1, vR ar2, vR ar3, vR ar4, vR ar5, vI (3 : Int32), vR ar4, vR x1, vU, vU, vU] [(.ref x2), (.ref x2)]) _
            refine XS.aload X657.here hx rfl (hb hby at_220) rfl rfl ?_
            show Sp p e below T657 (mkF m 222 #[vI a, vI b, vI d, vI f, vI g, vI md, vR ar1, vR ar2, vR ar3, vR ar4, vR ar5, vI (3 : Int32), vR ar4, vR x1, vU, vU, vU] [(.ref ar4), (.ref x2), (.ref x2)]) _
            exact kt)
          clear S675
          have z677 := (Nat.le_trans z674 E657.1)
          have f678 := (f669.ext E657)
          have f679 := ((f653.keep K654 (allS g_x1 all0)).ext E657)
          obtain ⟨v680, T680, L680, X680, hQ680, st680⟩ := own_outV (X657.specialBack hx (y := (⟨"java/lang/String", "<init>", "([C)V"⟩ : MethodName)) rfl hown (mvT hZ (own_h hw 40 rfl)) (mvT hZ (own_h hw 41 rfl)) (mvT hZ (own_h hw 42 rfl)) (by decide) (StrChars.Road.backV (W := 1) hZ hws (kI := 4) (own_h hw 7 rfl) (cs := ([c4_0, c4_1, c4_2, c4_3] : List Int32)) (bs := ([c4_0, c4_1, c4_2, c4_3] : List Int32).map (fun c => c.toInt8.toInt32)) (n := 4) (n0 := n0) g_x2 z677 A657 F_value_x2 F_coder_x2 f678 (S_cs.ext f679.2) hcz rfl rfl (by decide) (by decide) (fun z hz => own_rng (hokx z hz)) rfl (by decide) (by decide)) (g := (mkF m 222 #[vI a, vI b, vI d, vI f, vI g, vI md, vR ar1, vR ar2, vR ar3, vR ar4, vR ar5, vI (3 : Int32), vR ar4, vR x1, vU, vU, vU] [(.ref ar4), (.ref x2), (.ref x2)])) rfl (by rw [hml]; rfl) (Steps.refl _) (a := x2) (argsL := [(.ref ar4)]) (rest := [(.ref x2)]) (lenOf pd___C_V rfl) rfl (by show 2 * 0 + _ ≤ _; exact Nat.le_of_eq rfl) (hb hby at_222) (fun _ _ => ⟨rfl, e657, (by decide : 10 + 1 ≤ _), (by decide : 291 + 4 ≤ _)⟩))
          obtain ⟨rfl, N680q, K680, E680, F680, t2, kb680, g_t2, sz680, ntx680, G680, V680⟩ := hQ680
          have N680 := Fr.app N654o N680q
          obtain ⟨Lo680, X680o, N680o⟩ := own_hl X680 N680
          have V680' : Arv Z T680.heap t2 kb680 .byte (4 : Int32) (own_vs ([c4_0, c4_1, c4_2, c4_3] : List Int32)) (.int (0 : Int32)) := by have q := V680; rw [List.map_map] at q; exact q
          have S681 : Go p e below s₁ (eF_law m a b d f g md) T680 (mkF m 225 #[vI a, vI b, vI d, vI f, vI g, vI md, vR ar1, vR ar2, vR ar3, vR ar4, vR ar5, vI (3 : Int32), vR ar4, vR x1, vU, vU, vU] [(.ref x2)]) := fun t kt => S676 t (st680 t kt)
          clear S676 st680 X657 e657 X680 N680
          have S682 : Go p e below s₁ (eF_law m a b d f g md) T680 (mkF m 229 #[vI a, vI b, vI d, vI f, vI g, vI md, vR ar1, vR ar2, vR ar3, vR ar4, vR ar5, vI (3 : Int32), vR ar4, vR x1, vR x2, vU, vU] [(.ref x1)]) := fun t kt => S681 t (by
            refine XS.astore X680o.here hx rfl (hb hby at_225) rfl rfl (l' := #[vI a, vI b, vI d, vI f, vI g, vI md, vR ar1, vR ar2, vR ar3, vR ar4, vR ar5, vI (3 : Int32), vR ar4, vR x1, vR x2, vU, vU]) rfl ?_
            show Sp p e below T680 (mkF m 227 #[vI a, vI b, vI d, vI f, vI g, vI md, vR ar1, vR ar2, vR ar3, vR ar4, vR ar5, vI (3 : Int32), vR ar4, vR x1, vR x2, vU, vU] []) _
            refine XS.aload X680o.here hx rfl (hb hby at_227) rfl rfl ?_
            show Sp p e below T680 (mkF m 229 #[vI a, vI b, vI d, vI f, vI g, vI md, vR ar1, vR ar2, vR ar3, vR ar4, vR ar5, vI (3 : Int32), vR ar4, vR x1, vR x2, vU, vU] [(.ref x1)]) _
            exact kt)
          clear S681
          have z683 := (Nat.le_trans z677 K680.1)
          have f684 := (f679.keep K680 (allS g_x2 all0))
          have f685 := ((E654.ext E657).keep K680)
          have f686 := ((F654.ext E657).keep K680 (ninS ne660 nin0))
          have f687 := ((G654.ext E657).keep K680 (ninS ne660 nin0))
          have f688 := ((V654'.ext E657).keep K680 (ninS ne673 nin0))
          obtain ⟨v689, T689, L689, X689, hQ689, hS, hgr689, hZ, hown, st689⟩ := own_outSS hS (Nat.le_trans (Nat.le_trans (Nat.le_trans (Nat.le_trans (Nat.le_trans (Nat.le_trans (Nat.le_trans (Nat.le_trans (Nat.le_trans (Nat.le_trans (Nat.le_trans (Nat.le_trans (Nat.le_trans (Nat.le_trans (Nat.le_trans (Nat.le_trans (Nat.le_trans (Nat.le_trans (Nat.le_trans (Nat.le_trans (Nat.le_trans (Nat.le_trans (Nat.le_trans hki126 (Keep.of_wr W130).1) E133.1) (Keep.of_wr W153).1) (Keep.of_wr W165).1) E168.1) (Keep.of_wr W188).1) (Keep.of_wr W200).1) (Keep.of_wr W212).1) E215.1) (Keep.of_wr W237).1) (Keep.of_wr W249).1) (Keep.of_wr W261).1) (Keep.of_wr W273).1) E276.1) (Keep.of_wr W300).1) (Keep.of_wr W312).1) (Keep.of_wr W324).1) (Keep.of_wr W336).1) (Keep.of_wr W348).1) E634.1) K654.1) E657.1) K680.1) hZ hown (Jvm.RoadKit.callSS X680o hx (y := (⟨"com/example/requeue/requeue/QueueName", "of", "(Ljava/lang/String;)Lcom/example/requeue/requeue/QueueName;"⟩ : MethodName)) hown (mvT hZ (own_h hw 60 rfl)) (mvT hZ (own_h hw 61 rfl)) (mvT hZ (own_h hw 62 rfl)) (mvT hZ (own_h hw 63 rfl)) (by decide) (own_backS (W := 0) (Pv := fun _ => True) (rm_of l Z a0 hw [] x1 t1 kb654 (4 : Int32) (own_vs ([c4_0, c4_1, c4_2, c4_3] : List Int32)) ([c4_0, c4_1, c4_2, c4_3] : List Int32) T680.heap n0 z683 SS f684 f685 f686 f687 f688 hcx hokx (Nat.le_of_ble_eq_true rfl) (by simp)) hZ (own_h hw 63 rfl) (own_h hw 62 rfl) (by decide) (by decide) (fun _ _ => trivial)) (g := (mkF m 229 #[vI a, vI b, vI d, vI f, vI g, vI md, vR ar1, vR ar2, vR ar3, vR ar4, vR ar5, vI (3 : Int32), vR ar4, vR x1, vR x2, vU, vU] [(.ref x1)])) rfl (by rw [hml]; rfl) (argsL := [(.ref x1)]) (rest := []) (lenOf pd__Ljava_lang_String__Lcom_example_requeue_requeue_QueueName_ rfl) rfl (by show 2 * 0 + _ ≤ _; exact Nat.le_of_eq rfl) (hb hby at_229) (fun _ _ => ⟨rfl, rfl, (by decide : 11 + 3 ≤ _), (by decide : 295 + 21 ≤ _)⟩))
          obtain ⟨q0, rfl, N689q, K689, sz689, E689, F689⟩ := hQ689
          have N689 := Fr.app N680o N689q
          obtain ⟨Lo689, X689o, N689o⟩ := own_hl X689 N689
          have g_q0 : n0 ≤ q0 := Nat.le_trans z683 sz689
          have hki689 := Nat.le_refl T689.heap.size
          have S690 : Go p e below s₁ (eF_law m a b d f g md) T689 (mkF m 232 #[vI a, vI b, vI d, vI f, vI g, vI md, vR ar1, vR ar2, vR ar3, vR ar4, vR ar5, vI (3 : Int32), vR ar4, vR x1, vR x2, vU, vU] [(.ref q0)]) := fun t kt => S682 t (st689 t kt)
          clear S682 st689 X680o X689 N689
          have S691 : Go p e below s₁ (eF_law m a b d f g md) T689 (mkF m 236 #[vI a, vI b, vI d, vI f, vI g, vI md, vR ar1, vR ar2, vR ar3, vR ar4, vR ar5, vI (3 : Int32), vR ar4, vR x1, vR x2, vR q0, vU] [(.ref x2)]) := fun t kt => S690 t (by
            refine XS.astore X689o.here hx rfl (hb hby at_232) rfl rfl (l' := #[vI a, vI b, vI d, vI f, vI g, vI md, vR ar1, vR ar2, vR ar3, vR ar4, vR ar5, vI (3 : Int32), vR ar4, vR x1, vR x2, vR q0, vU]) rfl ?_
            show Sp p e below T689 (mkF m 234 #[vI a, vI b, vI d, vI f, vI g, vI md, vR ar1, vR ar2, vR ar3, vR ar4, vR ar5, vI (3 : Int32), vR ar4, vR x1, vR x2, vR q0, vU] []) _
            refine XS.aload X689o.here hx rfl (hb hby at_234) rfl rfl ?_
            show Sp p e below T689 (mkF m 236 #[vI a, vI b, vI d, vI f, vI g, vI md, vR ar1, vR ar2, vR ar3, vR ar4, vR ar5, vI (3 : Int32), vR ar4, vR x1, vR x2, vR q0, vU] [(.ref x2)]) _
            exact kt)
          clear S690
          have z692 := (Nat.le_trans z683 K689.1)
          have f693 := (f684.keep K689 all0)
          have f694 := (E680.keep K689)
          have f695 := (F680.keep K689 nin0)
          have f696 := (G680.keep K689 nin0)
          have f697 := (V680'.keep K689 nin0)
          obtain ⟨v698, T698, L698, X698, hQ698, hS, hgr698, hZ, hown, st698⟩ := own_outSS hS hki689 hZ hown (Jvm.RoadKit.callSS X689o hx (y := (⟨"com/example/requeue/requeue/QueueName", "of", "(Ljava/lang/String;)Lcom/example/requeue/requeue/QueueName;"⟩ : MethodName)) hown (mvT hZ (own_h hw 60 rfl)) (mvT hZ (own_h hw 61 rfl)) (mvT hZ (own_h hw 62 rfl)) (mvT hZ (own_h hw 63 rfl)) (by decide) (own_backS (W := 0) (Pv := fun _ => True) (rm_of l Z a0 hw [] x2 t2 kb680 (4 : Int32) (own_vs ([c4_0, c4_1, c4_2, c4_3] : List Int32)) ([c4_0, c4_1, c4_2, c4_3] : List Int32) T689.heap n0 z692 SS f693 f694 f695 f696 f697 hcx hokx (Nat.le_of_ble_eq_true rfl) (by simp)) hZ (own_h hw 63 rfl) (own_h hw 62 rfl) (by decide) (by decide) (fun _ _ => trivial)) (g := (mkF m 236 #[vI a, vI b, vI d, vI f, vI g, vI md, vR ar1, vR ar2, vR ar3, vR ar4, vR ar5, vI (3 : Int32), vR ar4, vR x1, vR x2, vR q0, vU] [(.ref x2)])) rfl (by rw [hml]; rfl) (argsL := [(.ref x2)]) (rest := []) (lenOf pd__Ljava_lang_String__Lcom_example_requeue_requeue_QueueName_ rfl) rfl (by show 2 * 0 + _ ≤ _; exact Nat.le_of_eq rfl) (hb hby at_236) (fun _ _ => ⟨rfl, rfl, (by decide : 14 + 3 ≤ _), (by decide : 316 + 21 ≤ _)⟩))
          obtain ⟨q1, rfl, N698q, K698, sz698, E698, F698⟩ := hQ698
          have N698 := Fr.app N689o N698q
          obtain ⟨Lo698, X698o, N698o⟩ := own_hl X698 N698
          have g_q1 : n0 ≤ q1 := Nat.le_trans z692 sz698
          have hki698 := Nat.le_refl T698.heap.size
          have S699 : Go p e below s₁ (eF_law m a b d f g md) T698 (mkF m 239 #[vI a, vI b, vI d, vI f, vI g, vI md, vR ar1, vR ar2, vR ar3, vR ar4, vR ar5, vI (3 : Int32), vR ar4, vR x1, vR x2, vR q0, vU] [(.ref q1)]) := fun t kt => S691 t (st698 t kt)
          clear S691 st698 X689o X698 N698
          have S700 : Go p e below s₁ (eF_law m a b d f g md) T698 (mkF m 245 #[vI a, vI b, vI d, vI f, vI g, vI md, vR ar1, vR ar2, vR ar3, vR ar4, vR ar5, vI (3 : Int32), vR ar4, vR x1, vR x2, vR q0, vR q1] [(.ref q0), (.ref x1)]) := fun t kt => S699 t (by
            refine XS.astore X698o.here hx rfl (hb hby at_239) rfl rfl (l' := #[vI a, vI b, vI d, vI f, vI g, vI md, vR ar1, vR ar2, vR ar3, vR ar4, vR ar5, vI (3 : Int32), vR ar4, vR x1, vR x2, vR q0, vR q1]) rfl ?_
            show Sp p e below T698 (mkF m 241 #[vI a, vI b, vI d, vI f, vI g, vI md, vR ar1, vR ar2, vR ar3, vR ar4, vR ar5, vI (3 : Int32), vR ar4, vR x1, vR x2, vR q0, vR q1] []) _
            refine XS.aload X698o.here hx rfl (hb hby at_241) rfl rfl ?_
            show Sp p e below T698 (mkF m 243 #[vI a, vI b, vI d, vI f, vI g, vI md, vR ar1, vR ar2, vR ar3, vR ar4, vR ar5, vI (3 : Int32), vR ar4, vR x1, vR x2, vR q0, vR q1] [(.ref x1)]) _
            refine XS.aload X698o.here hx rfl (hb hby at_243) rfl rfl ?_
            show Sp p e below T698 (mkF m 245 #[vI a, vI b, vI d, vI f, vI g, vI md, vR ar1, vR ar2, vR ar3, vR ar4, vR ar5, vI (3 : Int32), vR ar4, vR x1, vR x2, vR q0, vR q1] [(.ref q0), (.ref x1)]) _
            exact kt)
          clear S699
          have z701 := (Nat.le_trans z692 K698.1)
          have f702 := (F689.keep K698 nin0)
          have f704 := (E689.keep K698)
          obtain ⟨cq703, kq703, q703a, q703b, q703c⟩ := isOf hZ rfl f704
          obtain ⟨v703, T703, L703, X703, hQ703, st703⟩ := own_outV (X698o.virtualBack hx (y := (⟨"com/example/requeue/requeue/QueueName", "toString", "()Ljava/lang/String;"⟩ : MethodName)) (z := (⟨"com/example/requeue/requeue/QueueName", "toString", "()Ljava/lang/String;"⟩ : MethodName)) hown (mvT hZ (own_h hw 96 rfl)) (mvT hZ (own_h hw 97 rfl)) (notFace_of_selects (args := #[]) (mvT hZ (own_h hw 99 rfl))) (mvT hZ (own_h hw 99 rfl)) (mvT hZ (own_h hw 98 rfl)) (by decide) (backOf (W := 1) (rm_qts l Z a0 hw [] q0 x1 T698.heap n0 z701 f702) hZ (own_h hw 100 rfl) (own_h hw 62 rfl) (by decide) (by decide)) q703a q703c (g := (mkF m 245 #[vI a, vI b, vI d, vI f, vI g, vI md, vR ar1, vR ar2, vR ar3, vR ar4, vR ar5, vI (3 : Int32), vR ar4, vR x1, vR x2, vR q0, vR q1] [(.ref q0), (.ref x1)])) rfl (by rw [hml]; rfl) (Steps.refl _) (argsL := []) (rest := [(.ref x1)]) (lenOf pd___Ljava_lang_String_ rfl) rfl (by show 2 * 0 + _ ≤ _; exact Nat.le_of_eq rfl) (hb hby at_245) (fun _ _ => ⟨rfl, rfl, (by decide : 17 + 0 ≤ _), (by decide : 337 + 0 ≤ _)⟩))
          obtain ⟨rfl, N703q, e703⟩ := hQ703
          have N703 := Fr.app N698o N703q
          obtain ⟨Lo703, X703o, N703o⟩ := own_hl X703 N703
          have S705 : Go p e below s₁ (eF_law m a b d f g md) T703 (mkF m 248 #[vI a, vI b, vI d, vI f, vI g, vI md, vR ar1, vR ar2, vR ar3, vR ar4, vR ar5, vI (3 : Int32), vR ar4, vR x1, vR x2, vR q0, vR q1] [(.ref x1), (.ref x1)]) := fun t kt => S700 t (st703 t kt)
          clear S700 st703 X698o X703 N703
          have hb0 := own_hb hokx
          have f706 := ((f685.keep K689).keep K698)
          have f707 := ((f687.keep K689 nin0).keep K698 nin0)
          have f708 := ((f686.keep K689 nin0).keep K698 nin0)
          have f709 := ((f688.keep K689 nin0).keep K698 nin0)
          have f710 := (f693.keep K698 all0)
          obtain ⟨cq711, kq711, q711a, q711b, q711c⟩ := isOf hZ e703 f706
          obtain ⟨v711, T711, L711, X711, hQ711, st711⟩ := own_outV (Q := (fun v h' L => ((v = some (.int 1) ∧ ([c4_0, c4_1, c4_2, c4_3] : List Int32) = ([c4_0, c4_1, c4_2, c4_3] : List Int32)) ∨ (v = some (.int 0) ∧ ¬ ([c4_0, c4_1, c4_2, c4_3] : List Int32) = ([c4_0, c4_1, c4_2, c4_3] : List Int32))) ∧ L = [] ∧ h' = T698.heap)) (X703o.virtualBack hx (y := (⟨"java/lang/String", "equals", "(Ljava/lang/Object;)Z"⟩ : MethodName)) (z := (⟨"java/lang/String", "equals", "(Ljava/lang/Object;)Z"⟩ : MethodName)) hown (mvT hZ (own_h hw 101 rfl)) (mvT hZ (own_h hw 102 rfl)) (notFace_of_selects (args := #[]) (mvT hZ (own_h hw 104 rfl))) (mvT hZ (own_h hw 104 rfl)) (mvT hZ (own_h hw 103 rfl)) (by decide) (StrChars.Road.eqW (W := 0) hZ heq (kI := 4) (own_h hw 7 rfl) f706 f707 f708 f709 hcx hb0 (Nat.le_of_ble_eq_true rfl) f706 f707 f708 f709 hcx hb0 (Nat.le_of_ble_eq_true rfl) (S_cs.ext f710.2) hcz (by decide) (by decide)) q711a q711c (g := (mkF m 248 #[vI a, vI b, vI d, vI f, vI g, vI md, vR ar1, vR ar2, vR ar3, vR ar4, vR ar5, vI (3 : Int32), vR ar4, vR x1, vR x2, vR q0, vR q1] [(.ref x1), (.ref x1)])) rfl (by rw [hml]; rfl) (Steps.refl _) (argsL := [(.ref x1)]) (rest := []) (lenOf pd__Ljava_lang_Object__Z rfl) rfl (by show 2 * 0 + _ ≤ _; exact Nat.le_of_eq rfl) (hb hby at_248) (fun _ _ => ⟨rfl, e703, (by decide : 17 + 0 ≤ _), (by decide : 337 + 0 ≤ _)⟩))
          obtain ⟨hor711, rfl, e711⟩ := hQ711
          obtain rfl : v711 = some (.int 1) := by rcases hor711 with ⟨q, -⟩ | ⟨-, q⟩ <;> first | exact q | exact absurd rfl q
          have N711 := Fr.app N703o (Fr.nil n0)
          have S712 : Go p e below s₁ (eF_law m a b d f g md) T711 (mkF m 251 #[vI a, vI b, vI d, vI f, vI g, vI md, vR ar1, vR ar2, vR ar3, vR ar4, vR ar5, vI (3 : Int32), vR ar4, vR x1, vR x2, vR q0, vR q1] [(.int (1 : Int32))]) := fun t kt => S705 t (st711 t kt)
          clear S705 st711 X703o e703
          have S713 : Go p e below s₁ (eF_law m a b d f g md) T711 (mkF m 258 #[vI a, vI b, vI d, vI f, vI g, vI md, vR ar1, vR ar2, vR ar3, vR ar4, vR ar5, vI (3 : Int32), vR ar4, vR x1, vR x2, vR q0, vR q1] [(.ref q1), (.ref q0)]) := fun t kt => S712 t (by
            refine XS.ifNo X711.here hx rfl (hb hby at_251) rfl ((if0 _ _).trans (feq (show ¬ ((1 : Int32) = (0 : Int32)) from (by decide))).1) ?_
            show Sp p e below T711 (mkF m 254 #[vI a, vI b, vI d, vI f, vI g, vI md, vR ar1, vR ar2, vR ar3, vR ar4, vR ar5, vI (3 : Int32), vR ar4, vR x1, vR x2, vR q0, vR q1] []) _
            refine XS.aload X711.here hx rfl (hb hby at_254) rfl rfl ?_
            show Sp p e below T711 (mkF m 256 #[vI a, vI b, vI d, vI f, vI g, vI md, vR ar1, vR ar2, vR ar3, vR ar4, vR ar5, vI (3 : Int32), vR ar4, vR x1, vR x2, vR q0, vR q1] [(.ref q0)]) _
            refine XS.aload X711.here hx rfl (hb hby at_256) rfl rfl ?_
            show Sp p e below T711 (mkF m 258 #[vI a, vI b, vI d, vI f, vI g, vI md, vR ar1, vR ar2, vR ar3, vR ar4, vR ar5, vI (3 : Int32), vR ar4, vR x1, vR x2, vR q0, vR q1] [(.ref q1), (.ref q0)]) _
            exact kt)
          clear S712
          have f714 := (f694.keep K698)
          have f715 := (f695.keep K698 nin0)
          have f716 := (f696.keep K698 nin0)
          have f717 := (f697.keep K698 nin0)
          obtain ⟨cq718, kq718, q718a, q718b, q718c⟩ := isOf hZ e711 f704
          obtain ⟨v718, T718, L718, X718, hQ718, st718⟩ := own_outV (X711.virtualBack hx (y := (⟨"com/example/requeue/requeue/QueueName", "equals", "(Ljava/lang/Object;)Z"⟩ : MethodName)) (z := (⟨"com/example/requeue/requeue/QueueName", "equals", "(Ljava/lang/Object;)Z"⟩ : MethodName)) hown (mvT hZ (own_h hw 106 rfl)) (mvT hZ (own_h hw 107 rfl)) (notFace_of_selects (args := #[]) (mvT hZ (own_h hw 109 rfl))) (mvT hZ (own_h hw 109 rfl)) (mvT hZ (own_h hw 108 rfl)) (by decide) (backOf (W := 0) (rm_qeq l Z a0 hw [] q0 q1 x1 t1 kb654 x2 t2 kb680 (4 : Int32) (own_vs ([c4_0, c4_1, c4_2, c4_3] : List Int32)) ([c4_0, c4_1, c4_2, c4_3] : List Int32) T698.heap n0 z701 SS f710 E698 f702 F698 f706 f708 f707 f709 hcx f714 f715 f716 f717 hcx hokx (Nat.le_of_ble_eq_true rfl)) hZ (own_h hw 110 rfl) (own_h hw 62 rfl) (by decide) (by decide)) q718a q718c (g := (mkF m 258 #[vI a, vI b, vI d, vI f, vI g, vI md, vR ar1, vR ar2, vR ar3, vR ar4, vR ar5, vI (3 : Int32), vR ar4, vR x1, vR x2, vR q0, vR q1] [(.ref q1), (.ref q0)])) rfl (by rw [hml]; rfl) (Steps.refl _) (argsL := [(.ref q1)]) (rest := []) (lenOf pd__Ljava_lang_Object__Z rfl) rfl (by show 2 * 0 + _ ≤ _; exact Nat.le_of_eq rfl) (hb hby at_258) (fun _ _ => ⟨rfl, e711, (by decide : 17 + 0 ≤ _), (by decide : 337 + 0 ≤ _)⟩))
          obtain ⟨rfl, N718q, e718⟩ := hQ718
          have N718 := Fr.app N711 N718q
          obtain ⟨Lo718, X718o, N718o⟩ := own_hl X718 N718
          have S719 : Go p e below s₁ (eF_law m a b d f g md) T718 (mkF m 261 #[vI a, vI b, vI d, vI f, vI g, vI md, vR ar1, vR ar2, vR ar3, vR ar4, vR ar5, vI (3 : Int32), vR ar4, vR x1, vR x2, vR q0, vR q1] [(.int (1 : Int32))]) := fun t kt => S713 t (st718 t kt)
          clear S713 st718 X711 e711 X718 N718
          have S720 : Go p e below s₁ (eF_law m a b d f g md) T718 (mkF m 269 #[vI a, vI b, vI d, vI f, vI g, vI md, vR ar1, vR ar2, vR ar3, vR ar4, vR ar5, vI (3 : Int32), vR ar4, vR x1, vR x2, vR q0, vR q1] [(.int (1 : Int32))]) := fun t kt => S719 t (by
            refine XS.ifNo X718o.here hx rfl (hb hby at_261) rfl ((if0 _ _).trans (feq (show ¬ ((1 : Int32) = (0 : Int32)) from (by decide))).1) ?_
            show Sp p e below T718 (mkF m 264 #[vI a, vI b, vI d, vI f, vI g, vI md, vR ar1, vR ar2, vR ar3, vR ar4, vR ar5, vI (3 : Int32), vR ar4, vR x1, vR x2, vR q0, vR q1] []) _
            refine XS.iconst X718o.here hx rfl (hb hby at_264) ?_
            show Sp p e below T718 (mkF m 265 #[vI a, vI b, vI d, vI f, vI g, vI md, vR ar1, vR ar2, vR ar3, vR ar4, vR ar5, vI (3 : Int32), vR ar4, vR x1, vR x2, vR q0, vR q1] [(.int (1 : Int32))]) _
            refine XS.goto X718o.here hx rfl (pc0 := 265) (pc' := 269) rfl (hb hby at_265) (by decide) (by decide) ?_
            show Sp p e below T718 (mkF m 269 #[vI a, vI b, vI d, vI f, vI g, vI md, vR ar1, vR ar2, vR ar3, vR ar4, vR ar5, vI (3 : Int32), vR ar4, vR x1, vR x2, vR q0, vR q1] [(.int (1 : Int32))]) _
            exact kt)
          clear S719
          obtain ⟨fs, hr, hrun, hended, hRE⟩ := X718o.leaveW hS (n := _) (by rw [e718]; exact hki698) (v := some (.int (1 : Int32))) (fun h => by first | rfl | (rw [Bd.returns] at h; cases h))
          refine ⟨_, _, S720 _ ?_, hrun, hended, _, _, rfl, ?_, hRE.1, hRE.2.1, hRE.2.2.1, hRE.2.2.2.mono (by decide) (by decide)⟩
          · exact retN X718o hx (t := .boolean) Bd.returns (by simp) (hb hby at_269) hr
          · show Q_law Z  h0 n0 _ T718.heap _
            rw [e718]
            exact ⟨rfl, N718o⟩
        · have S368 : Go p e below s₁ (eF_law m a b d f g md) T348 (mkF m 191 #[vI a, vI b, vI d, vI f, vI g, vI md, vR ar1, vR ar2, vR ar3, vR ar4, vR ar5, vI kk, vR ar5, vU, vU, vU, vU] [(.int (5 : Int32)), (.int kk)]) := fun t kt => S355 t (by
            refine XS.icmpYes X348o.here hx rfl (pc0 := 176) (pc' := 184) rfl (hb hby at_176) rfl (feq (show ¬ (kk = (3 : Int32)) from hn4)).2 (by decide) (by decide) ?_
            show Sp p e below T348 (mkF m 184 #[vI a, vI b, vI d, vI f, vI g, vI md, vR ar1, vR ar2, vR ar3, vR ar4, vR ar5, vI kk, vU, vU, vU, vU, vU] []) _
            refine XS.aload X348o.here hx rfl (hb hby at_184) rfl rfl ?_
            show Sp p e below T348 (mkF m 186 #[vI a, vI b, vI d, vI f, vI g, vI md, vR ar1, vR ar2, vR ar3, vR ar4, vR ar5, vI kk, vU, vU, vU, vU, vU] [(.ref ar5)]) _
            refine XS.astore X348o.here hx rfl (hb hby at_186) rfl rfl (l' := #[vI a, vI b, vI d, vI f, vI g, vI md, vR ar1, vR ar2, vR ar3, vR ar4, vR ar5, vI kk, vR ar5, vU, vU, vU, vU]) rfl ?_
            show Sp p e below T348 (mkF m 188 #[vI a, vI b, vI d, vI f, vI g, vI md, vR ar1, vR ar2, vR ar3, vR ar4, vR ar5, vI kk, vR ar5, vU, vU, vU, vU] []) _
            refine XS.iload X348o.here hx rfl (hb hby at_188) rfl ?_
            show Sp p e below T348 (mkF m 190 #[vI a, vI b, vI d, vI f, vI g, vI md, vR ar1, vR ar2, vR ar3, vR ar4, vR ar5, vI kk, vR ar5, vU, vU, vU, vU] [(.int kk)]) _
            refine XS.iconst X348o.here hx rfl (hb hby at_190) ?_
            show Sp p e below T348 (mkF m 191 #[vI a, vI b, vI d, vI f, vI g, vI md, vR ar1, vR ar2, vR ar3, vR ar4, vR ar5, vI kk, vR ar5, vU, vU, vU, vU] [(.int (5 : Int32)), (.int kk)]) _
            exact kt)
          clear S355
          by_cases hn5 : kk = (5 : Int32)
          · have S721 : Go p e below s₁ (eF_law m a b d f g md) T348 (mkF m 194 #[vI a, vI b, vI d, vI f, vI g, vI md, vR ar1, vR ar2, vR ar3, vR ar4, vR ar5, vI kk, vR ar5, vU, vU, vU, vU] []) := fun t kt => S368 t (by
              refine XS.icmpNo X348o.here hx rfl (hb hby at_191) rfl (teq (show kk = (5 : Int32) from hn5)).2 ?_
              show Sp p e below T348 (mkF m 194 #[vI a, vI b, vI d, vI f, vI g, vI md, vR ar1, vR ar2, vR ar3, vR ar4, vR ar5, vI kk, vR ar5, vU, vU, vU, vU] []) _
              exact kt)
            clear S368
            obtain ⟨x1, T722, h722, ki722, t1, kb722, X722, e722, E722, hS, hki722, hZ, hown, Es722, Fs722, Gs722, Vs722, -, -, hIB, hLit722, st722⟩ := ldcSVL X348o hx hZ hown (own_h hw 117 rfl) (fun d hd => hw d (own_wS d hd)) e348 hS (Nat.le_trans (Nat.le_trans (Nat.le_trans (Nat.le_trans (Nat.le_trans (Nat.le_trans (Nat.le_trans (Nat.le_trans (Nat.le_trans (Nat.le_trans (Nat.le_trans (Nat.le_trans (Nat.le_trans (Nat.le_trans (Nat.le_trans (Nat.le_trans (Nat.le_trans (Nat.le_trans (Nat.le_trans hki126 (Keep.of_wr W130).1) E133.1) (Keep.of_wr W153).1) (Keep.of_wr W165).1) E168.1) (Keep.of_wr W188).1) (Keep.of_wr W200).1) (Keep.of_wr W212).1) E215.1) (Keep.of_wr W237).1) (Keep.of_wr W249).1) (Keep.of_wr W261).1) (Keep.of_wr W273).1) E276.1) (Keep.of_wr W300).1) (Keep.of_wr W312).1) (Keep.of_wr W324).1) (Keep.of_wr W336).1) (Keep.of_wr W348).1) (by rw [hh, ← hn0]; exact N348o) (fun b cl q => by rw [hh]; exact O0.2.2 b cl q) hib1 own_not2 hcst2 hcw (vs := (own_vs own_t64)) (z := (64 : Int32)) own_ht64 (by decide) rfl (g := (mkF m 194 #[vI a, vI b, vI d, vI f, vI g, vI md, vR ar1, vR ar2, vR ar3, vR ar4, vR ar5, vI kk, vR ar5, vU, vU, vU, vU] [])) rfl (hb hby at_194) (n := 256) (by decide +kernel) (by decide) (by decide) (by decide)
            have S723 : Go p e below s₁ (eF_law m a b d f g md) T722 (mkF m 196 #[vI a, vI b, vI d, vI f, vI g, vI md, vR ar1, vR ar2, vR ar3, vR ar4, vR ar5, vI kk, vR ar5, vU, vU, vU, vU] [(.ref x1)]) := fun t kt => S721 t (st722 t kt)
            clear S721 st722 X348o e348
            have S724 : Go p e below s₁ (eF_law m a b d f g md) T722 (mkF m 198 #[vI a, vI b, vI d, vI f, vI g, vI md, vR ar1, vR ar2, vR ar3, vR ar4, vR ar5, vI kk, vR ar5, vR x1, vU, vU, vU] []) := fun t kt => S723 t (by
              refine XS.astore X722.here hx rfl (hb hby at_196) rfl rfl (l' := #[vI a, vI b, vI d, vI f, vI g, vI md, vR ar1, vR ar2, vR ar3, vR ar4, vR ar5, vI kk, vR ar5, vR x1, vU, vU, vU]) rfl ?_
              show Sp p e below T722 (mkF m 198 #[vI a, vI b, vI d, vI f, vI g, vI md, vR ar1, vR ar2, vR ar3, vR ar4, vR ar5, vI kk, vR ar5, vR x1, vU, vU, vU] []) _
              exact kt)
            clear S723
            have S725 : Go p e below s₁ (eF_law m a b d f g md) T722 (mkF m 200 #[vI a, vI b, vI d, vI f, vI g, vI md, vR ar1, vR ar2, vR ar3, vR ar4, vR ar5, vI kk, vR ar5, vR x1, vU, vU, vU] [(.ref x1)]) := fun t kt => S724 t (by
              refine ldcAgain X722 hx (s := s) (vm0 := T722.vm) hZ hown (own_h hw 117 rfl) (a := x1) hLit722 (g := (mkF m 198 #[vI a, vI b, vI d, vI f, vI g, vI md, vR ar1, vR ar2, vR ar3, vR ar4, vR ar5, vI kk, vR ar5, vR x1, vU, vU, vU] [])) rfl (hb hby at_198) _ ?_
              show Sp p e below T722 (mkF m 200 #[vI a, vI b, vI d, vI f, vI g, vI md, vR ar1, vR ar2, vR ar3, vR ar4, vR ar5, vI kk, vR ar5, vR x1, vU, vU, vU] [(.ref x1)]) _
              exact kt)
            clear S724
            have hcx : StrChars.Road.CodA own_t64 0 (64 : Int32) (own_vs own_t64) := own_coda rfl own_ok64
            have S726 : Go p e below s₁ (eF_law m a b d f g md) T722 (mkF m 229 #[vI a, vI b, vI d, vI f, vI g, vI md, vR ar1, vR ar2, vR ar3, vR ar4, vR ar5, vI kk, vR ar5, vR x1, vR x1, vU, vU] [(.ref x1)]) := fun t kt => S725 t (by
              refine XS.astore X722.here hx rfl (hb hby at_200) rfl rfl (l' := #[vI a, vI b, vI d, vI f, vI g, vI md, vR ar1, vR ar2, vR ar3, vR ar4, vR ar5, vI kk, vR ar5, vR x1, vR x1, vU, vU]) rfl ?_
              show Sp p e below T722 (mkF m 202 #[vI a, vI b, vI d, vI f, vI g, vI md, vR ar1, vR ar2, vR ar3, vR ar4, vR ar5, vI kk, vR ar5, vR x1, vR x1, vU, vU] []) _
              refine XS.goto X722.here hx rfl (pc0 := 202) (pc' := 227) rfl (hb hby at_202) (by decide) (by decide) ?_
              show Sp p e below T722 (mkF m 227 #[vI a, vI b, vI d, vI f, vI g, vI md, vR ar1, vR ar2, vR ar3, vR ar4, vR ar5, vI kk, vR ar5, vR x1, vR x1, vU, vU] []) _
              refine XS.aload X722.here hx rfl (hb hby at_227) rfl rfl ?_
              show Sp p e below T722 (mkF m 229 #[vI a, vI b, vI d, vI f, vI g, vI md, vR ar1, vR ar2, vR ar3, vR ar4, vR ar5, vI kk, vR ar5, vR x1, vR x1, vU, vU] [(.ref x1)]) _
              exact kt)
            clear S725
            have z727 := (Nat.le_trans (Nat.le_trans z339 (Keep.of_wr W348).1) E722.1)
            have f728 := ((f340.wr W348 g_ar5).ext E722)
            obtain ⟨v729, T729, L729, X729, hQ729, hS, hgr729, hZ, hown, st729⟩ := own_outSS hS (by rw [e722]; exact hki722) hZ hown (Jvm.RoadKit.callSS X722 hx (y := (⟨"com/example/requeue/requeue/QueueName", "of", "(Ljava/lang/String;)Lcom/example/requeue/requeue/QueueName;"⟩ : MethodName)) hown (mvT hZ (own_h hw 60 rfl)) (mvT hZ (own_h hw 61 rfl)) (mvT hZ (own_h hw 62 rfl)) (mvT hZ (own_h hw 63 rfl)) (by decide) (own_backS (W := 0) (Pv := fun _ => True) (rm_of l Z a0 hw [] x1 t1 kb722 (64 : Int32) (own_vs own_t64) own_t64 h722 n0 z727 SS f728 Es722 Fs722 Gs722 Vs722 hcx own_ok64 (by decide) (by decide)) hZ (own_h hw 63 rfl) (own_h hw 62 rfl) (by decide) (by decide) (fun _ _ => trivial)) (g := (mkF m 229 #[vI a, vI b, vI d, vI f, vI g, vI md, vR ar1, vR ar2, vR ar3, vR ar4, vR ar5, vI kk, vR ar5, vR x1, vR x1, vU, vU] [(.ref x1)])) rfl (by rw [hml]; rfl) (argsL := [(.ref x1)]) (rest := []) (lenOf pd__Ljava_lang_String__Lcom_example_requeue_requeue_QueueName_ rfl) rfl (by show 2 * 0 + _ ≤ _; exact Nat.le_of_eq rfl) (hb hby at_229) (fun _ _ => ⟨rfl, e722, (by decide : 9 + 3 ≤ _), (by decide : 539 + 21 ≤ _)⟩))
            obtain ⟨q0, rfl, N729q, K729, sz729, E729, F729⟩ := hQ729
            have N729 := Fr.app N348o N729q
            obtain ⟨Lo729, X729o, N729o⟩ := own_hl X729 N729
            have g_q0 : n0 ≤ q0 := Nat.le_trans z727 sz729
            have hki729 := Nat.le_refl T729.heap.size
            have S730 : Go p e below s₁ (eF_law m a b d f g md) T729 (mkF m 232 #[vI a, vI b, vI d, vI f, vI g, vI md, vR ar1, vR ar2, vR ar3, vR ar4, vR ar5, vI kk, vR ar5, vR x1, vR x1, vU, vU] [(.ref q0)]) := fun t kt => S726 t (st729 t kt)
            clear S726 st729 X722 e722 X729 N729
            have S731 : Go p e below s₁ (eF_law m a b d f g md) T729 (mkF m 236 #[vI a, vI b, vI d, vI f, vI g, vI md, vR ar1, vR ar2, vR ar3, vR ar4, vR ar5, vI kk, vR ar5, vR x1, vR x1, vR q0, vU] [(.ref x1)]) := fun t kt => S730 t (by
              refine XS.astore X729o.here hx rfl (hb hby at_232) rfl rfl (l' := #[vI a, vI b, vI d, vI f, vI g, vI md, vR ar1, vR ar2, vR ar3, vR ar4, vR ar5, vI kk, vR ar5, vR x1, vR x1, vR q0, vU]) rfl ?_
              show Sp p e below T729 (mkF m 234 #[vI a, vI b, vI d, vI f, vI g, vI md, vR ar1, vR ar2, vR ar3, vR ar4, vR ar5, vI kk, vR ar5, vR x1, vR x1, vR q0, vU] []) _
              refine XS.aload X729o.here hx rfl (hb hby at_234) rfl rfl ?_
              show Sp p e below T729 (mkF m 236 #[vI a, vI b, vI d, vI f, vI g, vI md, vR ar1, vR ar2, vR ar3, vR ar4, vR ar5, vI kk, vR ar5, vR x1, vR x1, vR q0, vU] [(.ref x1)]) _
              exact kt)
            clear S730
            have z732 := (Nat.le_trans z727 K729.1)
            have f733 := (f728.keep K729 all0)
            have f734 := (Es722.keep K729)
            have f735 := (Fs722.keep K729 nin0)
            have f736 := (Gs722.keep K729 nin0)
            have f737 := (Vs722.keep K729 nin0)
            obtain ⟨v738, T738, L738, X738, hQ738, hS, hgr738, hZ, hown, st738⟩ := own_outSS hS hki729 hZ hown (Jvm.RoadKit.callSS X729o hx (y := (⟨"com/example/requeue/requeue/QueueName", "of", "(Ljava/lang/String;)Lcom/example/requeue/requeue/QueueName;"⟩ : MethodName)) hown (mvT hZ (own_h hw 60 rfl)) (mvT hZ (own_h hw 61 rfl)) (mvT hZ (own_h hw 62 rfl)) (mvT hZ (own_h hw 63 rfl)) (by decide) (own_backS (W := 0) (Pv := fun _ => True) (rm_of l Z a0 hw [] x1 t1 kb722 (64 : Int32) (own_vs own_t64) own_t64 T729.heap n0 z732 SS f733 f734 f735 f736 f737 hcx own_ok64 (by decide) (by decide)) hZ (own_h hw 63 rfl) (own_h hw 62 rfl) (by decide) (by decide) (fun _ _ => trivial)) (g := (mkF m 236 #[vI a, vI b, vI d, vI f, vI g, vI md, vR ar1, vR ar2, vR ar3, vR ar4, vR ar5, vI kk, vR ar5, vR x1, vR x1, vR q0, vU] [(.ref x1)])) rfl (by rw [hml]; rfl) (argsL := [(.ref x1)]) (rest := []) (lenOf pd__Ljava_lang_String__Lcom_example_requeue_requeue_QueueName_ rfl) rfl (by show 2 * 0 + _ ≤ _; exact Nat.le_of_eq rfl) (hb hby at_236) (fun _ _ => ⟨rfl, rfl, (by decide : 12 + 3 ≤ _), (by decide : 560 + 21 ≤ _)⟩))
            obtain ⟨q1, rfl, N738q, K738, sz738, E738, F738⟩ := hQ738
            have N738 := Fr.app N729o N738q
            obtain ⟨Lo738, X738o, N738o⟩ := own_hl X738 N738
            have g_q1 : n0 ≤ q1 := Nat.le_trans z732 sz738
            have hki738 := Nat.le_refl T738.heap.size
            have S739 : Go p e below s₁ (eF_law m a b d f g md) T738 (mkF m 239 #[vI a, vI b, vI d, vI f, vI g, vI md, vR ar1, vR ar2, vR ar3, vR ar4, vR ar5, vI kk, vR ar5, vR x1, vR x1, vR q0, vU] [(.ref q1)]) := fun t kt => S731 t (st738 t kt)
            clear S731 st738 X729o X738 N738
            have S740 : Go p e below s₁ (eF_law m a b d f g md) T738 (mkF m 245 #[vI a, vI b, vI d, vI f, vI g, vI md, vR ar1, vR ar2, vR ar3, vR ar4, vR ar5, vI kk, vR ar5, vR x1, vR x1, vR q0, vR q1] [(.ref q0), (.ref x1)]) := fun t kt => S739 t (by
              refine XS.astore X738o.here hx rfl (hb hby at_239) rfl rfl (l' := #[vI a, vI b, vI d, vI f, vI g, vI md, vR ar1, vR ar2, vR ar3, vR ar4, vR ar5, vI kk, vR ar5, vR x1, vR x1, vR q0, vR q1]) rfl ?_
              show Sp p e below T738 (mkF m 241 #[vI a, vI b, vI d, vI f, vI g, vI md, vR ar1, vR ar2, vR ar3, vR ar4, vR ar5, vI kk, vR ar5, vR x1, vR x1, vR q0, vR q1] []) _
              refine XS.aload X738o.here hx rfl (hb hby at_241) rfl rfl ?_
              show Sp p e below T738 (mkF m 243 #[vI a, vI b, vI d, vI f, vI g, vI md, vR ar1, vR ar2, vR ar3, vR ar4, vR ar5, vI kk, vR ar5, vR x1, vR x1, vR q0, vR q1] [(.ref x1)]) _
              refine XS.aload X738o.here hx rfl (hb hby at_243) rfl rfl ?_
              show Sp p e below T738 (mkF m 245 #[vI a, vI b, vI d, vI f, vI g, vI md, vR ar1, vR ar2, vR ar3, vR ar4, vR ar5, vI kk, vR ar5, vR x1, vR x1, vR q0, vR q1] [(.ref q0), (.ref x1)]) _
              exact kt)
            clear S739
            have z741 := (Nat.le_trans z732 K738.1)
            have f742 := (F729.keep K738 nin0)
            have f744 := (E729.keep K738)
            obtain ⟨cq743, kq743, q743a, q743b, q743c⟩ := isOf hZ rfl f744
            obtain ⟨v743, T743, L743, X743, hQ743, st743⟩ := own_outV (X738o.virtualBack hx (y := (⟨"com/example/requeue/requeue/QueueName", "toString", "()Ljava/lang/String;"⟩ : MethodName)) (z := (⟨"com/example/requeue/requeue/QueueName", "toString", "()Ljava/lang/String;"⟩ : MethodName)) hown (mvT hZ (own_h hw 96 rfl)) (mvT hZ (own_h hw 97 rfl)) (notFace_of_selects (args := #[]) (mvT hZ (own_h hw 99 rfl))) (mvT hZ (own_h hw 99 rfl)) (mvT hZ (own_h hw 98 rfl)) (by decide) (backOf (W := 1) (rm_qts l Z a0 hw [] q0 x1 T738.heap n0 z741 f742) hZ (own_h hw 100 rfl) (own_h hw 62 rfl) (by decide) (by decide)) q743a q743c (g := (mkF m 245 #[vI a, vI b, vI d, vI f, vI g, vI md, vR ar1, vR ar2, vR ar3, vR ar4, vR ar5, vI kk, vR ar5, vR x1, vR x1, vR q0, vR q1] [(.ref q0), (.ref x1)])) rfl (by rw [hml]; rfl) (Steps.refl _) (argsL := []) (rest := [(.ref x1)]) (lenOf pd___Ljava_lang_String_ rfl) rfl (by show 2 * 0 + _ ≤ _; exact Nat.le_of_eq rfl) (hb hby at_245) (fun _ _ => ⟨rfl, rfl, (by decide : 15 + 0 ≤ _), (by decide : 581 + 0 ≤ _)⟩))
            obtain ⟨rfl, N743q, e743⟩ := hQ743
            have N743 := Fr.app N738o N743q
            obtain ⟨Lo743, X743o, N743o⟩ := own_hl X743 N743
            have S745 : Go p e below s₁ (eF_law m a b d f g md) T743 (mkF m 248 #[vI a, vI b, vI d, vI f, vI g, vI md, vR ar1, vR ar2, vR ar3, vR ar4, vR ar5, vI kk, vR ar5, vR x1, vR x1, vR q0, vR q1] [(.ref x1), (.ref x1)]) := fun t kt => S740 t (st743 t kt)
            clear S740 st743 X738o X743 N743
            have hb0 := own_hb own_ok64
            have f746 := (f734.keep K738)
            have f747 := (f736.keep K738 nin0)
            have f748 := (f735.keep K738 nin0)
            have f749 := (f737.keep K738 nin0)
            have f750 := (f733.keep K738 all0)
            obtain ⟨cq751, kq751, q751a, q751b, q751c⟩ := isOf hZ e743 f746
            obtain ⟨v751, T751, L751, X751, hQ751, st751⟩ := own_outV (Q := (fun v h' L => ((v = some (.int 1) ∧ own_t64 = own_t64) ∨ (v = some (.int 0) ∧ ¬ own_t64 = own_t64)) ∧ L = [] ∧ h' = T738.heap)) (X743o.virtualBack hx (y := (⟨"java/lang/String", "equals", "(Ljava/lang/Object;)Z"⟩ : MethodName)) (z := (⟨"java/lang/String", "equals", "(Ljava/lang/Object;)Z"⟩ : MethodName)) hown (mvT hZ (own_h hw 101 rfl)) (mvT hZ (own_h hw 102 rfl)) (notFace_of_selects (args := #[]) (mvT hZ (own_h hw 104 rfl))) (mvT hZ (own_h hw 104 rfl)) (mvT hZ (own_h hw 103 rfl)) (by decide) (StrChars.Road.eqW (W := 0) hZ heq (kI := 4) (own_h hw 7 rfl) f746 f747 f748 f749 hcx hb0 (by decide) f746 f747 f748 f749 hcx hb0 (by decide) (S_cs.ext f750.2) hcz (by decide) (by decide)) q751a q751c (g := (mkF m 248 #[vI a, vI b, vI d, vI f, vI g, vI md, vR ar1, vR ar2, vR ar3, vR ar4, vR ar5, vI kk, vR ar5, vR x1, vR x1, vR q0, vR q1] [(.ref x1), (.ref x1)])) rfl (by rw [hml]; rfl) (Steps.refl _) (argsL := [(.ref x1)]) (rest := []) (lenOf pd__Ljava_lang_Object__Z rfl) rfl (by show 2 * 0 + _ ≤ _; exact Nat.le_of_eq rfl) (hb hby at_248) (fun _ _ => ⟨rfl, e743, (by decide : 15 + 0 ≤ _), (by decide : 581 + 0 ≤ _)⟩))
            obtain ⟨hor751, rfl, e751⟩ := hQ751
            obtain rfl : v751 = some (.int 1) := by rcases hor751 with ⟨q, -⟩ | ⟨-, q⟩ <;> first | exact q | exact absurd rfl q
            have N751 := Fr.app N743o (Fr.nil n0)
            have S752 : Go p e below s₁ (eF_law m a b d f g md) T751 (mkF m 251 #[vI a, vI b, vI d, vI f, vI g, vI md, vR ar1, vR ar2, vR ar3, vR ar4, vR ar5, vI kk, vR ar5, vR x1, vR x1, vR q0, vR q1] [(.int (1 : Int32))]) := fun t kt => S745 t (st751 t kt)
            clear S745 st751 X743o e743
            have S753 : Go p e below s₁ (eF_law m a b d f g md) T751 (mkF m 258 #[vI a, vI b, vI d, vI f, vI g, vI md, vR ar1, vR ar2, vR ar3, vR ar4, vR ar5, vI kk, vR ar5, vR x1, vR x1, vR q0, vR q1] [(.ref q1), (.ref q0)]) := fun t kt => S752 t (by
              refine XS.ifNo X751.here hx rfl (hb hby at_251) rfl ((if0 _ _).trans (feq (show ¬ ((1 : Int32) = (0 : Int32)) from (by decide))).1) ?_
              show Sp p e below T751 (mkF m 254 #[vI a, vI b, vI d, vI f, vI g, vI md, vR ar1, vR ar2, vR ar3, vR ar4, vR ar5, vI kk, vR ar5, vR x1, vR x1, vR q0, vR q1] []) _
              refine XS.aload X751.here hx rfl (hb hby at_254) rfl rfl ?_
              show Sp p e below T751 (mkF m 256 #[vI a, vI b, vI d, vI f, vI g, vI md, vR ar1, vR ar2, vR ar3, vR ar4, vR ar5, vI kk, vR ar5, vR x1, vR x1, vR q0, vR q1] [(.ref q0)]) _
              refine XS.aload X751.here hx rfl (hb hby at_256) rfl rfl ?_
              show Sp p e below T751 (mkF m 258 #[vI a, vI b, vI d, vI f, vI g, vI md, vR ar1, vR ar2, vR ar3, vR ar4, vR ar5, vI kk, vR ar5, vR x1, vR x1, vR q0, vR q1] [(.ref q1), (.ref q0)]) _
              exact kt)
            clear S752
            obtain ⟨cq754, kq754, q754a, q754b, q754c⟩ := isOf hZ e751 f744
            obtain ⟨v754, T754, L754, X754, hQ754, st754⟩ := own_outV (X751.virtualBack hx (y := (⟨"com/example/requeue/requeue/QueueName", "equals", "(Ljava/lang/Object;)Z"⟩ : MethodName)) (z := (⟨"com/example/requeue/requeue/QueueName", "equals", "(Ljava/lang/Object;)Z"⟩ : MethodName)) hown (mvT hZ (own_h hw 106 rfl)) (mvT hZ (own_h hw 107 rfl)) (notFace_of_selects (args := #[]) (mvT hZ (own_h hw 109 rfl))) (mvT hZ (own_h hw 109 rfl)) (mvT hZ (own_h hw 108 rfl)) (by decide) (backOf (W := 0) (rm_qeq l Z a0 hw [] q0 q1 x1 t1 kb722 x1 t1 kb722 (64 : Int32) (own_vs own_t64) own_t64 T738.heap n0 z741 SS f750 E738 f742 F738 f746 f748 f747 f749 hcx f746 f748 f747 f749 hcx own_ok64 (by decide)) hZ (own_h hw 110 rfl) (own_h hw 62 rfl) (by decide) (by decide)) q754a q754c (g := (mkF m 258 #[vI a, vI b, vI d, vI f, vI g, vI md, vR ar1, vR ar2, vR ar3, vR ar4, vR ar5, vI kk, vR ar5, vR x1, vR x1, vR q0, vR q1] [(.ref q1), (.ref q0)])) rfl (by rw [hml]; rfl) (Steps.refl _) (argsL := [(.ref q1)]) (rest := []) (lenOf pd__Ljava_lang_Object__Z rfl) rfl (by show 2 * 0 + _ ≤ _; exact Nat.le_of_eq rfl) (hb hby at_258) (fun _ _ => ⟨rfl, e751, (by decide : 15 + 0 ≤ _), (by decide : 581 + 0 ≤ _)⟩))
            obtain ⟨rfl, N754q, e754⟩ := hQ754
            have N754 := Fr.app N751 N754q
            obtain ⟨Lo754, X754o, N754o⟩ := own_hl X754 N754
            have S755 : Go p e below s₁ (eF_law m a b d f g md) T754 (mkF m 261 #[vI a, vI b, vI d, vI f, vI g, vI md, vR ar1, vR ar2, vR ar3, vR ar4, vR ar5, vI kk, vR ar5, vR x1, vR x1, vR q0, vR q1] [(.int (1 : Int32))]) := fun t kt => S753 t (st754 t kt)
            clear S753 st754 X751 e751 X754 N754
            have S756 : Go p e below s₁ (eF_law m a b d f g md) T754 (mkF m 269 #[vI a, vI b, vI d, vI f, vI g, vI md, vR ar1, vR ar2, vR ar3, vR ar4, vR ar5, vI kk, vR ar5, vR x1, vR x1, vR q0, vR q1] [(.int (1 : Int32))]) := fun t kt => S755 t (by
              refine XS.ifNo X754o.here hx rfl (hb hby at_261) rfl ((if0 _ _).trans (feq (show ¬ ((1 : Int32) = (0 : Int32)) from (by decide))).1) ?_
              show Sp p e below T754 (mkF m 264 #[vI a, vI b, vI d, vI f, vI g, vI md, vR ar1, vR ar2, vR ar3, vR ar4, vR ar5, vI kk, vR ar5, vR x1, vR x1, vR q0, vR q1] []) _
              refine XS.iconst X754o.here hx rfl (hb hby at_264) ?_
              show Sp p e below T754 (mkF m 265 #[vI a, vI b, vI d, vI f, vI g, vI md, vR ar1, vR ar2, vR ar3, vR ar4, vR ar5, vI kk, vR ar5, vR x1, vR x1, vR q0, vR q1] [(.int (1 : Int32))]) _
              refine XS.goto X754o.here hx rfl (pc0 := 265) (pc' := 269) rfl (hb hby at_265) (by decide) (by decide) ?_
              show Sp p e below T754 (mkF m 269 #[vI a, vI b, vI d, vI f, vI g, vI md, vR ar1, vR ar2, vR ar3, vR ar4, vR ar5, vI kk, vR ar5, vR x1, vR x1, vR q0, vR q1] [(.int (1 : Int32))]) _
              exact kt)
            clear S755
            obtain ⟨fs, hr, hrun, hended, hRE⟩ := X754o.leaveW hS (n := _) (by rw [e754]; exact hki738) (v := some (.int (1 : Int32))) (fun h => by first | rfl | (rw [Bd.returns] at h; cases h))
            refine ⟨_, _, S756 _ ?_, hrun, hended, _, _, rfl, ?_, hRE.1, hRE.2.1, hRE.2.2.1, hRE.2.2.2.mono (by decide) (by decide)⟩
            · exact retN X754o hx (t := .boolean) Bd.returns (by simp) (hb hby at_269) hr
            · show Q_law Z  h0 n0 _ T754.heap _
              rw [e754]
              exact ⟨rfl, N754o⟩
          · have hokx : ∀ z ∈ ([c5_0, c5_1, c5_2, c5_3, c5_4] : List Int32), own_ok z := fun z hz => by simp only [List.mem_cons, List.not_mem_nil, or_false] at hz; rcases hz with rfl | rfl | rfl | rfl | rfl <;> assumption
            have hcx : StrChars.Road.CodA ([c5_0, c5_1, c5_2, c5_3, c5_4] : List Int32) 0 (5 : Int32) (own_vs ([c5_0, c5_1, c5_2, c5_3, c5_4] : List Int32)) := own_coda rfl hokx
            have S757 : Go p e below s₁ (eF_law m a b d f g md) T348 (mkF m 205 #[vI a, vI b, vI d, vI f, vI g, vI md, vR ar1, vR ar2, vR ar3, vR ar4, vR ar5, vI kk, vR ar5, vU, vU, vU, vU] []) := fun t kt => S368 t (by
              refine XS.icmpYes X348o.here hx rfl (pc0 := 191) (pc' := 205) rfl (hb hby at_191) rfl (feq (show ¬ (kk = (5 : Int32)) from hn5)).2 (by decide) (by decide) ?_
              show Sp p e below T348 (mkF m 205 #[vI a, vI b, vI d, vI f, vI g, vI md, vR ar1, vR ar2, vR ar3, vR ar4, vR ar5, vI kk, vR ar5, vU, vU, vU, vU] []) _
              exact kt)
            clear S368
            obtain ⟨T758, h758, X758, e758, E758, A758, D758, -, st758⟩ := newO X348o hx hZ hown (own_h hw 39 rfl) (own_h hw 7 rfl) (own_h hw 6 rfl) e348 (g := (mkF m 205 #[vI a, vI b, vI d, vI f, vI g, vI md, vR ar1, vR ar2, vR ar3, vR ar4, vR ar5, vI kk, vR ar5, vU, vU, vU, vU] [])) rfl (hb hby at_205) (by decide) (by decide)
            obtain ⟨x1, g758⟩ : ∃ z, z = h348.size := ⟨_, rfl⟩
            rw [← g758] at A758 D758 st758
            have f759 := (f341.wr W348)
            have ne760 : la ≠ x1 := by rw [g758]; exact Nat.ne_of_lt f759.lt
            have f761 := ((((((f279.ext E276).other W300 ne280).other W312 ne280).other W324 ne280).other W336 ne280).other W348 ne280)
            have ne762 : ar1 ≠ x1 := by rw [g758]; exact Nat.ne_of_lt f761.lt
            have f763 := (f344.other W348 ne282)
            have ne764 : lb ≠ x1 := by rw [g758]; exact Nat.ne_of_lt f763.lt
            have f765 := ((((((f283.ext E276).other W300 ne284).other W312 ne284).other W324 ne284).other W336 ne284).other W348 ne284)
            have ne766 : ar2 ≠ x1 := by rw [g758]; exact Nat.ne_of_lt f765.lt
            have f767 := ((((((f285.ext E276).other W300 ne286).other W312 ne286).other W324 ne286).other W336 ne286).other W348 ne286)
            have ne768 : ar3 ≠ x1 := by rw [g758]; exact Nat.ne_of_lt f767.lt
            have f769 := ((((((V273.ext E276).other W300 ne287).other W312 ne287).other W324 ne287).other W336 ne287).other W348 ne287)
            have ne770 : ar4 ≠ x1 := by rw [g758]; exact Nat.ne_of_lt f769.lt
            have ne771 : ar5 ≠ x1 := by rw [g758]; exact Nat.ne_of_lt V348.lt
            have z772 := (Nat.le_trans z339 (Keep.of_wr W348).1)
            have g_x1 : n0 ≤ x1 := Nat.le_trans z772 (Nat.le_of_eq g758.symm)
            have F_value_x1 : Fld Z h758 x1 "java/lang/String" "value" "[B" .null := D758 (Or.inr (own_h hw 9 rfl)) (ty := (.array .byte)) (by decide)
            have F_coder_x1 : Fld Z h758 x1 "java/lang/String" "coder" "B" (.int (0 : Int32)) := D758 (Or.inr (own_h hw 10 rfl)) (ty := .byte) (by decide)
            have S773 : Go p e below s₁ (eF_law m a b d f g md) T758 (mkF m 208 #[vI a, vI b, vI d, vI f, vI g, vI md, vR ar1, vR ar2, vR ar3, vR ar4, vR ar5, vI kk, vR ar5, vU, vU, vU, vU] [(.ref x1)]) := fun t kt => S757 t (st758 t kt)
            clear S757 st758 X348o e348
            have S774 : Go p e below s₁ (eF_law m a b d f g md) T758 (mkF m 211 #[vI a, vI b, vI d, vI f, vI g, vI md, vR ar1, vR ar2, vR ar3, vR ar4, vR ar5, vI kk, vR ar5, vU, vU, vU, vU] [(.ref ar5), (.ref x1), (.ref x1)]) := fun t kt => S773 t (by
              refine XS.dup X758.here hx rfl (hb hby at_208) rfl rfl ?_
              show Sp p e below T758 (mkF m 209 #[vI a, vI b, vI d, vI f, vI g, vI md, vR ar1, vR ar2, vR ar3, vR ar4, vR ar5, vI kk, vR ar5, vU, vU, vU, vU] [(.ref x1), (.ref x1)]) _
              refine XS.aload X758.here hx rfl (hb hby at_209) rfl rfl ?_
              show Sp p e below T758 (mkF m 211 #[vI a, vI b, vI d, vI f, vI g, vI md, vR ar1, vR ar2, vR ar3, vR ar4, vR ar5, vI kk, vR ar5, vU, vU, vU, vU] [(.ref ar5), (.ref x1), (.ref x1)]) _
              exact kt)
            clear S773
            have z775 := (Nat.le_trans z772 E758.1)
            have f776 := (V348.ext E758)
            have f777 := ((f340.wr W348 g_ar5).ext E758)
            obtain ⟨v778, T778, L778, X778, hQ778, st778⟩ := own_outV (X758.specialBack hx (y := (⟨"java/lang/String", "<init>", "([C)V"⟩ : MethodName)) rfl hown (mvT hZ (own_h hw 40 rfl)) (mvT hZ (own_h hw 41 rfl)) (mvT hZ (own_h hw 42 rfl)) (by decide) (StrChars.Road.backV (W := 1) hZ hws (kI := 4) (own_h hw 7 rfl) (cs := ([c5_0, c5_1, c5_2, c5_3, c5_4] : List Int32)) (bs := ([c5_0, c5_1, c5_2, c5_3, c5_4] : List Int32).map (fun c => c.toInt8.toInt32)) (n := 5) (n0 := n0) g_x1 z775 A758 F_value_x1 F_coder_x1 f776 (S_cs.ext f777.2) hcz rfl rfl (by decide) (by decide) (fun z hz => own_rng (hokx z hz)) rfl (by decide) (by decide)) (g := (mkF m 211 #[vI a, vI b, vI d, vI f, vI g, vI md, vR ar1, vR ar2, vR ar3, vR ar4, vR ar5, vI kk, vR ar5, vU, vU, vU, vU] [(.ref ar5), (.ref x1), (.ref x1)])) rfl (by rw [hml]; rfl) (Steps.refl _) (a := x1) (argsL := [(.ref ar5)]) (rest := [(.ref x1)]) (lenOf pd___C_V rfl) rfl (by show 2 * 0 + _ ≤ _; exact Nat.le_of_eq rfl) (hb hby at_211) (fun _ _ => ⟨rfl, e758, (by decide : 8 + 1 ≤ _), (by decide : 283 + 5 ≤ _)⟩))
            obtain ⟨rfl, N778q, K778, E778, F778, t1, kb778, g_t1, sz778, ntx778, G778, V778⟩ := hQ778
            have N778 := Fr.app N348o N778q
            obtain ⟨Lo778, X778o, N778o⟩ := own_hl X778 N778
            have V778' : Arv Z T778.heap t1 kb778 .byte (5 : Int32) (own_vs ([c5_0, c5_1, c5_2, c5_3, c5_4] : List Int32)) (.int (0 : Int32)) := by have q := V778; rw [List.map_map] at q; exact q
            have S779 : Go p e below s₁ (eF_law m a b d f g md) T778 (mkF m 214 #[vI a, vI b, vI d, vI f, vI g, vI md, vR ar1, vR ar2, vR ar3, vR ar4, vR ar5, vI kk, vR ar5, vU, vU, vU, vU] [(.ref x1)]) := fun t kt => S774 t (st778 t kt)
            clear S774 st778 X758 e758 X778 N778
            have S780 : Go p e below s₁ (eF_law m a b d f g md) T778 (mkF m 216 #[vI a, vI b, vI d, vI f, vI g, vI md, vR ar1, vR ar2, vR ar3, vR ar4, vR ar5, vI kk, vR ar5, vR x1, vU, vU, vU] []) := fun t kt => S779 t (by
              refine XS.astore X778o.here hx rfl (hb hby at_214) rfl rfl (l' := #[vI a, vI b, vI d, vI f, vI g, vI md, vR ar1, vR ar2, vR ar3, vR ar4, vR ar5, vI kk, vR ar5, vR x1, vU, vU, vU]) rfl ?_
              show Sp p e below T778 (mkF m 216 #[vI a, vI b, vI d, vI f, vI g, vI md, vR ar1, vR ar2, vR ar3, vR ar4, vR ar5, vI kk, vR ar5, vR x1, vU, vU, vU] []) _
              exact kt)
            clear S779
            obtain ⟨T781, h781, X781, e781, E781, A781, D781, -, st781⟩ := newO X778o hx hZ hown (own_h hw 39 rfl) (own_h hw 7 rfl) (own_h hw 6 rfl) rfl (g := (mkF m 216 #[vI a, vI b, vI d, vI f, vI g, vI md, vR ar1, vR ar2, vR ar3, vR ar4, vR ar5, vI kk, vR ar5, vR x1, vU, vU, vU] [])) rfl (hb hby at_216) (by decide) (by decide)
            obtain ⟨x2, g781⟩ : ∃ z, z = T778.heap.size := ⟨_, rfl⟩
            rw [← g781] at A781 D781 st781
            have f782 := ((f759.ext E758).keep K778)
            have ne783 : la ≠ x2 := by rw [g781]; exact Nat.ne_of_lt f782.lt
            have ne784 : x1 ≠ x2 := by rw [g781]; exact Nat.ne_of_lt E778.lt
            have f785 := ((f761.ext E758).keep K778 (ninS ne762 nin0))
            have ne786 : ar1 ≠ x2 := by rw [g781]; exact Nat.ne_of_lt f785.lt
            have f787 := ((f763.ext E758).keep K778 (ninS ne764 nin0))
            have ne788 : lb ≠ x2 := by rw [g781]; exact Nat.ne_of_lt f787.lt
            have f789 := ((f765.ext E758).keep K778 (ninS ne766 nin0))
            have ne790 : ar2 ≠ x2 := by rw [g781]; exact Nat.ne_of_lt f789.lt
            have f791 := ((f767.ext E758).keep K778 (ninS ne768 nin0))
            have ne792 : ar3 ≠ x2 := by rw [g781]; exact Nat.ne_of_lt f791.lt
            have f793 := ((f769.ext E758).keep K778 (ninS ne770 nin0))
            have ne794 : ar4 ≠ x2 := by rw [g781]; exact Nat.ne_of_lt f793.lt
            have f795 := (f776.keep K778 (ninS ne771 nin0))
            have ne796 : ar5 ≠ x2 := by rw [g781]; exact Nat.ne_of_lt f795.lt
            have ne797 : t1 ≠ x2 := by rw [g781]; exact Nat.ne_of_lt V778'.lt
            have z798 := (Nat.le_trans z775 K778.1)
            have g_x2 : n0 ≤ x2 := Nat.le_trans z798 (Nat.le_of_eq g781.symm)
            have F_value_x2 : Fld Z h781 x2 "java/lang/String" "value" "[B" .null := D781 (Or.inr (own_h hw 9 rfl)) (ty := (.array .byte)) (by decide)
            have F_coder_x2 : Fld Z h781 x2 "java/lang/String" "coder" "B" (.int (0 : Int32)) := D781 (Or.inr (own_h hw 10 rfl)) (ty := .byte) (by decide)
            have S799 : Go p e below s₁ (eF_law m a b d f g md) T781 (mkF m 219 #[vI a, vI b, vI d, vI f, vI g, vI md, vR ar1, vR ar2, vR ar3, vR ar4, vR ar5, vI kk, vR ar5, vR x1, vU, vU, vU] [(.ref x2)]) := fun t kt => S780 t (st781 t kt)
            clear S780 st781 X778o
            have S800 : Go p e below s₁ (eF_law m a b d f g md) T781 (mkF m 222 #[vI a, vI b, vI d, vI f, vI g, vI md, vR ar1, vR ar2, vR ar3, vR ar4, vR ar5, vI kk, vR ar5, vR x1, vU, vU, vU] [(.ref ar5), (.ref x2), (.ref x2)]) := fun t kt => S799 t (by
              refine XS.dup X781.here hx rfl (hb hby at_219) rfl rfl ?_
              show Sp p e below T781 (mkF m 220 #[vI a, vI b, vI d, vI f, vI g, vI md, vR ar1, vR ar2, vR ar3, vR ar4, vR ar5, vI kk, vR ar5, vR x1, vU, vU, vU] [(.ref x2), (.ref x2)]) _
              refine XS.aload X781.here hx rfl (hb hby at_220) rfl rfl ?_
              show Sp p e below T781 (mkF m 222 #[vI a, vI b, vI d, vI f, vI g, vI md, vR ar1, vR ar2, vR ar3, vR ar4, vR ar5, vI kk, vR ar5, vR x1, vU, vU, vU] [(.ref ar5), (.ref x2), (.ref x2)]) _
              exact kt)
            clear S799
            have z801 := (Nat.le_trans z798 E781.1)
            have f802 := (f795.ext E781)
            have f803 := ((f777.keep K778 (allS g_x1 all0)).ext E781)
            obtain ⟨v804, T804, L804, X804, hQ804, st804⟩ := own_outV (X781.specialBack hx (y := (⟨"java/lang/String", "<init>", "([C)V"⟩ : MethodName)) rfl hown (mvT hZ (own_h hw 40 rfl)) (mvT hZ (own_h hw 41 rfl)) (mvT hZ (own_h hw 42 rfl)) (by decide) (StrChars.Road.backV (W := 1) hZ hws (kI := 4) (own_h hw 7 rfl) (cs := ([c5_0, c5_1, c5_2, c5_3, c5_4] : List Int32)) (bs := ([c5_0, c5_1, c5_2, c5_3, c5_4] : List Int32).map (fun c => c.toInt8.toInt32)) (n := 5) (n0 := n0) g_x2 z801 A781 F_value_x2 F_coder_x2 f802 (S_cs.ext f803.2) hcz rfl rfl (by decide) (by decide) (fun z hz => own_rng (hokx z hz)) rfl (by decide) (by decide)) (g := (mkF m 222 #[vI a, vI b, vI d, vI f, vI g, vI md, vR ar1, vR ar2, vR ar3, vR ar4, vR ar5, vI kk, vR ar5, vR x1, vU, vU, vU] [(.ref ar5), (.ref x2), (.ref x2)])) rfl (by rw [hml]; rfl) (Steps.refl _) (a := x2) (argsL := [(.ref ar5)]) (rest := [(.ref x2)]) (lenOf pd___C_V rfl) rfl (by show 2 * 0 + _ ≤ _; exact Nat.le_of_eq rfl) (hb hby at_222) (fun _ _ => ⟨rfl, e781, (by decide : 10 + 1 ≤ _), (by decide : 292 + 5 ≤ _)⟩))
            obtain ⟨rfl, N804q, K804, E804, F804, t2, kb804, g_t2, sz804, ntx804, G804, V804⟩ := hQ804
            have N804 := Fr.app N778o N804q
            obtain ⟨Lo804, X804o, N804o⟩ := own_hl X804 N804
            have V804' : Arv Z T804.heap t2 kb804 .byte (5 : Int32) (own_vs ([c5_0, c5_1, c5_2, c5_3, c5_4] : List Int32)) (.int (0 : Int32)) := by have q := V804; rw [List.map_map] at q; exact q
            have S805 : Go p e below s₁ (eF_law m a b d f g md) T804 (mkF m 225 #[vI a, vI b, vI d, vI f, vI g, vI md, vR ar1, vR ar2, vR ar3, vR ar4, vR ar5, vI kk, vR ar5, vR x1, vU, vU, vU] [(.ref x2)]) := fun t kt => S800 t (st804 t kt)
            clear S800 st804 X781 e781 X804 N804
            have S806 : Go p e below s₁ (eF_law m a b d f g md) T804 (mkF m 229 #[vI a, vI b, vI d, vI f, vI g, vI md, vR ar1, vR ar2, vR ar3, vR ar4, vR ar5, vI kk, vR ar5, vR x1, vR x2, vU, vU] [(.ref x1)]) := fun t kt => S805 t (by
              refine XS.astore X804o.here hx rfl (hb hby at_225) rfl rfl (l' := #[vI a, vI b, vI d, vI f, vI g, vI md, vR ar1, vR ar2, vR ar3, vR ar4, vR ar5, vI kk, vR ar5, vR x1, vR x2, vU, vU]) rfl ?_
              show Sp p e below T804 (mkF m 227 #[vI a, vI b, vI d, vI f, vI g, vI md, vR ar1, vR ar2, vR ar3, vR ar4, vR ar5, vI kk, vR ar5, vR x1, vR x2, vU, vU] []) _
              refine XS.aload X804o.here hx rfl (hb hby at_227) rfl rfl ?_
              show Sp p e below T804 (mkF m 229 #[vI a, vI b, vI d, vI f, vI g, vI md, vR ar1, vR ar2, vR ar3, vR ar4, vR ar5, vI kk, vR ar5, vR x1, vR x2, vU, vU] [(.ref x1)]) _
              exact kt)
            clear S805
            have z807 := (Nat.le_trans z801 K804.1)
            have f808 := (f803.keep K804 (allS g_x2 all0))
            have f809 := ((E778.ext E781).keep K804)
            have f810 := ((F778.ext E781).keep K804 (ninS ne784 nin0))
            have f811 := ((G778.ext E781).keep K804 (ninS ne784 nin0))
            have f812 := ((V778'.ext E781).keep K804 (ninS ne797 nin0))
            obtain ⟨v813, T813, L813, X813, hQ813, hS, hgr813, hZ, hown, st813⟩ := own_outSS hS (Nat.le_trans (Nat.le_trans (Nat.le_trans (Nat.le_trans (Nat.le_trans (Nat.le_trans (Nat.le_trans (Nat.le_trans (Nat.le_trans (Nat.le_trans (Nat.le_trans (Nat.le_trans (Nat.le_trans (Nat.le_trans (Nat.le_trans (Nat.le_trans (Nat.le_trans (Nat.le_trans (Nat.le_trans (Nat.le_trans (Nat.le_trans (Nat.le_trans (Nat.le_trans hki126 (Keep.of_wr W130).1) E133.1) (Keep.of_wr W153).1) (Keep.of_wr W165).1) E168.1) (Keep.of_wr W188).1) (Keep.of_wr W200).1) (Keep.of_wr W212).1) E215.1) (Keep.of_wr W237).1) (Keep.of_wr W249).1) (Keep.of_wr W261).1) (Keep.of_wr W273).1) E276.1) (Keep.of_wr W300).1) (Keep.of_wr W312).1) (Keep.of_wr W324).1) (Keep.of_wr W336).1) (Keep.of_wr W348).1) E758.1) K778.1) E781.1) K804.1) hZ hown (Jvm.RoadKit.callSS X804o hx (y := (⟨"com/example/requeue/requeue/QueueName", "of", "(Ljava/lang/String;)Lcom/example/requeue/requeue/QueueName;"⟩ : MethodName)) hown (mvT hZ (own_h hw 60 rfl)) (mvT hZ (own_h hw 61 rfl)) (mvT hZ (own_h hw 62 rfl)) (mvT hZ (own_h hw 63 rfl)) (by decide) (own_backS (W := 0) (Pv := fun _ => True) (rm_of l Z a0 hw [] x1 t1 kb778 (5 : Int32) (own_vs ([c5_0, c5_1, c5_2, c5_3, c5_4] : List Int32)) ([c5_0, c5_1, c5_2, c5_3, c5_4] : List Int32) T804.heap n0 z807 SS f808 f809 f810 f811 f812 hcx hokx (Nat.le_of_ble_eq_true rfl) (by simp)) hZ (own_h hw 63 rfl) (own_h hw 62 rfl) (by decide) (by decide) (fun _ _ => trivial)) (g := (mkF m 229 #[vI a, vI b, vI d, vI f, vI g, vI md, vR ar1, vR ar2, vR ar3, vR ar4, vR ar5, vI kk, vR ar5, vR x1, vR x2, vU, vU] [(.ref x1)])) rfl (by rw [hml]; rfl) (argsL := [(.ref x1)]) (rest := []) (lenOf pd__Ljava_lang_String__Lcom_example_requeue_requeue_QueueName_ rfl) rfl (by show 2 * 0 + _ ≤ _; exact Nat.le_of_eq rfl) (hb hby at_229) (fun _ _ => ⟨rfl, rfl, (by decide : 11 + 3 ≤ _), (by decide : 297 + 21 ≤ _)⟩))
            obtain ⟨q0, rfl, N813q, K813, sz813, E813, F813⟩ := hQ813
            have N813 := Fr.app N804o N813q
            obtain ⟨Lo813, X813o, N813o⟩ := own_hl X813 N813
            have g_q0 : n0 ≤ q0 := Nat.le_trans z807 sz813
            have hki813 := Nat.le_refl T813.heap.size
            have S814 : Go p e below s₁ (eF_law m a b d f g md) T813 (mkF m 232 #[vI a, vI b, vI d, vI f, vI g, vI md, vR ar1, vR ar2, vR ar3, vR ar4, vR ar5, vI kk, vR ar5, vR x1, vR x2, vU, vU] [(.ref q0)]) := fun t kt => S806 t (st813 t kt)
            clear S806 st813 X804o X813 N813
            have S815 : Go p e below s₁ (eF_law m a b d f g md) T813 (mkF m 236 #[vI a, vI b, vI d, vI f, vI g, vI md, vR ar1, vR ar2, vR ar3, vR ar4, vR ar5, vI kk, vR ar5, vR x1, vR x2, vR q0, vU] [(.ref x2)]) := fun t kt => S814 t (by
              refine XS.astore X813o.here hx rfl (hb hby at_232) rfl rfl (l' := #[vI a, vI b, vI d, vI f, vI g, vI md, vR ar1, vR ar2, vR ar3, vR ar4, vR ar5, vI kk, vR ar5, vR x1, vR x2, vR q0, vU]) rfl ?_
              show Sp p e below T813 (mkF m 234 #[vI a, vI b, vI d, vI f, vI g, vI md, vR ar1, vR ar2, vR ar3, vR ar4, vR ar5, vI kk, vR ar5, vR x1, vR x2, vR q0, vU] []) _
              refine XS.aload X813o.here hx rfl (hb hby at_234) rfl rfl ?_
              show Sp p e below T813 (mkF m 236 #[vI a, vI b, vI d, vI f, vI g, vI md, vR ar1, vR ar2, vR ar3, vR ar4, vR ar5, vI kk, vR ar5, vR x1, vR x2, vR q0, vU] [(.ref x2)]) _
              exact kt)
            clear S814
            have z816 := (Nat.le_trans z807 K813.1)
            have f817 := (f808.keep K813 all0)
            have f818 := (E804.keep K813)
            have f819 := (F804.keep K813 nin0)
            have f820 := (G804.keep K813 nin0)
            have f821 := (V804'.keep K813 nin0)
            obtain ⟨v822, T822, L822, X822, hQ822, hS, hgr822, hZ, hown, st822⟩ := own_outSS hS hki813 hZ hown (Jvm.RoadKit.callSS X813o hx (y := (⟨"com/example/requeue/requeue/QueueName", "of", "(Ljava/lang/String;)Lcom/example/requeue/requeue/QueueName;"⟩ : MethodName)) hown (mvT hZ (own_h hw 60 rfl)) (mvT hZ (own_h hw 61 rfl)) (mvT hZ (own_h hw 62 rfl)) (mvT hZ (own_h hw 63 rfl)) (by decide) (own_backS (W := 0) (Pv := fun _ => True) (rm_of l Z a0 hw [] x2 t2 kb804 (5 : Int32) (own_vs ([c5_0, c5_1, c5_2, c5_3, c5_4] : List Int32)) ([c5_0, c5_1, c5_2, c5_3, c5_4] : List Int32) T813.heap n0 z816 SS f817 f818 f819 f820 f821 hcx hokx (Nat.le_of_ble_eq_true rfl) (by simp)) hZ (own_h hw 63 rfl) (own_h hw 62 rfl) (by decide) (by decide) (fun _ _ => trivial)) (g := (mkF m 236 #[vI a, vI b, vI d, vI f, vI g, vI md, vR ar1, vR ar2, vR ar3, vR ar4, vR ar5, vI kk, vR ar5, vR x1, vR x2, vR q0, vU] [(.ref x2)])) rfl (by rw [hml]; rfl) (argsL := [(.ref x2)]) (rest := []) (lenOf pd__Ljava_lang_String__Lcom_example_requeue_requeue_QueueName_ rfl) rfl (by show 2 * 0 + _ ≤ _; exact Nat.le_of_eq rfl) (hb hby at_236) (fun _ _ => ⟨rfl, rfl, (by decide : 14 + 3 ≤ _), (by decide : 318 + 21 ≤ _)⟩))
            obtain ⟨q1, rfl, N822q, K822, sz822, E822, F822⟩ := hQ822
            have N822 := Fr.app N813o N822q
            obtain ⟨Lo822, X822o, N822o⟩ := own_hl X822 N822
            have g_q1 : n0 ≤ q1 := Nat.le_trans z816 sz822
            have hki822 := Nat.le_refl T822.heap.size
            have S823 : Go p e below s₁ (eF_law m a b d f g md) T822 (mkF m 239 #[vI a, vI b, vI d, vI f, vI g, vI md, vR ar1, vR ar2, vR ar3, vR ar4, vR ar5, vI kk, vR ar5, vR x1, vR x2, vR q0, vU] [(.ref q1)]) := fun t kt => S815 t (st822 t kt)
            clear S815 st822 X813o X822 N822
            have S824 : Go p e below s₁ (eF_law m a b d f g md) T822 (mkF m 245 #[vI a, vI b, vI d, vI f, vI g, vI md, vR ar1, vR ar2, vR ar3, vR ar4, vR ar5, vI kk, vR ar5, vR x1, vR x2, vR q0, vR q1] [(.ref q0), (.ref x1)]) := fun t kt => S823 t (by
              refine XS.astore X822o.here hx rfl (hb hby at_239) rfl rfl (l' := #[vI a, vI b, vI d, vI f, vI g, vI md, vR ar1, vR ar2, vR ar3, vR ar4, vR ar5, vI kk, vR ar5, vR x1, vR x2, vR q0, vR q1]) rfl ?_
              show Sp p e below T822 (mkF m 241 #[vI a, vI b, vI d, vI f, vI g, vI md, vR ar1, vR ar2, vR ar3, vR ar4, vR ar5, vI kk, vR ar5, vR x1, vR x2, vR q0, vR q1] []) _
              refine XS.aload X822o.here hx rfl (hb hby at_241) rfl rfl ?_
              show Sp p e below T822 (mkF m 243 #[vI a, vI b, vI d, vI f, vI g, vI md, vR ar1, vR ar2, vR ar3, vR ar4, vR ar5, vI kk, vR ar5, vR x1, vR x2, vR q0, vR q1] [(.ref x1)]) _
              refine XS.aload X822o.here hx rfl (hb hby at_243) rfl rfl ?_
              show Sp p e below T822 (mkF m 245 #[vI a, vI b, vI d, vI f, vI g, vI md, vR ar1, vR ar2, vR ar3, vR ar4, vR ar5, vI kk, vR ar5, vR x1, vR x2, vR q0, vR q1] [(.ref q0), (.ref x1)]) _
              exact kt)
            clear S823
            have z825 := (Nat.le_trans z816 K822.1)
            have f826 := (F813.keep K822 nin0)
            have f828 := (E813.keep K822)
            obtain ⟨cq827, kq827, q827a, q827b, q827c⟩ := isOf hZ rfl f828
            obtain ⟨v827, T827, L827, X827, hQ827, st827⟩ := own_outV (X822o.virtualBack hx (y := (⟨"com/example/requeue/requeue/QueueName", "toString", "()Ljava/lang/String;"⟩ : MethodName)) (z := (⟨"com/example/requeue/requeue/QueueName", "toString", "()Ljava/lang/String;"⟩ : MethodName)) hown (mvT hZ (own_h hw 96 rfl)) (mvT hZ (own_h hw 97 rfl)) (notFace_of_selects (args := #[]) (mvT hZ (own_h hw 99 rfl))) (mvT hZ (own_h hw 99 rfl)) (mvT hZ (own_h hw 98 rfl)) (by decide) (backOf (W := 1) (rm_qts l Z a0 hw [] q0 x1 T822.heap n0 z825 f826) hZ (own_h hw 100 rfl) (own_h hw 62 rfl) (by decide) (by decide)) q827a q827c (g := (mkF m 245 #[vI a, vI b, vI d, vI f, vI g, vI md, vR ar1, vR ar2, vR ar3, vR ar4, vR ar5, vI kk, vR ar5, vR x1, vR x2, vR q0, vR q1] [(.ref q0), (.ref x1)])) rfl (by rw [hml]; rfl) (Steps.refl _) (argsL := []) (rest := [(.ref x1)]) (lenOf pd___Ljava_lang_String_ rfl) rfl (by show 2 * 0 + _ ≤ _; exact Nat.le_of_eq rfl) (hb hby at_245) (fun _ _ => ⟨rfl, rfl, (by decide : 17 + 0 ≤ _), (by decide : 339 + 0 ≤ _)⟩))
            obtain ⟨rfl, N827q, e827⟩ := hQ827
            have N827 := Fr.app N822o N827q
            obtain ⟨Lo827, X827o, N827o⟩ := own_hl X827 N827
            have S829 : Go p e below s₁ (eF_law m a b d f g md) T827 (mkF m 248 #[vI a, vI b, vI d, vI f, vI g, vI md, vR ar1, vR ar2, vR ar3, vR ar4, vR ar5, vI kk, vR ar5, vR x1, vR x2, vR q0, vR q1] [(.ref x1), (.ref x1)]) := fun t kt => S824 t (st827 t kt)
            clear S824 st827 X822o X827 N827
            have hb0 := own_hb hokx
            have f830 := ((f809.keep K813).keep K822)
            have f831 := ((f811.keep K813 nin0).keep K822 nin0)
            have f832 := ((f810.keep K813 nin0).keep K822 nin0)
            have f833 := ((f812.keep K813 nin0).keep K822 nin0)
            have f834 := (f817.keep K822 all0)
            obtain ⟨cq835, kq835, q835a, q835b, q835c⟩ := isOf hZ e827 f830
            obtain ⟨v835, T835, L835, X835, hQ835, st835⟩ := own_outV (Q := (fun v h' L => ((v = some (.int 1) ∧ ([c5_0, c5_1, c5_2, c5_3, c5_4] : List Int32) = ([c5_0, c5_1, c5_2, c5_3, c5_4] : List Int32)) ∨ (v = some (.int 0) ∧ ¬ ([c5_0, c5_1, c5_2, c5_3, c5_4] : List Int32) = ([c5_0, c5_1, c5_2, c5_3, c5_4] : List Int32))) ∧ L = [] ∧ h' = T822.heap)) (X827o.virtualBack hx (y := (⟨"java/lang/String", "equals", "(Ljava/lang/Object;)Z"⟩ : MethodName)) (z := (⟨"java/lang/String", "equals", "(Ljava/lang/Object;)Z"⟩ : MethodName)) hown (mvT hZ (own_h hw 101 rfl)) (mvT hZ (own_h hw 102 rfl)) (notFace_of_selects (args := #[]) (mvT hZ (own_h hw 104 rfl))) (mvT hZ (own_h hw 104 rfl)) (mvT hZ (own_h hw 103 rfl)) (by decide) (StrChars.Road.eqW (W := 0) hZ heq (kI := 4) (own_h hw 7 rfl) f830 f831 f832 f833 hcx hb0 (Nat.le_of_ble_eq_true rfl) f830 f831 f832 f833 hcx hb0 (Nat.le_of_ble_eq_true rfl) (S_cs.ext f834.2) hcz (by decide) (by decide)) q835a q835c (g := (mkF m 248 #[vI a, vI b, vI d, vI f, vI g, vI md, vR ar1, vR ar2, vR ar3, vR ar4, vR ar5, vI kk, vR ar5, vR x1, vR x2, vR q0, vR q1] [(.ref x1), (.ref x1)])) rfl (by rw [hml]; rfl) (Steps.refl _) (argsL := [(.ref x1)]) (rest := []) (lenOf pd__Ljava_lang_Object__Z rfl) rfl (by show 2 * 0 + _ ≤ _; exact Nat.le_of_eq rfl) (hb hby at_248) (fun _ _ => ⟨rfl, e827, (by decide : 17 + 0 ≤ _), (by decide : 339 + 0 ≤ _)⟩))
            obtain ⟨hor835, rfl, e835⟩ := hQ835
            obtain rfl : v835 = some (.int 1) := by rcases hor835 with ⟨q, -⟩ | ⟨-, q⟩ <;> first | exact q | exact absurd rfl q
            have N835 := Fr.app N827o (Fr.nil n0)
            have S836 : Go p e below s₁ (eF_law m a b d f g md) T835 (mkF m 251 #[vI a, vI b, vI d, vI f, vI g, vI md, vR ar1, vR ar2, vR ar3, vR ar4, vR ar5, vI kk, vR ar5, vR x1, vR x2, vR q0, vR q1] [(.int (1 : Int32))]) := fun t kt => S829 t (st835 t kt)
            clear S829 st835 X827o e827
            have S837 : Go p e below s₁ (eF_law m a b d f g md) T835 (mkF m 258 #[vI a, vI b, vI d, vI f, vI g, vI md, vR ar1, vR ar2, vR ar3, vR ar4, vR ar5, vI kk, vR ar5, vR x1, vR x2, vR q0, vR q1] [(.ref q1), (.ref q0)]) := fun t kt => S836 t (by
              refine XS.ifNo X835.here hx rfl (hb hby at_251) rfl ((if0 _ _).trans (feq (show ¬ ((1 : Int32) = (0 : Int32)) from (by decide))).1) ?_
              show Sp p e below T835 (mkF m 254 #[vI a, vI b, vI d, vI f, vI g, vI md, vR ar1, vR ar2, vR ar3, vR ar4, vR ar5, vI kk, vR ar5, vR x1, vR x2, vR q0, vR q1] []) _
              refine XS.aload X835.here hx rfl (hb hby at_254) rfl rfl ?_
              show Sp p e below T835 (mkF m 256 #[vI a, vI b, vI d, vI f, vI g, vI md, vR ar1, vR ar2, vR ar3, vR ar4, vR ar5, vI kk, vR ar5, vR x1, vR x2, vR q0, vR q1] [(.ref q0)]) _
              refine XS.aload X835.here hx rfl (hb hby at_256) rfl rfl ?_
              show Sp p e below T835 (mkF m 258 #[vI a, vI b, vI d, vI f, vI g, vI md, vR ar1, vR ar2, vR ar3, vR ar4, vR ar5, vI kk, vR ar5, vR x1, vR x2, vR q0, vR q1] [(.ref q1), (.ref q0)]) _
              exact kt)
            clear S836
            have f838 := (f818.keep K822)
            have f839 := (f819.keep K822 nin0)
            have f840 := (f820.keep K822 nin0)
            have f841 := (f821.keep K822 nin0)
            obtain ⟨cq842, kq842, q842a, q842b, q842c⟩ := isOf hZ e835 f828
            obtain ⟨v842, T842, L842, X842, hQ842, st842⟩ := own_outV (X835.virtualBack hx (y := (⟨"com/example/requeue/requeue/QueueName", "equals", "(Ljava/lang/Object;)Z"⟩ : MethodName)) (z := (⟨"com/example/requeue/requeue/QueueName", "equals", "(Ljava/lang/Object;)Z"⟩ : MethodName)) hown (mvT hZ (own_h hw 106 rfl)) (mvT hZ (own_h hw 107 rfl)) (notFace_of_selects (args := #[]) (mvT hZ (own_h hw 109 rfl))) (mvT hZ (own_h hw 109 rfl)) (mvT hZ (own_h hw 108 rfl)) (by decide) (backOf (W := 0) (rm_qeq l Z a0 hw [] q0 q1 x1 t1 kb778 x2 t2 kb804 (5 : Int32) (own_vs ([c5_0, c5_1, c5_2, c5_3, c5_4] : List Int32)) ([c5_0, c5_1, c5_2, c5_3, c5_4] : List Int32) T822.heap n0 z825 SS f834 E822 f826 F822 f830 f832 f831 f833 hcx f838 f839 f840 f841 hcx hokx (Nat.le_of_ble_eq_true rfl)) hZ (own_h hw 110 rfl) (own_h hw 62 rfl) (by decide) (by decide)) q842a q842c (g := (mkF m 258 #[vI a, vI b, vI d, vI f, vI g, vI md, vR ar1, vR ar2, vR ar3, vR ar4, vR ar5, vI kk, vR ar5, vR x1, vR x2, vR q0, vR q1] [(.ref q1), (.ref q0)])) rfl (by rw [hml]; rfl) (Steps.refl _) (argsL := [(.ref q1)]) (rest := []) (lenOf pd__Ljava_lang_Object__Z rfl) rfl (by show 2 * 0 + _ ≤ _; exact Nat.le_of_eq rfl) (hb hby at_258) (fun _ _ => ⟨rfl, e835, (by decide : 17 + 0 ≤ _), (by decide : 339 + 0 ≤ _)⟩))
            obtain ⟨rfl, N842q, e842⟩ := hQ842
            have N842 := Fr.app N835 N842q
            obtain ⟨Lo842, X842o, N842o⟩ := own_hl X842 N842
            have S843 : Go p e below s₁ (eF_law m a b d f g md) T842 (mkF m 261 #[vI a, vI b, vI d, vI f, vI g, vI md, vR ar1, vR ar2, vR ar3, vR ar4, vR ar5, vI kk, vR ar5, vR x1, vR x2, vR q0, vR q1] [(.int (1 : Int32))]) := fun t kt => S837 t (st842 t kt)
            clear S837 st842 X835 e835 X842 N842
            have S844 : Go p e below s₁ (eF_law m a b d f g md) T842 (mkF m 269 #[vI a, vI b, vI d, vI f, vI g, vI md, vR ar1, vR ar2, vR ar3, vR ar4, vR ar5, vI kk, vR ar5, vR x1, vR x2, vR q0, vR q1] [(.int (1 : Int32))]) := fun t kt => S843 t (by
              refine XS.ifNo X842o.here hx rfl (hb hby at_261) rfl ((if0 _ _).trans (feq (show ¬ ((1 : Int32) = (0 : Int32)) from (by decide))).1) ?_
              show Sp p e below T842 (mkF m 264 #[vI a, vI b, vI d, vI f, vI g, vI md, vR ar1, vR ar2, vR ar3, vR ar4, vR ar5, vI kk, vR ar5, vR x1, vR x2, vR q0, vR q1] []) _
              refine XS.iconst X842o.here hx rfl (hb hby at_264) ?_
              show Sp p e below T842 (mkF m 265 #[vI a, vI b, vI d, vI f, vI g, vI md, vR ar1, vR ar2, vR ar3, vR ar4, vR ar5, vI kk, vR ar5, vR x1, vR x2, vR q0, vR q1] [(.int (1 : Int32))]) _
              refine XS.goto X842o.here hx rfl (pc0 := 265) (pc' := 269) rfl (hb hby at_265) (by decide) (by decide) ?_
              show Sp p e below T842 (mkF m 269 #[vI a, vI b, vI d, vI f, vI g, vI md, vR ar1, vR ar2, vR ar3, vR ar4, vR ar5, vI kk, vR ar5, vR x1, vR x2, vR q0, vR q1] [(.int (1 : Int32))]) _
              exact kt)
            clear S843
            obtain ⟨fs, hr, hrun, hended, hRE⟩ := X842o.leaveW hS (n := _) (by rw [e842]; exact hki822) (v := some (.int (1 : Int32))) (fun h => by first | rfl | (rw [Bd.returns] at h; cases h))
            refine ⟨_, _, S844 _ ?_, hrun, hended, _, _, rfl, ?_, hRE.1, hRE.2.1, hRE.2.2.1, hRE.2.2.2.mono (by decide) (by decide)⟩
            · exact retN X842o hx (t := .boolean) Bd.returns (by simp) (hb hby at_269) hr
            · show Q_law Z  h0 n0 _ T842.heap _
              rw [e842]
              exact ⟨rfl, N842o⟩
set_option maxRecDepth 65536 in
set_option maxHeartbeats 40000000 in
theorem comes_1 {Post : Tables → Env → Array Value → State → Outcome → State → Prop} (hpost : ∀ tb e args s v u, (limb_1_1.after args s (.returned v) u = true ∧ limb_1_2.after args s (.returned v) u = true ∧ True) → ReturnedEndW s (.returned v) u (Jvm.fieldLocs frame_1_writes args s ++ Jvm.arrayLocs frame_1_arrays args s ++ Jvm.staticLocs frame_1_statics s) 40 3264 → Post tb e args s (.returned v) u) :
    ArmFor flags0 classFile x code maxLocals ret World_1 tables_1 room_1 Calls_1 rest_1 Pre_1 Post := by
  intro l hfl _ _ p e ha hc hk s m args below hf hA hF happ hP
  obtain ⟨hcalls, hrest, hpre⟩ := hP
  obtain ⟨-, -, -, hnamed, -, -, -, hat⟩ := (Spec.applies_iff hf).mp happ
  obtain ⟨hg, hn⟩ := and_e (Cond.before_iff.mp (show (Jvm.Cond.and given_1 narrow_1).before args s = true from hpre))
  obtain ⟨hcount, r0⟩ := and_e hg
  obtain ⟨v0, r1⟩ := and_e r0
  obtain ⟨v1, r2⟩ := and_e r1
  obtain ⟨v2, r3⟩ := and_e r2
  obtain ⟨v3, r4⟩ := and_e r3
  obtain ⟨v4, r5⟩ := and_e r4
  obtain ⟨w0, w1, w2, w3, w4, w5, rfl⟩ : ∃ w0 w1 w2 w3 w4 w5 : Value, args = #[w0, w1, w2, w3, w4, w5] := by
    have hs : args.size = 6 := by simpa [Cond.value, given_1] using hcount
    obtain ⟨L⟩ := args
    match L, hs with
    | [w0, w1, w2, w3, w4, w5], _ => exact ⟨w0, w1, w2, w3, w4, w5, rfl⟩
  have hw := fun d (hd : d ∈ tables_1) => atoms_spec (ws := Jvm.Cond.code x code maxLocals ret :: tables_1) hat d (List.mem_cons_of_mem _ hd)
  have hfit : Fit s := fun {y c} hc i hi => by
    obtain ⟨ha, rfl⟩ := Array.getElem?_eq_some_iff.mp hc
    have q := List.all_eq_true.mp ((Array.all_eq_true_iff_forall_mem.mp hF) _ (Array.getElem_mem ha)) i (List.mem_range.mpr hi)
    simpa [Array.getElem?_eq_getElem hi] using q
  obtain ⟨hsets, hown0⟩ := atoms_of _ (rest_1_c_eq ▸ (show rest_1_c.before _ s = true from hrest))
  have hr0 := Cond.before_iff.mp hown0
  obtain ⟨i0, ei0⟩ := is_v v0
  obtain rfl : w0 = (.int i0) := Option.some.inj ei0
  obtain ⟨i1, ei1⟩ := is_v v1
  obtain rfl : w1 = (.int i1) := Option.some.inj ei1
  obtain ⟨i2, ei2⟩ := is_v v2
  obtain rfl : w2 = (.int i2) := Option.some.inj ei2
  obtain ⟨i3, ei3⟩ := is_v v3
  obtain rfl : w3 = (.int i3) := Option.some.inj ei3
  obtain ⟨i4, ei4⟩ := is_v v4
  obtain rfl : w4 = (.int i4) := Option.some.inj ei4
  obtain ⟨i5, ei5⟩ := is_v r5
  obtain rfl : w5 = (.int i5) := Option.some.inj ei5
  obtain ⟨n, o, h1, h2, h3, _, L, rfl, ⟨rfl, N⟩, hq⟩ := rm_law l s _ hw tables_1 i0 i1 i2 i3 i4 i5 s.heap s.heap.size (Nat.le_refl _) (own_ss hsets) (Old.start s) (hcalls.1 ("com/example/requeue/requeue/QueueNameOfPinLaw", 7) (by simp [consts_1])) (hcalls.1 ("com/example/requeue/requeue/QueueNameOfPinLaw", 21) (by simp [consts_1])) (hsets _ (List.mem_of_getElem? (i := 2) rfl)) rfl p e ha hc hk s m _ below hf ((Spec.applies_iff_loose hf).mp happ).1 ⟨rfl, State.Warmed39.refl s, rfl, IB.start⟩ trivial
  refine ⟨n, _, h1, h2, h3, hpost _ _ _ _ _ _ ⟨Cond.after_iff.mpr rfl, Cond.after_iff.mpr (eq_i res_at (Term.int_eval (1)) rfl), trivial⟩ ⟨hq.1, hq.2.1, hq.2.2.1, (hq.2.2.2.sift fun y hy => Or.inr (N y hy)).mono (by decide) (by decide)⟩⟩
theorem main_1_1 : Claimed_1_1 := comes_1 fun _ _ _ _ _ _ h hF => ⟨h.1, hF⟩
theorem main_1_2 : Claimed_1_2 := comes_1 fun _ _ _ _ _ _ h hF => ⟨h.2.1, hF⟩
end Jvm.Pilot.@@N@@
namespace Jvm.Pilot.@@N@@
open Jvm Jvm.ClassFile Sem Op Lib Jvm.Free Jvm.Stand Jvm.Pilot.@@N@@.Jvm.D
/-! MADE BY PROGRAM (witnessworld.py) out of the Statement's table words and the real class files: 21 classes; the members and pool entries that the words name. The judged class is class 1, her method 2. -/
namespace start1
open Jvm.ClassFile
def u (s : String) : CpInfo := .utf8 (stringToUtf16 s)
/-- a pool by its gaps: so many unusable entries, then the entry; so many at the end -/
def gap : Nat → List CpInfo → List CpInfo
  | 0, r => r
  | n + 1, r => .unusable :: gap n r
def poolList (es : List (Nat × CpInfo)) (last : Nat) : List CpInfo := es.foldr (fun e r => gap e.1 (e.2 :: r)) (gap last [])
def pool (es : List (Nat × CpInfo)) (last : Nat) : Array CpInfo := ⟨poolList es last⟩
def fileOf (pool : Array CpInfo) (this : Nat) (attrs : Array Attribute := #[]) (ms : Array MethodInfo := #[]) (fl : Nat := 33) (sup : Nat := 0) (ifs : Array Nat := #[]) (fds : Array FieldInfo := #[]) : ClassFile where
  minorVersion := 0
  majorVersion := 65
  constantPool := pool
  accessFlags := fl
  thisClass := this
  superClass := sup
  interfaces := ifs
  fields := fds
  methods := ms
  attributes := attrs
def plain (name : String) (sup : Option ClassId) : Class where
  name := name
  kind := .ordinary
  loader := none
  accessFlags := 33
  super := sup
  interfaces := #[]
  cf := none
  fields := #[]
  methods := #[]
  instanceTypes := #[]
  staticTypes := #[]
  resolved := #[]
  callSites := []
  init := .initialized
  statics := none
  mirror := none

def pool0 : Array CpInfo := pool [(5, u "<init>"), (0, u "()V"), (1, .class_ 10), (1, u "java/lang/Object")] 113

def k0c0 : Code := { maxStack := 0, maxLocals := 1, code := object_method_1_code, exceptionTable := #[], attributes := #[] }
def k0m0 : Method := { name := "<init>", desc := "()V", sig := { parameters := [], returnType := none }, accessFlags := 1, code := some k0c0 }
/-- java/lang/Object -/
def k0 : Class := { plain "java/lang/Object" none with
  accessFlags := 33
  interfaces := #[]
  cf := some (fileOf pool0 8 #[] #[{ accessFlags := 1, nameIndex := 5, descriptorIndex := 6, attributes := #[] }] 33 0 #[] #[])
  fields := #[]
  methods := #[k0m0]
  instanceTypes := #[]
  staticTypes := #[]
  resolved := Array.replicate 124 none
  statics := none }

def pool1 : Array CpInfo := pool [(2, .class_ 4), (1, u "java/lang/Object"), (0, u "<init>"), (0, u "()V"), (0, .string 8), (0, u "abcdefghijklmnopqrstuvwxyzABCDEFGHIJKLMNOPQRSTUVWXYZ0123456789._-"), (0, .integer 2147483647), (0, .methodref 11 12), (0, .class_ 13), (0, .nameAndType 14 15), (0, u "java/lang/String"), (0, u "charAt"), (0, u "(I)C"), (0, .methodref 17 18), (0, .class_ 19), (0, .nameAndType 20 15), (0, u "com/example/requeue/requeue/QueueNameOfPinLaw"), (0, u "pick"), (0, .string 22), (0, u "bcdefghijklmnopqrstuvwxyzABCDEFGHIJKLMNOPQRSTUVWXYZ0123456789._-"), (0, .methodref 11 24), (0, .nameAndType 5 25), (0, u "([C)V"), (0, .methodref 27 28), (0, .class_ 29), (0, .nameAndType 30 31), (0, u "com/example/requeue/requeue/QueueName"), (0, u "of"), (0, u "(Ljava/lang/String;)Lcom/example/requeue/requeue/QueueName;"), (0, .methodref 27 33), (0, .nameAndType 34 35), (0, u "toString"), (0, u "()Ljava/lang/String;"), (0, .methodref 11 37), (0, .nameAndType 38 39), (0, u "equals"), (0, u "(Ljava/lang/Object;)Z"), (0, .methodref 27 37), (2, u "law"), (0, u "(IIIIII)Z")] 5

def k1m0 : Method := { name := "<init>", desc := "()V", sig := { parameters := [], returnType := none }, accessFlags := 1, code := none }
def k1c1 : Code := { maxStack := 3, maxLocals := 1, code := method_2_code, exceptionTable := #[], attributes := #[] }
def k1m1 : Method := { name := "pick", desc := "(I)C", sig := { parameters := [.int], returnType := some .char }, accessFlags := 10, code := some k1c1 }
def k1c2 : Code := { maxStack := 4, maxLocals := 17, code := code, exceptionTable := #[], attributes := #[] }
def k1m2 : Method := { name := "law", desc := "(IIIIII)Z", sig := { parameters := [.int, .int, .int, .int, .int, .int], returnType := some .boolean }, accessFlags := 9, code := some k1c2 }
/-- com/example/requeue/requeue/QueueNameOfPinLaw -/
def k1 : Class := { plain "com/example/requeue/requeue/QueueNameOfPinLaw" (some 0) with
  accessFlags := 49
  interfaces := #[]
  cf := some (fileOf pool1 17 #[] #[{ accessFlags := 1, nameIndex := 5, descriptorIndex := 6, attributes := #[] }, { accessFlags := 10, nameIndex := 20, descriptorIndex := 15, attributes := #[] }, { accessFlags := 9, nameIndex := 43, descriptorIndex := 44, attributes := #[] }] 49 2 #[] #[])
  fields := #[]
  methods := #[k1m0, k1m1, k1m2]
  instanceTypes := #[]
  staticTypes := #[]
  resolved := Array.replicate 50 none
  statics := none }

def pool2 : Array CpInfo := pool [(1, .class_ 2), (0, u "java/io/Serializable"), (0, .class_ 4), (0, u "java/lang/Object")] 2

/-- java/io/Serializable -/
def k2 : Class := { plain "java/io/Serializable" (some 0) with
  accessFlags := 1537
  interfaces := #[]
  cf := some (fileOf pool2 1 #[] #[] 1537 3 #[] #[])
  fields := #[]
  methods := #[]
  instanceTypes := #[]
  staticTypes := #[]
  resolved := Array.replicate 7 none
  statics := none }

def pool3 : Array CpInfo := pool [(1, .class_ 2), (0, u "java/lang/Comparable"), (0, .class_ 4), (0, u "java/lang/Object")] 7

/-- java/lang/Comparable -/
def k3 : Class := { plain "java/lang/Comparable" (some 0) with
  accessFlags := 1537
  interfaces := #[]
  cf := some (fileOf pool3 1 #[] #[] 1537 3 #[] #[])
  fields := #[]
  methods := #[]
  instanceTypes := #[]
  staticTypes := #[]
  resolved := Array.replicate 12 none
  statics := none }

def pool4 : Array CpInfo := pool [(2, .class_ 4), (1, u "java/lang/CharSequence"), (42, .class_ 48), (0, u "java/lang/CharSequence$1CodePointIterator"), (10, .class_ 60), (0, u "java/lang/CharSequence$1CharIterator"), (5, .class_ 67), (0, u "java/lang/Object")] 63

/-- java/lang/CharSequence -/
def k4 : Class := { plain "java/lang/CharSequence" (some 0) with
  accessFlags := 1537
  interfaces := #[]
  cf := some (fileOf pool4 2 #[.nestMembers #[47, 59]] #[] 1537 66 #[] #[])
  fields := #[]
  methods := #[]
  instanceTypes := #[]
  staticTypes := #[]
  resolved := Array.replicate 131 none
  statics := none }

def pool5 : Array CpInfo := pool [(1, .class_ 2), (0, u "java/lang/constant/Constable"), (0, .class_ 4), (0, u "java/lang/Object")] 6

/-- java/lang/constant/Constable -/
def k5 : Class := { plain "java/lang/constant/Constable" (some 0) with
  accessFlags := 1537
  interfaces := #[]
  cf := some (fileOf pool5 1 #[] #[] 1537 3 #[] #[])
  fields := #[]
  methods := #[]
  instanceTypes := #[]
  staticTypes := #[]
  resolved := Array.replicate 11 none
  statics := none }

def pool6 : Array CpInfo := pool [(1, .class_ 2), (0, u "java/lang/constant/ConstantDesc"), (0, .class_ 4), (0, u "java/lang/Object")] 32

/-- java/lang/constant/ConstantDesc -/
def k6 : Class := { plain "java/lang/constant/ConstantDesc" (some 0) with
  accessFlags := 1537
  interfaces := #[]
  cf := some (fileOf pool6 1 #[] #[] 1537 3 #[] #[])
  fields := #[]
  methods := #[]
  instanceTypes := #[]
  staticTypes := #[]
  resolved := Array.replicate 37 none
  statics := none }

def pool7 : Array CpInfo := pool [(1, .methodref 2 3), (0, .class_ 4), (0, .nameAndType 5 6), (0, u "java/lang/Object"), (0, u "<init>"), (0, u "()V"), (2, .fieldref 10 11), (0, .class_ 12), (0, .nameAndType 13 14), (0, u "java/lang/String"), (0, u "value"), (0, u "[B"), (0, .fieldref 10 16), (0, .nameAndType 17 18), (0, u "coder"), (0, u "B"), (2, u "hash"), (0, u "I"), (2, u "hashIsZero"), (0, u "Z"), (0, .methodref 10 28), (0, .nameAndType 5 29), (0, u "([CIILjava/lang/Void;)V"), (8, .fieldref 10 39), (0, .nameAndType 40 26), (0, u "COMPACT_STRINGS"), (1, .class_ 44), (1, u "java/lang/StringUTF16"), (0, u "compress"), (1, .methodref 42 48), (0, .nameAndType 49 50), (0, u "coderFromArrayLen"), (0, u "([BI)B"), (56, .class_ 109), (1, u "java/lang/StringLatin1"), (32, u "()Z"), (34, .methodref 42 178), (0, .nameAndType 45 179), (0, u "([CII)[B"), (154, u "()I"), (0, .methodref 10 336), (0, .nameAndType 17 337), (0, u "()B"), (25, u "([BI)C"), (27, u "(II)V"), (35, u "(I)C"), (64, .methodref 10 493), (0, .nameAndType 494 142), (0, u "isLatin1"), (0, .methodref 107 496), (0, .nameAndType 497 363), (0, u "charAt"), (3, u "checkIndex"), (5, u "length"), (33, .methodref 107 542), (0, .nameAndType 543 544), (0, u "equals"), (0, u "([B[B)Z"), (28, u "(Ljava/lang/Object;)Z"), (1, .class_ 576), (0, u "java/lang/CharSequence"), (22, u "CASE_INSENSITIVE_ORDER"), (0, u "Ljava/util/Comparator;"), (91, u "isEmpty"), (317, u "([C)V"), (42, .fieldref 1054 1055), (0, .class_ 1056), (0, .nameAndType 1057 1058), (0, u "jdk/internal/util/Preconditions"), (0, u "SIOOBE_FORMATTER"), (0, u "Ljava/util/function/BiFunction;"), (0, .methodref 1054 1060), (0, .nameAndType 501 1061), (0, u "(IILjava/util/function/BiFunction;)I"), (39, u "serialPersistentFields"), (0, u "[Ljava/io/ObjectStreamField;"), (0, .class_ 1104), (0, u "java/lang/String$CaseInsensitiveComparator"), (1, .class_ 1107), (0, u "java/io/Serializable"), (0, .class_ 1109), (0, u "java/lang/Comparable"), (0, .class_ 1111), (0, u "java/lang/constant/Constable"), (0, .class_ 1113), (0, u "java/lang/constant/ConstantDesc"), (2, u "serialVersionUID"), (0, u "J"), (3, u "REPL"), (0, u "C"), (2, u "LATIN1"), (1, u "UTF16")] 323

def k7m0 : Method := { name := "<init>", desc := "()V", sig := { parameters := [], returnType := none }, accessFlags := 1, code := none }
def k7c1 : Code := { maxStack := 5, maxLocals := 2, code := jdk_42_method_3_code, exceptionTable := #[], attributes := #[] }
def k7m1 : Method := { name := "<init>", desc := "([C)V", sig := { parameters := [(.array .char)], returnType := none }, accessFlags := 1, code := some k7c1 }
def k7c2 : Code := { maxStack := 2, maxLocals := 1, code := jdk_42_method_54_code, exceptionTable := #[], attributes := #[] }
def k7m2 : Method := { name := "length", desc := "()I", sig := { parameters := [], returnType := some .int }, accessFlags := 1, code := some k7c2 }
def k7c3 : Code := { maxStack := 1, maxLocals := 1, code := jdk_42_method_55_code, exceptionTable := #[], attributes := #[] }
def k7m3 : Method := { name := "isEmpty", desc := "()Z", sig := { parameters := [], returnType := some .boolean }, accessFlags := 1, code := some k7c3 }
def k7c4 : Code := { maxStack := 2, maxLocals := 2, code := jdk_42_method_56_code, exceptionTable := #[], attributes := #[] }
def k7m4 : Method := { name := "charAt", desc := "(I)C", sig := { parameters := [.int], returnType := some .char }, accessFlags := 1, code := some k7c4 }
def k7c5 : Code := { maxStack := 2, maxLocals := 3, code := jdk_42_method_66_code, exceptionTable := #[], attributes := #[] }
def k7m5 : Method := { name := "equals", desc := "(Ljava/lang/Object;)Z", sig := { parameters := [(.object "java/lang/Object")], returnType := some .boolean }, accessFlags := 1, code := some k7c5 }
def k7c6 : Code := { maxStack := 4, maxLocals := 6, code := jdk_42_method_149_code, exceptionTable := #[], attributes := #[] }
def k7m6 : Method := { name := "<init>", desc := "([CIILjava/lang/Void;)V", sig := { parameters := [(.array .char), .int, .int, (.object "java/lang/Void")], returnType := none }, accessFlags := 2, code := some k7c6 }
def k7c7 : Code := { maxStack := 1, maxLocals := 1, code := jdk_42_method_152_code, exceptionTable := #[], attributes := #[] }
def k7m7 : Method := { name := "coder", desc := "()B", sig := { parameters := [], returnType := some .byte }, accessFlags := 0, code := some k7c7 }
def k7c8 : Code := { maxStack := 1, maxLocals := 1, code := jdk_42_method_154_code, exceptionTable := #[], attributes := #[] }
def k7m8 : Method := { name := "isLatin1", desc := "()Z", sig := { parameters := [], returnType := some .boolean }, accessFlags := 0, code := some k7c8 }
def k7c9 : Code := { maxStack := 3, maxLocals := 2, code := jdk_42_method_155_code, exceptionTable := #[], attributes := #[] }
def k7m9 : Method := { name := "checkIndex", desc := "(II)V", sig := { parameters := [.int, .int], returnType := none }, accessFlags := 8, code := some k7c9 }
/-- java/lang/String -/
def k7 : Class := { plain "java/lang/String" (some 0) with
  accessFlags := 49
  interfaces := #[2, 3, 4, 5, 6]
  cf := some (fileOf pool7 10 #[.nestMembers #[1103]] #[{ accessFlags := 1, nameIndex := 5, descriptorIndex := 6, attributes := #[] }, { accessFlags := 1, nameIndex := 5, descriptorIndex := 1010, attributes := #[] }, { accessFlags := 1, nameIndex := 507, descriptorIndex := 334, attributes := #[] }, { accessFlags := 1, nameIndex := 692, descriptorIndex := 142, attributes := #[] }, { accessFlags := 1, nameIndex := 497, descriptorIndex := 427, attributes := #[] }, { accessFlags := 1, nameIndex := 543, descriptorIndex := 573, attributes := #[] }, { accessFlags := 2, nameIndex := 5, descriptorIndex := 29, attributes := #[] }, { accessFlags := 0, nameIndex := 17, descriptorIndex := 337, attributes := #[] }, { accessFlags := 0, nameIndex := 494, descriptorIndex := 142, attributes := #[] }, { accessFlags := 8, nameIndex := 501, descriptorIndex := 391, attributes := #[] }] 49 2 #[1106, 1108, 575, 1110, 1112] #[{ accessFlags := 18, nameIndex := 13, descriptorIndex := 14, attributes := #[] }, { accessFlags := 18, nameIndex := 17, descriptorIndex := 18, attributes := #[] }, { accessFlags := 2, nameIndex := 21, descriptorIndex := 22, attributes := #[] }, { accessFlags := 2, nameIndex := 25, descriptorIndex := 26, attributes := #[] }, { accessFlags := 26, nameIndex := 1116, descriptorIndex := 1117, attributes := #[] }, { accessFlags := 24, nameIndex := 40, descriptorIndex := 26, attributes := #[] }, { accessFlags := 26, nameIndex := 1101, descriptorIndex := 1102, attributes := #[] }, { accessFlags := 26, nameIndex := 1121, descriptorIndex := 1122, attributes := #[] }, { accessFlags := 25, nameIndex := 599, descriptorIndex := 600, attributes := #[] }, { accessFlags := 24, nameIndex := 1125, descriptorIndex := 18, attributes := #[] }, { accessFlags := 24, nameIndex := 1127, descriptorIndex := 18, attributes := #[] }])
  fields := #[{ name := "value", type := (.array .byte), accessFlags := 18, slot := 0, constantValue := 0 }, { name := "coder", type := .byte, accessFlags := 18, slot := 1, constantValue := 0 }, { name := "hash", type := .int, accessFlags := 2, slot := 2, constantValue := 0 }, { name := "hashIsZero", type := .boolean, accessFlags := 2, slot := 3, constantValue := 0 }, { name := "serialVersionUID", type := .long, accessFlags := 26, slot := 0, constantValue := 0 }, { name := "COMPACT_STRINGS", type := .boolean, accessFlags := 24, slot := 1, constantValue := 0 }, { name := "serialPersistentFields", type := (.array (.object "java/io/ObjectStreamField")), accessFlags := 26, slot := 2, constantValue := 0 }, { name := "REPL", type := .char, accessFlags := 26, slot := 3, constantValue := 0 }, { name := "CASE_INSENSITIVE_ORDER", type := (.object "java/util/Comparator"), accessFlags := 25, slot := 4, constantValue := 0 }, { name := "LATIN1", type := .byte, accessFlags := 24, slot := 5, constantValue := 0 }, { name := "UTF16", type := .byte, accessFlags := 24, slot := 6, constantValue := 0 }]
  methods := #[k7m0, k7m1, k7m2, k7m3, k7m4, k7m5, k7m6, k7m7, k7m8, k7m9]
  instanceTypes := #[(.array .byte), .byte, .int, .boolean]
  staticTypes := #[.long, .boolean, (.array (.object "java/io/ObjectStreamField")), .char, (.object "java/util/Comparator"), .byte, .byte]
  resolved := Array.replicate 1451 none
  statics := some 0 }

def pool8 : Array CpInfo := pool [(1, .class_ 2), (0, u "java/lang/String"), (1, .class_ 6), (1, u "java/lang/Object"), (0, u "<init>"), (0, u "()V"), (0, .methodref 1 10), (0, .nameAndType 11 12), (0, u "checkIndex"), (0, u "(II)V"), (1, .class_ 16), (1, u "java/lang/StringLatin1"), (36, u "([BI)C"), (67, u "$assertionsDisabled"), (0, u "Z"), (98, .class_ 223), (1, u "java/lang/StringLatin1$LinesSpliterator"), (28, u "charAt"), (28, u "equals"), (0, u "([B[B)Z"), (107, .class_ 391), (0, u "java/lang/StringLatin1$CharsSpliterator")] 3

def k8m0 : Method := { name := "<init>", desc := "()V", sig := { parameters := [], returnType := none }, accessFlags := 0, code := none }
def k8c1 : Code := { maxStack := 2, maxLocals := 2, code := jdk_43_method_2_code, exceptionTable := #[], attributes := #[] }
def k8m1 : Method := { name := "charAt", desc := "([BI)C", sig := { parameters := [(.array .byte), .int], returnType := some .char }, accessFlags := 9, code := some k8c1 }
def k8c2 : Code := { maxStack := 3, maxLocals := 3, code := jdk_43_method_13_code, exceptionTable := #[], attributes := #[] }
def k8m2 : Method := { name := "equals", desc := "([B[B)Z", sig := { parameters := [(.array .byte), (.array .byte)], returnType := some .boolean }, accessFlags := 9, code := some k8c2 }
/-- java/lang/StringLatin1 -/
def k8 : Class := { plain "java/lang/StringLatin1" (some 0) with
  accessFlags := 48
  interfaces := #[]
  cf := some (fileOf pool8 14 #[.nestMembers #[390, 221]] #[{ accessFlags := 0, nameIndex := 7, descriptorIndex := 8, attributes := #[] }, { accessFlags := 9, nameIndex := 252, descriptorIndex := 53, attributes := #[] }, { accessFlags := 9, nameIndex := 281, descriptorIndex := 282, attributes := #[] }] 48 4 #[] #[{ accessFlags := 4120, nameIndex := 121, descriptorIndex := 122, attributes := #[] }])
  fields := #[{ name := "$assertionsDisabled", type := .boolean, accessFlags := 4120, slot := 0, constantValue := 0 }]
  methods := #[k8m0, k8m1, k8m2]
  instanceTypes := #[]
  staticTypes := #[.boolean]
  resolved := Array.replicate 395 none
  statics := none }

def pool9 : Array CpInfo := pool [(2, .class_ 4), (1, u "java/lang/Object"), (0, u "<init>"), (0, u "()V"), (17, .class_ 26), (1, u "jdk/internal/util/Preconditions"), (6, u "checkIndex"), (21, .class_ 56), (0, u "jdk/internal/util/Preconditions$4"), (57, .class_ 115), (0, u "jdk/internal/util/Preconditions$1"), (7, u "SIOOBE_FORMATTER"), (0, u "Ljava/util/function/BiFunction;"), (0, .class_ 126), (0, u "jdk/internal/util/Preconditions$2"), (3, u "AIOOBE_FORMATTER"), (0, .class_ 132), (0, u "jdk/internal/util/Preconditions$3"), (3, u "IOOBE_FORMATTER"), (41, u "(IILjava/util/function/BiFunction;)I")] 15

def k9m0 : Method := { name := "<init>", desc := "()V", sig := { parameters := [], returnType := none }, accessFlags := 1, code := none }
def k9c1 : Code := { maxStack := 3, maxLocals := 3, code := jdk_41_method_11_code, exceptionTable := #[], attributes := #[] }
def k9m1 : Method := { name := "checkIndex", desc := "(IILjava/util/function/BiFunction;)I", sig := { parameters := [.int, .int, (.object "java/util/function/BiFunction")], returnType := some .int }, accessFlags := 9, code := some k9c1 }
/-- jdk/internal/util/Preconditions -/
def k9 : Class := { plain "jdk/internal/util/Preconditions" (some 0) with
  accessFlags := 33
  interfaces := #[]
  cf := some (fileOf pool9 24 #[.nestMembers #[55, 131, 125, 114]] #[{ accessFlags := 1, nameIndex := 5, descriptorIndex := 6, attributes := #[] }, { accessFlags := 9, nameIndex := 33, descriptorIndex := 178, attributes := #[] }] 33 2 #[] #[{ accessFlags := 25, nameIndex := 123, descriptorIndex := 124, attributes := #[] }, { accessFlags := 25, nameIndex := 130, descriptorIndex := 124, attributes := #[] }, { accessFlags := 25, nameIndex := 136, descriptorIndex := 124, attributes := #[] }])
  fields := #[{ name := "SIOOBE_FORMATTER", type := (.object "java/util/function/BiFunction"), accessFlags := 25, slot := 0, constantValue := 0 }, { name := "AIOOBE_FORMATTER", type := (.object "java/util/function/BiFunction"), accessFlags := 25, slot := 1, constantValue := 0 }, { name := "IOOBE_FORMATTER", type := (.object "java/util/function/BiFunction"), accessFlags := 25, slot := 2, constantValue := 0 }]
  methods := #[k9m0, k9m1]
  instanceTypes := #[]
  staticTypes := #[(.object "java/util/function/BiFunction"), (.object "java/util/function/BiFunction"), (.object "java/util/function/BiFunction")]
  resolved := Array.replicate 194 none
  statics := some 1 }

def pool10 : Array CpInfo := pool [(6, .class_ 8), (1, u "java/lang/Object"), (0, u "<init>"), (0, u "()V"), (1, .class_ 14), (1, u "java/lang/StringUTF16"), (31, u "$assertionsDisabled"), (0, u "Z"), (13, u "HI_BYTE_SHIFT"), (0, u "I"), (2, u "LO_BYTE_SHIFT"), (49, .methodref 12 116), (0, .nameAndType 117 118), (0, u "compress"), (0, u "([CI[BII)I"), (3, u "([CII)[B"), (138, u "coderFromArrayLen"), (0, u "([BI)B"), (106, .class_ 371), (1, u "java/lang/StringUTF16$LinesSpliterator"), (58, u "MAX_LENGTH"), (196, .class_ 628), (0, u "java/lang/StringUTF16$CodePointsSpliterator"), (0, .class_ 630), (0, u "java/lang/StringUTF16$CharsSpliterator")] 4

def k10m0 : Method := { name := "<init>", desc := "()V", sig := { parameters := [], returnType := none }, accessFlags := 0, code := none }
def k10c1 : Code := { maxStack := 2, maxLocals := 2, code := jdk_52_method_15_code, exceptionTable := #[], attributes := #[] }
def k10m1 : Method := { name := "coderFromArrayLen", desc := "([BI)B", sig := { parameters := [(.array .byte), .int], returnType := some .byte }, accessFlags := 8, code := some k10c1 }
def k10c2 : Code := { maxStack := 5, maxLocals := 6, code := jdk_52_method_16_code, exceptionTable := #[], attributes := #[] }
def k10m2 : Method := { name := "compress", desc := "([CII)[B", sig := { parameters := [(.array .char), .int, .int], returnType := some (.array .byte) }, accessFlags := 9, code := some k10c2 }
def k10c3 : Code := { maxStack := 3, maxLocals := 7, code := jdk_52_method_21_code, exceptionTable := #[], attributes := #[] }
def k10m3 : Method := { name := "compress", desc := "([CI[BII)I", sig := { parameters := [(.array .char), .int, (.array .byte), .int, .int], returnType := some .int }, accessFlags := 9, code := some k10c3 }
/-- java/lang/StringUTF16 -/
def k10 : Class := { plain "java/lang/StringUTF16" (some 0) with
  accessFlags := 48
  interfaces := #[]
  cf := some (fileOf pool10 12 #[.nestMembers #[627, 629, 369]] #[{ accessFlags := 0, nameIndex := 9, descriptorIndex := 10, attributes := #[] }, { accessFlags := 8, nameIndex := 261, descriptorIndex := 262, attributes := #[] }, { accessFlags := 9, nameIndex := 117, descriptorIndex := 122, attributes := #[] }, { accessFlags := 9, nameIndex := 117, descriptorIndex := 118, attributes := #[] }] 48 6 #[] #[{ accessFlags := 26, nameIndex := 61, descriptorIndex := 62, attributes := #[] }, { accessFlags := 26, nameIndex := 65, descriptorIndex := 62, attributes := #[] }, { accessFlags := 24, nameIndex := 430, descriptorIndex := 62, attributes := #[] }, { accessFlags := 4120, nameIndex := 46, descriptorIndex := 47, attributes := #[] }])
  fields := #[{ name := "HI_BYTE_SHIFT", type := .int, accessFlags := 26, slot := 0, constantValue := 0 }, { name := "LO_BYTE_SHIFT", type := .int, accessFlags := 26, slot := 1, constantValue := 0 }, { name := "MAX_LENGTH", type := .int, accessFlags := 24, slot := 2, constantValue := 0 }, { name := "$assertionsDisabled", type := .boolean, accessFlags := 4120, slot := 3, constantValue := 0 }]
  methods := #[k10m0, k10m1, k10m2, k10m3]
  instanceTypes := #[]
  staticTypes := #[.int, .int, .int, .boolean]
  resolved := Array.replicate 635 none
  statics := none }

def pool11 : Array CpInfo := pool [(1, .methodref 2 3), (0, .class_ 4), (0, .nameAndType 5 6), (0, u "java/lang/Object"), (0, u "<init>"), (0, u "()V"), (0, .fieldref 8 9), (0, .class_ 10), (0, .nameAndType 11 12), (0, u "com/example/requeue/requeue/QueueName"), (0, u "name"), (0, u "Ljava/lang/String;"), (0, .string 11), (0, .methodref 15 16), (0, .class_ 17), (0, .nameAndType 18 19), (0, u "java/util/Objects"), (0, u "requireNonNull"), (0, u "(Ljava/lang/Object;Ljava/lang/String;)Ljava/lang/Object;"), (0, .methodref 21 22), (0, .class_ 23), (0, .nameAndType 24 25), (0, u "java/lang/String"), (0, u "isEmpty"), (0, u "()Z"), (5, .nameAndType 5 32), (0, u "(Ljava/lang/String;)V"), (0, .methodref 21 34), (0, .nameAndType 35 36), (0, u "length"), (0, u "()I"), (0, .methodref 21 38), (0, .nameAndType 39 40), (0, u "charAt"), (0, u "(I)C"), (0, .methodref 8 42), (0, .nameAndType 43 44), (0, u "isAllowed"), (0, u "(C)Z"), (22, .methodref 8 31), (0, .methodref 21 69), (0, .nameAndType 70 71), (0, u "equals"), (0, u "(Ljava/lang/Object;)Z"), (3, u "MAX_LENGTH"), (0, u "I"), (2, u "ALLOWED_CHARACTERS"), (2, u "of"), (0, u "(Ljava/lang/String;)Lcom/example/requeue/requeue/QueueName;"), (1, u "toString"), (0, u "()Ljava/lang/String;")] 2

def k11c0 : Code := { maxStack := 2, maxLocals := 2, code := prog_12_method_1_code, exceptionTable := #[], attributes := #[] }
def k11m0 : Method := { name := "<init>", desc := "(Ljava/lang/String;)V", sig := { parameters := [(.object "java/lang/String")], returnType := none }, accessFlags := 2, code := some k11c0 }
def k11c1 : Code := { maxStack := 8, maxLocals := 2, code := prog_12_method_2_code, exceptionTable := #[], attributes := #[] }
def k11m1 : Method := { name := "of", desc := "(Ljava/lang/String;)Lcom/example/requeue/requeue/QueueName;", sig := { parameters := [(.object "java/lang/String")], returnType := some (.object "com/example/requeue/requeue/QueueName") }, accessFlags := 9, code := some k11c1 }
def k11c2 : Code := { maxStack := 2, maxLocals := 1, code := prog_12_method_3_code, exceptionTable := #[], attributes := #[] }
def k11m2 : Method := { name := "isAllowed", desc := "(C)Z", sig := { parameters := [.char], returnType := some .boolean }, accessFlags := 10, code := some k11c2 }
def k11c3 : Code := { maxStack := 1, maxLocals := 1, code := prog_12_method_4_code, exceptionTable := #[], attributes := #[] }
def k11m3 : Method := { name := "toString", desc := "()Ljava/lang/String;", sig := { parameters := [], returnType := some (.object "java/lang/String") }, accessFlags := 1, code := some k11c3 }
def k11c4 : Code := { maxStack := 2, maxLocals := 3, code := prog_12_method_5_code, exceptionTable := #[], attributes := #[] }
def k11m4 : Method := { name := "equals", desc := "(Ljava/lang/Object;)Z", sig := { parameters := [(.object "java/lang/Object")], returnType := some .boolean }, accessFlags := 1, code := some k11c4 }
/-- com/example/requeue/requeue/QueueName -/
def k11 : Class := { plain "com/example/requeue/requeue/QueueName" (some 0) with
  accessFlags := 33
  interfaces := #[]
  cf := some (fileOf pool11 8 #[] #[{ accessFlags := 2, nameIndex := 5, descriptorIndex := 32, attributes := #[] }, { accessFlags := 9, nameIndex := 82, descriptorIndex := 83, attributes := #[] }, { accessFlags := 10, nameIndex := 43, descriptorIndex := 44, attributes := #[] }, { accessFlags := 1, nameIndex := 85, descriptorIndex := 86, attributes := #[] }, { accessFlags := 1, nameIndex := 70, descriptorIndex := 71, attributes := #[] }] 33 2 #[] #[{ accessFlags := 25, nameIndex := 75, descriptorIndex := 76, attributes := #[] }, { accessFlags := 26, nameIndex := 79, descriptorIndex := 12, attributes := #[] }, { accessFlags := 18, nameIndex := 11, descriptorIndex := 12, attributes := #[] }])
  fields := #[{ name := "MAX_LENGTH", type := .int, accessFlags := 25, slot := 0, constantValue := 0 }, { name := "ALLOWED_CHARACTERS", type := (.object "java/lang/String"), accessFlags := 26, slot := 1, constantValue := 0 }, { name := "name", type := (.object "java/lang/String"), accessFlags := 18, slot := 0, constantValue := 0 }]
  methods := #[k11m0, k11m1, k11m2, k11m3, k11m4]
  instanceTypes := #[(.object "java/lang/String")]
  staticTypes := #[.int, (.object "java/lang/String")]
  resolved := Array.replicate 89 none
  statics := none }

def pool12 : Array CpInfo := pool [(2, .class_ 4), (1, u "java/lang/Object"), (0, u "<init>"), (0, u "()V"), (35, .class_ 44), (1, u "java/util/Objects"), (0, u "requireNonNull"), (48, u "(Ljava/lang/Object;Ljava/lang/String;)Ljava/lang/Object;")] 89

def k12m0 : Method := { name := "<init>", desc := "()V", sig := { parameters := [], returnType := none }, accessFlags := 2, code := none }
def k12c1 : Code := { maxStack := 3, maxLocals := 2, code := jdk_31_method_11_code, exceptionTable := #[], attributes := #[] }
def k12m1 : Method := { name := "requireNonNull", desc := "(Ljava/lang/Object;Ljava/lang/String;)Ljava/lang/Object;", sig := { parameters := [(.object "java/lang/Object"), (.object "java/lang/String")], returnType := some (.object "java/lang/Object") }, accessFlags := 9, code := some k12c1 }
/-- java/util/Objects -/
def k12 : Class := { plain "java/util/Objects" (some 0) with
  accessFlags := 49
  interfaces := #[]
  cf := some (fileOf pool12 42 #[] #[{ accessFlags := 2, nameIndex := 5, descriptorIndex := 6, attributes := #[] }, { accessFlags := 9, nameIndex := 45, descriptorIndex := 94, attributes := #[] }] 49 2 #[] #[])
  fields := #[]
  methods := #[k12m0, k12m1]
  instanceTypes := #[]
  staticTypes := #[]
  resolved := Array.replicate 184 none
  statics := none }

def pool13 : Array CpInfo := pool [(9, u "<init>"), (6, .class_ 18), (1, u "java/lang/Object"), (0, u "()V"), (1, .class_ 23), (1, u "jdk/internal/util/ArraysSupport"), (0, u "LOG2_ARRAY_LONG_INDEX_SCALE"), (0, u "I"), (2, u "U"), (0, u "Ljdk/internal/misc/Unsafe;"), (8, u "BIG_ENDIAN"), (0, u "Z"), (8, u "LOG2_BYTE_BIT_SIZE"), (4, u "LOG2_ARRAY_INT_INDEX_SCALE"), (54, u "JLA"), (0, u "Ljdk/internal/access/JavaLangAccess;"), (11, u "LOG2_ARRAY_BOOLEAN_INDEX_SCALE"), (9, u "LOG2_ARRAY_BYTE_INDEX_SCALE"), (5, u "LOG2_ARRAY_CHAR_INDEX_SCALE"), (5, u "LOG2_ARRAY_SHORT_INDEX_SCALE"), (18, u "LOG2_ARRAY_FLOAT_INDEX_SCALE"), (24, u "LOG2_ARRAY_DOUBLE_INDEX_SCALE"), (89, u "T_BOOLEAN"), (2, u "T_CHAR"), (1, u "T_FLOAT"), (1, u "T_DOUBLE"), (1, u "T_BYTE"), (1, u "T_SHORT"), (1, u "T_INT"), (1, u "T_LONG"), (1, u "SOFT_MAX_ARRAY_LENGTH")] 83

def k13m0 : Method := { name := "<init>", desc := "()V", sig := { parameters := [], returnType := none }, accessFlags := 2, code := none }
/-- jdk/internal/util/ArraysSupport -/
def k13 : Class := { plain "jdk/internal/util/ArraysSupport" (some 0) with
  accessFlags := 33
  interfaces := #[]
  cf := some (fileOf pool13 21 #[] #[{ accessFlags := 2, nameIndex := 9, descriptorIndex := 19, attributes := #[] }] 33 16 #[] #[{ accessFlags := 24, nameIndex := 28, descriptorIndex := 29, attributes := #[] }, { accessFlags := 26, nameIndex := 38, descriptorIndex := 39, attributes := #[] }, { accessFlags := 25, nameIndex := 121, descriptorIndex := 25, attributes := #[] }, { accessFlags := 25, nameIndex := 131, descriptorIndex := 25, attributes := #[] }, { accessFlags := 25, nameIndex := 137, descriptorIndex := 25, attributes := #[] }, { accessFlags := 25, nameIndex := 143, descriptorIndex := 25, attributes := #[] }, { accessFlags := 25, nameIndex := 53, descriptorIndex := 25, attributes := #[] }, { accessFlags := 25, nameIndex := 24, descriptorIndex := 25, attributes := #[] }, { accessFlags := 25, nameIndex := 162, descriptorIndex := 25, attributes := #[] }, { accessFlags := 25, nameIndex := 187, descriptorIndex := 25, attributes := #[] }, { accessFlags := 26, nameIndex := 48, descriptorIndex := 25, attributes := #[] }, { accessFlags := 25, nameIndex := 277, descriptorIndex := 25, attributes := #[] }, { accessFlags := 25, nameIndex := 280, descriptorIndex := 25, attributes := #[] }, { accessFlags := 25, nameIndex := 282, descriptorIndex := 25, attributes := #[] }, { accessFlags := 25, nameIndex := 284, descriptorIndex := 25, attributes := #[] }, { accessFlags := 25, nameIndex := 286, descriptorIndex := 25, attributes := #[] }, { accessFlags := 25, nameIndex := 288, descriptorIndex := 25, attributes := #[] }, { accessFlags := 25, nameIndex := 290, descriptorIndex := 25, attributes := #[] }, { accessFlags := 25, nameIndex := 292, descriptorIndex := 25, attributes := #[] }, { accessFlags := 26, nameIndex := 108, descriptorIndex := 109, attributes := #[] }, { accessFlags := 25, nameIndex := 294, descriptorIndex := 25, attributes := #[] }])
  fields := #[{ name := "U", type := (.object "jdk/internal/misc/Unsafe"), accessFlags := 24, slot := 0, constantValue := 0 }, { name := "BIG_ENDIAN", type := .boolean, accessFlags := 26, slot := 1, constantValue := 0 }, { name := "LOG2_ARRAY_BOOLEAN_INDEX_SCALE", type := .int, accessFlags := 25, slot := 2, constantValue := 0 }, { name := "LOG2_ARRAY_BYTE_INDEX_SCALE", type := .int, accessFlags := 25, slot := 3, constantValue := 0 }, { name := "LOG2_ARRAY_CHAR_INDEX_SCALE", type := .int, accessFlags := 25, slot := 4, constantValue := 0 }, { name := "LOG2_ARRAY_SHORT_INDEX_SCALE", type := .int, accessFlags := 25, slot := 5, constantValue := 0 }, { name := "LOG2_ARRAY_INT_INDEX_SCALE", type := .int, accessFlags := 25, slot := 6, constantValue := 0 }, { name := "LOG2_ARRAY_LONG_INDEX_SCALE", type := .int, accessFlags := 25, slot := 7, constantValue := 0 }, { name := "LOG2_ARRAY_FLOAT_INDEX_SCALE", type := .int, accessFlags := 25, slot := 8, constantValue := 0 }, { name := "LOG2_ARRAY_DOUBLE_INDEX_SCALE", type := .int, accessFlags := 25, slot := 9, constantValue := 0 }, { name := "LOG2_BYTE_BIT_SIZE", type := .int, accessFlags := 26, slot := 10, constantValue := 0 }, { name := "T_BOOLEAN", type := .int, accessFlags := 25, slot := 11, constantValue := 0 }, { name := "T_CHAR", type := .int, accessFlags := 25, slot := 12, constantValue := 0 }, { name := "T_FLOAT", type := .int, accessFlags := 25, slot := 13, constantValue := 0 }, { name := "T_DOUBLE", type := .int, accessFlags := 25, slot := 14, constantValue := 0 }, { name := "T_BYTE", type := .int, accessFlags := 25, slot := 15, constantValue := 0 }, { name := "T_SHORT", type := .int, accessFlags := 25, slot := 16, constantValue := 0 }, { name := "T_INT", type := .int, accessFlags := 25, slot := 17, constantValue := 0 }, { name := "T_LONG", type := .int, accessFlags := 25, slot := 18, constantValue := 0 }, { name := "JLA", type := (.object "jdk/internal/access/JavaLangAccess"), accessFlags := 26, slot := 19, constantValue := 0 }, { name := "SOFT_MAX_ARRAY_LENGTH", type := .int, accessFlags := 25, slot := 20, constantValue := 0 }]
  methods := #[k13m0]
  instanceTypes := #[]
  staticTypes := #[(.object "jdk/internal/misc/Unsafe"), .boolean, .int, .int, .int, .int, .int, .int, .int, .int, .int, .int, .int, .int, .int, .int, .int, .int, .int, (.object "jdk/internal/access/JavaLangAccess"), .int]
  resolved := Array.replicate 378 none
  statics := none }

def pool14 : Array CpInfo := pool [(1, u "java/lang/Cloneable"), (0, .class_ 1), (0, u "java/lang/Object"), (0, .class_ 3)] 3

/-- java/lang/Cloneable -/
def k14 : Class := { plain "java/lang/Cloneable" (some 0) with
  accessFlags := 1537
  interfaces := #[]
  cf := some (fileOf pool14 2 #[] #[] 1537 4 #[] #[])
  fields := #[]
  methods := #[]
  instanceTypes := #[]
  staticTypes := #[]
  resolved := Array.replicate 8 none
  statics := none }

/-- the primitive byte -/
def k15 : Class := { plain "byte" none with kind := .primitive 'B', accessFlags := 0x411 }
/-- [B -/
def k16 : Class := { plain "[B" (some 0) with kind := .array 15 .byte, interfaces := #[14, 2], accessFlags := 1041 }

/-- the primitive char -/
def k17 : Class := { plain "char" none with kind := .primitive 'C', accessFlags := 0x411 }
/-- [C -/
def k18 : Class := { plain "[C" (some 0) with kind := .array 17 .char, interfaces := #[14, 2], accessFlags := 1041 }

/-- the primitive int -/
def k19 : Class := { plain "int" none with kind := .primitive 'I', accessFlags := 0x411 }
/-- [I -/
def k20 : Class := { plain "[I" (some 0) with kind := .array 19 .int, interfaces := #[14, 2], accessFlags := 1041 }

def heap : Heap := #[{ cls := 7, slots := #[.long 0, .int 1, .null, .int 0, .null, .int 0, .int 0], vm := .statics 7 },
  { cls := 9, slots := #[.null, .null, .null], vm := .statics 9 }]
def classes : Array Class := #[k0, k1, k2, k3, k4, k5, k6, k7, k8, k9, k10, k11, k12, k13, k14, k15, k16, k17, k18, k19, k20]
def interned : List (Array UInt16 × Addr) := []
def slotsUsed : Nat := 10
def theMethod : MethodId := ⟨1, 2⟩
def args0 : Array Value := #[.int 5, .int 5, .int 5, .int 5, .int 5, .int 5]
def aboutOver (below : List Frame) : State where
  vm := { classes := classes, interned := interned.toArray }
  heap := heap
  slotsUsed := slotsUsed
  threads := #[{ frames := .invoking theMethod args0 :: below }]
def below0 : List Frame := [.native { method := ⟨0, 0⟩, args := #[] }]
def about1 : State := aboutOver below0
def p0 : Program := .bare "" "" ""
def e0 : Env := launch0.env 0 0 0
theorem w_frames : about1.frames = Frame.invoking theMethod args0 :: below0 := rfl
set_option maxRecDepth 65536 in
theorem w_args : argsFit about1.vm theMethod args0 = true := by decide +kernel
set_option maxRecDepth 65536 in
theorem w_heap : heapFits about1 = true := by decide +kernel
set_option maxRecDepth 65536 in
theorem w_runnable : about1.curStatus? = some .runnable := by decide +kernel
set_option maxRecDepth 65536 in
theorem w_alone : about1.alone = true := by decide +kernel
set_option maxRecDepth 65536 in
theorem w_named : about1.methodNamed? x = some theMethod := by decide +kernel
set_option maxRecDepth 65536 in
theorem w_hears : about1.hears theMethod below0 = true := by decide +kernel
set_option maxRecDepth 65536 in
theorem w_ripe : about1.ripe theMethod args0 below0 = true := by decide +kernel
theorem w_running : about1.status = .running := rfl
set_option maxRecDepth 65536 in
theorem w_room : about1.hasRoom e0.platform room_1 = true :=
  launch0.hasRoom_least _ room_1 (by decide +kernel) (by decide +kernel) (by decide +kernel) (by decide +kernel) (by decide +kernel) (by decide +kernel)
theorem allAtoms_all (ts : List Jvm.Cond) (a : Array Jvm.Value) (st : Jvm.State) : (allAtoms ts).before a st = ts.all (fun c => c.before a st) := by
  induction ts with
  | nil => rfl
  | cons c t ih =>
    show (Jvm.Cond.and c (allAtoms t)).before a st = _
    rw [Jvm.Cond.before_and, ih, List.all_cons]
def words1 : List Jvm.Cond := Jvm.Cond.code x code maxLocals ret :: tables_1
/-- a 'code' word, met by the world's own term for the bytes: nothing is compared byte by byte -/
theorem code_word {y : MethodName} {bytes : ByteArray} {mx : Nat} {rt : Option FieldType} {a : Array Value} {s : State} {m : MethodId} {meth : Method} {c : Code} (h1 : s.methodNamed? y = some m) (h2 : s.vm.method? m = some meth) (h3 : meth.code = some c) (h4 : c.code = bytes)
    (h5 : (c.maxLocals == mx && c.exceptionTable.isEmpty && decide (c.maxStack ≤ mostOperands) && decide (meth.sig.returnType = rt) && !meth.locks && decide (parseMethodDescriptor y.desc = some meth.sig)) = true) : (Jvm.Cond.code y bytes mx rt).before a s = true := by
  simp only [Bool.and_eq_true, beq_iff_eq, Bool.not_eq_true', decide_eq_true_eq] at h5
  obtain ⟨⟨⟨⟨⟨g1, g2⟩, g3⟩, g4⟩, g5⟩, g6⟩ := h5
  simp [Cond.before, Cond.holds, Cond.value, h1, h2, h3, h4, g1, g2, g3, g4, g5, g6]
def isCode : Jvm.Cond → Bool
  | .code _ _ _ _ => true
  | _ => false
theorem all_split {L : List Jvm.Cond} {P : Jvm.Cond → Bool} (h1 : L.all (fun c => isCode c || P c) = true) (h2 : ∀ c ∈ L.filter isCode, P c = true) : L.all P = true := by
  refine List.all_eq_true.mpr fun c hc => ?_
  have h := List.all_eq_true.mp h1 c hc
  rcases Bool.eq_false_or_eq_true (isCode c) with hi | hi
  · exact h2 c (List.mem_filter.mpr ⟨hc, hi⟩)
  · simpa [hi] using h
set_option maxRecDepth 65536 in
theorem w_c0 : (Jvm.Cond.code x code maxLocals ret).before args0 about1 = true := code_word (m := ⟨1, 2⟩) (meth := k1m2) (c := k1c2) (by decide +kernel) rfl rfl rfl (by decide +kernel)
set_option maxRecDepth 65536 in
theorem w_c1 : (Jvm.Cond.code ({ cls := "com/example/requeue/requeue/QueueNameOfPinLaw", name := "pick", desc := "(I)C" } : Jvm.MethodName) method_2_code (1 : Nat) (Option.some Jvm.ClassFile.FieldType.char)).before args0 about1 = true := code_word (m := ⟨1, 1⟩) (meth := k1m1) (c := k1c1) (by decide +kernel) rfl rfl rfl (by decide +kernel)
set_option maxRecDepth 65536 in
theorem w_c2 : (Jvm.Cond.code ({ cls := "java/lang/String", name := "charAt", desc := "(I)C" } : Jvm.MethodName) jdk_42_method_56_code (2 : Nat) (Option.some Jvm.ClassFile.FieldType.char)).before args0 about1 = true := code_word (m := ⟨7, 4⟩) (meth := k7m4) (c := k7c4) (by decide +kernel) rfl rfl rfl (by decide +kernel)
set_option maxRecDepth 65536 in
theorem w_c3 : (Jvm.Cond.code ({ cls := "java/lang/String", name := "isLatin1", desc := "()Z" } : Jvm.MethodName) jdk_42_method_154_code (1 : Nat) (Option.some Jvm.ClassFile.FieldType.boolean)).before args0 about1 = true := code_word (m := ⟨7, 8⟩) (meth := k7m8) (c := k7c8) (by decide +kernel) rfl rfl rfl (by decide +kernel)
set_option maxRecDepth 65536 in
theorem w_c4 : (Jvm.Cond.code ({ cls := "java/lang/StringLatin1", name := "charAt", desc := "([BI)C" } : Jvm.MethodName) jdk_43_method_2_code (2 : Nat) (Option.some Jvm.ClassFile.FieldType.char)).before args0 about1 = true := code_word (m := ⟨8, 1⟩) (meth := k8m1) (c := k8c1) (by decide +kernel) rfl rfl rfl (by decide +kernel)
set_option maxRecDepth 65536 in
theorem w_c5 : (Jvm.Cond.code ({ cls := "java/lang/String", name := "checkIndex", desc := "(II)V" } : Jvm.MethodName) jdk_42_method_155_code (2 : Nat) (Option.none : Option Jvm.ClassFile.FieldType)).before args0 about1 = true := code_word (m := ⟨7, 9⟩) (meth := k7m9) (c := k7c9) (by decide +kernel) rfl rfl rfl (by decide +kernel)
set_option maxRecDepth 65536 in
theorem w_c6 : (Jvm.Cond.code ({ cls := "jdk/internal/util/Preconditions", name := "checkIndex", desc := "(IILjava/util/function/BiFunction;)I" } : Jvm.MethodName) jdk_41_method_11_code (3 : Nat) (Option.some Jvm.ClassFile.FieldType.int)).before args0 about1 = true := code_word (m := ⟨9, 1⟩) (meth := k9m1) (c := k9c1) (by decide +kernel) rfl rfl rfl (by decide +kernel)
set_option maxRecDepth 65536 in
theorem w_c7 : (Jvm.Cond.code ({ cls := "java/lang/String", name := "<init>", desc := "([C)V" } : Jvm.MethodName) jdk_42_method_3_code (2 : Nat) (Option.none : Option Jvm.ClassFile.FieldType)).before args0 about1 = true := code_word (m := ⟨7, 1⟩) (meth := k7m1) (c := k7c1) (by decide +kernel) rfl rfl rfl (by decide +kernel)
set_option maxRecDepth 65536 in
theorem w_c8 : (Jvm.Cond.code ({ cls := "java/lang/String", name := "<init>", desc := "([CIILjava/lang/Void;)V" } : Jvm.MethodName) jdk_42_method_149_code (6 : Nat) (Option.none : Option Jvm.ClassFile.FieldType)).before args0 about1 = true := code_word (m := ⟨7, 6⟩) (meth := k7m6) (c := k7c6) (by decide +kernel) rfl rfl rfl (by decide +kernel)
set_option maxRecDepth 65536 in
theorem w_c9 : (Jvm.Cond.code ({ cls := "java/lang/Object", name := "<init>", desc := "()V" } : Jvm.MethodName) object_method_1_code (1 : Nat) (Option.none : Option Jvm.ClassFile.FieldType)).before args0 about1 = true := code_word (m := ⟨0, 0⟩) (meth := k0m0) (c := k0c0) (by decide +kernel) rfl rfl rfl (by decide +kernel)
set_option maxRecDepth 65536 in
theorem w_c10 : (Jvm.Cond.code ({ cls := "java/lang/StringUTF16", name := "compress", desc := "([CII)[B" } : Jvm.MethodName) jdk_52_method_16_code (6 : Nat) (Option.some (Jvm.ClassFile.FieldType.array Jvm.ClassFile.FieldType.byte))).before args0 about1 = true := code_word (m := ⟨10, 2⟩) (meth := k10m2) (c := k10c2) (by decide +kernel) rfl rfl rfl (by decide +kernel)
set_option maxRecDepth 65536 in
theorem w_c11 : (Jvm.Cond.code ({ cls := "java/lang/StringUTF16", name := "compress", desc := "([CI[BII)I" } : Jvm.MethodName) jdk_52_method_21_code (7 : Nat) (Option.some Jvm.ClassFile.FieldType.int)).before args0 about1 = true := code_word (m := ⟨10, 3⟩) (meth := k10m3) (c := k10c3) (by decide +kernel) rfl rfl rfl (by decide +kernel)
set_option maxRecDepth 65536 in
theorem w_c12 : (Jvm.Cond.code ({ cls := "java/lang/StringUTF16", name := "coderFromArrayLen", desc := "([BI)B" } : Jvm.MethodName) jdk_52_method_15_code (2 : Nat) (Option.some Jvm.ClassFile.FieldType.byte)).before args0 about1 = true := code_word (m := ⟨10, 1⟩) (meth := k10m1) (c := k10c1) (by decide +kernel) rfl rfl rfl (by decide +kernel)
set_option maxRecDepth 65536 in
theorem w_c13 : (Jvm.Cond.code ({ cls := "com/example/requeue/requeue/QueueName", name := "of", desc := "(Ljava/lang/String;)Lcom/example/requeue/requeue/QueueName;" } : Jvm.MethodName) prog_12_method_2_code (2 : Nat) (Option.some (Jvm.ClassFile.FieldType.object "com/example/requeue/requeue/QueueName"))).before args0 about1 = true := code_word (m := ⟨11, 1⟩) (meth := k11m1) (c := k11c1) (by decide +kernel) rfl rfl rfl (by decide +kernel)
set_option maxRecDepth 65536 in
theorem w_c14 : (Jvm.Cond.code ({ cls := "java/util/Objects", name := "requireNonNull", desc := "(Ljava/lang/Object;Ljava/lang/String;)Ljava/lang/Object;" } : Jvm.MethodName) jdk_31_method_11_code (2 : Nat) (Option.some (Jvm.ClassFile.FieldType.object "java/lang/Object"))).before args0 about1 = true := code_word (m := ⟨12, 1⟩) (meth := k12m1) (c := k12c1) (by decide +kernel) rfl rfl rfl (by decide +kernel)
set_option maxRecDepth 65536 in
theorem w_c15 : (Jvm.Cond.code ({ cls := "java/lang/String", name := "isEmpty", desc := "()Z" } : Jvm.MethodName) jdk_42_method_55_code (1 : Nat) (Option.some Jvm.ClassFile.FieldType.boolean)).before args0 about1 = true := code_word (m := ⟨7, 3⟩) (meth := k7m3) (c := k7c3) (by decide +kernel) rfl rfl rfl (by decide +kernel)
set_option maxRecDepth 65536 in
theorem w_c16 : (Jvm.Cond.code ({ cls := "java/lang/String", name := "length", desc := "()I" } : Jvm.MethodName) jdk_42_method_54_code (1 : Nat) (Option.some Jvm.ClassFile.FieldType.int)).before args0 about1 = true := code_word (m := ⟨7, 2⟩) (meth := k7m2) (c := k7c2) (by decide +kernel) rfl rfl rfl (by decide +kernel)
set_option maxRecDepth 65536 in
theorem w_c17 : (Jvm.Cond.code ({ cls := "java/lang/String", name := "coder", desc := "()B" } : Jvm.MethodName) jdk_42_method_152_code (1 : Nat) (Option.some Jvm.ClassFile.FieldType.byte)).before args0 about1 = true := code_word (m := ⟨7, 7⟩) (meth := k7m7) (c := k7c7) (by decide +kernel) rfl rfl rfl (by decide +kernel)
set_option maxRecDepth 65536 in
theorem w_c18 : (Jvm.Cond.code ({ cls := "com/example/requeue/requeue/QueueName", name := "isAllowed", desc := "(C)Z" } : Jvm.MethodName) prog_12_method_3_code (1 : Nat) (Option.some Jvm.ClassFile.FieldType.boolean)).before args0 about1 = true := code_word (m := ⟨11, 2⟩) (meth := k11m2) (c := k11c2) (by decide +kernel) rfl rfl rfl (by decide +kernel)
set_option maxRecDepth 65536 in
theorem w_c19 : (Jvm.Cond.code ({ cls := "com/example/requeue/requeue/QueueName", name := "<init>", desc := "(Ljava/lang/String;)V" } : Jvm.MethodName) prog_12_method_1_code (2 : Nat) (Option.none : Option Jvm.ClassFile.FieldType)).before args0 about1 = true := code_word (m := ⟨11, 0⟩) (meth := k11m0) (c := k11c0) (by decide +kernel) rfl rfl rfl (by decide +kernel)
set_option maxRecDepth 65536 in
theorem w_c20 : (Jvm.Cond.code ({ cls := "com/example/requeue/requeue/QueueName", name := "toString", desc := "()Ljava/lang/String;" } : Jvm.MethodName) prog_12_method_4_code (1 : Nat) (Option.some (Jvm.ClassFile.FieldType.object "java/lang/String"))).before args0 about1 = true := code_word (m := ⟨11, 3⟩) (meth := k11m3) (c := k11c3) (by decide +kernel) rfl rfl rfl (by decide +kernel)
set_option maxRecDepth 65536 in
theorem w_c21 : (Jvm.Cond.code ({ cls := "java/lang/String", name := "equals", desc := "(Ljava/lang/Object;)Z" } : Jvm.MethodName) jdk_42_method_66_code (3 : Nat) (Option.some Jvm.ClassFile.FieldType.boolean)).before args0 about1 = true := code_word (m := ⟨7, 5⟩) (meth := k7m5) (c := k7c5) (by decide +kernel) rfl rfl rfl (by decide +kernel)
set_option maxRecDepth 65536 in
theorem w_c22 : (Jvm.Cond.code ({ cls := "com/example/requeue/requeue/QueueName", name := "equals", desc := "(Ljava/lang/Object;)Z" } : Jvm.MethodName) prog_12_method_5_code (3 : Nat) (Option.some Jvm.ClassFile.FieldType.boolean)).before args0 about1 = true := code_word (m := ⟨11, 4⟩) (meth := k11m4) (c := k11c4) (by decide +kernel) rfl rfl rfl (by decide +kernel)
set_option maxRecDepth 65536 in
theorem w_c23 : (Jvm.Cond.code ({ cls := "java/lang/StringLatin1", name := "equals", desc := "([B[B)Z" } : Jvm.MethodName) jdk_43_method_13_code (3 : Nat) (Option.some Jvm.ClassFile.FieldType.boolean)).before args0 about1 = true := code_word (m := ⟨8, 2⟩) (meth := k8m2) (c := k8c2) (by decide +kernel) rfl rfl rfl (by decide +kernel)
def codes1 : List Jvm.Cond := [Jvm.Cond.code x code maxLocals ret, Jvm.Cond.code ({ cls := "com/example/requeue/requeue/QueueNameOfPinLaw", name := "pick", desc := "(I)C" } : Jvm.MethodName) method_2_code (1 : Nat) (Option.some Jvm.ClassFile.FieldType.char), Jvm.Cond.code ({ cls := "java/lang/String", name := "charAt", desc := "(I)C" } : Jvm.MethodName) jdk_42_method_56_code (2 : Nat) (Option.some Jvm.ClassFile.FieldType.char), Jvm.Cond.code ({ cls := "java/lang/String", name := "isLatin1", desc := "()Z" } : Jvm.MethodName) jdk_42_method_154_code (1 : Nat) (Option.some Jvm.ClassFile.FieldType.boolean), Jvm.Cond.code ({ cls := "java/lang/StringLatin1", name := "charAt", desc := "([BI)C" } : Jvm.MethodName) jdk_43_method_2_code (2 : Nat) (Option.some Jvm.ClassFile.FieldType.char), Jvm.Cond.code ({ cls := "java/lang/String", name := "checkIndex", desc := "(II)V" } : Jvm.MethodName) jdk_42_method_155_code (2 : Nat) (Option.none : Option Jvm.ClassFile.FieldType), Jvm.Cond.code ({ cls := "jdk/internal/util/Preconditions", name := "checkIndex", desc := "(IILjava/util/function/BiFunction;)I" } : Jvm.MethodName) jdk_41_method_11_code (3 : Nat) (Option.some Jvm.ClassFile.FieldType.int), Jvm.Cond.code ({ cls := "java/lang/String", name := "<init>", desc := "([C)V" } : Jvm.MethodName) jdk_42_method_3_code (2 : Nat) (Option.none : Option Jvm.ClassFile.FieldType), Jvm.Cond.code ({ cls := "java/lang/String", name := "<init>", desc := "([CIILjava/lang/Void;)V" } : Jvm.MethodName) jdk_42_method_149_code (6 : Nat) (Option.none : Option Jvm.ClassFile.FieldType), Jvm.Cond.code ({ cls := "java/lang/Object", name := "<init>", desc := "()V" } : Jvm.MethodName) object_method_1_code (1 : Nat) (Option.none : Option Jvm.ClassFile.FieldType), Jvm.Cond.code ({ cls := "java/lang/StringUTF16", name := "compress", desc := "([CII)[B" } : Jvm.MethodName) jdk_52_method_16_code (6 : Nat) (Option.some (Jvm.ClassFile.FieldType.array Jvm.ClassFile.FieldType.byte)), Jvm.Cond.code ({ cls := "java/lang/StringUTF16", name := "compress", desc := "([CI[BII)I" } : Jvm.MethodName) jdk_52_method_21_code (7 : Nat) (Option.some Jvm.ClassFile.FieldType.int), Jvm.Cond.code ({ cls := "java/lang/StringUTF16", name := "coderFromArrayLen", desc := "([BI)B" } : Jvm.MethodName) jdk_52_method_15_code (2 : Nat) (Option.some Jvm.ClassFile.FieldType.byte), Jvm.Cond.code ({ cls := "com/example/requeue/requeue/QueueName", name := "of", desc := "(Ljava/lang/String;)Lcom/example/requeue/requeue/QueueName;" } : Jvm.MethodName) prog_12_method_2_code (2 : Nat) (Option.some (Jvm.ClassFile.FieldType.object "com/example/requeue/requeue/QueueName")), Jvm.Cond.code ({ cls := "java/util/Objects", name := "requireNonNull", desc := "(Ljava/lang/Object;Ljava/lang/String;)Ljava/lang/Object;" } : Jvm.MethodName) jdk_31_method_11_code (2 : Nat) (Option.some (Jvm.ClassFile.FieldType.object "java/lang/Object")), Jvm.Cond.code ({ cls := "java/lang/String", name := "isEmpty", desc := "()Z" } : Jvm.MethodName) jdk_42_method_55_code (1 : Nat) (Option.some Jvm.ClassFile.FieldType.boolean), Jvm.Cond.code ({ cls := "java/lang/String", name := "length", desc := "()I" } : Jvm.MethodName) jdk_42_method_54_code (1 : Nat) (Option.some Jvm.ClassFile.FieldType.int), Jvm.Cond.code ({ cls := "java/lang/String", name := "coder", desc := "()B" } : Jvm.MethodName) jdk_42_method_152_code (1 : Nat) (Option.some Jvm.ClassFile.FieldType.byte), Jvm.Cond.code ({ cls := "com/example/requeue/requeue/QueueName", name := "isAllowed", desc := "(C)Z" } : Jvm.MethodName) prog_12_method_3_code (1 : Nat) (Option.some Jvm.ClassFile.FieldType.boolean), Jvm.Cond.code ({ cls := "com/example/requeue/requeue/QueueName", name := "<init>", desc := "(Ljava/lang/String;)V" } : Jvm.MethodName) prog_12_method_1_code (2 : Nat) (Option.none : Option Jvm.ClassFile.FieldType), Jvm.Cond.code ({ cls := "com/example/requeue/requeue/QueueName", name := "toString", desc := "()Ljava/lang/String;" } : Jvm.MethodName) prog_12_method_4_code (1 : Nat) (Option.some (Jvm.ClassFile.FieldType.object "java/lang/String")), Jvm.Cond.code ({ cls := "java/lang/String", name := "equals", desc := "(Ljava/lang/Object;)Z" } : Jvm.MethodName) jdk_42_method_66_code (3 : Nat) (Option.some Jvm.ClassFile.FieldType.boolean), Jvm.Cond.code ({ cls := "com/example/requeue/requeue/QueueName", name := "equals", desc := "(Ljava/lang/Object;)Z" } : Jvm.MethodName) prog_12_method_5_code (3 : Nat) (Option.some Jvm.ClassFile.FieldType.boolean), Jvm.Cond.code ({ cls := "java/lang/StringLatin1", name := "equals", desc := "([B[B)Z" } : Jvm.MethodName) jdk_43_method_13_code (3 : Nat) (Option.some Jvm.ClassFile.FieldType.boolean)]
set_option maxRecDepth 65536 in
theorem codes_eq : words1.filter isCode = codes1 := rfl
theorem w_codes : ∀ c ∈ words1.filter isCode, c.before args0 about1 = true := by
  rw [codes_eq]
  intro c hc
  simp only [codes1, List.mem_cons, List.not_mem_nil, or_false] at hc
  rcases hc with rfl | rfl | rfl | rfl | rfl | rfl | rfl | rfl | rfl | rfl | rfl | rfl | rfl | rfl | rfl | rfl | rfl | rfl | rfl | rfl | rfl | rfl | rfl | rfl
  · exact w_c0
  · exact w_c1
  · exact w_c2
  · exact w_c3
  · exact w_c4
  · exact w_c5
  · exact w_c6
  · exact w_c7
  · exact w_c8
  · exact w_c9
  · exact w_c10
  · exact w_c11
  · exact w_c12
  · exact w_c13
  · exact w_c14
  · exact w_c15
  · exact w_c16
  · exact w_c17
  · exact w_c18
  · exact w_c19
  · exact w_c20
  · exact w_c21
  · exact w_c22
  · exact w_c23
set_option maxRecDepth 65536 in
theorem w_t1 : (words1.take 24).all (fun c => isCode c || c.before args0 about1) = true := by decide +kernel
set_option maxRecDepth 65536 in
theorem w_t2 : ((words1.drop 24).take 24).all (fun c => isCode c || c.before args0 about1) = true := by decide +kernel
set_option maxRecDepth 65536 in
theorem w_t3 : (((words1.drop 24).drop 24).take 24).all (fun c => isCode c || c.before args0 about1) = true := by decide +kernel
set_option maxRecDepth 65536 in
theorem w_t4 : ((((words1.drop 24).drop 24).drop 24).take 24).all (fun c => isCode c || c.before args0 about1) = true := by decide +kernel
set_option maxRecDepth 65536 in
theorem w_t5 : ((((words1.drop 24).drop 24).drop 24).drop 24).all (fun c => isCode c || c.before args0 about1) = true := by decide +kernel
theorem w_tables : (allAtoms (Jvm.Cond.code x code maxLocals ret :: tables_1)).before args0 about1 = true := by
  rw [allAtoms_all]
  show words1.all (fun c => c.before args0 about1) = true
  refine all_split ?_ w_codes
  rw [← List.take_append_drop 24 words1, List.all_append, w_t1, ← List.take_append_drop 24 (words1.drop 24), List.all_append, w_t2, ← List.take_append_drop 24 ((words1.drop 24).drop 24), List.all_append, w_t3, ← List.take_append_drop 24 (((words1.drop 24).drop 24).drop 24), List.all_append, w_t4, w_t5]
  rfl
set_option maxRecDepth 65536 in
theorem w_rest : rest_1_c.before args0 about1 = true := by decide +kernel
set_option maxRecDepth 65536 in
theorem w_case : (Jvm.Cond.and given_1 narrow_1).before args0 about1 = true := by decide +kernel
set_option maxRecDepth 65536 in
theorem w_consts : constsHeld consts_1 about1 := Jvm.Lit.constsHeldB_iff.mp (by decide +kernel)
theorem w_applies : (headSpec (Jvm.Cond.code x code maxLocals ret :: tables_1) room_1).applies x e0.platform about1 = true :=
  (Spec.applies_iff w_frames).mpr ⟨w_running, w_runnable, w_alone, w_named, w_hears, w_ripe, w_room, w_tables⟩
theorem atStart : AtStart classFile x code maxLocals ret World_1 tables_1 room_1 Calls_1 rest_1 Pre_1 launch0 p0 e0 about1 theMethod args0 below0 :=
  ⟨lists_1, trivial, launch0.admits_env _ _ _, launch0.least_env, fairChoices_fair.cas, fairChoices_fair.clock, w_frames, w_args, w_heap, w_applies, ⟨w_consts, trivial⟩, w_rest, w_case⟩
end start1
theorem witness_1 : WitnessClaimed_1 := ⟨start1.p0, start1.e0, start1.about1, start1.theMethod, start1.args0, start1.below0, start1.atStart⟩
end Jvm.Pilot.@@N@@
