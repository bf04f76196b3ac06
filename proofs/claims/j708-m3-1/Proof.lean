import JvmDerived
import JvmDerived.Pilot.@@N@@Statement
import JvmDerived.Pilot.@@N@@Code
set_option linter.unusedVariables false
set_option linter.unusedSimpArgs false
namespace Jvm.RoadKit
open Sem ClassFile Op Lib Jvm.Stand Jvm.Free Jvm.LawKit
section New
variable {p : Program} {l : Launch} {e : Env} {R : Room} {s : State} {m : MethodId} {args : Array Value} {below : List Frame} {meth : Method} {c : Code} {T : State} {locs : List Loc} {cells slots : Nat}
theorem retI (X : Stand p l e R s m args below meth c T locs cells slots) (hx : p.tables.exec = Jvm.exec) {pc : Nat} {Ls : Array Slot} {z : Int32} {rest : List Value} (hret : meth.sig.returnType = some .int) (hd : decode c.code pc = .ok (.ireturn, 1)) {fs : List Frame}
    (hl : ∀ (f : JFrame) (acts : List Action), f.method = m → f.locked = none → f.entered = [] → (doReturn e (T.setTop f) acts (some (.int z))).1 = T.setFrames fs) : Steps p.tables e below (T.setTop (mkF m pc Ls (.int z :: rest))) (T.setFrames fs) := by
  have hm' : T.vm.method? m = some meth := X.method'
  have hn : narrow .int (.int z) = .int z := rfl
  show Steps p.tables e below (T.setTop { method := m, pc := pc, locals := Ls, stack := _ :: rest, locked := none }) _
  jvm_step X.here [X.here.top, hx, hd, hm', hret, hn]
  first | (intro acts; rw [hl _ acts rfl rfl rfl]) | rw [hl _ _ rfl rfl rfl]
  exact Steps.refl _
end New
end Jvm.RoadKit
namespace Jvm.Pilot.@@N@@
open Jvm Jvm.ClassFile Sem Op Lib Jvm.Free Jvm.Stand Jvm.LawKit Jvm.RoadKit Bundle Jvm.Free.Fl Jvm.Pilot.@@N@@.Jvm.D
/-- the run comes from the frame g0 (over T0) to the frame g (over T) -/
abbrev Go (p : Program) (e : Env) (below : List Frame) (T0 : State) (g0 : JFrame) (T : State) (g : JFrame) : Prop :=
  ∀ t, Steps p.tables e below (T.setTop g) t → Steps p.tables e below (T0.setTop g0) t
theorem own_selp {Z s : State} {a0 args : Array Value} {y : MethodName} {k : Nat} (hZ : Z.Warmed39 s.vm) (wi : (Jvm.Cond.instantiable y.cls k).before a0 Z = true) (wp : (Jvm.Cond.privateMethod y).before a0 Z = true) (wm : (Jvm.Cond.instanceMethod y).before a0 Z = true) (hy : y.cls ≠ "java/lang/invoke/MethodHandle" ∧ y.cls ≠ "java/lang/invoke/VarHandle") : (Jvm.Cond.selects y.cls y y).before args s = true := by
  have hi : (Jvm.Cond.instantiable y.cls k).before args s = true := mvT hZ wi
  obtain ⟨c, kk, h1, h2, h3, h4, -⟩ := Jvm.Cond.instantiable_spec hi
  exact selects_self_of_private h1 h2 (by simp only [Bool.or_eq_false_iff] at h4; exact h4.1) (Cond.privateMethod_at (mvP hZ wp (args := #[]))) (mvT hZ wm) hy
/-- a call's outcome, its point opened -/
theorem own_outV {p : Program} {l : Launch} {e : Env} {R : Room} {s : State} {m : MethodId} {args : Array Value} {below : List Frame} {meth : Method} {c : Code} {s₀ : State} {locs : List Loc} {cells slots : Nat} {Q : Option Value → Heap → List Loc → Prop} {kc ks : Nat} {g' : Option Value → JFrame}
    (H : ∃ (v : Option Value) (vm₁ : Vm) (B : Pt), s.WarmedH vm₁ ∧ Stand p l e R s m args below meth c B.U B.locs B.cells B.slots ∧ (∃ L, Q v B.U.heap L ∧ B.locs = locs ++ L ∧ B.cells = cells + kc ∧ B.slots = slots + ks) ∧ Steps p.tables e below s₀ (B.U.setTop (g' v))) :
    ∃ (v : Option Value) (T' : State) (L : List Loc), Stand p l e R s m args below meth c T' (locs ++ L) (cells + kc) (slots + ks) ∧ Q v T'.heap L ∧ ∀ t, Steps p.tables e below (T'.setTop (g' v)) t → Steps p.tables e below s₀ t := by
  obtain ⟨v, vm, ⟨T', L', k', n'⟩, -, X, ⟨L, hQ, e1, e2, e3⟩, st⟩ := H
  subst e1 e2 e3
  exact ⟨v, T', L, X, hQ, fun t k => st.trans k⟩
theorem own_outS {p : Program} {l : Launch} {e : Env} {R : Room} {s : State} {m : MethodId} {args : Array Value} {below : List Frame} {meth : Method} {c : Code} {s₀ : State} {locs : List Loc} {cells slots : Nat} {Q : Option Value → Heap → List Loc → Prop} {kc ks : Nat} {g' : Option Value → JFrame}
    (H : ∃ (v : Option Value) (vm₁ : Vm) (B : Pt), s.WarmedH vm₁ ∧ Stand p l e R s m args below meth c B.U B.locs B.cells B.slots ∧ (∃ L, Q v B.U.heap L ∧ B.locs = locs ++ L ∧ B.cells = cells + kc ∧ B.slots = slots + ks) ∧ ∀ t, Steps p.tables e below (B.U.setTop (g' v)) t → Steps p.tables e below s₀ t) :
    ∃ (v : Option Value) (T' : State) (L : List Loc), Stand p l e R s m args below meth c T' (locs ++ L) (cells + kc) (slots + ks) ∧ Q v T'.heap L ∧ ∀ t, Steps p.tables e below (T'.setTop (g' v)) t → Steps p.tables e below s₀ t := by
  obtain ⟨v, vm, ⟨T', L', k', n'⟩, -, X, ⟨L, hQ, e1, e2, e3⟩, st⟩ := H
  subst e1 e2 e3
  exact ⟨v, T', L, X, hQ, st⟩
theorem d1_0 : decode prog_6_method_1_code 0 = .ok (.aload_n 0, 1) := by decide +kernel
theorem d1_1 : decode prog_6_method_1_code 1 = .ok (.invokespecial 3, 3) := by decide +kernel
theorem d1_4 : decode prog_6_method_1_code 4 = .ok (.aload_n 0, 1) := by decide +kernel
theorem d1_5 : decode prog_6_method_1_code 5 = .ok (.bipush 68, 2) := by decide +kernel
theorem d1_7 : decode prog_6_method_1_code 7 = .ok (.newarray .long, 2) := by decide +kernel
theorem d1_9 : decode prog_6_method_1_code 9 = .ok (.putfield 9, 3) := by decide +kernel
theorem d1_12 : decode prog_6_method_1_code 12 = .ok (.return_, 1) := by decide +kernel
theorem d3_0 : decode prog_6_method_2_code 0 = .ok (.dload_n 1, 1) := by decide +kernel
theorem d3_1 : decode prog_6_method_2_code 1 = .ok (.dconst 0, 1) := by decide +kernel
theorem d3_2 : decode prog_6_method_2_code 2 = .ok (.dcmp .l, 1) := by decide +kernel
theorem d3_3 : decode prog_6_method_2_code 3 = .ok (.ifCond .lt 11, 3) := by decide +kernel
theorem d3_6 : decode prog_6_method_2_code 6 = .ok (.dload_n 1, 1) := by decide +kernel
theorem d3_7 : decode prog_6_method_2_code 7 = .ok (.ldc2_w 15, 3) := by decide +kernel
theorem d3_10 : decode prog_6_method_2_code 10 = .ok (.dcmp .g, 1) := by decide +kernel
theorem d3_11 : decode prog_6_method_2_code 11 = .ok (.ifCond .lt 17, 3) := by decide +kernel
theorem d3_28 : decode prog_6_method_2_code 28 = .ok (.dload_n 1, 1) := by decide +kernel
theorem d3_29 : decode prog_6_method_2_code 29 = .ok (.invokestatic 26, 3) := by decide +kernel
theorem d3_32 : decode prog_6_method_2_code 32 = .ok (.lstore_n 3, 1) := by decide +kernel
theorem d3_33 : decode prog_6_method_2_code 33 = .ok (.lload_n 3, 1) := by decide +kernel
theorem d3_34 : decode prog_6_method_2_code 34 = .ok (.bipush 52, 2) := by decide +kernel
theorem d3_36 : decode prog_6_method_2_code 36 = .ok (.lushr, 1) := by decide +kernel
theorem d3_37 : decode prog_6_method_2_code 37 = .ok (.l2i, 1) := by decide +kernel
theorem d3_38 : decode prog_6_method_2_code 38 = .ok (.sipush 2047, 3) := by decide +kernel
theorem d3_41 : decode prog_6_method_2_code 41 = .ok (.iand, 1) := by decide +kernel
theorem d3_42 : decode prog_6_method_2_code 42 = .ok (.istore 5, 2) := by decide +kernel
theorem d3_44 : decode prog_6_method_2_code 44 = .ok (.lload_n 3, 1) := by decide +kernel
theorem d3_45 : decode prog_6_method_2_code 45 = .ok (.ldc2_w 30, 3) := by decide +kernel
theorem d3_48 : decode prog_6_method_2_code 48 = .ok (.land, 1) := by decide +kernel
theorem d3_49 : decode prog_6_method_2_code 49 = .ok (.lstore 6, 2) := by decide +kernel
theorem d3_51 : decode prog_6_method_2_code 51 = .ok (.iconst 0, 1) := by decide +kernel
theorem d3_52 : decode prog_6_method_2_code 52 = .ok (.istore 8, 2) := by decide +kernel
theorem d3_54 : decode prog_6_method_2_code 54 = .ok (.iload 5, 2) := by decide +kernel
theorem d3_56 : decode prog_6_method_2_code 56 = .ok (.ifCond .le 17, 3) := by decide +kernel
theorem d3_59 : decode prog_6_method_2_code 59 = .ok (.lload 6, 2) := by decide +kernel
theorem d3_61 : decode prog_6_method_2_code 61 = .ok (.ldc2_w 32, 3) := by decide +kernel
theorem d3_64 : decode prog_6_method_2_code 64 = .ok (.lor, 1) := by decide +kernel
theorem d3_65 : decode prog_6_method_2_code 65 = .ok (.lstore 6, 2) := by decide +kernel
theorem d3_67 : decode prog_6_method_2_code 67 = .ok (.iload 5, 2) := by decide +kernel
theorem d3_69 : decode prog_6_method_2_code 69 = .ok (.iconst 1, 1) := by decide +kernel
theorem d3_70 : decode prog_6_method_2_code 70 = .ok (.isub, 1) := by decide +kernel
theorem d3_71 : decode prog_6_method_2_code 71 = .ok (.istore 8, 2) := by decide +kernel
theorem d3_73 : decode prog_6_method_2_code 73 = .ok (.iload 8, 2) := by decide +kernel
theorem d3_75 : decode prog_6_method_2_code 75 = .ok (.bipush 32, 2) := by decide +kernel
theorem d3_77 : decode prog_6_method_2_code 77 = .ok (.idiv, 1) := by decide +kernel
theorem d3_78 : decode prog_6_method_2_code 78 = .ok (.istore 9, 2) := by decide +kernel
theorem d3_80 : decode prog_6_method_2_code 80 = .ok (.iload 8, 2) := by decide +kernel
theorem d3_82 : decode prog_6_method_2_code 82 = .ok (.bipush 32, 2) := by decide +kernel
theorem d3_84 : decode prog_6_method_2_code 84 = .ok (.irem, 1) := by decide +kernel
theorem d3_85 : decode prog_6_method_2_code 85 = .ok (.istore 10, 2) := by decide +kernel
theorem d3_87 : decode prog_6_method_2_code 87 = .ok (.lload 6, 2) := by decide +kernel
theorem d3_89 : decode prog_6_method_2_code 89 = .ok (.iload 10, 2) := by decide +kernel
theorem d3_91 : decode prog_6_method_2_code 91 = .ok (.lshl, 1) := by decide +kernel
theorem d3_92 : decode prog_6_method_2_code 92 = .ok (.lstore 11, 2) := by decide +kernel
theorem d3_94 : decode prog_6_method_2_code 94 = .ok (.iload 10, 2) := by decide +kernel
theorem d3_96 : decode prog_6_method_2_code 96 = .ok (.ifCond .ne 7, 3) := by decide +kernel
theorem d3_99 : decode prog_6_method_2_code 99 = .ok (.lconst 0, 1) := by decide +kernel
theorem d3_100 : decode prog_6_method_2_code 100 = .ok (.goto 11, 3) := by decide +kernel
theorem d3_103 : decode prog_6_method_2_code 103 = .ok (.lload 6, 2) := by decide +kernel
theorem d3_105 : decode prog_6_method_2_code 105 = .ok (.bipush 64, 2) := by decide +kernel
theorem d3_107 : decode prog_6_method_2_code 107 = .ok (.iload 10, 2) := by decide +kernel
theorem d3_109 : decode prog_6_method_2_code 109 = .ok (.isub, 1) := by decide +kernel
theorem d3_110 : decode prog_6_method_2_code 110 = .ok (.lushr, 1) := by decide +kernel
theorem d3_111 : decode prog_6_method_2_code 111 = .ok (.lstore 13, 2) := by decide +kernel
theorem d3_113 : decode prog_6_method_2_code 113 = .ok (.aload_n 0, 1) := by decide +kernel
theorem d3_114 : decode prog_6_method_2_code 114 = .ok (.getfield 9, 3) := by decide +kernel
theorem d3_117 : decode prog_6_method_2_code 117 = .ok (.iload 9, 2) := by decide +kernel
theorem d3_119 : decode prog_6_method_2_code 119 = .ok (.dup2, 1) := by decide +kernel
theorem d3_120 : decode prog_6_method_2_code 120 = .ok (.laload, 1) := by decide +kernel
theorem d3_121 : decode prog_6_method_2_code 121 = .ok (.lload 11, 2) := by decide +kernel
theorem d3_123 : decode prog_6_method_2_code 123 = .ok (.ldc2_w 36, 3) := by decide +kernel
theorem d3_126 : decode prog_6_method_2_code 126 = .ok (.land, 1) := by decide +kernel
theorem d3_127 : decode prog_6_method_2_code 127 = .ok (.ladd, 1) := by decide +kernel
theorem d3_128 : decode prog_6_method_2_code 128 = .ok (.lastore, 1) := by decide +kernel
theorem d3_129 : decode prog_6_method_2_code 129 = .ok (.aload_n 0, 1) := by decide +kernel
theorem d3_130 : decode prog_6_method_2_code 130 = .ok (.getfield 9, 3) := by decide +kernel
theorem d3_133 : decode prog_6_method_2_code 133 = .ok (.iload 9, 2) := by decide +kernel
theorem d3_135 : decode prog_6_method_2_code 135 = .ok (.iconst 1, 1) := by decide +kernel
theorem d3_136 : decode prog_6_method_2_code 136 = .ok (.iadd, 1) := by decide +kernel
theorem d3_137 : decode prog_6_method_2_code 137 = .ok (.dup2, 1) := by decide +kernel
theorem d3_138 : decode prog_6_method_2_code 138 = .ok (.laload, 1) := by decide +kernel
theorem d3_139 : decode prog_6_method_2_code 139 = .ok (.lload 11, 2) := by decide +kernel
theorem d3_141 : decode prog_6_method_2_code 141 = .ok (.bipush 32, 2) := by decide +kernel
theorem d3_143 : decode prog_6_method_2_code 143 = .ok (.lushr, 1) := by decide +kernel
theorem d3_144 : decode prog_6_method_2_code 144 = .ok (.ladd, 1) := by decide +kernel
theorem d3_145 : decode prog_6_method_2_code 145 = .ok (.lastore, 1) := by decide +kernel
theorem d3_146 : decode prog_6_method_2_code 146 = .ok (.aload_n 0, 1) := by decide +kernel
theorem d3_147 : decode prog_6_method_2_code 147 = .ok (.getfield 9, 3) := by decide +kernel
theorem d3_150 : decode prog_6_method_2_code 150 = .ok (.iload 9, 2) := by decide +kernel
theorem d3_152 : decode prog_6_method_2_code 152 = .ok (.iconst 2, 1) := by decide +kernel
theorem d3_153 : decode prog_6_method_2_code 153 = .ok (.iadd, 1) := by decide +kernel
theorem d3_154 : decode prog_6_method_2_code 154 = .ok (.dup2, 1) := by decide +kernel
theorem d3_155 : decode prog_6_method_2_code 155 = .ok (.laload, 1) := by decide +kernel
theorem d3_156 : decode prog_6_method_2_code 156 = .ok (.lload 13, 2) := by decide +kernel
theorem d3_158 : decode prog_6_method_2_code 158 = .ok (.ladd, 1) := by decide +kernel
theorem d3_159 : decode prog_6_method_2_code 159 = .ok (.lastore, 1) := by decide +kernel
theorem d3_160 : decode prog_6_method_2_code 160 = .ok (.aload_n 0, 1) := by decide +kernel
theorem d3_161 : decode prog_6_method_2_code 161 = .ok (.iload 9, 2) := by decide +kernel
theorem d3_163 : decode prog_6_method_2_code 163 = .ok (.iload 9, 2) := by decide +kernel
theorem d3_165 : decode prog_6_method_2_code 165 = .ok (.iconst 3, 1) := by decide +kernel
theorem d3_166 : decode prog_6_method_2_code 166 = .ok (.iadd, 1) := by decide +kernel
theorem d3_167 : decode prog_6_method_2_code 167 = .ok (.invokevirtual 38, 3) := by decide +kernel
theorem d3_170 : decode prog_6_method_2_code 170 = .ok (.aload_n 0, 1) := by decide +kernel
theorem d3_171 : decode prog_6_method_2_code 171 = .ok (.dup, 1) := by decide +kernel
theorem d3_172 : decode prog_6_method_2_code 172 = .ok (.getfield 42, 3) := by decide +kernel
theorem d3_175 : decode prog_6_method_2_code 175 = .ok (.iconst 1, 1) := by decide +kernel
theorem d3_176 : decode prog_6_method_2_code 176 = .ok (.iadd, 1) := by decide +kernel
theorem d3_177 : decode prog_6_method_2_code 177 = .ok (.putfield 42, 3) := by decide +kernel
theorem d3_180 : decode prog_6_method_2_code 180 = .ok (.aload_n 0, 1) := by decide +kernel
theorem d3_181 : decode prog_6_method_2_code 181 = .ok (.getfield 42, 3) := by decide +kernel
theorem d3_184 : decode prog_6_method_2_code 184 = .ok (.ldc 46, 2) := by decide +kernel
theorem d3_186 : decode prog_6_method_2_code 186 = .ok (.if_icmp .ne 7, 3) := by decide +kernel
theorem d3_193 : decode prog_6_method_2_code 193 = .ok (.return_, 1) := by decide +kernel
theorem d4_0 : decode prog_6_method_9_code 0 = .ok (.aload_n 0, 1) := by decide +kernel
theorem d4_1 : decode prog_6_method_9_code 1 = .ok (.getfield 50, 3) := by decide +kernel
theorem d4_4 : decode prog_6_method_9_code 4 = .ok (.aload_n 0, 1) := by decide +kernel
theorem d4_5 : decode prog_6_method_9_code 5 = .ok (.getfield 53, 3) := by decide +kernel
theorem d4_8 : decode prog_6_method_9_code 8 = .ok (.if_icmp .ne 16, 3) := by decide +kernel
theorem d4_11 : decode prog_6_method_9_code 11 = .ok (.aload_n 0, 1) := by decide +kernel
theorem d4_12 : decode prog_6_method_9_code 12 = .ok (.iload_n 1, 1) := by decide +kernel
theorem d4_13 : decode prog_6_method_9_code 13 = .ok (.putfield 50, 3) := by decide +kernel
theorem d4_16 : decode prog_6_method_9_code 16 = .ok (.aload_n 0, 1) := by decide +kernel
theorem d4_17 : decode prog_6_method_9_code 17 = .ok (.iload_n 2, 1) := by decide +kernel
theorem d4_18 : decode prog_6_method_9_code 18 = .ok (.putfield 53, 3) := by decide +kernel
theorem d4_21 : decode prog_6_method_9_code 21 = .ok (.goto 27, 3) := by decide +kernel
theorem d4_48 : decode prog_6_method_9_code 48 = .ok (.return_, 1) := by decide +kernel
theorem d5_0 : decode prog_6_method_5_code 0 = .ok (.aload_n 0, 1) := by decide +kernel
theorem d5_1 : decode prog_6_method_5_code 1 = .ok (.invokevirtual 47, 3) := by decide +kernel
theorem d5_4 : decode prog_6_method_5_code 4 = .ok (.aload_n 0, 1) := by decide +kernel
theorem d5_5 : decode prog_6_method_5_code 5 = .ok (.getfield 53, 3) := by decide +kernel
theorem d5_8 : decode prog_6_method_5_code 8 = .ok (.iconst 1, 1) := by decide +kernel
theorem d5_9 : decode prog_6_method_5_code 9 = .ok (.isub, 1) := by decide +kernel
theorem d5_10 : decode prog_6_method_5_code 10 = .ok (.istore_n 1, 1) := by decide +kernel
theorem d5_11 : decode prog_6_method_5_code 11 = .ok (.iload_n 1, 1) := by decide +kernel
theorem d5_12 : decode prog_6_method_5_code 12 = .ok (.aload_n 0, 1) := by decide +kernel
theorem d5_13 : decode prog_6_method_5_code 13 = .ok (.getfield 50, 3) := by decide +kernel
theorem d5_16 : decode prog_6_method_5_code 16 = .ok (.if_icmp .lt 20, 3) := by decide +kernel
theorem d5_19 : decode prog_6_method_5_code 19 = .ok (.aload_n 0, 1) := by decide +kernel
theorem d5_20 : decode prog_6_method_5_code 20 = .ok (.getfield 9, 3) := by decide +kernel
theorem d5_23 : decode prog_6_method_5_code 23 = .ok (.iload_n 1, 1) := by decide +kernel
theorem d5_24 : decode prog_6_method_5_code 24 = .ok (.laload, 1) := by decide +kernel
theorem d5_25 : decode prog_6_method_5_code 25 = .ok (.lconst 0, 1) := by decide +kernel
theorem d5_26 : decode prog_6_method_5_code 26 = .ok (.lcmp, 1) := by decide +kernel
theorem d5_27 : decode prog_6_method_5_code 27 = .ok (.ifCond .ne 9, 3) := by decide +kernel
theorem d5_30 : decode prog_6_method_5_code 30 = .ok (.iinc 1 (-1), 3) := by decide +kernel
theorem d5_33 : decode prog_6_method_5_code 33 = .ok (.goto (-22), 3) := by decide +kernel
theorem d5_36 : decode prog_6_method_5_code 36 = .ok (.iload_n 1, 1) := by decide +kernel
theorem d5_37 : decode prog_6_method_5_code 37 = .ok (.aload_n 0, 1) := by decide +kernel
theorem d5_38 : decode prog_6_method_5_code 38 = .ok (.getfield 50, 3) := by decide +kernel
theorem d5_41 : decode prog_6_method_5_code 41 = .ok (.if_icmp .ge 5, 3) := by decide +kernel
theorem d5_44 : decode prog_6_method_5_code 44 = .ok (.dconst 0, 1) := by decide +kernel
theorem d5_45 : decode prog_6_method_5_code 45 = .ok (.dreturn, 1) := by decide +kernel
theorem d5_46 : decode prog_6_method_5_code 46 = .ok (.iload_n 1, 1) := by decide +kernel
theorem d5_47 : decode prog_6_method_5_code 47 = .ok (.bipush 32, 2) := by decide +kernel
theorem d5_49 : decode prog_6_method_5_code 49 = .ok (.imul, 1) := by decide +kernel
theorem d5_50 : decode prog_6_method_5_code 50 = .ok (.bipush 64, 2) := by decide +kernel
theorem d5_52 : decode prog_6_method_5_code 52 = .ok (.iadd, 1) := by decide +kernel
theorem d5_53 : decode prog_6_method_5_code 53 = .ok (.iconst 1, 1) := by decide +kernel
theorem d5_54 : decode prog_6_method_5_code 54 = .ok (.isub, 1) := by decide +kernel
theorem d5_55 : decode prog_6_method_5_code 55 = .ok (.aload_n 0, 1) := by decide +kernel
theorem d5_56 : decode prog_6_method_5_code 56 = .ok (.getfield 9, 3) := by decide +kernel
theorem d5_59 : decode prog_6_method_5_code 59 = .ok (.iload_n 1, 1) := by decide +kernel
theorem d5_60 : decode prog_6_method_5_code 60 = .ok (.laload, 1) := by decide +kernel
theorem d5_61 : decode prog_6_method_5_code 61 = .ok (.invokestatic 62, 3) := by decide +kernel
theorem d5_64 : decode prog_6_method_5_code 64 = .ok (.isub, 1) := by decide +kernel
theorem d5_65 : decode prog_6_method_5_code 65 = .ok (.istore_n 2, 1) := by decide +kernel
theorem d5_66 : decode prog_6_method_5_code 66 = .ok (.iconst 0, 1) := by decide +kernel
theorem d5_67 : decode prog_6_method_5_code 67 = .ok (.iload_n 2, 1) := by decide +kernel
theorem d5_68 : decode prog_6_method_5_code 68 = .ok (.bipush 52, 2) := by decide +kernel
theorem d5_70 : decode prog_6_method_5_code 70 = .ok (.isub, 1) := by decide +kernel
theorem d5_71 : decode prog_6_method_5_code 71 = .ok (.invokestatic 66, 3) := by decide +kernel
theorem d5_74 : decode prog_6_method_5_code 74 = .ok (.istore_n 3, 1) := by decide +kernel
theorem d5_75 : decode prog_6_method_5_code 75 = .ok (.aload_n 0, 1) := by decide +kernel
theorem d5_76 : decode prog_6_method_5_code 76 = .ok (.iload_n 3, 1) := by decide +kernel
theorem d5_77 : decode prog_6_method_5_code 77 = .ok (.invokevirtual 72, 3) := by decide +kernel
theorem d5_80 : decode prog_6_method_5_code 80 = .ok (.ldc2_w 76, 3) := by decide +kernel
theorem d5_83 : decode prog_6_method_5_code 83 = .ok (.land, 1) := by decide +kernel
theorem d5_84 : decode prog_6_method_5_code 84 = .ok (.lstore 4, 2) := by decide +kernel
theorem d5_86 : decode prog_6_method_5_code 86 = .ok (.iload_n 3, 1) := by decide +kernel
theorem d5_87 : decode prog_6_method_5_code 87 = .ok (.ifCond .le 56, 3) := by decide +kernel
theorem d5_90 : decode prog_6_method_5_code 90 = .ok (.aload_n 0, 1) := by decide +kernel
theorem d5_91 : decode prog_6_method_5_code 91 = .ok (.iload_n 3, 1) := by decide +kernel
theorem d5_92 : decode prog_6_method_5_code 92 = .ok (.iconst 1, 1) := by decide +kernel
theorem d5_93 : decode prog_6_method_5_code 93 = .ok (.isub, 1) := by decide +kernel
theorem d5_94 : decode prog_6_method_5_code 94 = .ok (.invokevirtual 78, 3) := by decide +kernel
theorem d5_97 : decode prog_6_method_5_code 97 = .ok (.ifCond .eq 46, 3) := by decide +kernel
theorem d5_143 : decode prog_6_method_5_code 143 = .ok (.iload_n 3, 1) := by decide +kernel
theorem d5_144 : decode prog_6_method_5_code 144 = .ok (.sipush 2046, 3) := by decide +kernel
theorem d5_147 : decode prog_6_method_5_code 147 = .ok (.if_icmp .lt 7, 3) := by decide +kernel
theorem d5_154 : decode prog_6_method_5_code 154 = .ok (.iload_n 3, 1) := by decide +kernel
theorem d5_155 : decode prog_6_method_5_code 155 = .ok (.i2l, 1) := by decide +kernel
theorem d5_156 : decode prog_6_method_5_code 156 = .ok (.bipush 52, 2) := by decide +kernel
theorem d5_158 : decode prog_6_method_5_code 158 = .ok (.lshl, 1) := by decide +kernel
theorem d5_159 : decode prog_6_method_5_code 159 = .ok (.lload 4, 2) := by decide +kernel
theorem d5_161 : decode prog_6_method_5_code 161 = .ok (.ladd, 1) := by decide +kernel
theorem d5_162 : decode prog_6_method_5_code 162 = .ok (.invokestatic 87, 3) := by decide +kernel
theorem d5_165 : decode prog_6_method_5_code 165 = .ok (.dreturn, 1) := by decide +kernel
theorem d6_0 : decode prog_6_method_8_code 0 = .ok (.lconst 0, 1) := by decide +kernel
theorem d6_1 : decode prog_6_method_8_code 1 = .ok (.lstore_n 1, 1) := by decide +kernel
theorem d6_2 : decode prog_6_method_8_code 2 = .ok (.aload_n 0, 1) := by decide +kernel
theorem d6_3 : decode prog_6_method_8_code 3 = .ok (.getfield 50, 3) := by decide +kernel
theorem d6_6 : decode prog_6_method_8_code 6 = .ok (.istore_n 3, 1) := by decide +kernel
theorem d6_7 : decode prog_6_method_8_code 7 = .ok (.iload_n 3, 1) := by decide +kernel
theorem d6_8 : decode prog_6_method_8_code 8 = .ok (.aload_n 0, 1) := by decide +kernel
theorem d6_9 : decode prog_6_method_8_code 9 = .ok (.getfield 53, 3) := by decide +kernel
theorem d6_12 : decode prog_6_method_8_code 12 = .ok (.if_icmp .lt 9, 3) := by decide +kernel
theorem d6_15 : decode prog_6_method_8_code 15 = .ok (.lload_n 1, 1) := by decide +kernel
theorem d6_16 : decode prog_6_method_8_code 16 = .ok (.lconst 0, 1) := by decide +kernel
theorem d6_17 : decode prog_6_method_8_code 17 = .ok (.lcmp, 1) := by decide +kernel
theorem d6_18 : decode prog_6_method_8_code 18 = .ok (.ifCond .eq 37, 3) := by decide +kernel
theorem d6_21 : decode prog_6_method_8_code 21 = .ok (.aload_n 0, 1) := by decide +kernel
theorem d6_22 : decode prog_6_method_8_code 22 = .ok (.getfield 9, 3) := by decide +kernel
theorem d6_25 : decode prog_6_method_8_code 25 = .ok (.iload_n 3, 1) := by decide +kernel
theorem d6_26 : decode prog_6_method_8_code 26 = .ok (.laload, 1) := by decide +kernel
theorem d6_27 : decode prog_6_method_8_code 27 = .ok (.lload_n 1, 1) := by decide +kernel
theorem d6_28 : decode prog_6_method_8_code 28 = .ok (.ladd, 1) := by decide +kernel
theorem d6_29 : decode prog_6_method_8_code 29 = .ok (.lstore 4, 2) := by decide +kernel
theorem d6_31 : decode prog_6_method_8_code 31 = .ok (.aload_n 0, 1) := by decide +kernel
theorem d6_32 : decode prog_6_method_8_code 32 = .ok (.getfield 9, 3) := by decide +kernel
theorem d6_35 : decode prog_6_method_8_code 35 = .ok (.iload_n 3, 1) := by decide +kernel
theorem d6_36 : decode prog_6_method_8_code 36 = .ok (.lload 4, 2) := by decide +kernel
theorem d6_38 : decode prog_6_method_8_code 38 = .ok (.ldc2_w 36, 3) := by decide +kernel
theorem d6_41 : decode prog_6_method_8_code 41 = .ok (.land, 1) := by decide +kernel
theorem d6_42 : decode prog_6_method_8_code 42 = .ok (.lastore, 1) := by decide +kernel
theorem d6_43 : decode prog_6_method_8_code 43 = .ok (.lload 4, 2) := by decide +kernel
theorem d6_45 : decode prog_6_method_8_code 45 = .ok (.bipush 32, 2) := by decide +kernel
theorem d6_47 : decode prog_6_method_8_code 47 = .ok (.lushr, 1) := by decide +kernel
theorem d6_48 : decode prog_6_method_8_code 48 = .ok (.lstore_n 1, 1) := by decide +kernel
theorem d6_49 : decode prog_6_method_8_code 49 = .ok (.iinc 3 1, 3) := by decide +kernel
theorem d6_52 : decode prog_6_method_8_code 52 = .ok (.goto (-45), 3) := by decide +kernel
theorem d6_55 : decode prog_6_method_8_code 55 = .ok (.aload_n 0, 1) := by decide +kernel
theorem d6_56 : decode prog_6_method_8_code 56 = .ok (.iload_n 3, 1) := by decide +kernel
theorem d6_57 : decode prog_6_method_8_code 57 = .ok (.putfield 53, 3) := by decide +kernel
theorem d6_60 : decode prog_6_method_8_code 60 = .ok (.aload_n 0, 1) := by decide +kernel
theorem d6_61 : decode prog_6_method_8_code 61 = .ok (.iconst 0, 1) := by decide +kernel
theorem d6_62 : decode prog_6_method_8_code 62 = .ok (.putfield 42, 3) := by decide +kernel
theorem d6_65 : decode prog_6_method_8_code 65 = .ok (.return_, 1) := by decide +kernel
theorem d7_0 : decode prog_6_method_4_code 0 = .ok (.aload_n 0, 1) := by decide +kernel
theorem d7_1 : decode prog_6_method_4_code 1 = .ok (.getfield 9, 3) := by decide +kernel
theorem d7_4 : decode prog_6_method_4_code 4 = .ok (.aload_n 0, 1) := by decide +kernel
theorem d7_5 : decode prog_6_method_4_code 5 = .ok (.getfield 50, 3) := by decide +kernel
theorem d7_8 : decode prog_6_method_4_code 8 = .ok (.aload_n 0, 1) := by decide +kernel
theorem d7_9 : decode prog_6_method_4_code 9 = .ok (.getfield 53, 3) := by decide +kernel
theorem d7_12 : decode prog_6_method_4_code 12 = .ok (.lconst 0, 1) := by decide +kernel
theorem d7_13 : decode prog_6_method_4_code 13 = .ok (.invokestatic 56, 3) := by decide +kernel
theorem d7_16 : decode prog_6_method_4_code 16 = .ok (.aload_n 0, 1) := by decide +kernel
theorem d7_17 : decode prog_6_method_4_code 17 = .ok (.iconst 0, 1) := by decide +kernel
theorem d7_18 : decode prog_6_method_4_code 18 = .ok (.putfield 50, 3) := by decide +kernel
theorem d7_21 : decode prog_6_method_4_code 21 = .ok (.aload_n 0, 1) := by decide +kernel
theorem d7_22 : decode prog_6_method_4_code 22 = .ok (.iconst 0, 1) := by decide +kernel
theorem d7_23 : decode prog_6_method_4_code 23 = .ok (.putfield 53, 3) := by decide +kernel
theorem d7_26 : decode prog_6_method_4_code 26 = .ok (.aload_n 0, 1) := by decide +kernel
theorem d7_27 : decode prog_6_method_4_code 27 = .ok (.iconst 0, 1) := by decide +kernel
theorem d7_28 : decode prog_6_method_4_code 28 = .ok (.putfield 42, 3) := by decide +kernel
theorem d7_31 : decode prog_6_method_4_code 31 = .ok (.return_, 1) := by decide +kernel
theorem d8_0 : decode jdk_65_method_102_code 0 = .ok (.aload_n 0, 1) := by decide +kernel
theorem d8_1 : decode jdk_65_method_102_code 1 = .ok (.arraylength, 1) := by decide +kernel
theorem d8_2 : decode jdk_65_method_102_code 2 = .ok (.iload_n 1, 1) := by decide +kernel
theorem d8_3 : decode jdk_65_method_102_code 3 = .ok (.iload_n 2, 1) := by decide +kernel
theorem d8_4 : decode jdk_65_method_102_code 4 = .ok (.invokestatic 13, 3) := by decide +kernel
theorem d8_7 : decode jdk_65_method_102_code 7 = .ok (.iload_n 1, 1) := by decide +kernel
theorem d8_8 : decode jdk_65_method_102_code 8 = .ok (.istore 5, 2) := by decide +kernel
theorem d8_10 : decode jdk_65_method_102_code 10 = .ok (.iload 5, 2) := by decide +kernel
theorem d8_12 : decode jdk_65_method_102_code 12 = .ok (.iload_n 2, 1) := by decide +kernel
theorem d8_13 : decode jdk_65_method_102_code 13 = .ok (.if_icmp .ge 14, 3) := by decide +kernel
theorem d8_16 : decode jdk_65_method_102_code 16 = .ok (.aload_n 0, 1) := by decide +kernel
theorem d8_17 : decode jdk_65_method_102_code 17 = .ok (.iload 5, 2) := by decide +kernel
theorem d8_19 : decode jdk_65_method_102_code 19 = .ok (.lload_n 3, 1) := by decide +kernel
theorem d8_20 : decode jdk_65_method_102_code 20 = .ok (.lastore, 1) := by decide +kernel
theorem d8_21 : decode jdk_65_method_102_code 21 = .ok (.iinc 5 1, 3) := by decide +kernel
theorem d8_24 : decode jdk_65_method_102_code 24 = .ok (.goto (-14), 3) := by decide +kernel
theorem d8_27 : decode jdk_65_method_102_code 27 = .ok (.return_, 1) := by decide +kernel
theorem d9_0 : decode jdk_65_method_30_code 0 = .ok (.iload_n 1, 1) := by decide +kernel
theorem d9_1 : decode jdk_65_method_30_code 1 = .ok (.iload_n 2, 1) := by decide +kernel
theorem d9_2 : decode jdk_65_method_30_code 2 = .ok (.if_icmp .le 44, 3) := by decide +kernel
theorem d9_46 : decode jdk_65_method_30_code 46 = .ok (.iload_n 1, 1) := by decide +kernel
theorem d9_47 : decode jdk_65_method_30_code 47 = .ok (.ifCond .ge 12, 3) := by decide +kernel
theorem d9_59 : decode jdk_65_method_30_code 59 = .ok (.iload_n 2, 1) := by decide +kernel
theorem d9_60 : decode jdk_65_method_30_code 60 = .ok (.iload_n 0, 1) := by decide +kernel
theorem d9_61 : decode jdk_65_method_30_code 61 = .ok (.if_icmp .le 12, 3) := by decide +kernel
theorem d9_73 : decode jdk_65_method_30_code 73 = .ok (.return_, 1) := by decide +kernel
theorem d10_0 : decode jdk_35_method_48_code 0 = .ok (.lload_n 0, 1) := by decide +kernel
theorem d10_1 : decode jdk_35_method_48_code 1 = .ok (.bipush 32, 2) := by decide +kernel
theorem d10_3 : decode jdk_35_method_48_code 3 = .ok (.lushr, 1) := by decide +kernel
theorem d10_4 : decode jdk_35_method_48_code 4 = .ok (.l2i, 1) := by decide +kernel
theorem d10_5 : decode jdk_35_method_48_code 5 = .ok (.istore_n 2, 1) := by decide +kernel
theorem d10_6 : decode jdk_35_method_48_code 6 = .ok (.iload_n 2, 1) := by decide +kernel
theorem d10_7 : decode jdk_35_method_48_code 7 = .ok (.ifCond .ne 14, 3) := by decide +kernel
theorem d10_10 : decode jdk_35_method_48_code 10 = .ok (.bipush 32, 2) := by decide +kernel
theorem d10_12 : decode jdk_35_method_48_code 12 = .ok (.lload_n 0, 1) := by decide +kernel
theorem d10_13 : decode jdk_35_method_48_code 13 = .ok (.l2i, 1) := by decide +kernel
theorem d10_14 : decode jdk_35_method_48_code 14 = .ok (.invokestatic 308, 3) := by decide +kernel
theorem d10_17 : decode jdk_35_method_48_code 17 = .ok (.iadd, 1) := by decide +kernel
theorem d10_18 : decode jdk_35_method_48_code 18 = .ok (.goto 7, 3) := by decide +kernel
theorem d10_25 : decode jdk_35_method_48_code 25 = .ok (.ireturn, 1) := by decide +kernel
theorem d11_0 : decode jdk_33_method_47_code 0 = .ok (.iload_n 0, 1) := by decide +kernel
theorem d11_1 : decode jdk_33_method_47_code 1 = .ok (.ifCond .gt 14, 3) := by decide +kernel
theorem d11_4 : decode jdk_33_method_47_code 4 = .ok (.iload_n 0, 1) := by decide +kernel
theorem d11_5 : decode jdk_33_method_47_code 5 = .ok (.ifCond .ne 8, 3) := by decide +kernel
theorem d11_13 : decode jdk_33_method_47_code 13 = .ok (.iconst 0, 1) := by decide +kernel
theorem d11_14 : decode jdk_33_method_47_code 14 = .ok (.ireturn, 1) := by decide +kernel
theorem d11_15 : decode jdk_33_method_47_code 15 = .ok (.bipush 31, 2) := by decide +kernel
theorem d11_17 : decode jdk_33_method_47_code 17 = .ok (.istore_n 1, 1) := by decide +kernel
theorem d11_18 : decode jdk_33_method_47_code 18 = .ok (.iload_n 0, 1) := by decide +kernel
theorem d11_19 : decode jdk_33_method_47_code 19 = .ok (.ldc_w 264, 3) := by decide +kernel
theorem d11_22 : decode jdk_33_method_47_code 22 = .ok (.if_icmp .lt 11, 3) := by decide +kernel
theorem d11_25 : decode jdk_33_method_47_code 25 = .ok (.iinc 1 (-16), 3) := by decide +kernel
theorem d11_28 : decode jdk_33_method_47_code 28 = .ok (.iload_n 0, 1) := by decide +kernel
theorem d11_29 : decode jdk_33_method_47_code 29 = .ok (.bipush 16, 2) := by decide +kernel
theorem d11_31 : decode jdk_33_method_47_code 31 = .ok (.iushr, 1) := by decide +kernel
theorem d11_32 : decode jdk_33_method_47_code 32 = .ok (.istore_n 0, 1) := by decide +kernel
theorem d11_33 : decode jdk_33_method_47_code 33 = .ok (.iload_n 0, 1) := by decide +kernel
theorem d11_34 : decode jdk_33_method_47_code 34 = .ok (.sipush 256, 3) := by decide +kernel
theorem d11_37 : decode jdk_33_method_47_code 37 = .ok (.if_icmp .lt 11, 3) := by decide +kernel
theorem d11_40 : decode jdk_33_method_47_code 40 = .ok (.iinc 1 (-8), 3) := by decide +kernel
theorem d11_43 : decode jdk_33_method_47_code 43 = .ok (.iload_n 0, 1) := by decide +kernel
theorem d11_44 : decode jdk_33_method_47_code 44 = .ok (.bipush 8, 2) := by decide +kernel
theorem d11_46 : decode jdk_33_method_47_code 46 = .ok (.iushr, 1) := by decide +kernel
theorem d11_47 : decode jdk_33_method_47_code 47 = .ok (.istore_n 0, 1) := by decide +kernel
theorem d11_48 : decode jdk_33_method_47_code 48 = .ok (.iload_n 0, 1) := by decide +kernel
theorem d11_49 : decode jdk_33_method_47_code 49 = .ok (.bipush 16, 2) := by decide +kernel
theorem d11_51 : decode jdk_33_method_47_code 51 = .ok (.if_icmp .lt 10, 3) := by decide +kernel
theorem d11_54 : decode jdk_33_method_47_code 54 = .ok (.iinc 1 (-4), 3) := by decide +kernel
theorem d11_57 : decode jdk_33_method_47_code 57 = .ok (.iload_n 0, 1) := by decide +kernel
theorem d11_58 : decode jdk_33_method_47_code 58 = .ok (.iconst 4, 1) := by decide +kernel
theorem d11_59 : decode jdk_33_method_47_code 59 = .ok (.iushr, 1) := by decide +kernel
theorem d11_60 : decode jdk_33_method_47_code 60 = .ok (.istore_n 0, 1) := by decide +kernel
theorem d11_61 : decode jdk_33_method_47_code 61 = .ok (.iload_n 0, 1) := by decide +kernel
theorem d11_62 : decode jdk_33_method_47_code 62 = .ok (.iconst 4, 1) := by decide +kernel
theorem d11_63 : decode jdk_33_method_47_code 63 = .ok (.if_icmp .lt 10, 3) := by decide +kernel
theorem d11_66 : decode jdk_33_method_47_code 66 = .ok (.iinc 1 (-2), 3) := by decide +kernel
theorem d11_69 : decode jdk_33_method_47_code 69 = .ok (.iload_n 0, 1) := by decide +kernel
theorem d11_70 : decode jdk_33_method_47_code 70 = .ok (.iconst 2, 1) := by decide +kernel
theorem d11_71 : decode jdk_33_method_47_code 71 = .ok (.iushr, 1) := by decide +kernel
theorem d11_72 : decode jdk_33_method_47_code 72 = .ok (.istore_n 0, 1) := by decide +kernel
theorem d11_73 : decode jdk_33_method_47_code 73 = .ok (.iload_n 1, 1) := by decide +kernel
theorem d11_74 : decode jdk_33_method_47_code 74 = .ok (.iload_n 0, 1) := by decide +kernel
theorem d11_75 : decode jdk_33_method_47_code 75 = .ok (.iconst 1, 1) := by decide +kernel
theorem d11_76 : decode jdk_33_method_47_code 76 = .ok (.iushr, 1) := by decide +kernel
theorem d11_77 : decode jdk_33_method_47_code 77 = .ok (.isub, 1) := by decide +kernel
theorem d11_78 : decode jdk_33_method_47_code 78 = .ok (.ireturn, 1) := by decide +kernel
theorem d12_0 : decode jdk_29_method_65_code 0 = .ok (.iload_n 0, 1) := by decide +kernel
theorem d12_1 : decode jdk_29_method_65_code 1 = .ok (.iload_n 1, 1) := by decide +kernel
theorem d12_2 : decode jdk_29_method_65_code 2 = .ok (.if_icmp .lt 7, 3) := by decide +kernel
theorem d12_5 : decode jdk_29_method_65_code 5 = .ok (.iload_n 0, 1) := by decide +kernel
theorem d12_6 : decode jdk_29_method_65_code 6 = .ok (.goto 4, 3) := by decide +kernel
theorem d12_9 : decode jdk_29_method_65_code 9 = .ok (.iload_n 1, 1) := by decide +kernel
theorem d12_10 : decode jdk_29_method_65_code 10 = .ok (.ireturn, 1) := by decide +kernel
theorem d13_0 : decode prog_6_method_10_code 0 = .ok (.iload_n 1, 1) := by decide +kernel
theorem d13_1 : decode prog_6_method_10_code 1 = .ok (.bipush 32, 2) := by decide +kernel
theorem d13_3 : decode prog_6_method_10_code 3 = .ok (.idiv, 1) := by decide +kernel
theorem d13_4 : decode prog_6_method_10_code 4 = .ok (.istore_n 2, 1) := by decide +kernel
theorem d13_5 : decode prog_6_method_10_code 5 = .ok (.iload_n 1, 1) := by decide +kernel
theorem d13_6 : decode prog_6_method_10_code 6 = .ok (.bipush 32, 2) := by decide +kernel
theorem d13_8 : decode prog_6_method_10_code 8 = .ok (.irem, 1) := by decide +kernel
theorem d13_9 : decode prog_6_method_10_code 9 = .ok (.istore_n 3, 1) := by decide +kernel
theorem d13_10 : decode prog_6_method_10_code 10 = .ok (.aload_n 0, 1) := by decide +kernel
theorem d13_11 : decode prog_6_method_10_code 11 = .ok (.iload_n 2, 1) := by decide +kernel
theorem d13_12 : decode prog_6_method_10_code 12 = .ok (.invokevirtual 121, 3) := by decide +kernel
theorem d13_15 : decode prog_6_method_10_code 15 = .ok (.aload_n 0, 1) := by decide +kernel
theorem d13_16 : decode prog_6_method_10_code 16 = .ok (.iload_n 2, 1) := by decide +kernel
theorem d13_17 : decode prog_6_method_10_code 17 = .ok (.iconst 1, 1) := by decide +kernel
theorem d13_18 : decode prog_6_method_10_code 18 = .ok (.iadd, 1) := by decide +kernel
theorem d13_19 : decode prog_6_method_10_code 19 = .ok (.invokevirtual 121, 3) := by decide +kernel
theorem d13_22 : decode prog_6_method_10_code 22 = .ok (.bipush 32, 2) := by decide +kernel
theorem d13_24 : decode prog_6_method_10_code 24 = .ok (.lshl, 1) := by decide +kernel
theorem d13_25 : decode prog_6_method_10_code 25 = .ok (.lor, 1) := by decide +kernel
theorem d13_26 : decode prog_6_method_10_code 26 = .ok (.lstore 4, 2) := by decide +kernel
theorem d13_28 : decode prog_6_method_10_code 28 = .ok (.iload_n 3, 1) := by decide +kernel
theorem d13_29 : decode prog_6_method_10_code 29 = .ok (.ifCond .ne 6, 3) := by decide +kernel
theorem d13_32 : decode prog_6_method_10_code 32 = .ok (.lload 4, 2) := by decide +kernel
theorem d13_34 : decode prog_6_method_10_code 34 = .ok (.lreturn, 1) := by decide +kernel
theorem d13_35 : decode prog_6_method_10_code 35 = .ok (.lload 4, 2) := by decide +kernel
theorem d13_37 : decode prog_6_method_10_code 37 = .ok (.iload_n 3, 1) := by decide +kernel
theorem d13_38 : decode prog_6_method_10_code 38 = .ok (.lushr, 1) := by decide +kernel
theorem d13_39 : decode prog_6_method_10_code 39 = .ok (.aload_n 0, 1) := by decide +kernel
theorem d13_40 : decode prog_6_method_10_code 40 = .ok (.iload_n 2, 1) := by decide +kernel
theorem d13_41 : decode prog_6_method_10_code 41 = .ok (.iconst 2, 1) := by decide +kernel
theorem d13_42 : decode prog_6_method_10_code 42 = .ok (.iadd, 1) := by decide +kernel
theorem d13_43 : decode prog_6_method_10_code 43 = .ok (.invokevirtual 121, 3) := by decide +kernel
theorem d13_46 : decode prog_6_method_10_code 46 = .ok (.bipush 64, 2) := by decide +kernel
theorem d13_48 : decode prog_6_method_10_code 48 = .ok (.iload_n 3, 1) := by decide +kernel
theorem d13_49 : decode prog_6_method_10_code 49 = .ok (.isub, 1) := by decide +kernel
theorem d13_50 : decode prog_6_method_10_code 50 = .ok (.lshl, 1) := by decide +kernel
theorem d13_51 : decode prog_6_method_10_code 51 = .ok (.lor, 1) := by decide +kernel
theorem d13_52 : decode prog_6_method_10_code 52 = .ok (.lreturn, 1) := by decide +kernel
theorem d14_0 : decode prog_6_method_13_code 0 = .ok (.iload_n 1, 1) := by decide +kernel
theorem d14_1 : decode prog_6_method_13_code 1 = .ok (.bipush 68, 2) := by decide +kernel
theorem d14_3 : decode prog_6_method_13_code 3 = .ok (.if_icmp .ge 12, 3) := by decide +kernel
theorem d14_6 : decode prog_6_method_13_code 6 = .ok (.aload_n 0, 1) := by decide +kernel
theorem d14_7 : decode prog_6_method_13_code 7 = .ok (.getfield 9, 3) := by decide +kernel
theorem d14_10 : decode prog_6_method_13_code 10 = .ok (.iload_n 1, 1) := by decide +kernel
theorem d14_11 : decode prog_6_method_13_code 11 = .ok (.laload, 1) := by decide +kernel
theorem d14_12 : decode prog_6_method_13_code 12 = .ok (.goto 4, 3) := by decide +kernel
theorem d14_16 : decode prog_6_method_13_code 16 = .ok (.lreturn, 1) := by decide +kernel
theorem d15_0 : decode prog_6_method_11_code 0 = .ok (.aload_n 0, 1) := by decide +kernel
theorem d15_1 : decode prog_6_method_11_code 1 = .ok (.iload_n 1, 1) := by decide +kernel
theorem d15_2 : decode prog_6_method_11_code 2 = .ok (.bipush 32, 2) := by decide +kernel
theorem d15_4 : decode prog_6_method_11_code 4 = .ok (.idiv, 1) := by decide +kernel
theorem d15_5 : decode prog_6_method_11_code 5 = .ok (.invokevirtual 121, 3) := by decide +kernel
theorem d15_8 : decode prog_6_method_11_code 8 = .ok (.iload_n 1, 1) := by decide +kernel
theorem d15_9 : decode prog_6_method_11_code 9 = .ok (.bipush 32, 2) := by decide +kernel
theorem d15_11 : decode prog_6_method_11_code 11 = .ok (.irem, 1) := by decide +kernel
theorem d15_12 : decode prog_6_method_11_code 12 = .ok (.lushr, 1) := by decide +kernel
theorem d15_13 : decode prog_6_method_11_code 13 = .ok (.lconst 1, 1) := by decide +kernel
theorem d15_14 : decode prog_6_method_11_code 14 = .ok (.land, 1) := by decide +kernel
theorem d15_15 : decode prog_6_method_11_code 15 = .ok (.lconst 1, 1) := by decide +kernel
theorem d15_16 : decode prog_6_method_11_code 16 = .ok (.lcmp, 1) := by decide +kernel
theorem d15_17 : decode prog_6_method_11_code 17 = .ok (.ifCond .ne 7, 3) := by decide +kernel
theorem d15_24 : decode prog_6_method_11_code 24 = .ok (.iconst 0, 1) := by decide +kernel
theorem d15_25 : decode prog_6_method_11_code 25 = .ok (.ireturn, 1) := by decide +kernel
theorem pd__III_V : parseMethodDescriptor "(III)V" = some ⟨[.int, .int, .int], none⟩ := by decide +kernel
theorem pd___JIIJ_V : parseMethodDescriptor "([JIIJ)V" = some ⟨[(.array .long), .int, .int, .long], none⟩ := by decide +kernel
theorem pd__I_I : parseMethodDescriptor "(I)I" = some ⟨[.int], some .int⟩ := by decide +kernel
theorem pd__I_J : parseMethodDescriptor "(I)J" = some ⟨[.int], some .long⟩ := by decide +kernel
theorem pd___V : parseMethodDescriptor "()V" = some ⟨[], none⟩ := by decide +kernel
theorem pd__J_I : parseMethodDescriptor "(J)I" = some ⟨[.long], some .int⟩ := by decide +kernel
theorem pd__II_I : parseMethodDescriptor "(II)I" = some ⟨[.int, .int], some .int⟩ := by decide +kernel
theorem pd__I_Z : parseMethodDescriptor "(I)Z" = some ⟨[.int], some .boolean⟩ := by decide +kernel
theorem pd__II_V : parseMethodDescriptor "(II)V" = some ⟨[.int, .int], none⟩ := by decide +kernel
theorem pd__D_V : parseMethodDescriptor "(D)V" = some ⟨[.double], none⟩ := by decide +kernel
theorem pd___D : parseMethodDescriptor "()D" = some ⟨[], some .double⟩ := by decide +kernel
/-! ## own toolkit: doubles by their whole number of units of 2^-1074 -/
section OwnFP
open Jvm.FP.Core
/-- a finite double, and its value in units of 2^-1074 -/
def Zv (a : UInt64) (z : Int) : Prop := DFin a ∧ zval b64 (val64 a) = z
theorem own_qmax : b64.qmax = 971 := by decide +kernel
theorem own_rep (s : Bool) {k j : Nat} (hk : k < 2 ^ 53) (hj : j ≤ 2045) : ∃ V : Datum, FP.Core.fits b64 V ∧ V ≠ .nan ∧ zval b64 V = signed s (k * 2 ^ j) := by
  have q1 := qmin_b64
  have q2 := own_qmax
  obtain ⟨c', q', e1, e2⟩ := round_exact good_b64 s (c := k) (q := b64.qmin + (j : Int)) hk (by omega) (by omega)
  refine ⟨_, round_fits good_b64 (.fin s k (b64.qmin + (j : Int))), by rw [e1]; simp, ?_⟩
  rw [e1]
  show signed s (inUnits c' q' b64.qmin) = _
  rw [e2]
  unfold inUnits
  rw [show (b64.qmin + (j : Int) - b64.qmin).toNat = j by omega]
theorem own_repZ {z k : Int} {j : Nat} (hk : k.natAbs < 2 ^ 53) (hj : j ≤ 2045) (hz : z = k * ((2 ^ j : Nat) : Int)) : ∃ V : Datum, FP.Core.fits b64 V ∧ V ≠ .nan ∧ zval b64 V = z := by
  obtain ⟨V, h1, h2, h3⟩ := own_rep (decide (k < 0)) hk hj
  refine ⟨V, h1, h2, ?_⟩
  rw [h3, hz, signed_mul]
  have : signed (decide (k < 0)) k.natAbs = k := by
    unfold signed
    by_cases h : k < 0
    · simp only [h, decide_true, if_true]; omega
    · simp only [h, decide_false]; simp; omega
  rw [this]
theorem own_round {s : Bool} {c : Nat} {q : Int} (hq : b64.qmin ≤ q) {z k : Int} {j : Nat} (hz : signed s (inUnits c q b64.qmin) = z) (hk : k.natAbs < 2 ^ 53) (hj : j ≤ 2045) (hzk : z = k * ((2 ^ j : Nat) : Int)) : zval b64 (round b64 (.fin s c q)) = z := by
  obtain ⟨V, h1, h2, h3⟩ := own_repZ hk hj hzk
  have e : ((2 ^ (b64.qmin - b64.qmin).toNat : Nat) : Int) = 1 := by rw [show (b64.qmin - b64.qmin).toNat = 0 by omega]; rfl
  apply Int.le_antisymm
  · rw [← h3]
    exact zval_round_le good_b64 h1 h2 (e0 := b64.qmin) (Int.le_refl _) hq (by rw [hz, h3, e]; omega)
  · rw [← h3]
    exact zval_round_ge good_b64 h1 h2 (e0 := b64.qmin) (Int.le_refl _) hq (by rw [hz, h3, e]; omega)
theorem own_small {k : Int} {j : Nat} (hk : k.natAbs < 2 ^ 53) (hj : j ≤ 2045) : (k * ((2 ^ j : Nat) : Int)).natAbs < 2 ^ 2098 := by
  rw [Int.natAbs_mul, Int.natAbs_natCast]
  have h2 : 2 ^ j ≤ 2 ^ 2045 := Nat.pow_le_pow_right (by decide) hj
  calc k.natAbs * 2 ^ j ≤ k.natAbs * 2 ^ 2045 := Nat.mul_le_mul_left _ h2
    _ < 2 ^ 53 * 2 ^ 2045 := Nat.mul_lt_mul_of_pos_right hk (Nat.two_pow_pos _)
    _ = 2 ^ 2098 := by rw [← Nat.pow_add]
theorem own_fin {d : Datum} (hn : d ≠ .nan) (h : (zval b64 d).natAbs < 2 ^ 2098) : ∃ s c q, d = .fin s c q := by
  cases d with
  | nan => exact absurd rfl hn
  | inf s =>
    exfalso
    have e : (zval b64 (.inf s)).natAbs = b64.tails * 2 ^ (b64.exps - 2) := natAbs_signed _ _
    rw [e] at h
    exact absurd h (by decide +kernel)
  | fin s c q => exact ⟨s, c, q, rfl⟩
theorem own_round_fin {s : Bool} {c : Nat} {q : Int} (hq : b64.qmin ≤ q) {z k : Int} {j : Nat} (hz : signed s (inUnits c q b64.qmin) = z) (hk : k.natAbs < 2 ^ 53) (hj : j ≤ 2045) (hzk : z = k * ((2 ^ j : Nat) : Int)) {a : UInt64} (ha : val64 a = round b64 (.fin s c q)) : Zv a z := by
  have h := own_round hq hz hk hj hzk
  refine ⟨?_, by rw [ha]; exact h⟩
  unfold DFin
  rw [ha]
  exact own_fin (roundRatio_ne_nan _ _ _ _ _) (by rw [h, hzk]; exact own_small hk hj)
theorem Zv.fin {a : UInt64} {z : Int} (h : Zv a z) : Fin64 a := fin64_core.mpr h.1
theorem Zv.noNaN {a : UInt64} {z : Int} (h : Zv a z) : NoNaN64 a := h.fin.noNaN
theorem Zv.dadd {a b : UInt64} {x y k : Int} {j : Nat} (ha : Zv a x) (hb : Zv b y) (hk : k.natAbs < 2 ^ 53) (hj : j ≤ 2045) (hz : x + y = k * ((2 ^ j : Nat) : Int)) : Zv (FP.dadd a b) (x + y) := by
  obtain ⟨⟨s, c, q, e1⟩, z1⟩ := ha
  obtain ⟨⟨t, d, r, e2⟩, z2⟩ := hb
  have f1 := val64_fits a
  have f2 := val64_fits b
  rw [e1] at f1 z1
  rw [e2] at f2 z2
  obtain ⟨sg, n, e, e3, e4, e5⟩ := sum_units f1 f2
  rw [z1, z2] at e5
  exact own_round_fin e4 e5 hk hj hz (by show val64 (FP.Core.dadd a b) = _; rw [val64_dadd, e1, e2, e3])
theorem Zv.dneg {a : UInt64} {x : Int} (ha : Zv a x) : Zv (FP.dneg a) (-x) := by
  obtain ⟨⟨s, c, q, e1⟩, z1⟩ := ha
  have e := FP.val64_dneg a
  refine ⟨⟨!s, c, q, by rw [e, e1]; rfl⟩, by rw [e, zval_negate, z1]⟩
theorem Zv.dsub {a b : UInt64} {x y k : Int} {j : Nat} (ha : Zv a x) (hb : Zv b y) (hk : k.natAbs < 2 ^ 53) (hj : j ≤ 2045) (hz : x - y = k * ((2 ^ j : Nat) : Int)) : Zv (FP.dsub a b) (x - y) := by
  obtain ⟨⟨s, c, q, e1⟩, z1⟩ := ha
  obtain ⟨⟨t, d, r, e2⟩, z2⟩ := hb
  have f1 := val64_fits a
  have f2 := negate_fits (val64_fits b)
  have z3 : zval b64 (negate (val64 b)) = -y := by rw [zval_negate, z2]
  rw [e1] at f1 z1
  rw [e2] at f2 z3
  obtain ⟨sg, n, e, e3, e4, e5⟩ := sum_units f1 (show FP.Core.fits b64 (.fin (!t) d r) from f2)
  rw [z1, show zval b64 (.fin (!t) d r) = -y from z3] at e5
  exact own_round_fin e4 (z := x - y) (by rw [e5]; omega) hk hj hz (by show val64 (FP.Core.dsub a b) = _; rw [val64_dsub, e1, e2]; show round b64 (exactSum _ (.fin (!t) d r)) = _; rw [e3])
theorem own_ofInt (i : Int) : signed (decide (i < 0)) (inUnits i.natAbs 0 b64.qmin) = i * ((2 ^ 1074 : Nat) : Int) := by
  unfold inUnits
  rw [signed_mul, qmin_b64]
  have : signed (decide (i < 0)) i.natAbs = i := by
    unfold signed
    by_cases h : i < 0
    · simp only [h, decide_true, if_true]; omega
    · simp only [h, decide_false]; simp; omega
  rw [this]
  rfl
theorem Zv.l2d {n : Int64} {k : Int} {j : Nat} (hk : k.natAbs < 2 ^ 53) (hj : j ≤ 971) (hn : n.toInt = k * ((2 ^ j : Nat) : Int)) : Zv (FP.l2d n) (n.toInt * ((2 ^ 1074 : Nat) : Int)) :=
  own_round_fin (q := 0) (by rw [qmin_b64]; decide) (own_ofInt n.toInt) hk (show j + 1074 ≤ 2045 by omega) (by rw [hn, Int.mul_assoc, Nat.pow_add, Int.natCast_mul]) (val64_l2d n)
theorem Zv.i2d (n : Int32) : Zv (FP.i2d n) (n.toInt * ((2 ^ 1074 : Nat) : Int)) :=
  own_round_fin (q := 0) (k := n.toInt) (j := 1074) (by rw [qmin_b64]; decide) (own_ofInt n.toInt) (by have := int32_abs n; omega) (by decide) rfl (val64_i2d n)
theorem Zv.dcmp_eq {a b : UInt64} {x : Int} (ha : Zv a x) (hb : Zv b x) : FP.dcmp a b = some .eq := by
  show FP.Core.dcmp a b = _
  rw [FP.Core.dcmp_eq]
  exact ⟨ha.1.ne_nan, hb.1.ne_nan, ha.2.trans hb.2.symm⟩
theorem Zv.dcmp_lt {a b : UInt64} {x y : Int} (ha : Zv a x) (hb : Zv b y) (h : x < y) : FP.dcmp a b = some .lt := by
  show FP.Core.dcmp a b = _
  rw [FP.Core.dcmp_lt]
  exact ⟨ha.1.ne_nan, hb.1.ne_nan, by rw [ha.2, hb.2]; exact h⟩
theorem Zv.dcmp_gt {a b : UInt64} {x y : Int} (ha : Zv a x) (hb : Zv b y) (h : y < x) : FP.dcmp a b = some .gt := by
  show FP.Core.dcmp a b = _
  rw [FP.Core.dcmp_gt]
  exact ⟨ha.1.ne_nan, hb.1.ne_nan, by rw [ha.2, hb.2]; exact h⟩
theorem own_zmag {a : UInt64} {x : Int} (ha : Zv a x) : zmag b64 (val64 a) = x.natAbs := by
  have h := congrArg Int.natAbs ha.2
  rw [← h]
  exact (natAbs_signed _ _).symm
/-- a quotient by a positive number, between two written numbers -/
theorem Zv.ddiv {a b : UInt64} {x y : Int} (ha : Zv a x) (hb : Zv b y) (hy : 0 < y) {k1 k2 j1 j2 : Nat} (hk1 : k1 < 2 ^ 53) (hj1 : j1 ≤ 2045) (hk2 : k2 < 2 ^ 53) (hj2 : j2 ≤ 2045)
    (h1 : k1 * 2 ^ j1 * y.natAbs ≤ x.natAbs * 2 ^ 1074) (h2 : x.natAbs * 2 ^ 1074 ≤ k2 * 2 ^ j2 * y.natAbs) : ∃ m : Nat, k1 * 2 ^ j1 ≤ m ∧ m ≤ k2 * 2 ^ j2 ∧ Zv (FP.ddiv a b) (if x < 0 then -(m : Int) else (m : Int)) := by
  have m1 := own_zmag ha
  have m2 := own_zmag hb
  obtain ⟨⟨s, A, q, e1⟩, z1⟩ := ha
  obtain ⟨⟨t, B, r, e2⟩, z2⟩ := hb
  have f1 := val64_fits a
  have f2 := val64_fits b
  rw [e1] at f1 m1 z1
  rw [e2] at f2 m2 z2
  have qa : b64.qmin ≤ q := f1.2.1
  have qb : b64.qmin ≤ r := f2.2.1
  have qm := qmin_b64
  have m1' : A * 2 ^ (q - b64.qmin).toNat = x.natAbs := m1
  have m2' : B * 2 ^ (r - b64.qmin).toNat = y.natAbs := m2
  have hB : 0 < B := Nat.pos_of_ne_zero fun e => by rw [e, Nat.zero_mul] at m2'; omega
  have ht : t = false := by
    cases t with
    | false => rfl
    | true =>
      exfalso
      have : -((B * 2 ^ (r - b64.qmin).toNat : Nat) : Int) = y := z2
      omega
  subst ht
  have ed : val64 (FP.ddiv a b) = roundRatio b64 s A B (q - r) := by
    show val64 (FP.Core.ddiv a b) = _
    rw [val64_ddiv, e1, e2]
    show (if B = 0 then _ else roundRatio b64 (s != false) A B (q - r)) = _
    rw [if_neg (by omega)]
    simp
  have eA : inUnits A (q - r) (2 * b64.qmin - r) = x.natAbs * 2 ^ 1074 := by
    rw [← m1']
    unfold inUnits
    rw [show (q - r - (2 * b64.qmin - r)).toNat = (q - b64.qmin).toNat + 1074 by omega, Nat.pow_add, Nat.mul_assoc]
  have eV : ∀ z : Nat, z * 2 ^ (b64.qmin - (2 * b64.qmin - r)).toNat * B = z * y.natAbs := fun z => by
    rw [show (b64.qmin - (2 * b64.qmin - r)).toNat = (r - b64.qmin).toNat by omega, Nat.mul_assoc, ← m2', Nat.mul_comm B]
  obtain ⟨V1, v1, n1, w1⟩ := own_rep false hk1 hj1
  obtain ⟨V2, v2, n2, w2⟩ := own_rep false hk2 hj2
  have zV : ∀ (V : Datum) (k : Nat), zval b64 V = signed false k → zmag b64 V = k := fun V k h => by
    have h := congrArg Int.natAbs h
    rw [show (signed false k).natAbs = k from natAbs_signed _ _] at h
    exact (natAbs_signed _ _).symm.trans h
  have u1 := zV _ _ w1
  have u2 := zV _ _ w2
  have lo := zmag_roundRatio_ge good_b64 (s := s) (A := A) (B := B) (e := q - r) (e0 := 2 * b64.qmin - r) hB v1 (by omega) (by omega) (by rw [eA, eV, u1]; exact h1)
  have hi := zmag_roundRatio_le good_b64 (s := s) (A := A) (B := B) (e := q - r) (e0 := 2 * b64.qmin - r) hB v2 n2 (by omega) (by omega) (by rw [eA, eV, u2]; exact h2)
  rw [u1] at lo
  rw [u2] at hi
  refine ⟨zmag b64 (roundRatio b64 s A B (q - r)), lo, hi, ?_, ?_⟩
  · unfold DFin
    rw [ed]
    refine own_fin (roundRatio_ne_nan _ _ _ _ _) ?_
    rw [show (zval b64 (roundRatio b64 s A B (q - r))).natAbs = _ from natAbs_signed _ _]
    refine Nat.lt_of_le_of_lt hi ?_
    have := own_small (k := (k2 : Int)) (j := j2) (by omega) hj2
    rw [← Int.natCast_mul, Int.natAbs_natCast] at this
    exact this
  · rw [ed]
    unfold zval
    rw [sgn_roundRatio]
    have z1' : signed s (A * 2 ^ (q - b64.qmin).toNat) = x := z1
    by_cases hx : x < 0
    · rw [if_pos hx]
      cases s with
      | true => rfl
      | false => exfalso; have : ((A * 2 ^ (q - b64.qmin).toNat : Nat) : Int) = x := z1'; omega
    · rw [if_neg hx]
      cases s with
      | false => rfl
      | true =>
        have h3 : -((A * 2 ^ (q - b64.qmin).toNat : Nat) : Int) = x := z1'
        have hA : A = 0 := by
          rcases Nat.eq_zero_or_pos A with h | h
          · exact h
          · exfalso; have := Nat.mul_pos h (Nat.two_pow_pos (q - b64.qmin).toNat); omega
        subst hA
        have : zmag b64 (roundRatio b64 true 0 B (q - r)) = 0 := by
          unfold roundRatio
          rw [if_pos rfl]
          show inUnits 0 _ _ = 0
          unfold inUnits
          exact Nat.zero_mul _
        rw [this]; rfl
theorem own_one : Zv (4607182418800017408 : UInt64) (((2 ^ 1074 : Nat) : Int)) := by
  have h : (4607182418800017408 : UInt64) = FP.i2d 1 := by decide +kernel
  rw [h]
  have := Zv.i2d 1
  rw [show (1 : Int32).toInt = 1 from rfl, Int.one_mul] at this
  exact this
theorem own_zero : Zv (0 : UInt64) 0 := ⟨⟨_, _, _, val64_zero⟩, zval64_zero⟩
end OwnFP
section OwnRel
open Jvm.FP.Core
/-- two written numbers around N / D, a 2^-52-th apart -/
theorem own_bracket (N D : Nat) (hD : 0 < D) (h : 2 ^ 53 * D ≤ N) (hi : N < D * 2 ^ 2000) : ∃ k1 j1 k2 j2 : Nat, k1 < 2 ^ 53 ∧ j1 ≤ 2045 ∧ k2 < 2 ^ 53 ∧ j2 ≤ 2045 ∧ k1 * 2 ^ j1 * D ≤ N ∧ N ≤ k2 * 2 ^ j2 * D ∧ 4503599627370496 * (k2 * 2 ^ j2 * D) ≤ 4503599627370497 * N ∧ 4503599627370495 * N ≤ 4503599627370496 * (k1 * 2 ^ j1 * D) := by
  have hE : 2 ^ 53 ≤ N / D := (Nat.le_div_iff_mul_le hD).mpr h
  have hE2 : N / D < 2 ^ 2000 := (Nat.div_lt_iff_lt_mul hD).mpr (by rw [Nat.mul_comm]; exact hi)
  have hN1 : N / D * D ≤ N := Nat.div_mul_le_self _ _
  have hN2 : N < (N / D + 1) * D := by
    have := Nat.div_add_mod N D
    have := Nat.mod_lt N hD
    rw [Nat.add_mul, Nat.one_mul, Nat.mul_comm]; omega
  generalize N / D = E at hE hE2 hN1 hN2
  have hE0 : E ≠ 0 := by
    have : 0 < 2 ^ 53 := Nat.two_pow_pos _
    omega
  have L1 : 53 ≤ E.log2 := (Nat.le_log2 hE0).mpr hE
  have L2 : E.log2 < 2000 := (Nat.log2_lt hE0).mpr hE2
  obtain ⟨j, hj⟩ : ∃ j, E.log2 = j + 52 := ⟨E.log2 - 52, by omega⟩
  have a1 : 2 ^ (j + 52) ≤ E := by rw [← hj]; exact Nat.log2_self_le hE0
  have a2 : E < 2 ^ (j + 53) := by rw [show j + 53 = E.log2 + 1 by omega]; exact Nat.lt_log2_self
  have hP : 0 < 2 ^ j := Nat.two_pow_pos _
  have b1 : 2 ^ 52 ≤ E / 2 ^ j := (Nat.le_div_iff_mul_le hP).mpr (by rw [← Nat.pow_add, Nat.add_comm]; exact a1)
  have b2 : E / 2 ^ j < 2 ^ 53 := (Nat.div_lt_iff_lt_mul hP).mpr (by rw [← Nat.pow_add, Nat.add_comm]; exact a2)
  have b3 : E / 2 ^ j * 2 ^ j ≤ E := Nat.div_mul_le_self _ _
  have b4 : E < (E / 2 ^ j + 1) * 2 ^ j := by
    have := Nat.div_add_mod E (2 ^ j)
    have := Nat.mod_lt E hP
    rw [Nat.add_mul, Nat.one_mul, Nat.mul_comm]; omega
  obtain ⟨k2, j2, c1, c2, c3⟩ : ∃ k2 j2, k2 < 2 ^ 53 ∧ j2 ≤ 2045 ∧ k2 * 2 ^ j2 = (E / 2 ^ j + 1) * 2 ^ j := by
    by_cases q : E / 2 ^ j + 1 < 2 ^ 53
    · exact ⟨_, j, q, by omega, rfl⟩
    · refine ⟨4503599627370496, j + 1, by decide, by omega, ?_⟩
      have e : 2 ^ (j + 1) = 2 ^ j * 2 := Nat.pow_succ ..
      rw [show E / 2 ^ j + 1 = 9007199254740992 by omega, e]
      omega
  refine ⟨E / 2 ^ j, j, k2, j2, b2, by omega, c1, c2, ?_⟩
  rw [c3]
  have b5 : 4503599627370496 * 2 ^ j ≤ E / 2 ^ j * 2 ^ j := Nat.mul_le_mul_right _ b1
  rw [Nat.add_mul, Nat.one_mul] at b4 ⊢
  generalize E / 2 ^ j * 2 ^ j = V at b3 b4 b5 ⊢
  generalize 2 ^ j = P at b4 b5 hP ⊢
  have d1 : V * D ≤ E * D := Nat.mul_le_mul_right _ b3
  have d2 : (E + 1) * D ≤ (V + P) * D := Nat.mul_le_mul_right _ b4
  have d3 : 4503599627370496 * (P * D) ≤ V * D := by rw [← Nat.mul_assoc]; exact Nat.mul_le_mul_right _ b5
  rw [Nat.add_mul V P D] at d2 ⊢
  generalize V * D = v at d1 d2 d3 ⊢
  generalize P * D = w at d2 d3 ⊢
  omega
theorem own_nat {x : Int} (h : 0 ≤ x) : (x.natAbs : Int) = x := Int.natAbs_of_nonneg h
/-- a sum of two numbers from nought on: within a 2^-52-th -/
theorem Zv.add_rel {a b : UInt64} {x y : Nat} (ha : Zv a (x : Int)) (hb : Zv b (y : Int)) (hi : x + y < 2 ^ 2000) : ∃ z : Nat, Zv (FP.dadd a b) (z : Int) ∧ 4503599627370496 * z ≤ 4503599627370497 * (x + y) ∧ 4503599627370495 * (x + y) ≤ 4503599627370496 * z := by
  by_cases hs : x + y < 2 ^ 53
  · have := Zv.dadd ha hb (k := ((x + y : Nat) : Int)) (j := 0) (by rw [Int.natAbs_natCast]; exact hs) (by decide) (by simp)
    refine ⟨x + y, this, ?_⟩
    omega
  · obtain ⟨k1, j1, k2, j2, r1, r2, r3, r4, l1, l2, l3, l4⟩ := own_bracket (x + y) 1 (by decide) (by omega) (by omega)
    obtain ⟨⟨s, c, q, e1⟩, z1⟩ := ha
    obtain ⟨⟨t, d, r, e2⟩, z2⟩ := hb
    have f1 := val64_fits a
    have f2 := val64_fits b
    rw [e1] at f1 z1
    rw [e2] at f2 z2
    obtain ⟨sg, n, e, e3, e4, e5⟩ := sum_units f1 f2
    rw [z1, z2] at e5
    have ev : val64 (FP.dadd a b) = round b64 (.fin sg n e) := by show val64 (FP.Core.dadd a b) = _; rw [val64_dadd, e1, e2, e3]
    obtain ⟨V1, v1, n1, w1⟩ := own_rep false r1 r2
    obtain ⟨V2, v2, n2, w2⟩ := own_rep false r3 r4
    have eu : ((2 ^ (b64.qmin - b64.qmin).toNat : Nat) : Int) = 1 := by rw [show (b64.qmin - b64.qmin).toNat = 0 by omega]; rfl
    have w1' : zval b64 V1 = ((k1 * 2 ^ j1 : Nat) : Int) := w1
    have w2' : zval b64 V2 = ((k2 * 2 ^ j2 : Nat) : Int) := w2
    rw [Nat.mul_one] at l1 l2 l3 l4
    have lo := zval_round_ge good_b64 v1 n1 (e0 := b64.qmin) (Int.le_refl _) e4 (s := sg) (c := n) (by rw [e5, w1', eu]; omega)
    have hi' := zval_round_le good_b64 v2 n2 (e0 := b64.qmin) (Int.le_refl _) e4 (s := sg) (c := n) (by rw [e5, w2', eu]; omega)
    rw [w1'] at lo
    rw [w2'] at hi'
    refine ⟨(zval b64 (round b64 (.fin sg n e))).toNat, ⟨?_, ?_⟩, ?_, ?_⟩
    · unfold DFin
      rw [ev]
      refine own_fin (roundRatio_ne_nan _ _ _ _ _) ?_
      have := own_small (k := (k2 : Int)) (j := j2) (by omega) r4
      rw [← Int.natCast_mul, Int.natAbs_natCast] at this
      omega
    · rw [ev]; omega
    · omega
    · omega
/-- a product of two numbers from nought on -/
theorem Zv.mul_rel {a b : UInt64} {x y : Nat} (U : Nat) (hU : U = 2 ^ 1074) (ha : Zv a (x : Int)) (hb : Zv b (y : Int)) (lo : x * y = 0 ∨ 2 ^ 53 * U ≤ x * y) (hi : x * y < U * 2 ^ 2000) : ∃ z : Nat, Zv (FP.dmul a b) (z : Int) ∧ 4503599627370496 * (z * U) ≤ 4503599627370497 * (x * y) ∧ 4503599627370495 * (x * y) ≤ 4503599627370496 * (z * U) := by
  have hUp : 0 < U := by rw [hU]; exact Nat.two_pow_pos _
  have m1 := own_zmag ha
  have m2 := own_zmag hb
  rw [Int.natAbs_natCast] at m1 m2
  obtain ⟨⟨s, c, q, e1⟩, z1⟩ := ha
  obtain ⟨⟨t, d, r, e2⟩, z2⟩ := hb
  have f1 := val64_fits a
  have f2 := val64_fits b
  rw [e1] at f1 m1 z1
  rw [e2] at f2 m2 z2
  obtain ⟨p1, p2, p3⟩ := product_units f1 f2
  rw [m1, m2] at p3
  have qm := qmin_b64
  have ev : val64 (FP.dmul a b) = roundRatio b64 (s != t) (c * d) 1 (q + r) := by
    show val64 (FP.Core.dmul a b) = _
    rw [val64_dmul, e1, e2, p1]; rfl
  have eU : 2 ^ (b64.qmin - 2 * b64.qmin).toNat = U := by rw [hU, show (b64.qmin - 2 * b64.qmin).toNat = 1074 by omega]
  have sg : x * y ≠ 0 → (s != t) = false := fun hn => by
    have x0 : x ≠ 0 := fun e => hn (by rw [e, Nat.zero_mul])
    have y0 : y ≠ 0 := fun e => hn (by rw [e, Nat.mul_zero])
    have : s = false := by
      cases s with
      | false => rfl
      | true => exfalso; have h : -((zmag b64 (.fin true c q) : Nat) : Int) = (x : Int) := z1; omega
    have : t = false := by
      cases t with
      | false => rfl
      | true => exfalso; have h : -((zmag b64 (.fin true d r) : Nat) : Int) = (y : Int) := z2; omega
    simp_all
  rcases lo with l0 | l0
  · have cd : c * d = 0 := by
      unfold inUnits at p3
      rw [l0] at p3
      rcases Nat.mul_eq_zero.mp p3 with h | h
      · exact h
      · exact absurd h (Nat.ne_of_gt (Nat.two_pow_pos _))
    have ez : roundRatio b64 (s != t) (c * d) 1 (q + r) = .fin (s != t) 0 b64.qmin := by unfold roundRatio; rw [if_pos cd]
    refine ⟨0, ⟨⟨_, _, _, ev.trans ez⟩, ?_⟩, by omega, by omega⟩
    rw [ev, ez]
    show signed _ (inUnits 0 _ _) = 0
    unfold inUnits
    rw [Nat.zero_mul, signed_zero]
  · have hpos : 0 < 2 ^ 53 * U := Nat.mul_pos (Nat.two_pow_pos _) hUp
    obtain ⟨k1, j1, k2, j2, r1, r2, r3, r4, l1, l2, l3, l4⟩ := own_bracket (x * y) U hUp l0 hi
    have hs := sg (by omega)
    rw [hs] at ev
    obtain ⟨V1, v1, n1, w1⟩ := own_rep false r1 r2
    obtain ⟨V2, v2, n2, w2⟩ := own_rep false r3 r4
    have zV : ∀ (V : Datum) (k : Nat), zval b64 V = signed false k → zmag b64 V = k := fun V k h => by
      have h := congrArg Int.natAbs h
      rw [show (signed false k).natAbs = k from natAbs_signed _ _] at h
      exact (natAbs_signed _ _).symm.trans h
    have u1 := zV _ _ w1
    have u2 := zV _ _ w2
    have lo := zmag_roundRatio_ge good_b64 (s := false) (A := c * d) (B := 1) (e := q + r) (e0 := 2 * b64.qmin) (by decide) v1 (by omega) p2 (by rw [p3, u1, eU, Nat.mul_one]; exact l1)
    have hi := zmag_roundRatio_le good_b64 (s := false) (A := c * d) (B := 1) (e := q + r) (e0 := 2 * b64.qmin) (by decide) v2 n2 (by omega) p2 (by rw [p3, u2, eU, Nat.mul_one]; exact l2)
    rw [u1] at lo
    rw [u2] at hi
    have fin : (k2 * 2 ^ j2) < 2 ^ 2098 := by
      have := own_small (k := (k2 : Int)) (j := j2) (by omega) r4
      rw [← Int.natCast_mul, Int.natAbs_natCast] at this
      exact this
    have lo' := Nat.mul_le_mul_right U lo
    have hi' := Nat.mul_le_mul_right U hi
    refine ⟨zmag b64 (roundRatio b64 false (c * d) 1 (q + r)), ⟨?_, ?_⟩, by omega, by omega⟩
    · unfold DFin
      rw [ev]
      refine own_fin (roundRatio_ne_nan _ _ _ _ _) ?_
      rw [show (zval b64 (roundRatio b64 false (c * d) 1 (q + r))).natAbs = _ from natAbs_signed _ _]
      omega
    · rw [ev]
      unfold zval
      rw [sgn_roundRatio]; rfl
/-- a quotient of two numbers, the dividend from nought on, the divisor above it -/
theorem Zv.div_rel {a b : UInt64} {x y : Nat} (U : Nat) (hU : U = 2 ^ 1074) (ha : Zv a (x : Int)) (hb : Zv b (y : Int)) (hy : 0 < y) (lo : x = 0 ∨ 2 ^ 53 * y ≤ x * U) (hi : x * U < y * 2 ^ 2000) : ∃ z : Nat, Zv (FP.ddiv a b) (z : Int) ∧ 4503599627370496 * (z * y) ≤ 4503599627370497 * (x * U) ∧ 4503599627370495 * (x * U) ≤ 4503599627370496 * (z * y) := by
  have hx : ¬ (x : Int) < 0 := by omega
  rcases lo with l0 | l0
  · subst l0
    obtain ⟨m, h1, h2, z⟩ := Zv.ddiv ha hb (by omega) (k1 := 0) (k2 := 0) (j1 := 0) (j2 := 0) (by decide) (by decide) (by decide) (by decide) (by simp) (by simp)
    rw [if_neg hx] at z
    have : m = 0 := by omega
    subst this
    exact ⟨0, z, by omega, by omega⟩
  · obtain ⟨k1, j1, k2, j2, r1, r2, r3, r4, l1, l2, l3, l4⟩ := own_bracket (x * U) y hy l0 hi
    obtain ⟨m, h1, h2, z⟩ := Zv.ddiv ha hb (by omega) r1 r2 r3 r4 (by rw [Int.natAbs_natCast, Int.natAbs_natCast, ← hU]; exact l1) (by rw [Int.natAbs_natCast, Int.natAbs_natCast, ← hU]; exact l2)
    rw [if_neg hx] at z
    have h1' := Nat.mul_le_mul_right y h1
    have h2' := Nat.mul_le_mul_right y h2
    exact ⟨m, z, by omega, by omega⟩
end OwnRel
section OwnNat
variable {p : Program} {l : Launch} {e : Env} {R : Room} {s : State} {m : MethodId} {args : Array Value} {below : List Frame} {meth : Method} {c : Code} {T : State} {locs : List Loc} {cells slots : Nat} {Z : State} {a0 : Array Value} {h : Heap}
/-- Double.doubleToRawLongBits, by the machine's own row -/
theorem own_dbits (X : Stand p l e R s m args below meth c T locs cells slots) (hx : p.tables.exec = Jvm.exec) (hZ : Z.Warmed39 s.vm) {own : String} {index : Nat} (hown : s.vm.findClass own = some m.cls) (w1 : (Cond.methodLink own index ⟨"java/lang/Double", "doubleToRawLongBits", "(D)J"⟩).before a0 Z = true) (w2 : (Cond.static ⟨"java/lang/Double", "doubleToRawLongBits", "(D)J"⟩).before a0 Z = true) (w3 : (Cond.initialized "java/lang/Double").before a0 Z = true) (w4 : (Cond.native ⟨"java/lang/Double", "doubleToRawLongBits", "(D)J"⟩).before a0 Z = true)
    (eT : T.heap = h) (hfr : 1 ≤ R.frames) {W : Nat} (hlo : W + 15 ≤ R.locals) {g : JFrame} (hg : g.method = m) (hsize : g.locals.size = c.maxLocals) {b : UInt64} {rest : List Value} (hs : g.stack = .double b :: rest) (hW : 2 * g.monitorRoom + (rest.map fun v => v.category).sum ≤ W) (hd : decode c.code g.pc = .ok (.invokestatic index, 3)) :
    ∃ T', Stand p l e R s m args below meth c T' locs cells slots ∧ T'.heap = h ∧ ∀ t, Steps p.tables e below (T'.setTop { g with pc := g.pc + 3, stack := .long b.toInt64 :: rest }) t → Steps p.tables e below (T.setTop g) t := by
  have hn : (Cond.native Jvm.Free.NT.doubleBitsN).before args s = true := mvT hZ w4
  obtain ⟨mk, mt, n1, n2, -, -, -, n6⟩ := Cond.native_spec hn
  obtain ⟨v, vm, B, -, X', ⟨e1, hv⟩, st⟩ := X.staticBack hx (y := Jvm.Free.NT.doubleBitsN) hown (mvT hZ w1) (mvT hZ w2) (mvT hZ w3) n1 n2 n6 (by decide) (Jvm.Free.NT.DoubleBits.pays (W := W) hn (mvT hZ w2) hfr hlo) hg hsize (Steps.refl _) (argsL := [.double b]) (rest := rest) (lenOf (d := "(D)J") (ps := [.double]) (r := some .long) (by decide +kernel) rfl) hs hW hd (fun _ _ => ⟨b, rfl⟩)
  have hv' := hv b rfl
  subst hv' e1
  exact ⟨_, X', eT, fun t k => st.trans k⟩
/-- Double.longBitsToDouble of bits that are no signalling NaN's -/
theorem own_lbits (X : Stand p l e R s m args below meth c T locs cells slots) (hx : p.tables.exec = Jvm.exec) (hZ : Z.Warmed39 s.vm) {own : String} {index : Nat} (hown : s.vm.findClass own = some m.cls) (w1 : (Cond.methodLink own index ⟨"java/lang/Double", "longBitsToDouble", "(J)D"⟩).before a0 Z = true) (w2 : (Cond.static ⟨"java/lang/Double", "longBitsToDouble", "(J)D"⟩).before a0 Z = true) (w3 : (Cond.initialized "java/lang/Double").before a0 Z = true) (w4 : (Cond.native ⟨"java/lang/Double", "longBitsToDouble", "(J)D"⟩).before a0 Z = true)
    (eT : T.heap = h) (hfr : 1 ≤ R.frames) {W : Nat} (hlo : W + 15 ≤ R.locals) {g : JFrame} (hg : g.method = m) (hsize : g.locals.size = c.maxLocals) {b : Int64} (hb : (b.toUInt64 &&& 0x7fffffffffffffff > 0x7ff0000000000000 && b.toUInt64 &&& 0x0008000000000000 == 0) = false) {rest : List Value} (hs : g.stack = .long b :: rest) (hW : 2 * g.monitorRoom + (rest.map fun v => v.category).sum ≤ W) (hd : decode c.code g.pc = .ok (.invokestatic index, 3)) :
    ∃ T', Stand p l e R s m args below meth c T' locs cells slots ∧ T'.heap = h ∧ ∀ t, Steps p.tables e below (T'.setTop { g with pc := g.pc + 3, stack := .double b.toUInt64 :: rest }) t → Steps p.tables e below (T.setTop g) t := by
  have hn : (Cond.native Jvm.Free.NT.longBitsN).before args s = true := mvT hZ w4
  obtain ⟨mk, mt, n1, n2, -, -, -, n6⟩ := Cond.native_spec hn
  obtain ⟨v, vm, B, -, X', ⟨e1, hv⟩, st⟩ := X.staticBack hx (y := Jvm.Free.NT.longBitsN) hown (mvT hZ w1) (mvT hZ w2) (mvT hZ w3) n1 n2 n6 (by decide) (Jvm.Free.NT.LongBits.pays (W := W) hn (mvT hZ w2) hfr hlo) hg hsize (Steps.refl _) (argsL := [.long b]) (rest := rest) (lenOf (d := "(J)D") (ps := [.long]) (r := some .double) (by decide +kernel) rfl) hs hW hd (fun _ _ => ⟨b, rfl, hb⟩)
  have hv' := hv b ⟨rfl, hb⟩
  subst hv' e1
  exact ⟨_, X', eT, fun t k => st.trans k⟩
end OwnNat
def own_L (n : Nat) (x y z : Int64) : List Value := (((List.replicate 68 (Value.long 0)).set n (.long x)).set (n + 1) (.long y)).set (n + 2) (.long z)
theorem own_len (n : Nat) (x y z : Int64) : (own_L n x y z).length = 68 := by simp [own_L]
theorem own_get (n : Nat) (x y z : Int64) (hn : n ≤ 65) (i : Nat) (hi : i < 68) : (own_L n x y z).getD i (.long (0 : Int64)) = .long (if i = n then x else if i = n + 1 then y else if i = n + 2 then z else 0) := by
  unfold own_L
  rw [List.getD_eq_getElem?_getD]
  simp only [List.getElem?_set, List.length_set, List.length_replicate]
  by_cases h2 : n + 2 = i
  · rw [if_pos h2, if_pos (by omega), if_neg (by omega), if_neg (by omega), if_pos h2.symm]; rfl
  · rw [if_neg h2]
    by_cases h1 : n + 1 = i
    · rw [if_pos h1, if_pos (by omega), if_neg (by omega), if_pos h1.symm]; rfl
    · rw [if_neg h1]
      by_cases h0 : n = i
      · rw [if_pos h0, if_pos (by omega), if_pos h0.symm]; rfl
      · rw [if_neg h0, if_neg (fun e => h0 e.symm), if_neg (fun e => h1 e.symm), if_neg (fun e => h2 e.symm), List.getElem?_replicate, if_pos hi]; rfl
theorem own_ext {L M : List Value} (h1 : L.length = 68) (h2 : M.length = 68) (h : ∀ i, i < 68 → L.getD i (.long (0 : Int64)) = M.getD i (.long (0 : Int64))) : L = M := by
  apply List.ext_getElem (by omega)
  intro i a b
  have := h i (by omega)
  rw [List.getD_eq_getElem?_getD, List.getD_eq_getElem?_getD, List.getElem?_eq_getElem a, List.getElem?_eq_getElem b] at this
  exact this
theorem own_getset (L : List Value) (hL : L.length = 68) (k : Nat) (hk : k < 68) (v : Value) (i : Nat) : (L.set k v).getD i (.long (0 : Int64)) = if i = k then v else L.getD i (.long (0 : Int64)) := by
  rw [List.getD_eq_getElem?_getD, List.getD_eq_getElem?_getD, List.getElem?_set]
  by_cases h : k = i
  · rw [if_pos h, if_pos (by omega), if_pos h.symm]; rfl
  · rw [if_neg h, if_neg (fun e => h e.symm)]
theorem own_set (n : Nat) (hn : n ≤ 65) (x y z w : Int64) : (own_L n x y z).set n (.long w) = own_L n w y z ∧ (own_L n x y z).set (n + 1) (.long w) = own_L n x w z ∧ (own_L n x y z).set (n + 2) (.long w) = own_L n x y w := by
  refine ⟨?_, ?_, ?_⟩
  all_goals
    refine own_ext (by rw [List.length_set, own_len]) (own_len ..) fun i hi => ?_
    rw [own_getset _ (own_len ..) _ (by omega), own_get _ _ _ _ hn _ hi, own_get _ _ _ _ hn _ hi]
    by_cases h0 : i = n
    · simp [h0] <;> omega
    · by_cases h1 : i = n + 1
      · simp [h1] <;> omega
      · by_cases h2 : i = n + 2
        · simp [h2] <;> omega
        · simp [h0, h1, h2]
theorem own_zeroL (n : Nat) (hn : n ≤ 65) : own_L n 0 0 0 = List.replicate 68 (Value.long 0) := by
  refine own_ext (own_len ..) (by simp) fun i hi => ?_
  rw [own_get _ _ _ _ hn _ hi, List.getD_eq_getElem?_getD, List.getElem?_replicate, if_pos hi]
  by_cases h0 : i = n
  · simp [h0]
  · by_cases h1 : i = n + 1
    · simp [h1]
    · by_cases h2 : i = n + 2
      · simp [h2]
      · simp [h0, h1, h2]
/-- a limb's number as an int -/
theorem own_ix {l : Int32} {n k : Nat} (hl : l.toInt = (n : Int)) (hn : n ≤ 65) (hk : k ≤ 3) : (l + Int32.ofNat k).toInt = ((n + k : Nat) : Int) := by
  rw [Int32.toInt_add, hl, Int32.toInt_ofNat_of_lt (by omega)]
  rw [Int.bmod_eq_of_le (by omega) (by omega)]; rfl
theorem own_rng {j : Int32} {k : Nat} (h : j.toInt = (k : Int)) (hk : k < 68) : (¬ j < 0 ∧ j < (68 : Int32)) ∧ j.toNatClampNeg = k := by
  rw [Int32.lt_iff_toInt_lt, Int32.lt_iff_toInt_lt, show (0 : Int32).toInt = 0 from rfl, show (68 : Int32).toInt = 68 from rfl, h]
  refine ⟨by omega, ?_⟩
  show j.toInt.toNat = k
  omega

theorem own_lt32 (x y : Int32) : x < y ↔ x.toInt < y.toInt := Int32.lt_iff_toInt_lt
theorem own_plt {x y : Int32} (h : x.toInt < y.toInt) : x < y := Int32.lt_iff_toInt_lt.mpr h
theorem own_nlt {x y : Int32} (h : y.toInt ≤ x.toInt) : ¬ x < y := fun q => by rw [own_lt32] at q; omega
theorem own_z32 : (0 : Int32).toInt = 0 := rfl
theorem own_68 : (68 : Int32).toInt = 68 := rfl
theorem own_i1 {l : Int32} {n : Nat} (hl : l.toInt = (n : Int)) (hn : n ≤ 65) : (l + (1 : Int32)).toInt = ((n + 1 : Nat) : Int) := own_ix (k := 1) hl hn (by decide)
theorem own_i2 {l : Int32} {n : Nat} (hl : l.toInt = (n : Int)) (hn : n ≤ 65) : ((l + (1 : Int32)) + (1 : Int32)).toInt = ((n + 2 : Nat) : Int) := by
  have h := own_i1 hl hn
  rw [Int32.toInt_add, h, show (1 : Int32).toInt = 1 from rfl, Int.bmod_eq_of_le (by omega) (by omega)]; omega
theorem own_i3 {l : Int32} {n : Nat} (hl : l.toInt = (n : Int)) (hn : n ≤ 65) : (((l + (1 : Int32)) + (1 : Int32)) + (1 : Int32)).toInt = ((n + 3 : Nat) : Int) := by
  have h := own_i2 hl hn
  rw [Int32.toInt_add, h, show (1 : Int32).toInt = 1 from rfl, Int.bmod_eq_of_le (by omega) (by omega)]; omega
theorem own_it {l : Int32} {n : Nat} (hl : l.toInt = (n : Int)) (hn : n ≤ 65) : (l + (3 : Int32)).toInt = ((n + 3 : Nat) : Int) := own_ix (k := 3) hl hn (by decide)
theorem own_three (l : Int32) : (((l + (1 : Int32)) + (1 : Int32)) + (1 : Int32)) = (l + (3 : Int32)) := by rw [Int32.add_assoc, Int32.add_assoc]; rfl
theorem own_at0 (n : Nat) (hn : n ≤ 65) (x y z : Int64) : (own_L n x y z).getD n (.long (0 : Int64)) = .long x := by rw [own_get _ _ _ _ hn _ (by omega), if_pos rfl]
theorem own_at1 (n : Nat) (hn : n ≤ 65) (x y z : Int64) : (own_L n x y z).getD (n + 1) (.long (0 : Int64)) = .long y := by rw [own_get _ _ _ _ hn _ (by omega), if_neg (by omega), if_pos rfl]
theorem own_at2 (n : Nat) (hn : n ≤ 65) (x y z : Int64) : (own_L n x y z).getD (n + 2) (.long (0 : Int64)) = .long z := by rw [own_get _ _ _ _ hn _ (by omega), if_neg (by omega), if_neg (by omega), if_pos rfl]
theorem own_msk {v : Int64} (h : 0 ≤ v.toInt ∧ v.toInt < 4294967296) : (v &&& (4294967295 : Int64)) = v := by
  refine Int64.toInt_inj.mp ?_
  rw [c_maskL v 4294967295 32 (by decide) (by decide)]
  have : ((2 ^ 32 : Nat) : Int) = 4294967296 := by decide
  omega
theorem own_sh0 {v : Int64} (h : 0 ≤ v.toInt ∧ v.toInt < 4294967296) : ((v.toUInt64 >>> ((32 : Int32) &&& 0x3f).toInt64.toUInt64).toInt64) = 0 := by
  refine Int64.toInt_inj.mp ?_
  rw [c_lushr v 32 32 (by decide) (by decide)]
  have : ((2 ^ 32 : Nat) : Int) = 4294967296 := by decide
  rw [this, show (0 : Int64).toInt = 0 from rfl]
  omega

/-! leading zeros -/
def own_nlz (i r : Int32) : Prop := ∃ d : Nat, d ≤ 31 ∧ r.toInt = 31 - (d : Int) ∧ ((2 ^ d : Nat) : Int) ≤ i.toInt ∧ i.toInt < ((2 ^ (d + 1) : Nat) : Int)
def own_P (i0 n i : Int32) (m : Nat) : Prop := ∃ d : Nat, n.toInt = 31 - (d : Int) ∧ i.toInt = i0.toInt / ((2 ^ d : Nat) : Int) ∧ 0 < i.toInt ∧ i.toInt < ((2 ^ m : Nat) : Int) ∧ 0 ≤ i0.toInt
theorem own_asym {i : Int32} (h : i < 0) : ¬ (0 : Int32) < i := fun q => by
  rw [own_lt32] at h q; omega
theorem own_P0 {i : Int32} (h : (0 : Int32) < i) : own_P i (31 : Int32) i 31 := by
  rw [own_lt32, own_z32] at h
  have := Int32.toInt_lt i
  refine ⟨0, rfl, ?_, h, ?_, by omega⟩
  · rw [show ((2 ^ 0 : Nat) : Int) = 1 from rfl, Int.ediv_one]
  · have : ((2 ^ 31 : Nat) : Int) = 2147483648 := by decide
    omega
theorem own_Pa {i0 n i : Int32} {m k : Nat} {K : Int32} (h : own_P i0 n i m) (hk : i < K) (hK : K.toInt = ((2 ^ k : Nat) : Int) := by decide) : own_P i0 n i k := by
  obtain ⟨d, h1, h2, h3, h4, h5⟩ := h
  rw [own_lt32, hK] at hk
  exact ⟨d, h1, h2, h3, hk, h5⟩
theorem own_Pstep {i0 n i : Int32} {m k m' : Nat} {K q nk : Int32} (h : own_P i0 n i m) (hk : ¬ i < K) (hK : K.toInt = ((2 ^ k : Nat) : Int)) (hq : q.toBitVec.toNat % 32 = k) (hk0 : 0 < k) (hnk : nk.toInt = -(k : Int)) (hm : m ≤ m' + k) (hm31 : m ≤ 31) (hk16 : k ≤ 16) : own_P i0 (n + nk) ((i.toUInt32 >>> (q &&& 31).toUInt32).toInt32) m' := by
  obtain ⟨d, h1, h2, h3, h4, h5⟩ := h
  have h6 : ((2 ^ k : Nat) : Int) ≤ i.toInt := by rw [own_lt32, hK] at hk; omega
  have e := c_iushr i q k hq hk0
  have ib := Int32.toInt_lt i
  rw [Int.emod_eq_of_lt (by omega) (by omega)] at e
  have hp : (0 : Int) < ((2 ^ k : Nat) : Int) := by have := Nat.two_pow_pos k; omega
  have hpd : (0 : Int) < ((2 ^ d : Nat) : Int) := by have := Nat.two_pow_pos d; omega
  have i0b := Int32.toInt_lt i0
  have hd : d ≤ 31 := by
    rcases Nat.lt_or_ge d 32 with q | q
    · omega
    · exfalso
      have : 2 ^ 32 ≤ 2 ^ d := Nat.pow_le_pow_right (by decide) q
      have : i0.toInt / ((2 ^ d : Nat) : Int) = 0 := Int.ediv_eq_zero_of_lt h5 (by omega)
      omega
  refine ⟨d + k, ?_, ?_, ?_, ?_, h5⟩
  · rw [Int32.toInt_add, hnk, h1, Int.bmod_eq_of_le (by omega) (by omega)]; omega
  · rw [e, h2, Int.ediv_ediv_of_nonneg (by omega), ← Int.natCast_mul, ← Nat.pow_add]
  · rw [e]
    have := (Int.le_ediv_iff_mul_le hp).mpr (show 1 * ((2 ^ k : Nat) : Int) ≤ i.toInt by omega)
    omega
  · rw [e]
    refine (Int.ediv_lt_iff_lt_mul hp).mpr ?_
    rw [← Int.natCast_mul, ← Nat.pow_add]
    have : 2 ^ m ≤ 2 ^ (m' + k) := Nat.pow_le_pow_right (by decide) hm
    omega
theorem own_Pb16 {i0 n i : Int32} (h : own_P i0 n i 31) (hk : ¬ i < (65536 : Int32)) : own_P i0 (n + (-16 : Int32)) ((i.toUInt32 >>> ((16 : Int32) &&& 31).toUInt32).toInt32) 16 := own_Pstep (k := 16) h hk (by decide) (by decide) (by decide) (by decide) (by decide) (by decide) (by decide)
theorem own_Pb8 {i0 n i : Int32} (h : own_P i0 n i 16) (hk : ¬ i < (256 : Int32)) : own_P i0 (n + (-8 : Int32)) ((i.toUInt32 >>> ((8 : Int32) &&& 31).toUInt32).toInt32) 8 := own_Pstep (k := 8) h hk (by decide) (by decide) (by decide) (by decide) (by decide) (by decide) (by decide)
theorem own_Pb4 {i0 n i : Int32} (h : own_P i0 n i 8) (hk : ¬ i < (16 : Int32)) : own_P i0 (n + (-4 : Int32)) ((i.toUInt32 >>> ((4 : Int32) &&& 31).toUInt32).toInt32) 4 := own_Pstep (k := 4) h hk (by decide) (by decide) (by decide) (by decide) (by decide) (by decide) (by decide)
theorem own_Pb2 {i0 n i : Int32} (h : own_P i0 n i 4) (hk : ¬ i < (4 : Int32)) : own_P i0 (n + (-2 : Int32)) ((i.toUInt32 >>> ((2 : Int32) &&& 31).toUInt32).toInt32) 2 := own_Pstep (k := 2) h hk (by decide) (by decide) (by decide) (by decide) (by decide) (by decide) (by decide)
theorem own_Pend {i0 n i : Int32} (h : own_P i0 n i 2) : own_nlz i0 (n - ((i.toUInt32 >>> ((1 : Int32) &&& 31).toUInt32).toInt32)) := by
  obtain ⟨d, h1, h2, h3, h4, h5⟩ := h
  have e := c_iushr i 1 1 (by decide) (by decide)
  have ib := Int32.toInt_lt i
  rw [Int.emod_eq_of_lt (by omega) (by omega)] at e
  have hpd : (0 : Int) < ((2 ^ d : Nat) : Int) := by have := Nat.two_pow_pos d; omega
  have i0b := Int32.toInt_lt i0
  have h4' : i.toInt < 4 := h4
  have lo : i.toInt * ((2 ^ d : Nat) : Int) ≤ i0.toInt := by rw [h2]; exact Int.ediv_mul_le _ (by omega)
  have hi : i0.toInt < (i.toInt + 1) * ((2 ^ d : Nat) : Int) := by rw [h2]; exact Int.lt_ediv_add_one_mul_self _ hpd
  have hd : d < 31 ∨ (d = 31 ∧ False) ∨ 31 ≤ d := by omega
  have hd31 : d ≤ 30 := by
    rcases Nat.lt_or_ge d 31 with q | q
    · omega
    · exfalso
      have : 2 ^ 31 ≤ 2 ^ d := Nat.pow_le_pow_right (by decide) q
      have : i0.toInt / ((2 ^ d : Nat) : Int) = 0 := Int.ediv_eq_zero_of_lt h5 (by omega)
      omega
  have e2 : ((2 ^ 1 : Nat) : Int) = 2 := rfl
  rw [e2] at e
  have sb : (n - ((i.toUInt32 >>> ((1 : Int32) &&& 31).toUInt32).toInt32)).toInt = n.toInt - i.toInt / 2 := by
    rw [Int32.toInt_sub, e, Int.bmod_eq_of_le (by omega) (by omega)]
  have p1 : (2 : Nat) ^ (d + 1) = 2 ^ d * 2 := Nat.pow_succ ..
  have p2 : (2 : Nat) ^ (d + 1 + 1) = 2 ^ d * 4 := by rw [Nat.pow_succ, p1, Nat.mul_assoc]
  by_cases q : i.toInt = 1
  · refine ⟨d, by omega, by rw [sb]; omega, ?_, ?_⟩
    · rw [q] at lo; omega
    · rw [q] at hi; rw [p1]; omega
  · refine ⟨d + 1, by omega, by rw [sb]; omega, ?_, ?_⟩
    · rw [p1]
      have : 2 * ((2 ^ d : Nat) : Int) ≤ i.toInt * ((2 ^ d : Nat) : Int) := Int.mul_le_mul_of_nonneg_right (by omega) (by omega)
      omega
    · rw [p2]
      have : (i.toInt + 1) * ((2 ^ d : Nat) : Int) ≤ 4 * ((2 ^ d : Nat) : Int) := Int.mul_le_mul_of_nonneg_right (by omega) (by omega)
      omega
theorem own_pw {j : Nat} (hj : j ≤ 31) : (1 : Int) ≤ ((2 ^ j : Nat) : Int) ∧ ((2 ^ (j + 1) : Nat) : Int) ≤ 4294967296 ∧ ((2 ^ (j + 1) : Nat) : Int) = 2 * ((2 ^ j : Nat) : Int) := by
  have h1 := Nat.two_pow_pos j
  have h2 : 2 ^ (j + 1) ≤ 2 ^ 32 := Nat.pow_le_pow_right (by decide) (by omega)
  have h3 : (2 : Nat) ^ (j + 1) = 2 ^ j * 2 := Nat.pow_succ ..
  omega
theorem own_xb {x : Int64} {j : Nat} (hj : j ≤ 31) (h1 : ((2 ^ j : Nat) : Int) ≤ x.toInt) (h2 : x.toInt < ((2 ^ (j + 1) : Nat) : Int)) : 1 ≤ x.toInt ∧ x.toInt < 4294967296 := by
  have := own_pw hj
  omega
theorem own_t32 {x : Int64} (h1 : 0 ≤ x.toInt) (h2 : x.toInt < 4294967296) : (x.toInt < 2147483648 → (x.toInt32).toInt = x.toInt) ∧ (2147483648 ≤ x.toInt → (x.toInt32).toInt = x.toInt - 4294967296) := by
  rw [Int64.toInt_toInt32]
  constructor
  · intro q; exact Int.bmod_eq_of_le (by omega) (by omega)
  · intro q
    rw [Int.bmod_def]
    have : x.toInt % ((2 ^ 32 : Nat) : Int) = x.toInt := Int.emod_eq_of_lt (by omega) (by omega)
    rw [this]
    rw [if_neg (by omega)]
    rfl
theorem own_xne {x : Int64} {j : Nat} (hj : j ≤ 31) (h1 : ((2 ^ j : Nat) : Int) ≤ x.toInt) (h2 : x.toInt < ((2 ^ (j + 1) : Nat) : Int)) : (x.toInt32) ≠ 0 := fun e => by
  have hb := own_xb hj h1 h2
  have ht := own_t32 (x := x) (by omega) hb.2
  rw [e, own_z32] at ht
  omega
theorem own_jl {x : Int64} {j : Nat} {r0 : Int32} (hj : j ≤ 31) (h1 : ((2 ^ j : Nat) : Int) ≤ x.toInt) (h2 : x.toInt < ((2 ^ (j + 1) : Nat) : Int)) (hr1 : x.toInt32 < 0 → r0 = 0) (hr2 : 0 < x.toInt32 → own_nlz (x.toInt32) r0) : ((32 : Int32) + r0).toInt = 63 - (j : Int) := by
  have hb := own_xb hj h1 h2
  have ht := own_t32 (x := x) (by omega) hb.2
  by_cases q : x.toInt < 2147483648
  · have e := ht.1 q
    obtain ⟨d, d1, d2, d3, d4⟩ := hr2 (own_plt (by rw [own_z32]; omega))
    rw [e] at d3 d4
    have hd : d = j := by
      rcases Nat.lt_trichotomy d j with r | r | r
      · exfalso
        have : 2 ^ (d + 1) ≤ 2 ^ j := Nat.pow_le_pow_right (by decide) r
        omega
      · exact r
      · exfalso
        have : 2 ^ (j + 1) ≤ 2 ^ d := Nat.pow_le_pow_right (by decide) r
        omega
    subst hd
    rw [Int32.toInt_add, d2, show (32 : Int32).toInt = 32 from rfl, Int.bmod_eq_of_le (by omega) (by omega)]; omega
  · have e := ht.2 (by omega)
    have hj31 : j = 31 := by
      rcases Nat.lt_or_ge j 31 with r | r
      · exfalso
        have : 2 ^ (j + 1) ≤ 2 ^ 31 := Nat.pow_le_pow_right (by decide) (by omega)
        omega
      · omega
    rw [hr1 (own_plt (by rw [own_z32]; omega)), hj31]; rfl

theorem own_if0 (n : Nat) (x y z : Int64) : (if n = n then x else if n = n + 1 then y else if n = n + 2 then z else 0) = x := if_pos rfl
theorem own_if1 (n : Nat) (x y z : Int64) : (if (n + 1) = n then x else if (n + 1) = n + 1 then y else if (n + 1) = n + 2 then z else 0) = y := by rw [if_neg (by omega), if_pos rfl]
theorem own_if2 (n : Nat) (x y z : Int64) : (if (n + 2) = n then x else if (n + 2) = n + 1 then y else if (n + 2) = n + 2 then z else 0) = z := by rw [if_neg (by omega), if_neg (by omega), if_pos rfl]
/-! the bits of a double as limbs -/
theorem own_mod64 {a b : Int} (h : (a - b) % 18446744073709551616 = 0) : a % 18446744073709551616 = b % 18446744073709551616 := by omega
theorem own_eqmod {a : Int64} {b : Int} (h : (a.toInt - b) % 18446744073709551616 = 0) (h0 : 0 ≤ b) (h1 : b < 9223372036854775808) : a.toInt = b := by
  have := Int64.toInt_lt a
  have := Int64.le_toInt a
  omega
/-- all that is asked of the limbs x, y, z of s * 2^k, s of 53 bits -/
theorem own_limbs {s : Int} {k : Nat} (hs1 : 4503599627370496 ≤ s) (hs2 : s < 9007199254740992) (hk : k < 32) (X Y Z : Int) (hX : X = (s * ((2 ^ k : Nat) : Int)) % 4294967296) (hY : Y = ((s * ((2 ^ k : Nat) : Int)) % 18446744073709551616) / 4294967296) (hZ : Z = (s * ((2 ^ k : Nat) : Int)) / 18446744073709551616) :
    (0 ≤ X ∧ X < 4294967296) ∧ (0 ≤ Y ∧ Y < 4294967296) ∧ (0 ≤ Z ∧ Z < 4294967296) ∧ X + Y * 4294967296 = (s * ((2 ^ k : Nat) : Int)) % 18446744073709551616 ∧ X + Y * 4294967296 + Z * 18446744073709551616 = s * ((2 ^ k : Nat) : Int) ∧
    ((12 ≤ k ∧ ((2 ^ (k - 12) : Nat) : Int) ≤ Z ∧ Z < ((2 ^ (k - 12 + 1) : Nat) : Int)) ∨ (k < 12 ∧ Z = 0 ∧ ((2 ^ (20 + k) : Nat) : Int) ≤ Y ∧ Y < ((2 ^ (20 + k + 1) : Nat) : Int))) ∧ X % ((2 ^ k : Nat) : Int) = 0 := by
  have kp : (1 : Int) ≤ ((2 ^ k : Nat) : Int) := by have := Nat.two_pow_pos k; omega
  have kb : ((2 ^ k : Nat) : Int) ≤ 2147483648 := by
    have : 2 ^ k ≤ 2 ^ 31 := Nat.pow_le_pow_right (by decide) (by omega)
    omega
  have V1 : 4503599627370496 * ((2 ^ k : Nat) : Int) ≤ s * ((2 ^ k : Nat) : Int) := Int.mul_le_mul_of_nonneg_right hs1 (by omega)
  have V2 : s * ((2 ^ k : Nat) : Int) + ((2 ^ k : Nat) : Int) ≤ 9007199254740992 * ((2 ^ k : Nat) : Int) := by
    have : (s + 1) * ((2 ^ k : Nat) : Int) ≤ 9007199254740992 * ((2 ^ k : Nat) : Int) := Int.mul_le_mul_of_nonneg_right (by omega) (by omega)
    rw [Int.add_mul] at this; omega
  have hdv : X % ((2 ^ k : Nat) : Int) = 0 := by
    have e : (4294967296 : Int) = ((2 ^ k : Nat) : Int) * ((2 ^ (32 - k) : Nat) : Int) := by
      rw [← Int.natCast_mul, ← Nat.pow_add, show k + (32 - k) = 32 by omega]; rfl
    rw [hX, e, Int.emod_emod_of_dvd _ (Int.dvd_mul_right _ _), Int.mul_emod_left]
  have hhi : (12 ≤ k ∧ ((2 ^ (k - 12) : Nat) : Int) ≤ Z ∧ Z < ((2 ^ (k - 12 + 1) : Nat) : Int)) ∨ (k < 12 ∧ Z = 0 ∧ ((2 ^ (20 + k) : Nat) : Int) ≤ Y ∧ Y < ((2 ^ (20 + k + 1) : Nat) : Int)) := by
    by_cases q : 12 ≤ k
    · left
      have e1 : (2 : Nat) ^ k = 2 ^ (k - 12) * 4096 := by rw [show (4096 : Nat) = 2 ^ 12 by decide, ← Nat.pow_add, show k - 12 + 12 = k by omega]
      have e2 : (2 : Nat) ^ (k - 12 + 1) = 2 ^ (k - 12) * 2 := Nat.pow_succ ..
      rw [e1] at V1 V2 hZ kp
      rw [e2]
      generalize (2 : Nat) ^ (k - 12) = w at V1 V2 hZ kp ⊢
      generalize s * ((w * 4096 : Nat) : Int) = V at V1 V2 hZ
      omega
    · right
      have e1 : (2 : Nat) ^ (20 + k) = 1048576 * 2 ^ k := by rw [Nat.pow_add]
      have e2 : (2 : Nat) ^ (20 + k + 1) = 1048576 * 2 ^ k * 2 := by rw [Nat.pow_succ, e1]
      have kb2 : 2 ^ k ≤ 2 ^ 11 := Nat.pow_le_pow_right (by decide) (by omega)
      rw [e1, e2]
      generalize (2 : Nat) ^ k = w at V1 V2 hZ hY kb2 kp ⊢
      generalize s * ((w : Nat) : Int) = V at V1 V2 hZ hY
      omega
  generalize s * ((2 ^ k : Nat) : Int) = V at *
  generalize ((2 ^ k : Nat) : Int) = K at *
  refine ⟨by omega, by omega, by omega, by omega, by omega, hhi, hdv⟩
theorem own_sh_1 (x : Int64) (q : Int32) (hq : q.toBitVec.toNat % 64 = 0) : ((x.toUInt64 >>> (q &&& 0x3f).toInt64.toUInt64).toInt64) = x := by
  have h := (sm64 q 0 hq).1
  have e : (q &&& 0x3f).toInt64.toUInt64 = 0 := by
    apply UInt64.toBitVec_inj.mp
    exact h
  rw [e]; simp
theorem own_bit0 {x : Int64} {q : Int32} {k : Nat} (hk : k < 32) (hq : q.toInt = (k : Int)) (hx : 0 ≤ x.toInt ∧ x.toInt < 4294967296) (hd : x.toInt % ((2 ^ (k + 1) : Nat) : Int) = 0) : ((x.toUInt64 >>> (q &&& 0x3f).toInt64.toUInt64).toInt64 &&& (1 : Int64)) = 0 := by
  have hqn : q.toBitVec.toNat % 64 = k := by
    have h1 : q.toBitVec.toNat = k := by
      have h2 := q.toBitVec.toInt_eq_toNat_cond
      have e : q.toBitVec.toInt = (k : Int) := hq
      have h3 := q.toBitVec.isLt
      rw [e] at h2
      split at h2 <;> omega
    omega
  refine Int64.toInt_inj.mp ?_
  rw [c_maskL _ 1 1 (by decide) (by decide)]
  have e : ((2 ^ 1 : Nat) : Int) = 2 := rfl
  rw [e, show (0 : Int64).toInt = 0 from rfl]
  rcases Nat.eq_zero_or_pos k with h | h
  · subst h
    rw [own_sh_1 x q hqn]
    exact hd
  · rw [c_lushr x q k hqn h, show x.toInt % 18446744073709551616 = x.toInt from Int.emod_eq_of_lt (by omega) (by omega)]
    have e3 : ((2 ^ (k + 1) : Nat) : Int) = ((2 ^ k : Nat) : Int) * 2 := by rw [Nat.pow_succ, Int.natCast_mul]; rfl
    rw [e3] at hd
    have hp : (0 : Int) < ((2 ^ k : Nat) : Int) := by have := Nat.two_pow_pos k; omega
    obtain ⟨c, hc⟩ := Int.dvd_of_emod_eq_zero hd
    rw [hc, Int.mul_assoc, Int.mul_ediv_cancel_left _ (by omega), Int.mul_emod_right]
theorem own_b {xb : UInt64} (h : xb.toNat < 9223372036854775808) : xb.toInt64.toInt = (xb.toNat : Int) := by
  show xb.toBitVec.toInt = _
  rw [BitVec.toInt_eq_toNat_of_lt]
  · rfl
  · show 2 * xb.toNat < 2 ^ 64; omega
theorem own_q32 {q : Int32} {k : Nat} (hq : q.toInt = (k : Int)) (hk : k < 64) : q.toBitVec.toNat % 64 = k := by
  have h2 := q.toBitVec.toInt_eq_toNat_cond
  have e : q.toBitVec.toInt = (k : Int) := hq
  have h3 := q.toBitVec.isLt
  rw [e] at h2
  split at h2 <;> omega
/-- the sign's, the exponent's and the fraction's fields -/
theorem own_fields {xb : UInt64} (h1 : 9007199254740992 ≤ xb.toNat) (h2 : xb.toNat < 1090 * 4503599627370496) :
    ((((xb.toInt64.toUInt64 >>> ((52 : Int32) &&& 0x3f).toInt64.toUInt64).toInt64).toInt32) &&& (2047 : Int32)).toInt = (xb.toNat : Int) / 4503599627370496 ∧ (xb.toInt64 &&& (4503599627370495 : Int64)).toInt = (xb.toNat : Int) % 4503599627370496 := by
  have hb := own_b (xb := xb) (by omega)
  constructor
  · have a := c_lushr xb.toInt64 52 52 (by decide) (by decide)
    rw [hb, show ((2 ^ 52 : Nat) : Int) = 4503599627370496 by decide, show (xb.toNat : Int) % 18446744073709551616 = (xb.toNat : Int) from Int.emod_eq_of_lt (by omega) (by omega)] at a
    rw [c_mask _ 2047 11 (by decide) (by decide), Int64.toInt_toInt32, a, show ((2 ^ 11 : Nat) : Int) = 2048 by decide]
    rw [Int.bmod_eq_of_le (by omega) (by omega)]
    omega
  · rw [c_maskL _ 4503599627370495 52 (by decide) (by decide), hb, show ((2 ^ 52 : Nat) : Int) = 4503599627370496 by decide]
theorem own_sigv {sg0 : Int64} (h : 0 ≤ sg0.toInt ∧ sg0.toInt < 4503599627370496) : (sg0 ||| (4503599627370496 : Int64)).toInt = sg0.toInt + 4503599627370496 := by
  have a := c_orL' sg0 (4503599627370496 : Int64) 52 (by decide) 4503599627370496 (by decide) (by decide) h.1 h.2
  rw [show (4503599627370496 : Int64).toInt = 4503599627370496 from rfl] at a
  rw [own_eqmod a (by omega) (by omega)]; omega
theorem own_div32 {pos : Int32} {P : Nat} (h : pos.toInt = (P : Int)) : (pos / (32 : Int32)).toInt = ((P / 32 : Nat) : Int) ∧ (pos % (32 : Int32)).toInt = ((P % 32 : Nat) : Int) := by
  have a := (c_idiv pos 32 32 rfl (by decide)).1 (by omega)
  have b := (c_irem pos 32 32 rfl).1 (by omega)
  rw [a, b, h]
  exact ⟨rfl, rfl⟩
theorem own_u4 (s z K M : Int) (hK : 0 < K) : (s * K - z * (K * M)) / K = s - z * M := by
  rw [show s * K - z * (K * M) = (s - z * M) * K by rw [Int.sub_mul, Int.mul_assoc z M K, Int.mul_comm M K]]
  exact Int.mul_ediv_cancel _ (by omega)
set_option maxHeartbeats 1000000 in
theorem own_packN (xb : UInt64) (h1 : 9007199254740992 ≤ xb.toNat) (h2 : xb.toNat < 1090 * 4503599627370496) : ∃ (ex : Int32) (sg0 sig : Int64) (pos li sh : Int32) (hi x y z r : Int64) (n k kq : Nat),
    ((((xb.toInt64.toUInt64 >>> ((52 : Int32) &&& 0x3f).toInt64.toUInt64).toInt64).toInt32) &&& (2047 : Int32)) = ex ∧ (xb.toInt64 &&& (4503599627370495 : Int64)) = sg0 ∧ ((0 : Int32) < ex ∧ (sg0 ||| (4503599627370496 : Int64)) = sig ∧ (ex - (1 : Int32)) = pos) ∧ (pos / (32 : Int32)) = li ∧ (pos % (32 : Int32)) = sh ∧
    ((sh = (0 : Int32) ∧ (0 : Int64) = hi) ∨ (¬ sh = (0 : Int32) ∧ ((sig.toUInt64 >>> (((64 : Int32) - sh) &&& 0x3f).toInt64.toUInt64).toInt64) = hi)) ∧ ((0 : Int64) + ((sig <<< (sh &&& 0x3f).toInt64) &&& (4294967295 : Int64))) = x ∧ ((0 : Int64) + (((sig <<< (sh &&& 0x3f).toInt64).toUInt64 >>> ((32 : Int32) &&& 0x3f).toInt64.toUInt64).toInt64)) = y ∧ ((0 : Int64) + hi) = z ∧
    li.toInt = (n : Int) ∧ n ≤ 65 ∧ (0 ≤ x.toInt ∧ x.toInt < 4294967296) ∧ (0 ≤ y.toInt ∧ y.toInt < 4294967296) ∧ (0 ≤ z.toInt ∧ z.toInt < 4294967296) ∧ k < 32 ∧ pos.toInt = 32 * (n : Int) + (k : Int) ∧ 0 < pos.toInt ∧ pos.toInt < 2046 ∧
    (sh = (0 : Int32) → (x ||| (y <<< ((32 : Int32) &&& 0x3f).toInt64)) = r) ∧ (¬ sh = (0 : Int32) → ((((x ||| (y <<< ((32 : Int32) &&& 0x3f).toInt64)).toUInt64 >>> (sh &&& 0x3f).toInt64.toUInt64).toInt64) ||| (z <<< (((64 : Int32) - sh) &&& 0x3f).toInt64)) = r) ∧ (r &&& (9007199254740991 : Int64)) = sig ∧
    ((12 ≤ k ∧ ((2 ^ (k - 12) : Nat) : Int) ≤ z.toInt ∧ z.toInt < ((2 ^ (k - 12 + 1) : Nat) : Int)) ∨ (k < 12 ∧ z.toInt = 0 ∧ ((2 ^ (20 + k) : Nat) : Int) ≤ y.toInt ∧ y.toInt < ((2 ^ (20 + k + 1) : Nat) : Int))) ∧
    kq < 68 ∧ ((pos - (1 : Int32)) / (32 : Int32)).toInt = (kq : Int) ∧ (((if kq = n then x else if kq = n + 1 then y else if kq = n + 2 then z else 0).toUInt64 >>> (((pos - (1 : Int32)) % (32 : Int32)) &&& 0x3f).toInt64.toUInt64).toInt64 &&& (1 : Int64)) = 0 ∧
    ((pos.toInt64 <<< ((52 : Int32) &&& 0x3f).toInt64) + sig) = xb.toInt64 ∧ (xb.toInt64.toUInt64 &&& 0x7fffffffffffffff > 0x7ff0000000000000 && xb.toInt64.toUInt64 &&& 0x0008000000000000 == 0) = false := by
  have hb := own_b (xb := xb) (by omega)
  obtain ⟨f1, f2⟩ := own_fields h1 h2
  obtain ⟨ex, e1⟩ : ∃ q, q = ((((xb.toInt64.toUInt64 >>> ((52 : Int32) &&& 0x3f).toInt64.toUInt64).toInt64).toInt32) &&& (2047 : Int32)) := ⟨_, rfl⟩
  obtain ⟨sg0, e2⟩ : ∃ q, q = (xb.toInt64 &&& (4503599627370495 : Int64)) := ⟨_, rfl⟩
  rw [← e1] at f1
  rw [← e2] at f2
  obtain ⟨N, hN⟩ : ∃ N : Nat, xb.toNat = N := ⟨_, rfl⟩
  rw [hN] at f1 f2 h1 h2 hb
  have f3 := own_sigv (sg0 := sg0) (by omega)
  obtain ⟨sig, e3⟩ : ∃ q, q = (sg0 ||| (4503599627370496 : Int64)) := ⟨_, rfl⟩
  rw [← e3] at f3
  obtain ⟨P, hP⟩ : ∃ P : Nat, P + 1 = N / 4503599627370496 := ⟨N / 4503599627370496 - 1, by omega⟩
  obtain ⟨pos, e4⟩ : ∃ q, q = (ex - (1 : Int32)) := ⟨_, rfl⟩
  have f4 : pos.toInt = (P : Int) := by
    rw [e4, Int32.toInt_sub, f1, show (1 : Int32).toInt = 1 from rfl, Int.bmod_eq_of_le (by omega) (by omega)]; omega
  obtain ⟨f5, f6⟩ := own_div32 f4
  obtain ⟨li, e5⟩ : ∃ q, q = (pos / (32 : Int32)) := ⟨_, rfl⟩
  obtain ⟨sh, e6⟩ : ∃ q, q = (pos % (32 : Int32)) := ⟨_, rfl⟩
  rw [← e5] at f5
  rw [← e6] at f6
  obtain ⟨n, hn⟩ : ∃ n : Nat, n = P / 32 := ⟨_, rfl⟩
  obtain ⟨k, hk⟩ : ∃ k : Nat, k = P % 32 := ⟨_, rfl⟩
  rw [← hn] at f5
  rw [← hk] at f6
  have k32 : k < 32 := by omega
  have qk := own_q32 f6 (by omega)
  have sh0 : sh = 0 ↔ k = 0 := by
    constructor
    · intro q; rw [q, own_z32] at f6; omega
    · intro q; apply Int32.toInt_inj.mp; rw [f6, q]; rfl
  -- the three limbs
  have g0 := c_lshl sig sh k qk
  obtain ⟨low, e7⟩ : ∃ q, q = (sig <<< (sh &&& 0x3f).toInt64) := ⟨_, rfl⟩
  rw [← e7] at g0
  have g1 := own_mod64 g0
  have gx : ((0 : Int64) + (low &&& (4294967295 : Int64))).toInt = (sig.toInt * ((2 ^ k : Nat) : Int)) % 4294967296 := by
    rw [Int64.zero_add, c_maskL _ 4294967295 32 (by decide) (by decide), show ((2 ^ 32 : Nat) : Int) = 4294967296 by decide]
    omega
  have gy : ((0 : Int64) + ((low.toUInt64 >>> ((32 : Int32) &&& 0x3f).toInt64.toUInt64).toInt64)).toInt = ((sig.toInt * ((2 ^ k : Nat) : Int)) % 18446744073709551616) / 4294967296 := by
    rw [Int64.zero_add, c_lushr low 32 32 (by decide) (by decide), show ((2 ^ 32 : Nat) : Int) = 4294967296 by decide, g1]
  obtain ⟨x, ex7⟩ : ∃ q, q = ((0 : Int64) + (low &&& (4294967295 : Int64))) := ⟨_, rfl⟩
  obtain ⟨y, ex8⟩ : ∃ q, q = ((0 : Int64) + ((low.toUInt64 >>> ((32 : Int32) &&& 0x3f).toInt64.toUInt64).toInt64)) := ⟨_, rfl⟩
  rw [← ex7] at gx
  rw [← ex8] at gy
  have kk : ((2 ^ k : Nat) : Int) * ((2 ^ (64 - k) : Nat) : Int) = 18446744073709551616 := by
    rw [← Int.natCast_mul, ← Nat.pow_add, show k + (64 - k) = 64 by omega]; rfl
  have kp : (0 : Int) < ((2 ^ k : Nat) : Int) := by have := Nat.two_pow_pos k; omega
  have kp2 : (0 : Int) < ((2 ^ (64 - k) : Nat) : Int) := by have := Nat.two_pow_pos (64 - k); omega
  have s64 : ¬ k = 0 → ((64 : Int32) - sh).toBitVec.toNat % 64 = 64 - k := fun h => by
    refine own_q32 ?_ (by omega)
    rw [Int32.toInt_sub, f6, show (64 : Int32).toInt = 64 from rfl, Int.bmod_eq_of_le (by omega) (by omega)]; omega
  have s1 : 4503599627370496 ≤ sig.toInt := by omega
  have s2 : sig.toInt < 9007199254740992 := by omega
  obtain ⟨hi, eh, gh⟩ : ∃ hi : Int64, ((sh = (0 : Int32) ∧ (0 : Int64) = hi) ∨ (¬ sh = (0 : Int32) ∧ ((sig.toUInt64 >>> (((64 : Int32) - sh) &&& 0x3f).toInt64.toUInt64).toInt64) = hi)) ∧ ((0 : Int64) + hi).toInt = (sig.toInt * ((2 ^ k : Nat) : Int)) / 18446744073709551616 := by
    by_cases q : k = 0
    · refine ⟨0, Or.inl ⟨sh0.mpr q, rfl⟩, ?_⟩
      rw [q, show ((2 ^ 0 : Nat) : Int) = 1 from rfl, Int.mul_one, Int.ediv_eq_zero_of_lt (by omega) (by omega)]; rfl
    · refine ⟨_, Or.inr ⟨fun e => q (sh0.mp e), rfl⟩, ?_⟩
      rw [Int64.zero_add, c_lushr sig ((64 : Int32) - sh) (64 - k) (s64 q) (by omega), show sig.toInt % 18446744073709551616 = sig.toInt from Int.emod_eq_of_lt (by omega) (by omega), ← kk, Int.mul_comm sig.toInt, Int.mul_ediv_mul_of_pos _ _ kp]
  obtain ⟨z, ex9⟩ : ∃ q, q = ((0 : Int64) + hi) := ⟨_, rfl⟩
  rw [← ex9] at gh
  obtain ⟨bx, bY, bz, L1, L2, htop, xd⟩ := own_limbs s1 s2 k32 x.toInt y.toInt z.toInt gx gy gh
  -- read back
  have w1 := c_lshl y 32 32 (by decide)
  rw [show ((2 ^ 32 : Nat) : Int) = 4294967296 by decide] at w1
  have w2 := c_orL' x (y <<< ((32 : Int32) &&& 0x3f).toInt64) 32 (by decide) 4294967296 (by decide) (by omega) bx.1 bx.2
  obtain ⟨w, ew⟩ : ∃ q, q = (x ||| (y <<< ((32 : Int32) &&& 0x3f).toInt64)) := ⟨_, rfl⟩
  rw [← ew] at w2
  have w3 : w.toInt % 18446744073709551616 = (sig.toInt * ((2 ^ k : Nat) : Int)) % 18446744073709551616 := by rw [← L1]; omega
  obtain ⟨r, er0, er1, er⟩ : ∃ r : Int64, (sh = (0 : Int32) → w = r) ∧ (¬ sh = (0 : Int32) → (((w.toUInt64 >>> (sh &&& 0x3f).toInt64.toUInt64).toInt64) ||| (z <<< (((64 : Int32) - sh) &&& 0x3f).toInt64)) = r) ∧ r.toInt = sig.toInt := by
    by_cases q : k = 0
    · refine ⟨w, fun _ => rfl, fun h => absurd (sh0.mpr q) h, ?_⟩
      rw [q, show ((2 ^ 0 : Nat) : Int) = 1 from rfl, Int.mul_one] at w3
      exact own_eqmod (by omega) (by omega) (by omega)
    · refine ⟨_, fun h => absurd (sh0.mp h) q, fun _ => rfl, ?_⟩
      have u1 := c_lushr w sh k qk (by omega)
      have u2 := c_lshl z ((64 : Int32) - sh) (64 - k) (s64 q)
      rw [w3] at u1
      have u3 : (sig.toInt * ((2 ^ k : Nat) : Int)) % 18446744073709551616 = sig.toInt * ((2 ^ k : Nat) : Int) - z.toInt * 18446744073709551616 := by omega
      have u4 : (sig.toInt * ((2 ^ k : Nat) : Int) - z.toInt * 18446744073709551616) / ((2 ^ k : Nat) : Int) = sig.toInt - z.toInt * ((2 ^ (64 - k) : Nat) : Int) := by
        rw [← kk]
        exact own_u4 _ _ _ _ kp
      rw [u3, u4] at u1
      have u5 : 0 ≤ sig.toInt - z.toInt * ((2 ^ (64 - k) : Nat) : Int) ∧ sig.toInt - z.toInt * ((2 ^ (64 - k) : Nat) : Int) < ((2 ^ (64 - k) : Nat) : Int) := by
        rw [← u4, ← u3]
        refine ⟨Int.ediv_nonneg (Int.emod_nonneg _ (by decide)) (by omega), Int.ediv_lt_of_lt_mul kp ?_⟩
        rw [Int.mul_comm ((2 ^ (64 - k) : Nat) : Int), kk]
        exact Int.emod_lt_of_pos _ (by decide)
      have u6 : (z <<< (((64 : Int32) - sh) &&& 0x3f).toInt64).toInt % ((2 ^ (64 - k) : Nat) : Int) = 0 := by
        have a := own_mod64 u2
        have d : ((2 ^ (64 - k) : Nat) : Int) ∣ 18446744073709551616 := by rw [← kk]; exact Int.dvd_mul_left _ _
        rw [← Int.emod_emod_of_dvd _ d, a, Int.emod_emod_of_dvd _ d, Int.mul_emod_left]
      have u7 := c_orL' ((w.toUInt64 >>> (sh &&& 0x3f).toInt64.toUInt64).toInt64) (z <<< (((64 : Int32) - sh) &&& 0x3f).toInt64) (64 - k) (by omega) ((2 ^ (64 - k) : Nat) : Int) rfl u6 (by rw [u1]; exact u5.1) (by rw [u1]; exact u5.2)
      refine own_eqmod (b := sig.toInt) ?_ (by omega) (by omega)
      rw [u1] at u7
      generalize z.toInt * ((2 ^ (64 - k) : Nat) : Int) = zz at u2 u7
      omega
  have er2 : (r &&& (9007199254740991 : Int64)) = sig := by
    refine Int64.toInt_inj.mp ?_
    rw [c_maskL _ 9007199254740991 53 (by decide) (by decide), er, show ((2 ^ 53 : Nat) : Int) = 9007199254740992 by decide, Int.emod_eq_of_lt (by omega) (by omega)]
  have pm : (pos - (1 : Int32)).toInt = ((P - 1 : Nat) : Int) := by
    rw [Int32.toInt_sub, f4, show (1 : Int32).toInt = 1 from rfl, Int.bmod_eq_of_le (by omega) (by omega)]; omega
  obtain ⟨d1, d2⟩ := own_div32 pm
  refine ⟨ex, sg0, sig, pos, li, sh, hi, x, y, z, r, n, k, (P - 1) / 32, e1.symm, e2.symm, ⟨own_plt (by rw [own_z32, f1]; omega), e3.symm, e4.symm⟩, e5.symm, e6.symm, eh, by rw [ex7, e7], by rw [ex8, e7], ex9.symm, f5, by omega, bx, bY, bz, k32, by rw [f4]; omega, by omega, by omega, fun h => by rw [← ew]; exact er0 h, fun h => by rw [← ew]; exact er1 h, er2, htop, by omega, d1, ?_, ?_, ?_⟩
  · by_cases q : k = 0
    · have : ¬ (P - 1) / 32 = n := by omega
      rw [if_neg this, if_neg (by omega), if_neg (by omega)]
      exact own_bit0 (k := (P - 1) % 32) (by omega) d2 (by decide) (by rw [show (0 : Int64).toInt = 0 from rfl, Int.zero_emod])
    · have : (P - 1) / 32 = n := by omega
      rw [if_pos this]
      refine own_bit0 (k := (P - 1) % 32) (by omega) d2 bx ?_
      rw [show (P - 1) % 32 + 1 = k by omega]
      exact xd
  · refine Int64.toInt_inj.mp ?_
    have a := c_lshl pos.toInt64 52 52 (by decide)
    rw [Int32.toInt_toInt64, f4, show ((2 ^ 52 : Nat) : Int) = 4503599627370496 by decide] at a
    have b := c_ladd (pos.toInt64 <<< ((52 : Int32) &&& 0x3f).toInt64) sig
    rw [hb]
    refine own_eqmod ?_ (by omega) (by omega)
    omega
  · have e : xb.toInt64.toUInt64 = xb := by simp
    rw [e]
    have : ¬ (xb &&& 0x7fffffffffffffff > 0x7ff0000000000000) := by
      rw [gt_iff_lt, UInt64.lt_iff_toNat_lt, FP.Core.mask_toNat, hN]
      have : (0x7ff0000000000000 : UInt64).toNat = 9218868437227405312 := by decide
      omega
    simp [this]

theorem own_t1 {l : Int32} {n : Nat} (hl : l.toInt = (n : Int)) (hn : n ≤ 65) : ((l + (3 : Int32)) - (1 : Int32)).toInt = ((n + 2 : Nat) : Int) := by
  rw [Int32.toInt_sub, own_it hl hn, show (1 : Int32).toInt = 1 from rfl, Int.bmod_eq_of_le (by omega) (by omega)]; omega
theorem own_t2 {l : Int32} {n : Nat} (hl : l.toInt = (n : Int)) (hn : n ≤ 65) : (((l + (3 : Int32)) - (1 : Int32)) + (-1 : Int32)).toInt = ((n + 1 : Nat) : Int) := by
  rw [Int32.toInt_add, own_t1 hl hn, show (-1 : Int32).toInt = -1 from rfl, Int.bmod_eq_of_le (by omega) (by omega)]; omega
theorem own_t3 {l : Int32} {n : Nat} (hl : l.toInt = (n : Int)) (hn : n ≤ 65) : ((((l + (3 : Int32)) - (1 : Int32)) + (-1 : Int32)) + (-1 : Int32)).toInt = ((n + 0 : Nat) : Int) := by
  rw [Int32.toInt_add, own_t2 hl hn, show (-1 : Int32).toInt = -1 from rfl, Int.bmod_eq_of_le (by omega) (by omega)]; omega
theorem own_t4 {l : Int32} {n : Nat} (hl : l.toInt = (n : Int)) (hn : n ≤ 65) : (((((l + (3 : Int32)) - (1 : Int32)) + (-1 : Int32)) + (-1 : Int32)) + (-1 : Int32)).toInt = (n : Int) - 1 := by
  rw [Int32.toInt_add, own_t3 hl hn, show (-1 : Int32).toInt = -1 from rfl, Int.bmod_eq_of_le (by omega) (by omega)]; omega
theorem own_2046 : (2046 : Int32).toInt = 2046 := rfl
theorem own_back (xb : UInt64) : xb.toInt64.toUInt64 = xb := by simp
theorem own_lc0 (z : Int64) : lcmpW z (0 : Int64) = (0 : Int32) ↔ z.toInt = 0 := by
  have h := c_lcmp z 0
  rw [show (0 : Int64).toInt = 0 from rfl] at h
  constructor
  · intro q
    rw [q, own_z32] at h
    rcases Int.lt_trichotomy z.toInt 0 with r | r | r
    · have := h.1 r; omega
    · exact r
    · have := h.2.2 r; omega
  · intro q; exact Int32.toInt_inj.mp (h.2.1 q)
theorem own_zne {z : Int64} (h : ¬ lcmpW z (0 : Int64) = (0 : Int32)) : ¬ z.toInt = 0 := fun q => h ((own_lc0 z).mpr q)
theorem own_zeq {z : Int64} (h : lcmpW z (0 : Int64) = (0 : Int32)) : z.toInt = 0 := (own_lc0 z).mp h
theorem own_lcne {z : Int64} (h : ¬ z.toInt = 0) : ¬ (lcmpW z (0 : Int64) = (0 : Int32)) := fun q => h ((own_lc0 z).mp q)
theorem own_mx {g pos : Int32} (h : g.toInt = pos.toInt + 52) (h1 : 0 < pos.toInt) (h2 : pos.toInt < 2046) : (if (0 : Int32) < (g - (52 : Int32)) then (g - (52 : Int32)) else (0 : Int32)) = pos := by
  have e : (g - (52 : Int32)).toInt = pos.toInt := by
    rw [Int32.toInt_sub, h, show (52 : Int32).toInt = 52 from rfl, Int.bmod_eq_of_le (by omega) (by omega)]; omega
  rw [if_pos (own_plt (by rw [own_z32, e]; exact h1))]
  exact Int32.toInt_inj.mp e
theorem own_hg {top r0 : Int32} {kt : Nat} {j : Nat} {Q : Int} (ht : top.toInt = (kt : Int)) (hr : r0.toInt = 63 - (j : Int)) (hk : kt < 68) (hj : j ≤ 31) (hQ : 32 * (kt : Int) + (j : Int) = Q) : ((((top * (32 : Int32)) + (64 : Int32)) - (1 : Int32)) - r0).toInt = Q := by
  have a : (top * (32 : Int32)).toInt = 32 * (kt : Int) := by
    rw [Int32.toInt_mul, ht, show (32 : Int32).toInt = 32 from rfl, Int.bmod_eq_of_le (by omega) (by omega)]; omega
  have b : ((top * (32 : Int32)) + (64 : Int32)).toInt = 32 * (kt : Int) + 64 := by
    rw [Int32.toInt_add, a, show (64 : Int32).toInt = 64 from rfl, Int.bmod_eq_of_le (by omega) (by omega)]
  have c : (((top * (32 : Int32)) + (64 : Int32)) - (1 : Int32)).toInt = 32 * (kt : Int) + 63 := by
    rw [Int32.toInt_sub, b, show (1 : Int32).toInt = 1 from rfl, Int.bmod_eq_of_le (by omega) (by omega)]; omega
  rw [Int32.toInt_sub, c, hr, Int.bmod_eq_of_le (by omega) (by omega)]; omega
def own_PB (xb : UInt64) : Prop := xb = 0 ∨ (9007199254740992 ≤ xb.toNat ∧ xb.toNat < 1090 * 4503599627370496)
theorem b53_of {x : Int32} {n : Nat} (h1 : x.toInt = (n : Int)) (h2 : n < 2147483648) : B53 x.toInt64 := by
  unfold B53; rw [Int32.toInt_toInt64, h1]; omega
section OwnPB
open Jvm.FP.Core
theorem own_zbits {xb : UInt64} {z : Nat} (h : Zv xb (z : Int)) (hz : 9007199254740992 ≤ z) : 9007199254740992 ≤ xb.toNat ∧ xb.toNat < 9223372036854775808 := by
  have hn := h.1.ne_nan
  have hzm := own_zmag h
  rw [Int.natAbs_natCast] at hzm
  have hs : sgn (val64 xb) = false := by
    cases q : sgn (val64 xb) with
    | false => rfl
    | true =>
      exfalso
      have := h.2
      unfold zval at this
      rw [q] at this
      have e : -((zmag b64 (val64 xb) : Nat) : Int) = (z : Int) := this
      omega
  have hb := sgn_bits hn
  rw [hs] at hb
  have lt : xb.toNat < 9223372036854775808 := by
    have := of_decide_eq_false hb.symm
    have e : (2 : Nat) ^ 63 = 9223372036854775808 := by decide
    omega
  refine ⟨?_, lt⟩
  have hu := zmag_bits hn
  rw [hzm] at hu
  have e2 : unitsOf b64 (2 * b64.tails) = b64.tails * 2 ^ (2 - 1) := unitsOf_start (by decide)
  have ht : b64.tails = 4503599627370496 := by decide
  rw [ht] at e2
  have : unitsOf b64 (2 * 4503599627370496) ≤ unitsOf b64 (xb.toNat % 2 ^ 63) := by rw [e2, ← hu]; omega
  have := unitsOf_le_iff.mp this
  have e63 : (2 : Nat) ^ 63 = 9223372036854775808 := by decide
  have e3 : xb.toNat % 2 ^ 63 = xb.toNat := Nat.mod_eq_of_lt (by omega)
  omega
theorem own_mk (a : Int32) : ∃ n : Nat, (a &&& (2147483647 : Int32)).toInt = (n : Int) ∧ n < 2147483648 := by
  have h := c_and a (2147483647 : Int32) (by decide)
  have e : (2147483647 : Int32).toInt = 2147483647 := rfl
  exact ⟨(a &&& (2147483647 : Int32)).toInt.toNat, by omega, by omega⟩
theorem own_PBi (a : Int32) : own_PB (FP.i2d (a &&& (2147483647 : Int32))) := by
  obtain ⟨n, h1, h2⟩ := own_mk a
  rcases Nat.eq_zero_or_pos n with h | h
  · left
    have : (a &&& (2147483647 : Int32)) = 0 := Int32.toInt_inj.mp (by rw [h1, h]; rfl)
    rw [this]; decide +kernel
  · right
    have z := Zv.i2d (a &&& (2147483647 : Int32))
    rw [h1, ← Int.natCast_mul] at z
    have hp : 9007199254740992 ≤ n * 2 ^ 1074 := Nat.le_trans (Nat.le_trans (show 9007199254740992 ≤ 2 ^ 53 by decide) (Nat.pow_le_pow_right (by decide) (by decide : 53 ≤ 1074))) (Nat.le_mul_of_pos_left _ h)
    have b := own_zbits z hp
    have m : Mag64 1056 (FP.i2d (a &&& (2147483647 : Int32))) := Fl.i2d_mag _
    unfold Mag64 at m
    omega
theorem own_magm (a c : Int32) : Mag64 1090 (FP.dmul (FP.i2d a) (FP.i2d c)) := (Fl.dmul_mag (Fl.i2d_mag a) (Fl.i2d_mag c) (by decide) (by decide)).mono (by decide)
theorem own_nnm (a c : Int32) : NoNaN64 (FP.dmul (FP.i2d a) (FP.i2d c)) := ((own_magm a c).fin (by decide)).noNaN
theorem own_PBm (a c : Int32) : own_PB (FP.dmul (FP.i2d (a &&& (2147483647 : Int32))) (FP.i2d (c &&& (2147483647 : Int32)))) := by
  obtain ⟨n, h1, h2⟩ := own_mk a
  obtain ⟨m, g1, g2⟩ := own_mk c
  have mg := own_magm (a &&& (2147483647 : Int32)) (c &&& (2147483647 : Int32))
  by_cases q : n = 0 ∨ m = 0
  · left
    rw [i2d_w, i2d_w, dmul_z (b53_of h1 h2) (b53_of g1 g2) (by
      rcases q with q | q
      · left; exact Int64.toInt_inj.mp (by rw [Int32.toInt_toInt64, h1, q]; rfl)
      · right; exact Int64.toInt_inj.mp (by rw [Int32.toInt_toInt64, g1, q]; rfl))]
    rw [Int32.toInt_toInt64, Int32.toInt_toInt64, h1, g1, decide_eq_false (by omega), decide_eq_false (by omega)]
    decide +kernel
  · right
    have z1 := Zv.i2d (a &&& (2147483647 : Int32))
    have z2 := Zv.i2d (c &&& (2147483647 : Int32))
    rw [h1, ← Int.natCast_mul] at z1
    rw [g1, ← Int.natCast_mul] at z2
    have hU : 9007199254740992 ≤ 2 ^ 1074 := Nat.le_trans (show 9007199254740992 ≤ 2 ^ 53 by decide) (Nat.pow_le_pow_right (by decide) (by decide : 53 ≤ 1074))
    have hU2 : (2 : Nat) ^ 1074 * 2 ^ 200 ≤ 2 ^ 2000 := by rw [← Nat.pow_add]; exact Nat.pow_le_pow_right (by decide) (by decide)
    obtain ⟨U, eU⟩ : ∃ U : Nat, U = 2 ^ 1074 := ⟨_, rfl⟩
    rw [← eU] at z1 z2 hU hU2
    have nm : n * U * (m * U) = n * m * U * U := by ac_rfl
    have nmp : 1 ≤ n * m := Nat.mul_pos (by omega) (by omega)
    have nmu : n * m ≤ 2147483648 * 2147483648 := Nat.mul_le_mul (by omega) (by omega)
    have l1 : 2 ^ 53 * U ≤ n * m * U * U := Nat.mul_le_mul_right _ (Nat.le_trans (show 2 ^ 53 ≤ U from hU) (Nat.le_mul_of_pos_left _ nmp))
    have l2 : n * m * U * U < U * 2 ^ 2000 := by
      rw [Nat.mul_comm U]
      refine Nat.mul_lt_mul_of_pos_right ?_ (by omega)
      refine Nat.lt_of_lt_of_le ?_ hU2
      rw [Nat.mul_comm U]
      exact Nat.mul_lt_mul_of_pos_right (Nat.lt_of_le_of_lt nmu (by decide)) (by omega)
    obtain ⟨z, zz, -, u2⟩ := Zv.mul_rel U eU z1 z2 (Or.inr (by rw [nm]; exact l1)) (by rw [nm]; exact l2)
    rw [nm] at u2
    have u3 : 4503599627370495 * (n * m * U) ≤ 4503599627370496 * z := by
      refine Nat.le_of_mul_le_mul_right (c := U) ?_ (by omega)
      rw [Nat.mul_assoc 4503599627370495 (n * m * U) U, Nat.mul_assoc 4503599627370496 z U]; exact u2
    have u4 : U ≤ n * m * U := Nat.le_mul_of_pos_left _ nmp
    have hU3 : 36028797018963968 ≤ U := by rw [eU]; exact Nat.le_trans (show 36028797018963968 ≤ 2 ^ 60 by decide) (Nat.pow_le_pow_right (by decide) (by decide : 60 ≤ 1074))
    have b := own_zbits zz (by generalize n * m * U = w at u3 u4; omega)
    unfold Mag64 at mg
    omega
end OwnPB

/-- all that add and value ask of a number's bits -/
theorem own_cmp {xb : UInt64} (h : own_PB xb) : ¬ ((FP.cmpInt (-1) (FP.dcmp xb (0 : UInt64))) < (0 : Int32)) ∧ (FP.cmpInt 1 (FP.dcmp xb (9218868437227405312 : UInt64))) < (0 : Int32) ∧ FP.dcmp xb xb = some .eq := by
  have hlt : xb.toNat < 4912830593507328000 := by
    rcases h with h | h
    · rw [h]; decide
    · omega
  have hf : FP.Core.DFin xb := by rw [FP.Core.fin_bits]; have : (2 : Nat) ^ 63 = 9223372036854775808 := (by decide); omega
  have hn := hf.ne_nan
  have z0 : FP.Core.val64 0 ≠ .nan := by rw [FP.Core.val64_zero]; simp
  refine ⟨?_, ?_, FP.Core.dcmp_self hn⟩
  · have e : FP.dcmp xb 0 = some (compare (FP.Core.dkey xb) (FP.Core.dkey 0)) := FP.Core.dcmp_key hn z0
    have k1 : FP.Core.dkey xb = (xb.toNat : Int) := by unfold FP.Core.dkey; rw [if_neg (by have : (2 : Nat) ^ 63 = 9223372036854775808 := (by decide); omega)]
    have k0 : FP.Core.dkey 0 = 0 := by decide
    rw [e, k1, k0]
    rcases Nat.eq_zero_or_pos xb.toNat with q | q
    · rw [q]; decide
    · rw [(FP.Core.compare_gt_iff _ _).mpr (by omega)]; decide
  · rw [show FP.dcmp xb 9218868437227405312 = some .lt from (FP.Core.fin_lt_inf hf).1]; decide
theorem own_pack (xb : UInt64) (h : own_PB xb) : ∃ (ex : Int32) (sg0 sig : Int64) (pos li sh : Int32) (hi x y z : Int64) (n : Nat), ((((xb.toInt64.toUInt64 >>> ((52 : Int32) &&& 0x3f).toInt64.toUInt64).toInt64).toInt32) &&& (2047 : Int32)) = ex ∧ (xb.toInt64 &&& (4503599627370495 : Int64)) = sg0 ∧ (((0 : Int32) < ex ∧ (sg0 ||| (4503599627370496 : Int64)) = sig ∧ (ex - (1 : Int32)) = pos) ∨ (¬ ((0 : Int32) < ex) ∧ sg0 = sig ∧ (0 : Int32) = pos)) ∧ (pos / (32 : Int32)) = li ∧ (pos % (32 : Int32)) = sh ∧ ((sh = (0 : Int32) ∧ (0 : Int64) = hi) ∨ (¬ sh = (0 : Int32) ∧ ((sig.toUInt64 >>> (((64 : Int32) - sh) &&& 0x3f).toInt64.toUInt64).toInt64) = hi)) ∧ ((0 : Int64) + ((sig <<< (sh &&& 0x3f).toInt64) &&& (4294967295 : Int64))) = x ∧ ((0 : Int64) + (((sig <<< (sh &&& 0x3f).toInt64).toUInt64 >>> ((32 : Int32) &&& 0x3f).toInt64.toUInt64).toInt64)) = y ∧ ((0 : Int64) + hi) = z ∧ li.toInt = (n : Int) ∧ n ≤ 65 ∧ (0 ≤ x.toInt ∧ x.toInt < 4294967296) ∧ (0 ≤ y.toInt ∧ y.toInt < 4294967296) ∧ (0 ≤ z.toInt ∧ z.toInt < 4294967296) ∧ ((x = 0 ∧ y = 0 ∧ z = 0 ∧ xb = 0) ∨ ∃ (r : Int64) (k kq : Nat), k < 32 ∧ pos.toInt = 32 * (n : Int) + (k : Int) ∧ 0 < pos.toInt ∧ pos.toInt < 2046 ∧ (sh = (0 : Int32) → (x ||| (y <<< ((32 : Int32) &&& 0x3f).toInt64)) = r) ∧ (¬ sh = (0 : Int32) → ((((x ||| (y <<< ((32 : Int32) &&& 0x3f).toInt64)).toUInt64 >>> (sh &&& 0x3f).toInt64.toUInt64).toInt64) ||| (z <<< (((64 : Int32) - sh) &&& 0x3f).toInt64)) = r) ∧ (r &&& (9007199254740991 : Int64)) = sig ∧ ((12 ≤ k ∧ ((2 ^ (k - 12) : Nat) : Int) ≤ z.toInt ∧ z.toInt < ((2 ^ (k - 12 + 1) : Nat) : Int)) ∨ (k < 12 ∧ z.toInt = 0 ∧ ((2 ^ (20 + k) : Nat) : Int) ≤ y.toInt ∧ y.toInt < ((2 ^ (20 + k + 1) : Nat) : Int))) ∧ kq < 68 ∧ ((pos - (1 : Int32)) / (32 : Int32)).toInt = (kq : Int) ∧ (((if kq = n then x else if kq = n + 1 then y else if kq = n + 2 then z else 0).toUInt64 >>> (((pos - (1 : Int32)) % (32 : Int32)) &&& 0x3f).toInt64.toUInt64).toInt64 &&& (1 : Int64)) = 0 ∧ ((pos.toInt64 <<< ((52 : Int32) &&& 0x3f).toInt64) + sig) = xb.toInt64 ∧ (xb.toInt64.toUInt64 &&& 0x7fffffffffffffff > 0x7ff0000000000000 && xb.toInt64.toUInt64 &&& 0x0008000000000000 == 0) = false) := by
  rcases h with rfl | ⟨h1, h2⟩
  · exact ⟨0, 0, 0, 0, 0, 0, 0, 0, 0, 0, 0, by decide, by decide, Or.inr ⟨by decide, rfl, rfl⟩, by decide, by decide, Or.inl ⟨rfl, rfl⟩, by decide, by decide, by decide, rfl, by decide, by decide, by decide, by decide, Or.inl ⟨rfl, rfl, rfl, rfl⟩⟩
  · obtain ⟨ex, sg0, sig, pos, li, sh, hi, x, y, z, r, n, k, kq, q0, q1, q2, q3, q4, q5, q6, q7, q8, q9, q10, q11, q12, q13, q14, q15, q16, q17, q18, q19, q20, q21, q22, q23, q24, q25, q26⟩ := own_packN xb h1 h2
    exact ⟨ex, sg0, sig, pos, li, sh, hi, x, y, z, n, q0, q1, Or.inl q2, q3, q4, q5, q6, q7, q8, q9, q10, q11, q12, q13, Or.inr ⟨r, k, kq, q14, q15, q16, q17, q18, q19, q20, q21, q22, q23, q24, q25, q26⟩⟩
theorem ef_limb (m : MethodId) (x0 : Addr) (x1 : Int32) : entryFrame m #[(.ref x0), (.int x1)] 2 = mkF m 0 #[.val (.ref x0), .val (.int x1)] [] := by first | (simp [entryFrame, mkF, argsToLocals, Value.category]; done) | rfl
theorem pn_limb : plainName "com/example/umbel/umbel/rank/ExactSum" = true := by first | (simp [plainName, overriddenIn]; done) | decide +kernel
def Q_limb (Z : State) (n : Nat) (x : Int64) (y : Int64) (z : Int64) (k : Nat) (h0 : Heap) (n0 : Nat) (v : Option Value) (h : Heap) (L : List Loc) : Prop := v = some (.long (if k = n then x else if k = n + 1 then y else if k = n + 2 then z else 0)) ∧ Fr n0 L ∧ h = h0
set_option maxRecDepth 65536 in
set_option maxHeartbeats 40000000 in
theorem rm_limb (l : Launch) (Z : State) (a0 : Array Value) (hw : ∀ d ∈ tables_1, d.before a0 Z = true) (ws : List Jvm.Cond) (a : Addr) (b : Addr) (kb : ClassId) (i : Int32) (n : Nat) (x : Int64) (y : Int64) (z : Int64) (k : Nat) (h0 : Heap) (n0 : Nat) (Z0 : n0 ≤ h0.size) (F0 : Fld Z h0 a "com/example/umbel/umbel/rank/ExactSum" "limbs" "[J" (.ref b)) (V0 : Arv Z h0 b kb .long (68 : Int32) (own_L n x y z) (.long (0 : Int64))) (hn : n ≤ 65) (hi : i.toInt = (k : Int)) (hk : k < 68) :
    MetFree l (⟨"com/example/umbel/umbel/rank/ExactSum", "limb", "(I)J"⟩ : MethodName) (head1 (Jvm.Cond.code (⟨"com/example/umbel/umbel/rank/ExactSum", "limb", "(I)J"⟩ : MethodName) prog_6_method_13_code 2 (some .long) :: ws) ({ frames := 0, cells := 0, slots := 0, locals := 0 } : Room)) (fun aa U => aa = #[(.ref a), (.int i)] ∧ Z.Warmed39 U.vm ∧ U.heap = h0) (fun _ _ _ _ _ => True) (fun _ U o U' => ∃ v L, o = .returned v ∧ Q_limb Z n x y z k h0 n0 v U'.heap L ∧ FrameEnd U o U' L ({ frames := 0, cells := 0, slots := 0, locals := 0 } : Room).cells ({ frames := 0, cells := 0, slots := 0, locals := 0 } : Room).slots) := by
  refine MetFree.of_bodySF (plainFor_of_name pn_limb) hisR ?_
  intro p e s m args below meth c s₁ Bd hml0 hP hK
  obtain ⟨rfl, hZ, hh⟩ := hP
  have hx := Bd.exec
  have hby := Bd.bytes
  have hml : c.maxLocals = 2 := hml0
  have hown : s.vm.findClass "com/example/umbel/umbel/rank/ExactSum" = some m.cls := findClass_of_methodNamed Bd.named
  have hnm := (name_of_methodNamed Bd.named Bd.method).1
  have X0 : Stand p l e ({ frames := 0, cells := 0, slots := 0, locals := 0 } : Room) s m #[(.ref a), (.int i)] below meth c s₁ [] 0 0 := Stand.of_body Bd
  have e0 : s₁.heap = h0 := by rw [← hh, Bd.state]; rfl
  have N0 := Fr.nil n0
  have S0 : Go p e below s₁ (entryFrame m #[(.ref a), (.int i)] 2) s₁ (mkF m 0 #[.val (.ref a), .val (.int i)] []) := fun t k => castTop (ef_limb m a i) k
  have hr := own_rng hi hk
  have S1 : Go p e below s₁ (entryFrame m #[(.ref a), (.int i)] 2) s₁ (mkF m 3 #[.val (.ref a), .val (.int i)] [(.int (68 : Int32)), (.int i)]) := fun t kt => S0 t (by
    refine XS.iloadN X0.here hx rfl (hb hby d14_0) rfl ?_
    show Steps p.tables e below (s₁.setTop (mkF m 1 #[.val (.ref a), .val (.int i)] [(.int i)])) _
    refine XS.bipush X0.here hx rfl (hb hby d14_1) ?_
    show Steps p.tables e below (s₁.setTop (mkF m 3 #[.val (.ref a), .val (.int i)] [(.int (68 : Int32)), (.int i)])) _
    exact kt)
  clear S0
  have S2 : Go p e below s₁ (entryFrame m #[(.ref a), (.int i)] 2) s₁ (mkF m 7 #[.val (.ref a), .val (.int i)] [(.ref a)]) := fun t kt => S1 t (by
    refine XS.icmpNo X0.here hx rfl (hb hby d14_3) rfl (tlt (show i < (68 : Int32) from hr.1.2)).2.1 ?_
    show Steps p.tables e below (s₁.setTop (mkF m 6 #[.val (.ref a), .val (.int i)] [])) _
    refine XS.aloadN X0.here hx rfl (hb hby d14_6) rfl rfl ?_
    show Steps p.tables e below (s₁.setTop (mkF m 7 #[.val (.ref a), .val (.int i)] [(.ref a)])) _
    exact kt)
  clear S1
  obtain ⟨T3, X3, e3, st3⟩ := getF X0 hx hZ hown (host := "") (Or.inl (hw _ (List.mem_of_getElem? (i := 11) rfl))) Via.refl e0 F0 (g := (mkF m 7 #[.val (.ref a), .val (.int i)] [(.ref a)])) rfl rfl (hb hby d14_7)
  have S4 : Go p e below s₁ (entryFrame m #[(.ref a), (.int i)] 2) T3 (mkF m 10 #[.val (.ref a), .val (.int i)] [(.ref b)]) := fun t kt => S2 t (st3 t kt)
  clear S2 st3 X0 e0
  have S5 : Go p e below s₁ (entryFrame m #[(.ref a), (.int i)] 2) T3 (mkF m 11 #[.val (.ref a), .val (.int i)] [(.int i), (.ref b)]) := fun t kt => S4 t (by
    refine XS.iloadN X3.here hx rfl (hb hby d14_10) rfl ?_
    show Steps p.tables e below (T3.setTop (mkF m 11 #[.val (.ref a), .val (.int i)] [(.int i), (.ref b)])) _
    exact kt)
  clear S4
  obtain ⟨co6, Ao6, qo6, So6, No6, Ho6, Go6⟩ := id V0
  have hino6 : ¬ (i < 0 ∨ co6.slots.size ≤ (i).toNatClampNeg) := inb_of So6 hr.1
  have hato6 : co6.slots[(i).toNatClampNeg]? = some (.long (if k = n then x else if k = n + 1 then y else if k = n + 2 then z else 0)) := Has.at Ho6 hino6 (by rw [hr.2]; exact own_get _ _ _ _ hn _ hk)
  have S7 : Go p e below s₁ (entryFrame m #[(.ref a), (.int i)] 2) T3 (mkF m 16 #[.val (.ref a), .val (.int i)] [(.long (if k = n then x else if k = n + 1 then y else if k = n + 2 then z else 0))]) := fun t kt => S5 t (by
    refine X3.laload hx (j := i) (v := (.long (if k = n then x else if k = n + 1 then y else if k = n + 2 then z else 0))) (by rw [e3]; exact Ao6.1) (State.isArrayOf_alike hZ.alike Ao6.2.1) Ao6.2.2 hino6 hato6 (g := (mkF m 11 #[.val (.ref a), .val (.int i)] [(.int i), (.ref b)])) rfl rfl (hb hby d14_11) _ ?_
    show Steps p.tables e below (T3.setTop (mkF m 12 #[.val (.ref a), .val (.int i)] [(.long (if k = n then x else if k = n + 1 then y else if k = n + 2 then z else 0))])) _
    refine XS.goto X3.here hx rfl (pc0 := 12) (pc' := 16) rfl (hb hby d14_12) (by decide) (by decide) ?_
    show Steps p.tables e below (T3.setTop (mkF m 16 #[.val (.ref a), .val (.int i)] [(.long (if k = n then x else if k = n + 1 then y else if k = n + 2 then z else 0))])) _
    exact kt)
  clear S5
  obtain ⟨fs, hr, hrun, hended, hW, hsame⟩ := X3.leave (v := some (.long (if k = n then x else if k = n + 1 then y else if k = n + 2 then z else 0))) (fun h => by first | rfl | (rw [Bd.returns] at h; cases h))
  refine ⟨_, _, S7 _ ?_, hrun, hended, _, _, rfl, ?_, ⟨_, rfl⟩, hW, hsame.mono (by decide) (by decide)⟩
  · exact retOut X3 hx Bd.returns rfl (Or.inr (Or.inl ⟨rfl, rfl, _, rfl⟩)) (hb hby d14_16) hr
  · show Q_limb Z n x y z k h0 n0 _ T3.heap _
    rw [e3]
    exact ⟨rfl, N0, rfl⟩
theorem ef_max (m : MethodId) (x0 : Int32) (x1 : Int32) : entryFrame m #[(.int x0), (.int x1)] 2 = mkF m 0 #[.val (.int x0), .val (.int x1)] [] := by first | (simp [entryFrame, mkF, argsToLocals, Value.category]; done) | rfl
def Q_max (Z : State) (q1 : Int32) (q2 : Int32) (h0 : Heap) (n0 : Nat) (v : Option Value) (h : Heap) (L : List Loc) : Prop := v = some (.int (if q1 < q2 then q2 else q1)) ∧ Fr n0 L ∧ h = h0
set_option maxRecDepth 65536 in
set_option maxHeartbeats 40000000 in
theorem rm_max (l : Launch) (Z : State) (a0 : Array Value) (hw : ∀ d ∈ tables_1, d.before a0 Z = true) (ws : List Jvm.Cond) (q1 : Int32) (q2 : Int32) (h0 : Heap) (n0 : Nat) (Z0 : n0 ≤ h0.size)  :
    MetFree l (⟨"java/lang/Math", "max", "(II)I"⟩ : MethodName) (head1 (Jvm.Cond.code (⟨"java/lang/Math", "max", "(II)I"⟩ : MethodName) jdk_29_method_65_code 2 (some .int) :: ws) ({ frames := 0, cells := 0, slots := 0, locals := 0 } : Room)) (fun aa U => aa = #[(.int q1), (.int q2)] ∧ Z.Warmed39 U.vm ∧ U.heap = h0) (fun _ _ _ _ _ => True) (fun _ U o U' => ∃ v L, o = .returned v ∧ Q_max Z q1 q2 h0 n0 v U'.heap L ∧ FrameEnd U o U' L ({ frames := 0, cells := 0, slots := 0, locals := 0 } : Room).cells ({ frames := 0, cells := 0, slots := 0, locals := 0 } : Room).slots) := by
  refine MetFree.of_bodySF (Jvm.Free.JP.mathPlain rfl (by decide +kernel)) hisR ?_
  intro p e s m args below meth c s₁ Bd hml0 hP hK
  obtain ⟨rfl, hZ, hh⟩ := hP
  have hx := Bd.exec
  have hby := Bd.bytes
  have hml : c.maxLocals = 2 := hml0
  have hown : s.vm.findClass "java/lang/Math" = some m.cls := findClass_of_methodNamed Bd.named
  have hnm := (name_of_methodNamed Bd.named Bd.method).1
  have X0 : Stand p l e ({ frames := 0, cells := 0, slots := 0, locals := 0 } : Room) s m #[(.int q1), (.int q2)] below meth c s₁ [] 0 0 := Stand.of_body Bd
  have e0 : s₁.heap = h0 := by rw [← hh, Bd.state]; rfl
  have N0 := Fr.nil n0
  have S0 : Go p e below s₁ (entryFrame m #[(.int q1), (.int q2)] 2) s₁ (mkF m 0 #[.val (.int q1), .val (.int q2)] []) := fun t k => castTop (ef_max m q1 q2) k
  have S8 : Go p e below s₁ (entryFrame m #[(.int q1), (.int q2)] 2) s₁ (mkF m 2 #[.val (.int q1), .val (.int q2)] [(.int q2), (.int q1)]) := fun t kt => S0 t (by
    refine XS.iloadN X0.here hx rfl (hb hby d12_0) rfl ?_
    show Steps p.tables e below (s₁.setTop (mkF m 1 #[.val (.int q1), .val (.int q2)] [(.int q1)])) _
    refine XS.iloadN X0.here hx rfl (hb hby d12_1) rfl ?_
    show Steps p.tables e below (s₁.setTop (mkF m 2 #[.val (.int q1), .val (.int q2)] [(.int q2), (.int q1)])) _
    exact kt)
  clear S0
  by_cases hc : q1 < q2
  · have S9 : Go p e below s₁ (entryFrame m #[(.int q1), (.int q2)] 2) s₁ (mkF m 10 #[.val (.int q1), .val (.int q2)] [(.int q2)]) := fun t kt => S8 t (by
      refine XS.icmpYes X0.here hx rfl (pc0 := 2) (pc' := 9) rfl (hb hby d12_2) rfl (tlt (show q1 < q2 from hc)).1 (by decide) (by decide) ?_
      show Steps p.tables e below (s₁.setTop (mkF m 9 #[.val (.int q1), .val (.int q2)] [])) _
      refine XS.iloadN X0.here hx rfl (hb hby d12_9) rfl ?_
      show Steps p.tables e below (s₁.setTop (mkF m 10 #[.val (.int q1), .val (.int q2)] [(.int q2)])) _
      exact kt)
    clear S8
    obtain ⟨fs, hr, hrun, hended, hW, hsame⟩ := X0.leave (v := some (.int q2)) (fun h => by first | rfl | (rw [Bd.returns] at h; cases h))
    refine ⟨_, _, S9 _ ?_, hrun, hended, _, _, rfl, ?_, ⟨_, rfl⟩, hW, hsame.mono (by decide) (by decide)⟩
    · exact retI X0 hx Bd.returns (hb hby d12_10) hr
    · show Q_max Z q1 q2 h0 n0 _ s₁.heap _
      rw [e0]
      exact ⟨by rw [if_pos hc], N0, rfl⟩
  · have S10 : Go p e below s₁ (entryFrame m #[(.int q1), (.int q2)] 2) s₁ (mkF m 10 #[.val (.int q1), .val (.int q2)] [(.int q1)]) := fun t kt => S8 t (by
      refine XS.icmpNo X0.here hx rfl (hb hby d12_2) rfl (flt (show ¬ (q1 < q2) from hc)).1 ?_
      show Steps p.tables e below (s₁.setTop (mkF m 5 #[.val (.int q1), .val (.int q2)] [])) _
      refine XS.iloadN X0.here hx rfl (hb hby d12_5) rfl ?_
      show Steps p.tables e below (s₁.setTop (mkF m 6 #[.val (.int q1), .val (.int q2)] [(.int q1)])) _
      refine XS.goto X0.here hx rfl (pc0 := 6) (pc' := 10) rfl (hb hby d12_6) (by decide) (by decide) ?_
      show Steps p.tables e below (s₁.setTop (mkF m 10 #[.val (.int q1), .val (.int q2)] [(.int q1)])) _
      exact kt)
    clear S8
    obtain ⟨fs, hr, hrun, hended, hW, hsame⟩ := X0.leave (v := some (.int q1)) (fun h => by first | rfl | (rw [Bd.returns] at h; cases h))
    refine ⟨_, _, S10 _ ?_, hrun, hended, _, _, rfl, ?_, ⟨_, rfl⟩, hW, hsame.mono (by decide) (by decide)⟩
    · exact retI X0 hx Bd.returns (hb hby d12_10) hr
    · show Q_max Z q1 q2 h0 n0 _ s₁.heap _
      rw [e0]
      exact ⟨by rw [if_neg hc], N0, rfl⟩
theorem ef_rc (m : MethodId) (x0 : Int32) (x1 : Int32) (x2 : Int32) : entryFrame m #[(.int x0), (.int x1), (.int x2)] 3 = mkF m 0 #[.val (.int x0), .val (.int x1), .val (.int x2)] [] := by first | (simp [entryFrame, mkF, argsToLocals, Value.category]; done) | rfl
theorem pn_rc : plainName "java/util/Arrays" = true := by first | (simp [plainName, overriddenIn]; done) | decide +kernel
def Q_rc (Z : State) (q0 : Int32) (q1 : Int32) (q2 : Int32) (h0 : Heap) (n0 : Nat) (v : Option Value) (h : Heap) (L : List Loc) : Prop := v = none ∧ Fr n0 L ∧ h = h0
set_option maxRecDepth 65536 in
set_option maxHeartbeats 40000000 in
theorem rm_rc (l : Launch) (Z : State) (a0 : Array Value) (hw : ∀ d ∈ tables_1, d.before a0 Z = true) (ws : List Jvm.Cond) (q0 : Int32) (q1 : Int32) (q2 : Int32) (h0 : Heap) (n0 : Nat) (Z0 : n0 ≤ h0.size) (h1 : ¬ q2 < q1) (h2 : ¬ q1 < (0 : Int32)) (h3 : ¬ q0 < q2) :
    MetFree l (⟨"java/util/Arrays", "rangeCheck", "(III)V"⟩ : MethodName) (head1 (Jvm.Cond.code (⟨"java/util/Arrays", "rangeCheck", "(III)V"⟩ : MethodName) jdk_65_method_30_code 3 none :: ws) ({ frames := 0, cells := 0, slots := 0, locals := 0 } : Room)) (fun aa U => aa = #[(.int q0), (.int q1), (.int q2)] ∧ Z.Warmed39 U.vm ∧ U.heap = h0) (fun _ _ _ _ _ => True) (fun _ U o U' => ∃ v L, o = .returned v ∧ Q_rc Z q0 q1 q2 h0 n0 v U'.heap L ∧ FrameEnd U o U' L ({ frames := 0, cells := 0, slots := 0, locals := 0 } : Room).cells ({ frames := 0, cells := 0, slots := 0, locals := 0 } : Room).slots) := by
  refine MetFree.of_bodySF (plainFor_of_name pn_rc) hisR ?_
  intro p e s m args below meth c s₁ Bd hml0 hP hK
  obtain ⟨rfl, hZ, hh⟩ := hP
  have hx := Bd.exec
  have hby := Bd.bytes
  have hml : c.maxLocals = 3 := hml0
  have hown : s.vm.findClass "java/util/Arrays" = some m.cls := findClass_of_methodNamed Bd.named
  have hnm := (name_of_methodNamed Bd.named Bd.method).1
  have X0 : Stand p l e ({ frames := 0, cells := 0, slots := 0, locals := 0 } : Room) s m #[(.int q0), (.int q1), (.int q2)] below meth c s₁ [] 0 0 := Stand.of_body Bd
  have e0 : s₁.heap = h0 := by rw [← hh, Bd.state]; rfl
  have N0 := Fr.nil n0
  have S0 : Go p e below s₁ (entryFrame m #[(.int q0), (.int q1), (.int q2)] 3) s₁ (mkF m 0 #[.val (.int q0), .val (.int q1), .val (.int q2)] []) := fun t k => castTop (ef_rc m q0 q1 q2) k
  have S11 : Go p e below s₁ (entryFrame m #[(.int q0), (.int q1), (.int q2)] 3) s₁ (mkF m 2 #[.val (.int q0), .val (.int q1), .val (.int q2)] [(.int q2), (.int q1)]) := fun t kt => S0 t (by
    refine XS.iloadN X0.here hx rfl (hb hby d9_0) rfl ?_
    show Steps p.tables e below (s₁.setTop (mkF m 1 #[.val (.int q0), .val (.int q1), .val (.int q2)] [(.int q1)])) _
    refine XS.iloadN X0.here hx rfl (hb hby d9_1) rfl ?_
    show Steps p.tables e below (s₁.setTop (mkF m 2 #[.val (.int q0), .val (.int q1), .val (.int q2)] [(.int q2), (.int q1)])) _
    exact kt)
  clear S0
  have S12 : Go p e below s₁ (entryFrame m #[(.int q0), (.int q1), (.int q2)] 3) s₁ (mkF m 47 #[.val (.int q0), .val (.int q1), .val (.int q2)] [(.int q1)]) := fun t kt => S11 t (by
    refine XS.icmpYes X0.here hx rfl (pc0 := 2) (pc' := 46) rfl (hb hby d9_2) rfl (flt (show ¬ (q2 < q1) from h1)).2.2.2 (by decide) (by decide) ?_
    show Steps p.tables e below (s₁.setTop (mkF m 46 #[.val (.int q0), .val (.int q1), .val (.int q2)] [])) _
    refine XS.iloadN X0.here hx rfl (hb hby d9_46) rfl ?_
    show Steps p.tables e below (s₁.setTop (mkF m 47 #[.val (.int q0), .val (.int q1), .val (.int q2)] [(.int q1)])) _
    exact kt)
  clear S11
  have S13 : Go p e below s₁ (entryFrame m #[(.int q0), (.int q1), (.int q2)] 3) s₁ (mkF m 61 #[.val (.int q0), .val (.int q1), .val (.int q2)] [(.int q0), (.int q2)]) := fun t kt => S12 t (by
    refine XS.ifYes X0.here hx rfl (pc0 := 47) (pc' := 59) rfl (hb hby d9_47) rfl ((if0 _ _).trans (flt (show ¬ (q1 < (0 : Int32)) from h2)).2.1) (by decide) (by decide) ?_
    show Steps p.tables e below (s₁.setTop (mkF m 59 #[.val (.int q0), .val (.int q1), .val (.int q2)] [])) _
    refine XS.iloadN X0.here hx rfl (hb hby d9_59) rfl ?_
    show Steps p.tables e below (s₁.setTop (mkF m 60 #[.val (.int q0), .val (.int q1), .val (.int q2)] [(.int q2)])) _
    refine XS.iloadN X0.here hx rfl (hb hby d9_60) rfl ?_
    show Steps p.tables e below (s₁.setTop (mkF m 61 #[.val (.int q0), .val (.int q1), .val (.int q2)] [(.int q0), (.int q2)])) _
    exact kt)
  clear S12
  have S14 : Go p e below s₁ (entryFrame m #[(.int q0), (.int q1), (.int q2)] 3) s₁ (mkF m 73 #[.val (.int q0), .val (.int q1), .val (.int q2)] []) := fun t kt => S13 t (by
    refine XS.icmpYes X0.here hx rfl (pc0 := 61) (pc' := 73) rfl (hb hby d9_61) rfl (flt (show ¬ (q0 < q2) from h3)).2.2.2 (by decide) (by decide) ?_
    show Steps p.tables e below (s₁.setTop (mkF m 73 #[.val (.int q0), .val (.int q1), .val (.int q2)] [])) _
    exact kt)
  clear S13
  obtain ⟨fs, hr, hrun, hended, hW, hsame⟩ := X0.leave (v := none) (fun h => by first | rfl | (rw [Bd.returns] at h; cases h))
  refine ⟨_, _, S14 _ ?_, hrun, hended, _, _, rfl, ?_, ⟨_, rfl⟩, hW, hsame.mono (by decide) (by decide)⟩
  · exact X0.returnOut hx Bd.returns (hb hby d9_73) hr
  · show Q_rc Z q0 q1 q2 h0 n0 _ s₁.heap _
    rw [e0]
    exact ⟨rfl, N0, rfl⟩
theorem ef_fill (m : MethodId) (x0 : Addr) (x1 : Int32) (x2 : Int32) (x3 : Int64) : entryFrame m #[(.ref x0), (.int x1), (.int x2), (.long x3)] 6 = mkF m 0 #[.val (.ref x0), .val (.int x1), .val (.int x2), .val (.long x3), .second, .unset] [] := by first | (simp [entryFrame, mkF, argsToLocals, Value.category]; done) | rfl
theorem pn_fill : plainName "java/util/Arrays" = true := by first | (simp [plainName, overriddenIn]; done) | decide +kernel
def Q_fill (Z : State) (b : Addr) (kb : ClassId) (n : Nat) (h0 : Heap) (n0 : Nat) (v : Option Value) (h : Heap) (L : List Loc) : Prop := v = none ∧ Fr n0 L ∧ Keep h0 h [b] ∧ Arv Z h b kb .long (68 : Int32) (own_L n 0 0 0) (.long (0 : Int64))
set_option maxRecDepth 65536 in
set_option maxHeartbeats 40000000 in
theorem rm_fill (l : Launch) (Z : State) (a0 : Array Value) (hw : ∀ d ∈ tables_1, d.before a0 Z = true) (ws : List Jvm.Cond) (b : Addr) (kb : ClassId) (li : Int32) (n : Nat) (x : Int64) (y : Int64) (z : Int64) (h0 : Heap) (n0 : Nat) (Z0 : n0 ≤ h0.size) (V0 : Arv Z h0 b kb .long (68 : Int32) (own_L n x y z) (.long (0 : Int64))) (g_b : n0 ≤ b) (hl : li.toInt = (n : Int)) (hn : n ≤ 65) :
    MetFree l (⟨"java/util/Arrays", "fill", "([JIIJ)V"⟩ : MethodName) (head1 (Jvm.Cond.code (⟨"java/util/Arrays", "fill", "([JIIJ)V"⟩ : MethodName) jdk_65_method_102_code 6 none :: ws) ({ frames := 1, cells := 0, slots := 0, locals := 16 } : Room)) (fun aa U => aa = #[(.ref b), (.int li), (.int (li + (3 : Int32))), (.long (0 : Int64))] ∧ Z.Warmed39 U.vm ∧ U.heap = h0) (fun _ _ _ _ _ => True) (fun _ U o U' => ∃ v L, o = .returned v ∧ Q_fill Z b kb n h0 n0 v U'.heap L ∧ FrameEnd U o U' L ({ frames := 1, cells := 0, slots := 0, locals := 16 } : Room).cells ({ frames := 1, cells := 0, slots := 0, locals := 16 } : Room).slots) := by
  refine MetFree.of_bodySF (plainFor_of_name pn_fill) hisR ?_
  intro p e s m args below meth c s₁ Bd hml0 hP hK
  obtain ⟨rfl, hZ, hh⟩ := hP
  have hx := Bd.exec
  have hby := Bd.bytes
  have hml : c.maxLocals = 6 := hml0
  have hown : s.vm.findClass "java/util/Arrays" = some m.cls := findClass_of_methodNamed Bd.named
  have hnm := (name_of_methodNamed Bd.named Bd.method).1
  have X0 : Stand p l e ({ frames := 1, cells := 0, slots := 0, locals := 16 } : Room) s m #[(.ref b), (.int li), (.int (li + (3 : Int32))), (.long (0 : Int64))] below meth c s₁ [] 0 0 := Stand.of_body Bd
  have e0 : s₁.heap = h0 := by rw [← hh, Bd.state]; rfl
  have N0 := Fr.nil n0
  have S0 : Go p e below s₁ (entryFrame m #[(.ref b), (.int li), (.int (li + (3 : Int32))), (.long (0 : Int64))] 6) s₁ (mkF m 0 #[.val (.ref b), .val (.int li), .val (.int (li + (3 : Int32))), .val (.long (0 : Int64)), .second, .unset] []) := fun t k => castTop (ef_fill m b li (li + (3 : Int32)) (0 : Int64)) k
  have r0 := own_rng hl (show n < 68 by omega)
  have i1 := own_i1 hl hn
  have i2 := own_i2 hl hn
  have i3 := own_i3 hl hn
  have r1 := own_rng i1 (show n + 1 < 68 by omega)
  have r2 := own_rng i2 (show n + 2 < 68 by omega)
  have it := own_it hl hn
  have S15 : Go p e below s₁ (entryFrame m #[(.ref b), (.int li), (.int (li + (3 : Int32))), (.long (0 : Int64))] 6) s₁ (mkF m 1 #[.val (.ref b), .val (.int li), .val (.int (li + (3 : Int32))), .val (.long (0 : Int64)), .second, .unset] [(.ref b)]) := fun t kt => S0 t (by
    refine XS.aloadN X0.here hx rfl (hb hby d8_0) rfl rfl ?_
    show Steps p.tables e below (s₁.setTop (mkF m 1 #[.val (.ref b), .val (.int li), .val (.int (li + (3 : Int32))), .val (.long (0 : Int64)), .second, .unset] [(.ref b)])) _
    exact kt)
  clear S0
  obtain ⟨co16, Ao16, qo16, So16, No16, Ho16, Go16⟩ := id V0
  have S17 : Go p e below s₁ (entryFrame m #[(.ref b), (.int li), (.int (li + (3 : Int32))), (.long (0 : Int64))] 6) s₁ (mkF m 4 #[.val (.ref b), .val (.int li), .val (.int (li + (3 : Int32))), .val (.long (0 : Int64)), .second, .unset] [(.int (li + (3 : Int32))), (.int li), (.int (68 : Int32))]) := fun t kt => S15 t (by
    refine X0.arraylength hx (by rw [e0]; exact Ao16.1) (State.isArrayOf_alike hZ.alike Ao16.2.1) (g := (mkF m 1 #[.val (.ref b), .val (.int li), .val (.int (li + (3 : Int32))), .val (.long (0 : Int64)), .second, .unset] [(.ref b)])) rfl rfl (hb hby d8_1) _ ?_
    rw [len_of So16 No16]
    show Steps p.tables e below (s₁.setTop (mkF m 2 #[.val (.ref b), .val (.int li), .val (.int (li + (3 : Int32))), .val (.long (0 : Int64)), .second, .unset] [(.int (68 : Int32))])) _
    refine XS.iloadN X0.here hx rfl (hb hby d8_2) rfl ?_
    show Steps p.tables e below (s₁.setTop (mkF m 3 #[.val (.ref b), .val (.int li), .val (.int (li + (3 : Int32))), .val (.long (0 : Int64)), .second, .unset] [(.int li), (.int (68 : Int32))])) _
    refine XS.iloadN X0.here hx rfl (hb hby d8_3) rfl ?_
    show Steps p.tables e below (s₁.setTop (mkF m 4 #[.val (.ref b), .val (.int li), .val (.int (li + (3 : Int32))), .val (.long (0 : Int64)), .second, .unset] [(.int (li + (3 : Int32))), (.int li), (.int (68 : Int32))])) _
    exact kt)
  clear S15
  obtain ⟨v18, T18, L18, X18, hQ18, st18⟩ := own_outS (Jvm.LawKit.callS X0 hx (y := (⟨"java/util/Arrays", "rangeCheck", "(III)V"⟩ : MethodName)) hown (mvT hZ (hw _ (List.mem_of_getElem? (i := 54) rfl))) (mvT hZ (hw _ (List.mem_of_getElem? (i := 55) rfl))) (mvT hZ (hw _ (List.mem_of_getElem? (i := 52) rfl))) (mvT hZ (hw _ (List.mem_of_getElem? (i := 56) rfl))) (by decide) (backOf (W := 0) (rm_rc l Z a0 hw [] (68 : Int32) li (li + (3 : Int32)) h0 n0 Z0 (own_nlt (by omega)) (own_nlt (by rw [own_z32]; omega)) (own_nlt (by rw [own_68]; omega))) hZ (hw _ (List.mem_of_getElem? (i := 56) rfl)) (hw _ (List.mem_of_getElem? (i := 52) rfl)) (by decide) (by decide)) (g := (mkF m 4 #[.val (.ref b), .val (.int li), .val (.int (li + (3 : Int32))), .val (.long (0 : Int64)), .second, .unset] [(.int (li + (3 : Int32))), (.int li), (.int (68 : Int32))])) rfl (by rw [hml]; rfl) (argsL := [(.int (68 : Int32)), (.int li), (.int (li + (3 : Int32)))]) (rest := []) (lenOf pd__III_V rfl) rfl (by show 2 * 0 + _ ≤ _; exact Nat.le_of_eq rfl) (hb hby d8_4) (fun _ _ => ⟨rfl, e0, (by decide : 0 + 0 ≤ _), (by decide : 0 + 0 ≤ _)⟩))
  obtain ⟨rfl, N18q, e18⟩ := hQ18
  have N18 := Fr.app N0 N18q
  have S19 : Go p e below s₁ (entryFrame m #[(.ref b), (.int li), (.int (li + (3 : Int32))), (.long (0 : Int64))] 6) T18 (mkF m 7 #[.val (.ref b), .val (.int li), .val (.int (li + (3 : Int32))), .val (.long (0 : Int64)), .second, .unset] []) := fun t kt => S17 t (st18 t kt)
  clear S17 st18 X0 e0
  have S20 : Go p e below s₁ (entryFrame m #[(.ref b), (.int li), (.int (li + (3 : Int32))), (.long (0 : Int64))] 6) T18 (mkF m 13 #[.val (.ref b), .val (.int li), .val (.int (li + (3 : Int32))), .val (.long (0 : Int64)), .second, .val (.int li)] [(.int (li + (3 : Int32))), (.int li)]) := fun t kt => S19 t (by
    refine XS.iloadN X18.here hx rfl (hb hby d8_7) rfl ?_
    show Steps p.tables e below (T18.setTop (mkF m 8 #[.val (.ref b), .val (.int li), .val (.int (li + (3 : Int32))), .val (.long (0 : Int64)), .second, .unset] [(.int li)])) _
    refine XS.istore X18.here hx rfl (hb hby d8_8) rfl (l' := #[.val (.ref b), .val (.int li), .val (.int (li + (3 : Int32))), .val (.long (0 : Int64)), .second, .val (.int li)]) rfl ?_
    show Steps p.tables e below (T18.setTop (mkF m 10 #[.val (.ref b), .val (.int li), .val (.int (li + (3 : Int32))), .val (.long (0 : Int64)), .second, .val (.int li)] [])) _
    refine XS.iload X18.here hx rfl (hb hby d8_10) rfl ?_
    show Steps p.tables e below (T18.setTop (mkF m 12 #[.val (.ref b), .val (.int li), .val (.int (li + (3 : Int32))), .val (.long (0 : Int64)), .second, .val (.int li)] [(.int li)])) _
    refine XS.iloadN X18.here hx rfl (hb hby d8_12) rfl ?_
    show Steps p.tables e below (T18.setTop (mkF m 13 #[.val (.ref b), .val (.int li), .val (.int (li + (3 : Int32))), .val (.long (0 : Int64)), .second, .val (.int li)] [(.int (li + (3 : Int32))), (.int li)])) _
    exact kt)
  clear S19
  have S21 : Go p e below s₁ (entryFrame m #[(.ref b), (.int li), (.int (li + (3 : Int32))), (.long (0 : Int64))] 6) T18 (mkF m 20 #[.val (.ref b), .val (.int li), .val (.int (li + (3 : Int32))), .val (.long (0 : Int64)), .second, .val (.int li)] [(.long (0 : Int64)), (.int li), (.ref b)]) := fun t kt => S20 t (by
    refine XS.icmpNo X18.here hx rfl (hb hby d8_13) rfl (tlt (show li < (li + (3 : Int32)) from (own_plt (by omega)))).2.1 ?_
    show Steps p.tables e below (T18.setTop (mkF m 16 #[.val (.ref b), .val (.int li), .val (.int (li + (3 : Int32))), .val (.long (0 : Int64)), .second, .val (.int li)] [])) _
    refine XS.aloadN X18.here hx rfl (hb hby d8_16) rfl rfl ?_
    show Steps p.tables e below (T18.setTop (mkF m 17 #[.val (.ref b), .val (.int li), .val (.int (li + (3 : Int32))), .val (.long (0 : Int64)), .second, .val (.int li)] [(.ref b)])) _
    refine XS.iload X18.here hx rfl (hb hby d8_17) rfl ?_
    show Steps p.tables e below (T18.setTop (mkF m 19 #[.val (.ref b), .val (.int li), .val (.int (li + (3 : Int32))), .val (.long (0 : Int64)), .second, .val (.int li)] [(.int li), (.ref b)])) _
    refine XS.lloadN X18.here hx rfl (hb hby d8_19) rfl ?_
    show Steps p.tables e below (T18.setTop (mkF m 20 #[.val (.ref b), .val (.int li), .val (.int (li + (3 : Int32))), .val (.long (0 : Int64)), .second, .val (.int li)] [(.long (0 : Int64)), (.int li), (.ref b)])) _
    exact kt)
  clear S20
  obtain ⟨co22, Ao22, qo22, So22, No22, Ho22, Go22⟩ := id V0
  have hino22 : ¬ (li < 0 ∨ co22.slots.size ≤ (li).toNatClampNeg) := inb_of So22 r0.1
  obtain ⟨T23, h23, X23, e23, W23, st23⟩ := stJ X18 hx hZ e18 Ao22 (j := li) hino22 (g := (mkF m 20 #[.val (.ref b), .val (.int li), .val (.int (li + (3 : Int32))), .val (.long (0 : Int64)), .second, .val (.int li)] [(.long (0 : Int64)), (.int li), (.ref b)])) rfl rfl (hb hby d8_20)
  have N23 := Fr.snoc X23 N18 g_b
  have K23 : Keep h0 h23 [b] := (Keep.refl h0 [b]).wr W23 (Or.inl (by simp))
  have V23 : Arv Z h23 b kb .long (68 : Int32) (own_L n 0 y z) (.long (0 : Int64)) := by rw [← (own_set n hn x y z 0).1]; exact Arv.set Ao22 qo22 So22 No22 Ho22 Go22 rfl W23 n r0.2 (by rw [own_len]; omega)
  have S24 : Go p e below s₁ (entryFrame m #[(.ref b), (.int li), (.int (li + (3 : Int32))), (.long (0 : Int64))] 6) T23 (mkF m 21 #[.val (.ref b), .val (.int li), .val (.int (li + (3 : Int32))), .val (.long (0 : Int64)), .second, .val (.int li)] []) := fun t kt => S21 t (st23 t kt)
  clear S21 st23 X18 e18
  have S25 : Go p e below s₁ (entryFrame m #[(.ref b), (.int li), (.int (li + (3 : Int32))), (.long (0 : Int64))] 6) T23 (mkF m 13 #[.val (.ref b), .val (.int li), .val (.int (li + (3 : Int32))), .val (.long (0 : Int64)), .second, .val (.int (li + (1 : Int32)))] [(.int (li + (3 : Int32))), (.int (li + (1 : Int32)))]) := fun t kt => S24 t (by
    refine XS.iinc X23.here hx rfl (hb hby d8_21) rfl (l' := #[.val (.ref b), .val (.int li), .val (.int (li + (3 : Int32))), .val (.long (0 : Int64)), .second, .val (.int (li + (1 : Int32)))]) rfl ?_
    show Steps p.tables e below (T23.setTop (mkF m 24 #[.val (.ref b), .val (.int li), .val (.int (li + (3 : Int32))), .val (.long (0 : Int64)), .second, .val (.int (li + (1 : Int32)))] [])) _
    refine XS.goto X23.here hx rfl (pc0 := 24) (pc' := 10) rfl (hb hby d8_24) (by decide) (by decide) ?_
    show Steps p.tables e below (T23.setTop (mkF m 10 #[.val (.ref b), .val (.int li), .val (.int (li + (3 : Int32))), .val (.long (0 : Int64)), .second, .val (.int (li + (1 : Int32)))] [])) _
    refine XS.iload X23.here hx rfl (hb hby d8_10) rfl ?_
    show Steps p.tables e below (T23.setTop (mkF m 12 #[.val (.ref b), .val (.int li), .val (.int (li + (3 : Int32))), .val (.long (0 : Int64)), .second, .val (.int (li + (1 : Int32)))] [(.int (li + (1 : Int32)))])) _
    refine XS.iloadN X23.here hx rfl (hb hby d8_12) rfl ?_
    show Steps p.tables e below (T23.setTop (mkF m 13 #[.val (.ref b), .val (.int li), .val (.int (li + (3 : Int32))), .val (.long (0 : Int64)), .second, .val (.int (li + (1 : Int32)))] [(.int (li + (3 : Int32))), (.int (li + (1 : Int32)))])) _
    exact kt)
  clear S24
  have S26 : Go p e below s₁ (entryFrame m #[(.ref b), (.int li), (.int (li + (3 : Int32))), (.long (0 : Int64))] 6) T23 (mkF m 20 #[.val (.ref b), .val (.int li), .val (.int (li + (3 : Int32))), .val (.long (0 : Int64)), .second, .val (.int (li + (1 : Int32)))] [(.long (0 : Int64)), (.int (li + (1 : Int32))), (.ref b)]) := fun t kt => S25 t (by
    refine XS.icmpNo X23.here hx rfl (hb hby d8_13) rfl (tlt (show (li + (1 : Int32)) < (li + (3 : Int32)) from (own_plt (by omega)))).2.1 ?_
    show Steps p.tables e below (T23.setTop (mkF m 16 #[.val (.ref b), .val (.int li), .val (.int (li + (3 : Int32))), .val (.long (0 : Int64)), .second, .val (.int (li + (1 : Int32)))] [])) _
    refine XS.aloadN X23.here hx rfl (hb hby d8_16) rfl rfl ?_
    show Steps p.tables e below (T23.setTop (mkF m 17 #[.val (.ref b), .val (.int li), .val (.int (li + (3 : Int32))), .val (.long (0 : Int64)), .second, .val (.int (li + (1 : Int32)))] [(.ref b)])) _
    refine XS.iload X23.here hx rfl (hb hby d8_17) rfl ?_
    show Steps p.tables e below (T23.setTop (mkF m 19 #[.val (.ref b), .val (.int li), .val (.int (li + (3 : Int32))), .val (.long (0 : Int64)), .second, .val (.int (li + (1 : Int32)))] [(.int (li + (1 : Int32))), (.ref b)])) _
    refine XS.lloadN X23.here hx rfl (hb hby d8_19) rfl ?_
    show Steps p.tables e below (T23.setTop (mkF m 20 #[.val (.ref b), .val (.int li), .val (.int (li + (3 : Int32))), .val (.long (0 : Int64)), .second, .val (.int (li + (1 : Int32)))] [(.long (0 : Int64)), (.int (li + (1 : Int32))), (.ref b)])) _
    exact kt)
  clear S25
  obtain ⟨co27, Ao27, qo27, So27, No27, Ho27, Go27⟩ := id V23
  have hino27 : ¬ ((li + (1 : Int32)) < 0 ∨ co27.slots.size ≤ ((li + (1 : Int32))).toNatClampNeg) := inb_of So27 r1.1
  obtain ⟨T28, h28, X28, e28, W28, st28⟩ := stJ X23 hx hZ e23 Ao27 (j := (li + (1 : Int32))) hino27 (g := (mkF m 20 #[.val (.ref b), .val (.int li), .val (.int (li + (3 : Int32))), .val (.long (0 : Int64)), .second, .val (.int (li + (1 : Int32)))] [(.long (0 : Int64)), (.int (li + (1 : Int32))), (.ref b)])) rfl rfl (hb hby d8_20)
  have N28 := Fr.snoc X28 N23 g_b
  have K28 : Keep h0 h28 [b] := K23.wr W28 (Or.inl (by simp))
  have V28 : Arv Z h28 b kb .long (68 : Int32) (own_L n 0 0 z) (.long (0 : Int64)) := by rw [← (own_set n hn 0 y z 0).2.1]; exact Arv.set Ao27 qo27 So27 No27 Ho27 Go27 rfl W28 (n + 1) r1.2 (by rw [own_len]; omega)
  have S29 : Go p e below s₁ (entryFrame m #[(.ref b), (.int li), (.int (li + (3 : Int32))), (.long (0 : Int64))] 6) T28 (mkF m 21 #[.val (.ref b), .val (.int li), .val (.int (li + (3 : Int32))), .val (.long (0 : Int64)), .second, .val (.int (li + (1 : Int32)))] []) := fun t kt => S26 t (st28 t kt)
  clear S26 st28 X23 e23
  have S30 : Go p e below s₁ (entryFrame m #[(.ref b), (.int li), (.int (li + (3 : Int32))), (.long (0 : Int64))] 6) T28 (mkF m 13 #[.val (.ref b), .val (.int li), .val (.int (li + (3 : Int32))), .val (.long (0 : Int64)), .second, .val (.int ((li + (1 : Int32)) + (1 : Int32)))] [(.int (li + (3 : Int32))), (.int ((li + (1 : Int32)) + (1 : Int32)))]) := fun t kt => S29 t (by
    refine XS.iinc X28.here hx rfl (hb hby d8_21) rfl (l' := #[.val (.ref b), .val (.int li), .val (.int (li + (3 : Int32))), .val (.long (0 : Int64)), .second, .val (.int ((li + (1 : Int32)) + (1 : Int32)))]) rfl ?_
    show Steps p.tables e below (T28.setTop (mkF m 24 #[.val (.ref b), .val (.int li), .val (.int (li + (3 : Int32))), .val (.long (0 : Int64)), .second, .val (.int ((li + (1 : Int32)) + (1 : Int32)))] [])) _
    refine XS.goto X28.here hx rfl (pc0 := 24) (pc' := 10) rfl (hb hby d8_24) (by decide) (by decide) ?_
    show Steps p.tables e below (T28.setTop (mkF m 10 #[.val (.ref b), .val (.int li), .val (.int (li + (3 : Int32))), .val (.long (0 : Int64)), .second, .val (.int ((li + (1 : Int32)) + (1 : Int32)))] [])) _
    refine XS.iload X28.here hx rfl (hb hby d8_10) rfl ?_
    show Steps p.tables e below (T28.setTop (mkF m 12 #[.val (.ref b), .val (.int li), .val (.int (li + (3 : Int32))), .val (.long (0 : Int64)), .second, .val (.int ((li + (1 : Int32)) + (1 : Int32)))] [(.int ((li + (1 : Int32)) + (1 : Int32)))])) _
    refine XS.iloadN X28.here hx rfl (hb hby d8_12) rfl ?_
    show Steps p.tables e below (T28.setTop (mkF m 13 #[.val (.ref b), .val (.int li), .val (.int (li + (3 : Int32))), .val (.long (0 : Int64)), .second, .val (.int ((li + (1 : Int32)) + (1 : Int32)))] [(.int (li + (3 : Int32))), (.int ((li + (1 : Int32)) + (1 : Int32)))])) _
    exact kt)
  clear S29
  have S31 : Go p e below s₁ (entryFrame m #[(.ref b), (.int li), (.int (li + (3 : Int32))), (.long (0 : Int64))] 6) T28 (mkF m 20 #[.val (.ref b), .val (.int li), .val (.int (li + (3 : Int32))), .val (.long (0 : Int64)), .second, .val (.int ((li + (1 : Int32)) + (1 : Int32)))] [(.long (0 : Int64)), (.int ((li + (1 : Int32)) + (1 : Int32))), (.ref b)]) := fun t kt => S30 t (by
    refine XS.icmpNo X28.here hx rfl (hb hby d8_13) rfl (tlt (show ((li + (1 : Int32)) + (1 : Int32)) < (li + (3 : Int32)) from (own_plt (by omega)))).2.1 ?_
    show Steps p.tables e below (T28.setTop (mkF m 16 #[.val (.ref b), .val (.int li), .val (.int (li + (3 : Int32))), .val (.long (0 : Int64)), .second, .val (.int ((li + (1 : Int32)) + (1 : Int32)))] [])) _
    refine XS.aloadN X28.here hx rfl (hb hby d8_16) rfl rfl ?_
    show Steps p.tables e below (T28.setTop (mkF m 17 #[.val (.ref b), .val (.int li), .val (.int (li + (3 : Int32))), .val (.long (0 : Int64)), .second, .val (.int ((li + (1 : Int32)) + (1 : Int32)))] [(.ref b)])) _
    refine XS.iload X28.here hx rfl (hb hby d8_17) rfl ?_
    show Steps p.tables e below (T28.setTop (mkF m 19 #[.val (.ref b), .val (.int li), .val (.int (li + (3 : Int32))), .val (.long (0 : Int64)), .second, .val (.int ((li + (1 : Int32)) + (1 : Int32)))] [(.int ((li + (1 : Int32)) + (1 : Int32))), (.ref b)])) _
    refine XS.lloadN X28.here hx rfl (hb hby d8_19) rfl ?_
    show Steps p.tables e below (T28.setTop (mkF m 20 #[.val (.ref b), .val (.int li), .val (.int (li + (3 : Int32))), .val (.long (0 : Int64)), .second, .val (.int ((li + (1 : Int32)) + (1 : Int32)))] [(.long (0 : Int64)), (.int ((li + (1 : Int32)) + (1 : Int32))), (.ref b)])) _
    exact kt)
  clear S30
  obtain ⟨co32, Ao32, qo32, So32, No32, Ho32, Go32⟩ := id V28
  have hino32 : ¬ (((li + (1 : Int32)) + (1 : Int32)) < 0 ∨ co32.slots.size ≤ (((li + (1 : Int32)) + (1 : Int32))).toNatClampNeg) := inb_of So32 r2.1
  obtain ⟨T33, h33, X33, e33, W33, st33⟩ := stJ X28 hx hZ e28 Ao32 (j := ((li + (1 : Int32)) + (1 : Int32))) hino32 (g := (mkF m 20 #[.val (.ref b), .val (.int li), .val (.int (li + (3 : Int32))), .val (.long (0 : Int64)), .second, .val (.int ((li + (1 : Int32)) + (1 : Int32)))] [(.long (0 : Int64)), (.int ((li + (1 : Int32)) + (1 : Int32))), (.ref b)])) rfl rfl (hb hby d8_20)
  have N33 := Fr.snoc X33 N28 g_b
  have K33 : Keep h0 h33 [b] := K28.wr W33 (Or.inl (by simp))
  have V33 : Arv Z h33 b kb .long (68 : Int32) (own_L n 0 0 0) (.long (0 : Int64)) := by rw [← (own_set n hn 0 0 z 0).2.2]; exact Arv.set Ao32 qo32 So32 No32 Ho32 Go32 rfl W33 (n + 2) r2.2 (by rw [own_len]; omega)
  have S34 : Go p e below s₁ (entryFrame m #[(.ref b), (.int li), (.int (li + (3 : Int32))), (.long (0 : Int64))] 6) T33 (mkF m 21 #[.val (.ref b), .val (.int li), .val (.int (li + (3 : Int32))), .val (.long (0 : Int64)), .second, .val (.int ((li + (1 : Int32)) + (1 : Int32)))] []) := fun t kt => S31 t (st33 t kt)
  clear S31 st33 X28 e28
  have S35 : Go p e below s₁ (entryFrame m #[(.ref b), (.int li), (.int (li + (3 : Int32))), (.long (0 : Int64))] 6) T33 (mkF m 13 #[.val (.ref b), .val (.int li), .val (.int (li + (3 : Int32))), .val (.long (0 : Int64)), .second, .val (.int (((li + (1 : Int32)) + (1 : Int32)) + (1 : Int32)))] [(.int (li + (3 : Int32))), (.int (((li + (1 : Int32)) + (1 : Int32)) + (1 : Int32)))]) := fun t kt => S34 t (by
    refine XS.iinc X33.here hx rfl (hb hby d8_21) rfl (l' := #[.val (.ref b), .val (.int li), .val (.int (li + (3 : Int32))), .val (.long (0 : Int64)), .second, .val (.int (((li + (1 : Int32)) + (1 : Int32)) + (1 : Int32)))]) rfl ?_
    show Steps p.tables e below (T33.setTop (mkF m 24 #[.val (.ref b), .val (.int li), .val (.int (li + (3 : Int32))), .val (.long (0 : Int64)), .second, .val (.int (((li + (1 : Int32)) + (1 : Int32)) + (1 : Int32)))] [])) _
    refine XS.goto X33.here hx rfl (pc0 := 24) (pc' := 10) rfl (hb hby d8_24) (by decide) (by decide) ?_
    show Steps p.tables e below (T33.setTop (mkF m 10 #[.val (.ref b), .val (.int li), .val (.int (li + (3 : Int32))), .val (.long (0 : Int64)), .second, .val (.int (((li + (1 : Int32)) + (1 : Int32)) + (1 : Int32)))] [])) _
    refine XS.iload X33.here hx rfl (hb hby d8_10) rfl ?_
    show Steps p.tables e below (T33.setTop (mkF m 12 #[.val (.ref b), .val (.int li), .val (.int (li + (3 : Int32))), .val (.long (0 : Int64)), .second, .val (.int (((li + (1 : Int32)) + (1 : Int32)) + (1 : Int32)))] [(.int (((li + (1 : Int32)) + (1 : Int32)) + (1 : Int32)))])) _
    refine XS.iloadN X33.here hx rfl (hb hby d8_12) rfl ?_
    show Steps p.tables e below (T33.setTop (mkF m 13 #[.val (.ref b), .val (.int li), .val (.int (li + (3 : Int32))), .val (.long (0 : Int64)), .second, .val (.int (((li + (1 : Int32)) + (1 : Int32)) + (1 : Int32)))] [(.int (li + (3 : Int32))), (.int (((li + (1 : Int32)) + (1 : Int32)) + (1 : Int32)))])) _
    exact kt)
  clear S34
  have S36 : Go p e below s₁ (entryFrame m #[(.ref b), (.int li), (.int (li + (3 : Int32))), (.long (0 : Int64))] 6) T33 (mkF m 27 #[.val (.ref b), .val (.int li), .val (.int (li + (3 : Int32))), .val (.long (0 : Int64)), .second, .val (.int (((li + (1 : Int32)) + (1 : Int32)) + (1 : Int32)))] []) := fun t kt => S35 t (by
    refine XS.icmpYes X33.here hx rfl (pc0 := 13) (pc' := 27) rfl (hb hby d8_13) rfl (flt (show ¬ ((((li + (1 : Int32)) + (1 : Int32)) + (1 : Int32)) < (li + (3 : Int32))) from (own_nlt (by omega)))).2.1 (by decide) (by decide) ?_
    show Steps p.tables e below (T33.setTop (mkF m 27 #[.val (.ref b), .val (.int li), .val (.int (li + (3 : Int32))), .val (.long (0 : Int64)), .second, .val (.int (((li + (1 : Int32)) + (1 : Int32)) + (1 : Int32)))] [])) _
    exact kt)
  clear S35
  obtain ⟨fs, hr, hrun, hended, hW, hsame⟩ := X33.leave (v := none) (fun h => by first | rfl | (rw [Bd.returns] at h; cases h))
  refine ⟨_, _, S36 _ ?_, hrun, hended, _, _, rfl, ?_, ⟨_, rfl⟩, hW, hsame.mono (by decide) (by decide)⟩
  · exact X33.returnOut hx Bd.returns (hb hby d8_27) hr
  · show Q_fill Z b kb n h0 n0 _ T33.heap _
    rw [e33]
    exact ⟨rfl, N33, K33, V33⟩
theorem ef_cover (m : MethodId) (x0 : Addr) (x1 : Int32) (x2 : Int32) : entryFrame m #[(.ref x0), (.int x1), (.int x2)] 3 = mkF m 0 #[.val (.ref x0), .val (.int x1), .val (.int x2)] [] := by first | (simp [entryFrame, mkF, argsToLocals, Value.category]; done) | rfl
theorem pn_cover : plainName "com/example/umbel/umbel/rank/ExactSum" = true := by first | (simp [plainName, overriddenIn]; done) | decide +kernel
def Q_cover (Z : State) (a : Addr) (b : Addr) (kb : ClassId) (li : Int32) (n : Nat) (x : Int64) (y : Int64) (z : Int64) (h0 : Heap) (n0 : Nat) (v : Option Value) (h : Heap) (L : List Loc) : Prop := v = none ∧ Fr n0 L ∧ Keep h0 h [a, b] ∧ Exa Z h a "com/example/umbel/umbel/rank/ExactSum" ∧ Fld Z h a "com/example/umbel/umbel/rank/ExactSum" "limbs" "[J" (.ref b) ∧ Fld Z h a "com/example/umbel/umbel/rank/ExactSum" "from" "I" (.int li) ∧ Fld Z h a "com/example/umbel/umbel/rank/ExactSum" "to" "I" (.int (li + (3 : Int32))) ∧ Fld Z h a "com/example/umbel/umbel/rank/ExactSum" "pending" "I" (.int (0 : Int32)) ∧ Arv Z h b kb .long (68 : Int32) (own_L n x y z) (.long (0 : Int64))
set_option maxRecDepth 65536 in
set_option maxHeartbeats 40000000 in
theorem rm_cover (l : Launch) (Z : State) (a0 : Array Value) (hw : ∀ d ∈ tables_1, d.before a0 Z = true) (ws : List Jvm.Cond) (a : Addr) (b : Addr) (kb : ClassId) (li : Int32) (n : Nat) (x : Int64) (y : Int64) (z : Int64) (h0 : Heap) (n0 : Nat) (Z0 : n0 ≤ h0.size) (E0 : Exa Z h0 a "com/example/umbel/umbel/rank/ExactSum") (F0 : Fld Z h0 a "com/example/umbel/umbel/rank/ExactSum" "limbs" "[J" (.ref b)) (F1 : Fld Z h0 a "com/example/umbel/umbel/rank/ExactSum" "from" "I" (.int (0 : Int32))) (F2 : Fld Z h0 a "com/example/umbel/umbel/rank/ExactSum" "to" "I" (.int (0 : Int32))) (F3 : Fld Z h0 a "com/example/umbel/umbel/rank/ExactSum" "pending" "I" (.int (0 : Int32))) (V0 : Arv Z h0 b kb .long (68 : Int32) (own_L n x y z) (.long (0 : Int64))) (g_a : n0 ≤ a) (g_b : n0 ≤ b) (hab : a ≠ b) :
    MetFree l (⟨"com/example/umbel/umbel/rank/ExactSum", "cover", "(II)V"⟩ : MethodName) (head1 (Jvm.Cond.code (⟨"com/example/umbel/umbel/rank/ExactSum", "cover", "(II)V"⟩ : MethodName) prog_6_method_9_code 3 none :: ws) ({ frames := 0, cells := 0, slots := 0, locals := 0 } : Room)) (fun aa U => aa = #[(.ref a), (.int li), (.int (li + (3 : Int32)))] ∧ Z.Warmed39 U.vm ∧ U.heap = h0) (fun _ _ _ _ _ => True) (fun _ U o U' => ∃ v L, o = .returned v ∧ Q_cover Z a b kb li n x y z h0 n0 v U'.heap L ∧ FrameEnd U o U' L ({ frames := 0, cells := 0, slots := 0, locals := 0 } : Room).cells ({ frames := 0, cells := 0, slots := 0, locals := 0 } : Room).slots) := by
  refine MetFree.of_bodySF (plainFor_of_name pn_cover) hisR ?_
  intro p e s m args below meth c s₁ Bd hml0 hP hK
  obtain ⟨rfl, hZ, hh⟩ := hP
  have hx := Bd.exec
  have hby := Bd.bytes
  have hml : c.maxLocals = 3 := hml0
  have hown : s.vm.findClass "com/example/umbel/umbel/rank/ExactSum" = some m.cls := findClass_of_methodNamed Bd.named
  have hnm := (name_of_methodNamed Bd.named Bd.method).1
  have X0 : Stand p l e ({ frames := 0, cells := 0, slots := 0, locals := 0 } : Room) s m #[(.ref a), (.int li), (.int (li + (3 : Int32)))] below meth c s₁ [] 0 0 := Stand.of_body Bd
  have e0 : s₁.heap = h0 := by rw [← hh, Bd.state]; rfl
  have N0 := Fr.nil n0
  have S0 : Go p e below s₁ (entryFrame m #[(.ref a), (.int li), (.int (li + (3 : Int32)))] 3) s₁ (mkF m 0 #[.val (.ref a), .val (.int li), .val (.int (li + (3 : Int32)))] []) := fun t k => castTop (ef_cover m a li (li + (3 : Int32))) k
  have S37 : Go p e below s₁ (entryFrame m #[(.ref a), (.int li), (.int (li + (3 : Int32)))] 3) s₁ (mkF m 1 #[.val (.ref a), .val (.int li), .val (.int (li + (3 : Int32)))] [(.ref a)]) := fun t kt => S0 t (by
    refine XS.aloadN X0.here hx rfl (hb hby d4_0) rfl rfl ?_
    show Steps p.tables e below (s₁.setTop (mkF m 1 #[.val (.ref a), .val (.int li), .val (.int (li + (3 : Int32)))] [(.ref a)])) _
    exact kt)
  clear S0
  obtain ⟨T38, X38, e38, st38⟩ := getF X0 hx hZ hown (host := "") (Or.inl (hw _ (List.mem_of_getElem? (i := 29) rfl))) Via.refl e0 F1 (g := (mkF m 1 #[.val (.ref a), .val (.int li), .val (.int (li + (3 : Int32)))] [(.ref a)])) rfl rfl (hb hby d4_1)
  have S39 : Go p e below s₁ (entryFrame m #[(.ref a), (.int li), (.int (li + (3 : Int32)))] 3) T38 (mkF m 4 #[.val (.ref a), .val (.int li), .val (.int (li + (3 : Int32)))] [(.int (0 : Int32))]) := fun t kt => S37 t (st38 t kt)
  clear S37 st38 X0 e0
  have S40 : Go p e below s₁ (entryFrame m #[(.ref a), (.int li), (.int (li + (3 : Int32)))] 3) T38 (mkF m 5 #[.val (.ref a), .val (.int li), .val (.int (li + (3 : Int32)))] [(.ref a), (.int (0 : Int32))]) := fun t kt => S39 t (by
    refine XS.aloadN X38.here hx rfl (hb hby d4_4) rfl rfl ?_
    show Steps p.tables e below (T38.setTop (mkF m 5 #[.val (.ref a), .val (.int li), .val (.int (li + (3 : Int32)))] [(.ref a), (.int (0 : Int32))])) _
    exact kt)
  clear S39
  obtain ⟨T41, X41, e41, st41⟩ := getF X38 hx hZ hown (host := "") (Or.inl (hw _ (List.mem_of_getElem? (i := 31) rfl))) Via.refl e38 F2 (g := (mkF m 5 #[.val (.ref a), .val (.int li), .val (.int (li + (3 : Int32)))] [(.ref a), (.int (0 : Int32))])) rfl rfl (hb hby d4_5)
  have S42 : Go p e below s₁ (entryFrame m #[(.ref a), (.int li), (.int (li + (3 : Int32)))] 3) T41 (mkF m 8 #[.val (.ref a), .val (.int li), .val (.int (li + (3 : Int32)))] [(.int (0 : Int32)), (.int (0 : Int32))]) := fun t kt => S40 t (st41 t kt)
  clear S40 st41 X38 e38
  have S43 : Go p e below s₁ (entryFrame m #[(.ref a), (.int li), (.int (li + (3 : Int32)))] 3) T41 (mkF m 13 #[.val (.ref a), .val (.int li), .val (.int (li + (3 : Int32)))] [(.int li), (.ref a)]) := fun t kt => S42 t (by
    refine XS.icmpNo X41.here hx rfl (hb hby d4_8) rfl (teq (show (0 : Int32) = (0 : Int32) from (by decide))).2 ?_
    show Steps p.tables e below (T41.setTop (mkF m 11 #[.val (.ref a), .val (.int li), .val (.int (li + (3 : Int32)))] [])) _
    refine XS.aloadN X41.here hx rfl (hb hby d4_11) rfl rfl ?_
    show Steps p.tables e below (T41.setTop (mkF m 12 #[.val (.ref a), .val (.int li), .val (.int (li + (3 : Int32)))] [(.ref a)])) _
    refine XS.iloadN X41.here hx rfl (hb hby d4_12) rfl ?_
    show Steps p.tables e below (T41.setTop (mkF m 13 #[.val (.ref a), .val (.int li), .val (.int (li + (3 : Int32)))] [(.int li), (.ref a)])) _
    exact kt)
  clear S42
  obtain ⟨T44, h44, X44, e44, W44, st44⟩ := putF X41 hx hZ hown (host := "") (Or.inl (hw _ (List.mem_of_getElem? (i := 29) rfl))) Via.refl e41 F1 E0 (Or.inl (hw _ (List.mem_of_getElem? (i := 30) rfl))) (hw _ (List.mem_of_getElem? (i := 2) rfl)) (ty := .int) (by decide) rfl rfl (g := (mkF m 13 #[.val (.ref a), .val (.int li), .val (.int (li + (3 : Int32)))] [(.int li), (.ref a)])) rfl rfl (hb hby d4_13)
  have N44 := Fr.snoc X44 N0 g_a
  have K44 : Keep h0 h44 [a, b] := (Keep.refl h0 [a, b]).wr W44 (Or.inl (by simp))
  have Fw44 := F1.same W44
  have S45 : Go p e below s₁ (entryFrame m #[(.ref a), (.int li), (.int (li + (3 : Int32)))] 3) T44 (mkF m 16 #[.val (.ref a), .val (.int li), .val (.int (li + (3 : Int32)))] []) := fun t kt => S43 t (st44 t kt)
  clear S43 st44 X41 e41
  have S46 : Go p e below s₁ (entryFrame m #[(.ref a), (.int li), (.int (li + (3 : Int32)))] 3) T44 (mkF m 18 #[.val (.ref a), .val (.int li), .val (.int (li + (3 : Int32)))] [(.int (li + (3 : Int32))), (.ref a)]) := fun t kt => S45 t (by
    refine XS.aloadN X44.here hx rfl (hb hby d4_16) rfl rfl ?_
    show Steps p.tables e below (T44.setTop (mkF m 17 #[.val (.ref a), .val (.int li), .val (.int (li + (3 : Int32)))] [(.ref a)])) _
    refine XS.iloadN X44.here hx rfl (hb hby d4_17) rfl ?_
    show Steps p.tables e below (T44.setTop (mkF m 18 #[.val (.ref a), .val (.int li), .val (.int (li + (3 : Int32)))] [(.int (li + (3 : Int32))), (.ref a)])) _
    exact kt)
  clear S45
  have f47 := (F2.other W44 (Or.inr (slot_ne (C := "com/example/umbel/umbel/rank/ExactSum") (Or.inl (hw _ (List.mem_of_getElem? (i := 32) rfl))) (Or.inl (hw _ (List.mem_of_getElem? (i := 30) rfl))) (by decide) (t := .int) (t' := .int) (by decide) (by decide))))
  have f48 := (E0.wr W44)
  obtain ⟨T49, h49, X49, e49, W49, st49⟩ := putF X44 hx hZ hown (host := "") (Or.inl (hw _ (List.mem_of_getElem? (i := 31) rfl))) Via.refl e44 f47 f48 (Or.inl (hw _ (List.mem_of_getElem? (i := 32) rfl))) (hw _ (List.mem_of_getElem? (i := 2) rfl)) (ty := .int) (by decide) rfl rfl (g := (mkF m 18 #[.val (.ref a), .val (.int li), .val (.int (li + (3 : Int32)))] [(.int (li + (3 : Int32))), (.ref a)])) rfl rfl (hb hby d4_18)
  have N49 := Fr.snoc X49 N44 g_a
  have K49 : Keep h0 h49 [a, b] := K44.wr W49 (Or.inl (by simp))
  have Fw49 := f47.same W49
  have S50 : Go p e below s₁ (entryFrame m #[(.ref a), (.int li), (.int (li + (3 : Int32)))] 3) T49 (mkF m 21 #[.val (.ref a), .val (.int li), .val (.int (li + (3 : Int32)))] []) := fun t kt => S46 t (st49 t kt)
  clear S46 st49 X44 e44
  have S51 : Go p e below s₁ (entryFrame m #[(.ref a), (.int li), (.int (li + (3 : Int32)))] 3) T49 (mkF m 48 #[.val (.ref a), .val (.int li), .val (.int (li + (3 : Int32)))] []) := fun t kt => S50 t (by
    refine XS.goto X49.here hx rfl (pc0 := 21) (pc' := 48) rfl (hb hby d4_21) (by decide) (by decide) ?_
    show Steps p.tables e below (T49.setTop (mkF m 48 #[.val (.ref a), .val (.int li), .val (.int (li + (3 : Int32)))] [])) _
    exact kt)
  clear S50
  have f52 := (f48.wr W49)
  have f53 := ((F0.other W44 (Or.inr (slot_ne (C := "com/example/umbel/umbel/rank/ExactSum") (Or.inr (hw _ (List.mem_of_getElem? (i := 12) rfl))) (Or.inl (hw _ (List.mem_of_getElem? (i := 30) rfl))) (by decide) (t := (.array .long)) (t' := .int) (by decide) (by decide)))).other W49 (Or.inr (slot_ne (C := "com/example/umbel/umbel/rank/ExactSum") (Or.inr (hw _ (List.mem_of_getElem? (i := 12) rfl))) (Or.inl (hw _ (List.mem_of_getElem? (i := 32) rfl))) (by decide) (t := (.array .long)) (t' := .int) (by decide) (by decide))))
  have f54 := (Fw44.other W49 (Or.inr (slot_ne (C := "com/example/umbel/umbel/rank/ExactSum") (Or.inl (hw _ (List.mem_of_getElem? (i := 30) rfl))) (Or.inl (hw _ (List.mem_of_getElem? (i := 32) rfl))) (by decide) (t := .int) (t' := .int) (by decide) (by decide))))
  have f55 := ((F3.other W44 (Or.inr (slot_ne (C := "com/example/umbel/umbel/rank/ExactSum") (Or.inl (hw _ (List.mem_of_getElem? (i := 34) rfl))) (Or.inl (hw _ (List.mem_of_getElem? (i := 30) rfl))) (by decide) (t := .int) (t' := .int) (by decide) (by decide)))).other W49 (Or.inr (slot_ne (C := "com/example/umbel/umbel/rank/ExactSum") (Or.inl (hw _ (List.mem_of_getElem? (i := 34) rfl))) (Or.inl (hw _ (List.mem_of_getElem? (i := 32) rfl))) (by decide) (t := .int) (t' := .int) (by decide) (by decide))))
  have f56 := ((V0.other W44 (Ne.symm hab)).other W49 (Ne.symm hab))
  obtain ⟨fs, hr, hrun, hended, hW, hsame⟩ := X49.leave (v := none) (fun h => by first | rfl | (rw [Bd.returns] at h; cases h))
  refine ⟨_, _, S51 _ ?_, hrun, hended, _, _, rfl, ?_, ⟨_, rfl⟩, hW, hsame.mono (by decide) (by decide)⟩
  · exact X49.returnOut hx Bd.returns (hb hby d4_48) hr
  · show Q_cover Z a b kb li n x y z h0 n0 _ T49.heap _
    rw [e49]
    exact ⟨rfl, N49, K49, f52, f53, f54, Fw49, f55, f56⟩
theorem ef_carry (m : MethodId) (x0 : Addr) : entryFrame m #[(.ref x0)] 6 = mkF m 0 #[.val (.ref x0), .unset, .unset, .unset, .unset, .unset] [] := by first | (simp [entryFrame, mkF, argsToLocals, Value.category]; done) | rfl
theorem pn_carry : plainName "com/example/umbel/umbel/rank/ExactSum" = true := by first | (simp [plainName, overriddenIn]; done) | decide +kernel
def Q_carry (Z : State) (a : Addr) (b : Addr) (kb : ClassId) (li : Int32) (n : Nat) (x : Int64) (y : Int64) (z : Int64) (h0 : Heap) (n0 : Nat) (v : Option Value) (h : Heap) (L : List Loc) : Prop := v = none ∧ Fr n0 L ∧ Keep h0 h [a, b] ∧ Exa Z h a "com/example/umbel/umbel/rank/ExactSum" ∧ Fld Z h a "com/example/umbel/umbel/rank/ExactSum" "limbs" "[J" (.ref b) ∧ Fld Z h a "com/example/umbel/umbel/rank/ExactSum" "from" "I" (.int li) ∧ Fld Z h a "com/example/umbel/umbel/rank/ExactSum" "to" "I" (.int (li + (3 : Int32))) ∧ Fld Z h a "com/example/umbel/umbel/rank/ExactSum" "pending" "I" (.int (0 : Int32)) ∧ Arv Z h b kb .long (68 : Int32) (own_L n x y z) (.long (0 : Int64))
set_option maxRecDepth 65536 in
set_option maxHeartbeats 40000000 in
theorem rm_carry (l : Launch) (Z : State) (a0 : Array Value) (hw : ∀ d ∈ tables_1, d.before a0 Z = true) (ws : List Jvm.Cond) (a : Addr) (b : Addr) (kb : ClassId) (li : Int32) (n : Nat) (x : Int64) (y : Int64) (z : Int64) (pd : Int32) (h0 : Heap) (n0 : Nat) (Z0 : n0 ≤ h0.size) (E0 : Exa Z h0 a "com/example/umbel/umbel/rank/ExactSum") (F0 : Fld Z h0 a "com/example/umbel/umbel/rank/ExactSum" "limbs" "[J" (.ref b)) (F1 : Fld Z h0 a "com/example/umbel/umbel/rank/ExactSum" "from" "I" (.int li)) (F2 : Fld Z h0 a "com/example/umbel/umbel/rank/ExactSum" "to" "I" (.int (li + (3 : Int32)))) (F3 : Fld Z h0 a "com/example/umbel/umbel/rank/ExactSum" "pending" "I" (.int pd)) (V0 : Arv Z h0 b kb .long (68 : Int32) (own_L n x y z) (.long (0 : Int64))) (g_a : n0 ≤ a) (g_b : n0 ≤ b) (hab : a ≠ b) (hl : li.toInt = (n : Int)) (hn : n ≤ 65) (hx0 : 0 ≤ x.toInt ∧ x.toInt < 4294967296) (hy0 : 0 ≤ y.toInt ∧ y.toInt < 4294967296) (hz0 : 0 ≤ z.toInt ∧ z.toInt < 4294967296) :
    MetFree l (⟨"com/example/umbel/umbel/rank/ExactSum", "carry", "()V"⟩ : MethodName) (head1 (Jvm.Cond.code (⟨"com/example/umbel/umbel/rank/ExactSum", "carry", "()V"⟩ : MethodName) prog_6_method_8_code 6 none :: ws) ({ frames := 0, cells := 0, slots := 0, locals := 0 } : Room)) (fun aa U => aa = #[(.ref a)] ∧ Z.Warmed39 U.vm ∧ U.heap = h0) (fun _ _ _ _ _ => True) (fun _ U o U' => ∃ v L, o = .returned v ∧ Q_carry Z a b kb li n x y z h0 n0 v U'.heap L ∧ FrameEnd U o U' L ({ frames := 0, cells := 0, slots := 0, locals := 0 } : Room).cells ({ frames := 0, cells := 0, slots := 0, locals := 0 } : Room).slots) := by
  refine MetFree.of_bodySF (plainFor_of_name pn_carry) hisR ?_
  intro p e s m args below meth c s₁ Bd hml0 hP hK
  obtain ⟨rfl, hZ, hh⟩ := hP
  have hx := Bd.exec
  have hby := Bd.bytes
  have hml : c.maxLocals = 6 := hml0
  have hown : s.vm.findClass "com/example/umbel/umbel/rank/ExactSum" = some m.cls := findClass_of_methodNamed Bd.named
  have hnm := (name_of_methodNamed Bd.named Bd.method).1
  have X0 : Stand p l e ({ frames := 0, cells := 0, slots := 0, locals := 0 } : Room) s m #[(.ref a)] below meth c s₁ [] 0 0 := Stand.of_body Bd
  have e0 : s₁.heap = h0 := by rw [← hh, Bd.state]; rfl
  have N0 := Fr.nil n0
  have S0 : Go p e below s₁ (entryFrame m #[(.ref a)] 6) s₁ (mkF m 0 #[.val (.ref a), .unset, .unset, .unset, .unset, .unset] []) := fun t k => castTop (ef_carry m a) k
  have r0 := own_rng hl (show n < 68 by omega)
  have i1 := own_i1 hl hn
  have i2 := own_i2 hl hn
  have i3 := own_i3 hl hn
  have r1 := own_rng i1 (show n + 1 < 68 by omega)
  have r2 := own_rng i2 (show n + 2 < 68 by omega)
  have it := own_it hl hn
  have S57 : Go p e below s₁ (entryFrame m #[(.ref a)] 6) s₁ (mkF m 3 #[.val (.ref a), .val (.long (0 : Int64)), .second, .unset, .unset, .unset] [(.ref a)]) := fun t kt => S0 t (by
    refine XS.lconst X0.here hx rfl (hb hby d6_0) ?_
    show Steps p.tables e below (s₁.setTop (mkF m 1 #[.val (.ref a), .unset, .unset, .unset, .unset, .unset] [(.long (0 : Int64))])) _
    refine XS.lstoreN X0.here hx rfl (hb hby d6_1) rfl (l' := #[.val (.ref a), .val (.long (0 : Int64)), .second, .unset, .unset, .unset]) rfl ?_
    show Steps p.tables e below (s₁.setTop (mkF m 2 #[.val (.ref a), .val (.long (0 : Int64)), .second, .unset, .unset, .unset] [])) _
    refine XS.aloadN X0.here hx rfl (hb hby d6_2) rfl rfl ?_
    show Steps p.tables e below (s₁.setTop (mkF m 3 #[.val (.ref a), .val (.long (0 : Int64)), .second, .unset, .unset, .unset] [(.ref a)])) _
    exact kt)
  clear S0
  obtain ⟨T58, X58, e58, st58⟩ := getF X0 hx hZ hown (host := "") (Or.inl (hw _ (List.mem_of_getElem? (i := 29) rfl))) Via.refl e0 F1 (g := (mkF m 3 #[.val (.ref a), .val (.long (0 : Int64)), .second, .unset, .unset, .unset] [(.ref a)])) rfl rfl (hb hby d6_3)
  have S59 : Go p e below s₁ (entryFrame m #[(.ref a)] 6) T58 (mkF m 6 #[.val (.ref a), .val (.long (0 : Int64)), .second, .unset, .unset, .unset] [(.int li)]) := fun t kt => S57 t (st58 t kt)
  clear S57 st58 X0 e0
  have S60 : Go p e below s₁ (entryFrame m #[(.ref a)] 6) T58 (mkF m 9 #[.val (.ref a), .val (.long (0 : Int64)), .second, .val (.int li), .unset, .unset] [(.ref a), (.int li)]) := fun t kt => S59 t (by
    refine XS.istoreN X58.here hx rfl (hb hby d6_6) rfl (l' := #[.val (.ref a), .val (.long (0 : Int64)), .second, .val (.int li), .unset, .unset]) rfl ?_
    show Steps p.tables e below (T58.setTop (mkF m 7 #[.val (.ref a), .val (.long (0 : Int64)), .second, .val (.int li), .unset, .unset] [])) _
    refine XS.iloadN X58.here hx rfl (hb hby d6_7) rfl ?_
    show Steps p.tables e below (T58.setTop (mkF m 8 #[.val (.ref a), .val (.long (0 : Int64)), .second, .val (.int li), .unset, .unset] [(.int li)])) _
    refine XS.aloadN X58.here hx rfl (hb hby d6_8) rfl rfl ?_
    show Steps p.tables e below (T58.setTop (mkF m 9 #[.val (.ref a), .val (.long (0 : Int64)), .second, .val (.int li), .unset, .unset] [(.ref a), (.int li)])) _
    exact kt)
  clear S59
  obtain ⟨T61, X61, e61, st61⟩ := getF X58 hx hZ hown (host := "") (Or.inl (hw _ (List.mem_of_getElem? (i := 31) rfl))) Via.refl e58 F2 (g := (mkF m 9 #[.val (.ref a), .val (.long (0 : Int64)), .second, .val (.int li), .unset, .unset] [(.ref a), (.int li)])) rfl rfl (hb hby d6_9)
  have S62 : Go p e below s₁ (entryFrame m #[(.ref a)] 6) T61 (mkF m 12 #[.val (.ref a), .val (.long (0 : Int64)), .second, .val (.int li), .unset, .unset] [(.int (li + (3 : Int32))), (.int li)]) := fun t kt => S60 t (st61 t kt)
  clear S60 st61 X58 e58
  have S63 : Go p e below s₁ (entryFrame m #[(.ref a)] 6) T61 (mkF m 22 #[.val (.ref a), .val (.long (0 : Int64)), .second, .val (.int li), .unset, .unset] [(.ref a)]) := fun t kt => S62 t (by
    refine XS.icmpYes X61.here hx rfl (pc0 := 12) (pc' := 21) rfl (hb hby d6_12) rfl (tlt (show li < (li + (3 : Int32)) from (own_plt (by omega)))).1 (by decide) (by decide) ?_
    show Steps p.tables e below (T61.setTop (mkF m 21 #[.val (.ref a), .val (.long (0 : Int64)), .second, .val (.int li), .unset, .unset] [])) _
    refine XS.aloadN X61.here hx rfl (hb hby d6_21) rfl rfl ?_
    show Steps p.tables e below (T61.setTop (mkF m 22 #[.val (.ref a), .val (.long (0 : Int64)), .second, .val (.int li), .unset, .unset] [(.ref a)])) _
    exact kt)
  clear S62
  obtain ⟨T64, X64, e64, st64⟩ := getF X61 hx hZ hown (host := "") (Or.inl (hw _ (List.mem_of_getElem? (i := 11) rfl))) Via.refl e61 F0 (g := (mkF m 22 #[.val (.ref a), .val (.long (0 : Int64)), .second, .val (.int li), .unset, .unset] [(.ref a)])) rfl rfl (hb hby d6_22)
  have S65 : Go p e below s₁ (entryFrame m #[(.ref a)] 6) T64 (mkF m 25 #[.val (.ref a), .val (.long (0 : Int64)), .second, .val (.int li), .unset, .unset] [(.ref b)]) := fun t kt => S63 t (st64 t kt)
  clear S63 st64 X61 e61
  have S66 : Go p e below s₁ (entryFrame m #[(.ref a)] 6) T64 (mkF m 26 #[.val (.ref a), .val (.long (0 : Int64)), .second, .val (.int li), .unset, .unset] [(.int li), (.ref b)]) := fun t kt => S65 t (by
    refine XS.iloadN X64.here hx rfl (hb hby d6_25) rfl ?_
    show Steps p.tables e below (T64.setTop (mkF m 26 #[.val (.ref a), .val (.long (0 : Int64)), .second, .val (.int li), .unset, .unset] [(.int li), (.ref b)])) _
    exact kt)
  clear S65
  obtain ⟨co67, Ao67, qo67, So67, No67, Ho67, Go67⟩ := id V0
  have hino67 : ¬ (li < 0 ∨ co67.slots.size ≤ (li).toNatClampNeg) := inb_of So67 r0.1
  have hato67 : co67.slots[(li).toNatClampNeg]? = some (.long x) := Has.at Ho67 hino67 (by rw [r0.2]; exact own_at0 n hn x y z)
  have S68 : Go p e below s₁ (entryFrame m #[(.ref a)] 6) T64 (mkF m 29 #[.val (.ref a), .val (.long (0 : Int64)), .second, .val (.int li), .unset, .unset] [(.long (x + (0 : Int64)))]) := fun t kt => S66 t (by
    refine X64.laload hx (j := li) (v := (.long x)) (by rw [e64]; exact Ao67.1) (State.isArrayOf_alike hZ.alike Ao67.2.1) Ao67.2.2 hino67 hato67 (g := (mkF m 26 #[.val (.ref a), .val (.long (0 : Int64)), .second, .val (.int li), .unset, .unset] [(.int li), (.ref b)])) rfl rfl (hb hby d6_26) _ ?_
    show Steps p.tables e below (T64.setTop (mkF m 27 #[.val (.ref a), .val (.long (0 : Int64)), .second, .val (.int li), .unset, .unset] [(.long x)])) _
    refine XS.lloadN X64.here hx rfl (hb hby d6_27) rfl ?_
    show Steps p.tables e below (T64.setTop (mkF m 28 #[.val (.ref a), .val (.long (0 : Int64)), .second, .val (.int li), .unset, .unset] [(.long (0 : Int64)), (.long x)])) _
    refine XS.ladd X64.here hx rfl (hb hby d6_28) rfl ?_
    show Steps p.tables e below (T64.setTop (mkF m 29 #[.val (.ref a), .val (.long (0 : Int64)), .second, .val (.int li), .unset, .unset] [(.long (x + (0 : Int64)))])) _
    exact kt)
  clear S66
  have q70 : (x + (0 : Int64)) = x := Int64.add_zero x
  have S69 : Go p e below s₁ (entryFrame m #[(.ref a)] 6) T64 (mkF m 29 #[.val (.ref a), .val (.long (0 : Int64)), .second, .val (.int li), .unset, .unset] [(.long x)]) := by have h := S68; rw [q70] at h; exact h
  clear S68
  have S71 : Go p e below s₁ (entryFrame m #[(.ref a)] 6) T64 (mkF m 32 #[.val (.ref a), .val (.long (0 : Int64)), .second, .val (.int li), .val (.long x), .second] [(.ref a)]) := fun t kt => S69 t (by
    refine XS.lstore X64.here hx rfl (hb hby d6_29) rfl (l' := #[.val (.ref a), .val (.long (0 : Int64)), .second, .val (.int li), .val (.long x), .second]) rfl ?_
    show Steps p.tables e below (T64.setTop (mkF m 31 #[.val (.ref a), .val (.long (0 : Int64)), .second, .val (.int li), .val (.long x), .second] [])) _
    refine XS.aloadN X64.here hx rfl (hb hby d6_31) rfl rfl ?_
    show Steps p.tables e below (T64.setTop (mkF m 32 #[.val (.ref a), .val (.long (0 : Int64)), .second, .val (.int li), .val (.long x), .second] [(.ref a)])) _
    exact kt)
  clear S69
  obtain ⟨T72, X72, e72, st72⟩ := getF X64 hx hZ hown (host := "") (Or.inl (hw _ (List.mem_of_getElem? (i := 11) rfl))) Via.refl e64 F0 (g := (mkF m 32 #[.val (.ref a), .val (.long (0 : Int64)), .second, .val (.int li), .val (.long x), .second] [(.ref a)])) rfl rfl (hb hby d6_32)
  have S73 : Go p e below s₁ (entryFrame m #[(.ref a)] 6) T72 (mkF m 35 #[.val (.ref a), .val (.long (0 : Int64)), .second, .val (.int li), .val (.long x), .second] [(.ref b)]) := fun t kt => S71 t (st72 t kt)
  clear S71 st72 X64 e64
  have S74 : Go p e below s₁ (entryFrame m #[(.ref a)] 6) T72 (mkF m 42 #[.val (.ref a), .val (.long (0 : Int64)), .second, .val (.int li), .val (.long x), .second] [(.long (x &&& (4294967295 : Int64))), (.int li), (.ref b)]) := fun t kt => S73 t (by
    refine XS.iloadN X72.here hx rfl (hb hby d6_35) rfl ?_
    show Steps p.tables e below (T72.setTop (mkF m 36 #[.val (.ref a), .val (.long (0 : Int64)), .second, .val (.int li), .val (.long x), .second] [(.int li), (.ref b)])) _
    refine XS.lload X72.here hx rfl (hb hby d6_36) rfl ?_
    show Steps p.tables e below (T72.setTop (mkF m 38 #[.val (.ref a), .val (.long (0 : Int64)), .second, .val (.int li), .val (.long x), .second] [(.long x), (.int li), (.ref b)])) _
    refine X72.ldc2Long hx hown (mvT hZ (hw _ (List.mem_of_getElem? (i := 24) rfl))) (g := (mkF m 38 #[.val (.ref a), .val (.long (0 : Int64)), .second, .val (.int li), .val (.long x), .second] [(.long x), (.int li), (.ref b)])) rfl (hb hby d6_38) _ ?_
    show Steps p.tables e below (T72.setTop (mkF m 41 #[.val (.ref a), .val (.long (0 : Int64)), .second, .val (.int li), .val (.long x), .second] [(.long (4294967295 : Int64)), (.long x), (.int li), (.ref b)])) _
    refine XS.land X72.here hx rfl (hb hby d6_41) rfl ?_
    show Steps p.tables e below (T72.setTop (mkF m 42 #[.val (.ref a), .val (.long (0 : Int64)), .second, .val (.int li), .val (.long x), .second] [(.long (x &&& (4294967295 : Int64))), (.int li), (.ref b)])) _
    exact kt)
  clear S73
  have q76 : (x &&& (4294967295 : Int64)) = x := own_msk hx0
  have S75 : Go p e below s₁ (entryFrame m #[(.ref a)] 6) T72 (mkF m 42 #[.val (.ref a), .val (.long (0 : Int64)), .second, .val (.int li), .val (.long x), .second] [(.long x), (.int li), (.ref b)]) := by have h := S74; rw [q76] at h; exact h
  clear S74
  obtain ⟨co77, Ao77, qo77, So77, No77, Ho77, Go77⟩ := id V0
  have hino77 : ¬ (li < 0 ∨ co77.slots.size ≤ (li).toNatClampNeg) := inb_of So77 r0.1
  obtain ⟨T78, h78, X78, e78, W78, st78⟩ := stJ X72 hx hZ e72 Ao77 (j := li) hino77 (g := (mkF m 42 #[.val (.ref a), .val (.long (0 : Int64)), .second, .val (.int li), .val (.long x), .second] [(.long x), (.int li), (.ref b)])) rfl rfl (hb hby d6_42)
  have N78 := Fr.snoc X78 N0 g_b
  have K78 : Keep h0 h78 [a, b] := (Keep.refl h0 [a, b]).wr W78 (Or.inl (by simp))
  have V78 : Arv Z h78 b kb .long (68 : Int32) (own_L n x y z) (.long (0 : Int64)) := by rw [← (own_set n hn x y z x).1]; exact Arv.set Ao77 qo77 So77 No77 Ho77 Go77 rfl W78 n r0.2 (by rw [own_len]; omega)
  have S79 : Go p e below s₁ (entryFrame m #[(.ref a)] 6) T78 (mkF m 43 #[.val (.ref a), .val (.long (0 : Int64)), .second, .val (.int li), .val (.long x), .second] []) := fun t kt => S75 t (st78 t kt)
  clear S75 st78 X72 e72
  have S80 : Go p e below s₁ (entryFrame m #[(.ref a)] 6) T78 (mkF m 48 #[.val (.ref a), .val (.long (0 : Int64)), .second, .val (.int li), .val (.long x), .second] [(.long ((x.toUInt64 >>> ((32 : Int32) &&& 0x3f).toInt64.toUInt64).toInt64))]) := fun t kt => S79 t (by
    refine XS.lload X78.here hx rfl (hb hby d6_43) rfl ?_
    show Steps p.tables e below (T78.setTop (mkF m 45 #[.val (.ref a), .val (.long (0 : Int64)), .second, .val (.int li), .val (.long x), .second] [(.long x)])) _
    refine XS.bipush X78.here hx rfl (hb hby d6_45) ?_
    show Steps p.tables e below (T78.setTop (mkF m 47 #[.val (.ref a), .val (.long (0 : Int64)), .second, .val (.int li), .val (.long x), .second] [(.int (32 : Int32)), (.long x)])) _
    refine XS.lushr X78.here hx rfl (hb hby d6_47) rfl ?_
    show Steps p.tables e below (T78.setTop (mkF m 48 #[.val (.ref a), .val (.long (0 : Int64)), .second, .val (.int li), .val (.long x), .second] [(.long ((x.toUInt64 >>> ((32 : Int32) &&& 0x3f).toInt64.toUInt64).toInt64))])) _
    exact kt)
  clear S79
  have q82 : ((x.toUInt64 >>> ((32 : Int32) &&& 0x3f).toInt64.toUInt64).toInt64) = (0 : Int64) := own_sh0 hx0
  have S81 : Go p e below s₁ (entryFrame m #[(.ref a)] 6) T78 (mkF m 48 #[.val (.ref a), .val (.long (0 : Int64)), .second, .val (.int li), .val (.long x), .second] [(.long (0 : Int64))]) := by have h := S80; rw [q82] at h; exact h
  clear S80
  have S83 : Go p e below s₁ (entryFrame m #[(.ref a)] 6) T78 (mkF m 9 #[.val (.ref a), .val (.long (0 : Int64)), .second, .val (.int (li + (1 : Int32))), .val (.long x), .second] [(.ref a), (.int (li + (1 : Int32)))]) := fun t kt => S81 t (by
    refine XS.lstoreN X78.here hx rfl (hb hby d6_48) rfl (l' := #[.val (.ref a), .val (.long (0 : Int64)), .second, .val (.int li), .val (.long x), .second]) rfl ?_
    show Steps p.tables e below (T78.setTop (mkF m 49 #[.val (.ref a), .val (.long (0 : Int64)), .second, .val (.int li), .val (.long x), .second] [])) _
    refine XS.iinc X78.here hx rfl (hb hby d6_49) rfl (l' := #[.val (.ref a), .val (.long (0 : Int64)), .second, .val (.int (li + (1 : Int32))), .val (.long x), .second]) rfl ?_
    show Steps p.tables e below (T78.setTop (mkF m 52 #[.val (.ref a), .val (.long (0 : Int64)), .second, .val (.int (li + (1 : Int32))), .val (.long x), .second] [])) _
    refine XS.goto X78.here hx rfl (pc0 := 52) (pc' := 7) rfl (hb hby d6_52) (by decide) (by decide) ?_
    show Steps p.tables e below (T78.setTop (mkF m 7 #[.val (.ref a), .val (.long (0 : Int64)), .second, .val (.int (li + (1 : Int32))), .val (.long x), .second] [])) _
    refine XS.iloadN X78.here hx rfl (hb hby d6_7) rfl ?_
    show Steps p.tables e below (T78.setTop (mkF m 8 #[.val (.ref a), .val (.long (0 : Int64)), .second, .val (.int (li + (1 : Int32))), .val (.long x), .second] [(.int (li + (1 : Int32)))])) _
    refine XS.aloadN X78.here hx rfl (hb hby d6_8) rfl rfl ?_
    show Steps p.tables e below (T78.setTop (mkF m 9 #[.val (.ref a), .val (.long (0 : Int64)), .second, .val (.int (li + (1 : Int32))), .val (.long x), .second] [(.ref a), (.int (li + (1 : Int32)))])) _
    exact kt)
  clear S81
  have f84 := (F2.other W78 (Or.inl hab))
  obtain ⟨T85, X85, e85, st85⟩ := getF X78 hx hZ hown (host := "") (Or.inl (hw _ (List.mem_of_getElem? (i := 31) rfl))) Via.refl e78 f84 (g := (mkF m 9 #[.val (.ref a), .val (.long (0 : Int64)), .second, .val (.int (li + (1 : Int32))), .val (.long x), .second] [(.ref a), (.int (li + (1 : Int32)))])) rfl rfl (hb hby d6_9)
  have S86 : Go p e below s₁ (entryFrame m #[(.ref a)] 6) T85 (mkF m 12 #[.val (.ref a), .val (.long (0 : Int64)), .second, .val (.int (li + (1 : Int32))), .val (.long x), .second] [(.int (li + (3 : Int32))), (.int (li + (1 : Int32)))]) := fun t kt => S83 t (st85 t kt)
  clear S83 st85 X78 e78
  have S87 : Go p e below s₁ (entryFrame m #[(.ref a)] 6) T85 (mkF m 22 #[.val (.ref a), .val (.long (0 : Int64)), .second, .val (.int (li + (1 : Int32))), .val (.long x), .second] [(.ref a)]) := fun t kt => S86 t (by
    refine XS.icmpYes X85.here hx rfl (pc0 := 12) (pc' := 21) rfl (hb hby d6_12) rfl (tlt (show (li + (1 : Int32)) < (li + (3 : Int32)) from (own_plt (by omega)))).1 (by decide) (by decide) ?_
    show Steps p.tables e below (T85.setTop (mkF m 21 #[.val (.ref a), .val (.long (0 : Int64)), .second, .val (.int (li + (1 : Int32))), .val (.long x), .second] [])) _
    refine XS.aloadN X85.here hx rfl (hb hby d6_21) rfl rfl ?_
    show Steps p.tables e below (T85.setTop (mkF m 22 #[.val (.ref a), .val (.long (0 : Int64)), .second, .val (.int (li + (1 : Int32))), .val (.long x), .second] [(.ref a)])) _
    exact kt)
  clear S86
  have f88 := (F0.other W78 (Or.inl hab))
  obtain ⟨T89, X89, e89, st89⟩ := getF X85 hx hZ hown (host := "") (Or.inl (hw _ (List.mem_of_getElem? (i := 11) rfl))) Via.refl e85 f88 (g := (mkF m 22 #[.val (.ref a), .val (.long (0 : Int64)), .second, .val (.int (li + (1 : Int32))), .val (.long x), .second] [(.ref a)])) rfl rfl (hb hby d6_22)
  have S90 : Go p e below s₁ (entryFrame m #[(.ref a)] 6) T89 (mkF m 25 #[.val (.ref a), .val (.long (0 : Int64)), .second, .val (.int (li + (1 : Int32))), .val (.long x), .second] [(.ref b)]) := fun t kt => S87 t (st89 t kt)
  clear S87 st89 X85 e85
  have S91 : Go p e below s₁ (entryFrame m #[(.ref a)] 6) T89 (mkF m 26 #[.val (.ref a), .val (.long (0 : Int64)), .second, .val (.int (li + (1 : Int32))), .val (.long x), .second] [(.int (li + (1 : Int32))), (.ref b)]) := fun t kt => S90 t (by
    refine XS.iloadN X89.here hx rfl (hb hby d6_25) rfl ?_
    show Steps p.tables e below (T89.setTop (mkF m 26 #[.val (.ref a), .val (.long (0 : Int64)), .second, .val (.int (li + (1 : Int32))), .val (.long x), .second] [(.int (li + (1 : Int32))), (.ref b)])) _
    exact kt)
  clear S90
  obtain ⟨co92, Ao92, qo92, So92, No92, Ho92, Go92⟩ := id V78
  have hino92 : ¬ ((li + (1 : Int32)) < 0 ∨ co92.slots.size ≤ ((li + (1 : Int32))).toNatClampNeg) := inb_of So92 r1.1
  have hato92 : co92.slots[((li + (1 : Int32))).toNatClampNeg]? = some (.long y) := Has.at Ho92 hino92 (by rw [r1.2]; exact own_at1 n hn x y z)
  have S93 : Go p e below s₁ (entryFrame m #[(.ref a)] 6) T89 (mkF m 29 #[.val (.ref a), .val (.long (0 : Int64)), .second, .val (.int (li + (1 : Int32))), .val (.long x), .second] [(.long (y + (0 : Int64)))]) := fun t kt => S91 t (by
    refine X89.laload hx (j := (li + (1 : Int32))) (v := (.long y)) (by rw [e89]; exact Ao92.1) (State.isArrayOf_alike hZ.alike Ao92.2.1) Ao92.2.2 hino92 hato92 (g := (mkF m 26 #[.val (.ref a), .val (.long (0 : Int64)), .second, .val (.int (li + (1 : Int32))), .val (.long x), .second] [(.int (li + (1 : Int32))), (.ref b)])) rfl rfl (hb hby d6_26) _ ?_
    show Steps p.tables e below (T89.setTop (mkF m 27 #[.val (.ref a), .val (.long (0 : Int64)), .second, .val (.int (li + (1 : Int32))), .val (.long x), .second] [(.long y)])) _
    refine XS.lloadN X89.here hx rfl (hb hby d6_27) rfl ?_
    show Steps p.tables e below (T89.setTop (mkF m 28 #[.val (.ref a), .val (.long (0 : Int64)), .second, .val (.int (li + (1 : Int32))), .val (.long x), .second] [(.long (0 : Int64)), (.long y)])) _
    refine XS.ladd X89.here hx rfl (hb hby d6_28) rfl ?_
    show Steps p.tables e below (T89.setTop (mkF m 29 #[.val (.ref a), .val (.long (0 : Int64)), .second, .val (.int (li + (1 : Int32))), .val (.long x), .second] [(.long (y + (0 : Int64)))])) _
    exact kt)
  clear S91
  have q95 : (y + (0 : Int64)) = y := Int64.add_zero y
  have S94 : Go p e below s₁ (entryFrame m #[(.ref a)] 6) T89 (mkF m 29 #[.val (.ref a), .val (.long (0 : Int64)), .second, .val (.int (li + (1 : Int32))), .val (.long x), .second] [(.long y)]) := by have h := S93; rw [q95] at h; exact h
  clear S93
  have S96 : Go p e below s₁ (entryFrame m #[(.ref a)] 6) T89 (mkF m 32 #[.val (.ref a), .val (.long (0 : Int64)), .second, .val (.int (li + (1 : Int32))), .val (.long y), .second] [(.ref a)]) := fun t kt => S94 t (by
    refine XS.lstore X89.here hx rfl (hb hby d6_29) rfl (l' := #[.val (.ref a), .val (.long (0 : Int64)), .second, .val (.int (li + (1 : Int32))), .val (.long y), .second]) rfl ?_
    show Steps p.tables e below (T89.setTop (mkF m 31 #[.val (.ref a), .val (.long (0 : Int64)), .second, .val (.int (li + (1 : Int32))), .val (.long y), .second] [])) _
    refine XS.aloadN X89.here hx rfl (hb hby d6_31) rfl rfl ?_
    show Steps p.tables e below (T89.setTop (mkF m 32 #[.val (.ref a), .val (.long (0 : Int64)), .second, .val (.int (li + (1 : Int32))), .val (.long y), .second] [(.ref a)])) _
    exact kt)
  clear S94
  obtain ⟨T97, X97, e97, st97⟩ := getF X89 hx hZ hown (host := "") (Or.inl (hw _ (List.mem_of_getElem? (i := 11) rfl))) Via.refl e89 f88 (g := (mkF m 32 #[.val (.ref a), .val (.long (0 : Int64)), .second, .val (.int (li + (1 : Int32))), .val (.long y), .second] [(.ref a)])) rfl rfl (hb hby d6_32)
  have S98 : Go p e below s₁ (entryFrame m #[(.ref a)] 6) T97 (mkF m 35 #[.val (.ref a), .val (.long (0 : Int64)), .second, .val (.int (li + (1 : Int32))), .val (.long y), .second] [(.ref b)]) := fun t kt => S96 t (st97 t kt)
  clear S96 st97 X89 e89
  have S99 : Go p e below s₁ (entryFrame m #[(.ref a)] 6) T97 (mkF m 42 #[.val (.ref a), .val (.long (0 : Int64)), .second, .val (.int (li + (1 : Int32))), .val (.long y), .second] [(.long (y &&& (4294967295 : Int64))), (.int (li + (1 : Int32))), (.ref b)]) := fun t kt => S98 t (by
    refine XS.iloadN X97.here hx rfl (hb hby d6_35) rfl ?_
    show Steps p.tables e below (T97.setTop (mkF m 36 #[.val (.ref a), .val (.long (0 : Int64)), .second, .val (.int (li + (1 : Int32))), .val (.long y), .second] [(.int (li + (1 : Int32))), (.ref b)])) _
    refine XS.lload X97.here hx rfl (hb hby d6_36) rfl ?_
    show Steps p.tables e below (T97.setTop (mkF m 38 #[.val (.ref a), .val (.long (0 : Int64)), .second, .val (.int (li + (1 : Int32))), .val (.long y), .second] [(.long y), (.int (li + (1 : Int32))), (.ref b)])) _
    refine X97.ldc2Long hx hown (mvT hZ (hw _ (List.mem_of_getElem? (i := 24) rfl))) (g := (mkF m 38 #[.val (.ref a), .val (.long (0 : Int64)), .second, .val (.int (li + (1 : Int32))), .val (.long y), .second] [(.long y), (.int (li + (1 : Int32))), (.ref b)])) rfl (hb hby d6_38) _ ?_
    show Steps p.tables e below (T97.setTop (mkF m 41 #[.val (.ref a), .val (.long (0 : Int64)), .second, .val (.int (li + (1 : Int32))), .val (.long y), .second] [(.long (4294967295 : Int64)), (.long y), (.int (li + (1 : Int32))), (.ref b)])) _
    refine XS.land X97.here hx rfl (hb hby d6_41) rfl ?_
    show Steps p.tables e below (T97.setTop (mkF m 42 #[.val (.ref a), .val (.long (0 : Int64)), .second, .val (.int (li + (1 : Int32))), .val (.long y), .second] [(.long (y &&& (4294967295 : Int64))), (.int (li + (1 : Int32))), (.ref b)])) _
    exact kt)
  clear S98
  have q101 : (y &&& (4294967295 : Int64)) = y := own_msk hy0
  have S100 : Go p e below s₁ (entryFrame m #[(.ref a)] 6) T97 (mkF m 42 #[.val (.ref a), .val (.long (0 : Int64)), .second, .val (.int (li + (1 : Int32))), .val (.long y), .second] [(.long y), (.int (li + (1 : Int32))), (.ref b)]) := by have h := S99; rw [q101] at h; exact h
  clear S99
  obtain ⟨co102, Ao102, qo102, So102, No102, Ho102, Go102⟩ := id V78
  have hino102 : ¬ ((li + (1 : Int32)) < 0 ∨ co102.slots.size ≤ ((li + (1 : Int32))).toNatClampNeg) := inb_of So102 r1.1
  obtain ⟨T103, h103, X103, e103, W103, st103⟩ := stJ X97 hx hZ e97 Ao102 (j := (li + (1 : Int32))) hino102 (g := (mkF m 42 #[.val (.ref a), .val (.long (0 : Int64)), .second, .val (.int (li + (1 : Int32))), .val (.long y), .second] [(.long y), (.int (li + (1 : Int32))), (.ref b)])) rfl rfl (hb hby d6_42)
  have N103 := Fr.snoc X103 N78 g_b
  have K103 : Keep h0 h103 [a, b] := K78.wr W103 (Or.inl (by simp))
  have V103 : Arv Z h103 b kb .long (68 : Int32) (own_L n x y z) (.long (0 : Int64)) := by rw [← (own_set n hn x y z y).2.1]; exact Arv.set Ao102 qo102 So102 No102 Ho102 Go102 rfl W103 (n + 1) r1.2 (by rw [own_len]; omega)
  have S104 : Go p e below s₁ (entryFrame m #[(.ref a)] 6) T103 (mkF m 43 #[.val (.ref a), .val (.long (0 : Int64)), .second, .val (.int (li + (1 : Int32))), .val (.long y), .second] []) := fun t kt => S100 t (st103 t kt)
  clear S100 st103 X97 e97
  have S105 : Go p e below s₁ (entryFrame m #[(.ref a)] 6) T103 (mkF m 48 #[.val (.ref a), .val (.long (0 : Int64)), .second, .val (.int (li + (1 : Int32))), .val (.long y), .second] [(.long ((y.toUInt64 >>> ((32 : Int32) &&& 0x3f).toInt64.toUInt64).toInt64))]) := fun t kt => S104 t (by
    refine XS.lload X103.here hx rfl (hb hby d6_43) rfl ?_
    show Steps p.tables e below (T103.setTop (mkF m 45 #[.val (.ref a), .val (.long (0 : Int64)), .second, .val (.int (li + (1 : Int32))), .val (.long y), .second] [(.long y)])) _
    refine XS.bipush X103.here hx rfl (hb hby d6_45) ?_
    show Steps p.tables e below (T103.setTop (mkF m 47 #[.val (.ref a), .val (.long (0 : Int64)), .second, .val (.int (li + (1 : Int32))), .val (.long y), .second] [(.int (32 : Int32)), (.long y)])) _
    refine XS.lushr X103.here hx rfl (hb hby d6_47) rfl ?_
    show Steps p.tables e below (T103.setTop (mkF m 48 #[.val (.ref a), .val (.long (0 : Int64)), .second, .val (.int (li + (1 : Int32))), .val (.long y), .second] [(.long ((y.toUInt64 >>> ((32 : Int32) &&& 0x3f).toInt64.toUInt64).toInt64))])) _
    exact kt)
  clear S104
  have q107 : ((y.toUInt64 >>> ((32 : Int32) &&& 0x3f).toInt64.toUInt64).toInt64) = (0 : Int64) := own_sh0 hy0
  have S106 : Go p e below s₁ (entryFrame m #[(.ref a)] 6) T103 (mkF m 48 #[.val (.ref a), .val (.long (0 : Int64)), .second, .val (.int (li + (1 : Int32))), .val (.long y), .second] [(.long (0 : Int64))]) := by have h := S105; rw [q107] at h; exact h
  clear S105
  have S108 : Go p e below s₁ (entryFrame m #[(.ref a)] 6) T103 (mkF m 9 #[.val (.ref a), .val (.long (0 : Int64)), .second, .val (.int ((li + (1 : Int32)) + (1 : Int32))), .val (.long y), .second] [(.ref a), (.int ((li + (1 : Int32)) + (1 : Int32)))]) := fun t kt => S106 t (by
    refine XS.lstoreN X103.here hx rfl (hb hby d6_48) rfl (l' := #[.val (.ref a), .val (.long (0 : Int64)), .second, .val (.int (li + (1 : Int32))), .val (.long y), .second]) rfl ?_
    show Steps p.tables e below (T103.setTop (mkF m 49 #[.val (.ref a), .val (.long (0 : Int64)), .second, .val (.int (li + (1 : Int32))), .val (.long y), .second] [])) _
    refine XS.iinc X103.here hx rfl (hb hby d6_49) rfl (l' := #[.val (.ref a), .val (.long (0 : Int64)), .second, .val (.int ((li + (1 : Int32)) + (1 : Int32))), .val (.long y), .second]) rfl ?_
    show Steps p.tables e below (T103.setTop (mkF m 52 #[.val (.ref a), .val (.long (0 : Int64)), .second, .val (.int ((li + (1 : Int32)) + (1 : Int32))), .val (.long y), .second] [])) _
    refine XS.goto X103.here hx rfl (pc0 := 52) (pc' := 7) rfl (hb hby d6_52) (by decide) (by decide) ?_
    show Steps p.tables e below (T103.setTop (mkF m 7 #[.val (.ref a), .val (.long (0 : Int64)), .second, .val (.int ((li + (1 : Int32)) + (1 : Int32))), .val (.long y), .second] [])) _
    refine XS.iloadN X103.here hx rfl (hb hby d6_7) rfl ?_
    show Steps p.tables e below (T103.setTop (mkF m 8 #[.val (.ref a), .val (.long (0 : Int64)), .second, .val (.int ((li + (1 : Int32)) + (1 : Int32))), .val (.long y), .second] [(.int ((li + (1 : Int32)) + (1 : Int32)))])) _
    refine XS.aloadN X103.here hx rfl (hb hby d6_8) rfl rfl ?_
    show Steps p.tables e below (T103.setTop (mkF m 9 #[.val (.ref a), .val (.long (0 : Int64)), .second, .val (.int ((li + (1 : Int32)) + (1 : Int32))), .val (.long y), .second] [(.ref a), (.int ((li + (1 : Int32)) + (1 : Int32)))])) _
    exact kt)
  clear S106
  have f109 := (f84.other W103 (Or.inl hab))
  obtain ⟨T110, X110, e110, st110⟩ := getF X103 hx hZ hown (host := "") (Or.inl (hw _ (List.mem_of_getElem? (i := 31) rfl))) Via.refl e103 f109 (g := (mkF m 9 #[.val (.ref a), .val (.long (0 : Int64)), .second, .val (.int ((li + (1 : Int32)) + (1 : Int32))), .val (.long y), .second] [(.ref a), (.int ((li + (1 : Int32)) + (1 : Int32)))])) rfl rfl (hb hby d6_9)
  have S111 : Go p e below s₁ (entryFrame m #[(.ref a)] 6) T110 (mkF m 12 #[.val (.ref a), .val (.long (0 : Int64)), .second, .val (.int ((li + (1 : Int32)) + (1 : Int32))), .val (.long y), .second] [(.int (li + (3 : Int32))), (.int ((li + (1 : Int32)) + (1 : Int32)))]) := fun t kt => S108 t (st110 t kt)
  clear S108 st110 X103 e103
  have S112 : Go p e below s₁ (entryFrame m #[(.ref a)] 6) T110 (mkF m 22 #[.val (.ref a), .val (.long (0 : Int64)), .second, .val (.int ((li + (1 : Int32)) + (1 : Int32))), .val (.long y), .second] [(.ref a)]) := fun t kt => S111 t (by
    refine XS.icmpYes X110.here hx rfl (pc0 := 12) (pc' := 21) rfl (hb hby d6_12) rfl (tlt (show ((li + (1 : Int32)) + (1 : Int32)) < (li + (3 : Int32)) from (own_plt (by omega)))).1 (by decide) (by decide) ?_
    show Steps p.tables e below (T110.setTop (mkF m 21 #[.val (.ref a), .val (.long (0 : Int64)), .second, .val (.int ((li + (1 : Int32)) + (1 : Int32))), .val (.long y), .second] [])) _
    refine XS.aloadN X110.here hx rfl (hb hby d6_21) rfl rfl ?_
    show Steps p.tables e below (T110.setTop (mkF m 22 #[.val (.ref a), .val (.long (0 : Int64)), .second, .val (.int ((li + (1 : Int32)) + (1 : Int32))), .val (.long y), .second] [(.ref a)])) _
    exact kt)
  clear S111
  have f113 := (f88.other W103 (Or.inl hab))
  obtain ⟨T114, X114, e114, st114⟩ := getF X110 hx hZ hown (host := "") (Or.inl (hw _ (List.mem_of_getElem? (i := 11) rfl))) Via.refl e110 f113 (g := (mkF m 22 #[.val (.ref a), .val (.long (0 : Int64)), .second, .val (.int ((li + (1 : Int32)) + (1 : Int32))), .val (.long y), .second] [(.ref a)])) rfl rfl (hb hby d6_22)
  have S115 : Go p e below s₁ (entryFrame m #[(.ref a)] 6) T114 (mkF m 25 #[.val (.ref a), .val (.long (0 : Int64)), .second, .val (.int ((li + (1 : Int32)) + (1 : Int32))), .val (.long y), .second] [(.ref b)]) := fun t kt => S112 t (st114 t kt)
  clear S112 st114 X110 e110
  have S116 : Go p e below s₁ (entryFrame m #[(.ref a)] 6) T114 (mkF m 26 #[.val (.ref a), .val (.long (0 : Int64)), .second, .val (.int ((li + (1 : Int32)) + (1 : Int32))), .val (.long y), .second] [(.int ((li + (1 : Int32)) + (1 : Int32))), (.ref b)]) := fun t kt => S115 t (by
    refine XS.iloadN X114.here hx rfl (hb hby d6_25) rfl ?_
    show Steps p.tables e below (T114.setTop (mkF m 26 #[.val (.ref a), .val (.long (0 : Int64)), .second, .val (.int ((li + (1 : Int32)) + (1 : Int32))), .val (.long y), .second] [(.int ((li + (1 : Int32)) + (1 : Int32))), (.ref b)])) _
    exact kt)
  clear S115
  obtain ⟨co117, Ao117, qo117, So117, No117, Ho117, Go117⟩ := id V103
  have hino117 : ¬ (((li + (1 : Int32)) + (1 : Int32)) < 0 ∨ co117.slots.size ≤ (((li + (1 : Int32)) + (1 : Int32))).toNatClampNeg) := inb_of So117 r2.1
  have hato117 : co117.slots[(((li + (1 : Int32)) + (1 : Int32))).toNatClampNeg]? = some (.long z) := Has.at Ho117 hino117 (by rw [r2.2]; exact own_at2 n hn x y z)
  have S118 : Go p e below s₁ (entryFrame m #[(.ref a)] 6) T114 (mkF m 29 #[.val (.ref a), .val (.long (0 : Int64)), .second, .val (.int ((li + (1 : Int32)) + (1 : Int32))), .val (.long y), .second] [(.long (z + (0 : Int64)))]) := fun t kt => S116 t (by
    refine X114.laload hx (j := ((li + (1 : Int32)) + (1 : Int32))) (v := (.long z)) (by rw [e114]; exact Ao117.1) (State.isArrayOf_alike hZ.alike Ao117.2.1) Ao117.2.2 hino117 hato117 (g := (mkF m 26 #[.val (.ref a), .val (.long (0 : Int64)), .second, .val (.int ((li + (1 : Int32)) + (1 : Int32))), .val (.long y), .second] [(.int ((li + (1 : Int32)) + (1 : Int32))), (.ref b)])) rfl rfl (hb hby d6_26) _ ?_
    show Steps p.tables e below (T114.setTop (mkF m 27 #[.val (.ref a), .val (.long (0 : Int64)), .second, .val (.int ((li + (1 : Int32)) + (1 : Int32))), .val (.long y), .second] [(.long z)])) _
    refine XS.lloadN X114.here hx rfl (hb hby d6_27) rfl ?_
    show Steps p.tables e below (T114.setTop (mkF m 28 #[.val (.ref a), .val (.long (0 : Int64)), .second, .val (.int ((li + (1 : Int32)) + (1 : Int32))), .val (.long y), .second] [(.long (0 : Int64)), (.long z)])) _
    refine XS.ladd X114.here hx rfl (hb hby d6_28) rfl ?_
    show Steps p.tables e below (T114.setTop (mkF m 29 #[.val (.ref a), .val (.long (0 : Int64)), .second, .val (.int ((li + (1 : Int32)) + (1 : Int32))), .val (.long y), .second] [(.long (z + (0 : Int64)))])) _
    exact kt)
  clear S116
  have q120 : (z + (0 : Int64)) = z := Int64.add_zero z
  have S119 : Go p e below s₁ (entryFrame m #[(.ref a)] 6) T114 (mkF m 29 #[.val (.ref a), .val (.long (0 : Int64)), .second, .val (.int ((li + (1 : Int32)) + (1 : Int32))), .val (.long y), .second] [(.long z)]) := by have h := S118; rw [q120] at h; exact h
  clear S118
  have S121 : Go p e below s₁ (entryFrame m #[(.ref a)] 6) T114 (mkF m 32 #[.val (.ref a), .val (.long (0 : Int64)), .second, .val (.int ((li + (1 : Int32)) + (1 : Int32))), .val (.long z), .second] [(.ref a)]) := fun t kt => S119 t (by
    refine XS.lstore X114.here hx rfl (hb hby d6_29) rfl (l' := #[.val (.ref a), .val (.long (0 : Int64)), .second, .val (.int ((li + (1 : Int32)) + (1 : Int32))), .val (.long z), .second]) rfl ?_
    show Steps p.tables e below (T114.setTop (mkF m 31 #[.val (.ref a), .val (.long (0 : Int64)), .second, .val (.int ((li + (1 : Int32)) + (1 : Int32))), .val (.long z), .second] [])) _
    refine XS.aloadN X114.here hx rfl (hb hby d6_31) rfl rfl ?_
    show Steps p.tables e below (T114.setTop (mkF m 32 #[.val (.ref a), .val (.long (0 : Int64)), .second, .val (.int ((li + (1 : Int32)) + (1 : Int32))), .val (.long z), .second] [(.ref a)])) _
    exact kt)
  clear S119
  obtain ⟨T122, X122, e122, st122⟩ := getF X114 hx hZ hown (host := "") (Or.inl (hw _ (List.mem_of_getElem? (i := 11) rfl))) Via.refl e114 f113 (g := (mkF m 32 #[.val (.ref a), .val (.long (0 : Int64)), .second, .val (.int ((li + (1 : Int32)) + (1 : Int32))), .val (.long z), .second] [(.ref a)])) rfl rfl (hb hby d6_32)
  have S123 : Go p e below s₁ (entryFrame m #[(.ref a)] 6) T122 (mkF m 35 #[.val (.ref a), .val (.long (0 : Int64)), .second, .val (.int ((li + (1 : Int32)) + (1 : Int32))), .val (.long z), .second] [(.ref b)]) := fun t kt => S121 t (st122 t kt)
  clear S121 st122 X114 e114
  have S124 : Go p e below s₁ (entryFrame m #[(.ref a)] 6) T122 (mkF m 42 #[.val (.ref a), .val (.long (0 : Int64)), .second, .val (.int ((li + (1 : Int32)) + (1 : Int32))), .val (.long z), .second] [(.long (z &&& (4294967295 : Int64))), (.int ((li + (1 : Int32)) + (1 : Int32))), (.ref b)]) := fun t kt => S123 t (by
    refine XS.iloadN X122.here hx rfl (hb hby d6_35) rfl ?_
    show Steps p.tables e below (T122.setTop (mkF m 36 #[.val (.ref a), .val (.long (0 : Int64)), .second, .val (.int ((li + (1 : Int32)) + (1 : Int32))), .val (.long z), .second] [(.int ((li + (1 : Int32)) + (1 : Int32))), (.ref b)])) _
    refine XS.lload X122.here hx rfl (hb hby d6_36) rfl ?_
    show Steps p.tables e below (T122.setTop (mkF m 38 #[.val (.ref a), .val (.long (0 : Int64)), .second, .val (.int ((li + (1 : Int32)) + (1 : Int32))), .val (.long z), .second] [(.long z), (.int ((li + (1 : Int32)) + (1 : Int32))), (.ref b)])) _
    refine X122.ldc2Long hx hown (mvT hZ (hw _ (List.mem_of_getElem? (i := 24) rfl))) (g := (mkF m 38 #[.val (.ref a), .val (.long (0 : Int64)), .second, .val (.int ((li + (1 : Int32)) + (1 : Int32))), .val (.long z), .second] [(.long z), (.int ((li + (1 : Int32)) + (1 : Int32))), (.ref b)])) rfl (hb hby d6_38) _ ?_
    show Steps p.tables e below (T122.setTop (mkF m 41 #[.val (.ref a), .val (.long (0 : Int64)), .second, .val (.int ((li + (1 : Int32)) + (1 : Int32))), .val (.long z), .second] [(.long (4294967295 : Int64)), (.long z), (.int ((li + (1 : Int32)) + (1 : Int32))), (.ref b)])) _
    refine XS.land X122.here hx rfl (hb hby d6_41) rfl ?_
    show Steps p.tables e below (T122.setTop (mkF m 42 #[.val (.ref a), .val (.long (0 : Int64)), .second, .val (.int ((li + (1 : Int32)) + (1 : Int32))), .val (.long z), .second] [(.long (z &&& (4294967295 : Int64))), (.int ((li + (1 : Int32)) + (1 : Int32))), (.ref b)])) _
    exact kt)
  clear S123
  have q126 : (z &&& (4294967295 : Int64)) = z := own_msk hz0
  have S125 : Go p e below s₁ (entryFrame m #[(.ref a)] 6) T122 (mkF m 42 #[.val (.ref a), .val (.long (0 : Int64)), .second, .val (.int ((li + (1 : Int32)) + (1 : Int32))), .val (.long z), .second] [(.long z), (.int ((li + (1 : Int32)) + (1 : Int32))), (.ref b)]) := by have h := S124; rw [q126] at h; exact h
  clear S124
  obtain ⟨co127, Ao127, qo127, So127, No127, Ho127, Go127⟩ := id V103
  have hino127 : ¬ (((li + (1 : Int32)) + (1 : Int32)) < 0 ∨ co127.slots.size ≤ (((li + (1 : Int32)) + (1 : Int32))).toNatClampNeg) := inb_of So127 r2.1
  obtain ⟨T128, h128, X128, e128, W128, st128⟩ := stJ X122 hx hZ e122 Ao127 (j := ((li + (1 : Int32)) + (1 : Int32))) hino127 (g := (mkF m 42 #[.val (.ref a), .val (.long (0 : Int64)), .second, .val (.int ((li + (1 : Int32)) + (1 : Int32))), .val (.long z), .second] [(.long z), (.int ((li + (1 : Int32)) + (1 : Int32))), (.ref b)])) rfl rfl (hb hby d6_42)
  have N128 := Fr.snoc X128 N103 g_b
  have K128 : Keep h0 h128 [a, b] := K103.wr W128 (Or.inl (by simp))
  have V128 : Arv Z h128 b kb .long (68 : Int32) (own_L n x y z) (.long (0 : Int64)) := by rw [← (own_set n hn x y z z).2.2]; exact Arv.set Ao127 qo127 So127 No127 Ho127 Go127 rfl W128 (n + 2) r2.2 (by rw [own_len]; omega)
  have S129 : Go p e below s₁ (entryFrame m #[(.ref a)] 6) T128 (mkF m 43 #[.val (.ref a), .val (.long (0 : Int64)), .second, .val (.int ((li + (1 : Int32)) + (1 : Int32))), .val (.long z), .second] []) := fun t kt => S125 t (st128 t kt)
  clear S125 st128 X122 e122
  have S130 : Go p e below s₁ (entryFrame m #[(.ref a)] 6) T128 (mkF m 48 #[.val (.ref a), .val (.long (0 : Int64)), .second, .val (.int ((li + (1 : Int32)) + (1 : Int32))), .val (.long z), .second] [(.long ((z.toUInt64 >>> ((32 : Int32) &&& 0x3f).toInt64.toUInt64).toInt64))]) := fun t kt => S129 t (by
    refine XS.lload X128.here hx rfl (hb hby d6_43) rfl ?_
    show Steps p.tables e below (T128.setTop (mkF m 45 #[.val (.ref a), .val (.long (0 : Int64)), .second, .val (.int ((li + (1 : Int32)) + (1 : Int32))), .val (.long z), .second] [(.long z)])) _
    refine XS.bipush X128.here hx rfl (hb hby d6_45) ?_
    show Steps p.tables e below (T128.setTop (mkF m 47 #[.val (.ref a), .val (.long (0 : Int64)), .second, .val (.int ((li + (1 : Int32)) + (1 : Int32))), .val (.long z), .second] [(.int (32 : Int32)), (.long z)])) _
    refine XS.lushr X128.here hx rfl (hb hby d6_47) rfl ?_
    show Steps p.tables e below (T128.setTop (mkF m 48 #[.val (.ref a), .val (.long (0 : Int64)), .second, .val (.int ((li + (1 : Int32)) + (1 : Int32))), .val (.long z), .second] [(.long ((z.toUInt64 >>> ((32 : Int32) &&& 0x3f).toInt64.toUInt64).toInt64))])) _
    exact kt)
  clear S129
  have q132 : ((z.toUInt64 >>> ((32 : Int32) &&& 0x3f).toInt64.toUInt64).toInt64) = (0 : Int64) := own_sh0 hz0
  have S131 : Go p e below s₁ (entryFrame m #[(.ref a)] 6) T128 (mkF m 48 #[.val (.ref a), .val (.long (0 : Int64)), .second, .val (.int ((li + (1 : Int32)) + (1 : Int32))), .val (.long z), .second] [(.long (0 : Int64))]) := by have h := S130; rw [q132] at h; exact h
  clear S130
  have S133 : Go p e below s₁ (entryFrame m #[(.ref a)] 6) T128 (mkF m 9 #[.val (.ref a), .val (.long (0 : Int64)), .second, .val (.int (((li + (1 : Int32)) + (1 : Int32)) + (1 : Int32))), .val (.long z), .second] [(.ref a), (.int (((li + (1 : Int32)) + (1 : Int32)) + (1 : Int32)))]) := fun t kt => S131 t (by
    refine XS.lstoreN X128.here hx rfl (hb hby d6_48) rfl (l' := #[.val (.ref a), .val (.long (0 : Int64)), .second, .val (.int ((li + (1 : Int32)) + (1 : Int32))), .val (.long z), .second]) rfl ?_
    show Steps p.tables e below (T128.setTop (mkF m 49 #[.val (.ref a), .val (.long (0 : Int64)), .second, .val (.int ((li + (1 : Int32)) + (1 : Int32))), .val (.long z), .second] [])) _
    refine XS.iinc X128.here hx rfl (hb hby d6_49) rfl (l' := #[.val (.ref a), .val (.long (0 : Int64)), .second, .val (.int (((li + (1 : Int32)) + (1 : Int32)) + (1 : Int32))), .val (.long z), .second]) rfl ?_
    show Steps p.tables e below (T128.setTop (mkF m 52 #[.val (.ref a), .val (.long (0 : Int64)), .second, .val (.int (((li + (1 : Int32)) + (1 : Int32)) + (1 : Int32))), .val (.long z), .second] [])) _
    refine XS.goto X128.here hx rfl (pc0 := 52) (pc' := 7) rfl (hb hby d6_52) (by decide) (by decide) ?_
    show Steps p.tables e below (T128.setTop (mkF m 7 #[.val (.ref a), .val (.long (0 : Int64)), .second, .val (.int (((li + (1 : Int32)) + (1 : Int32)) + (1 : Int32))), .val (.long z), .second] [])) _
    refine XS.iloadN X128.here hx rfl (hb hby d6_7) rfl ?_
    show Steps p.tables e below (T128.setTop (mkF m 8 #[.val (.ref a), .val (.long (0 : Int64)), .second, .val (.int (((li + (1 : Int32)) + (1 : Int32)) + (1 : Int32))), .val (.long z), .second] [(.int (((li + (1 : Int32)) + (1 : Int32)) + (1 : Int32)))])) _
    refine XS.aloadN X128.here hx rfl (hb hby d6_8) rfl rfl ?_
    show Steps p.tables e below (T128.setTop (mkF m 9 #[.val (.ref a), .val (.long (0 : Int64)), .second, .val (.int (((li + (1 : Int32)) + (1 : Int32)) + (1 : Int32))), .val (.long z), .second] [(.ref a), (.int (((li + (1 : Int32)) + (1 : Int32)) + (1 : Int32)))])) _
    exact kt)
  clear S131
  have f134 := (f109.other W128 (Or.inl hab))
  obtain ⟨T135, X135, e135, st135⟩ := getF X128 hx hZ hown (host := "") (Or.inl (hw _ (List.mem_of_getElem? (i := 31) rfl))) Via.refl e128 f134 (g := (mkF m 9 #[.val (.ref a), .val (.long (0 : Int64)), .second, .val (.int (((li + (1 : Int32)) + (1 : Int32)) + (1 : Int32))), .val (.long z), .second] [(.ref a), (.int (((li + (1 : Int32)) + (1 : Int32)) + (1 : Int32)))])) rfl rfl (hb hby d6_9)
  have S136 : Go p e below s₁ (entryFrame m #[(.ref a)] 6) T135 (mkF m 12 #[.val (.ref a), .val (.long (0 : Int64)), .second, .val (.int (((li + (1 : Int32)) + (1 : Int32)) + (1 : Int32))), .val (.long z), .second] [(.int (li + (3 : Int32))), (.int (((li + (1 : Int32)) + (1 : Int32)) + (1 : Int32)))]) := fun t kt => S133 t (st135 t kt)
  clear S133 st135 X128 e128
  have S137 : Go p e below s₁ (entryFrame m #[(.ref a)] 6) T135 (mkF m 18 #[.val (.ref a), .val (.long (0 : Int64)), .second, .val (.int (((li + (1 : Int32)) + (1 : Int32)) + (1 : Int32))), .val (.long z), .second] [(.int (lcmpW (0 : Int64) (0 : Int64)))]) := fun t kt => S136 t (by
    refine XS.icmpNo X135.here hx rfl (hb hby d6_12) rfl (flt (show ¬ ((((li + (1 : Int32)) + (1 : Int32)) + (1 : Int32)) < (li + (3 : Int32))) from (own_nlt (by omega)))).1 ?_
    show Steps p.tables e below (T135.setTop (mkF m 15 #[.val (.ref a), .val (.long (0 : Int64)), .second, .val (.int (((li + (1 : Int32)) + (1 : Int32)) + (1 : Int32))), .val (.long z), .second] [])) _
    refine XS.lloadN X135.here hx rfl (hb hby d6_15) rfl ?_
    show Steps p.tables e below (T135.setTop (mkF m 16 #[.val (.ref a), .val (.long (0 : Int64)), .second, .val (.int (((li + (1 : Int32)) + (1 : Int32)) + (1 : Int32))), .val (.long z), .second] [(.long (0 : Int64))])) _
    refine XS.lconst X135.here hx rfl (hb hby d6_16) ?_
    show Steps p.tables e below (T135.setTop (mkF m 17 #[.val (.ref a), .val (.long (0 : Int64)), .second, .val (.int (((li + (1 : Int32)) + (1 : Int32)) + (1 : Int32))), .val (.long z), .second] [(.long (0 : Int64)), (.long (0 : Int64))])) _
    refine XS.lcmp X135.here hx rfl (hb hby d6_17) rfl ?_
    show Steps p.tables e below (T135.setTop (mkF m 18 #[.val (.ref a), .val (.long (0 : Int64)), .second, .val (.int (((li + (1 : Int32)) + (1 : Int32)) + (1 : Int32))), .val (.long z), .second] [(.int (lcmpW (0 : Int64) (0 : Int64)))])) _
    exact kt)
  clear S136
  have S138 : Go p e below s₁ (entryFrame m #[(.ref a)] 6) T135 (mkF m 57 #[.val (.ref a), .val (.long (0 : Int64)), .second, .val (.int (((li + (1 : Int32)) + (1 : Int32)) + (1 : Int32))), .val (.long z), .second] [(.int (((li + (1 : Int32)) + (1 : Int32)) + (1 : Int32))), (.ref a)]) := fun t kt => S137 t (by
    refine XS.ifYes X135.here hx rfl (pc0 := 18) (pc' := 55) rfl (hb hby d6_18) rfl ((if0 _ _).trans (teq (show (lcmpW (0 : Int64) (0 : Int64)) = (0 : Int32) from (by decide))).1) (by decide) (by decide) ?_
    show Steps p.tables e below (T135.setTop (mkF m 55 #[.val (.ref a), .val (.long (0 : Int64)), .second, .val (.int (((li + (1 : Int32)) + (1 : Int32)) + (1 : Int32))), .val (.long z), .second] [])) _
    refine XS.aloadN X135.here hx rfl (hb hby d6_55) rfl rfl ?_
    show Steps p.tables e below (T135.setTop (mkF m 56 #[.val (.ref a), .val (.long (0 : Int64)), .second, .val (.int (((li + (1 : Int32)) + (1 : Int32)) + (1 : Int32))), .val (.long z), .second] [(.ref a)])) _
    refine XS.iloadN X135.here hx rfl (hb hby d6_56) rfl ?_
    show Steps p.tables e below (T135.setTop (mkF m 57 #[.val (.ref a), .val (.long (0 : Int64)), .second, .val (.int (((li + (1 : Int32)) + (1 : Int32)) + (1 : Int32))), .val (.long z), .second] [(.int (((li + (1 : Int32)) + (1 : Int32)) + (1 : Int32))), (.ref a)])) _
    exact kt)
  clear S137
  have q140 : (((li + (1 : Int32)) + (1 : Int32)) + (1 : Int32)) = (li + (3 : Int32)) := own_three li
  have S139 : Go p e below s₁ (entryFrame m #[(.ref a)] 6) T135 (mkF m 57 #[.val (.ref a), .val (.long (0 : Int64)), .second, .val (.int (li + (3 : Int32))), .val (.long z), .second] [(.int (li + (3 : Int32))), (.ref a)]) := by have h := S138; rw [q140] at h; exact h
  clear S138
  have f141 := (((E0.wr W78).wr W103).wr W128)
  obtain ⟨T142, h142, X142, e142, W142, st142⟩ := putF X135 hx hZ hown (host := "") (Or.inl (hw _ (List.mem_of_getElem? (i := 31) rfl))) Via.refl e135 f134 f141 (Or.inl (hw _ (List.mem_of_getElem? (i := 32) rfl))) (hw _ (List.mem_of_getElem? (i := 2) rfl)) (ty := .int) (by decide) rfl rfl (g := (mkF m 57 #[.val (.ref a), .val (.long (0 : Int64)), .second, .val (.int (li + (3 : Int32))), .val (.long z), .second] [(.int (li + (3 : Int32))), (.ref a)])) rfl rfl (hb hby d6_57)
  have N142 := Fr.snoc X142 N128 g_a
  have K142 : Keep h0 h142 [a, b] := K128.wr W142 (Or.inl (by simp))
  have Fw142 := f134.same W142
  have S143 : Go p e below s₁ (entryFrame m #[(.ref a)] 6) T142 (mkF m 60 #[.val (.ref a), .val (.long (0 : Int64)), .second, .val (.int (li + (3 : Int32))), .val (.long z), .second] []) := fun t kt => S139 t (st142 t kt)
  clear S139 st142 X135 e135
  have S144 : Go p e below s₁ (entryFrame m #[(.ref a)] 6) T142 (mkF m 62 #[.val (.ref a), .val (.long (0 : Int64)), .second, .val (.int (li + (3 : Int32))), .val (.long z), .second] [(.int (0 : Int32)), (.ref a)]) := fun t kt => S143 t (by
    refine XS.aloadN X142.here hx rfl (hb hby d6_60) rfl rfl ?_
    show Steps p.tables e below (T142.setTop (mkF m 61 #[.val (.ref a), .val (.long (0 : Int64)), .second, .val (.int (li + (3 : Int32))), .val (.long z), .second] [(.ref a)])) _
    refine XS.iconst X142.here hx rfl (hb hby d6_61) ?_
    show Steps p.tables e below (T142.setTop (mkF m 62 #[.val (.ref a), .val (.long (0 : Int64)), .second, .val (.int (li + (3 : Int32))), .val (.long z), .second] [(.int (0 : Int32)), (.ref a)])) _
    exact kt)
  clear S143
  have f145 := ((((F3.other W78 (Or.inl hab)).other W103 (Or.inl hab)).other W128 (Or.inl hab)).other W142 (Or.inr (slot_ne (C := "com/example/umbel/umbel/rank/ExactSum") (Or.inl (hw _ (List.mem_of_getElem? (i := 34) rfl))) (Or.inl (hw _ (List.mem_of_getElem? (i := 32) rfl))) (by decide) (t := .int) (t' := .int) (by decide) (by decide))))
  have f146 := (f141.wr W142)
  obtain ⟨T147, h147, X147, e147, W147, st147⟩ := putF X142 hx hZ hown (host := "") (Or.inl (hw _ (List.mem_of_getElem? (i := 33) rfl))) Via.refl e142 f145 f146 (Or.inl (hw _ (List.mem_of_getElem? (i := 34) rfl))) (hw _ (List.mem_of_getElem? (i := 2) rfl)) (ty := .int) (by decide) rfl rfl (g := (mkF m 62 #[.val (.ref a), .val (.long (0 : Int64)), .second, .val (.int (li + (3 : Int32))), .val (.long z), .second] [(.int (0 : Int32)), (.ref a)])) rfl rfl (hb hby d6_62)
  have N147 := Fr.snoc X147 N142 g_a
  have K147 : Keep h0 h147 [a, b] := K142.wr W147 (Or.inl (by simp))
  have Fw147 := f145.same W147
  have S148 : Go p e below s₁ (entryFrame m #[(.ref a)] 6) T147 (mkF m 65 #[.val (.ref a), .val (.long (0 : Int64)), .second, .val (.int (li + (3 : Int32))), .val (.long z), .second] []) := fun t kt => S144 t (st147 t kt)
  clear S144 st147 X142 e142
  have f149 := (f146.wr W147)
  have f150 := (((f113.other W128 (Or.inl hab)).other W142 (Or.inr (slot_ne (C := "com/example/umbel/umbel/rank/ExactSum") (Or.inr (hw _ (List.mem_of_getElem? (i := 12) rfl))) (Or.inl (hw _ (List.mem_of_getElem? (i := 32) rfl))) (by decide) (t := (.array .long)) (t' := .int) (by decide) (by decide)))).other W147 (Or.inr (slot_ne (C := "com/example/umbel/umbel/rank/ExactSum") (Or.inr (hw _ (List.mem_of_getElem? (i := 12) rfl))) (Or.inl (hw _ (List.mem_of_getElem? (i := 34) rfl))) (by decide) (t := (.array .long)) (t' := .int) (by decide) (by decide))))
  have f151 := (((((F1.other W78 (Or.inl hab)).other W103 (Or.inl hab)).other W128 (Or.inl hab)).other W142 (Or.inr (slot_ne (C := "com/example/umbel/umbel/rank/ExactSum") (Or.inl (hw _ (List.mem_of_getElem? (i := 30) rfl))) (Or.inl (hw _ (List.mem_of_getElem? (i := 32) rfl))) (by decide) (t := .int) (t' := .int) (by decide) (by decide)))).other W147 (Or.inr (slot_ne (C := "com/example/umbel/umbel/rank/ExactSum") (Or.inl (hw _ (List.mem_of_getElem? (i := 30) rfl))) (Or.inl (hw _ (List.mem_of_getElem? (i := 34) rfl))) (by decide) (t := .int) (t' := .int) (by decide) (by decide))))
  have f152 := (Fw142.other W147 (Or.inr (slot_ne (C := "com/example/umbel/umbel/rank/ExactSum") (Or.inl (hw _ (List.mem_of_getElem? (i := 32) rfl))) (Or.inl (hw _ (List.mem_of_getElem? (i := 34) rfl))) (by decide) (t := .int) (t' := .int) (by decide) (by decide))))
  have f153 := ((V128.other W142 (Ne.symm hab)).other W147 (Ne.symm hab))
  obtain ⟨fs, hr, hrun, hended, hW, hsame⟩ := X147.leave (v := none) (fun h => by first | rfl | (rw [Bd.returns] at h; cases h))
  refine ⟨_, _, S148 _ ?_, hrun, hended, _, _, rfl, ?_, ⟨_, rfl⟩, hW, hsame.mono (by decide) (by decide)⟩
  · exact X147.returnOut hx Bd.returns (hb hby d6_65) hr
  · show Q_carry Z a b kb li n x y z h0 n0 _ T147.heap _
    rw [e147]
    exact ⟨rfl, N147, K147, f149, f150, f151, f152, Fw147, f153⟩
theorem ef_carry0 (m : MethodId) (x0 : Addr) : entryFrame m #[(.ref x0)] 6 = mkF m 0 #[.val (.ref x0), .unset, .unset, .unset, .unset, .unset] [] := by first | (simp [entryFrame, mkF, argsToLocals, Value.category]; done) | rfl
theorem pn_carry0 : plainName "com/example/umbel/umbel/rank/ExactSum" = true := by first | (simp [plainName, overriddenIn]; done) | decide +kernel
def Q_carry0 (Z : State) (a : Addr) (b : Addr) (kb : ClassId) (vs : List Value) (h0 : Heap) (n0 : Nat) (v : Option Value) (h : Heap) (L : List Loc) : Prop := v = none ∧ Fr n0 L ∧ Keep h0 h [a, b] ∧ Exa Z h a "com/example/umbel/umbel/rank/ExactSum" ∧ Fld Z h a "com/example/umbel/umbel/rank/ExactSum" "limbs" "[J" (.ref b) ∧ Fld Z h a "com/example/umbel/umbel/rank/ExactSum" "from" "I" (.int (0 : Int32)) ∧ Fld Z h a "com/example/umbel/umbel/rank/ExactSum" "to" "I" (.int (0 : Int32)) ∧ Fld Z h a "com/example/umbel/umbel/rank/ExactSum" "pending" "I" (.int (0 : Int32)) ∧ Arv Z h b kb .long (68 : Int32) vs (.long (0 : Int64))
set_option maxRecDepth 65536 in
set_option maxHeartbeats 40000000 in
theorem rm_carry0 (l : Launch) (Z : State) (a0 : Array Value) (hw : ∀ d ∈ tables_1, d.before a0 Z = true) (ws : List Jvm.Cond) (a : Addr) (b : Addr) (kb : ClassId) (vs : List Value) (pd : Int32) (h0 : Heap) (n0 : Nat) (Z0 : n0 ≤ h0.size) (E0 : Exa Z h0 a "com/example/umbel/umbel/rank/ExactSum") (F0 : Fld Z h0 a "com/example/umbel/umbel/rank/ExactSum" "limbs" "[J" (.ref b)) (F1 : Fld Z h0 a "com/example/umbel/umbel/rank/ExactSum" "from" "I" (.int (0 : Int32))) (F2 : Fld Z h0 a "com/example/umbel/umbel/rank/ExactSum" "to" "I" (.int (0 : Int32))) (F3 : Fld Z h0 a "com/example/umbel/umbel/rank/ExactSum" "pending" "I" (.int pd)) (V0 : Arv Z h0 b kb .long (68 : Int32) vs (.long (0 : Int64))) (g_a : n0 ≤ a) (g_b : n0 ≤ b) (hab : a ≠ b) :
    MetFree l (⟨"com/example/umbel/umbel/rank/ExactSum", "carry", "()V"⟩ : MethodName) (head1 (Jvm.Cond.code (⟨"com/example/umbel/umbel/rank/ExactSum", "carry", "()V"⟩ : MethodName) prog_6_method_8_code 6 none :: ws) ({ frames := 0, cells := 0, slots := 0, locals := 0 } : Room)) (fun aa U => aa = #[(.ref a)] ∧ Z.Warmed39 U.vm ∧ U.heap = h0) (fun _ _ _ _ _ => True) (fun _ U o U' => ∃ v L, o = .returned v ∧ Q_carry0 Z a b kb vs h0 n0 v U'.heap L ∧ FrameEnd U o U' L ({ frames := 0, cells := 0, slots := 0, locals := 0 } : Room).cells ({ frames := 0, cells := 0, slots := 0, locals := 0 } : Room).slots) := by
  refine MetFree.of_bodySF (plainFor_of_name pn_carry0) hisR ?_
  intro p e s m args below meth c s₁ Bd hml0 hP hK
  obtain ⟨rfl, hZ, hh⟩ := hP
  have hx := Bd.exec
  have hby := Bd.bytes
  have hml : c.maxLocals = 6 := hml0
  have hown : s.vm.findClass "com/example/umbel/umbel/rank/ExactSum" = some m.cls := findClass_of_methodNamed Bd.named
  have hnm := (name_of_methodNamed Bd.named Bd.method).1
  have X0 : Stand p l e ({ frames := 0, cells := 0, slots := 0, locals := 0 } : Room) s m #[(.ref a)] below meth c s₁ [] 0 0 := Stand.of_body Bd
  have e0 : s₁.heap = h0 := by rw [← hh, Bd.state]; rfl
  have N0 := Fr.nil n0
  have S0 : Go p e below s₁ (entryFrame m #[(.ref a)] 6) s₁ (mkF m 0 #[.val (.ref a), .unset, .unset, .unset, .unset, .unset] []) := fun t k => castTop (ef_carry0 m a) k
  have S154 : Go p e below s₁ (entryFrame m #[(.ref a)] 6) s₁ (mkF m 3 #[.val (.ref a), .val (.long (0 : Int64)), .second, .unset, .unset, .unset] [(.ref a)]) := fun t kt => S0 t (by
    refine XS.lconst X0.here hx rfl (hb hby d6_0) ?_
    show Steps p.tables e below (s₁.setTop (mkF m 1 #[.val (.ref a), .unset, .unset, .unset, .unset, .unset] [(.long (0 : Int64))])) _
    refine XS.lstoreN X0.here hx rfl (hb hby d6_1) rfl (l' := #[.val (.ref a), .val (.long (0 : Int64)), .second, .unset, .unset, .unset]) rfl ?_
    show Steps p.tables e below (s₁.setTop (mkF m 2 #[.val (.ref a), .val (.long (0 : Int64)), .second, .unset, .unset, .unset] [])) _
    refine XS.aloadN X0.here hx rfl (hb hby d6_2) rfl rfl ?_
    show Steps p.tables e below (s₁.setTop (mkF m 3 #[.val (.ref a), .val (.long (0 : Int64)), .second, .unset, .unset, .unset] [(.ref a)])) _
    exact kt)
  clear S0
  obtain ⟨T155, X155, e155, st155⟩ := getF X0 hx hZ hown (host := "") (Or.inl (hw _ (List.mem_of_getElem? (i := 29) rfl))) Via.refl e0 F1 (g := (mkF m 3 #[.val (.ref a), .val (.long (0 : Int64)), .second, .unset, .unset, .unset] [(.ref a)])) rfl rfl (hb hby d6_3)
  have S156 : Go p e below s₁ (entryFrame m #[(.ref a)] 6) T155 (mkF m 6 #[.val (.ref a), .val (.long (0 : Int64)), .second, .unset, .unset, .unset] [(.int (0 : Int32))]) := fun t kt => S154 t (st155 t kt)
  clear S154 st155 X0 e0
  have S157 : Go p e below s₁ (entryFrame m #[(.ref a)] 6) T155 (mkF m 9 #[.val (.ref a), .val (.long (0 : Int64)), .second, .val (.int (0 : Int32)), .unset, .unset] [(.ref a), (.int (0 : Int32))]) := fun t kt => S156 t (by
    refine XS.istoreN X155.here hx rfl (hb hby d6_6) rfl (l' := #[.val (.ref a), .val (.long (0 : Int64)), .second, .val (.int (0 : Int32)), .unset, .unset]) rfl ?_
    show Steps p.tables e below (T155.setTop (mkF m 7 #[.val (.ref a), .val (.long (0 : Int64)), .second, .val (.int (0 : Int32)), .unset, .unset] [])) _
    refine XS.iloadN X155.here hx rfl (hb hby d6_7) rfl ?_
    show Steps p.tables e below (T155.setTop (mkF m 8 #[.val (.ref a), .val (.long (0 : Int64)), .second, .val (.int (0 : Int32)), .unset, .unset] [(.int (0 : Int32))])) _
    refine XS.aloadN X155.here hx rfl (hb hby d6_8) rfl rfl ?_
    show Steps p.tables e below (T155.setTop (mkF m 9 #[.val (.ref a), .val (.long (0 : Int64)), .second, .val (.int (0 : Int32)), .unset, .unset] [(.ref a), (.int (0 : Int32))])) _
    exact kt)
  clear S156
  obtain ⟨T158, X158, e158, st158⟩ := getF X155 hx hZ hown (host := "") (Or.inl (hw _ (List.mem_of_getElem? (i := 31) rfl))) Via.refl e155 F2 (g := (mkF m 9 #[.val (.ref a), .val (.long (0 : Int64)), .second, .val (.int (0 : Int32)), .unset, .unset] [(.ref a), (.int (0 : Int32))])) rfl rfl (hb hby d6_9)
  have S159 : Go p e below s₁ (entryFrame m #[(.ref a)] 6) T158 (mkF m 12 #[.val (.ref a), .val (.long (0 : Int64)), .second, .val (.int (0 : Int32)), .unset, .unset] [(.int (0 : Int32)), (.int (0 : Int32))]) := fun t kt => S157 t (st158 t kt)
  clear S157 st158 X155 e155
  have S160 : Go p e below s₁ (entryFrame m #[(.ref a)] 6) T158 (mkF m 18 #[.val (.ref a), .val (.long (0 : Int64)), .second, .val (.int (0 : Int32)), .unset, .unset] [(.int (lcmpW (0 : Int64) (0 : Int64)))]) := fun t kt => S159 t (by
    refine XS.icmpNo X158.here hx rfl (hb hby d6_12) rfl (flt (show ¬ ((0 : Int32) < (0 : Int32)) from (by decide))).1 ?_
    show Steps p.tables e below (T158.setTop (mkF m 15 #[.val (.ref a), .val (.long (0 : Int64)), .second, .val (.int (0 : Int32)), .unset, .unset] [])) _
    refine XS.lloadN X158.here hx rfl (hb hby d6_15) rfl ?_
    show Steps p.tables e below (T158.setTop (mkF m 16 #[.val (.ref a), .val (.long (0 : Int64)), .second, .val (.int (0 : Int32)), .unset, .unset] [(.long (0 : Int64))])) _
    refine XS.lconst X158.here hx rfl (hb hby d6_16) ?_
    show Steps p.tables e below (T158.setTop (mkF m 17 #[.val (.ref a), .val (.long (0 : Int64)), .second, .val (.int (0 : Int32)), .unset, .unset] [(.long (0 : Int64)), (.long (0 : Int64))])) _
    refine XS.lcmp X158.here hx rfl (hb hby d6_17) rfl ?_
    show Steps p.tables e below (T158.setTop (mkF m 18 #[.val (.ref a), .val (.long (0 : Int64)), .second, .val (.int (0 : Int32)), .unset, .unset] [(.int (lcmpW (0 : Int64) (0 : Int64)))])) _
    exact kt)
  clear S159
  have S161 : Go p e below s₁ (entryFrame m #[(.ref a)] 6) T158 (mkF m 57 #[.val (.ref a), .val (.long (0 : Int64)), .second, .val (.int (0 : Int32)), .unset, .unset] [(.int (0 : Int32)), (.ref a)]) := fun t kt => S160 t (by
    refine XS.ifYes X158.here hx rfl (pc0 := 18) (pc' := 55) rfl (hb hby d6_18) rfl ((if0 _ _).trans (teq (show (lcmpW (0 : Int64) (0 : Int64)) = (0 : Int32) from (by decide))).1) (by decide) (by decide) ?_
    show Steps p.tables e below (T158.setTop (mkF m 55 #[.val (.ref a), .val (.long (0 : Int64)), .second, .val (.int (0 : Int32)), .unset, .unset] [])) _
    refine XS.aloadN X158.here hx rfl (hb hby d6_55) rfl rfl ?_
    show Steps p.tables e below (T158.setTop (mkF m 56 #[.val (.ref a), .val (.long (0 : Int64)), .second, .val (.int (0 : Int32)), .unset, .unset] [(.ref a)])) _
    refine XS.iloadN X158.here hx rfl (hb hby d6_56) rfl ?_
    show Steps p.tables e below (T158.setTop (mkF m 57 #[.val (.ref a), .val (.long (0 : Int64)), .second, .val (.int (0 : Int32)), .unset, .unset] [(.int (0 : Int32)), (.ref a)])) _
    exact kt)
  clear S160
  obtain ⟨T162, h162, X162, e162, W162, st162⟩ := putF X158 hx hZ hown (host := "") (Or.inl (hw _ (List.mem_of_getElem? (i := 31) rfl))) Via.refl e158 F2 E0 (Or.inl (hw _ (List.mem_of_getElem? (i := 32) rfl))) (hw _ (List.mem_of_getElem? (i := 2) rfl)) (ty := .int) (by decide) rfl rfl (g := (mkF m 57 #[.val (.ref a), .val (.long (0 : Int64)), .second, .val (.int (0 : Int32)), .unset, .unset] [(.int (0 : Int32)), (.ref a)])) rfl rfl (hb hby d6_57)
  have N162 := Fr.snoc X162 N0 g_a
  have K162 : Keep h0 h162 [a, b] := (Keep.refl h0 [a, b]).wr W162 (Or.inl (by simp))
  have Fw162 := F2.same W162
  have S163 : Go p e below s₁ (entryFrame m #[(.ref a)] 6) T162 (mkF m 60 #[.val (.ref a), .val (.long (0 : Int64)), .second, .val (.int (0 : Int32)), .unset, .unset] []) := fun t kt => S161 t (st162 t kt)
  clear S161 st162 X158 e158
  have S164 : Go p e below s₁ (entryFrame m #[(.ref a)] 6) T162 (mkF m 62 #[.val (.ref a), .val (.long (0 : Int64)), .second, .val (.int (0 : Int32)), .unset, .unset] [(.int (0 : Int32)), (.ref a)]) := fun t kt => S163 t (by
    refine XS.aloadN X162.here hx rfl (hb hby d6_60) rfl rfl ?_
    show Steps p.tables e below (T162.setTop (mkF m 61 #[.val (.ref a), .val (.long (0 : Int64)), .second, .val (.int (0 : Int32)), .unset, .unset] [(.ref a)])) _
    refine XS.iconst X162.here hx rfl (hb hby d6_61) ?_
    show Steps p.tables e below (T162.setTop (mkF m 62 #[.val (.ref a), .val (.long (0 : Int64)), .second, .val (.int (0 : Int32)), .unset, .unset] [(.int (0 : Int32)), (.ref a)])) _
    exact kt)
  clear S163
  have f165 := (F3.other W162 (Or.inr (slot_ne (C := "com/example/umbel/umbel/rank/ExactSum") (Or.inl (hw _ (List.mem_of_getElem? (i := 34) rfl))) (Or.inl (hw _ (List.mem_of_getElem? (i := 32) rfl))) (by decide) (t := .int) (t' := .int) (by decide) (by decide))))
  have f166 := (E0.wr W162)
  obtain ⟨T167, h167, X167, e167, W167, st167⟩ := putF X162 hx hZ hown (host := "") (Or.inl (hw _ (List.mem_of_getElem? (i := 33) rfl))) Via.refl e162 f165 f166 (Or.inl (hw _ (List.mem_of_getElem? (i := 34) rfl))) (hw _ (List.mem_of_getElem? (i := 2) rfl)) (ty := .int) (by decide) rfl rfl (g := (mkF m 62 #[.val (.ref a), .val (.long (0 : Int64)), .second, .val (.int (0 : Int32)), .unset, .unset] [(.int (0 : Int32)), (.ref a)])) rfl rfl (hb hby d6_62)
  have N167 := Fr.snoc X167 N162 g_a
  have K167 : Keep h0 h167 [a, b] := K162.wr W167 (Or.inl (by simp))
  have Fw167 := f165.same W167
  have S168 : Go p e below s₁ (entryFrame m #[(.ref a)] 6) T167 (mkF m 65 #[.val (.ref a), .val (.long (0 : Int64)), .second, .val (.int (0 : Int32)), .unset, .unset] []) := fun t kt => S164 t (st167 t kt)
  clear S164 st167 X162 e162
  have f169 := (f166.wr W167)
  have f170 := ((F0.other W162 (Or.inr (slot_ne (C := "com/example/umbel/umbel/rank/ExactSum") (Or.inr (hw _ (List.mem_of_getElem? (i := 12) rfl))) (Or.inl (hw _ (List.mem_of_getElem? (i := 32) rfl))) (by decide) (t := (.array .long)) (t' := .int) (by decide) (by decide)))).other W167 (Or.inr (slot_ne (C := "com/example/umbel/umbel/rank/ExactSum") (Or.inr (hw _ (List.mem_of_getElem? (i := 12) rfl))) (Or.inl (hw _ (List.mem_of_getElem? (i := 34) rfl))) (by decide) (t := (.array .long)) (t' := .int) (by decide) (by decide))))
  have f171 := ((F1.other W162 (Or.inr (slot_ne (C := "com/example/umbel/umbel/rank/ExactSum") (Or.inl (hw _ (List.mem_of_getElem? (i := 30) rfl))) (Or.inl (hw _ (List.mem_of_getElem? (i := 32) rfl))) (by decide) (t := .int) (t' := .int) (by decide) (by decide)))).other W167 (Or.inr (slot_ne (C := "com/example/umbel/umbel/rank/ExactSum") (Or.inl (hw _ (List.mem_of_getElem? (i := 30) rfl))) (Or.inl (hw _ (List.mem_of_getElem? (i := 34) rfl))) (by decide) (t := .int) (t' := .int) (by decide) (by decide))))
  have f172 := (Fw162.other W167 (Or.inr (slot_ne (C := "com/example/umbel/umbel/rank/ExactSum") (Or.inl (hw _ (List.mem_of_getElem? (i := 32) rfl))) (Or.inl (hw _ (List.mem_of_getElem? (i := 34) rfl))) (by decide) (t := .int) (t' := .int) (by decide) (by decide))))
  have f173 := ((V0.other W162 (Ne.symm hab)).other W167 (Ne.symm hab))
  obtain ⟨fs, hr, hrun, hended, hW, hsame⟩ := X167.leave (v := none) (fun h => by first | rfl | (rw [Bd.returns] at h; cases h))
  refine ⟨_, _, S168 _ ?_, hrun, hended, _, _, rfl, ?_, ⟨_, rfl⟩, hW, hsame.mono (by decide) (by decide)⟩
  · exact X167.returnOut hx Bd.returns (hb hby d6_65) hr
  · show Q_carry0 Z a b kb vs h0 n0 _ T167.heap _
    rw [e167]
    exact ⟨rfl, N167, K167, f169, f170, f171, f172, Fw167, f173⟩
theorem ef_clear (m : MethodId) (x0 : Addr) : entryFrame m #[(.ref x0)] 1 = mkF m 0 #[.val (.ref x0)] [] := by first | (simp [entryFrame, mkF, argsToLocals, Value.category]; done) | rfl
theorem pn_clear : plainName "com/example/umbel/umbel/rank/ExactSum" = true := by first | (simp [plainName, overriddenIn]; done) | decide +kernel
def Q_clear (Z : State) (a : Addr) (b : Addr) (kb : ClassId) (n : Nat) (h0 : Heap) (n0 : Nat) (v : Option Value) (h : Heap) (L : List Loc) : Prop := v = none ∧ Fr n0 L ∧ Keep h0 h [a, b] ∧ Exa Z h a "com/example/umbel/umbel/rank/ExactSum" ∧ Fld Z h a "com/example/umbel/umbel/rank/ExactSum" "limbs" "[J" (.ref b) ∧ Fld Z h a "com/example/umbel/umbel/rank/ExactSum" "from" "I" (.int (0 : Int32)) ∧ Fld Z h a "com/example/umbel/umbel/rank/ExactSum" "to" "I" (.int (0 : Int32)) ∧ Fld Z h a "com/example/umbel/umbel/rank/ExactSum" "pending" "I" (.int (0 : Int32)) ∧ Arv Z h b kb .long (68 : Int32) (own_L n 0 0 0) (.long (0 : Int64))
set_option maxRecDepth 65536 in
set_option maxHeartbeats 40000000 in
theorem rm_clear (l : Launch) (Z : State) (a0 : Array Value) (hw : ∀ d ∈ tables_1, d.before a0 Z = true) (ws : List Jvm.Cond) (a : Addr) (b : Addr) (kb : ClassId) (li : Int32) (n : Nat) (x : Int64) (y : Int64) (z : Int64) (pd : Int32) (h0 : Heap) (n0 : Nat) (Z0 : n0 ≤ h0.size) (E0 : Exa Z h0 a "com/example/umbel/umbel/rank/ExactSum") (F0 : Fld Z h0 a "com/example/umbel/umbel/rank/ExactSum" "limbs" "[J" (.ref b)) (F1 : Fld Z h0 a "com/example/umbel/umbel/rank/ExactSum" "from" "I" (.int li)) (F2 : Fld Z h0 a "com/example/umbel/umbel/rank/ExactSum" "to" "I" (.int (li + (3 : Int32)))) (F3 : Fld Z h0 a "com/example/umbel/umbel/rank/ExactSum" "pending" "I" (.int pd)) (V0 : Arv Z h0 b kb .long (68 : Int32) (own_L n x y z) (.long (0 : Int64))) (g_a : n0 ≤ a) (g_b : n0 ≤ b) (hab : a ≠ b) (hl : li.toInt = (n : Int)) (hn : n ≤ 65) :
    MetFree l (⟨"com/example/umbel/umbel/rank/ExactSum", "clear", "()V"⟩ : MethodName) (head1 (Jvm.Cond.code (⟨"com/example/umbel/umbel/rank/ExactSum", "clear", "()V"⟩ : MethodName) prog_6_method_4_code 1 none :: ws) ({ frames := 2, cells := 0, slots := 0, locals := 33 } : Room)) (fun aa U => aa = #[(.ref a)] ∧ Z.Warmed39 U.vm ∧ U.heap = h0) (fun _ _ _ _ _ => True) (fun _ U o U' => ∃ v L, o = .returned v ∧ Q_clear Z a b kb n h0 n0 v U'.heap L ∧ FrameEnd U o U' L ({ frames := 2, cells := 0, slots := 0, locals := 33 } : Room).cells ({ frames := 2, cells := 0, slots := 0, locals := 33 } : Room).slots) := by
  refine MetFree.of_bodySF (plainFor_of_name pn_clear) hisR ?_
  intro p e s m args below meth c s₁ Bd hml0 hP hK
  obtain ⟨rfl, hZ, hh⟩ := hP
  have hx := Bd.exec
  have hby := Bd.bytes
  have hml : c.maxLocals = 1 := hml0
  have hown : s.vm.findClass "com/example/umbel/umbel/rank/ExactSum" = some m.cls := findClass_of_methodNamed Bd.named
  have hnm := (name_of_methodNamed Bd.named Bd.method).1
  have X0 : Stand p l e ({ frames := 2, cells := 0, slots := 0, locals := 33 } : Room) s m #[(.ref a)] below meth c s₁ [] 0 0 := Stand.of_body Bd
  have e0 : s₁.heap = h0 := by rw [← hh, Bd.state]; rfl
  have N0 := Fr.nil n0
  have S0 : Go p e below s₁ (entryFrame m #[(.ref a)] 1) s₁ (mkF m 0 #[.val (.ref a)] []) := fun t k => castTop (ef_clear m a) k
  have S174 : Go p e below s₁ (entryFrame m #[(.ref a)] 1) s₁ (mkF m 1 #[.val (.ref a)] [(.ref a)]) := fun t kt => S0 t (by
    refine XS.aloadN X0.here hx rfl (hb hby d7_0) rfl rfl ?_
    show Steps p.tables e below (s₁.setTop (mkF m 1 #[.val (.ref a)] [(.ref a)])) _
    exact kt)
  clear S0
  obtain ⟨T175, X175, e175, st175⟩ := getF X0 hx hZ hown (host := "") (Or.inl (hw _ (List.mem_of_getElem? (i := 11) rfl))) Via.refl e0 F0 (g := (mkF m 1 #[.val (.ref a)] [(.ref a)])) rfl rfl (hb hby d7_1)
  have S176 : Go p e below s₁ (entryFrame m #[(.ref a)] 1) T175 (mkF m 4 #[.val (.ref a)] [(.ref b)]) := fun t kt => S174 t (st175 t kt)
  clear S174 st175 X0 e0
  have S177 : Go p e below s₁ (entryFrame m #[(.ref a)] 1) T175 (mkF m 5 #[.val (.ref a)] [(.ref a), (.ref b)]) := fun t kt => S176 t (by
    refine XS.aloadN X175.here hx rfl (hb hby d7_4) rfl rfl ?_
    show Steps p.tables e below (T175.setTop (mkF m 5 #[.val (.ref a)] [(.ref a), (.ref b)])) _
    exact kt)
  clear S176
  obtain ⟨T178, X178, e178, st178⟩ := getF X175 hx hZ hown (host := "") (Or.inl (hw _ (List.mem_of_getElem? (i := 29) rfl))) Via.refl e175 F1 (g := (mkF m 5 #[.val (.ref a)] [(.ref a), (.ref b)])) rfl rfl (hb hby d7_5)
  have S179 : Go p e below s₁ (entryFrame m #[(.ref a)] 1) T178 (mkF m 8 #[.val (.ref a)] [(.int li), (.ref b)]) := fun t kt => S177 t (st178 t kt)
  clear S177 st178 X175 e175
  have S180 : Go p e below s₁ (entryFrame m #[(.ref a)] 1) T178 (mkF m 9 #[.val (.ref a)] [(.ref a), (.int li), (.ref b)]) := fun t kt => S179 t (by
    refine XS.aloadN X178.here hx rfl (hb hby d7_8) rfl rfl ?_
    show Steps p.tables e below (T178.setTop (mkF m 9 #[.val (.ref a)] [(.ref a), (.int li), (.ref b)])) _
    exact kt)
  clear S179
  obtain ⟨T181, X181, e181, st181⟩ := getF X178 hx hZ hown (host := "") (Or.inl (hw _ (List.mem_of_getElem? (i := 31) rfl))) Via.refl e178 F2 (g := (mkF m 9 #[.val (.ref a)] [(.ref a), (.int li), (.ref b)])) rfl rfl (hb hby d7_9)
  have S182 : Go p e below s₁ (entryFrame m #[(.ref a)] 1) T181 (mkF m 12 #[.val (.ref a)] [(.int (li + (3 : Int32))), (.int li), (.ref b)]) := fun t kt => S180 t (st181 t kt)
  clear S180 st181 X178 e178
  have S183 : Go p e below s₁ (entryFrame m #[(.ref a)] 1) T181 (mkF m 13 #[.val (.ref a)] [(.long (0 : Int64)), (.int (li + (3 : Int32))), (.int li), (.ref b)]) := fun t kt => S182 t (by
    refine XS.lconst X181.here hx rfl (hb hby d7_12) ?_
    show Steps p.tables e below (T181.setTop (mkF m 13 #[.val (.ref a)] [(.long (0 : Int64)), (.int (li + (3 : Int32))), (.int li), (.ref b)])) _
    exact kt)
  clear S182
  obtain ⟨v184, T184, L184, X184, hQ184, st184⟩ := own_outS (Jvm.LawKit.callS X181 hx (y := (⟨"java/util/Arrays", "fill", "([JIIJ)V"⟩ : MethodName)) hown (mvT hZ (hw _ (List.mem_of_getElem? (i := 50) rfl))) (mvT hZ (hw _ (List.mem_of_getElem? (i := 51) rfl))) (mvT hZ (hw _ (List.mem_of_getElem? (i := 52) rfl))) (mvT hZ (hw _ (List.mem_of_getElem? (i := 53) rfl))) (by decide) (backOf (W := 0) (rm_fill l Z a0 hw [] b kb li n x y z h0 n0 Z0 V0 g_b hl hn) hZ (hw _ (List.mem_of_getElem? (i := 53) rfl)) (hw _ (List.mem_of_getElem? (i := 52) rfl)) (by decide) (by decide)) (g := (mkF m 13 #[.val (.ref a)] [(.long (0 : Int64)), (.int (li + (3 : Int32))), (.int li), (.ref b)])) rfl (by rw [hml]; rfl) (argsL := [(.ref b), (.int li), (.int (li + (3 : Int32))), (.long (0 : Int64))]) (rest := []) (lenOf pd___JIIJ_V rfl) rfl (by show 2 * 0 + _ ≤ _; exact Nat.le_of_eq rfl) (hb hby d7_13) (fun _ _ => ⟨rfl, e181, (by decide : 0 + 0 ≤ _), (by decide : 0 + 0 ≤ _)⟩))
  obtain ⟨rfl, N184q, K184, Va184⟩ := hQ184
  have N184 := Fr.app N0 N184q
  have Kk184 : Keep h0 T184.heap [a, b] := Keep.trans (Keep.refl h0 [a, b]) K184 (by simp)
  have S185 : Go p e below s₁ (entryFrame m #[(.ref a)] 1) T184 (mkF m 16 #[.val (.ref a)] []) := fun t kt => S183 t (st184 t kt)
  clear S183 st184 X181 e181
  have S186 : Go p e below s₁ (entryFrame m #[(.ref a)] 1) T184 (mkF m 18 #[.val (.ref a)] [(.int (0 : Int32)), (.ref a)]) := fun t kt => S185 t (by
    refine XS.aloadN X184.here hx rfl (hb hby d7_16) rfl rfl ?_
    show Steps p.tables e below (T184.setTop (mkF m 17 #[.val (.ref a)] [(.ref a)])) _
    refine XS.iconst X184.here hx rfl (hb hby d7_17) ?_
    show Steps p.tables e below (T184.setTop (mkF m 18 #[.val (.ref a)] [(.int (0 : Int32)), (.ref a)])) _
    exact kt)
  clear S185
  have f187 := (F1.keep K184 (ninS hab nin0))
  have f188 := (E0.keep K184)
  obtain ⟨T189, h189, X189, e189, W189, st189⟩ := putF X184 hx hZ hown (host := "") (Or.inl (hw _ (List.mem_of_getElem? (i := 29) rfl))) Via.refl rfl f187 f188 (Or.inl (hw _ (List.mem_of_getElem? (i := 30) rfl))) (hw _ (List.mem_of_getElem? (i := 2) rfl)) (ty := .int) (by decide) rfl rfl (g := (mkF m 18 #[.val (.ref a)] [(.int (0 : Int32)), (.ref a)])) rfl rfl (hb hby d7_18)
  have N189 := Fr.snoc X189 N184 g_a
  have K189 : Keep h0 h189 [a, b] := Kk184.wr W189 (Or.inl (by simp))
  have Fw189 := f187.same W189
  have S190 : Go p e below s₁ (entryFrame m #[(.ref a)] 1) T189 (mkF m 21 #[.val (.ref a)] []) := fun t kt => S186 t (st189 t kt)
  clear S186 st189 X184
  have S191 : Go p e below s₁ (entryFrame m #[(.ref a)] 1) T189 (mkF m 23 #[.val (.ref a)] [(.int (0 : Int32)), (.ref a)]) := fun t kt => S190 t (by
    refine XS.aloadN X189.here hx rfl (hb hby d7_21) rfl rfl ?_
    show Steps p.tables e below (T189.setTop (mkF m 22 #[.val (.ref a)] [(.ref a)])) _
    refine XS.iconst X189.here hx rfl (hb hby d7_22) ?_
    show Steps p.tables e below (T189.setTop (mkF m 23 #[.val (.ref a)] [(.int (0 : Int32)), (.ref a)])) _
    exact kt)
  clear S190
  have f192 := ((F2.keep K184 (ninS hab nin0)).other W189 (Or.inr (slot_ne (C := "com/example/umbel/umbel/rank/ExactSum") (Or.inl (hw _ (List.mem_of_getElem? (i := 32) rfl))) (Or.inl (hw _ (List.mem_of_getElem? (i := 30) rfl))) (by decide) (t := .int) (t' := .int) (by decide) (by decide))))
  have f193 := (f188.wr W189)
  obtain ⟨T194, h194, X194, e194, W194, st194⟩ := putF X189 hx hZ hown (host := "") (Or.inl (hw _ (List.mem_of_getElem? (i := 31) rfl))) Via.refl e189 f192 f193 (Or.inl (hw _ (List.mem_of_getElem? (i := 32) rfl))) (hw _ (List.mem_of_getElem? (i := 2) rfl)) (ty := .int) (by decide) rfl rfl (g := (mkF m 23 #[.val (.ref a)] [(.int (0 : Int32)), (.ref a)])) rfl rfl (hb hby d7_23)
  have N194 := Fr.snoc X194 N189 g_a
  have K194 : Keep h0 h194 [a, b] := K189.wr W194 (Or.inl (by simp))
  have Fw194 := f192.same W194
  have S195 : Go p e below s₁ (entryFrame m #[(.ref a)] 1) T194 (mkF m 26 #[.val (.ref a)] []) := fun t kt => S191 t (st194 t kt)
  clear S191 st194 X189 e189
  have S196 : Go p e below s₁ (entryFrame m #[(.ref a)] 1) T194 (mkF m 28 #[.val (.ref a)] [(.int (0 : Int32)), (.ref a)]) := fun t kt => S195 t (by
    refine XS.aloadN X194.here hx rfl (hb hby d7_26) rfl rfl ?_
    show Steps p.tables e below (T194.setTop (mkF m 27 #[.val (.ref a)] [(.ref a)])) _
    refine XS.iconst X194.here hx rfl (hb hby d7_27) ?_
    show Steps p.tables e below (T194.setTop (mkF m 28 #[.val (.ref a)] [(.int (0 : Int32)), (.ref a)])) _
    exact kt)
  clear S195
  have f197 := (((F3.keep K184 (ninS hab nin0)).other W189 (Or.inr (slot_ne (C := "com/example/umbel/umbel/rank/ExactSum") (Or.inl (hw _ (List.mem_of_getElem? (i := 34) rfl))) (Or.inl (hw _ (List.mem_of_getElem? (i := 30) rfl))) (by decide) (t := .int) (t' := .int) (by decide) (by decide)))).other W194 (Or.inr (slot_ne (C := "com/example/umbel/umbel/rank/ExactSum") (Or.inl (hw _ (List.mem_of_getElem? (i := 34) rfl))) (Or.inl (hw _ (List.mem_of_getElem? (i := 32) rfl))) (by decide) (t := .int) (t' := .int) (by decide) (by decide))))
  have f198 := (f193.wr W194)
  obtain ⟨T199, h199, X199, e199, W199, st199⟩ := putF X194 hx hZ hown (host := "") (Or.inl (hw _ (List.mem_of_getElem? (i := 33) rfl))) Via.refl e194 f197 f198 (Or.inl (hw _ (List.mem_of_getElem? (i := 34) rfl))) (hw _ (List.mem_of_getElem? (i := 2) rfl)) (ty := .int) (by decide) rfl rfl (g := (mkF m 28 #[.val (.ref a)] [(.int (0 : Int32)), (.ref a)])) rfl rfl (hb hby d7_28)
  have N199 := Fr.snoc X199 N194 g_a
  have K199 : Keep h0 h199 [a, b] := K194.wr W199 (Or.inl (by simp))
  have Fw199 := f197.same W199
  have S200 : Go p e below s₁ (entryFrame m #[(.ref a)] 1) T199 (mkF m 31 #[.val (.ref a)] []) := fun t kt => S196 t (st199 t kt)
  clear S196 st199 X194 e194
  have f201 := (f198.wr W199)
  have f202 := ((((F0.keep K184 (ninS hab nin0)).other W189 (Or.inr (slot_ne (C := "com/example/umbel/umbel/rank/ExactSum") (Or.inr (hw _ (List.mem_of_getElem? (i := 12) rfl))) (Or.inl (hw _ (List.mem_of_getElem? (i := 30) rfl))) (by decide) (t := (.array .long)) (t' := .int) (by decide) (by decide)))).other W194 (Or.inr (slot_ne (C := "com/example/umbel/umbel/rank/ExactSum") (Or.inr (hw _ (List.mem_of_getElem? (i := 12) rfl))) (Or.inl (hw _ (List.mem_of_getElem? (i := 32) rfl))) (by decide) (t := (.array .long)) (t' := .int) (by decide) (by decide)))).other W199 (Or.inr (slot_ne (C := "com/example/umbel/umbel/rank/ExactSum") (Or.inr (hw _ (List.mem_of_getElem? (i := 12) rfl))) (Or.inl (hw _ (List.mem_of_getElem? (i := 34) rfl))) (by decide) (t := (.array .long)) (t' := .int) (by decide) (by decide))))
  have f203 := ((Fw189.other W194 (Or.inr (slot_ne (C := "com/example/umbel/umbel/rank/ExactSum") (Or.inl (hw _ (List.mem_of_getElem? (i := 30) rfl))) (Or.inl (hw _ (List.mem_of_getElem? (i := 32) rfl))) (by decide) (t := .int) (t' := .int) (by decide) (by decide)))).other W199 (Or.inr (slot_ne (C := "com/example/umbel/umbel/rank/ExactSum") (Or.inl (hw _ (List.mem_of_getElem? (i := 30) rfl))) (Or.inl (hw _ (List.mem_of_getElem? (i := 34) rfl))) (by decide) (t := .int) (t' := .int) (by decide) (by decide))))
  have f204 := (Fw194.other W199 (Or.inr (slot_ne (C := "com/example/umbel/umbel/rank/ExactSum") (Or.inl (hw _ (List.mem_of_getElem? (i := 32) rfl))) (Or.inl (hw _ (List.mem_of_getElem? (i := 34) rfl))) (by decide) (t := .int) (t' := .int) (by decide) (by decide))))
  have f205 := (((Va184.other W189 (Ne.symm hab)).other W194 (Ne.symm hab)).other W199 (Ne.symm hab))
  obtain ⟨fs, hr, hrun, hended, hW, hsame⟩ := X199.leave (v := none) (fun h => by first | rfl | (rw [Bd.returns] at h; cases h))
  refine ⟨_, _, S200 _ ?_, hrun, hended, _, _, rfl, ?_, ⟨_, rfl⟩, hW, hsame.mono (by decide) (by decide)⟩
  · exact X199.returnOut hx Bd.returns (hb hby d7_31) hr
  · show Q_clear Z a b kb n h0 n0 _ T199.heap _
    rw [e199]
    exact ⟨rfl, N199, K199, f201, f202, f203, f204, Fw199, f205⟩
theorem ef_init (m : MethodId) (x0 : Addr) : entryFrame m #[(.ref x0)] 1 = mkF m 0 #[.val (.ref x0)] [] := by first | (simp [entryFrame, mkF, argsToLocals, Value.category]; done) | rfl
theorem pn_init : plainName "com/example/umbel/umbel/rank/ExactSum" = true := by first | (simp [plainName, overriddenIn]; done) | decide +kernel
def Q_init (Z : State) (a : Addr) (h0 : Heap) (n0 : Nat) (v : Option Value) (h : Heap) (L : List Loc) : Prop := ∃ b kb, v = none ∧ Fr n0 L ∧ n0 ≤ b ∧ a ≠ b ∧ h0.size ≤ b ∧ Keep h0 h [a] ∧ Exa Z h a "com/example/umbel/umbel/rank/ExactSum" ∧ Fld Z h a "com/example/umbel/umbel/rank/ExactSum" "limbs" "[J" (.ref b) ∧ Fld Z h a "com/example/umbel/umbel/rank/ExactSum" "from" "I" (.int (0 : Int32)) ∧ Fld Z h a "com/example/umbel/umbel/rank/ExactSum" "to" "I" (.int (0 : Int32)) ∧ Fld Z h a "com/example/umbel/umbel/rank/ExactSum" "pending" "I" (.int (0 : Int32)) ∧ Arv Z h b kb .long (68 : Int32) (List.replicate 68 (Value.long 0)) (.long (0 : Int64))
set_option maxRecDepth 65536 in
set_option maxHeartbeats 40000000 in
theorem rm_init (l : Launch) (Z : State) (a0 : Array Value) (hw : ∀ d ∈ tables_1, d.before a0 Z = true) (ws : List Jvm.Cond) (a : Addr) (h0 : Heap) (n0 : Nat) (Z0 : n0 ≤ h0.size) (E0 : Exa Z h0 a "com/example/umbel/umbel/rank/ExactSum") (F0 : Fld Z h0 a "com/example/umbel/umbel/rank/ExactSum" "limbs" "[J" .null) (F1 : Fld Z h0 a "com/example/umbel/umbel/rank/ExactSum" "from" "I" (.int (0 : Int32))) (F2 : Fld Z h0 a "com/example/umbel/umbel/rank/ExactSum" "to" "I" (.int (0 : Int32))) (F3 : Fld Z h0 a "com/example/umbel/umbel/rank/ExactSum" "pending" "I" (.int (0 : Int32))) (g_a : n0 ≤ a) :
    MetFree l (⟨"com/example/umbel/umbel/rank/ExactSum", "<init>", "()V"⟩ : MethodName) (head1 (Jvm.Cond.code (⟨"com/example/umbel/umbel/rank/ExactSum", "<init>", "()V"⟩ : MethodName) prog_6_method_1_code 1 none :: ws) ({ frames := 1, cells := 1, slots := 68, locals := 12 } : Room)) (fun aa U => aa = #[(.ref a)] ∧ Z.Warmed39 U.vm ∧ U.heap = h0) (fun _ _ _ _ _ => True) (fun _ U o U' => ∃ v L, o = .returned v ∧ Q_init Z a h0 n0 v U'.heap L ∧ FrameEnd U o U' L ({ frames := 1, cells := 1, slots := 68, locals := 12 } : Room).cells ({ frames := 1, cells := 1, slots := 68, locals := 12 } : Room).slots) := by
  refine MetFree.of_bodySF (plainFor_of_name pn_init) hisR ?_
  intro p e s m args below meth c s₁ Bd hml0 hP hK
  obtain ⟨rfl, hZ, hh⟩ := hP
  have hx := Bd.exec
  have hby := Bd.bytes
  have hml : c.maxLocals = 1 := hml0
  have hown : s.vm.findClass "com/example/umbel/umbel/rank/ExactSum" = some m.cls := findClass_of_methodNamed Bd.named
  have hnm := (name_of_methodNamed Bd.named Bd.method).1
  have X0 : Stand p l e ({ frames := 1, cells := 1, slots := 68, locals := 12 } : Room) s m #[(.ref a)] below meth c s₁ [] 0 0 := Stand.of_body Bd
  have e0 : s₁.heap = h0 := by rw [← hh, Bd.state]; rfl
  have N0 := Fr.nil n0
  have S0 : Go p e below s₁ (entryFrame m #[(.ref a)] 1) s₁ (mkF m 0 #[.val (.ref a)] []) := fun t k => castTop (ef_init m a) k
  have S206 : Go p e below s₁ (entryFrame m #[(.ref a)] 1) s₁ (mkF m 1 #[.val (.ref a)] [(.ref a)]) := fun t kt => S0 t (by
    refine XS.aloadN X0.here hx rfl (hb hby d1_0) rfl rfl ?_
    show Steps p.tables e below (s₁.setTop (mkF m 1 #[.val (.ref a)] [(.ref a)])) _
    exact kt)
  clear S0
  obtain ⟨T207, X207, e207, st207⟩ := initO X0 hx hZ hown (hw _ (List.mem_of_getElem? (i := 7) rfl)) (hw _ (List.mem_of_getElem? (i := 8) rfl)) (hw _ (List.mem_of_getElem? (i := 9) rfl)) e0 (g := (mkF m 1 #[.val (.ref a)] [(.ref a)])) rfl (by rw [hml]; rfl) rfl (hb hby d1_1) (by decide) (W := 0) (by show 2 * 0 + _ ≤ _; exact Nat.le_of_eq rfl) (by decide)
  have S208 : Go p e below s₁ (entryFrame m #[(.ref a)] 1) T207 (mkF m 4 #[.val (.ref a)] []) := fun t kt => S206 t (st207 t kt)
  clear S206 st207 X0 e0
  have S209 : Go p e below s₁ (entryFrame m #[(.ref a)] 1) T207 (mkF m 7 #[.val (.ref a)] [(.int (68 : Int32)), (.ref a)]) := fun t kt => S208 t (by
    refine XS.aloadN X207.here hx rfl (hb hby d1_4) rfl rfl ?_
    show Steps p.tables e below (T207.setTop (mkF m 5 #[.val (.ref a)] [(.ref a)])) _
    refine XS.bipush X207.here hx rfl (hb hby d1_5) ?_
    show Steps p.tables e below (T207.setTop (mkF m 7 #[.val (.ref a)] [(.int (68 : Int32)), (.ref a)])) _
    exact kt)
  clear S208
  obtain ⟨T210, h210, k210, X210, e210, E210, A210, st210⟩ := newP X207 hx hZ (hw _ (List.mem_of_getElem? (i := 10) rfl)) e207 (g := (mkF m 7 #[.val (.ref a)] [(.int (68 : Int32)), (.ref a)])) rfl (hb hby d1_7) rfl (by decide) (cap := 68) (by decide) (by decide) (by decide) (by decide)
  obtain ⟨bb, g210⟩ : ∃ z, z = h0.size := ⟨_, rfl⟩
  rw [← g210] at A210 st210
  have ne211 : a ≠ bb := by rw [g210]; exact Nat.ne_of_lt E0.lt
  have g_bb : n0 ≤ bb := Nat.le_trans Z0 (Nat.le_of_eq g210.symm)
  have sz_bb : h0.size ≤ bb := Nat.le_trans (Keep.refl h0 [a]).1 (Nat.le_of_eq g210.symm)
  have K210 : Keep h0 h210 [a] := (Keep.refl h0 [a]).ext E210
  have V210 : Arv Z h210 bb k210 .long (68 : Int32) [(.long (0 : Int64)), (.long (0 : Int64)), (.long (0 : Int64)), (.long (0 : Int64)), (.long (0 : Int64)), (.long (0 : Int64)), (.long (0 : Int64)), (.long (0 : Int64)), (.long (0 : Int64)), (.long (0 : Int64)), (.long (0 : Int64)), (.long (0 : Int64)), (.long (0 : Int64)), (.long (0 : Int64)), (.long (0 : Int64)), (.long (0 : Int64)), (.long (0 : Int64)), (.long (0 : Int64)), (.long (0 : Int64)), (.long (0 : Int64)), (.long (0 : Int64)), (.long (0 : Int64)), (.long (0 : Int64)), (.long (0 : Int64)), (.long (0 : Int64)), (.long (0 : Int64)), (.long (0 : Int64)), (.long (0 : Int64)), (.long (0 : Int64)), (.long (0 : Int64)), (.long (0 : Int64)), (.long (0 : Int64)), (.long (0 : Int64)), (.long (0 : Int64)), (.long (0 : Int64)), (.long (0 : Int64)), (.long (0 : Int64)), (.long (0 : Int64)), (.long (0 : Int64)), (.long (0 : Int64)), (.long (0 : Int64)), (.long (0 : Int64)), (.long (0 : Int64)), (.long (0 : Int64)), (.long (0 : Int64)), (.long (0 : Int64)), (.long (0 : Int64)), (.long (0 : Int64)), (.long (0 : Int64)), (.long (0 : Int64)), (.long (0 : Int64)), (.long (0 : Int64)), (.long (0 : Int64)), (.long (0 : Int64)), (.long (0 : Int64)), (.long (0 : Int64)), (.long (0 : Int64)), (.long (0 : Int64)), (.long (0 : Int64)), (.long (0 : Int64)), (.long (0 : Int64)), (.long (0 : Int64)), (.long (0 : Int64)), (.long (0 : Int64)), (.long (0 : Int64)), (.long (0 : Int64)), (.long (0 : Int64)), (.long (0 : Int64))] (.long (0 : Int64)) := (Arv.new A210 (by decide)).pad (pad_rep [] _ 68)
  have S212 : Go p e below s₁ (entryFrame m #[(.ref a)] 1) T210 (mkF m 9 #[.val (.ref a)] [(.ref bb), (.ref a)]) := fun t kt => S209 t (st210 t kt)
  clear S209 st210 X207 e207
  have f213 := (F0.ext E210)
  have f214 := (E0.ext E210)
  obtain ⟨T215, h215, X215, e215, W215, st215⟩ := putF X210 hx hZ hown (host := "") (Or.inl (hw _ (List.mem_of_getElem? (i := 11) rfl))) Via.refl e210 f213 f214 (Or.inr ⟨(hw _ (List.mem_of_getElem? (i := 12) rfl)), rfl, hnm⟩) (hw _ (List.mem_of_getElem? (i := 2) rfl)) (ty := (.array .long)) (by decide) rfl rfl (g := (mkF m 9 #[.val (.ref a)] [(.ref bb), (.ref a)])) rfl rfl (hb hby d1_9)
  have N215 := Fr.snoc X215 N0 g_a
  have K215 : Keep h0 h215 [a] := K210.wr W215 (Or.inl (by simp))
  have Fw215 := f213.same W215
  have S216 : Go p e below s₁ (entryFrame m #[(.ref a)] 1) T215 (mkF m 12 #[.val (.ref a)] []) := fun t kt => S212 t (st215 t kt)
  clear S212 st215 X210 e210
  have f217 := (f214.wr W215)
  have f218 := ((F1.ext E210).other W215 (Or.inr (slot_ne (C := "com/example/umbel/umbel/rank/ExactSum") (Or.inl (hw _ (List.mem_of_getElem? (i := 30) rfl))) (Or.inr (hw _ (List.mem_of_getElem? (i := 12) rfl))) (by decide) (t := .int) (t' := (.array .long)) (by decide) (by decide))))
  have f219 := ((F2.ext E210).other W215 (Or.inr (slot_ne (C := "com/example/umbel/umbel/rank/ExactSum") (Or.inl (hw _ (List.mem_of_getElem? (i := 32) rfl))) (Or.inr (hw _ (List.mem_of_getElem? (i := 12) rfl))) (by decide) (t := .int) (t' := (.array .long)) (by decide) (by decide))))
  have f220 := ((F3.ext E210).other W215 (Or.inr (slot_ne (C := "com/example/umbel/umbel/rank/ExactSum") (Or.inl (hw _ (List.mem_of_getElem? (i := 34) rfl))) (Or.inr (hw _ (List.mem_of_getElem? (i := 12) rfl))) (by decide) (t := .int) (t' := (.array .long)) (by decide) (by decide))))
  have f221 := (V210.other W215 (Ne.symm ne211))
  obtain ⟨fs, hr, hrun, hended, hW, hsame⟩ := X215.leave (v := none) (fun h => by first | rfl | (rw [Bd.returns] at h; cases h))
  refine ⟨_, _, S216 _ ?_, hrun, hended, _, _, rfl, ?_, ⟨_, rfl⟩, hW, hsame.mono (by decide) (by decide)⟩
  · exact X215.returnOut hx Bd.returns (hb hby d1_12) hr
  · show Q_init Z a h0 n0 _ T215.heap _
    rw [e215]
    exact ⟨bb, k210, rfl, N215, g_bb, ne211, sz_bb, K215, f217, Fw215, f218, f219, f220, f221⟩
theorem ef_nlzI (m : MethodId) (x0 : Int32) : entryFrame m #[(.int x0)] 2 = mkF m 0 #[.val (.int x0), .unset] [] := by first | (simp [entryFrame, mkF, argsToLocals, Value.category]; done) | rfl
theorem pn_nlzI : plainName "java/lang/Integer" = true := by first | (simp [plainName, overriddenIn]; done) | decide +kernel
def Q_nlzI (Z : State) (i : Int32) (h0 : Heap) (n0 : Nat) (v : Option Value) (h : Heap) (L : List Loc) : Prop := ∃ r : Int32, v = some (.int r) ∧ (i < 0 → r = 0) ∧ (0 < i → own_nlz i r) ∧ Fr n0 L ∧ h = h0
set_option maxRecDepth 65536 in
set_option maxHeartbeats 40000000 in
theorem rm_nlzI (l : Launch) (Z : State) (a0 : Array Value) (hw : ∀ d ∈ tables_1, d.before a0 Z = true) (ws : List Jvm.Cond) (i : Int32) (h0 : Heap) (n0 : Nat) (Z0 : n0 ≤ h0.size) (hi : i ≠ 0) :
    MetFree l (⟨"java/lang/Integer", "numberOfLeadingZeros", "(I)I"⟩ : MethodName) (head1 (Jvm.Cond.code (⟨"java/lang/Integer", "numberOfLeadingZeros", "(I)I"⟩ : MethodName) jdk_33_method_47_code 2 (some .int) :: ws) ({ frames := 0, cells := 0, slots := 0, locals := 0 } : Room)) (fun aa U => aa = #[(.int i)] ∧ Z.Warmed39 U.vm ∧ U.heap = h0) (fun _ _ _ _ _ => True) (fun _ U o U' => ∃ v L, o = .returned v ∧ Q_nlzI Z i h0 n0 v U'.heap L ∧ FrameEnd U o U' L ({ frames := 0, cells := 0, slots := 0, locals := 0 } : Room).cells ({ frames := 0, cells := 0, slots := 0, locals := 0 } : Room).slots) := by
  refine MetFree.of_bodySF (plainFor_of_name pn_nlzI) hisR ?_
  intro p e s m args below meth c s₁ Bd hml0 hP hK
  obtain ⟨rfl, hZ, hh⟩ := hP
  have hx := Bd.exec
  have hby := Bd.bytes
  have hml : c.maxLocals = 2 := hml0
  have hown : s.vm.findClass "java/lang/Integer" = some m.cls := findClass_of_methodNamed Bd.named
  have hnm := (name_of_methodNamed Bd.named Bd.method).1
  have X0 : Stand p l e ({ frames := 0, cells := 0, slots := 0, locals := 0 } : Room) s m #[(.int i)] below meth c s₁ [] 0 0 := Stand.of_body Bd
  have e0 : s₁.heap = h0 := by rw [← hh, Bd.state]; rfl
  have N0 := Fr.nil n0
  have S0 : Go p e below s₁ (entryFrame m #[(.int i)] 2) s₁ (mkF m 0 #[.val (.int i), .unset] []) := fun t k => castTop (ef_nlzI m i) k
  have S222 : Go p e below s₁ (entryFrame m #[(.int i)] 2) s₁ (mkF m 1 #[.val (.int i), .unset] [(.int i)]) := fun t kt => S0 t (by
    refine XS.iloadN X0.here hx rfl (hb hby d11_0) rfl ?_
    show Steps p.tables e below (s₁.setTop (mkF m 1 #[.val (.int i), .unset] [(.int i)])) _
    exact kt)
  clear S0
  by_cases hp : (0 : Int32) < i
  · have S225 : Go p e below s₁ (entryFrame m #[(.int i)] 2) s₁ (mkF m 18 #[.val (.int i), .val (.int (31 : Int32))] []) := fun t kt => S222 t (by
      refine XS.ifYes X0.here hx rfl (pc0 := 1) (pc' := 15) rfl (hb hby d11_1) rfl ((if0 _ _).trans (tlt (show (0 : Int32) < i from hp)).2.2.1) (by decide) (by decide) ?_
      show Steps p.tables e below (s₁.setTop (mkF m 15 #[.val (.int i), .unset] [])) _
      refine XS.bipush X0.here hx rfl (hb hby d11_15) ?_
      show Steps p.tables e below (s₁.setTop (mkF m 17 #[.val (.int i), .unset] [(.int (31 : Int32))])) _
      refine XS.istoreN X0.here hx rfl (hb hby d11_17) rfl (l' := #[.val (.int i), .val (.int (31 : Int32))]) rfl ?_
      show Steps p.tables e below (s₁.setTop (mkF m 18 #[.val (.int i), .val (.int (31 : Int32))] [])) _
      exact kt)
    clear S222
    have hP0 : own_P i (31 : Int32) i 31 := own_P0 hp
    have S226 : Go p e below s₁ (entryFrame m #[(.int i)] 2) s₁ (mkF m 22 #[.val (.int i), .val (.int (31 : Int32))] [(.int (65536 : Int32)), (.int i)]) := fun t kt => S225 t (by
      refine XS.iloadN X0.here hx rfl (hb hby d11_18) rfl ?_
      show Steps p.tables e below (s₁.setTop (mkF m 19 #[.val (.int i), .val (.int (31 : Int32))] [(.int i)])) _
      refine X0.ldcwInt hx hown (mvT hZ (hw _ (List.mem_of_getElem? (i := 66) rfl))) (g := (mkF m 19 #[.val (.int i), .val (.int (31 : Int32))] [(.int i)])) rfl (hb hby d11_19) _ ?_
      show Steps p.tables e below (s₁.setTop (mkF m 22 #[.val (.int i), .val (.int (31 : Int32))] [(.int (65536 : Int32)), (.int i)])) _
      exact kt)
    clear S225
    obtain ⟨ix0, nx0, hP1, S229⟩ : ∃ (ix0 : Int32) (nx0 : Int32), (own_P i nx0 ix0 16) ∧ Go p e below s₁ (entryFrame m #[(.int i)] 2) s₁ (mkF m 33 #[.val (.int ix0), .val (.int nx0)] []) := by
      by_cases hk : i < (65536 : Int32)
      · have S227 : Go p e below s₁ (entryFrame m #[(.int i)] 2) s₁ (mkF m 33 #[.val (.int i), .val (.int (31 : Int32))] []) := fun t kt => S226 t (by
          refine XS.icmpYes X0.here hx rfl (pc0 := 22) (pc' := 33) rfl (hb hby d11_22) rfl (tlt (show i < (65536 : Int32) from hk)).1 (by decide) (by decide) ?_
          show Steps p.tables e below (s₁.setTop (mkF m 33 #[.val (.int i), .val (.int (31 : Int32))] [])) _
          exact kt)
        clear S226
        exact ⟨i, (31 : Int32), own_Pa hP0 hk, S227⟩
      · have S228 : Go p e below s₁ (entryFrame m #[(.int i)] 2) s₁ (mkF m 33 #[.val (.int ((i.toUInt32 >>> ((16 : Int32) &&& 31).toUInt32).toInt32)), .val (.int ((31 : Int32) + (-16 : Int32)))] []) := fun t kt => S226 t (by
          refine XS.icmpNo X0.here hx rfl (hb hby d11_22) rfl (flt (show ¬ (i < (65536 : Int32)) from hk)).1 ?_
          show Steps p.tables e below (s₁.setTop (mkF m 25 #[.val (.int i), .val (.int (31 : Int32))] [])) _
          refine XS.iinc X0.here hx rfl (hb hby d11_25) rfl (l' := #[.val (.int i), .val (.int ((31 : Int32) + (-16 : Int32)))]) rfl ?_
          show Steps p.tables e below (s₁.setTop (mkF m 28 #[.val (.int i), .val (.int ((31 : Int32) + (-16 : Int32)))] [])) _
          refine XS.iloadN X0.here hx rfl (hb hby d11_28) rfl ?_
          show Steps p.tables e below (s₁.setTop (mkF m 29 #[.val (.int i), .val (.int ((31 : Int32) + (-16 : Int32)))] [(.int i)])) _
          refine XS.bipush X0.here hx rfl (hb hby d11_29) ?_
          show Steps p.tables e below (s₁.setTop (mkF m 31 #[.val (.int i), .val (.int ((31 : Int32) + (-16 : Int32)))] [(.int (16 : Int32)), (.int i)])) _
          refine XS.iushr X0.here hx rfl (hb hby d11_31) rfl ?_
          show Steps p.tables e below (s₁.setTop (mkF m 32 #[.val (.int i), .val (.int ((31 : Int32) + (-16 : Int32)))] [(.int ((i.toUInt32 >>> ((16 : Int32) &&& 31).toUInt32).toInt32))])) _
          refine XS.istoreN X0.here hx rfl (hb hby d11_32) rfl (l' := #[.val (.int ((i.toUInt32 >>> ((16 : Int32) &&& 31).toUInt32).toInt32)), .val (.int ((31 : Int32) + (-16 : Int32)))]) rfl ?_
          show Steps p.tables e below (s₁.setTop (mkF m 33 #[.val (.int ((i.toUInt32 >>> ((16 : Int32) &&& 31).toUInt32).toInt32)), .val (.int ((31 : Int32) + (-16 : Int32)))] [])) _
          exact kt)
        clear S226
        exact ⟨((i.toUInt32 >>> ((16 : Int32) &&& 31).toUInt32).toInt32), ((31 : Int32) + (-16 : Int32)), own_Pb16 hP0 hk, S228⟩
    clear S226
    have S230 : Go p e below s₁ (entryFrame m #[(.int i)] 2) s₁ (mkF m 37 #[.val (.int ix0), .val (.int nx0)] [(.int (256 : Int32)), (.int ix0)]) := fun t kt => S229 t (by
      refine XS.iloadN X0.here hx rfl (hb hby d11_33) rfl ?_
      show Steps p.tables e below (s₁.setTop (mkF m 34 #[.val (.int ix0), .val (.int nx0)] [(.int ix0)])) _
      refine XS.sipush X0.here hx rfl (hb hby d11_34) ?_
      show Steps p.tables e below (s₁.setTop (mkF m 37 #[.val (.int ix0), .val (.int nx0)] [(.int (256 : Int32)), (.int ix0)])) _
      exact kt)
    clear S229
    obtain ⟨ix1, nx1, hP2, S233⟩ : ∃ (ix1 : Int32) (nx1 : Int32), (own_P i nx1 ix1 8) ∧ Go p e below s₁ (entryFrame m #[(.int i)] 2) s₁ (mkF m 48 #[.val (.int ix1), .val (.int nx1)] []) := by
      by_cases hk : ix0 < (256 : Int32)
      · have S231 : Go p e below s₁ (entryFrame m #[(.int i)] 2) s₁ (mkF m 48 #[.val (.int ix0), .val (.int nx0)] []) := fun t kt => S230 t (by
          refine XS.icmpYes X0.here hx rfl (pc0 := 37) (pc' := 48) rfl (hb hby d11_37) rfl (tlt (show ix0 < (256 : Int32) from hk)).1 (by decide) (by decide) ?_
          show Steps p.tables e below (s₁.setTop (mkF m 48 #[.val (.int ix0), .val (.int nx0)] [])) _
          exact kt)
        clear S230
        exact ⟨ix0, nx0, own_Pa hP1 hk, S231⟩
      · have S232 : Go p e below s₁ (entryFrame m #[(.int i)] 2) s₁ (mkF m 48 #[.val (.int ((ix0.toUInt32 >>> ((8 : Int32) &&& 31).toUInt32).toInt32)), .val (.int (nx0 + (-8 : Int32)))] []) := fun t kt => S230 t (by
          refine XS.icmpNo X0.here hx rfl (hb hby d11_37) rfl (flt (show ¬ (ix0 < (256 : Int32)) from hk)).1 ?_
          show Steps p.tables e below (s₁.setTop (mkF m 40 #[.val (.int ix0), .val (.int nx0)] [])) _
          refine XS.iinc X0.here hx rfl (hb hby d11_40) rfl (l' := #[.val (.int ix0), .val (.int (nx0 + (-8 : Int32)))]) rfl ?_
          show Steps p.tables e below (s₁.setTop (mkF m 43 #[.val (.int ix0), .val (.int (nx0 + (-8 : Int32)))] [])) _
          refine XS.iloadN X0.here hx rfl (hb hby d11_43) rfl ?_
          show Steps p.tables e below (s₁.setTop (mkF m 44 #[.val (.int ix0), .val (.int (nx0 + (-8 : Int32)))] [(.int ix0)])) _
          refine XS.bipush X0.here hx rfl (hb hby d11_44) ?_
          show Steps p.tables e below (s₁.setTop (mkF m 46 #[.val (.int ix0), .val (.int (nx0 + (-8 : Int32)))] [(.int (8 : Int32)), (.int ix0)])) _
          refine XS.iushr X0.here hx rfl (hb hby d11_46) rfl ?_
          show Steps p.tables e below (s₁.setTop (mkF m 47 #[.val (.int ix0), .val (.int (nx0 + (-8 : Int32)))] [(.int ((ix0.toUInt32 >>> ((8 : Int32) &&& 31).toUInt32).toInt32))])) _
          refine XS.istoreN X0.here hx rfl (hb hby d11_47) rfl (l' := #[.val (.int ((ix0.toUInt32 >>> ((8 : Int32) &&& 31).toUInt32).toInt32)), .val (.int (nx0 + (-8 : Int32)))]) rfl ?_
          show Steps p.tables e below (s₁.setTop (mkF m 48 #[.val (.int ((ix0.toUInt32 >>> ((8 : Int32) &&& 31).toUInt32).toInt32)), .val (.int (nx0 + (-8 : Int32)))] [])) _
          exact kt)
        clear S230
        exact ⟨((ix0.toUInt32 >>> ((8 : Int32) &&& 31).toUInt32).toInt32), (nx0 + (-8 : Int32)), own_Pb8 hP1 hk, S232⟩
    clear S230
    have S234 : Go p e below s₁ (entryFrame m #[(.int i)] 2) s₁ (mkF m 51 #[.val (.int ix1), .val (.int nx1)] [(.int (16 : Int32)), (.int ix1)]) := fun t kt => S233 t (by
      refine XS.iloadN X0.here hx rfl (hb hby d11_48) rfl ?_
      show Steps p.tables e below (s₁.setTop (mkF m 49 #[.val (.int ix1), .val (.int nx1)] [(.int ix1)])) _
      refine XS.bipush X0.here hx rfl (hb hby d11_49) ?_
      show Steps p.tables e below (s₁.setTop (mkF m 51 #[.val (.int ix1), .val (.int nx1)] [(.int (16 : Int32)), (.int ix1)])) _
      exact kt)
    clear S233
    obtain ⟨ix2, nx2, hP3, S237⟩ : ∃ (ix2 : Int32) (nx2 : Int32), (own_P i nx2 ix2 4) ∧ Go p e below s₁ (entryFrame m #[(.int i)] 2) s₁ (mkF m 61 #[.val (.int ix2), .val (.int nx2)] []) := by
      by_cases hk : ix1 < (16 : Int32)
      · have S235 : Go p e below s₁ (entryFrame m #[(.int i)] 2) s₁ (mkF m 61 #[.val (.int ix1), .val (.int nx1)] []) := fun t kt => S234 t (by
          refine XS.icmpYes X0.here hx rfl (pc0 := 51) (pc' := 61) rfl (hb hby d11_51) rfl (tlt (show ix1 < (16 : Int32) from hk)).1 (by decide) (by decide) ?_
          show Steps p.tables e below (s₁.setTop (mkF m 61 #[.val (.int ix1), .val (.int nx1)] [])) _
          exact kt)
        clear S234
        exact ⟨ix1, nx1, own_Pa hP2 hk, S235⟩
      · have S236 : Go p e below s₁ (entryFrame m #[(.int i)] 2) s₁ (mkF m 61 #[.val (.int ((ix1.toUInt32 >>> ((4 : Int32) &&& 31).toUInt32).toInt32)), .val (.int (nx1 + (-4 : Int32)))] []) := fun t kt => S234 t (by
          refine XS.icmpNo X0.here hx rfl (hb hby d11_51) rfl (flt (show ¬ (ix1 < (16 : Int32)) from hk)).1 ?_
          show Steps p.tables e below (s₁.setTop (mkF m 54 #[.val (.int ix1), .val (.int nx1)] [])) _
          refine XS.iinc X0.here hx rfl (hb hby d11_54) rfl (l' := #[.val (.int ix1), .val (.int (nx1 + (-4 : Int32)))]) rfl ?_
          show Steps p.tables e below (s₁.setTop (mkF m 57 #[.val (.int ix1), .val (.int (nx1 + (-4 : Int32)))] [])) _
          refine XS.iloadN X0.here hx rfl (hb hby d11_57) rfl ?_
          show Steps p.tables e below (s₁.setTop (mkF m 58 #[.val (.int ix1), .val (.int (nx1 + (-4 : Int32)))] [(.int ix1)])) _
          refine XS.iconst X0.here hx rfl (hb hby d11_58) ?_
          show Steps p.tables e below (s₁.setTop (mkF m 59 #[.val (.int ix1), .val (.int (nx1 + (-4 : Int32)))] [(.int (4 : Int32)), (.int ix1)])) _
          refine XS.iushr X0.here hx rfl (hb hby d11_59) rfl ?_
          show Steps p.tables e below (s₁.setTop (mkF m 60 #[.val (.int ix1), .val (.int (nx1 + (-4 : Int32)))] [(.int ((ix1.toUInt32 >>> ((4 : Int32) &&& 31).toUInt32).toInt32))])) _
          refine XS.istoreN X0.here hx rfl (hb hby d11_60) rfl (l' := #[.val (.int ((ix1.toUInt32 >>> ((4 : Int32) &&& 31).toUInt32).toInt32)), .val (.int (nx1 + (-4 : Int32)))]) rfl ?_
          show Steps p.tables e below (s₁.setTop (mkF m 61 #[.val (.int ((ix1.toUInt32 >>> ((4 : Int32) &&& 31).toUInt32).toInt32)), .val (.int (nx1 + (-4 : Int32)))] [])) _
          exact kt)
        clear S234
        exact ⟨((ix1.toUInt32 >>> ((4 : Int32) &&& 31).toUInt32).toInt32), (nx1 + (-4 : Int32)), own_Pb4 hP2 hk, S236⟩
    clear S234
    have S238 : Go p e below s₁ (entryFrame m #[(.int i)] 2) s₁ (mkF m 63 #[.val (.int ix2), .val (.int nx2)] [(.int (4 : Int32)), (.int ix2)]) := fun t kt => S237 t (by
      refine XS.iloadN X0.here hx rfl (hb hby d11_61) rfl ?_
      show Steps p.tables e below (s₁.setTop (mkF m 62 #[.val (.int ix2), .val (.int nx2)] [(.int ix2)])) _
      refine XS.iconst X0.here hx rfl (hb hby d11_62) ?_
      show Steps p.tables e below (s₁.setTop (mkF m 63 #[.val (.int ix2), .val (.int nx2)] [(.int (4 : Int32)), (.int ix2)])) _
      exact kt)
    clear S237
    obtain ⟨ix3, nx3, hP4, S241⟩ : ∃ (ix3 : Int32) (nx3 : Int32), (own_P i nx3 ix3 2) ∧ Go p e below s₁ (entryFrame m #[(.int i)] 2) s₁ (mkF m 73 #[.val (.int ix3), .val (.int nx3)] []) := by
      by_cases hk : ix2 < (4 : Int32)
      · have S239 : Go p e below s₁ (entryFrame m #[(.int i)] 2) s₁ (mkF m 73 #[.val (.int ix2), .val (.int nx2)] []) := fun t kt => S238 t (by
          refine XS.icmpYes X0.here hx rfl (pc0 := 63) (pc' := 73) rfl (hb hby d11_63) rfl (tlt (show ix2 < (4 : Int32) from hk)).1 (by decide) (by decide) ?_
          show Steps p.tables e below (s₁.setTop (mkF m 73 #[.val (.int ix2), .val (.int nx2)] [])) _
          exact kt)
        clear S238
        exact ⟨ix2, nx2, own_Pa hP3 hk, S239⟩
      · have S240 : Go p e below s₁ (entryFrame m #[(.int i)] 2) s₁ (mkF m 73 #[.val (.int ((ix2.toUInt32 >>> ((2 : Int32) &&& 31).toUInt32).toInt32)), .val (.int (nx2 + (-2 : Int32)))] []) := fun t kt => S238 t (by
          refine XS.icmpNo X0.here hx rfl (hb hby d11_63) rfl (flt (show ¬ (ix2 < (4 : Int32)) from hk)).1 ?_
          show Steps p.tables e below (s₁.setTop (mkF m 66 #[.val (.int ix2), .val (.int nx2)] [])) _
          refine XS.iinc X0.here hx rfl (hb hby d11_66) rfl (l' := #[.val (.int ix2), .val (.int (nx2 + (-2 : Int32)))]) rfl ?_
          show Steps p.tables e below (s₁.setTop (mkF m 69 #[.val (.int ix2), .val (.int (nx2 + (-2 : Int32)))] [])) _
          refine XS.iloadN X0.here hx rfl (hb hby d11_69) rfl ?_
          show Steps p.tables e below (s₁.setTop (mkF m 70 #[.val (.int ix2), .val (.int (nx2 + (-2 : Int32)))] [(.int ix2)])) _
          refine XS.iconst X0.here hx rfl (hb hby d11_70) ?_
          show Steps p.tables e below (s₁.setTop (mkF m 71 #[.val (.int ix2), .val (.int (nx2 + (-2 : Int32)))] [(.int (2 : Int32)), (.int ix2)])) _
          refine XS.iushr X0.here hx rfl (hb hby d11_71) rfl ?_
          show Steps p.tables e below (s₁.setTop (mkF m 72 #[.val (.int ix2), .val (.int (nx2 + (-2 : Int32)))] [(.int ((ix2.toUInt32 >>> ((2 : Int32) &&& 31).toUInt32).toInt32))])) _
          refine XS.istoreN X0.here hx rfl (hb hby d11_72) rfl (l' := #[.val (.int ((ix2.toUInt32 >>> ((2 : Int32) &&& 31).toUInt32).toInt32)), .val (.int (nx2 + (-2 : Int32)))]) rfl ?_
          show Steps p.tables e below (s₁.setTop (mkF m 73 #[.val (.int ((ix2.toUInt32 >>> ((2 : Int32) &&& 31).toUInt32).toInt32)), .val (.int (nx2 + (-2 : Int32)))] [])) _
          exact kt)
        clear S238
        exact ⟨((ix2.toUInt32 >>> ((2 : Int32) &&& 31).toUInt32).toInt32), (nx2 + (-2 : Int32)), own_Pb2 hP3 hk, S240⟩
    clear S238
    have S242 : Go p e below s₁ (entryFrame m #[(.int i)] 2) s₁ (mkF m 78 #[.val (.int ix3), .val (.int nx3)] [(.int (nx3 - ((ix3.toUInt32 >>> ((1 : Int32) &&& 31).toUInt32).toInt32)))]) := fun t kt => S241 t (by
      refine XS.iloadN X0.here hx rfl (hb hby d11_73) rfl ?_
      show Steps p.tables e below (s₁.setTop (mkF m 74 #[.val (.int ix3), .val (.int nx3)] [(.int nx3)])) _
      refine XS.iloadN X0.here hx rfl (hb hby d11_74) rfl ?_
      show Steps p.tables e below (s₁.setTop (mkF m 75 #[.val (.int ix3), .val (.int nx3)] [(.int ix3), (.int nx3)])) _
      refine XS.iconst X0.here hx rfl (hb hby d11_75) ?_
      show Steps p.tables e below (s₁.setTop (mkF m 76 #[.val (.int ix3), .val (.int nx3)] [(.int (1 : Int32)), (.int ix3), (.int nx3)])) _
      refine XS.iushr X0.here hx rfl (hb hby d11_76) rfl ?_
      show Steps p.tables e below (s₁.setTop (mkF m 77 #[.val (.int ix3), .val (.int nx3)] [(.int ((ix3.toUInt32 >>> ((1 : Int32) &&& 31).toUInt32).toInt32)), (.int nx3)])) _
      refine XS.isub X0.here hx rfl (hb hby d11_77) rfl ?_
      show Steps p.tables e below (s₁.setTop (mkF m 78 #[.val (.int ix3), .val (.int nx3)] [(.int (nx3 - ((ix3.toUInt32 >>> ((1 : Int32) &&& 31).toUInt32).toInt32)))])) _
      exact kt)
    clear S241
    obtain ⟨fs, hr, hrun, hended, hW, hsame⟩ := X0.leave (v := some (.int (nx3 - ((ix3.toUInt32 >>> ((1 : Int32) &&& 31).toUInt32).toInt32)))) (fun h => by first | rfl | (rw [Bd.returns] at h; cases h))
    refine ⟨_, _, S242 _ ?_, hrun, hended, _, _, rfl, ?_, ⟨_, rfl⟩, hW, hsame.mono (by decide) (by decide)⟩
    · exact retI X0 hx Bd.returns (hb hby d11_78) hr
    · show Q_nlzI Z i h0 n0 _ s₁.heap _
      rw [e0]
      exact ⟨_, rfl, fun q => absurd hp (own_asym q), fun _ => own_Pend hP4, N0, rfl⟩
  · have S223 : Go p e below s₁ (entryFrame m #[(.int i)] 2) s₁ (mkF m 5 #[.val (.int i), .unset] [(.int i)]) := fun t kt => S222 t (by
      refine XS.ifNo X0.here hx rfl (hb hby d11_1) rfl ((if0 _ _).trans (flt (show ¬ ((0 : Int32) < i) from hp)).2.2.1) ?_
      show Steps p.tables e below (s₁.setTop (mkF m 4 #[.val (.int i), .unset] [])) _
      refine XS.iloadN X0.here hx rfl (hb hby d11_4) rfl ?_
      show Steps p.tables e below (s₁.setTop (mkF m 5 #[.val (.int i), .unset] [(.int i)])) _
      exact kt)
    clear S222
    have S224 : Go p e below s₁ (entryFrame m #[(.int i)] 2) s₁ (mkF m 14 #[.val (.int i), .unset] [(.int (0 : Int32))]) := fun t kt => S223 t (by
      refine XS.ifYes X0.here hx rfl (pc0 := 5) (pc' := 13) rfl (hb hby d11_5) rfl ((if0 _ _).trans (feq (show ¬ (i = (0 : Int32)) from hi)).2) (by decide) (by decide) ?_
      show Steps p.tables e below (s₁.setTop (mkF m 13 #[.val (.int i), .unset] [])) _
      refine XS.iconst X0.here hx rfl (hb hby d11_13) ?_
      show Steps p.tables e below (s₁.setTop (mkF m 14 #[.val (.int i), .unset] [(.int (0 : Int32))])) _
      exact kt)
    clear S223
    obtain ⟨fs, hr, hrun, hended, hW, hsame⟩ := X0.leave (v := some (.int (0 : Int32))) (fun h => by first | rfl | (rw [Bd.returns] at h; cases h))
    refine ⟨_, _, S224 _ ?_, hrun, hended, _, _, rfl, ?_, ⟨_, rfl⟩, hW, hsame.mono (by decide) (by decide)⟩
    · exact retI X0 hx Bd.returns (hb hby d11_14) hr
    · show Q_nlzI Z i h0 n0 _ s₁.heap _
      rw [e0]
      exact ⟨_, rfl, fun _ => rfl, fun q => absurd q hp, N0, rfl⟩
theorem ef_nlzJ (m : MethodId) (x0 : Int64) : entryFrame m #[(.long x0)] 3 = mkF m 0 #[.val (.long x0), .second, .unset] [] := by first | (simp [entryFrame, mkF, argsToLocals, Value.category]; done) | rfl
theorem pn_nlzJ : plainName "java/lang/Long" = true := by first | (simp [plainName, overriddenIn]; done) | decide +kernel
def Q_nlzJ (Z : State) (x : Int64) (j : Nat) (h0 : Heap) (n0 : Nat) (v : Option Value) (h : Heap) (L : List Loc) : Prop := ∃ r : Int32, v = some (.int r) ∧ r.toInt = 63 - (j : Int) ∧ Fr n0 L ∧ h = h0
set_option maxRecDepth 65536 in
set_option maxHeartbeats 40000000 in
theorem rm_nlzJ (l : Launch) (Z : State) (a0 : Array Value) (hw : ∀ d ∈ tables_1, d.before a0 Z = true) (ws : List Jvm.Cond) (x : Int64) (j : Nat) (h0 : Heap) (n0 : Nat) (Z0 : n0 ≤ h0.size) (hj : j ≤ 31) (hx1 : ((2 ^ j : Nat) : Int) ≤ x.toInt) (hx2 : x.toInt < ((2 ^ (j + 1) : Nat) : Int)) :
    MetFree l (⟨"java/lang/Long", "numberOfLeadingZeros", "(J)I"⟩ : MethodName) (head1 (Jvm.Cond.code (⟨"java/lang/Long", "numberOfLeadingZeros", "(J)I"⟩ : MethodName) jdk_35_method_48_code 3 (some .int) :: ws) ({ frames := 1, cells := 0, slots := 0, locals := 14 } : Room)) (fun aa U => aa = #[(.long x)] ∧ Z.Warmed39 U.vm ∧ U.heap = h0) (fun _ _ _ _ _ => True) (fun _ U o U' => ∃ v L, o = .returned v ∧ Q_nlzJ Z x j h0 n0 v U'.heap L ∧ FrameEnd U o U' L ({ frames := 1, cells := 0, slots := 0, locals := 14 } : Room).cells ({ frames := 1, cells := 0, slots := 0, locals := 14 } : Room).slots) := by
  refine MetFree.of_bodySF (plainFor_of_name pn_nlzJ) hisR ?_
  intro p e s m args below meth c s₁ Bd hml0 hP hK
  obtain ⟨rfl, hZ, hh⟩ := hP
  have hx := Bd.exec
  have hby := Bd.bytes
  have hml : c.maxLocals = 3 := hml0
  have hown : s.vm.findClass "java/lang/Long" = some m.cls := findClass_of_methodNamed Bd.named
  have hnm := (name_of_methodNamed Bd.named Bd.method).1
  have X0 : Stand p l e ({ frames := 1, cells := 0, slots := 0, locals := 14 } : Room) s m #[(.long x)] below meth c s₁ [] 0 0 := Stand.of_body Bd
  have e0 : s₁.heap = h0 := by rw [← hh, Bd.state]; rfl
  have N0 := Fr.nil n0
  have S0 : Go p e below s₁ (entryFrame m #[(.long x)] 3) s₁ (mkF m 0 #[.val (.long x), .second, .unset] []) := fun t k => castTop (ef_nlzJ m x) k
  have hxb := own_xb hj hx1 hx2
  have S243 : Go p e below s₁ (entryFrame m #[(.long x)] 3) s₁ (mkF m 5 #[.val (.long x), .second, .unset] [(.int (((x.toUInt64 >>> ((32 : Int32) &&& 0x3f).toInt64.toUInt64).toInt64).toInt32))]) := fun t kt => S0 t (by
    refine XS.lloadN X0.here hx rfl (hb hby d10_0) rfl ?_
    show Steps p.tables e below (s₁.setTop (mkF m 1 #[.val (.long x), .second, .unset] [(.long x)])) _
    refine XS.bipush X0.here hx rfl (hb hby d10_1) ?_
    show Steps p.tables e below (s₁.setTop (mkF m 3 #[.val (.long x), .second, .unset] [(.int (32 : Int32)), (.long x)])) _
    refine XS.lushr X0.here hx rfl (hb hby d10_3) rfl ?_
    show Steps p.tables e below (s₁.setTop (mkF m 4 #[.val (.long x), .second, .unset] [(.long ((x.toUInt64 >>> ((32 : Int32) &&& 0x3f).toInt64.toUInt64).toInt64))])) _
    refine XS.l2i X0.here hx rfl (hb hby d10_4) rfl ?_
    show Steps p.tables e below (s₁.setTop (mkF m 5 #[.val (.long x), .second, .unset] [(.int (((x.toUInt64 >>> ((32 : Int32) &&& 0x3f).toInt64.toUInt64).toInt64).toInt32))])) _
    exact kt)
  clear S0
  have q245 : ((x.toUInt64 >>> ((32 : Int32) &&& 0x3f).toInt64.toUInt64).toInt64) = (0 : Int64) := own_sh0 ⟨by omega, hxb.2⟩
  have S244 : Go p e below s₁ (entryFrame m #[(.long x)] 3) s₁ (mkF m 5 #[.val (.long x), .second, .unset] [(.int ((0 : Int64).toInt32))]) := by have h := S243; rw [q245] at h; exact h
  clear S243
  have S246 : Go p e below s₁ (entryFrame m #[(.long x)] 3) s₁ (mkF m 7 #[.val (.long x), .second, .val (.int ((0 : Int64).toInt32))] [(.int ((0 : Int64).toInt32))]) := fun t kt => S244 t (by
    refine XS.istoreN X0.here hx rfl (hb hby d10_5) rfl (l' := #[.val (.long x), .second, .val (.int ((0 : Int64).toInt32))]) rfl ?_
    show Steps p.tables e below (s₁.setTop (mkF m 6 #[.val (.long x), .second, .val (.int ((0 : Int64).toInt32))] [])) _
    refine XS.iloadN X0.here hx rfl (hb hby d10_6) rfl ?_
    show Steps p.tables e below (s₁.setTop (mkF m 7 #[.val (.long x), .second, .val (.int ((0 : Int64).toInt32))] [(.int ((0 : Int64).toInt32))])) _
    exact kt)
  clear S244
  have S247 : Go p e below s₁ (entryFrame m #[(.long x)] 3) s₁ (mkF m 14 #[.val (.long x), .second, .val (.int ((0 : Int64).toInt32))] [(.int (x.toInt32)), (.int (32 : Int32))]) := fun t kt => S246 t (by
    refine XS.ifNo X0.here hx rfl (hb hby d10_7) rfl ((if0 _ _).trans (teq (show ((0 : Int64).toInt32) = (0 : Int32) from (by decide))).2) ?_
    show Steps p.tables e below (s₁.setTop (mkF m 10 #[.val (.long x), .second, .val (.int ((0 : Int64).toInt32))] [])) _
    refine XS.bipush X0.here hx rfl (hb hby d10_10) ?_
    show Steps p.tables e below (s₁.setTop (mkF m 12 #[.val (.long x), .second, .val (.int ((0 : Int64).toInt32))] [(.int (32 : Int32))])) _
    refine XS.lloadN X0.here hx rfl (hb hby d10_12) rfl ?_
    show Steps p.tables e below (s₁.setTop (mkF m 13 #[.val (.long x), .second, .val (.int ((0 : Int64).toInt32))] [(.long x), (.int (32 : Int32))])) _
    refine XS.l2i X0.here hx rfl (hb hby d10_13) rfl ?_
    show Steps p.tables e below (s₁.setTop (mkF m 14 #[.val (.long x), .second, .val (.int ((0 : Int64).toInt32))] [(.int (x.toInt32)), (.int (32 : Int32))])) _
    exact kt)
  clear S246
  obtain ⟨v248, T248, L248, X248, hQ248, st248⟩ := own_outS (Jvm.LawKit.callS X0 hx (y := (⟨"java/lang/Integer", "numberOfLeadingZeros", "(I)I"⟩ : MethodName)) hown (mvT hZ (hw _ (List.mem_of_getElem? (i := 62) rfl))) (mvT hZ (hw _ (List.mem_of_getElem? (i := 63) rfl))) (mvT hZ (hw _ (List.mem_of_getElem? (i := 64) rfl))) (mvT hZ (hw _ (List.mem_of_getElem? (i := 65) rfl))) (by decide) (backOf (W := 1) (rm_nlzI l Z a0 hw [] (x.toInt32) h0 n0 Z0 (own_xne hj hx1 hx2)) hZ (hw _ (List.mem_of_getElem? (i := 65) rfl)) (hw _ (List.mem_of_getElem? (i := 64) rfl)) (by decide) (by decide)) (g := (mkF m 14 #[.val (.long x), .second, .val (.int ((0 : Int64).toInt32))] [(.int (x.toInt32)), (.int (32 : Int32))])) rfl (by rw [hml]; rfl) (argsL := [(.int (x.toInt32))]) (rest := [(.int (32 : Int32))]) (lenOf pd__I_I rfl) rfl (by show 2 * 0 + _ ≤ _; exact Nat.le_of_eq rfl) (hb hby d10_14) (fun _ _ => ⟨rfl, e0, (by decide : 0 + 0 ≤ _), (by decide : 0 + 0 ≤ _)⟩))
  obtain ⟨r0, rfl, hr1, hr2, N248q, e248⟩ := hQ248
  have N248 := Fr.app N0 N248q
  have S249 : Go p e below s₁ (entryFrame m #[(.long x)] 3) T248 (mkF m 17 #[.val (.long x), .second, .val (.int ((0 : Int64).toInt32))] [(.int r0), (.int (32 : Int32))]) := fun t kt => S247 t (st248 t kt)
  clear S247 st248 X0 e0
  have S250 : Go p e below s₁ (entryFrame m #[(.long x)] 3) T248 (mkF m 25 #[.val (.long x), .second, .val (.int ((0 : Int64).toInt32))] [(.int ((32 : Int32) + r0))]) := fun t kt => S249 t (by
    refine XS.iadd X248.here hx rfl (hb hby d10_17) rfl ?_
    show Steps p.tables e below (T248.setTop (mkF m 18 #[.val (.long x), .second, .val (.int ((0 : Int64).toInt32))] [(.int ((32 : Int32) + r0))])) _
    refine XS.goto X248.here hx rfl (pc0 := 18) (pc' := 25) rfl (hb hby d10_18) (by decide) (by decide) ?_
    show Steps p.tables e below (T248.setTop (mkF m 25 #[.val (.long x), .second, .val (.int ((0 : Int64).toInt32))] [(.int ((32 : Int32) + r0))])) _
    exact kt)
  clear S249
  obtain ⟨fs, hr, hrun, hended, hW, hsame⟩ := X248.leave (v := some (.int ((32 : Int32) + r0))) (fun h => by first | rfl | (rw [Bd.returns] at h; cases h))
  refine ⟨_, _, S250 _ ?_, hrun, hended, _, _, rfl, ?_, ⟨_, rfl⟩, hW, hsame.mono (by decide) (by decide)⟩
  · exact retI X248 hx Bd.returns (hb hby d10_25) hr
  · show Q_nlzJ Z x j h0 n0 _ T248.heap _
    rw [e248]
    exact ⟨_, rfl, own_jl hj hx1 hx2 hr1 hr2, N248, rfl⟩
theorem ef_bf (m : MethodId) (x0 : Addr) (x1 : Int32) : entryFrame m #[(.ref x0), (.int x1)] 6 = mkF m 0 #[.val (.ref x0), .val (.int x1), .unset, .unset, .unset, .unset] [] := by first | (simp [entryFrame, mkF, argsToLocals, Value.category]; done) | rfl
theorem pn_bf : plainName "com/example/umbel/umbel/rank/ExactSum" = true := by first | (simp [plainName, overriddenIn]; done) | decide +kernel
def Q_bf (Z : State) (r : Int64) (h0 : Heap) (n0 : Nat) (v : Option Value) (h : Heap) (L : List Loc) : Prop := v = some (.long r) ∧ Fr n0 L ∧ h = h0
set_option maxRecDepth 65536 in
set_option maxHeartbeats 40000000 in
theorem rm_bf (l : Launch) (Z : State) (a0 : Array Value) (hw : ∀ d ∈ tables_1, d.before a0 Z = true) (ws : List Jvm.Cond) (a : Addr) (b : Addr) (kb : ClassId) (pos : Int32) (li : Int32) (n : Nat) (x : Int64) (y : Int64) (z : Int64) (sh : Int32) (r : Int64) (h0 : Heap) (n0 : Nat) (Z0 : n0 ≤ h0.size) (E0 : Exa Z h0 a "com/example/umbel/umbel/rank/ExactSum") (F0 : Fld Z h0 a "com/example/umbel/umbel/rank/ExactSum" "limbs" "[J" (.ref b)) (V0 : Arv Z h0 b kb .long (68 : Int32) (own_L n x y z) (.long (0 : Int64))) (hl : li.toInt = (n : Int)) (hn : n ≤ 65) (e4 : pos / (32 : Int32) = li) (e5 : pos % (32 : Int32) = sh) (hr0 : sh = 0 → (x ||| (y <<< ((32 : Int32) &&& 0x3f).toInt64)) = r) (hr1 : ¬ sh = 0 → ((((x ||| (y <<< ((32 : Int32) &&& 0x3f).toInt64)).toUInt64 >>> (sh &&& 0x3f).toInt64.toUInt64).toInt64) ||| (z <<< (((64 : Int32) - sh) &&& 0x3f).toInt64)) = r) :
    MetFree l (⟨"com/example/umbel/umbel/rank/ExactSum", "bitsFrom", "(I)J"⟩ : MethodName) (head1 (Jvm.Cond.code (⟨"com/example/umbel/umbel/rank/ExactSum", "bitsFrom", "(I)J"⟩ : MethodName) prog_6_method_10_code 6 (some .long) :: ws) ({ frames := 1, cells := 0, slots := 0, locals := 18 } : Room)) (fun aa U => aa = #[(.ref a), (.int pos)] ∧ Z.Warmed39 U.vm ∧ U.heap = h0) (fun _ _ _ _ _ => True) (fun _ U o U' => ∃ v L, o = .returned v ∧ Q_bf Z r h0 n0 v U'.heap L ∧ FrameEnd U o U' L ({ frames := 1, cells := 0, slots := 0, locals := 18 } : Room).cells ({ frames := 1, cells := 0, slots := 0, locals := 18 } : Room).slots) := by
  refine MetFree.of_bodySF (plainFor_of_name pn_bf) hisR ?_
  intro p e s m args below meth c s₁ Bd hml0 hP hK
  obtain ⟨rfl, hZ, hh⟩ := hP
  have hx := Bd.exec
  have hby := Bd.bytes
  have hml : c.maxLocals = 6 := hml0
  have hown : s.vm.findClass "com/example/umbel/umbel/rank/ExactSum" = some m.cls := findClass_of_methodNamed Bd.named
  have hnm := (name_of_methodNamed Bd.named Bd.method).1
  have X0 : Stand p l e ({ frames := 1, cells := 0, slots := 0, locals := 18 } : Room) s m #[(.ref a), (.int pos)] below meth c s₁ [] 0 0 := Stand.of_body Bd
  have e0 : s₁.heap = h0 := by rw [← hh, Bd.state]; rfl
  have N0 := Fr.nil n0
  have S0 : Go p e below s₁ (entryFrame m #[(.ref a), (.int pos)] 6) s₁ (mkF m 0 #[.val (.ref a), .val (.int pos), .unset, .unset, .unset, .unset] []) := fun t k => castTop (ef_bf m a pos) k
  have i1 := own_i1 hl hn
  have i2 := own_ix (k := 2) hl hn (by decide)
  have S251 : Go p e below s₁ (entryFrame m #[(.ref a), (.int pos)] 6) s₁ (mkF m 4 #[.val (.ref a), .val (.int pos), .unset, .unset, .unset, .unset] [(.int (pos / (32 : Int32)))]) := fun t kt => S0 t (by
    refine XS.iloadN X0.here hx rfl (hb hby d13_0) rfl ?_
    show Steps p.tables e below (s₁.setTop (mkF m 1 #[.val (.ref a), .val (.int pos), .unset, .unset, .unset, .unset] [(.int pos)])) _
    refine XS.bipush X0.here hx rfl (hb hby d13_1) ?_
    show Steps p.tables e below (s₁.setTop (mkF m 3 #[.val (.ref a), .val (.int pos), .unset, .unset, .unset, .unset] [(.int (32 : Int32)), (.int pos)])) _
    refine XS.idiv X0.here hx rfl (hb hby d13_3) rfl (by decide) ?_
    show Steps p.tables e below (s₁.setTop (mkF m 4 #[.val (.ref a), .val (.int pos), .unset, .unset, .unset, .unset] [(.int (pos / (32 : Int32)))])) _
    exact kt)
  clear S0
  have q253 : (pos / (32 : Int32)) = li := e4
  have S252 : Go p e below s₁ (entryFrame m #[(.ref a), (.int pos)] 6) s₁ (mkF m 4 #[.val (.ref a), .val (.int pos), .unset, .unset, .unset, .unset] [(.int li)]) := by have h := S251; rw [q253] at h; exact h
  clear S251
  have S254 : Go p e below s₁ (entryFrame m #[(.ref a), (.int pos)] 6) s₁ (mkF m 9 #[.val (.ref a), .val (.int pos), .val (.int li), .unset, .unset, .unset] [(.int (pos % (32 : Int32)))]) := fun t kt => S252 t (by
    refine XS.istoreN X0.here hx rfl (hb hby d13_4) rfl (l' := #[.val (.ref a), .val (.int pos), .val (.int li), .unset, .unset, .unset]) rfl ?_
    show Steps p.tables e below (s₁.setTop (mkF m 5 #[.val (.ref a), .val (.int pos), .val (.int li), .unset, .unset, .unset] [])) _
    refine XS.iloadN X0.here hx rfl (hb hby d13_5) rfl ?_
    show Steps p.tables e below (s₁.setTop (mkF m 6 #[.val (.ref a), .val (.int pos), .val (.int li), .unset, .unset, .unset] [(.int pos)])) _
    refine XS.bipush X0.here hx rfl (hb hby d13_6) ?_
    show Steps p.tables e below (s₁.setTop (mkF m 8 #[.val (.ref a), .val (.int pos), .val (.int li), .unset, .unset, .unset] [(.int (32 : Int32)), (.int pos)])) _
    refine iremM X0 hx rfl (hb hby d13_8) rfl (by decide) ?_
    show Steps p.tables e below (s₁.setTop (mkF m 9 #[.val (.ref a), .val (.int pos), .val (.int li), .unset, .unset, .unset] [(.int (pos % (32 : Int32)))])) _
    exact kt)
  clear S252
  have q256 : (pos % (32 : Int32)) = sh := e5
  have S255 : Go p e below s₁ (entryFrame m #[(.ref a), (.int pos)] 6) s₁ (mkF m 9 #[.val (.ref a), .val (.int pos), .val (.int li), .unset, .unset, .unset] [(.int sh)]) := by have h := S254; rw [q256] at h; exact h
  clear S254
  have S257 : Go p e below s₁ (entryFrame m #[(.ref a), (.int pos)] 6) s₁ (mkF m 12 #[.val (.ref a), .val (.int pos), .val (.int li), .val (.int sh), .unset, .unset] [(.int li), (.ref a)]) := fun t kt => S255 t (by
    refine XS.istoreN X0.here hx rfl (hb hby d13_9) rfl (l' := #[.val (.ref a), .val (.int pos), .val (.int li), .val (.int sh), .unset, .unset]) rfl ?_
    show Steps p.tables e below (s₁.setTop (mkF m 10 #[.val (.ref a), .val (.int pos), .val (.int li), .val (.int sh), .unset, .unset] [])) _
    refine XS.aloadN X0.here hx rfl (hb hby d13_10) rfl rfl ?_
    show Steps p.tables e below (s₁.setTop (mkF m 11 #[.val (.ref a), .val (.int pos), .val (.int li), .val (.int sh), .unset, .unset] [(.ref a)])) _
    refine XS.iloadN X0.here hx rfl (hb hby d13_11) rfl ?_
    show Steps p.tables e below (s₁.setTop (mkF m 12 #[.val (.ref a), .val (.int pos), .val (.int li), .val (.int sh), .unset, .unset] [(.int li), (.ref a)])) _
    exact kt)
  clear S255
  obtain ⟨cq258, q258, q258'⟩ := E0.cell
  obtain ⟨v258, T258, L258, X258, hQ258, st258⟩ := own_outV (X0.privateBack hx (y := (⟨"com/example/umbel/umbel/rank/ExactSum", "limb", "(I)J"⟩ : MethodName)) hown (mvT hZ (hw _ (List.mem_of_getElem? (i := 75) rfl))) (mvT hZ (hw _ (List.mem_of_getElem? (i := 76) rfl))) (own_selp hZ (hw _ (List.mem_of_getElem? (i := 2) rfl)) (hw _ (List.mem_of_getElem? (i := 77) rfl)) (hw _ (List.mem_of_getElem? (i := 76) rfl)) (by decide)) (Cond.privateMethod_at (mvP hZ (hw _ (List.mem_of_getElem? (i := 77) rfl)) (args := #[]))) (mvT hZ (hw _ (List.mem_of_getElem? (i := 78) rfl))) (by decide) (backOf (W := 0) (rm_limb l Z a0 hw [] a b kb li n x y z n h0 n0 Z0 F0 V0 hn hl (by omega)) hZ (hw _ (List.mem_of_getElem? (i := 78) rfl)) (hw _ (List.mem_of_getElem? (i := 3) rfl)) (by decide) (by decide)) (g := (mkF m 12 #[.val (.ref a), .val (.int pos), .val (.int li), .val (.int sh), .unset, .unset] [(.int li), (.ref a)])) rfl (by rw [hml]; rfl) (Steps.refl _) (a := a) (by rw [e0]; exact q258) q258' (argsL := [(.int li)]) (rest := []) (lenOf pd__I_J rfl) rfl (by show 2 * 0 + _ ≤ _; exact Nat.le_of_eq rfl) (hb hby d13_12) (fun _ _ => ⟨rfl, e0, (by decide : 0 + 0 ≤ _), (by decide : 0 + 0 ≤ _)⟩))
  obtain ⟨rfl, N258q, e258⟩ := hQ258
  have N258 := Fr.app N0 N258q
  have S259 : Go p e below s₁ (entryFrame m #[(.ref a), (.int pos)] 6) T258 (mkF m 15 #[.val (.ref a), .val (.int pos), .val (.int li), .val (.int sh), .unset, .unset] [(.long (if n = n then x else if n = n + 1 then y else if n = n + 2 then z else 0))]) := fun t kt => S257 t (st258 t kt)
  clear S257 st258 X0 e0
  have q261 : (if n = n then x else if n = n + 1 then y else if n = n + 2 then z else 0) = x := own_if0 ..
  have S260 : Go p e below s₁ (entryFrame m #[(.ref a), (.int pos)] 6) T258 (mkF m 15 #[.val (.ref a), .val (.int pos), .val (.int li), .val (.int sh), .unset, .unset] [(.long x)]) := by have h := S259; rw [q261] at h; exact h
  clear S259
  have S262 : Go p e below s₁ (entryFrame m #[(.ref a), (.int pos)] 6) T258 (mkF m 19 #[.val (.ref a), .val (.int pos), .val (.int li), .val (.int sh), .unset, .unset] [(.int (li + (1 : Int32))), (.ref a), (.long x)]) := fun t kt => S260 t (by
    refine XS.aloadN X258.here hx rfl (hb hby d13_15) rfl rfl ?_
    show Steps p.tables e below (T258.setTop (mkF m 16 #[.val (.ref a), .val (.int pos), .val (.int li), .val (.int sh), .unset, .unset] [(.ref a), (.long x)])) _
    refine XS.iloadN X258.here hx rfl (hb hby d13_16) rfl ?_
    show Steps p.tables e below (T258.setTop (mkF m 17 #[.val (.ref a), .val (.int pos), .val (.int li), .val (.int sh), .unset, .unset] [(.int li), (.ref a), (.long x)])) _
    refine XS.iconst X258.here hx rfl (hb hby d13_17) ?_
    show Steps p.tables e below (T258.setTop (mkF m 18 #[.val (.ref a), .val (.int pos), .val (.int li), .val (.int sh), .unset, .unset] [(.int (1 : Int32)), (.int li), (.ref a), (.long x)])) _
    refine XS.iadd X258.here hx rfl (hb hby d13_18) rfl ?_
    show Steps p.tables e below (T258.setTop (mkF m 19 #[.val (.ref a), .val (.int pos), .val (.int li), .val (.int sh), .unset, .unset] [(.int (li + (1 : Int32))), (.ref a), (.long x)])) _
    exact kt)
  clear S260
  obtain ⟨cq263, q263, q263'⟩ := E0.cell
  obtain ⟨v263, T263, L263, X263, hQ263, st263⟩ := own_outV (X258.privateBack hx (y := (⟨"com/example/umbel/umbel/rank/ExactSum", "limb", "(I)J"⟩ : MethodName)) hown (mvT hZ (hw _ (List.mem_of_getElem? (i := 75) rfl))) (mvT hZ (hw _ (List.mem_of_getElem? (i := 76) rfl))) (own_selp hZ (hw _ (List.mem_of_getElem? (i := 2) rfl)) (hw _ (List.mem_of_getElem? (i := 77) rfl)) (hw _ (List.mem_of_getElem? (i := 76) rfl)) (by decide)) (Cond.privateMethod_at (mvP hZ (hw _ (List.mem_of_getElem? (i := 77) rfl)) (args := #[]))) (mvT hZ (hw _ (List.mem_of_getElem? (i := 78) rfl))) (by decide) (backOf (W := 2) (rm_limb l Z a0 hw [] a b kb (li + (1 : Int32)) n x y z (n + 1) h0 n0 Z0 F0 V0 hn i1 (by omega)) hZ (hw _ (List.mem_of_getElem? (i := 78) rfl)) (hw _ (List.mem_of_getElem? (i := 3) rfl)) (by decide) (by decide)) (g := (mkF m 19 #[.val (.ref a), .val (.int pos), .val (.int li), .val (.int sh), .unset, .unset] [(.int (li + (1 : Int32))), (.ref a), (.long x)])) rfl (by rw [hml]; rfl) (Steps.refl _) (a := a) (by rw [e258]; exact q263) q263' (argsL := [(.int (li + (1 : Int32)))]) (rest := [(.long x)]) (lenOf pd__I_J rfl) rfl (by show 2 * 0 + _ ≤ _; exact Nat.le_of_eq rfl) (hb hby d13_19) (fun _ _ => ⟨rfl, e258, (by decide : 0 + 0 ≤ _), (by decide : 0 + 0 ≤ _)⟩))
  obtain ⟨rfl, N263q, e263⟩ := hQ263
  have N263 := Fr.app N258 N263q
  have S264 : Go p e below s₁ (entryFrame m #[(.ref a), (.int pos)] 6) T263 (mkF m 22 #[.val (.ref a), .val (.int pos), .val (.int li), .val (.int sh), .unset, .unset] [(.long (if (n + 1) = n then x else if (n + 1) = n + 1 then y else if (n + 1) = n + 2 then z else 0)), (.long x)]) := fun t kt => S262 t (st263 t kt)
  clear S262 st263 X258 e258
  have q266 : (if (n + 1) = n then x else if (n + 1) = n + 1 then y else if (n + 1) = n + 2 then z else 0) = y := own_if1 ..
  have S265 : Go p e below s₁ (entryFrame m #[(.ref a), (.int pos)] 6) T263 (mkF m 22 #[.val (.ref a), .val (.int pos), .val (.int li), .val (.int sh), .unset, .unset] [(.long y), (.long x)]) := by have h := S264; rw [q266] at h; exact h
  clear S264
  have S267 : Go p e below s₁ (entryFrame m #[(.ref a), (.int pos)] 6) T263 (mkF m 29 #[.val (.ref a), .val (.int pos), .val (.int li), .val (.int sh), .val (.long (x ||| (y <<< ((32 : Int32) &&& 0x3f).toInt64))), .second] [(.int sh)]) := fun t kt => S265 t (by
    refine XS.bipush X263.here hx rfl (hb hby d13_22) ?_
    show Steps p.tables e below (T263.setTop (mkF m 24 #[.val (.ref a), .val (.int pos), .val (.int li), .val (.int sh), .unset, .unset] [(.int (32 : Int32)), (.long y), (.long x)])) _
    refine XS.lshl X263.here hx rfl (hb hby d13_24) rfl ?_
    show Steps p.tables e below (T263.setTop (mkF m 25 #[.val (.ref a), .val (.int pos), .val (.int li), .val (.int sh), .unset, .unset] [(.long (y <<< ((32 : Int32) &&& 0x3f).toInt64)), (.long x)])) _
    refine XS.lor X263.here hx rfl (hb hby d13_25) rfl ?_
    show Steps p.tables e below (T263.setTop (mkF m 26 #[.val (.ref a), .val (.int pos), .val (.int li), .val (.int sh), .unset, .unset] [(.long (x ||| (y <<< ((32 : Int32) &&& 0x3f).toInt64)))])) _
    refine XS.lstore X263.here hx rfl (hb hby d13_26) rfl (l' := #[.val (.ref a), .val (.int pos), .val (.int li), .val (.int sh), .val (.long (x ||| (y <<< ((32 : Int32) &&& 0x3f).toInt64))), .second]) rfl ?_
    show Steps p.tables e below (T263.setTop (mkF m 28 #[.val (.ref a), .val (.int pos), .val (.int li), .val (.int sh), .val (.long (x ||| (y <<< ((32 : Int32) &&& 0x3f).toInt64))), .second] [])) _
    refine XS.iloadN X263.here hx rfl (hb hby d13_28) rfl ?_
    show Steps p.tables e below (T263.setTop (mkF m 29 #[.val (.ref a), .val (.int pos), .val (.int li), .val (.int sh), .val (.long (x ||| (y <<< ((32 : Int32) &&& 0x3f).toInt64))), .second] [(.int sh)])) _
    exact kt)
  clear S265
  by_cases hs : sh = (0 : Int32)
  · have S268 : Go p e below s₁ (entryFrame m #[(.ref a), (.int pos)] 6) T263 (mkF m 34 #[.val (.ref a), .val (.int pos), .val (.int li), .val (.int sh), .val (.long (x ||| (y <<< ((32 : Int32) &&& 0x3f).toInt64))), .second] [(.long (x ||| (y <<< ((32 : Int32) &&& 0x3f).toInt64)))]) := fun t kt => S267 t (by
      refine XS.ifNo X263.here hx rfl (hb hby d13_29) rfl ((if0 _ _).trans (teq (show sh = (0 : Int32) from hs)).2) ?_
      show Steps p.tables e below (T263.setTop (mkF m 32 #[.val (.ref a), .val (.int pos), .val (.int li), .val (.int sh), .val (.long (x ||| (y <<< ((32 : Int32) &&& 0x3f).toInt64))), .second] [])) _
      refine XS.lload X263.here hx rfl (hb hby d13_32) rfl ?_
      show Steps p.tables e below (T263.setTop (mkF m 34 #[.val (.ref a), .val (.int pos), .val (.int li), .val (.int sh), .val (.long (x ||| (y <<< ((32 : Int32) &&& 0x3f).toInt64))), .second] [(.long (x ||| (y <<< ((32 : Int32) &&& 0x3f).toInt64)))])) _
      exact kt)
    clear S267
    obtain ⟨fs, hr, hrun, hended, hW, hsame⟩ := X263.leave (v := some (.long (x ||| (y <<< ((32 : Int32) &&& 0x3f).toInt64)))) (fun h => by first | rfl | (rw [Bd.returns] at h; cases h))
    refine ⟨_, _, S268 _ ?_, hrun, hended, _, _, rfl, ?_, ⟨_, rfl⟩, hW, hsame.mono (by decide) (by decide)⟩
    · exact retOut X263 hx Bd.returns rfl (Or.inr (Or.inl ⟨rfl, rfl, _, rfl⟩)) (hb hby d13_34) hr
    · show Q_bf Z r h0 n0 _ T263.heap _
      rw [e263]
      exact ⟨by rw [hr0 hs], N263, rfl⟩
  · have S269 : Go p e below s₁ (entryFrame m #[(.ref a), (.int pos)] 6) T263 (mkF m 43 #[.val (.ref a), .val (.int pos), .val (.int li), .val (.int sh), .val (.long (x ||| (y <<< ((32 : Int32) &&& 0x3f).toInt64))), .second] [(.int (li + (2 : Int32))), (.ref a), (.long (((x ||| (y <<< ((32 : Int32) &&& 0x3f).toInt64)).toUInt64 >>> (sh &&& 0x3f).toInt64.toUInt64).toInt64))]) := fun t kt => S267 t (by
      refine XS.ifYes X263.here hx rfl (pc0 := 29) (pc' := 35) rfl (hb hby d13_29) rfl ((if0 _ _).trans (feq (show ¬ (sh = (0 : Int32)) from hs)).2) (by decide) (by decide) ?_
      show Steps p.tables e below (T263.setTop (mkF m 35 #[.val (.ref a), .val (.int pos), .val (.int li), .val (.int sh), .val (.long (x ||| (y <<< ((32 : Int32) &&& 0x3f).toInt64))), .second] [])) _
      refine XS.lload X263.here hx rfl (hb hby d13_35) rfl ?_
      show Steps p.tables e below (T263.setTop (mkF m 37 #[.val (.ref a), .val (.int pos), .val (.int li), .val (.int sh), .val (.long (x ||| (y <<< ((32 : Int32) &&& 0x3f).toInt64))), .second] [(.long (x ||| (y <<< ((32 : Int32) &&& 0x3f).toInt64)))])) _
      refine XS.iloadN X263.here hx rfl (hb hby d13_37) rfl ?_
      show Steps p.tables e below (T263.setTop (mkF m 38 #[.val (.ref a), .val (.int pos), .val (.int li), .val (.int sh), .val (.long (x ||| (y <<< ((32 : Int32) &&& 0x3f).toInt64))), .second] [(.int sh), (.long (x ||| (y <<< ((32 : Int32) &&& 0x3f).toInt64)))])) _
      refine XS.lushr X263.here hx rfl (hb hby d13_38) rfl ?_
      show Steps p.tables e below (T263.setTop (mkF m 39 #[.val (.ref a), .val (.int pos), .val (.int li), .val (.int sh), .val (.long (x ||| (y <<< ((32 : Int32) &&& 0x3f).toInt64))), .second] [(.long (((x ||| (y <<< ((32 : Int32) &&& 0x3f).toInt64)).toUInt64 >>> (sh &&& 0x3f).toInt64.toUInt64).toInt64))])) _
      refine XS.aloadN X263.here hx rfl (hb hby d13_39) rfl rfl ?_
      show Steps p.tables e below (T263.setTop (mkF m 40 #[.val (.ref a), .val (.int pos), .val (.int li), .val (.int sh), .val (.long (x ||| (y <<< ((32 : Int32) &&& 0x3f).toInt64))), .second] [(.ref a), (.long (((x ||| (y <<< ((32 : Int32) &&& 0x3f).toInt64)).toUInt64 >>> (sh &&& 0x3f).toInt64.toUInt64).toInt64))])) _
      refine XS.iloadN X263.here hx rfl (hb hby d13_40) rfl ?_
      show Steps p.tables e below (T263.setTop (mkF m 41 #[.val (.ref a), .val (.int pos), .val (.int li), .val (.int sh), .val (.long (x ||| (y <<< ((32 : Int32) &&& 0x3f).toInt64))), .second] [(.int li), (.ref a), (.long (((x ||| (y <<< ((32 : Int32) &&& 0x3f).toInt64)).toUInt64 >>> (sh &&& 0x3f).toInt64.toUInt64).toInt64))])) _
      refine XS.iconst X263.here hx rfl (hb hby d13_41) ?_
      show Steps p.tables e below (T263.setTop (mkF m 42 #[.val (.ref a), .val (.int pos), .val (.int li), .val (.int sh), .val (.long (x ||| (y <<< ((32 : Int32) &&& 0x3f).toInt64))), .second] [(.int (2 : Int32)), (.int li), (.ref a), (.long (((x ||| (y <<< ((32 : Int32) &&& 0x3f).toInt64)).toUInt64 >>> (sh &&& 0x3f).toInt64.toUInt64).toInt64))])) _
      refine XS.iadd X263.here hx rfl (hb hby d13_42) rfl ?_
      show Steps p.tables e below (T263.setTop (mkF m 43 #[.val (.ref a), .val (.int pos), .val (.int li), .val (.int sh), .val (.long (x ||| (y <<< ((32 : Int32) &&& 0x3f).toInt64))), .second] [(.int (li + (2 : Int32))), (.ref a), (.long (((x ||| (y <<< ((32 : Int32) &&& 0x3f).toInt64)).toUInt64 >>> (sh &&& 0x3f).toInt64.toUInt64).toInt64))])) _
      exact kt)
    clear S267
    obtain ⟨cq270, q270, q270'⟩ := E0.cell
    obtain ⟨v270, T270, L270, X270, hQ270, st270⟩ := own_outV (X263.privateBack hx (y := (⟨"com/example/umbel/umbel/rank/ExactSum", "limb", "(I)J"⟩ : MethodName)) hown (mvT hZ (hw _ (List.mem_of_getElem? (i := 75) rfl))) (mvT hZ (hw _ (List.mem_of_getElem? (i := 76) rfl))) (own_selp hZ (hw _ (List.mem_of_getElem? (i := 2) rfl)) (hw _ (List.mem_of_getElem? (i := 77) rfl)) (hw _ (List.mem_of_getElem? (i := 76) rfl)) (by decide)) (Cond.privateMethod_at (mvP hZ (hw _ (List.mem_of_getElem? (i := 77) rfl)) (args := #[]))) (mvT hZ (hw _ (List.mem_of_getElem? (i := 78) rfl))) (by decide) (backOf (W := 2) (rm_limb l Z a0 hw [] a b kb (li + (2 : Int32)) n x y z (n + 2) h0 n0 Z0 F0 V0 hn i2 (by omega)) hZ (hw _ (List.mem_of_getElem? (i := 78) rfl)) (hw _ (List.mem_of_getElem? (i := 3) rfl)) (by decide) (by decide)) (g := (mkF m 43 #[.val (.ref a), .val (.int pos), .val (.int li), .val (.int sh), .val (.long (x ||| (y <<< ((32 : Int32) &&& 0x3f).toInt64))), .second] [(.int (li + (2 : Int32))), (.ref a), (.long (((x ||| (y <<< ((32 : Int32) &&& 0x3f).toInt64)).toUInt64 >>> (sh &&& 0x3f).toInt64.toUInt64).toInt64))])) rfl (by rw [hml]; rfl) (Steps.refl _) (a := a) (by rw [e263]; exact q270) q270' (argsL := [(.int (li + (2 : Int32)))]) (rest := [(.long (((x ||| (y <<< ((32 : Int32) &&& 0x3f).toInt64)).toUInt64 >>> (sh &&& 0x3f).toInt64.toUInt64).toInt64))]) (lenOf pd__I_J rfl) rfl (by show 2 * 0 + _ ≤ _; exact Nat.le_of_eq rfl) (hb hby d13_43) (fun _ _ => ⟨rfl, e263, (by decide : 0 + 0 ≤ _), (by decide : 0 + 0 ≤ _)⟩))
    obtain ⟨rfl, N270q, e270⟩ := hQ270
    have N270 := Fr.app N263 N270q
    have S271 : Go p e below s₁ (entryFrame m #[(.ref a), (.int pos)] 6) T270 (mkF m 46 #[.val (.ref a), .val (.int pos), .val (.int li), .val (.int sh), .val (.long (x ||| (y <<< ((32 : Int32) &&& 0x3f).toInt64))), .second] [(.long (if (n + 2) = n then x else if (n + 2) = n + 1 then y else if (n + 2) = n + 2 then z else 0)), (.long (((x ||| (y <<< ((32 : Int32) &&& 0x3f).toInt64)).toUInt64 >>> (sh &&& 0x3f).toInt64.toUInt64).toInt64))]) := fun t kt => S269 t (st270 t kt)
    clear S269 st270 X263 e263
    have q273 : (if (n + 2) = n then x else if (n + 2) = n + 1 then y else if (n + 2) = n + 2 then z else 0) = z := own_if2 ..
    have S272 : Go p e below s₁ (entryFrame m #[(.ref a), (.int pos)] 6) T270 (mkF m 46 #[.val (.ref a), .val (.int pos), .val (.int li), .val (.int sh), .val (.long (x ||| (y <<< ((32 : Int32) &&& 0x3f).toInt64))), .second] [(.long z), (.long (((x ||| (y <<< ((32 : Int32) &&& 0x3f).toInt64)).toUInt64 >>> (sh &&& 0x3f).toInt64.toUInt64).toInt64))]) := by have h := S271; rw [q273] at h; exact h
    clear S271
    have S274 : Go p e below s₁ (entryFrame m #[(.ref a), (.int pos)] 6) T270 (mkF m 52 #[.val (.ref a), .val (.int pos), .val (.int li), .val (.int sh), .val (.long (x ||| (y <<< ((32 : Int32) &&& 0x3f).toInt64))), .second] [(.long ((((x ||| (y <<< ((32 : Int32) &&& 0x3f).toInt64)).toUInt64 >>> (sh &&& 0x3f).toInt64.toUInt64).toInt64) ||| (z <<< (((64 : Int32) - sh) &&& 0x3f).toInt64)))]) := fun t kt => S272 t (by
      refine XS.bipush X270.here hx rfl (hb hby d13_46) ?_
      show Steps p.tables e below (T270.setTop (mkF m 48 #[.val (.ref a), .val (.int pos), .val (.int li), .val (.int sh), .val (.long (x ||| (y <<< ((32 : Int32) &&& 0x3f).toInt64))), .second] [(.int (64 : Int32)), (.long z), (.long (((x ||| (y <<< ((32 : Int32) &&& 0x3f).toInt64)).toUInt64 >>> (sh &&& 0x3f).toInt64.toUInt64).toInt64))])) _
      refine XS.iloadN X270.here hx rfl (hb hby d13_48) rfl ?_
      show Steps p.tables e below (T270.setTop (mkF m 49 #[.val (.ref a), .val (.int pos), .val (.int li), .val (.int sh), .val (.long (x ||| (y <<< ((32 : Int32) &&& 0x3f).toInt64))), .second] [(.int sh), (.int (64 : Int32)), (.long z), (.long (((x ||| (y <<< ((32 : Int32) &&& 0x3f).toInt64)).toUInt64 >>> (sh &&& 0x3f).toInt64.toUInt64).toInt64))])) _
      refine XS.isub X270.here hx rfl (hb hby d13_49) rfl ?_
      show Steps p.tables e below (T270.setTop (mkF m 50 #[.val (.ref a), .val (.int pos), .val (.int li), .val (.int sh), .val (.long (x ||| (y <<< ((32 : Int32) &&& 0x3f).toInt64))), .second] [(.int ((64 : Int32) - sh)), (.long z), (.long (((x ||| (y <<< ((32 : Int32) &&& 0x3f).toInt64)).toUInt64 >>> (sh &&& 0x3f).toInt64.toUInt64).toInt64))])) _
      refine XS.lshl X270.here hx rfl (hb hby d13_50) rfl ?_
      show Steps p.tables e below (T270.setTop (mkF m 51 #[.val (.ref a), .val (.int pos), .val (.int li), .val (.int sh), .val (.long (x ||| (y <<< ((32 : Int32) &&& 0x3f).toInt64))), .second] [(.long (z <<< (((64 : Int32) - sh) &&& 0x3f).toInt64)), (.long (((x ||| (y <<< ((32 : Int32) &&& 0x3f).toInt64)).toUInt64 >>> (sh &&& 0x3f).toInt64.toUInt64).toInt64))])) _
      refine XS.lor X270.here hx rfl (hb hby d13_51) rfl ?_
      show Steps p.tables e below (T270.setTop (mkF m 52 #[.val (.ref a), .val (.int pos), .val (.int li), .val (.int sh), .val (.long (x ||| (y <<< ((32 : Int32) &&& 0x3f).toInt64))), .second] [(.long ((((x ||| (y <<< ((32 : Int32) &&& 0x3f).toInt64)).toUInt64 >>> (sh &&& 0x3f).toInt64.toUInt64).toInt64) ||| (z <<< (((64 : Int32) - sh) &&& 0x3f).toInt64)))])) _
      exact kt)
    clear S272
    obtain ⟨fs, hr, hrun, hended, hW, hsame⟩ := X270.leave (v := some (.long ((((x ||| (y <<< ((32 : Int32) &&& 0x3f).toInt64)).toUInt64 >>> (sh &&& 0x3f).toInt64.toUInt64).toInt64) ||| (z <<< (((64 : Int32) - sh) &&& 0x3f).toInt64)))) (fun h => by first | rfl | (rw [Bd.returns] at h; cases h))
    refine ⟨_, _, S274 _ ?_, hrun, hended, _, _, rfl, ?_, ⟨_, rfl⟩, hW, hsame.mono (by decide) (by decide)⟩
    · exact retOut X270 hx Bd.returns rfl (Or.inr (Or.inl ⟨rfl, rfl, _, rfl⟩)) (hb hby d13_52) hr
    · show Q_bf Z r h0 n0 _ T270.heap _
      rw [e270]
      exact ⟨by rw [hr1 hs], N270, rfl⟩
theorem ef_bit (m : MethodId) (x0 : Addr) (x1 : Int32) : entryFrame m #[(.ref x0), (.int x1)] 2 = mkF m 0 #[.val (.ref x0), .val (.int x1)] [] := by first | (simp [entryFrame, mkF, argsToLocals, Value.category]; done) | rfl
theorem pn_bit : plainName "com/example/umbel/umbel/rank/ExactSum" = true := by first | (simp [plainName, overriddenIn]; done) | decide +kernel
def Q_bit (Z : State)  (h0 : Heap) (n0 : Nat) (v : Option Value) (h : Heap) (L : List Loc) : Prop := v = some (.int 0) ∧ Fr n0 L ∧ h = h0
set_option maxRecDepth 65536 in
set_option maxHeartbeats 40000000 in
theorem rm_bit (l : Launch) (Z : State) (a0 : Array Value) (hw : ∀ d ∈ tables_1, d.before a0 Z = true) (ws : List Jvm.Cond) (a : Addr) (b : Addr) (kb : ClassId) (q : Int32) (n : Nat) (x : Int64) (y : Int64) (z : Int64) (k : Nat) (h0 : Heap) (n0 : Nat) (Z0 : n0 ≤ h0.size) (E0 : Exa Z h0 a "com/example/umbel/umbel/rank/ExactSum") (F0 : Fld Z h0 a "com/example/umbel/umbel/rank/ExactSum" "limbs" "[J" (.ref b)) (V0 : Arv Z h0 b kb .long (68 : Int32) (own_L n x y z) (.long (0 : Int64))) (hn : n ≤ 65) (hk : k < 68) (hq : (q / (32 : Int32)).toInt = (k : Int)) (hb0 : (((if k = n then x else if k = n + 1 then y else if k = n + 2 then z else 0).toUInt64 >>> ((q % (32 : Int32)) &&& 0x3f).toInt64.toUInt64).toInt64 &&& (1 : Int64)) = 0) :
    MetFree l (⟨"com/example/umbel/umbel/rank/ExactSum", "bit", "(I)Z"⟩ : MethodName) (head1 (Jvm.Cond.code (⟨"com/example/umbel/umbel/rank/ExactSum", "bit", "(I)Z"⟩ : MethodName) prog_6_method_11_code 2 (some .boolean) :: ws) ({ frames := 1, cells := 0, slots := 0, locals := 13 } : Room)) (fun aa U => aa = #[(.ref a), (.int q)] ∧ Z.Warmed39 U.vm ∧ U.heap = h0) (fun _ _ _ _ _ => True) (fun _ U o U' => ∃ v L, o = .returned v ∧ Q_bit Z  h0 n0 v U'.heap L ∧ FrameEnd U o U' L ({ frames := 1, cells := 0, slots := 0, locals := 13 } : Room).cells ({ frames := 1, cells := 0, slots := 0, locals := 13 } : Room).slots) := by
  refine MetFree.of_bodySF (plainFor_of_name pn_bit) hisR ?_
  intro p e s m args below meth c s₁ Bd hml0 hP hK
  obtain ⟨rfl, hZ, hh⟩ := hP
  have hx := Bd.exec
  have hby := Bd.bytes
  have hml : c.maxLocals = 2 := hml0
  have hown : s.vm.findClass "com/example/umbel/umbel/rank/ExactSum" = some m.cls := findClass_of_methodNamed Bd.named
  have hnm := (name_of_methodNamed Bd.named Bd.method).1
  have X0 : Stand p l e ({ frames := 1, cells := 0, slots := 0, locals := 13 } : Room) s m #[(.ref a), (.int q)] below meth c s₁ [] 0 0 := Stand.of_body Bd
  have e0 : s₁.heap = h0 := by rw [← hh, Bd.state]; rfl
  have N0 := Fr.nil n0
  have S0 : Go p e below s₁ (entryFrame m #[(.ref a), (.int q)] 2) s₁ (mkF m 0 #[.val (.ref a), .val (.int q)] []) := fun t k => castTop (ef_bit m a q) k
  have S275 : Go p e below s₁ (entryFrame m #[(.ref a), (.int q)] 2) s₁ (mkF m 5 #[.val (.ref a), .val (.int q)] [(.int (q / (32 : Int32))), (.ref a)]) := fun t kt => S0 t (by
    refine XS.aloadN X0.here hx rfl (hb hby d15_0) rfl rfl ?_
    show Steps p.tables e below (s₁.setTop (mkF m 1 #[.val (.ref a), .val (.int q)] [(.ref a)])) _
    refine XS.iloadN X0.here hx rfl (hb hby d15_1) rfl ?_
    show Steps p.tables e below (s₁.setTop (mkF m 2 #[.val (.ref a), .val (.int q)] [(.int q), (.ref a)])) _
    refine XS.bipush X0.here hx rfl (hb hby d15_2) ?_
    show Steps p.tables e below (s₁.setTop (mkF m 4 #[.val (.ref a), .val (.int q)] [(.int (32 : Int32)), (.int q), (.ref a)])) _
    refine XS.idiv X0.here hx rfl (hb hby d15_4) rfl (by decide) ?_
    show Steps p.tables e below (s₁.setTop (mkF m 5 #[.val (.ref a), .val (.int q)] [(.int (q / (32 : Int32))), (.ref a)])) _
    exact kt)
  clear S0
  obtain ⟨cq276, q276, q276'⟩ := E0.cell
  obtain ⟨v276, T276, L276, X276, hQ276, st276⟩ := own_outV (X0.privateBack hx (y := (⟨"com/example/umbel/umbel/rank/ExactSum", "limb", "(I)J"⟩ : MethodName)) hown (mvT hZ (hw _ (List.mem_of_getElem? (i := 75) rfl))) (mvT hZ (hw _ (List.mem_of_getElem? (i := 76) rfl))) (own_selp hZ (hw _ (List.mem_of_getElem? (i := 2) rfl)) (hw _ (List.mem_of_getElem? (i := 77) rfl)) (hw _ (List.mem_of_getElem? (i := 76) rfl)) (by decide)) (Cond.privateMethod_at (mvP hZ (hw _ (List.mem_of_getElem? (i := 77) rfl)) (args := #[]))) (mvT hZ (hw _ (List.mem_of_getElem? (i := 78) rfl))) (by decide) (backOf (W := 0) (rm_limb l Z a0 hw [] a b kb (q / (32 : Int32)) n x y z k h0 n0 Z0 F0 V0 hn hq hk) hZ (hw _ (List.mem_of_getElem? (i := 78) rfl)) (hw _ (List.mem_of_getElem? (i := 3) rfl)) (by decide) (by decide)) (g := (mkF m 5 #[.val (.ref a), .val (.int q)] [(.int (q / (32 : Int32))), (.ref a)])) rfl (by rw [hml]; rfl) (Steps.refl _) (a := a) (by rw [e0]; exact q276) q276' (argsL := [(.int (q / (32 : Int32)))]) (rest := []) (lenOf pd__I_J rfl) rfl (by show 2 * 0 + _ ≤ _; exact Nat.le_of_eq rfl) (hb hby d15_5) (fun _ _ => ⟨rfl, e0, (by decide : 0 + 0 ≤ _), (by decide : 0 + 0 ≤ _)⟩))
  obtain ⟨rfl, N276q, e276⟩ := hQ276
  have N276 := Fr.app N0 N276q
  have S277 : Go p e below s₁ (entryFrame m #[(.ref a), (.int q)] 2) T276 (mkF m 8 #[.val (.ref a), .val (.int q)] [(.long (if k = n then x else if k = n + 1 then y else if k = n + 2 then z else 0))]) := fun t kt => S275 t (st276 t kt)
  clear S275 st276 X0 e0
  have S278 : Go p e below s₁ (entryFrame m #[(.ref a), (.int q)] 2) T276 (mkF m 15 #[.val (.ref a), .val (.int q)] [(.long ((((if k = n then x else if k = n + 1 then y else if k = n + 2 then z else 0).toUInt64 >>> ((q % (32 : Int32)) &&& 0x3f).toInt64.toUInt64).toInt64) &&& (1 : Int64)))]) := fun t kt => S277 t (by
    refine XS.iloadN X276.here hx rfl (hb hby d15_8) rfl ?_
    show Steps p.tables e below (T276.setTop (mkF m 9 #[.val (.ref a), .val (.int q)] [(.int q), (.long (if k = n then x else if k = n + 1 then y else if k = n + 2 then z else 0))])) _
    refine XS.bipush X276.here hx rfl (hb hby d15_9) ?_
    show Steps p.tables e below (T276.setTop (mkF m 11 #[.val (.ref a), .val (.int q)] [(.int (32 : Int32)), (.int q), (.long (if k = n then x else if k = n + 1 then y else if k = n + 2 then z else 0))])) _
    refine iremM X276 hx rfl (hb hby d15_11) rfl (by decide) ?_
    show Steps p.tables e below (T276.setTop (mkF m 12 #[.val (.ref a), .val (.int q)] [(.int (q % (32 : Int32))), (.long (if k = n then x else if k = n + 1 then y else if k = n + 2 then z else 0))])) _
    refine XS.lushr X276.here hx rfl (hb hby d15_12) rfl ?_
    show Steps p.tables e below (T276.setTop (mkF m 13 #[.val (.ref a), .val (.int q)] [(.long (((if k = n then x else if k = n + 1 then y else if k = n + 2 then z else 0).toUInt64 >>> ((q % (32 : Int32)) &&& 0x3f).toInt64.toUInt64).toInt64))])) _
    refine XS.lconst X276.here hx rfl (hb hby d15_13) ?_
    show Steps p.tables e below (T276.setTop (mkF m 14 #[.val (.ref a), .val (.int q)] [(.long (1 : Int64)), (.long (((if k = n then x else if k = n + 1 then y else if k = n + 2 then z else 0).toUInt64 >>> ((q % (32 : Int32)) &&& 0x3f).toInt64.toUInt64).toInt64))])) _
    refine XS.land X276.here hx rfl (hb hby d15_14) rfl ?_
    show Steps p.tables e below (T276.setTop (mkF m 15 #[.val (.ref a), .val (.int q)] [(.long ((((if k = n then x else if k = n + 1 then y else if k = n + 2 then z else 0).toUInt64 >>> ((q % (32 : Int32)) &&& 0x3f).toInt64.toUInt64).toInt64) &&& (1 : Int64)))])) _
    exact kt)
  clear S277
  have q280 : ((((if k = n then x else if k = n + 1 then y else if k = n + 2 then z else 0).toUInt64 >>> ((q % (32 : Int32)) &&& 0x3f).toInt64.toUInt64).toInt64) &&& (1 : Int64)) = (0 : Int64) := hb0
  have S279 : Go p e below s₁ (entryFrame m #[(.ref a), (.int q)] 2) T276 (mkF m 15 #[.val (.ref a), .val (.int q)] [(.long (0 : Int64))]) := by have h := S278; rw [q280] at h; exact h
  clear S278
  have S281 : Go p e below s₁ (entryFrame m #[(.ref a), (.int q)] 2) T276 (mkF m 17 #[.val (.ref a), .val (.int q)] [(.int (lcmpW (0 : Int64) (1 : Int64)))]) := fun t kt => S279 t (by
    refine XS.lconst X276.here hx rfl (hb hby d15_15) ?_
    show Steps p.tables e below (T276.setTop (mkF m 16 #[.val (.ref a), .val (.int q)] [(.long (1 : Int64)), (.long (0 : Int64))])) _
    refine XS.lcmp X276.here hx rfl (hb hby d15_16) rfl ?_
    show Steps p.tables e below (T276.setTop (mkF m 17 #[.val (.ref a), .val (.int q)] [(.int (lcmpW (0 : Int64) (1 : Int64)))])) _
    exact kt)
  clear S279
  have S282 : Go p e below s₁ (entryFrame m #[(.ref a), (.int q)] 2) T276 (mkF m 25 #[.val (.ref a), .val (.int q)] [(.int (0 : Int32))]) := fun t kt => S281 t (by
    refine XS.ifYes X276.here hx rfl (pc0 := 17) (pc' := 24) rfl (hb hby d15_17) rfl ((if0 _ _).trans (feq (show ¬ ((lcmpW (0 : Int64) (1 : Int64)) = (0 : Int32)) from (by decide))).2) (by decide) (by decide) ?_
    show Steps p.tables e below (T276.setTop (mkF m 24 #[.val (.ref a), .val (.int q)] [])) _
    refine XS.iconst X276.here hx rfl (hb hby d15_24) ?_
    show Steps p.tables e below (T276.setTop (mkF m 25 #[.val (.ref a), .val (.int q)] [(.int (0 : Int32))])) _
    exact kt)
  clear S281
  obtain ⟨fs, hr, hrun, hended, hW, hsame⟩ := X276.leave (v := some (.int (0 : Int32))) (fun h => by first | rfl | (rw [Bd.returns] at h; cases h))
  refine ⟨_, _, S282 _ ?_, hrun, hended, _, _, rfl, ?_, ⟨_, rfl⟩, hW, hsame.mono (by decide) (by decide)⟩
  · exact retN X276 hx (t := .boolean) Bd.returns (by simp) (hb hby d15_25) hr
  · show Q_bit Z  h0 n0 _ T276.heap _
    rw [e276]
    exact ⟨rfl, N276, rfl⟩
theorem ef_val (m : MethodId) (x0 : Addr) : entryFrame m #[(.ref x0)] 6 = mkF m 0 #[.val (.ref x0), .unset, .unset, .unset, .unset, .unset] [] := by first | (simp [entryFrame, mkF, argsToLocals, Value.category]; done) | rfl
theorem pn_val : plainName "com/example/umbel/umbel/rank/ExactSum" = true := by first | (simp [plainName, overriddenIn]; done) | decide +kernel
def Q_val (Z : State) (a : Addr) (b : Addr) (kb : ClassId) (li : Int32) (n : Nat) (x : Int64) (y : Int64) (z : Int64) (xb : UInt64) (h0 : Heap) (n0 : Nat) (v : Option Value) (h : Heap) (L : List Loc) : Prop := v = some (.double xb) ∧ Fr n0 L ∧ Keep h0 h [a, b] ∧ Exa Z h a "com/example/umbel/umbel/rank/ExactSum" ∧ Fld Z h a "com/example/umbel/umbel/rank/ExactSum" "limbs" "[J" (.ref b) ∧ Fld Z h a "com/example/umbel/umbel/rank/ExactSum" "from" "I" (.int li) ∧ Fld Z h a "com/example/umbel/umbel/rank/ExactSum" "to" "I" (.int (li + (3 : Int32))) ∧ Fld Z h a "com/example/umbel/umbel/rank/ExactSum" "pending" "I" (.int (0 : Int32)) ∧ Arv Z h b kb .long (68 : Int32) (own_L n x y z) (.long (0 : Int64))
set_option maxRecDepth 65536 in
set_option maxHeartbeats 40000000 in
theorem rm_val (l : Launch) (Z : State) (a0 : Array Value) (hw : ∀ d ∈ tables_1, d.before a0 Z = true) (ws : List Jvm.Cond) (a : Addr) (b : Addr) (kb : ClassId) (li : Int32) (n : Nat) (x : Int64) (y : Int64) (z : Int64) (pd : Int32) (pos : Int32) (sh : Int32) (sig : Int64) (r : Int64) (k : Nat) (kq : Nat) (xb : UInt64) (h0 : Heap) (n0 : Nat) (Z0 : n0 ≤ h0.size) (E0 : Exa Z h0 a "com/example/umbel/umbel/rank/ExactSum") (F0 : Fld Z h0 a "com/example/umbel/umbel/rank/ExactSum" "limbs" "[J" (.ref b)) (F1 : Fld Z h0 a "com/example/umbel/umbel/rank/ExactSum" "from" "I" (.int li)) (F2 : Fld Z h0 a "com/example/umbel/umbel/rank/ExactSum" "to" "I" (.int (li + (3 : Int32)))) (F3 : Fld Z h0 a "com/example/umbel/umbel/rank/ExactSum" "pending" "I" (.int pd)) (V0 : Arv Z h0 b kb .long (68 : Int32) (own_L n x y z) (.long (0 : Int64))) (g_a : n0 ≤ a) (g_b : n0 ≤ b) (hab : a ≠ b) (hl : li.toInt = (n : Int)) (hn : n ≤ 65) (hx0 : 0 ≤ x.toInt ∧ x.toInt < 4294967296) (hy0 : 0 ≤ y.toInt ∧ y.toInt < 4294967296) (hz0 : 0 ≤ z.toInt ∧ z.toInt < 4294967296) (e4 : pos / (32 : Int32) = li) (e5 : pos % (32 : Int32) = sh) (k32 : k < 32) (hpos : pos.toInt = 32 * (n : Int) + (k : Int)) (hpp : 0 < pos.toInt) (hp2 : pos.toInt < 2046) (hr0 : sh = 0 → (x ||| (y <<< ((32 : Int32) &&& 0x3f).toInt64)) = r) (hr1 : ¬ sh = 0 → ((((x ||| (y <<< ((32 : Int32) &&& 0x3f).toInt64)).toUInt64 >>> (sh &&& 0x3f).toInt64.toUInt64).toInt64) ||| (z <<< (((64 : Int32) - sh) &&& 0x3f).toInt64)) = r) (hsg : (r &&& (9007199254740991 : Int64)) = sig) (htop : (12 ≤ k ∧ ((2 ^ (k - 12) : Nat) : Int) ≤ z.toInt ∧ z.toInt < ((2 ^ (k - 12 + 1) : Nat) : Int)) ∨ (k < 12 ∧ z.toInt = 0 ∧ ((2 ^ (20 + k) : Nat) : Int) ≤ y.toInt ∧ y.toInt < ((2 ^ (20 + k + 1) : Nat) : Int))) (hkq : kq < 68) (hq : ((pos - (1 : Int32)) / (32 : Int32)).toInt = (kq : Int)) (hb0 : (((if kq = n then x else if kq = n + 1 then y else if kq = n + 2 then z else 0).toUInt64 >>> (((pos - (1 : Int32)) % (32 : Int32)) &&& 0x3f).toInt64.toUInt64).toInt64 &&& (1 : Int64)) = 0) (hbits : ((pos.toInt64 <<< ((52 : Int32) &&& 0x3f).toInt64) + sig) = xb.toInt64) (hsn : (xb.toInt64.toUInt64 &&& 0x7fffffffffffffff > 0x7ff0000000000000 && xb.toInt64.toUInt64 &&& 0x0008000000000000 == 0) = false) :
    MetFree l (⟨"com/example/umbel/umbel/rank/ExactSum", "value", "()D"⟩ : MethodName) (head1 (Jvm.Cond.code (⟨"com/example/umbel/umbel/rank/ExactSum", "value", "()D"⟩ : MethodName) prog_6_method_5_code 6 (some .double) :: ws) ({ frames := 2, cells := 0, slots := 0, locals := 37 } : Room)) (fun aa U => aa = #[(.ref a)] ∧ Z.Warmed39 U.vm ∧ U.heap = h0) (fun _ _ _ _ _ => True) (fun _ U o U' => ∃ v L, o = .returned v ∧ Q_val Z a b kb li n x y z xb h0 n0 v U'.heap L ∧ FrameEnd U o U' L ({ frames := 2, cells := 0, slots := 0, locals := 37 } : Room).cells ({ frames := 2, cells := 0, slots := 0, locals := 37 } : Room).slots) := by
  refine MetFree.of_bodySF (plainFor_of_name pn_val) hisR ?_
  intro p e s m args below meth c s₁ Bd hml0 hP hK
  obtain ⟨rfl, hZ, hh⟩ := hP
  have hx := Bd.exec
  have hby := Bd.bytes
  have hml : c.maxLocals = 6 := hml0
  have hown : s.vm.findClass "com/example/umbel/umbel/rank/ExactSum" = some m.cls := findClass_of_methodNamed Bd.named
  have hnm := (name_of_methodNamed Bd.named Bd.method).1
  have X0 : Stand p l e ({ frames := 2, cells := 0, slots := 0, locals := 37 } : Room) s m #[(.ref a)] below meth c s₁ [] 0 0 := Stand.of_body Bd
  have e0 : s₁.heap = h0 := by rw [← hh, Bd.state]; rfl
  have N0 := Fr.nil n0
  have S0 : Go p e below s₁ (entryFrame m #[(.ref a)] 6) s₁ (mkF m 0 #[.val (.ref a), .unset, .unset, .unset, .unset, .unset] []) := fun t k => castTop (ef_val m a) k
  have it := own_it hl hn
  have t1 := own_t1 hl hn
  have t2 := own_t2 hl hn
  have S283 : Go p e below s₁ (entryFrame m #[(.ref a)] 6) s₁ (mkF m 1 #[.val (.ref a), .unset, .unset, .unset, .unset, .unset] [(.ref a)]) := fun t kt => S0 t (by
    refine XS.aloadN X0.here hx rfl (hb hby d5_0) rfl rfl ?_
    show Steps p.tables e below (s₁.setTop (mkF m 1 #[.val (.ref a), .unset, .unset, .unset, .unset, .unset] [(.ref a)])) _
    exact kt)
  clear S0
  obtain ⟨cq284, q284, q284'⟩ := E0.cell
  obtain ⟨v284, T284, L284, X284, hQ284, st284⟩ := own_outV (X0.privateBack hx (y := (⟨"com/example/umbel/umbel/rank/ExactSum", "carry", "()V"⟩ : MethodName)) hown (mvT hZ (hw _ (List.mem_of_getElem? (i := 41) rfl))) (mvT hZ (hw _ (List.mem_of_getElem? (i := 42) rfl))) (own_selp hZ (hw _ (List.mem_of_getElem? (i := 2) rfl)) (hw _ (List.mem_of_getElem? (i := 43) rfl)) (hw _ (List.mem_of_getElem? (i := 42) rfl)) (by decide)) (Cond.privateMethod_at (mvP hZ (hw _ (List.mem_of_getElem? (i := 43) rfl)) (args := #[]))) (mvT hZ (hw _ (List.mem_of_getElem? (i := 44) rfl))) (by decide) (backOf (W := 0) (rm_carry l Z a0 hw [] a b kb li n x y z pd h0 n0 Z0 E0 F0 F1 F2 F3 V0 g_a g_b hab hl hn hx0 hy0 hz0) hZ (hw _ (List.mem_of_getElem? (i := 44) rfl)) (hw _ (List.mem_of_getElem? (i := 3) rfl)) (by decide) (by decide)) (g := (mkF m 1 #[.val (.ref a), .unset, .unset, .unset, .unset, .unset] [(.ref a)])) rfl (by rw [hml]; rfl) (Steps.refl _) (a := a) (by rw [e0]; exact q284) q284' (argsL := []) (rest := []) (lenOf pd___V rfl) rfl (by show 2 * 0 + _ ≤ _; exact Nat.le_of_eq rfl) (hb hby d5_1) (fun _ _ => ⟨rfl, e0, (by decide : 0 + 0 ≤ _), (by decide : 0 + 0 ≤ _)⟩))
  obtain ⟨rfl, N284q, K284, Ex284, Fa284, Fb284, Fc284, Fd284, Va284⟩ := hQ284
  have N284 := Fr.app N0 N284q
  have Kk284 : Keep h0 T284.heap [a, b] := Keep.trans (Keep.refl h0 [a, b]) K284 (by simp)
  have S285 : Go p e below s₁ (entryFrame m #[(.ref a)] 6) T284 (mkF m 4 #[.val (.ref a), .unset, .unset, .unset, .unset, .unset] []) := fun t kt => S283 t (st284 t kt)
  clear S283 st284 X0 e0
  have S286 : Go p e below s₁ (entryFrame m #[(.ref a)] 6) T284 (mkF m 5 #[.val (.ref a), .unset, .unset, .unset, .unset, .unset] [(.ref a)]) := fun t kt => S285 t (by
    refine XS.aloadN X284.here hx rfl (hb hby d5_4) rfl rfl ?_
    show Steps p.tables e below (T284.setTop (mkF m 5 #[.val (.ref a), .unset, .unset, .unset, .unset, .unset] [(.ref a)])) _
    exact kt)
  clear S285
  obtain ⟨T287, X287, e287, st287⟩ := getF X284 hx hZ hown (host := "") (Or.inl (hw _ (List.mem_of_getElem? (i := 31) rfl))) Via.refl rfl Fc284 (g := (mkF m 5 #[.val (.ref a), .unset, .unset, .unset, .unset, .unset] [(.ref a)])) rfl rfl (hb hby d5_5)
  have S288 : Go p e below s₁ (entryFrame m #[(.ref a)] 6) T287 (mkF m 8 #[.val (.ref a), .unset, .unset, .unset, .unset, .unset] [(.int (li + (3 : Int32)))]) := fun t kt => S286 t (st287 t kt)
  clear S286 st287 X284
  have S289 : Go p e below s₁ (entryFrame m #[(.ref a)] 6) T287 (mkF m 11 #[.val (.ref a), .val (.int ((li + (3 : Int32)) - (1 : Int32))), .unset, .unset, .unset, .unset] []) := fun t kt => S288 t (by
    refine XS.iconst X287.here hx rfl (hb hby d5_8) ?_
    show Steps p.tables e below (T287.setTop (mkF m 9 #[.val (.ref a), .unset, .unset, .unset, .unset, .unset] [(.int (1 : Int32)), (.int (li + (3 : Int32)))])) _
    refine XS.isub X287.here hx rfl (hb hby d5_9) rfl ?_
    show Steps p.tables e below (T287.setTop (mkF m 10 #[.val (.ref a), .unset, .unset, .unset, .unset, .unset] [(.int ((li + (3 : Int32)) - (1 : Int32)))])) _
    refine XS.istoreN X287.here hx rfl (hb hby d5_10) rfl (l' := #[.val (.ref a), .val (.int ((li + (3 : Int32)) - (1 : Int32))), .unset, .unset, .unset, .unset]) rfl ?_
    show Steps p.tables e below (T287.setTop (mkF m 11 #[.val (.ref a), .val (.int ((li + (3 : Int32)) - (1 : Int32))), .unset, .unset, .unset, .unset] [])) _
    exact kt)
  clear S288
  obtain ⟨tp1, q_tp1⟩ : ∃ z : Int32, z = ((li + (3 : Int32)) - (1 : Int32)) := ⟨_, rfl⟩
  have S290 : Go p e below s₁ (entryFrame m #[(.ref a)] 6) T287 (mkF m 11 #[.val (.ref a), .val (.int tp1), .unset, .unset, .unset, .unset] []) := by subst q_tp1; exact S289
  clear S289
  rw [← q_tp1] at t1 t2
  obtain ⟨tp2, q_tp2⟩ : ∃ z : Int32, z = (tp1 + (-1 : Int32)) := ⟨_, rfl⟩
  rw [← q_tp2] at t2
  have S291 : Go p e below s₁ (entryFrame m #[(.ref a)] 6) T287 (mkF m 13 #[.val (.ref a), .val (.int tp1), .unset, .unset, .unset, .unset] [(.ref a), (.int tp1)]) := fun t kt => S290 t (by
    refine XS.iloadN X287.here hx rfl (hb hby d5_11) rfl ?_
    show Steps p.tables e below (T287.setTop (mkF m 12 #[.val (.ref a), .val (.int tp1), .unset, .unset, .unset, .unset] [(.int tp1)])) _
    refine XS.aloadN X287.here hx rfl (hb hby d5_12) rfl rfl ?_
    show Steps p.tables e below (T287.setTop (mkF m 13 #[.val (.ref a), .val (.int tp1), .unset, .unset, .unset, .unset] [(.ref a), (.int tp1)])) _
    exact kt)
  clear S290
  obtain ⟨T292, X292, e292, st292⟩ := getF X287 hx hZ hown (host := "") (Or.inl (hw _ (List.mem_of_getElem? (i := 29) rfl))) Via.refl e287 Fb284 (g := (mkF m 13 #[.val (.ref a), .val (.int tp1), .unset, .unset, .unset, .unset] [(.ref a), (.int tp1)])) rfl rfl (hb hby d5_13)
  have S293 : Go p e below s₁ (entryFrame m #[(.ref a)] 6) T292 (mkF m 16 #[.val (.ref a), .val (.int tp1), .unset, .unset, .unset, .unset] [(.int li), (.int tp1)]) := fun t kt => S291 t (st292 t kt)
  clear S291 st292 X287 e287
  have S294 : Go p e below s₁ (entryFrame m #[(.ref a)] 6) T292 (mkF m 20 #[.val (.ref a), .val (.int tp1), .unset, .unset, .unset, .unset] [(.ref a)]) := fun t kt => S293 t (by
    refine XS.icmpNo X292.here hx rfl (hb hby d5_16) rfl (flt (show ¬ (tp1 < li) from (own_nlt (by omega)))).1 ?_
    show Steps p.tables e below (T292.setTop (mkF m 19 #[.val (.ref a), .val (.int tp1), .unset, .unset, .unset, .unset] [])) _
    refine XS.aloadN X292.here hx rfl (hb hby d5_19) rfl rfl ?_
    show Steps p.tables e below (T292.setTop (mkF m 20 #[.val (.ref a), .val (.int tp1), .unset, .unset, .unset, .unset] [(.ref a)])) _
    exact kt)
  clear S293
  obtain ⟨T295, X295, e295, st295⟩ := getF X292 hx hZ hown (host := "") (Or.inl (hw _ (List.mem_of_getElem? (i := 11) rfl))) Via.refl e292 Fa284 (g := (mkF m 20 #[.val (.ref a), .val (.int tp1), .unset, .unset, .unset, .unset] [(.ref a)])) rfl rfl (hb hby d5_20)
  have S296 : Go p e below s₁ (entryFrame m #[(.ref a)] 6) T295 (mkF m 23 #[.val (.ref a), .val (.int tp1), .unset, .unset, .unset, .unset] [(.ref b)]) := fun t kt => S294 t (st295 t kt)
  clear S294 st295 X292 e292
  have S297 : Go p e below s₁ (entryFrame m #[(.ref a)] 6) T295 (mkF m 24 #[.val (.ref a), .val (.int tp1), .unset, .unset, .unset, .unset] [(.int tp1), (.ref b)]) := fun t kt => S296 t (by
    refine XS.iloadN X295.here hx rfl (hb hby d5_23) rfl ?_
    show Steps p.tables e below (T295.setTop (mkF m 24 #[.val (.ref a), .val (.int tp1), .unset, .unset, .unset, .unset] [(.int tp1), (.ref b)])) _
    exact kt)
  clear S296
  have rt1 := own_rng t1 (show n + 2 < 68 by omega)
  obtain ⟨co298, Ao298, qo298, So298, No298, Ho298, Go298⟩ := id Va284
  have hino298 : ¬ (tp1 < 0 ∨ co298.slots.size ≤ (tp1).toNatClampNeg) := inb_of So298 rt1.1
  have hato298 : co298.slots[(tp1).toNatClampNeg]? = some (.long z) := Has.at Ho298 hino298 (by rw [rt1.2]; exact own_at2 n hn x y z)
  have S299 : Go p e below s₁ (entryFrame m #[(.ref a)] 6) T295 (mkF m 27 #[.val (.ref a), .val (.int tp1), .unset, .unset, .unset, .unset] [(.int (lcmpW z (0 : Int64)))]) := fun t kt => S297 t (by
    refine X295.laload hx (j := tp1) (v := (.long z)) (by rw [e295]; exact Ao298.1) (State.isArrayOf_alike hZ.alike Ao298.2.1) Ao298.2.2 hino298 hato298 (g := (mkF m 24 #[.val (.ref a), .val (.int tp1), .unset, .unset, .unset, .unset] [(.int tp1), (.ref b)])) rfl rfl (hb hby d5_24) _ ?_
    show Steps p.tables e below (T295.setTop (mkF m 25 #[.val (.ref a), .val (.int tp1), .unset, .unset, .unset, .unset] [(.long z)])) _
    refine XS.lconst X295.here hx rfl (hb hby d5_25) ?_
    show Steps p.tables e below (T295.setTop (mkF m 26 #[.val (.ref a), .val (.int tp1), .unset, .unset, .unset, .unset] [(.long (0 : Int64)), (.long z)])) _
    refine XS.lcmp X295.here hx rfl (hb hby d5_26) rfl ?_
    show Steps p.tables e below (T295.setTop (mkF m 27 #[.val (.ref a), .val (.int tp1), .unset, .unset, .unset, .unset] [(.int (lcmpW z (0 : Int64)))])) _
    exact kt)
  clear S297
  by_cases hzz : (lcmpW z (0 : Int64)) = (0 : Int32)
  · have S337 : Go p e below s₁ (entryFrame m #[(.ref a)] 6) T295 (mkF m 30 #[.val (.ref a), .val (.int tp1), .unset, .unset, .unset, .unset] []) := fun t kt => S299 t (by
      refine XS.ifNo X295.here hx rfl (hb hby d5_27) rfl ((if0 _ _).trans (teq (show (lcmpW z (0 : Int64)) = (0 : Int32) from hzz)).2) ?_
      show Steps p.tables e below (T295.setTop (mkF m 30 #[.val (.ref a), .val (.int tp1), .unset, .unset, .unset, .unset] [])) _
      exact kt)
    clear S299
    have hz1 := own_zeq hzz
    obtain ⟨h12, hz3, hyl, hyu⟩ : k < 12 ∧ z.toInt = 0 ∧ ((2 ^ (20 + k) : Nat) : Int) ≤ y.toInt ∧ y.toInt < ((2 ^ (20 + k + 1) : Nat) : Int) := htop.resolve_left (fun q => by have := q.2.1; have := Nat.two_pow_pos (k - 12); omega)
    have S338 : Go p e below s₁ (entryFrame m #[(.ref a)] 6) T295 (mkF m 11 #[.val (.ref a), .val (.int (tp1 + (-1 : Int32))), .unset, .unset, .unset, .unset] []) := fun t kt => S337 t (by
      refine XS.iinc X295.here hx rfl (hb hby d5_30) rfl (l' := #[.val (.ref a), .val (.int (tp1 + (-1 : Int32))), .unset, .unset, .unset, .unset]) rfl ?_
      show Steps p.tables e below (T295.setTop (mkF m 33 #[.val (.ref a), .val (.int (tp1 + (-1 : Int32))), .unset, .unset, .unset, .unset] [])) _
      refine XS.goto X295.here hx rfl (pc0 := 33) (pc' := 11) rfl (hb hby d5_33) (by decide) (by decide) ?_
      show Steps p.tables e below (T295.setTop (mkF m 11 #[.val (.ref a), .val (.int (tp1 + (-1 : Int32))), .unset, .unset, .unset, .unset] [])) _
      exact kt)
    clear S337
    have q340 : (tp1 + (-1 : Int32)) = tp2 := q_tp2.symm
    have S339 : Go p e below s₁ (entryFrame m #[(.ref a)] 6) T295 (mkF m 11 #[.val (.ref a), .val (.int tp2), .unset, .unset, .unset, .unset] []) := by have h := S338; rw [q340] at h; exact h
    clear S338
    have S341 : Go p e below s₁ (entryFrame m #[(.ref a)] 6) T295 (mkF m 13 #[.val (.ref a), .val (.int tp2), .unset, .unset, .unset, .unset] [(.ref a), (.int tp2)]) := fun t kt => S339 t (by
      refine XS.iloadN X295.here hx rfl (hb hby d5_11) rfl ?_
      show Steps p.tables e below (T295.setTop (mkF m 12 #[.val (.ref a), .val (.int tp2), .unset, .unset, .unset, .unset] [(.int tp2)])) _
      refine XS.aloadN X295.here hx rfl (hb hby d5_12) rfl rfl ?_
      show Steps p.tables e below (T295.setTop (mkF m 13 #[.val (.ref a), .val (.int tp2), .unset, .unset, .unset, .unset] [(.ref a), (.int tp2)])) _
      exact kt)
    clear S339
    obtain ⟨T342, X342, e342, st342⟩ := getF X295 hx hZ hown (host := "") (Or.inl (hw _ (List.mem_of_getElem? (i := 29) rfl))) Via.refl e295 Fb284 (g := (mkF m 13 #[.val (.ref a), .val (.int tp2), .unset, .unset, .unset, .unset] [(.ref a), (.int tp2)])) rfl rfl (hb hby d5_13)
    have S343 : Go p e below s₁ (entryFrame m #[(.ref a)] 6) T342 (mkF m 16 #[.val (.ref a), .val (.int tp2), .unset, .unset, .unset, .unset] [(.int li), (.int tp2)]) := fun t kt => S341 t (st342 t kt)
    clear S341 st342 X295 e295
    have S344 : Go p e below s₁ (entryFrame m #[(.ref a)] 6) T342 (mkF m 20 #[.val (.ref a), .val (.int tp2), .unset, .unset, .unset, .unset] [(.ref a)]) := fun t kt => S343 t (by
      refine XS.icmpNo X342.here hx rfl (hb hby d5_16) rfl (flt (show ¬ (tp2 < li) from (own_nlt (by omega)))).1 ?_
      show Steps p.tables e below (T342.setTop (mkF m 19 #[.val (.ref a), .val (.int tp2), .unset, .unset, .unset, .unset] [])) _
      refine XS.aloadN X342.here hx rfl (hb hby d5_19) rfl rfl ?_
      show Steps p.tables e below (T342.setTop (mkF m 20 #[.val (.ref a), .val (.int tp2), .unset, .unset, .unset, .unset] [(.ref a)])) _
      exact kt)
    clear S343
    obtain ⟨T345, X345, e345, st345⟩ := getF X342 hx hZ hown (host := "") (Or.inl (hw _ (List.mem_of_getElem? (i := 11) rfl))) Via.refl e342 Fa284 (g := (mkF m 20 #[.val (.ref a), .val (.int tp2), .unset, .unset, .unset, .unset] [(.ref a)])) rfl rfl (hb hby d5_20)
    have S346 : Go p e below s₁ (entryFrame m #[(.ref a)] 6) T345 (mkF m 23 #[.val (.ref a), .val (.int tp2), .unset, .unset, .unset, .unset] [(.ref b)]) := fun t kt => S344 t (st345 t kt)
    clear S344 st345 X342 e342
    have S347 : Go p e below s₁ (entryFrame m #[(.ref a)] 6) T345 (mkF m 24 #[.val (.ref a), .val (.int tp2), .unset, .unset, .unset, .unset] [(.int tp2), (.ref b)]) := fun t kt => S346 t (by
      refine XS.iloadN X345.here hx rfl (hb hby d5_23) rfl ?_
      show Steps p.tables e below (T345.setTop (mkF m 24 #[.val (.ref a), .val (.int tp2), .unset, .unset, .unset, .unset] [(.int tp2), (.ref b)])) _
      exact kt)
    clear S346
    have rt2 := own_rng t2 (show n + 1 < 68 by omega)
    obtain ⟨co348, Ao348, qo348, So348, No348, Ho348, Go348⟩ := id Va284
    have hino348 : ¬ (tp2 < 0 ∨ co348.slots.size ≤ (tp2).toNatClampNeg) := inb_of So348 rt2.1
    have hato348 : co348.slots[(tp2).toNatClampNeg]? = some (.long y) := Has.at Ho348 hino348 (by rw [rt2.2]; exact own_at1 n hn x y z)
    have S349 : Go p e below s₁ (entryFrame m #[(.ref a)] 6) T345 (mkF m 27 #[.val (.ref a), .val (.int tp2), .unset, .unset, .unset, .unset] [(.int (lcmpW y (0 : Int64)))]) := fun t kt => S347 t (by
      refine X345.laload hx (j := tp2) (v := (.long y)) (by rw [e345]; exact Ao348.1) (State.isArrayOf_alike hZ.alike Ao348.2.1) Ao348.2.2 hino348 hato348 (g := (mkF m 24 #[.val (.ref a), .val (.int tp2), .unset, .unset, .unset, .unset] [(.int tp2), (.ref b)])) rfl rfl (hb hby d5_24) _ ?_
      show Steps p.tables e below (T345.setTop (mkF m 25 #[.val (.ref a), .val (.int tp2), .unset, .unset, .unset, .unset] [(.long y)])) _
      refine XS.lconst X345.here hx rfl (hb hby d5_25) ?_
      show Steps p.tables e below (T345.setTop (mkF m 26 #[.val (.ref a), .val (.int tp2), .unset, .unset, .unset, .unset] [(.long (0 : Int64)), (.long y)])) _
      refine XS.lcmp X345.here hx rfl (hb hby d5_26) rfl ?_
      show Steps p.tables e below (T345.setTop (mkF m 27 #[.val (.ref a), .val (.int tp2), .unset, .unset, .unset, .unset] [(.int (lcmpW y (0 : Int64)))])) _
      exact kt)
    clear S347
    have rt9 := rt2
    have S350 : Go p e below s₁ (entryFrame m #[(.ref a)] 6) T345 (mkF m 38 #[.val (.ref a), .val (.int tp2), .unset, .unset, .unset, .unset] [(.ref a), (.int tp2)]) := fun t kt => S349 t (by
      refine XS.ifYes X345.here hx rfl (pc0 := 27) (pc' := 36) rfl (hb hby d5_27) rfl ((if0 _ _).trans (feq (show ¬ ((lcmpW y (0 : Int64)) = (0 : Int32)) from (own_lcne (by have := Nat.two_pow_pos (20 + k); omega)))).2) (by decide) (by decide) ?_
      show Steps p.tables e below (T345.setTop (mkF m 36 #[.val (.ref a), .val (.int tp2), .unset, .unset, .unset, .unset] [])) _
      refine XS.iloadN X345.here hx rfl (hb hby d5_36) rfl ?_
      show Steps p.tables e below (T345.setTop (mkF m 37 #[.val (.ref a), .val (.int tp2), .unset, .unset, .unset, .unset] [(.int tp2)])) _
      refine XS.aloadN X345.here hx rfl (hb hby d5_37) rfl rfl ?_
      show Steps p.tables e below (T345.setTop (mkF m 38 #[.val (.ref a), .val (.int tp2), .unset, .unset, .unset, .unset] [(.ref a), (.int tp2)])) _
      exact kt)
    clear S349
    obtain ⟨T351, X351, e351, st351⟩ := getF X345 hx hZ hown (host := "") (Or.inl (hw _ (List.mem_of_getElem? (i := 29) rfl))) Via.refl e345 Fb284 (g := (mkF m 38 #[.val (.ref a), .val (.int tp2), .unset, .unset, .unset, .unset] [(.ref a), (.int tp2)])) rfl rfl (hb hby d5_38)
    have S352 : Go p e below s₁ (entryFrame m #[(.ref a)] 6) T351 (mkF m 41 #[.val (.ref a), .val (.int tp2), .unset, .unset, .unset, .unset] [(.int li), (.int tp2)]) := fun t kt => S350 t (st351 t kt)
    clear S350 st351 X345 e345
    have S353 : Go p e below s₁ (entryFrame m #[(.ref a)] 6) T351 (mkF m 56 #[.val (.ref a), .val (.int tp2), .unset, .unset, .unset, .unset] [(.ref a), (.int (((tp2 * (32 : Int32)) + (64 : Int32)) - (1 : Int32)))]) := fun t kt => S352 t (by
      refine XS.icmpYes X351.here hx rfl (pc0 := 41) (pc' := 46) rfl (hb hby d5_41) rfl (flt (show ¬ (tp2 < li) from (own_nlt (by omega)))).2.1 (by decide) (by decide) ?_
      show Steps p.tables e below (T351.setTop (mkF m 46 #[.val (.ref a), .val (.int tp2), .unset, .unset, .unset, .unset] [])) _
      refine XS.iloadN X351.here hx rfl (hb hby d5_46) rfl ?_
      show Steps p.tables e below (T351.setTop (mkF m 47 #[.val (.ref a), .val (.int tp2), .unset, .unset, .unset, .unset] [(.int tp2)])) _
      refine XS.bipush X351.here hx rfl (hb hby d5_47) ?_
      show Steps p.tables e below (T351.setTop (mkF m 49 #[.val (.ref a), .val (.int tp2), .unset, .unset, .unset, .unset] [(.int (32 : Int32)), (.int tp2)])) _
      refine XS.imul X351.here hx rfl (hb hby d5_49) rfl ?_
      show Steps p.tables e below (T351.setTop (mkF m 50 #[.val (.ref a), .val (.int tp2), .unset, .unset, .unset, .unset] [(.int (tp2 * (32 : Int32)))])) _
      refine XS.bipush X351.here hx rfl (hb hby d5_50) ?_
      show Steps p.tables e below (T351.setTop (mkF m 52 #[.val (.ref a), .val (.int tp2), .unset, .unset, .unset, .unset] [(.int (64 : Int32)), (.int (tp2 * (32 : Int32)))])) _
      refine XS.iadd X351.here hx rfl (hb hby d5_52) rfl ?_
      show Steps p.tables e below (T351.setTop (mkF m 53 #[.val (.ref a), .val (.int tp2), .unset, .unset, .unset, .unset] [(.int ((tp2 * (32 : Int32)) + (64 : Int32)))])) _
      refine XS.iconst X351.here hx rfl (hb hby d5_53) ?_
      show Steps p.tables e below (T351.setTop (mkF m 54 #[.val (.ref a), .val (.int tp2), .unset, .unset, .unset, .unset] [(.int (1 : Int32)), (.int ((tp2 * (32 : Int32)) + (64 : Int32)))])) _
      refine XS.isub X351.here hx rfl (hb hby d5_54) rfl ?_
      show Steps p.tables e below (T351.setTop (mkF m 55 #[.val (.ref a), .val (.int tp2), .unset, .unset, .unset, .unset] [(.int (((tp2 * (32 : Int32)) + (64 : Int32)) - (1 : Int32)))])) _
      refine XS.aloadN X351.here hx rfl (hb hby d5_55) rfl rfl ?_
      show Steps p.tables e below (T351.setTop (mkF m 56 #[.val (.ref a), .val (.int tp2), .unset, .unset, .unset, .unset] [(.ref a), (.int (((tp2 * (32 : Int32)) + (64 : Int32)) - (1 : Int32)))])) _
      exact kt)
    clear S352
    obtain ⟨T354, X354, e354, st354⟩ := getF X351 hx hZ hown (host := "") (Or.inl (hw _ (List.mem_of_getElem? (i := 11) rfl))) Via.refl e351 Fa284 (g := (mkF m 56 #[.val (.ref a), .val (.int tp2), .unset, .unset, .unset, .unset] [(.ref a), (.int (((tp2 * (32 : Int32)) + (64 : Int32)) - (1 : Int32)))])) rfl rfl (hb hby d5_56)
    have S355 : Go p e below s₁ (entryFrame m #[(.ref a)] 6) T354 (mkF m 59 #[.val (.ref a), .val (.int tp2), .unset, .unset, .unset, .unset] [(.ref b), (.int (((tp2 * (32 : Int32)) + (64 : Int32)) - (1 : Int32)))]) := fun t kt => S353 t (st354 t kt)
    clear S353 st354 X351 e351
    have S356 : Go p e below s₁ (entryFrame m #[(.ref a)] 6) T354 (mkF m 60 #[.val (.ref a), .val (.int tp2), .unset, .unset, .unset, .unset] [(.int tp2), (.ref b), (.int (((tp2 * (32 : Int32)) + (64 : Int32)) - (1 : Int32)))]) := fun t kt => S355 t (by
      refine XS.iloadN X354.here hx rfl (hb hby d5_59) rfl ?_
      show Steps p.tables e below (T354.setTop (mkF m 60 #[.val (.ref a), .val (.int tp2), .unset, .unset, .unset, .unset] [(.int tp2), (.ref b), (.int (((tp2 * (32 : Int32)) + (64 : Int32)) - (1 : Int32)))])) _
      exact kt)
    clear S355
    obtain ⟨co357, Ao357, qo357, So357, No357, Ho357, Go357⟩ := id Va284
    have hino357 : ¬ (tp2 < 0 ∨ co357.slots.size ≤ (tp2).toNatClampNeg) := inb_of So357 rt9.1
    have hato357 : co357.slots[(tp2).toNatClampNeg]? = some (.long y) := Has.at Ho357 hino357 (by rw [rt9.2]; exact own_at1 n hn x y z)
    have S358 : Go p e below s₁ (entryFrame m #[(.ref a)] 6) T354 (mkF m 61 #[.val (.ref a), .val (.int tp2), .unset, .unset, .unset, .unset] [(.long y), (.int (((tp2 * (32 : Int32)) + (64 : Int32)) - (1 : Int32)))]) := fun t kt => S356 t (by
      refine X354.laload hx (j := tp2) (v := (.long y)) (by rw [e354]; exact Ao357.1) (State.isArrayOf_alike hZ.alike Ao357.2.1) Ao357.2.2 hino357 hato357 (g := (mkF m 60 #[.val (.ref a), .val (.int tp2), .unset, .unset, .unset, .unset] [(.int tp2), (.ref b), (.int (((tp2 * (32 : Int32)) + (64 : Int32)) - (1 : Int32)))])) rfl rfl (hb hby d5_60) _ ?_
      show Steps p.tables e below (T354.setTop (mkF m 61 #[.val (.ref a), .val (.int tp2), .unset, .unset, .unset, .unset] [(.long y), (.int (((tp2 * (32 : Int32)) + (64 : Int32)) - (1 : Int32)))])) _
      exact kt)
    clear S356
    obtain ⟨v359, T359, L359, X359, hQ359, st359⟩ := own_outS (Jvm.LawKit.callS X354 hx (y := (⟨"java/lang/Long", "numberOfLeadingZeros", "(J)I"⟩ : MethodName)) hown (mvT hZ (hw _ (List.mem_of_getElem? (i := 58) rfl))) (mvT hZ (hw _ (List.mem_of_getElem? (i := 59) rfl))) (mvT hZ (hw _ (List.mem_of_getElem? (i := 60) rfl))) (mvT hZ (hw _ (List.mem_of_getElem? (i := 61) rfl))) (by decide) (backOf (W := 1) (rm_nlzJ l Z a0 hw [] y (20 + k) T284.heap n0 (Nat.le_trans Z0 K284.1) (by omega) hyl hyu) hZ (hw _ (List.mem_of_getElem? (i := 61) rfl)) (hw _ (List.mem_of_getElem? (i := 60) rfl)) (by decide) (by decide)) (g := (mkF m 61 #[.val (.ref a), .val (.int tp2), .unset, .unset, .unset, .unset] [(.long y), (.int (((tp2 * (32 : Int32)) + (64 : Int32)) - (1 : Int32)))])) rfl (by rw [hml]; rfl) (argsL := [(.long y)]) (rest := [(.int (((tp2 * (32 : Int32)) + (64 : Int32)) - (1 : Int32)))]) (lenOf pd__J_I rfl) rfl (by show 2 * 0 + _ ≤ _; exact Nat.le_of_eq rfl) (hb hby d5_61) (fun _ _ => ⟨rfl, e354, (by decide : 0 + 0 ≤ _), (by decide : 0 + 0 ≤ _)⟩))
    obtain ⟨r0, rfl, hr, N359q, e359⟩ := hQ359
    have N359 := Fr.app N284 N359q
    have S360 : Go p e below s₁ (entryFrame m #[(.ref a)] 6) T359 (mkF m 64 #[.val (.ref a), .val (.int tp2), .unset, .unset, .unset, .unset] [(.int r0), (.int (((tp2 * (32 : Int32)) + (64 : Int32)) - (1 : Int32)))]) := fun t kt => S358 t (st359 t kt)
    clear S358 st359 X354 e354
    have S361 : Go p e below s₁ (entryFrame m #[(.ref a)] 6) T359 (mkF m 65 #[.val (.ref a), .val (.int tp2), .unset, .unset, .unset, .unset] [(.int ((((tp2 * (32 : Int32)) + (64 : Int32)) - (1 : Int32)) - r0))]) := fun t kt => S360 t (by
      refine XS.isub X359.here hx rfl (hb hby d5_64) rfl ?_
      show Steps p.tables e below (T359.setTop (mkF m 65 #[.val (.ref a), .val (.int tp2), .unset, .unset, .unset, .unset] [(.int ((((tp2 * (32 : Int32)) + (64 : Int32)) - (1 : Int32)) - r0))])) _
      exact kt)
    clear S360
    obtain ⟨hgx, q_hgx⟩ : ∃ z : Int32, z = ((((tp2 * (32 : Int32)) + (64 : Int32)) - (1 : Int32)) - r0) := ⟨_, rfl⟩
    have S362 : Go p e below s₁ (entryFrame m #[(.ref a)] 6) T359 (mkF m 65 #[.val (.ref a), .val (.int tp2), .unset, .unset, .unset, .unset] [(.int hgx)]) := by subst q_hgx; exact S361
    clear S361
    have hhg : hgx.toInt = pos.toInt + 52 := by rw [q_hgx]; exact own_hg t2 hr (by omega) (by omega) (by omega)
    have S363 : Go p e below s₁ (entryFrame m #[(.ref a)] 6) T359 (mkF m 71 #[.val (.ref a), .val (.int tp2), .val (.int hgx), .unset, .unset, .unset] [(.int (hgx - (52 : Int32))), (.int (0 : Int32))]) := fun t kt => S362 t (by
      refine XS.istoreN X359.here hx rfl (hb hby d5_65) rfl (l' := #[.val (.ref a), .val (.int tp2), .val (.int hgx), .unset, .unset, .unset]) rfl ?_
      show Steps p.tables e below (T359.setTop (mkF m 66 #[.val (.ref a), .val (.int tp2), .val (.int hgx), .unset, .unset, .unset] [])) _
      refine XS.iconst X359.here hx rfl (hb hby d5_66) ?_
      show Steps p.tables e below (T359.setTop (mkF m 67 #[.val (.ref a), .val (.int tp2), .val (.int hgx), .unset, .unset, .unset] [(.int (0 : Int32))])) _
      refine XS.iloadN X359.here hx rfl (hb hby d5_67) rfl ?_
      show Steps p.tables e below (T359.setTop (mkF m 68 #[.val (.ref a), .val (.int tp2), .val (.int hgx), .unset, .unset, .unset] [(.int hgx), (.int (0 : Int32))])) _
      refine XS.bipush X359.here hx rfl (hb hby d5_68) ?_
      show Steps p.tables e below (T359.setTop (mkF m 70 #[.val (.ref a), .val (.int tp2), .val (.int hgx), .unset, .unset, .unset] [(.int (52 : Int32)), (.int hgx), (.int (0 : Int32))])) _
      refine XS.isub X359.here hx rfl (hb hby d5_70) rfl ?_
      show Steps p.tables e below (T359.setTop (mkF m 71 #[.val (.ref a), .val (.int tp2), .val (.int hgx), .unset, .unset, .unset] [(.int (hgx - (52 : Int32))), (.int (0 : Int32))])) _
      exact kt)
    clear S362
    obtain ⟨v364, T364, L364, X364, hQ364, st364⟩ := own_outS (Jvm.LawKit.callS X359 hx (y := (⟨"java/lang/Math", "max", "(II)I"⟩ : MethodName)) hown (mvT hZ (hw _ (List.mem_of_getElem? (i := 67) rfl))) (mvT hZ (hw _ (List.mem_of_getElem? (i := 68) rfl))) (mvT hZ (hw _ (List.mem_of_getElem? (i := 69) rfl))) (mvT hZ (hw _ (List.mem_of_getElem? (i := 70) rfl))) (by decide) (backOf (W := 0) (rm_max l Z a0 hw [] (0 : Int32) (hgx - (52 : Int32)) T284.heap n0 (Nat.le_trans Z0 K284.1)) hZ (hw _ (List.mem_of_getElem? (i := 70) rfl)) (hw _ (List.mem_of_getElem? (i := 69) rfl)) (by decide) (by decide)) (g := (mkF m 71 #[.val (.ref a), .val (.int tp2), .val (.int hgx), .unset, .unset, .unset] [(.int (hgx - (52 : Int32))), (.int (0 : Int32))])) rfl (by rw [hml]; rfl) (argsL := [(.int (0 : Int32)), (.int (hgx - (52 : Int32)))]) (rest := []) (lenOf pd__II_I rfl) rfl (by show 2 * 0 + _ ≤ _; exact Nat.le_of_eq rfl) (hb hby d5_71) (fun _ _ => ⟨rfl, e359, (by decide : 0 + 0 ≤ _), (by decide : 0 + 0 ≤ _)⟩))
    obtain ⟨rfl, N364q, e364⟩ := hQ364
    have N364 := Fr.app N359 N364q
    have S365 : Go p e below s₁ (entryFrame m #[(.ref a)] 6) T364 (mkF m 74 #[.val (.ref a), .val (.int tp2), .val (.int hgx), .unset, .unset, .unset] [(.int (if (0 : Int32) < (hgx - (52 : Int32)) then (hgx - (52 : Int32)) else (0 : Int32)))]) := fun t kt => S363 t (st364 t kt)
    clear S363 st364 X359 e359
    have q367 : (if (0 : Int32) < (hgx - (52 : Int32)) then (hgx - (52 : Int32)) else (0 : Int32)) = pos := own_mx hhg hpp hp2
    have S366 : Go p e below s₁ (entryFrame m #[(.ref a)] 6) T364 (mkF m 74 #[.val (.ref a), .val (.int tp2), .val (.int hgx), .unset, .unset, .unset] [(.int pos)]) := by have h := S365; rw [q367] at h; exact h
    clear S365
    have S368 : Go p e below s₁ (entryFrame m #[(.ref a)] 6) T364 (mkF m 77 #[.val (.ref a), .val (.int tp2), .val (.int hgx), .val (.int pos), .unset, .unset] [(.int pos), (.ref a)]) := fun t kt => S366 t (by
      refine XS.istoreN X364.here hx rfl (hb hby d5_74) rfl (l' := #[.val (.ref a), .val (.int tp2), .val (.int hgx), .val (.int pos), .unset, .unset]) rfl ?_
      show Steps p.tables e below (T364.setTop (mkF m 75 #[.val (.ref a), .val (.int tp2), .val (.int hgx), .val (.int pos), .unset, .unset] [])) _
      refine XS.aloadN X364.here hx rfl (hb hby d5_75) rfl rfl ?_
      show Steps p.tables e below (T364.setTop (mkF m 76 #[.val (.ref a), .val (.int tp2), .val (.int hgx), .val (.int pos), .unset, .unset] [(.ref a)])) _
      refine XS.iloadN X364.here hx rfl (hb hby d5_76) rfl ?_
      show Steps p.tables e below (T364.setTop (mkF m 77 #[.val (.ref a), .val (.int tp2), .val (.int hgx), .val (.int pos), .unset, .unset] [(.int pos), (.ref a)])) _
      exact kt)
    clear S366
    obtain ⟨cq369, q369, q369'⟩ := Ex284.cell
    obtain ⟨v369, T369, L369, X369, hQ369, st369⟩ := own_outV (X364.privateBack hx (y := (⟨"com/example/umbel/umbel/rank/ExactSum", "bitsFrom", "(I)J"⟩ : MethodName)) hown (mvT hZ (hw _ (List.mem_of_getElem? (i := 71) rfl))) (mvT hZ (hw _ (List.mem_of_getElem? (i := 72) rfl))) (own_selp hZ (hw _ (List.mem_of_getElem? (i := 2) rfl)) (hw _ (List.mem_of_getElem? (i := 73) rfl)) (hw _ (List.mem_of_getElem? (i := 72) rfl)) (by decide)) (Cond.privateMethod_at (mvP hZ (hw _ (List.mem_of_getElem? (i := 73) rfl)) (args := #[]))) (mvT hZ (hw _ (List.mem_of_getElem? (i := 74) rfl))) (by decide) (backOf (W := 0) (rm_bf l Z a0 hw [] a b kb pos li n x y z sh r T284.heap n0 (Nat.le_trans Z0 K284.1) Ex284 Fa284 Va284 hl hn e4 e5 hr0 hr1) hZ (hw _ (List.mem_of_getElem? (i := 74) rfl)) (hw _ (List.mem_of_getElem? (i := 3) rfl)) (by decide) (by decide)) (g := (mkF m 77 #[.val (.ref a), .val (.int tp2), .val (.int hgx), .val (.int pos), .unset, .unset] [(.int pos), (.ref a)])) rfl (by rw [hml]; rfl) (Steps.refl _) (a := a) (by rw [e364]; exact q369) q369' (argsL := [(.int pos)]) (rest := []) (lenOf pd__I_J rfl) rfl (by show 2 * 0 + _ ≤ _; exact Nat.le_of_eq rfl) (hb hby d5_77) (fun _ _ => ⟨rfl, e364, (by decide : 0 + 0 ≤ _), (by decide : 0 + 0 ≤ _)⟩))
    obtain ⟨rfl, N369q, e369⟩ := hQ369
    have N369 := Fr.app N364 N369q
    have S370 : Go p e below s₁ (entryFrame m #[(.ref a)] 6) T369 (mkF m 80 #[.val (.ref a), .val (.int tp2), .val (.int hgx), .val (.int pos), .unset, .unset] [(.long r)]) := fun t kt => S368 t (st369 t kt)
    clear S368 st369 X364 e364
    have S371 : Go p e below s₁ (entryFrame m #[(.ref a)] 6) T369 (mkF m 84 #[.val (.ref a), .val (.int tp2), .val (.int hgx), .val (.int pos), .unset, .unset] [(.long (r &&& (9007199254740991 : Int64)))]) := fun t kt => S370 t (by
      refine X369.ldc2Long hx hown (mvT hZ (hw _ (List.mem_of_getElem? (i := 79) rfl))) (g := (mkF m 80 #[.val (.ref a), .val (.int tp2), .val (.int hgx), .val (.int pos), .unset, .unset] [(.long r)])) rfl (hb hby d5_80) _ ?_
      show Steps p.tables e below (T369.setTop (mkF m 83 #[.val (.ref a), .val (.int tp2), .val (.int hgx), .val (.int pos), .unset, .unset] [(.long (9007199254740991 : Int64)), (.long r)])) _
      refine XS.land X369.here hx rfl (hb hby d5_83) rfl ?_
      show Steps p.tables e below (T369.setTop (mkF m 84 #[.val (.ref a), .val (.int tp2), .val (.int hgx), .val (.int pos), .unset, .unset] [(.long (r &&& (9007199254740991 : Int64)))])) _
      exact kt)
    clear S370
    have q373 : (r &&& (9007199254740991 : Int64)) = sig := hsg
    have S372 : Go p e below s₁ (entryFrame m #[(.ref a)] 6) T369 (mkF m 84 #[.val (.ref a), .val (.int tp2), .val (.int hgx), .val (.int pos), .unset, .unset] [(.long sig)]) := by have h := S371; rw [q373] at h; exact h
    clear S371
    have S374 : Go p e below s₁ (entryFrame m #[(.ref a)] 6) T369 (mkF m 87 #[.val (.ref a), .val (.int tp2), .val (.int hgx), .val (.int pos), .val (.long sig), .second] [(.int pos)]) := fun t kt => S372 t (by
      refine XS.lstore X369.here hx rfl (hb hby d5_84) rfl (l' := #[.val (.ref a), .val (.int tp2), .val (.int hgx), .val (.int pos), .val (.long sig), .second]) rfl ?_
      show Steps p.tables e below (T369.setTop (mkF m 86 #[.val (.ref a), .val (.int tp2), .val (.int hgx), .val (.int pos), .val (.long sig), .second] [])) _
      refine XS.iloadN X369.here hx rfl (hb hby d5_86) rfl ?_
      show Steps p.tables e below (T369.setTop (mkF m 87 #[.val (.ref a), .val (.int tp2), .val (.int hgx), .val (.int pos), .val (.long sig), .second] [(.int pos)])) _
      exact kt)
    clear S372
    have S375 : Go p e below s₁ (entryFrame m #[(.ref a)] 6) T369 (mkF m 94 #[.val (.ref a), .val (.int tp2), .val (.int hgx), .val (.int pos), .val (.long sig), .second] [(.int (pos - (1 : Int32))), (.ref a)]) := fun t kt => S374 t (by
      refine XS.ifNo X369.here hx rfl (hb hby d5_87) rfl ((if0 _ _).trans (tlt (show (0 : Int32) < pos from (own_plt (by rw [own_z32]; exact hpp)))).2.2.2) ?_
      show Steps p.tables e below (T369.setTop (mkF m 90 #[.val (.ref a), .val (.int tp2), .val (.int hgx), .val (.int pos), .val (.long sig), .second] [])) _
      refine XS.aloadN X369.here hx rfl (hb hby d5_90) rfl rfl ?_
      show Steps p.tables e below (T369.setTop (mkF m 91 #[.val (.ref a), .val (.int tp2), .val (.int hgx), .val (.int pos), .val (.long sig), .second] [(.ref a)])) _
      refine XS.iloadN X369.here hx rfl (hb hby d5_91) rfl ?_
      show Steps p.tables e below (T369.setTop (mkF m 92 #[.val (.ref a), .val (.int tp2), .val (.int hgx), .val (.int pos), .val (.long sig), .second] [(.int pos), (.ref a)])) _
      refine XS.iconst X369.here hx rfl (hb hby d5_92) ?_
      show Steps p.tables e below (T369.setTop (mkF m 93 #[.val (.ref a), .val (.int tp2), .val (.int hgx), .val (.int pos), .val (.long sig), .second] [(.int (1 : Int32)), (.int pos), (.ref a)])) _
      refine XS.isub X369.here hx rfl (hb hby d5_93) rfl ?_
      show Steps p.tables e below (T369.setTop (mkF m 94 #[.val (.ref a), .val (.int tp2), .val (.int hgx), .val (.int pos), .val (.long sig), .second] [(.int (pos - (1 : Int32))), (.ref a)])) _
      exact kt)
    clear S374
    obtain ⟨cq376, q376, q376'⟩ := Ex284.cell
    obtain ⟨v376, T376, L376, X376, hQ376, st376⟩ := own_outV (X369.privateBack hx (y := (⟨"com/example/umbel/umbel/rank/ExactSum", "bit", "(I)Z"⟩ : MethodName)) hown (mvT hZ (hw _ (List.mem_of_getElem? (i := 80) rfl))) (mvT hZ (hw _ (List.mem_of_getElem? (i := 81) rfl))) (own_selp hZ (hw _ (List.mem_of_getElem? (i := 2) rfl)) (hw _ (List.mem_of_getElem? (i := 82) rfl)) (hw _ (List.mem_of_getElem? (i := 81) rfl)) (by decide)) (Cond.privateMethod_at (mvP hZ (hw _ (List.mem_of_getElem? (i := 82) rfl)) (args := #[]))) (mvT hZ (hw _ (List.mem_of_getElem? (i := 83) rfl))) (by decide) (backOf (W := 0) (rm_bit l Z a0 hw [] a b kb (pos - (1 : Int32)) n x y z kq T284.heap n0 (Nat.le_trans Z0 K284.1) Ex284 Fa284 Va284 hn hkq hq hb0) hZ (hw _ (List.mem_of_getElem? (i := 83) rfl)) (hw _ (List.mem_of_getElem? (i := 3) rfl)) (by decide) (by decide)) (g := (mkF m 94 #[.val (.ref a), .val (.int tp2), .val (.int hgx), .val (.int pos), .val (.long sig), .second] [(.int (pos - (1 : Int32))), (.ref a)])) rfl (by rw [hml]; rfl) (Steps.refl _) (a := a) (by rw [e369]; exact q376) q376' (argsL := [(.int (pos - (1 : Int32)))]) (rest := []) (lenOf pd__I_Z rfl) rfl (by show 2 * 0 + _ ≤ _; exact Nat.le_of_eq rfl) (hb hby d5_94) (fun _ _ => ⟨rfl, e369, (by decide : 0 + 0 ≤ _), (by decide : 0 + 0 ≤ _)⟩))
    obtain ⟨rfl, N376q, e376⟩ := hQ376
    have N376 := Fr.app N369 N376q
    have S377 : Go p e below s₁ (entryFrame m #[(.ref a)] 6) T376 (mkF m 97 #[.val (.ref a), .val (.int tp2), .val (.int hgx), .val (.int pos), .val (.long sig), .second] [(.int (0 : Int32))]) := fun t kt => S375 t (st376 t kt)
    clear S375 st376 X369 e369
    have S378 : Go p e below s₁ (entryFrame m #[(.ref a)] 6) T376 (mkF m 147 #[.val (.ref a), .val (.int tp2), .val (.int hgx), .val (.int pos), .val (.long sig), .second] [(.int (2046 : Int32)), (.int pos)]) := fun t kt => S377 t (by
      refine XS.ifYes X376.here hx rfl (pc0 := 97) (pc' := 143) rfl (hb hby d5_97) rfl ((if0 _ _).trans (teq (show (0 : Int32) = (0 : Int32) from (by decide))).1) (by decide) (by decide) ?_
      show Steps p.tables e below (T376.setTop (mkF m 143 #[.val (.ref a), .val (.int tp2), .val (.int hgx), .val (.int pos), .val (.long sig), .second] [])) _
      refine XS.iloadN X376.here hx rfl (hb hby d5_143) rfl ?_
      show Steps p.tables e below (T376.setTop (mkF m 144 #[.val (.ref a), .val (.int tp2), .val (.int hgx), .val (.int pos), .val (.long sig), .second] [(.int pos)])) _
      refine XS.sipush X376.here hx rfl (hb hby d5_144) ?_
      show Steps p.tables e below (T376.setTop (mkF m 147 #[.val (.ref a), .val (.int tp2), .val (.int hgx), .val (.int pos), .val (.long sig), .second] [(.int (2046 : Int32)), (.int pos)])) _
      exact kt)
    clear S377
    have S379 : Go p e below s₁ (entryFrame m #[(.ref a)] 6) T376 (mkF m 162 #[.val (.ref a), .val (.int tp2), .val (.int hgx), .val (.int pos), .val (.long sig), .second] [(.long (((pos.toInt64) <<< ((52 : Int32) &&& 0x3f).toInt64) + sig))]) := fun t kt => S378 t (by
      refine XS.icmpYes X376.here hx rfl (pc0 := 147) (pc' := 154) rfl (hb hby d5_147) rfl (tlt (show pos < (2046 : Int32) from (own_plt (by rw [own_2046]; exact hp2)))).1 (by decide) (by decide) ?_
      show Steps p.tables e below (T376.setTop (mkF m 154 #[.val (.ref a), .val (.int tp2), .val (.int hgx), .val (.int pos), .val (.long sig), .second] [])) _
      refine XS.iloadN X376.here hx rfl (hb hby d5_154) rfl ?_
      show Steps p.tables e below (T376.setTop (mkF m 155 #[.val (.ref a), .val (.int tp2), .val (.int hgx), .val (.int pos), .val (.long sig), .second] [(.int pos)])) _
      refine XS.i2l X376.here hx rfl (hb hby d5_155) rfl ?_
      show Steps p.tables e below (T376.setTop (mkF m 156 #[.val (.ref a), .val (.int tp2), .val (.int hgx), .val (.int pos), .val (.long sig), .second] [(.long (pos.toInt64))])) _
      refine XS.bipush X376.here hx rfl (hb hby d5_156) ?_
      show Steps p.tables e below (T376.setTop (mkF m 158 #[.val (.ref a), .val (.int tp2), .val (.int hgx), .val (.int pos), .val (.long sig), .second] [(.int (52 : Int32)), (.long (pos.toInt64))])) _
      refine XS.lshl X376.here hx rfl (hb hby d5_158) rfl ?_
      show Steps p.tables e below (T376.setTop (mkF m 159 #[.val (.ref a), .val (.int tp2), .val (.int hgx), .val (.int pos), .val (.long sig), .second] [(.long ((pos.toInt64) <<< ((52 : Int32) &&& 0x3f).toInt64))])) _
      refine XS.lload X376.here hx rfl (hb hby d5_159) rfl ?_
      show Steps p.tables e below (T376.setTop (mkF m 161 #[.val (.ref a), .val (.int tp2), .val (.int hgx), .val (.int pos), .val (.long sig), .second] [(.long sig), (.long ((pos.toInt64) <<< ((52 : Int32) &&& 0x3f).toInt64))])) _
      refine XS.ladd X376.here hx rfl (hb hby d5_161) rfl ?_
      show Steps p.tables e below (T376.setTop (mkF m 162 #[.val (.ref a), .val (.int tp2), .val (.int hgx), .val (.int pos), .val (.long sig), .second] [(.long (((pos.toInt64) <<< ((52 : Int32) &&& 0x3f).toInt64) + sig))])) _
      exact kt)
    clear S378
    have q381 : (((pos.toInt64) <<< ((52 : Int32) &&& 0x3f).toInt64) + sig) = xb.toInt64 := hbits
    have S380 : Go p e below s₁ (entryFrame m #[(.ref a)] 6) T376 (mkF m 162 #[.val (.ref a), .val (.int tp2), .val (.int hgx), .val (.int pos), .val (.long sig), .second] [(.long xb.toInt64)]) := by have h := S379; rw [q381] at h; exact h
    clear S379
    obtain ⟨T382, X382, e382, st382⟩ := own_lbits X376 hx hZ hown (hw _ (List.mem_of_getElem? (i := 84) rfl)) (hw _ (List.mem_of_getElem? (i := 85) rfl)) (hw _ (List.mem_of_getElem? (i := 21) rfl)) (hw _ (List.mem_of_getElem? (i := 86) rfl)) e376 (by decide) (W := 0) (by decide) (g := (mkF m 162 #[.val (.ref a), .val (.int tp2), .val (.int hgx), .val (.int pos), .val (.long sig), .second] [(.long xb.toInt64)])) rfl (by rw [hml]; rfl) hsn rfl (by show 2 * 0 + _ ≤ _; exact Nat.le_of_eq rfl) (hb hby d5_162)
    have S383 : Go p e below s₁ (entryFrame m #[(.ref a)] 6) T382 (mkF m 165 #[.val (.ref a), .val (.int tp2), .val (.int hgx), .val (.int pos), .val (.long sig), .second] [(.double xb.toInt64.toUInt64)]) := fun t kt => S380 t (st382 t kt)
    clear S380 st382 X376 e376
    have q385 : xb.toInt64.toUInt64 = xb := own_back xb
    have S384 : Go p e below s₁ (entryFrame m #[(.ref a)] 6) T382 (mkF m 165 #[.val (.ref a), .val (.int tp2), .val (.int hgx), .val (.int pos), .val (.long sig), .second] [(.double xb)]) := by have h := S383; rw [q385] at h; exact h
    clear S383
    obtain ⟨fs, hr, hrun, hended, hW, hsame⟩ := X382.leave (v := some (.double xb)) (fun h => by first | rfl | (rw [Bd.returns] at h; cases h))
    refine ⟨_, _, S384 _ ?_, hrun, hended, _, _, rfl, ?_, ⟨_, rfl⟩, hW, hsame.mono (by decide) (by decide)⟩
    · exact retOut X382 hx Bd.returns rfl (Or.inr (Or.inr (Or.inl ⟨rfl, rfl, _, rfl⟩))) (hb hby d5_165) hr
    · show Q_val Z a b kb li n x y z xb h0 n0 _ T382.heap _
      rw [e382]
      exact ⟨rfl, N376, Kk284, Ex284, Fa284, Fb284, Fc284, Fd284, Va284⟩
  · have S300 : Go p e below s₁ (entryFrame m #[(.ref a)] 6) T295 (mkF m 36 #[.val (.ref a), .val (.int tp1), .unset, .unset, .unset, .unset] []) := fun t kt => S299 t (by
      refine XS.ifYes X295.here hx rfl (pc0 := 27) (pc' := 36) rfl (hb hby d5_27) rfl ((if0 _ _).trans (feq (show ¬ ((lcmpW z (0 : Int64)) = (0 : Int32)) from hzz)).2) (by decide) (by decide) ?_
      show Steps p.tables e below (T295.setTop (mkF m 36 #[.val (.ref a), .val (.int tp1), .unset, .unset, .unset, .unset] [])) _
      exact kt)
    clear S299
    have hz1 := own_zne hzz
    obtain ⟨h12, hzl, hzu⟩ : 12 ≤ k ∧ ((2 ^ (k - 12) : Nat) : Int) ≤ z.toInt ∧ z.toInt < ((2 ^ (k - 12 + 1) : Nat) : Int) := htop.resolve_right (fun q => hz1 q.2.1)
    have rt9 := rt1
    have S301 : Go p e below s₁ (entryFrame m #[(.ref a)] 6) T295 (mkF m 38 #[.val (.ref a), .val (.int tp1), .unset, .unset, .unset, .unset] [(.ref a), (.int tp1)]) := fun t kt => S300 t (by
      refine XS.iloadN X295.here hx rfl (hb hby d5_36) rfl ?_
      show Steps p.tables e below (T295.setTop (mkF m 37 #[.val (.ref a), .val (.int tp1), .unset, .unset, .unset, .unset] [(.int tp1)])) _
      refine XS.aloadN X295.here hx rfl (hb hby d5_37) rfl rfl ?_
      show Steps p.tables e below (T295.setTop (mkF m 38 #[.val (.ref a), .val (.int tp1), .unset, .unset, .unset, .unset] [(.ref a), (.int tp1)])) _
      exact kt)
    clear S300
    obtain ⟨T302, X302, e302, st302⟩ := getF X295 hx hZ hown (host := "") (Or.inl (hw _ (List.mem_of_getElem? (i := 29) rfl))) Via.refl e295 Fb284 (g := (mkF m 38 #[.val (.ref a), .val (.int tp1), .unset, .unset, .unset, .unset] [(.ref a), (.int tp1)])) rfl rfl (hb hby d5_38)
    have S303 : Go p e below s₁ (entryFrame m #[(.ref a)] 6) T302 (mkF m 41 #[.val (.ref a), .val (.int tp1), .unset, .unset, .unset, .unset] [(.int li), (.int tp1)]) := fun t kt => S301 t (st302 t kt)
    clear S301 st302 X295 e295
    have S304 : Go p e below s₁ (entryFrame m #[(.ref a)] 6) T302 (mkF m 56 #[.val (.ref a), .val (.int tp1), .unset, .unset, .unset, .unset] [(.ref a), (.int (((tp1 * (32 : Int32)) + (64 : Int32)) - (1 : Int32)))]) := fun t kt => S303 t (by
      refine XS.icmpYes X302.here hx rfl (pc0 := 41) (pc' := 46) rfl (hb hby d5_41) rfl (flt (show ¬ (tp1 < li) from (own_nlt (by omega)))).2.1 (by decide) (by decide) ?_
      show Steps p.tables e below (T302.setTop (mkF m 46 #[.val (.ref a), .val (.int tp1), .unset, .unset, .unset, .unset] [])) _
      refine XS.iloadN X302.here hx rfl (hb hby d5_46) rfl ?_
      show Steps p.tables e below (T302.setTop (mkF m 47 #[.val (.ref a), .val (.int tp1), .unset, .unset, .unset, .unset] [(.int tp1)])) _
      refine XS.bipush X302.here hx rfl (hb hby d5_47) ?_
      show Steps p.tables e below (T302.setTop (mkF m 49 #[.val (.ref a), .val (.int tp1), .unset, .unset, .unset, .unset] [(.int (32 : Int32)), (.int tp1)])) _
      refine XS.imul X302.here hx rfl (hb hby d5_49) rfl ?_
      show Steps p.tables e below (T302.setTop (mkF m 50 #[.val (.ref a), .val (.int tp1), .unset, .unset, .unset, .unset] [(.int (tp1 * (32 : Int32)))])) _
      refine XS.bipush X302.here hx rfl (hb hby d5_50) ?_
      show Steps p.tables e below (T302.setTop (mkF m 52 #[.val (.ref a), .val (.int tp1), .unset, .unset, .unset, .unset] [(.int (64 : Int32)), (.int (tp1 * (32 : Int32)))])) _
      refine XS.iadd X302.here hx rfl (hb hby d5_52) rfl ?_
      show Steps p.tables e below (T302.setTop (mkF m 53 #[.val (.ref a), .val (.int tp1), .unset, .unset, .unset, .unset] [(.int ((tp1 * (32 : Int32)) + (64 : Int32)))])) _
      refine XS.iconst X302.here hx rfl (hb hby d5_53) ?_
      show Steps p.tables e below (T302.setTop (mkF m 54 #[.val (.ref a), .val (.int tp1), .unset, .unset, .unset, .unset] [(.int (1 : Int32)), (.int ((tp1 * (32 : Int32)) + (64 : Int32)))])) _
      refine XS.isub X302.here hx rfl (hb hby d5_54) rfl ?_
      show Steps p.tables e below (T302.setTop (mkF m 55 #[.val (.ref a), .val (.int tp1), .unset, .unset, .unset, .unset] [(.int (((tp1 * (32 : Int32)) + (64 : Int32)) - (1 : Int32)))])) _
      refine XS.aloadN X302.here hx rfl (hb hby d5_55) rfl rfl ?_
      show Steps p.tables e below (T302.setTop (mkF m 56 #[.val (.ref a), .val (.int tp1), .unset, .unset, .unset, .unset] [(.ref a), (.int (((tp1 * (32 : Int32)) + (64 : Int32)) - (1 : Int32)))])) _
      exact kt)
    clear S303
    obtain ⟨T305, X305, e305, st305⟩ := getF X302 hx hZ hown (host := "") (Or.inl (hw _ (List.mem_of_getElem? (i := 11) rfl))) Via.refl e302 Fa284 (g := (mkF m 56 #[.val (.ref a), .val (.int tp1), .unset, .unset, .unset, .unset] [(.ref a), (.int (((tp1 * (32 : Int32)) + (64 : Int32)) - (1 : Int32)))])) rfl rfl (hb hby d5_56)
    have S306 : Go p e below s₁ (entryFrame m #[(.ref a)] 6) T305 (mkF m 59 #[.val (.ref a), .val (.int tp1), .unset, .unset, .unset, .unset] [(.ref b), (.int (((tp1 * (32 : Int32)) + (64 : Int32)) - (1 : Int32)))]) := fun t kt => S304 t (st305 t kt)
    clear S304 st305 X302 e302
    have S307 : Go p e below s₁ (entryFrame m #[(.ref a)] 6) T305 (mkF m 60 #[.val (.ref a), .val (.int tp1), .unset, .unset, .unset, .unset] [(.int tp1), (.ref b), (.int (((tp1 * (32 : Int32)) + (64 : Int32)) - (1 : Int32)))]) := fun t kt => S306 t (by
      refine XS.iloadN X305.here hx rfl (hb hby d5_59) rfl ?_
      show Steps p.tables e below (T305.setTop (mkF m 60 #[.val (.ref a), .val (.int tp1), .unset, .unset, .unset, .unset] [(.int tp1), (.ref b), (.int (((tp1 * (32 : Int32)) + (64 : Int32)) - (1 : Int32)))])) _
      exact kt)
    clear S306
    obtain ⟨co308, Ao308, qo308, So308, No308, Ho308, Go308⟩ := id Va284
    have hino308 : ¬ (tp1 < 0 ∨ co308.slots.size ≤ (tp1).toNatClampNeg) := inb_of So308 rt9.1
    have hato308 : co308.slots[(tp1).toNatClampNeg]? = some (.long z) := Has.at Ho308 hino308 (by rw [rt9.2]; exact own_at2 n hn x y z)
    have S309 : Go p e below s₁ (entryFrame m #[(.ref a)] 6) T305 (mkF m 61 #[.val (.ref a), .val (.int tp1), .unset, .unset, .unset, .unset] [(.long z), (.int (((tp1 * (32 : Int32)) + (64 : Int32)) - (1 : Int32)))]) := fun t kt => S307 t (by
      refine X305.laload hx (j := tp1) (v := (.long z)) (by rw [e305]; exact Ao308.1) (State.isArrayOf_alike hZ.alike Ao308.2.1) Ao308.2.2 hino308 hato308 (g := (mkF m 60 #[.val (.ref a), .val (.int tp1), .unset, .unset, .unset, .unset] [(.int tp1), (.ref b), (.int (((tp1 * (32 : Int32)) + (64 : Int32)) - (1 : Int32)))])) rfl rfl (hb hby d5_60) _ ?_
      show Steps p.tables e below (T305.setTop (mkF m 61 #[.val (.ref a), .val (.int tp1), .unset, .unset, .unset, .unset] [(.long z), (.int (((tp1 * (32 : Int32)) + (64 : Int32)) - (1 : Int32)))])) _
      exact kt)
    clear S307
    obtain ⟨v310, T310, L310, X310, hQ310, st310⟩ := own_outS (Jvm.LawKit.callS X305 hx (y := (⟨"java/lang/Long", "numberOfLeadingZeros", "(J)I"⟩ : MethodName)) hown (mvT hZ (hw _ (List.mem_of_getElem? (i := 58) rfl))) (mvT hZ (hw _ (List.mem_of_getElem? (i := 59) rfl))) (mvT hZ (hw _ (List.mem_of_getElem? (i := 60) rfl))) (mvT hZ (hw _ (List.mem_of_getElem? (i := 61) rfl))) (by decide) (backOf (W := 1) (rm_nlzJ l Z a0 hw [] z (k - 12) T284.heap n0 (Nat.le_trans Z0 K284.1) (by omega) hzl hzu) hZ (hw _ (List.mem_of_getElem? (i := 61) rfl)) (hw _ (List.mem_of_getElem? (i := 60) rfl)) (by decide) (by decide)) (g := (mkF m 61 #[.val (.ref a), .val (.int tp1), .unset, .unset, .unset, .unset] [(.long z), (.int (((tp1 * (32 : Int32)) + (64 : Int32)) - (1 : Int32)))])) rfl (by rw [hml]; rfl) (argsL := [(.long z)]) (rest := [(.int (((tp1 * (32 : Int32)) + (64 : Int32)) - (1 : Int32)))]) (lenOf pd__J_I rfl) rfl (by show 2 * 0 + _ ≤ _; exact Nat.le_of_eq rfl) (hb hby d5_61) (fun _ _ => ⟨rfl, e305, (by decide : 0 + 0 ≤ _), (by decide : 0 + 0 ≤ _)⟩))
    obtain ⟨r0, rfl, hr, N310q, e310⟩ := hQ310
    have N310 := Fr.app N284 N310q
    have S311 : Go p e below s₁ (entryFrame m #[(.ref a)] 6) T310 (mkF m 64 #[.val (.ref a), .val (.int tp1), .unset, .unset, .unset, .unset] [(.int r0), (.int (((tp1 * (32 : Int32)) + (64 : Int32)) - (1 : Int32)))]) := fun t kt => S309 t (st310 t kt)
    clear S309 st310 X305 e305
    have S312 : Go p e below s₁ (entryFrame m #[(.ref a)] 6) T310 (mkF m 65 #[.val (.ref a), .val (.int tp1), .unset, .unset, .unset, .unset] [(.int ((((tp1 * (32 : Int32)) + (64 : Int32)) - (1 : Int32)) - r0))]) := fun t kt => S311 t (by
      refine XS.isub X310.here hx rfl (hb hby d5_64) rfl ?_
      show Steps p.tables e below (T310.setTop (mkF m 65 #[.val (.ref a), .val (.int tp1), .unset, .unset, .unset, .unset] [(.int ((((tp1 * (32 : Int32)) + (64 : Int32)) - (1 : Int32)) - r0))])) _
      exact kt)
    clear S311
    obtain ⟨hgx, q_hgx⟩ : ∃ z : Int32, z = ((((tp1 * (32 : Int32)) + (64 : Int32)) - (1 : Int32)) - r0) := ⟨_, rfl⟩
    have S313 : Go p e below s₁ (entryFrame m #[(.ref a)] 6) T310 (mkF m 65 #[.val (.ref a), .val (.int tp1), .unset, .unset, .unset, .unset] [(.int hgx)]) := by subst q_hgx; exact S312
    clear S312
    have hhg : hgx.toInt = pos.toInt + 52 := by rw [q_hgx]; exact own_hg t1 hr (by omega) (by omega) (by omega)
    have S314 : Go p e below s₁ (entryFrame m #[(.ref a)] 6) T310 (mkF m 71 #[.val (.ref a), .val (.int tp1), .val (.int hgx), .unset, .unset, .unset] [(.int (hgx - (52 : Int32))), (.int (0 : Int32))]) := fun t kt => S313 t (by
      refine XS.istoreN X310.here hx rfl (hb hby d5_65) rfl (l' := #[.val (.ref a), .val (.int tp1), .val (.int hgx), .unset, .unset, .unset]) rfl ?_
      show Steps p.tables e below (T310.setTop (mkF m 66 #[.val (.ref a), .val (.int tp1), .val (.int hgx), .unset, .unset, .unset] [])) _
      refine XS.iconst X310.here hx rfl (hb hby d5_66) ?_
      show Steps p.tables e below (T310.setTop (mkF m 67 #[.val (.ref a), .val (.int tp1), .val (.int hgx), .unset, .unset, .unset] [(.int (0 : Int32))])) _
      refine XS.iloadN X310.here hx rfl (hb hby d5_67) rfl ?_
      show Steps p.tables e below (T310.setTop (mkF m 68 #[.val (.ref a), .val (.int tp1), .val (.int hgx), .unset, .unset, .unset] [(.int hgx), (.int (0 : Int32))])) _
      refine XS.bipush X310.here hx rfl (hb hby d5_68) ?_
      show Steps p.tables e below (T310.setTop (mkF m 70 #[.val (.ref a), .val (.int tp1), .val (.int hgx), .unset, .unset, .unset] [(.int (52 : Int32)), (.int hgx), (.int (0 : Int32))])) _
      refine XS.isub X310.here hx rfl (hb hby d5_70) rfl ?_
      show Steps p.tables e below (T310.setTop (mkF m 71 #[.val (.ref a), .val (.int tp1), .val (.int hgx), .unset, .unset, .unset] [(.int (hgx - (52 : Int32))), (.int (0 : Int32))])) _
      exact kt)
    clear S313
    obtain ⟨v315, T315, L315, X315, hQ315, st315⟩ := own_outS (Jvm.LawKit.callS X310 hx (y := (⟨"java/lang/Math", "max", "(II)I"⟩ : MethodName)) hown (mvT hZ (hw _ (List.mem_of_getElem? (i := 67) rfl))) (mvT hZ (hw _ (List.mem_of_getElem? (i := 68) rfl))) (mvT hZ (hw _ (List.mem_of_getElem? (i := 69) rfl))) (mvT hZ (hw _ (List.mem_of_getElem? (i := 70) rfl))) (by decide) (backOf (W := 0) (rm_max l Z a0 hw [] (0 : Int32) (hgx - (52 : Int32)) T284.heap n0 (Nat.le_trans Z0 K284.1)) hZ (hw _ (List.mem_of_getElem? (i := 70) rfl)) (hw _ (List.mem_of_getElem? (i := 69) rfl)) (by decide) (by decide)) (g := (mkF m 71 #[.val (.ref a), .val (.int tp1), .val (.int hgx), .unset, .unset, .unset] [(.int (hgx - (52 : Int32))), (.int (0 : Int32))])) rfl (by rw [hml]; rfl) (argsL := [(.int (0 : Int32)), (.int (hgx - (52 : Int32)))]) (rest := []) (lenOf pd__II_I rfl) rfl (by show 2 * 0 + _ ≤ _; exact Nat.le_of_eq rfl) (hb hby d5_71) (fun _ _ => ⟨rfl, e310, (by decide : 0 + 0 ≤ _), (by decide : 0 + 0 ≤ _)⟩))
    obtain ⟨rfl, N315q, e315⟩ := hQ315
    have N315 := Fr.app N310 N315q
    have S316 : Go p e below s₁ (entryFrame m #[(.ref a)] 6) T315 (mkF m 74 #[.val (.ref a), .val (.int tp1), .val (.int hgx), .unset, .unset, .unset] [(.int (if (0 : Int32) < (hgx - (52 : Int32)) then (hgx - (52 : Int32)) else (0 : Int32)))]) := fun t kt => S314 t (st315 t kt)
    clear S314 st315 X310 e310
    have q318 : (if (0 : Int32) < (hgx - (52 : Int32)) then (hgx - (52 : Int32)) else (0 : Int32)) = pos := own_mx hhg hpp hp2
    have S317 : Go p e below s₁ (entryFrame m #[(.ref a)] 6) T315 (mkF m 74 #[.val (.ref a), .val (.int tp1), .val (.int hgx), .unset, .unset, .unset] [(.int pos)]) := by have h := S316; rw [q318] at h; exact h
    clear S316
    have S319 : Go p e below s₁ (entryFrame m #[(.ref a)] 6) T315 (mkF m 77 #[.val (.ref a), .val (.int tp1), .val (.int hgx), .val (.int pos), .unset, .unset] [(.int pos), (.ref a)]) := fun t kt => S317 t (by
      refine XS.istoreN X315.here hx rfl (hb hby d5_74) rfl (l' := #[.val (.ref a), .val (.int tp1), .val (.int hgx), .val (.int pos), .unset, .unset]) rfl ?_
      show Steps p.tables e below (T315.setTop (mkF m 75 #[.val (.ref a), .val (.int tp1), .val (.int hgx), .val (.int pos), .unset, .unset] [])) _
      refine XS.aloadN X315.here hx rfl (hb hby d5_75) rfl rfl ?_
      show Steps p.tables e below (T315.setTop (mkF m 76 #[.val (.ref a), .val (.int tp1), .val (.int hgx), .val (.int pos), .unset, .unset] [(.ref a)])) _
      refine XS.iloadN X315.here hx rfl (hb hby d5_76) rfl ?_
      show Steps p.tables e below (T315.setTop (mkF m 77 #[.val (.ref a), .val (.int tp1), .val (.int hgx), .val (.int pos), .unset, .unset] [(.int pos), (.ref a)])) _
      exact kt)
    clear S317
    obtain ⟨cq320, q320, q320'⟩ := Ex284.cell
    obtain ⟨v320, T320, L320, X320, hQ320, st320⟩ := own_outV (X315.privateBack hx (y := (⟨"com/example/umbel/umbel/rank/ExactSum", "bitsFrom", "(I)J"⟩ : MethodName)) hown (mvT hZ (hw _ (List.mem_of_getElem? (i := 71) rfl))) (mvT hZ (hw _ (List.mem_of_getElem? (i := 72) rfl))) (own_selp hZ (hw _ (List.mem_of_getElem? (i := 2) rfl)) (hw _ (List.mem_of_getElem? (i := 73) rfl)) (hw _ (List.mem_of_getElem? (i := 72) rfl)) (by decide)) (Cond.privateMethod_at (mvP hZ (hw _ (List.mem_of_getElem? (i := 73) rfl)) (args := #[]))) (mvT hZ (hw _ (List.mem_of_getElem? (i := 74) rfl))) (by decide) (backOf (W := 0) (rm_bf l Z a0 hw [] a b kb pos li n x y z sh r T284.heap n0 (Nat.le_trans Z0 K284.1) Ex284 Fa284 Va284 hl hn e4 e5 hr0 hr1) hZ (hw _ (List.mem_of_getElem? (i := 74) rfl)) (hw _ (List.mem_of_getElem? (i := 3) rfl)) (by decide) (by decide)) (g := (mkF m 77 #[.val (.ref a), .val (.int tp1), .val (.int hgx), .val (.int pos), .unset, .unset] [(.int pos), (.ref a)])) rfl (by rw [hml]; rfl) (Steps.refl _) (a := a) (by rw [e315]; exact q320) q320' (argsL := [(.int pos)]) (rest := []) (lenOf pd__I_J rfl) rfl (by show 2 * 0 + _ ≤ _; exact Nat.le_of_eq rfl) (hb hby d5_77) (fun _ _ => ⟨rfl, e315, (by decide : 0 + 0 ≤ _), (by decide : 0 + 0 ≤ _)⟩))
    obtain ⟨rfl, N320q, e320⟩ := hQ320
    have N320 := Fr.app N315 N320q
    have S321 : Go p e below s₁ (entryFrame m #[(.ref a)] 6) T320 (mkF m 80 #[.val (.ref a), .val (.int tp1), .val (.int hgx), .val (.int pos), .unset, .unset] [(.long r)]) := fun t kt => S319 t (st320 t kt)
    clear S319 st320 X315 e315
    have S322 : Go p e below s₁ (entryFrame m #[(.ref a)] 6) T320 (mkF m 84 #[.val (.ref a), .val (.int tp1), .val (.int hgx), .val (.int pos), .unset, .unset] [(.long (r &&& (9007199254740991 : Int64)))]) := fun t kt => S321 t (by
      refine X320.ldc2Long hx hown (mvT hZ (hw _ (List.mem_of_getElem? (i := 79) rfl))) (g := (mkF m 80 #[.val (.ref a), .val (.int tp1), .val (.int hgx), .val (.int pos), .unset, .unset] [(.long r)])) rfl (hb hby d5_80) _ ?_
      show Steps p.tables e below (T320.setTop (mkF m 83 #[.val (.ref a), .val (.int tp1), .val (.int hgx), .val (.int pos), .unset, .unset] [(.long (9007199254740991 : Int64)), (.long r)])) _
      refine XS.land X320.here hx rfl (hb hby d5_83) rfl ?_
      show Steps p.tables e below (T320.setTop (mkF m 84 #[.val (.ref a), .val (.int tp1), .val (.int hgx), .val (.int pos), .unset, .unset] [(.long (r &&& (9007199254740991 : Int64)))])) _
      exact kt)
    clear S321
    have q324 : (r &&& (9007199254740991 : Int64)) = sig := hsg
    have S323 : Go p e below s₁ (entryFrame m #[(.ref a)] 6) T320 (mkF m 84 #[.val (.ref a), .val (.int tp1), .val (.int hgx), .val (.int pos), .unset, .unset] [(.long sig)]) := by have h := S322; rw [q324] at h; exact h
    clear S322
    have S325 : Go p e below s₁ (entryFrame m #[(.ref a)] 6) T320 (mkF m 87 #[.val (.ref a), .val (.int tp1), .val (.int hgx), .val (.int pos), .val (.long sig), .second] [(.int pos)]) := fun t kt => S323 t (by
      refine XS.lstore X320.here hx rfl (hb hby d5_84) rfl (l' := #[.val (.ref a), .val (.int tp1), .val (.int hgx), .val (.int pos), .val (.long sig), .second]) rfl ?_
      show Steps p.tables e below (T320.setTop (mkF m 86 #[.val (.ref a), .val (.int tp1), .val (.int hgx), .val (.int pos), .val (.long sig), .second] [])) _
      refine XS.iloadN X320.here hx rfl (hb hby d5_86) rfl ?_
      show Steps p.tables e below (T320.setTop (mkF m 87 #[.val (.ref a), .val (.int tp1), .val (.int hgx), .val (.int pos), .val (.long sig), .second] [(.int pos)])) _
      exact kt)
    clear S323
    have S326 : Go p e below s₁ (entryFrame m #[(.ref a)] 6) T320 (mkF m 94 #[.val (.ref a), .val (.int tp1), .val (.int hgx), .val (.int pos), .val (.long sig), .second] [(.int (pos - (1 : Int32))), (.ref a)]) := fun t kt => S325 t (by
      refine XS.ifNo X320.here hx rfl (hb hby d5_87) rfl ((if0 _ _).trans (tlt (show (0 : Int32) < pos from (own_plt (by rw [own_z32]; exact hpp)))).2.2.2) ?_
      show Steps p.tables e below (T320.setTop (mkF m 90 #[.val (.ref a), .val (.int tp1), .val (.int hgx), .val (.int pos), .val (.long sig), .second] [])) _
      refine XS.aloadN X320.here hx rfl (hb hby d5_90) rfl rfl ?_
      show Steps p.tables e below (T320.setTop (mkF m 91 #[.val (.ref a), .val (.int tp1), .val (.int hgx), .val (.int pos), .val (.long sig), .second] [(.ref a)])) _
      refine XS.iloadN X320.here hx rfl (hb hby d5_91) rfl ?_
      show Steps p.tables e below (T320.setTop (mkF m 92 #[.val (.ref a), .val (.int tp1), .val (.int hgx), .val (.int pos), .val (.long sig), .second] [(.int pos), (.ref a)])) _
      refine XS.iconst X320.here hx rfl (hb hby d5_92) ?_
      show Steps p.tables e below (T320.setTop (mkF m 93 #[.val (.ref a), .val (.int tp1), .val (.int hgx), .val (.int pos), .val (.long sig), .second] [(.int (1 : Int32)), (.int pos), (.ref a)])) _
      refine XS.isub X320.here hx rfl (hb hby d5_93) rfl ?_
      show Steps p.tables e below (T320.setTop (mkF m 94 #[.val (.ref a), .val (.int tp1), .val (.int hgx), .val (.int pos), .val (.long sig), .second] [(.int (pos - (1 : Int32))), (.ref a)])) _
      exact kt)
    clear S325
    obtain ⟨cq327, q327, q327'⟩ := Ex284.cell
    obtain ⟨v327, T327, L327, X327, hQ327, st327⟩ := own_outV (X320.privateBack hx (y := (⟨"com/example/umbel/umbel/rank/ExactSum", "bit", "(I)Z"⟩ : MethodName)) hown (mvT hZ (hw _ (List.mem_of_getElem? (i := 80) rfl))) (mvT hZ (hw _ (List.mem_of_getElem? (i := 81) rfl))) (own_selp hZ (hw _ (List.mem_of_getElem? (i := 2) rfl)) (hw _ (List.mem_of_getElem? (i := 82) rfl)) (hw _ (List.mem_of_getElem? (i := 81) rfl)) (by decide)) (Cond.privateMethod_at (mvP hZ (hw _ (List.mem_of_getElem? (i := 82) rfl)) (args := #[]))) (mvT hZ (hw _ (List.mem_of_getElem? (i := 83) rfl))) (by decide) (backOf (W := 0) (rm_bit l Z a0 hw [] a b kb (pos - (1 : Int32)) n x y z kq T284.heap n0 (Nat.le_trans Z0 K284.1) Ex284 Fa284 Va284 hn hkq hq hb0) hZ (hw _ (List.mem_of_getElem? (i := 83) rfl)) (hw _ (List.mem_of_getElem? (i := 3) rfl)) (by decide) (by decide)) (g := (mkF m 94 #[.val (.ref a), .val (.int tp1), .val (.int hgx), .val (.int pos), .val (.long sig), .second] [(.int (pos - (1 : Int32))), (.ref a)])) rfl (by rw [hml]; rfl) (Steps.refl _) (a := a) (by rw [e320]; exact q327) q327' (argsL := [(.int (pos - (1 : Int32)))]) (rest := []) (lenOf pd__I_Z rfl) rfl (by show 2 * 0 + _ ≤ _; exact Nat.le_of_eq rfl) (hb hby d5_94) (fun _ _ => ⟨rfl, e320, (by decide : 0 + 0 ≤ _), (by decide : 0 + 0 ≤ _)⟩))
    obtain ⟨rfl, N327q, e327⟩ := hQ327
    have N327 := Fr.app N320 N327q
    have S328 : Go p e below s₁ (entryFrame m #[(.ref a)] 6) T327 (mkF m 97 #[.val (.ref a), .val (.int tp1), .val (.int hgx), .val (.int pos), .val (.long sig), .second] [(.int (0 : Int32))]) := fun t kt => S326 t (st327 t kt)
    clear S326 st327 X320 e320
    have S329 : Go p e below s₁ (entryFrame m #[(.ref a)] 6) T327 (mkF m 147 #[.val (.ref a), .val (.int tp1), .val (.int hgx), .val (.int pos), .val (.long sig), .second] [(.int (2046 : Int32)), (.int pos)]) := fun t kt => S328 t (by
      refine XS.ifYes X327.here hx rfl (pc0 := 97) (pc' := 143) rfl (hb hby d5_97) rfl ((if0 _ _).trans (teq (show (0 : Int32) = (0 : Int32) from (by decide))).1) (by decide) (by decide) ?_
      show Steps p.tables e below (T327.setTop (mkF m 143 #[.val (.ref a), .val (.int tp1), .val (.int hgx), .val (.int pos), .val (.long sig), .second] [])) _
      refine XS.iloadN X327.here hx rfl (hb hby d5_143) rfl ?_
      show Steps p.tables e below (T327.setTop (mkF m 144 #[.val (.ref a), .val (.int tp1), .val (.int hgx), .val (.int pos), .val (.long sig), .second] [(.int pos)])) _
      refine XS.sipush X327.here hx rfl (hb hby d5_144) ?_
      show Steps p.tables e below (T327.setTop (mkF m 147 #[.val (.ref a), .val (.int tp1), .val (.int hgx), .val (.int pos), .val (.long sig), .second] [(.int (2046 : Int32)), (.int pos)])) _
      exact kt)
    clear S328
    have S330 : Go p e below s₁ (entryFrame m #[(.ref a)] 6) T327 (mkF m 162 #[.val (.ref a), .val (.int tp1), .val (.int hgx), .val (.int pos), .val (.long sig), .second] [(.long (((pos.toInt64) <<< ((52 : Int32) &&& 0x3f).toInt64) + sig))]) := fun t kt => S329 t (by
      refine XS.icmpYes X327.here hx rfl (pc0 := 147) (pc' := 154) rfl (hb hby d5_147) rfl (tlt (show pos < (2046 : Int32) from (own_plt (by rw [own_2046]; exact hp2)))).1 (by decide) (by decide) ?_
      show Steps p.tables e below (T327.setTop (mkF m 154 #[.val (.ref a), .val (.int tp1), .val (.int hgx), .val (.int pos), .val (.long sig), .second] [])) _
      refine XS.iloadN X327.here hx rfl (hb hby d5_154) rfl ?_
      show Steps p.tables e below (T327.setTop (mkF m 155 #[.val (.ref a), .val (.int tp1), .val (.int hgx), .val (.int pos), .val (.long sig), .second] [(.int pos)])) _
      refine XS.i2l X327.here hx rfl (hb hby d5_155) rfl ?_
      show Steps p.tables e below (T327.setTop (mkF m 156 #[.val (.ref a), .val (.int tp1), .val (.int hgx), .val (.int pos), .val (.long sig), .second] [(.long (pos.toInt64))])) _
      refine XS.bipush X327.here hx rfl (hb hby d5_156) ?_
      show Steps p.tables e below (T327.setTop (mkF m 158 #[.val (.ref a), .val (.int tp1), .val (.int hgx), .val (.int pos), .val (.long sig), .second] [(.int (52 : Int32)), (.long (pos.toInt64))])) _
      refine XS.lshl X327.here hx rfl (hb hby d5_158) rfl ?_
      show Steps p.tables e below (T327.setTop (mkF m 159 #[.val (.ref a), .val (.int tp1), .val (.int hgx), .val (.int pos), .val (.long sig), .second] [(.long ((pos.toInt64) <<< ((52 : Int32) &&& 0x3f).toInt64))])) _
      refine XS.lload X327.here hx rfl (hb hby d5_159) rfl ?_
      show Steps p.tables e below (T327.setTop (mkF m 161 #[.val (.ref a), .val (.int tp1), .val (.int hgx), .val (.int pos), .val (.long sig), .second] [(.long sig), (.long ((pos.toInt64) <<< ((52 : Int32) &&& 0x3f).toInt64))])) _
      refine XS.ladd X327.here hx rfl (hb hby d5_161) rfl ?_
      show Steps p.tables e below (T327.setTop (mkF m 162 #[.val (.ref a), .val (.int tp1), .val (.int hgx), .val (.int pos), .val (.long sig), .second] [(.long (((pos.toInt64) <<< ((52 : Int32) &&& 0x3f).toInt64) + sig))])) _
      exact kt)
    clear S329
    have q332 : (((pos.toInt64) <<< ((52 : Int32) &&& 0x3f).toInt64) + sig) = xb.toInt64 := hbits
    have S331 : Go p e below s₁ (entryFrame m #[(.ref a)] 6) T327 (mkF m 162 #[.val (.ref a), .val (.int tp1), .val (.int hgx), .val (.int pos), .val (.long sig), .second] [(.long xb.toInt64)]) := by have h := S330; rw [q332] at h; exact h
    clear S330
    obtain ⟨T333, X333, e333, st333⟩ := own_lbits X327 hx hZ hown (hw _ (List.mem_of_getElem? (i := 84) rfl)) (hw _ (List.mem_of_getElem? (i := 85) rfl)) (hw _ (List.mem_of_getElem? (i := 21) rfl)) (hw _ (List.mem_of_getElem? (i := 86) rfl)) e327 (by decide) (W := 0) (by decide) (g := (mkF m 162 #[.val (.ref a), .val (.int tp1), .val (.int hgx), .val (.int pos), .val (.long sig), .second] [(.long xb.toInt64)])) rfl (by rw [hml]; rfl) hsn rfl (by show 2 * 0 + _ ≤ _; exact Nat.le_of_eq rfl) (hb hby d5_162)
    have S334 : Go p e below s₁ (entryFrame m #[(.ref a)] 6) T333 (mkF m 165 #[.val (.ref a), .val (.int tp1), .val (.int hgx), .val (.int pos), .val (.long sig), .second] [(.double xb.toInt64.toUInt64)]) := fun t kt => S331 t (st333 t kt)
    clear S331 st333 X327 e327
    have q336 : xb.toInt64.toUInt64 = xb := own_back xb
    have S335 : Go p e below s₁ (entryFrame m #[(.ref a)] 6) T333 (mkF m 165 #[.val (.ref a), .val (.int tp1), .val (.int hgx), .val (.int pos), .val (.long sig), .second] [(.double xb)]) := by have h := S334; rw [q336] at h; exact h
    clear S334
    obtain ⟨fs, hr, hrun, hended, hW, hsame⟩ := X333.leave (v := some (.double xb)) (fun h => by first | rfl | (rw [Bd.returns] at h; cases h))
    refine ⟨_, _, S335 _ ?_, hrun, hended, _, _, rfl, ?_, ⟨_, rfl⟩, hW, hsame.mono (by decide) (by decide)⟩
    · exact retOut X333 hx Bd.returns rfl (Or.inr (Or.inr (Or.inl ⟨rfl, rfl, _, rfl⟩))) (hb hby d5_165) hr
    · show Q_val Z a b kb li n x y z xb h0 n0 _ T333.heap _
      rw [e333]
      exact ⟨rfl, N327, Kk284, Ex284, Fa284, Fb284, Fc284, Fd284, Va284⟩
theorem ef_valZ (m : MethodId) (x0 : Addr) : entryFrame m #[(.ref x0)] 6 = mkF m 0 #[.val (.ref x0), .unset, .unset, .unset, .unset, .unset] [] := by first | (simp [entryFrame, mkF, argsToLocals, Value.category]; done) | rfl
theorem pn_valZ : plainName "com/example/umbel/umbel/rank/ExactSum" = true := by first | (simp [plainName, overriddenIn]; done) | decide +kernel
def Q_valZ (Z : State) (a : Addr) (b : Addr) (kb : ClassId) (li : Int32) (n : Nat) (h0 : Heap) (n0 : Nat) (v : Option Value) (h : Heap) (L : List Loc) : Prop := v = some (.double 0) ∧ Fr n0 L ∧ Keep h0 h [a, b] ∧ Exa Z h a "com/example/umbel/umbel/rank/ExactSum" ∧ Fld Z h a "com/example/umbel/umbel/rank/ExactSum" "limbs" "[J" (.ref b) ∧ Fld Z h a "com/example/umbel/umbel/rank/ExactSum" "from" "I" (.int li) ∧ Fld Z h a "com/example/umbel/umbel/rank/ExactSum" "to" "I" (.int (li + (3 : Int32))) ∧ Fld Z h a "com/example/umbel/umbel/rank/ExactSum" "pending" "I" (.int (0 : Int32)) ∧ Arv Z h b kb .long (68 : Int32) (own_L n 0 0 0) (.long (0 : Int64))
set_option maxRecDepth 65536 in
set_option maxHeartbeats 40000000 in
theorem rm_valZ (l : Launch) (Z : State) (a0 : Array Value) (hw : ∀ d ∈ tables_1, d.before a0 Z = true) (ws : List Jvm.Cond) (a : Addr) (b : Addr) (kb : ClassId) (li : Int32) (n : Nat) (pd : Int32) (h0 : Heap) (n0 : Nat) (Z0 : n0 ≤ h0.size) (E0 : Exa Z h0 a "com/example/umbel/umbel/rank/ExactSum") (F0 : Fld Z h0 a "com/example/umbel/umbel/rank/ExactSum" "limbs" "[J" (.ref b)) (F1 : Fld Z h0 a "com/example/umbel/umbel/rank/ExactSum" "from" "I" (.int li)) (F2 : Fld Z h0 a "com/example/umbel/umbel/rank/ExactSum" "to" "I" (.int (li + (3 : Int32)))) (F3 : Fld Z h0 a "com/example/umbel/umbel/rank/ExactSum" "pending" "I" (.int pd)) (V0 : Arv Z h0 b kb .long (68 : Int32) (own_L n 0 0 0) (.long (0 : Int64))) (g_a : n0 ≤ a) (g_b : n0 ≤ b) (hab : a ≠ b) (hl : li.toInt = (n : Int)) (hn : n ≤ 65) :
    MetFree l (⟨"com/example/umbel/umbel/rank/ExactSum", "value", "()D"⟩ : MethodName) (head1 (Jvm.Cond.code (⟨"com/example/umbel/umbel/rank/ExactSum", "value", "()D"⟩ : MethodName) prog_6_method_5_code 6 (some .double) :: ws) ({ frames := 2, cells := 0, slots := 0, locals := 37 } : Room)) (fun aa U => aa = #[(.ref a)] ∧ Z.Warmed39 U.vm ∧ U.heap = h0) (fun _ _ _ _ _ => True) (fun _ U o U' => ∃ v L, o = .returned v ∧ Q_valZ Z a b kb li n h0 n0 v U'.heap L ∧ FrameEnd U o U' L ({ frames := 2, cells := 0, slots := 0, locals := 37 } : Room).cells ({ frames := 2, cells := 0, slots := 0, locals := 37 } : Room).slots) := by
  refine MetFree.of_bodySF (plainFor_of_name pn_valZ) hisR ?_
  intro p e s m args below meth c s₁ Bd hml0 hP hK
  obtain ⟨rfl, hZ, hh⟩ := hP
  have hx := Bd.exec
  have hby := Bd.bytes
  have hml : c.maxLocals = 6 := hml0
  have hown : s.vm.findClass "com/example/umbel/umbel/rank/ExactSum" = some m.cls := findClass_of_methodNamed Bd.named
  have hnm := (name_of_methodNamed Bd.named Bd.method).1
  have X0 : Stand p l e ({ frames := 2, cells := 0, slots := 0, locals := 37 } : Room) s m #[(.ref a)] below meth c s₁ [] 0 0 := Stand.of_body Bd
  have e0 : s₁.heap = h0 := by rw [← hh, Bd.state]; rfl
  have N0 := Fr.nil n0
  have S0 : Go p e below s₁ (entryFrame m #[(.ref a)] 6) s₁ (mkF m 0 #[.val (.ref a), .unset, .unset, .unset, .unset, .unset] []) := fun t k => castTop (ef_valZ m a) k
  have it := own_it hl hn
  have t1 := own_t1 hl hn
  have t2 := own_t2 hl hn
  have t3 := own_t3 hl hn
  have t4 := own_t4 hl hn
  have S386 : Go p e below s₁ (entryFrame m #[(.ref a)] 6) s₁ (mkF m 1 #[.val (.ref a), .unset, .unset, .unset, .unset, .unset] [(.ref a)]) := fun t kt => S0 t (by
    refine XS.aloadN X0.here hx rfl (hb hby d5_0) rfl rfl ?_
    show Steps p.tables e below (s₁.setTop (mkF m 1 #[.val (.ref a), .unset, .unset, .unset, .unset, .unset] [(.ref a)])) _
    exact kt)
  clear S0
  obtain ⟨cq387, q387, q387'⟩ := E0.cell
  obtain ⟨v387, T387, L387, X387, hQ387, st387⟩ := own_outV (X0.privateBack hx (y := (⟨"com/example/umbel/umbel/rank/ExactSum", "carry", "()V"⟩ : MethodName)) hown (mvT hZ (hw _ (List.mem_of_getElem? (i := 41) rfl))) (mvT hZ (hw _ (List.mem_of_getElem? (i := 42) rfl))) (own_selp hZ (hw _ (List.mem_of_getElem? (i := 2) rfl)) (hw _ (List.mem_of_getElem? (i := 43) rfl)) (hw _ (List.mem_of_getElem? (i := 42) rfl)) (by decide)) (Cond.privateMethod_at (mvP hZ (hw _ (List.mem_of_getElem? (i := 43) rfl)) (args := #[]))) (mvT hZ (hw _ (List.mem_of_getElem? (i := 44) rfl))) (by decide) (backOf (W := 0) (rm_carry l Z a0 hw [] a b kb li n 0 0 0 pd h0 n0 Z0 E0 F0 F1 F2 F3 V0 g_a g_b hab hl hn (by decide) (by decide) (by decide)) hZ (hw _ (List.mem_of_getElem? (i := 44) rfl)) (hw _ (List.mem_of_getElem? (i := 3) rfl)) (by decide) (by decide)) (g := (mkF m 1 #[.val (.ref a), .unset, .unset, .unset, .unset, .unset] [(.ref a)])) rfl (by rw [hml]; rfl) (Steps.refl _) (a := a) (by rw [e0]; exact q387) q387' (argsL := []) (rest := []) (lenOf pd___V rfl) rfl (by show 2 * 0 + _ ≤ _; exact Nat.le_of_eq rfl) (hb hby d5_1) (fun _ _ => ⟨rfl, e0, (by decide : 0 + 0 ≤ _), (by decide : 0 + 0 ≤ _)⟩))
  obtain ⟨rfl, N387q, K387, Ex387, Fa387, Fb387, Fc387, Fd387, Va387⟩ := hQ387
  have N387 := Fr.app N0 N387q
  have Kk387 : Keep h0 T387.heap [a, b] := Keep.trans (Keep.refl h0 [a, b]) K387 (by simp)
  have S388 : Go p e below s₁ (entryFrame m #[(.ref a)] 6) T387 (mkF m 4 #[.val (.ref a), .unset, .unset, .unset, .unset, .unset] []) := fun t kt => S386 t (st387 t kt)
  clear S386 st387 X0 e0
  have S389 : Go p e below s₁ (entryFrame m #[(.ref a)] 6) T387 (mkF m 5 #[.val (.ref a), .unset, .unset, .unset, .unset, .unset] [(.ref a)]) := fun t kt => S388 t (by
    refine XS.aloadN X387.here hx rfl (hb hby d5_4) rfl rfl ?_
    show Steps p.tables e below (T387.setTop (mkF m 5 #[.val (.ref a), .unset, .unset, .unset, .unset, .unset] [(.ref a)])) _
    exact kt)
  clear S388
  obtain ⟨T390, X390, e390, st390⟩ := getF X387 hx hZ hown (host := "") (Or.inl (hw _ (List.mem_of_getElem? (i := 31) rfl))) Via.refl rfl Fc387 (g := (mkF m 5 #[.val (.ref a), .unset, .unset, .unset, .unset, .unset] [(.ref a)])) rfl rfl (hb hby d5_5)
  have S391 : Go p e below s₁ (entryFrame m #[(.ref a)] 6) T390 (mkF m 8 #[.val (.ref a), .unset, .unset, .unset, .unset, .unset] [(.int (li + (3 : Int32)))]) := fun t kt => S389 t (st390 t kt)
  clear S389 st390 X387
  have S392 : Go p e below s₁ (entryFrame m #[(.ref a)] 6) T390 (mkF m 11 #[.val (.ref a), .val (.int ((li + (3 : Int32)) - (1 : Int32))), .unset, .unset, .unset, .unset] []) := fun t kt => S391 t (by
    refine XS.iconst X390.here hx rfl (hb hby d5_8) ?_
    show Steps p.tables e below (T390.setTop (mkF m 9 #[.val (.ref a), .unset, .unset, .unset, .unset, .unset] [(.int (1 : Int32)), (.int (li + (3 : Int32)))])) _
    refine XS.isub X390.here hx rfl (hb hby d5_9) rfl ?_
    show Steps p.tables e below (T390.setTop (mkF m 10 #[.val (.ref a), .unset, .unset, .unset, .unset, .unset] [(.int ((li + (3 : Int32)) - (1 : Int32)))])) _
    refine XS.istoreN X390.here hx rfl (hb hby d5_10) rfl (l' := #[.val (.ref a), .val (.int ((li + (3 : Int32)) - (1 : Int32))), .unset, .unset, .unset, .unset]) rfl ?_
    show Steps p.tables e below (T390.setTop (mkF m 11 #[.val (.ref a), .val (.int ((li + (3 : Int32)) - (1 : Int32))), .unset, .unset, .unset, .unset] [])) _
    exact kt)
  clear S391
  obtain ⟨tp1, q_tp1⟩ : ∃ z : Int32, z = ((li + (3 : Int32)) - (1 : Int32)) := ⟨_, rfl⟩
  have S393 : Go p e below s₁ (entryFrame m #[(.ref a)] 6) T390 (mkF m 11 #[.val (.ref a), .val (.int tp1), .unset, .unset, .unset, .unset] []) := by subst q_tp1; exact S392
  clear S392
  rw [← q_tp1] at t1 t2 t3 t4
  obtain ⟨tp2, q_tp2⟩ : ∃ z : Int32, z = (tp1 + (-1 : Int32)) := ⟨_, rfl⟩
  rw [← q_tp2] at t2 t3 t4
  obtain ⟨tp3, q_tp3⟩ : ∃ z : Int32, z = (tp2 + (-1 : Int32)) := ⟨_, rfl⟩
  rw [← q_tp3] at t3 t4
  obtain ⟨tp4, q_tp4⟩ : ∃ z : Int32, z = (tp3 + (-1 : Int32)) := ⟨_, rfl⟩
  rw [← q_tp4] at t4
  have S394 : Go p e below s₁ (entryFrame m #[(.ref a)] 6) T390 (mkF m 13 #[.val (.ref a), .val (.int tp1), .unset, .unset, .unset, .unset] [(.ref a), (.int tp1)]) := fun t kt => S393 t (by
    refine XS.iloadN X390.here hx rfl (hb hby d5_11) rfl ?_
    show Steps p.tables e below (T390.setTop (mkF m 12 #[.val (.ref a), .val (.int tp1), .unset, .unset, .unset, .unset] [(.int tp1)])) _
    refine XS.aloadN X390.here hx rfl (hb hby d5_12) rfl rfl ?_
    show Steps p.tables e below (T390.setTop (mkF m 13 #[.val (.ref a), .val (.int tp1), .unset, .unset, .unset, .unset] [(.ref a), (.int tp1)])) _
    exact kt)
  clear S393
  obtain ⟨T395, X395, e395, st395⟩ := getF X390 hx hZ hown (host := "") (Or.inl (hw _ (List.mem_of_getElem? (i := 29) rfl))) Via.refl e390 Fb387 (g := (mkF m 13 #[.val (.ref a), .val (.int tp1), .unset, .unset, .unset, .unset] [(.ref a), (.int tp1)])) rfl rfl (hb hby d5_13)
  have S396 : Go p e below s₁ (entryFrame m #[(.ref a)] 6) T395 (mkF m 16 #[.val (.ref a), .val (.int tp1), .unset, .unset, .unset, .unset] [(.int li), (.int tp1)]) := fun t kt => S394 t (st395 t kt)
  clear S394 st395 X390 e390
  have S397 : Go p e below s₁ (entryFrame m #[(.ref a)] 6) T395 (mkF m 20 #[.val (.ref a), .val (.int tp1), .unset, .unset, .unset, .unset] [(.ref a)]) := fun t kt => S396 t (by
    refine XS.icmpNo X395.here hx rfl (hb hby d5_16) rfl (flt (show ¬ (tp1 < li) from (own_nlt (by omega)))).1 ?_
    show Steps p.tables e below (T395.setTop (mkF m 19 #[.val (.ref a), .val (.int tp1), .unset, .unset, .unset, .unset] [])) _
    refine XS.aloadN X395.here hx rfl (hb hby d5_19) rfl rfl ?_
    show Steps p.tables e below (T395.setTop (mkF m 20 #[.val (.ref a), .val (.int tp1), .unset, .unset, .unset, .unset] [(.ref a)])) _
    exact kt)
  clear S396
  obtain ⟨T398, X398, e398, st398⟩ := getF X395 hx hZ hown (host := "") (Or.inl (hw _ (List.mem_of_getElem? (i := 11) rfl))) Via.refl e395 Fa387 (g := (mkF m 20 #[.val (.ref a), .val (.int tp1), .unset, .unset, .unset, .unset] [(.ref a)])) rfl rfl (hb hby d5_20)
  have S399 : Go p e below s₁ (entryFrame m #[(.ref a)] 6) T398 (mkF m 23 #[.val (.ref a), .val (.int tp1), .unset, .unset, .unset, .unset] [(.ref b)]) := fun t kt => S397 t (st398 t kt)
  clear S397 st398 X395 e395
  have S400 : Go p e below s₁ (entryFrame m #[(.ref a)] 6) T398 (mkF m 24 #[.val (.ref a), .val (.int tp1), .unset, .unset, .unset, .unset] [(.int tp1), (.ref b)]) := fun t kt => S399 t (by
    refine XS.iloadN X398.here hx rfl (hb hby d5_23) rfl ?_
    show Steps p.tables e below (T398.setTop (mkF m 24 #[.val (.ref a), .val (.int tp1), .unset, .unset, .unset, .unset] [(.int tp1), (.ref b)])) _
    exact kt)
  clear S399
  have rt1 := own_rng t1 (show n + 2 < 68 by omega)
  obtain ⟨co401, Ao401, qo401, So401, No401, Ho401, Go401⟩ := id Va387
  have hino401 : ¬ (tp1 < 0 ∨ co401.slots.size ≤ (tp1).toNatClampNeg) := inb_of So401 rt1.1
  have hato401 : co401.slots[(tp1).toNatClampNeg]? = some (.long (0 : Int64)) := Has.at Ho401 hino401 (by rw [rt1.2]; exact own_at2 n hn 0 0 0)
  have S402 : Go p e below s₁ (entryFrame m #[(.ref a)] 6) T398 (mkF m 27 #[.val (.ref a), .val (.int tp1), .unset, .unset, .unset, .unset] [(.int (lcmpW (0 : Int64) (0 : Int64)))]) := fun t kt => S400 t (by
    refine X398.laload hx (j := tp1) (v := (.long (0 : Int64))) (by rw [e398]; exact Ao401.1) (State.isArrayOf_alike hZ.alike Ao401.2.1) Ao401.2.2 hino401 hato401 (g := (mkF m 24 #[.val (.ref a), .val (.int tp1), .unset, .unset, .unset, .unset] [(.int tp1), (.ref b)])) rfl rfl (hb hby d5_24) _ ?_
    show Steps p.tables e below (T398.setTop (mkF m 25 #[.val (.ref a), .val (.int tp1), .unset, .unset, .unset, .unset] [(.long (0 : Int64))])) _
    refine XS.lconst X398.here hx rfl (hb hby d5_25) ?_
    show Steps p.tables e below (T398.setTop (mkF m 26 #[.val (.ref a), .val (.int tp1), .unset, .unset, .unset, .unset] [(.long (0 : Int64)), (.long (0 : Int64))])) _
    refine XS.lcmp X398.here hx rfl (hb hby d5_26) rfl ?_
    show Steps p.tables e below (T398.setTop (mkF m 27 #[.val (.ref a), .val (.int tp1), .unset, .unset, .unset, .unset] [(.int (lcmpW (0 : Int64) (0 : Int64)))])) _
    exact kt)
  clear S400
  have S403 : Go p e below s₁ (entryFrame m #[(.ref a)] 6) T398 (mkF m 11 #[.val (.ref a), .val (.int (tp1 + (-1 : Int32))), .unset, .unset, .unset, .unset] []) := fun t kt => S402 t (by
    refine XS.ifNo X398.here hx rfl (hb hby d5_27) rfl ((if0 _ _).trans (teq (show (lcmpW (0 : Int64) (0 : Int64)) = (0 : Int32) from (by decide))).2) ?_
    show Steps p.tables e below (T398.setTop (mkF m 30 #[.val (.ref a), .val (.int tp1), .unset, .unset, .unset, .unset] [])) _
    refine XS.iinc X398.here hx rfl (hb hby d5_30) rfl (l' := #[.val (.ref a), .val (.int (tp1 + (-1 : Int32))), .unset, .unset, .unset, .unset]) rfl ?_
    show Steps p.tables e below (T398.setTop (mkF m 33 #[.val (.ref a), .val (.int (tp1 + (-1 : Int32))), .unset, .unset, .unset, .unset] [])) _
    refine XS.goto X398.here hx rfl (pc0 := 33) (pc' := 11) rfl (hb hby d5_33) (by decide) (by decide) ?_
    show Steps p.tables e below (T398.setTop (mkF m 11 #[.val (.ref a), .val (.int (tp1 + (-1 : Int32))), .unset, .unset, .unset, .unset] [])) _
    exact kt)
  clear S402
  have q405 : (tp1 + (-1 : Int32)) = tp2 := q_tp2.symm
  have S404 : Go p e below s₁ (entryFrame m #[(.ref a)] 6) T398 (mkF m 11 #[.val (.ref a), .val (.int tp2), .unset, .unset, .unset, .unset] []) := by have h := S403; rw [q405] at h; exact h
  clear S403
  have S406 : Go p e below s₁ (entryFrame m #[(.ref a)] 6) T398 (mkF m 13 #[.val (.ref a), .val (.int tp2), .unset, .unset, .unset, .unset] [(.ref a), (.int tp2)]) := fun t kt => S404 t (by
    refine XS.iloadN X398.here hx rfl (hb hby d5_11) rfl ?_
    show Steps p.tables e below (T398.setTop (mkF m 12 #[.val (.ref a), .val (.int tp2), .unset, .unset, .unset, .unset] [(.int tp2)])) _
    refine XS.aloadN X398.here hx rfl (hb hby d5_12) rfl rfl ?_
    show Steps p.tables e below (T398.setTop (mkF m 13 #[.val (.ref a), .val (.int tp2), .unset, .unset, .unset, .unset] [(.ref a), (.int tp2)])) _
    exact kt)
  clear S404
  obtain ⟨T407, X407, e407, st407⟩ := getF X398 hx hZ hown (host := "") (Or.inl (hw _ (List.mem_of_getElem? (i := 29) rfl))) Via.refl e398 Fb387 (g := (mkF m 13 #[.val (.ref a), .val (.int tp2), .unset, .unset, .unset, .unset] [(.ref a), (.int tp2)])) rfl rfl (hb hby d5_13)
  have S408 : Go p e below s₁ (entryFrame m #[(.ref a)] 6) T407 (mkF m 16 #[.val (.ref a), .val (.int tp2), .unset, .unset, .unset, .unset] [(.int li), (.int tp2)]) := fun t kt => S406 t (st407 t kt)
  clear S406 st407 X398 e398
  have S409 : Go p e below s₁ (entryFrame m #[(.ref a)] 6) T407 (mkF m 20 #[.val (.ref a), .val (.int tp2), .unset, .unset, .unset, .unset] [(.ref a)]) := fun t kt => S408 t (by
    refine XS.icmpNo X407.here hx rfl (hb hby d5_16) rfl (flt (show ¬ (tp2 < li) from (own_nlt (by omega)))).1 ?_
    show Steps p.tables e below (T407.setTop (mkF m 19 #[.val (.ref a), .val (.int tp2), .unset, .unset, .unset, .unset] [])) _
    refine XS.aloadN X407.here hx rfl (hb hby d5_19) rfl rfl ?_
    show Steps p.tables e below (T407.setTop (mkF m 20 #[.val (.ref a), .val (.int tp2), .unset, .unset, .unset, .unset] [(.ref a)])) _
    exact kt)
  clear S408
  obtain ⟨T410, X410, e410, st410⟩ := getF X407 hx hZ hown (host := "") (Or.inl (hw _ (List.mem_of_getElem? (i := 11) rfl))) Via.refl e407 Fa387 (g := (mkF m 20 #[.val (.ref a), .val (.int tp2), .unset, .unset, .unset, .unset] [(.ref a)])) rfl rfl (hb hby d5_20)
  have S411 : Go p e below s₁ (entryFrame m #[(.ref a)] 6) T410 (mkF m 23 #[.val (.ref a), .val (.int tp2), .unset, .unset, .unset, .unset] [(.ref b)]) := fun t kt => S409 t (st410 t kt)
  clear S409 st410 X407 e407
  have S412 : Go p e below s₁ (entryFrame m #[(.ref a)] 6) T410 (mkF m 24 #[.val (.ref a), .val (.int tp2), .unset, .unset, .unset, .unset] [(.int tp2), (.ref b)]) := fun t kt => S411 t (by
    refine XS.iloadN X410.here hx rfl (hb hby d5_23) rfl ?_
    show Steps p.tables e below (T410.setTop (mkF m 24 #[.val (.ref a), .val (.int tp2), .unset, .unset, .unset, .unset] [(.int tp2), (.ref b)])) _
    exact kt)
  clear S411
  have rt2 := own_rng t2 (show n + 1 < 68 by omega)
  obtain ⟨co413, Ao413, qo413, So413, No413, Ho413, Go413⟩ := id Va387
  have hino413 : ¬ (tp2 < 0 ∨ co413.slots.size ≤ (tp2).toNatClampNeg) := inb_of So413 rt2.1
  have hato413 : co413.slots[(tp2).toNatClampNeg]? = some (.long (0 : Int64)) := Has.at Ho413 hino413 (by rw [rt2.2]; exact own_at1 n hn 0 0 0)
  have S414 : Go p e below s₁ (entryFrame m #[(.ref a)] 6) T410 (mkF m 27 #[.val (.ref a), .val (.int tp2), .unset, .unset, .unset, .unset] [(.int (lcmpW (0 : Int64) (0 : Int64)))]) := fun t kt => S412 t (by
    refine X410.laload hx (j := tp2) (v := (.long (0 : Int64))) (by rw [e410]; exact Ao413.1) (State.isArrayOf_alike hZ.alike Ao413.2.1) Ao413.2.2 hino413 hato413 (g := (mkF m 24 #[.val (.ref a), .val (.int tp2), .unset, .unset, .unset, .unset] [(.int tp2), (.ref b)])) rfl rfl (hb hby d5_24) _ ?_
    show Steps p.tables e below (T410.setTop (mkF m 25 #[.val (.ref a), .val (.int tp2), .unset, .unset, .unset, .unset] [(.long (0 : Int64))])) _
    refine XS.lconst X410.here hx rfl (hb hby d5_25) ?_
    show Steps p.tables e below (T410.setTop (mkF m 26 #[.val (.ref a), .val (.int tp2), .unset, .unset, .unset, .unset] [(.long (0 : Int64)), (.long (0 : Int64))])) _
    refine XS.lcmp X410.here hx rfl (hb hby d5_26) rfl ?_
    show Steps p.tables e below (T410.setTop (mkF m 27 #[.val (.ref a), .val (.int tp2), .unset, .unset, .unset, .unset] [(.int (lcmpW (0 : Int64) (0 : Int64)))])) _
    exact kt)
  clear S412
  have S415 : Go p e below s₁ (entryFrame m #[(.ref a)] 6) T410 (mkF m 11 #[.val (.ref a), .val (.int (tp2 + (-1 : Int32))), .unset, .unset, .unset, .unset] []) := fun t kt => S414 t (by
    refine XS.ifNo X410.here hx rfl (hb hby d5_27) rfl ((if0 _ _).trans (teq (show (lcmpW (0 : Int64) (0 : Int64)) = (0 : Int32) from (by decide))).2) ?_
    show Steps p.tables e below (T410.setTop (mkF m 30 #[.val (.ref a), .val (.int tp2), .unset, .unset, .unset, .unset] [])) _
    refine XS.iinc X410.here hx rfl (hb hby d5_30) rfl (l' := #[.val (.ref a), .val (.int (tp2 + (-1 : Int32))), .unset, .unset, .unset, .unset]) rfl ?_
    show Steps p.tables e below (T410.setTop (mkF m 33 #[.val (.ref a), .val (.int (tp2 + (-1 : Int32))), .unset, .unset, .unset, .unset] [])) _
    refine XS.goto X410.here hx rfl (pc0 := 33) (pc' := 11) rfl (hb hby d5_33) (by decide) (by decide) ?_
    show Steps p.tables e below (T410.setTop (mkF m 11 #[.val (.ref a), .val (.int (tp2 + (-1 : Int32))), .unset, .unset, .unset, .unset] [])) _
    exact kt)
  clear S414
  have q417 : (tp2 + (-1 : Int32)) = tp3 := q_tp3.symm
  have S416 : Go p e below s₁ (entryFrame m #[(.ref a)] 6) T410 (mkF m 11 #[.val (.ref a), .val (.int tp3), .unset, .unset, .unset, .unset] []) := by have h := S415; rw [q417] at h; exact h
  clear S415
  have S418 : Go p e below s₁ (entryFrame m #[(.ref a)] 6) T410 (mkF m 13 #[.val (.ref a), .val (.int tp3), .unset, .unset, .unset, .unset] [(.ref a), (.int tp3)]) := fun t kt => S416 t (by
    refine XS.iloadN X410.here hx rfl (hb hby d5_11) rfl ?_
    show Steps p.tables e below (T410.setTop (mkF m 12 #[.val (.ref a), .val (.int tp3), .unset, .unset, .unset, .unset] [(.int tp3)])) _
    refine XS.aloadN X410.here hx rfl (hb hby d5_12) rfl rfl ?_
    show Steps p.tables e below (T410.setTop (mkF m 13 #[.val (.ref a), .val (.int tp3), .unset, .unset, .unset, .unset] [(.ref a), (.int tp3)])) _
    exact kt)
  clear S416
  obtain ⟨T419, X419, e419, st419⟩ := getF X410 hx hZ hown (host := "") (Or.inl (hw _ (List.mem_of_getElem? (i := 29) rfl))) Via.refl e410 Fb387 (g := (mkF m 13 #[.val (.ref a), .val (.int tp3), .unset, .unset, .unset, .unset] [(.ref a), (.int tp3)])) rfl rfl (hb hby d5_13)
  have S420 : Go p e below s₁ (entryFrame m #[(.ref a)] 6) T419 (mkF m 16 #[.val (.ref a), .val (.int tp3), .unset, .unset, .unset, .unset] [(.int li), (.int tp3)]) := fun t kt => S418 t (st419 t kt)
  clear S418 st419 X410 e410
  have S421 : Go p e below s₁ (entryFrame m #[(.ref a)] 6) T419 (mkF m 20 #[.val (.ref a), .val (.int tp3), .unset, .unset, .unset, .unset] [(.ref a)]) := fun t kt => S420 t (by
    refine XS.icmpNo X419.here hx rfl (hb hby d5_16) rfl (flt (show ¬ (tp3 < li) from (own_nlt (by omega)))).1 ?_
    show Steps p.tables e below (T419.setTop (mkF m 19 #[.val (.ref a), .val (.int tp3), .unset, .unset, .unset, .unset] [])) _
    refine XS.aloadN X419.here hx rfl (hb hby d5_19) rfl rfl ?_
    show Steps p.tables e below (T419.setTop (mkF m 20 #[.val (.ref a), .val (.int tp3), .unset, .unset, .unset, .unset] [(.ref a)])) _
    exact kt)
  clear S420
  obtain ⟨T422, X422, e422, st422⟩ := getF X419 hx hZ hown (host := "") (Or.inl (hw _ (List.mem_of_getElem? (i := 11) rfl))) Via.refl e419 Fa387 (g := (mkF m 20 #[.val (.ref a), .val (.int tp3), .unset, .unset, .unset, .unset] [(.ref a)])) rfl rfl (hb hby d5_20)
  have S423 : Go p e below s₁ (entryFrame m #[(.ref a)] 6) T422 (mkF m 23 #[.val (.ref a), .val (.int tp3), .unset, .unset, .unset, .unset] [(.ref b)]) := fun t kt => S421 t (st422 t kt)
  clear S421 st422 X419 e419
  have S424 : Go p e below s₁ (entryFrame m #[(.ref a)] 6) T422 (mkF m 24 #[.val (.ref a), .val (.int tp3), .unset, .unset, .unset, .unset] [(.int tp3), (.ref b)]) := fun t kt => S423 t (by
    refine XS.iloadN X422.here hx rfl (hb hby d5_23) rfl ?_
    show Steps p.tables e below (T422.setTop (mkF m 24 #[.val (.ref a), .val (.int tp3), .unset, .unset, .unset, .unset] [(.int tp3), (.ref b)])) _
    exact kt)
  clear S423
  have rt3 := own_rng t3 (show n + 0 < 68 by omega)
  obtain ⟨co425, Ao425, qo425, So425, No425, Ho425, Go425⟩ := id Va387
  have hino425 : ¬ (tp3 < 0 ∨ co425.slots.size ≤ (tp3).toNatClampNeg) := inb_of So425 rt3.1
  have hato425 : co425.slots[(tp3).toNatClampNeg]? = some (.long (0 : Int64)) := Has.at Ho425 hino425 (by rw [rt3.2]; exact own_at0 n hn 0 0 0)
  have S426 : Go p e below s₁ (entryFrame m #[(.ref a)] 6) T422 (mkF m 27 #[.val (.ref a), .val (.int tp3), .unset, .unset, .unset, .unset] [(.int (lcmpW (0 : Int64) (0 : Int64)))]) := fun t kt => S424 t (by
    refine X422.laload hx (j := tp3) (v := (.long (0 : Int64))) (by rw [e422]; exact Ao425.1) (State.isArrayOf_alike hZ.alike Ao425.2.1) Ao425.2.2 hino425 hato425 (g := (mkF m 24 #[.val (.ref a), .val (.int tp3), .unset, .unset, .unset, .unset] [(.int tp3), (.ref b)])) rfl rfl (hb hby d5_24) _ ?_
    show Steps p.tables e below (T422.setTop (mkF m 25 #[.val (.ref a), .val (.int tp3), .unset, .unset, .unset, .unset] [(.long (0 : Int64))])) _
    refine XS.lconst X422.here hx rfl (hb hby d5_25) ?_
    show Steps p.tables e below (T422.setTop (mkF m 26 #[.val (.ref a), .val (.int tp3), .unset, .unset, .unset, .unset] [(.long (0 : Int64)), (.long (0 : Int64))])) _
    refine XS.lcmp X422.here hx rfl (hb hby d5_26) rfl ?_
    show Steps p.tables e below (T422.setTop (mkF m 27 #[.val (.ref a), .val (.int tp3), .unset, .unset, .unset, .unset] [(.int (lcmpW (0 : Int64) (0 : Int64)))])) _
    exact kt)
  clear S424
  have S427 : Go p e below s₁ (entryFrame m #[(.ref a)] 6) T422 (mkF m 11 #[.val (.ref a), .val (.int (tp3 + (-1 : Int32))), .unset, .unset, .unset, .unset] []) := fun t kt => S426 t (by
    refine XS.ifNo X422.here hx rfl (hb hby d5_27) rfl ((if0 _ _).trans (teq (show (lcmpW (0 : Int64) (0 : Int64)) = (0 : Int32) from (by decide))).2) ?_
    show Steps p.tables e below (T422.setTop (mkF m 30 #[.val (.ref a), .val (.int tp3), .unset, .unset, .unset, .unset] [])) _
    refine XS.iinc X422.here hx rfl (hb hby d5_30) rfl (l' := #[.val (.ref a), .val (.int (tp3 + (-1 : Int32))), .unset, .unset, .unset, .unset]) rfl ?_
    show Steps p.tables e below (T422.setTop (mkF m 33 #[.val (.ref a), .val (.int (tp3 + (-1 : Int32))), .unset, .unset, .unset, .unset] [])) _
    refine XS.goto X422.here hx rfl (pc0 := 33) (pc' := 11) rfl (hb hby d5_33) (by decide) (by decide) ?_
    show Steps p.tables e below (T422.setTop (mkF m 11 #[.val (.ref a), .val (.int (tp3 + (-1 : Int32))), .unset, .unset, .unset, .unset] [])) _
    exact kt)
  clear S426
  have q429 : (tp3 + (-1 : Int32)) = tp4 := q_tp4.symm
  have S428 : Go p e below s₁ (entryFrame m #[(.ref a)] 6) T422 (mkF m 11 #[.val (.ref a), .val (.int tp4), .unset, .unset, .unset, .unset] []) := by have h := S427; rw [q429] at h; exact h
  clear S427
  have S430 : Go p e below s₁ (entryFrame m #[(.ref a)] 6) T422 (mkF m 13 #[.val (.ref a), .val (.int tp4), .unset, .unset, .unset, .unset] [(.ref a), (.int tp4)]) := fun t kt => S428 t (by
    refine XS.iloadN X422.here hx rfl (hb hby d5_11) rfl ?_
    show Steps p.tables e below (T422.setTop (mkF m 12 #[.val (.ref a), .val (.int tp4), .unset, .unset, .unset, .unset] [(.int tp4)])) _
    refine XS.aloadN X422.here hx rfl (hb hby d5_12) rfl rfl ?_
    show Steps p.tables e below (T422.setTop (mkF m 13 #[.val (.ref a), .val (.int tp4), .unset, .unset, .unset, .unset] [(.ref a), (.int tp4)])) _
    exact kt)
  clear S428
  obtain ⟨T431, X431, e431, st431⟩ := getF X422 hx hZ hown (host := "") (Or.inl (hw _ (List.mem_of_getElem? (i := 29) rfl))) Via.refl e422 Fb387 (g := (mkF m 13 #[.val (.ref a), .val (.int tp4), .unset, .unset, .unset, .unset] [(.ref a), (.int tp4)])) rfl rfl (hb hby d5_13)
  have S432 : Go p e below s₁ (entryFrame m #[(.ref a)] 6) T431 (mkF m 16 #[.val (.ref a), .val (.int tp4), .unset, .unset, .unset, .unset] [(.int li), (.int tp4)]) := fun t kt => S430 t (st431 t kt)
  clear S430 st431 X422 e422
  have S433 : Go p e below s₁ (entryFrame m #[(.ref a)] 6) T431 (mkF m 38 #[.val (.ref a), .val (.int tp4), .unset, .unset, .unset, .unset] [(.ref a), (.int tp4)]) := fun t kt => S432 t (by
    refine XS.icmpYes X431.here hx rfl (pc0 := 16) (pc' := 36) rfl (hb hby d5_16) rfl (tlt (show tp4 < li from (own_plt (by omega)))).1 (by decide) (by decide) ?_
    show Steps p.tables e below (T431.setTop (mkF m 36 #[.val (.ref a), .val (.int tp4), .unset, .unset, .unset, .unset] [])) _
    refine XS.iloadN X431.here hx rfl (hb hby d5_36) rfl ?_
    show Steps p.tables e below (T431.setTop (mkF m 37 #[.val (.ref a), .val (.int tp4), .unset, .unset, .unset, .unset] [(.int tp4)])) _
    refine XS.aloadN X431.here hx rfl (hb hby d5_37) rfl rfl ?_
    show Steps p.tables e below (T431.setTop (mkF m 38 #[.val (.ref a), .val (.int tp4), .unset, .unset, .unset, .unset] [(.ref a), (.int tp4)])) _
    exact kt)
  clear S432
  obtain ⟨T434, X434, e434, st434⟩ := getF X431 hx hZ hown (host := "") (Or.inl (hw _ (List.mem_of_getElem? (i := 29) rfl))) Via.refl e431 Fb387 (g := (mkF m 38 #[.val (.ref a), .val (.int tp4), .unset, .unset, .unset, .unset] [(.ref a), (.int tp4)])) rfl rfl (hb hby d5_38)
  have S435 : Go p e below s₁ (entryFrame m #[(.ref a)] 6) T434 (mkF m 41 #[.val (.ref a), .val (.int tp4), .unset, .unset, .unset, .unset] [(.int li), (.int tp4)]) := fun t kt => S433 t (st434 t kt)
  clear S433 st434 X431 e431
  have S436 : Go p e below s₁ (entryFrame m #[(.ref a)] 6) T434 (mkF m 45 #[.val (.ref a), .val (.int tp4), .unset, .unset, .unset, .unset] [(.double (0 : UInt64))]) := fun t kt => S435 t (by
    refine XS.icmpNo X434.here hx rfl (hb hby d5_41) rfl (tlt (show tp4 < li from (own_plt (by omega)))).2.1 ?_
    show Steps p.tables e below (T434.setTop (mkF m 44 #[.val (.ref a), .val (.int tp4), .unset, .unset, .unset, .unset] [])) _
    refine XS.dconst0 X434.here hx rfl (hb hby d5_44) rfl ?_
    show Steps p.tables e below (T434.setTop (mkF m 45 #[.val (.ref a), .val (.int tp4), .unset, .unset, .unset, .unset] [(.double (0 : UInt64))])) _
    exact kt)
  clear S435
  obtain ⟨fs, hr, hrun, hended, hW, hsame⟩ := X434.leave (v := some (.double (0 : UInt64))) (fun h => by first | rfl | (rw [Bd.returns] at h; cases h))
  refine ⟨_, _, S436 _ ?_, hrun, hended, _, _, rfl, ?_, ⟨_, rfl⟩, hW, hsame.mono (by decide) (by decide)⟩
  · exact retOut X434 hx Bd.returns rfl (Or.inr (Or.inr (Or.inl ⟨rfl, rfl, _, rfl⟩))) (hb hby d5_45) hr
  · show Q_valZ Z a b kb li n h0 n0 _ T434.heap _
    rw [e434]
    exact ⟨rfl, N387, Kk387, Ex387, Fa387, Fb387, Fc387, Fd387, Va387⟩
theorem ef_val0 (m : MethodId) (x0 : Addr) : entryFrame m #[(.ref x0)] 6 = mkF m 0 #[.val (.ref x0), .unset, .unset, .unset, .unset, .unset] [] := by first | (simp [entryFrame, mkF, argsToLocals, Value.category]; done) | rfl
theorem pn_val0 : plainName "com/example/umbel/umbel/rank/ExactSum" = true := by first | (simp [plainName, overriddenIn]; done) | decide +kernel
def Q_val0 (Z : State) (a : Addr) (b : Addr) (kb : ClassId) (vs : List Value) (h0 : Heap) (n0 : Nat) (v : Option Value) (h : Heap) (L : List Loc) : Prop := v = some (.double 0) ∧ Fr n0 L ∧ Keep h0 h [a, b] ∧ Exa Z h a "com/example/umbel/umbel/rank/ExactSum" ∧ Fld Z h a "com/example/umbel/umbel/rank/ExactSum" "limbs" "[J" (.ref b) ∧ Fld Z h a "com/example/umbel/umbel/rank/ExactSum" "from" "I" (.int (0 : Int32)) ∧ Fld Z h a "com/example/umbel/umbel/rank/ExactSum" "to" "I" (.int (0 : Int32)) ∧ Fld Z h a "com/example/umbel/umbel/rank/ExactSum" "pending" "I" (.int (0 : Int32)) ∧ Arv Z h b kb .long (68 : Int32) vs (.long (0 : Int64))
set_option maxRecDepth 65536 in
set_option maxHeartbeats 40000000 in
theorem rm_val0 (l : Launch) (Z : State) (a0 : Array Value) (hw : ∀ d ∈ tables_1, d.before a0 Z = true) (ws : List Jvm.Cond) (a : Addr) (b : Addr) (kb : ClassId) (vs : List Value) (h0 : Heap) (n0 : Nat) (Z0 : n0 ≤ h0.size) (E0 : Exa Z h0 a "com/example/umbel/umbel/rank/ExactSum") (F0 : Fld Z h0 a "com/example/umbel/umbel/rank/ExactSum" "limbs" "[J" (.ref b)) (F1 : Fld Z h0 a "com/example/umbel/umbel/rank/ExactSum" "from" "I" (.int (0 : Int32))) (F2 : Fld Z h0 a "com/example/umbel/umbel/rank/ExactSum" "to" "I" (.int (0 : Int32))) (F3 : Fld Z h0 a "com/example/umbel/umbel/rank/ExactSum" "pending" "I" (.int (0 : Int32))) (V0 : Arv Z h0 b kb .long (68 : Int32) vs (.long (0 : Int64))) (g_a : n0 ≤ a) (g_b : n0 ≤ b) (hab : a ≠ b) :
    MetFree l (⟨"com/example/umbel/umbel/rank/ExactSum", "value", "()D"⟩ : MethodName) (head1 (Jvm.Cond.code (⟨"com/example/umbel/umbel/rank/ExactSum", "value", "()D"⟩ : MethodName) prog_6_method_5_code 6 (some .double) :: ws) ({ frames := 2, cells := 0, slots := 0, locals := 37 } : Room)) (fun aa U => aa = #[(.ref a)] ∧ Z.Warmed39 U.vm ∧ U.heap = h0) (fun _ _ _ _ _ => True) (fun _ U o U' => ∃ v L, o = .returned v ∧ Q_val0 Z a b kb vs h0 n0 v U'.heap L ∧ FrameEnd U o U' L ({ frames := 2, cells := 0, slots := 0, locals := 37 } : Room).cells ({ frames := 2, cells := 0, slots := 0, locals := 37 } : Room).slots) := by
  refine MetFree.of_bodySF (plainFor_of_name pn_val0) hisR ?_
  intro p e s m args below meth c s₁ Bd hml0 hP hK
  obtain ⟨rfl, hZ, hh⟩ := hP
  have hx := Bd.exec
  have hby := Bd.bytes
  have hml : c.maxLocals = 6 := hml0
  have hown : s.vm.findClass "com/example/umbel/umbel/rank/ExactSum" = some m.cls := findClass_of_methodNamed Bd.named
  have hnm := (name_of_methodNamed Bd.named Bd.method).1
  have X0 : Stand p l e ({ frames := 2, cells := 0, slots := 0, locals := 37 } : Room) s m #[(.ref a)] below meth c s₁ [] 0 0 := Stand.of_body Bd
  have e0 : s₁.heap = h0 := by rw [← hh, Bd.state]; rfl
  have N0 := Fr.nil n0
  have S0 : Go p e below s₁ (entryFrame m #[(.ref a)] 6) s₁ (mkF m 0 #[.val (.ref a), .unset, .unset, .unset, .unset, .unset] []) := fun t k => castTop (ef_val0 m a) k
  have S437 : Go p e below s₁ (entryFrame m #[(.ref a)] 6) s₁ (mkF m 1 #[.val (.ref a), .unset, .unset, .unset, .unset, .unset] [(.ref a)]) := fun t kt => S0 t (by
    refine XS.aloadN X0.here hx rfl (hb hby d5_0) rfl rfl ?_
    show Steps p.tables e below (s₁.setTop (mkF m 1 #[.val (.ref a), .unset, .unset, .unset, .unset, .unset] [(.ref a)])) _
    exact kt)
  clear S0
  obtain ⟨cq438, q438, q438'⟩ := E0.cell
  obtain ⟨v438, T438, L438, X438, hQ438, st438⟩ := own_outV (X0.privateBack hx (y := (⟨"com/example/umbel/umbel/rank/ExactSum", "carry", "()V"⟩ : MethodName)) hown (mvT hZ (hw _ (List.mem_of_getElem? (i := 41) rfl))) (mvT hZ (hw _ (List.mem_of_getElem? (i := 42) rfl))) (own_selp hZ (hw _ (List.mem_of_getElem? (i := 2) rfl)) (hw _ (List.mem_of_getElem? (i := 43) rfl)) (hw _ (List.mem_of_getElem? (i := 42) rfl)) (by decide)) (Cond.privateMethod_at (mvP hZ (hw _ (List.mem_of_getElem? (i := 43) rfl)) (args := #[]))) (mvT hZ (hw _ (List.mem_of_getElem? (i := 44) rfl))) (by decide) (backOf (W := 0) (rm_carry0 l Z a0 hw [] a b kb vs (0 : Int32) h0 n0 Z0 E0 F0 F1 F2 F3 V0 g_a g_b hab) hZ (hw _ (List.mem_of_getElem? (i := 44) rfl)) (hw _ (List.mem_of_getElem? (i := 3) rfl)) (by decide) (by decide)) (g := (mkF m 1 #[.val (.ref a), .unset, .unset, .unset, .unset, .unset] [(.ref a)])) rfl (by rw [hml]; rfl) (Steps.refl _) (a := a) (by rw [e0]; exact q438) q438' (argsL := []) (rest := []) (lenOf pd___V rfl) rfl (by show 2 * 0 + _ ≤ _; exact Nat.le_of_eq rfl) (hb hby d5_1) (fun _ _ => ⟨rfl, e0, (by decide : 0 + 0 ≤ _), (by decide : 0 + 0 ≤ _)⟩))
  obtain ⟨rfl, N438q, K438, Ex438, Fa438, Fb438, Fc438, Fd438, Va438⟩ := hQ438
  have N438 := Fr.app N0 N438q
  have Kk438 : Keep h0 T438.heap [a, b] := Keep.trans (Keep.refl h0 [a, b]) K438 (by simp)
  have S439 : Go p e below s₁ (entryFrame m #[(.ref a)] 6) T438 (mkF m 4 #[.val (.ref a), .unset, .unset, .unset, .unset, .unset] []) := fun t kt => S437 t (st438 t kt)
  clear S437 st438 X0 e0
  have S440 : Go p e below s₁ (entryFrame m #[(.ref a)] 6) T438 (mkF m 5 #[.val (.ref a), .unset, .unset, .unset, .unset, .unset] [(.ref a)]) := fun t kt => S439 t (by
    refine XS.aloadN X438.here hx rfl (hb hby d5_4) rfl rfl ?_
    show Steps p.tables e below (T438.setTop (mkF m 5 #[.val (.ref a), .unset, .unset, .unset, .unset, .unset] [(.ref a)])) _
    exact kt)
  clear S439
  obtain ⟨T441, X441, e441, st441⟩ := getF X438 hx hZ hown (host := "") (Or.inl (hw _ (List.mem_of_getElem? (i := 31) rfl))) Via.refl rfl Fc438 (g := (mkF m 5 #[.val (.ref a), .unset, .unset, .unset, .unset, .unset] [(.ref a)])) rfl rfl (hb hby d5_5)
  have S442 : Go p e below s₁ (entryFrame m #[(.ref a)] 6) T441 (mkF m 8 #[.val (.ref a), .unset, .unset, .unset, .unset, .unset] [(.int (0 : Int32))]) := fun t kt => S440 t (st441 t kt)
  clear S440 st441 X438
  have S443 : Go p e below s₁ (entryFrame m #[(.ref a)] 6) T441 (mkF m 13 #[.val (.ref a), .val (.int ((0 : Int32) - (1 : Int32))), .unset, .unset, .unset, .unset] [(.ref a), (.int ((0 : Int32) - (1 : Int32)))]) := fun t kt => S442 t (by
    refine XS.iconst X441.here hx rfl (hb hby d5_8) ?_
    show Steps p.tables e below (T441.setTop (mkF m 9 #[.val (.ref a), .unset, .unset, .unset, .unset, .unset] [(.int (1 : Int32)), (.int (0 : Int32))])) _
    refine XS.isub X441.here hx rfl (hb hby d5_9) rfl ?_
    show Steps p.tables e below (T441.setTop (mkF m 10 #[.val (.ref a), .unset, .unset, .unset, .unset, .unset] [(.int ((0 : Int32) - (1 : Int32)))])) _
    refine XS.istoreN X441.here hx rfl (hb hby d5_10) rfl (l' := #[.val (.ref a), .val (.int ((0 : Int32) - (1 : Int32))), .unset, .unset, .unset, .unset]) rfl ?_
    show Steps p.tables e below (T441.setTop (mkF m 11 #[.val (.ref a), .val (.int ((0 : Int32) - (1 : Int32))), .unset, .unset, .unset, .unset] [])) _
    refine XS.iloadN X441.here hx rfl (hb hby d5_11) rfl ?_
    show Steps p.tables e below (T441.setTop (mkF m 12 #[.val (.ref a), .val (.int ((0 : Int32) - (1 : Int32))), .unset, .unset, .unset, .unset] [(.int ((0 : Int32) - (1 : Int32)))])) _
    refine XS.aloadN X441.here hx rfl (hb hby d5_12) rfl rfl ?_
    show Steps p.tables e below (T441.setTop (mkF m 13 #[.val (.ref a), .val (.int ((0 : Int32) - (1 : Int32))), .unset, .unset, .unset, .unset] [(.ref a), (.int ((0 : Int32) - (1 : Int32)))])) _
    exact kt)
  clear S442
  obtain ⟨T444, X444, e444, st444⟩ := getF X441 hx hZ hown (host := "") (Or.inl (hw _ (List.mem_of_getElem? (i := 29) rfl))) Via.refl e441 Fb438 (g := (mkF m 13 #[.val (.ref a), .val (.int ((0 : Int32) - (1 : Int32))), .unset, .unset, .unset, .unset] [(.ref a), (.int ((0 : Int32) - (1 : Int32)))])) rfl rfl (hb hby d5_13)
  have S445 : Go p e below s₁ (entryFrame m #[(.ref a)] 6) T444 (mkF m 16 #[.val (.ref a), .val (.int ((0 : Int32) - (1 : Int32))), .unset, .unset, .unset, .unset] [(.int (0 : Int32)), (.int ((0 : Int32) - (1 : Int32)))]) := fun t kt => S443 t (st444 t kt)
  clear S443 st444 X441 e441
  have S446 : Go p e below s₁ (entryFrame m #[(.ref a)] 6) T444 (mkF m 38 #[.val (.ref a), .val (.int ((0 : Int32) - (1 : Int32))), .unset, .unset, .unset, .unset] [(.ref a), (.int ((0 : Int32) - (1 : Int32)))]) := fun t kt => S445 t (by
    refine XS.icmpYes X444.here hx rfl (pc0 := 16) (pc' := 36) rfl (hb hby d5_16) rfl (tlt (show ((0 : Int32) - (1 : Int32)) < (0 : Int32) from (by decide))).1 (by decide) (by decide) ?_
    show Steps p.tables e below (T444.setTop (mkF m 36 #[.val (.ref a), .val (.int ((0 : Int32) - (1 : Int32))), .unset, .unset, .unset, .unset] [])) _
    refine XS.iloadN X444.here hx rfl (hb hby d5_36) rfl ?_
    show Steps p.tables e below (T444.setTop (mkF m 37 #[.val (.ref a), .val (.int ((0 : Int32) - (1 : Int32))), .unset, .unset, .unset, .unset] [(.int ((0 : Int32) - (1 : Int32)))])) _
    refine XS.aloadN X444.here hx rfl (hb hby d5_37) rfl rfl ?_
    show Steps p.tables e below (T444.setTop (mkF m 38 #[.val (.ref a), .val (.int ((0 : Int32) - (1 : Int32))), .unset, .unset, .unset, .unset] [(.ref a), (.int ((0 : Int32) - (1 : Int32)))])) _
    exact kt)
  clear S445
  obtain ⟨T447, X447, e447, st447⟩ := getF X444 hx hZ hown (host := "") (Or.inl (hw _ (List.mem_of_getElem? (i := 29) rfl))) Via.refl e444 Fb438 (g := (mkF m 38 #[.val (.ref a), .val (.int ((0 : Int32) - (1 : Int32))), .unset, .unset, .unset, .unset] [(.ref a), (.int ((0 : Int32) - (1 : Int32)))])) rfl rfl (hb hby d5_38)
  have S448 : Go p e below s₁ (entryFrame m #[(.ref a)] 6) T447 (mkF m 41 #[.val (.ref a), .val (.int ((0 : Int32) - (1 : Int32))), .unset, .unset, .unset, .unset] [(.int (0 : Int32)), (.int ((0 : Int32) - (1 : Int32)))]) := fun t kt => S446 t (st447 t kt)
  clear S446 st447 X444 e444
  have S449 : Go p e below s₁ (entryFrame m #[(.ref a)] 6) T447 (mkF m 45 #[.val (.ref a), .val (.int ((0 : Int32) - (1 : Int32))), .unset, .unset, .unset, .unset] [(.double (0 : UInt64))]) := fun t kt => S448 t (by
    refine XS.icmpNo X447.here hx rfl (hb hby d5_41) rfl (tlt (show ((0 : Int32) - (1 : Int32)) < (0 : Int32) from (by decide))).2.1 ?_
    show Steps p.tables e below (T447.setTop (mkF m 44 #[.val (.ref a), .val (.int ((0 : Int32) - (1 : Int32))), .unset, .unset, .unset, .unset] [])) _
    refine XS.dconst0 X447.here hx rfl (hb hby d5_44) rfl ?_
    show Steps p.tables e below (T447.setTop (mkF m 45 #[.val (.ref a), .val (.int ((0 : Int32) - (1 : Int32))), .unset, .unset, .unset, .unset] [(.double (0 : UInt64))])) _
    exact kt)
  clear S448
  obtain ⟨fs, hr, hrun, hended, hW, hsame⟩ := X447.leave (v := some (.double (0 : UInt64))) (fun h => by first | rfl | (rw [Bd.returns] at h; cases h))
  refine ⟨_, _, S449 _ ?_, hrun, hended, _, _, rfl, ?_, ⟨_, rfl⟩, hW, hsame.mono (by decide) (by decide)⟩
  · exact retOut X447 hx Bd.returns rfl (Or.inr (Or.inr (Or.inl ⟨rfl, rfl, _, rfl⟩))) (hb hby d5_45) hr
  · show Q_val0 Z a b kb vs h0 n0 _ T447.heap _
    rw [e447]
    exact ⟨rfl, N438, Kk438, Ex438, Fa438, Fb438, Fc438, Fd438, Va438⟩
theorem ef_add (m : MethodId) (x0 : Addr) (x1 : UInt64) : entryFrame m #[(.ref x0), (.double x1)] 15 = mkF m 0 #[.val (.ref x0), .val (.double x1), .second, .unset, .unset, .unset, .unset, .unset, .unset, .unset, .unset, .unset, .unset, .unset, .unset] [] := by first | (simp [entryFrame, mkF, argsToLocals, Value.category]; done) | rfl
theorem pn_add : plainName "com/example/umbel/umbel/rank/ExactSum" = true := by first | (simp [plainName, overriddenIn]; done) | decide +kernel
def Q_add (Z : State) (a : Addr) (b : Addr) (kb : ClassId) (li : Int32) (n : Nat) (x : Int64) (y : Int64) (z : Int64) (h0 : Heap) (n0 : Nat) (v : Option Value) (h : Heap) (L : List Loc) : Prop := v = none ∧ Fr n0 L ∧ Keep h0 h [a, b] ∧ Exa Z h a "com/example/umbel/umbel/rank/ExactSum" ∧ Fld Z h a "com/example/umbel/umbel/rank/ExactSum" "limbs" "[J" (.ref b) ∧ Fld Z h a "com/example/umbel/umbel/rank/ExactSum" "from" "I" (.int li) ∧ Fld Z h a "com/example/umbel/umbel/rank/ExactSum" "to" "I" (.int (li + (3 : Int32))) ∧ Fld Z h a "com/example/umbel/umbel/rank/ExactSum" "pending" "I" (.int (1 : Int32)) ∧ Arv Z h b kb .long (68 : Int32) (own_L n x y z) (.long (0 : Int64))
set_option maxRecDepth 65536 in
set_option maxHeartbeats 40000000 in
theorem rm_add (l : Launch) (Z : State) (a0 : Array Value) (hw : ∀ d ∈ tables_1, d.before a0 Z = true) (ws : List Jvm.Cond) (a : Addr) (b : Addr) (kb : ClassId) (xb : UInt64) (ex : Int32) (sg0 : Int64) (sig : Int64) (pos : Int32) (sh : Int32) (hi : Int64) (li : Int32) (n : Nat) (x : Int64) (y : Int64) (z : Int64) (h0 : Heap) (n0 : Nat) (Z0 : n0 ≤ h0.size) (E0 : Exa Z h0 a "com/example/umbel/umbel/rank/ExactSum") (F0 : Fld Z h0 a "com/example/umbel/umbel/rank/ExactSum" "limbs" "[J" (.ref b)) (F1 : Fld Z h0 a "com/example/umbel/umbel/rank/ExactSum" "from" "I" (.int (0 : Int32))) (F2 : Fld Z h0 a "com/example/umbel/umbel/rank/ExactSum" "to" "I" (.int (0 : Int32))) (F3 : Fld Z h0 a "com/example/umbel/umbel/rank/ExactSum" "pending" "I" (.int (0 : Int32))) (V0 : Arv Z h0 b kb .long (68 : Int32) (own_L n 0 0 0) (.long (0 : Int64))) (g_a : n0 ≤ a) (g_b : n0 ≤ b) (hab : a ≠ b) (hl : li.toInt = (n : Int)) (hn : n ≤ 65) (c1 : ¬ ((FP.cmpInt (-1) (FP.dcmp xb (0 : UInt64))) < (0 : Int32))) (c2 : (FP.cmpInt 1 (FP.dcmp xb (9218868437227405312 : UInt64))) < (0 : Int32)) (e1 : ((((xb.toInt64.toUInt64 >>> ((52 : Int32) &&& 0x3f).toInt64.toUInt64).toInt64).toInt32) &&& (2047 : Int32)) = ex) (e2 : (xb.toInt64 &&& (4503599627370495 : Int64)) = sg0) (e3 : ((0 : Int32) < ex ∧ (sg0 ||| (4503599627370496 : Int64)) = sig ∧ (ex - (1 : Int32)) = pos) ∨ (¬ ((0 : Int32) < ex) ∧ sg0 = sig ∧ (0 : Int32) = pos)) (e4 : (pos / (32 : Int32)) = li) (e5 : (pos % (32 : Int32)) = sh) (e6 : (sh = (0 : Int32) ∧ (0 : Int64) = hi) ∨ (¬ sh = (0 : Int32) ∧ ((sig.toUInt64 >>> (((64 : Int32) - sh) &&& 0x3f).toInt64.toUInt64).toInt64) = hi)) (e7 : ((0 : Int64) + ((sig <<< (sh &&& 0x3f).toInt64) &&& (4294967295 : Int64))) = x) (e8 : ((0 : Int64) + (((sig <<< (sh &&& 0x3f).toInt64).toUInt64 >>> ((32 : Int32) &&& 0x3f).toInt64.toUInt64).toInt64)) = y) (e9 : ((0 : Int64) + hi) = z) :
    MetFree l (⟨"com/example/umbel/umbel/rank/ExactSum", "add", "(D)V"⟩ : MethodName) (head1 (Jvm.Cond.code (⟨"com/example/umbel/umbel/rank/ExactSum", "add", "(D)V"⟩ : MethodName) prog_6_method_2_code 15 none :: ws) ({ frames := 1, cells := 0, slots := 0, locals := 17 } : Room)) (fun aa U => aa = #[(.ref a), (.double xb)] ∧ Z.Warmed39 U.vm ∧ U.heap = h0) (fun _ _ _ _ _ => True) (fun _ U o U' => ∃ v L, o = .returned v ∧ Q_add Z a b kb li n x y z h0 n0 v U'.heap L ∧ FrameEnd U o U' L ({ frames := 1, cells := 0, slots := 0, locals := 17 } : Room).cells ({ frames := 1, cells := 0, slots := 0, locals := 17 } : Room).slots) := by
  refine MetFree.of_bodySF (plainFor_of_name pn_add) hisR ?_
  intro p e s m args below meth c s₁ Bd hml0 hP hK
  obtain ⟨rfl, hZ, hh⟩ := hP
  have hx := Bd.exec
  have hby := Bd.bytes
  have hml : c.maxLocals = 15 := hml0
  have hown : s.vm.findClass "com/example/umbel/umbel/rank/ExactSum" = some m.cls := findClass_of_methodNamed Bd.named
  have hnm := (name_of_methodNamed Bd.named Bd.method).1
  have X0 : Stand p l e ({ frames := 1, cells := 0, slots := 0, locals := 17 } : Room) s m #[(.ref a), (.double xb)] below meth c s₁ [] 0 0 := Stand.of_body Bd
  have e0 : s₁.heap = h0 := by rw [← hh, Bd.state]; rfl
  have N0 := Fr.nil n0
  have S0 : Go p e below s₁ (entryFrame m #[(.ref a), (.double xb)] 15) s₁ (mkF m 0 #[.val (.ref a), .val (.double xb), .second, .unset, .unset, .unset, .unset, .unset, .unset, .unset, .unset, .unset, .unset, .unset, .unset] []) := fun t k => castTop (ef_add m a xb) k
  have r0 := own_rng hl (show n < 68 by omega)
  have i1 := own_i1 hl hn
  have r1 := own_rng i1 (show n + 1 < 68 by omega)
  have i2 := own_ix (k := 2) hl hn (by decide)
  have r2 := own_rng (j := li + (2 : Int32)) i2 (show n + 2 < 68 by omega)
  have S450 : Go p e below s₁ (entryFrame m #[(.ref a), (.double xb)] 15) s₁ (mkF m 3 #[.val (.ref a), .val (.double xb), .second, .unset, .unset, .unset, .unset, .unset, .unset, .unset, .unset, .unset, .unset, .unset, .unset] [(.int (FP.cmpInt (-1) (FP.dcmp xb (0 : UInt64))))]) := fun t kt => S0 t (by
    refine XS.dloadN X0.here hx rfl (hb hby d3_0) rfl ?_
    show Steps p.tables e below (s₁.setTop (mkF m 1 #[.val (.ref a), .val (.double xb), .second, .unset, .unset, .unset, .unset, .unset, .unset, .unset, .unset, .unset, .unset, .unset, .unset] [(.double xb)])) _
    refine XS.dconst0 X0.here hx rfl (hb hby d3_1) rfl ?_
    show Steps p.tables e below (s₁.setTop (mkF m 2 #[.val (.ref a), .val (.double xb), .second, .unset, .unset, .unset, .unset, .unset, .unset, .unset, .unset, .unset, .unset, .unset, .unset] [(.double (0 : UInt64)), (.double xb)])) _
    refine XS.dcmpS X0.here hx rfl (hb hby d3_2) rfl (cmpV_l _) ?_
    show Steps p.tables e below (s₁.setTop (mkF m 3 #[.val (.ref a), .val (.double xb), .second, .unset, .unset, .unset, .unset, .unset, .unset, .unset, .unset, .unset, .unset, .unset, .unset] [(.int (FP.cmpInt (-1) (FP.dcmp xb (0 : UInt64))))])) _
    exact kt)
  clear S0
  have S451 : Go p e below s₁ (entryFrame m #[(.ref a), (.double xb)] 15) s₁ (mkF m 11 #[.val (.ref a), .val (.double xb), .second, .unset, .unset, .unset, .unset, .unset, .unset, .unset, .unset, .unset, .unset, .unset, .unset] [(.int (FP.cmpInt 1 (FP.dcmp xb (9218868437227405312 : UInt64))))]) := fun t kt => S450 t (by
    refine XS.ifNo X0.here hx rfl (hb hby d3_3) rfl ((if0 _ _).trans (flt (show ¬ ((FP.cmpInt (-1) (FP.dcmp xb (0 : UInt64))) < (0 : Int32)) from c1)).1) ?_
    show Steps p.tables e below (s₁.setTop (mkF m 6 #[.val (.ref a), .val (.double xb), .second, .unset, .unset, .unset, .unset, .unset, .unset, .unset, .unset, .unset, .unset, .unset, .unset] [])) _
    refine XS.dloadN X0.here hx rfl (hb hby d3_6) rfl ?_
    show Steps p.tables e below (s₁.setTop (mkF m 7 #[.val (.ref a), .val (.double xb), .second, .unset, .unset, .unset, .unset, .unset, .unset, .unset, .unset, .unset, .unset, .unset, .unset] [(.double xb)])) _
    refine X0.ldc2DoubleC hx hown (mvT hZ (hw _ (List.mem_of_getElem? (i := 18) rfl))) (g := (mkF m 7 #[.val (.ref a), .val (.double xb), .second, .unset, .unset, .unset, .unset, .unset, .unset, .unset, .unset, .unset, .unset, .unset, .unset] [(.double xb)])) rfl (hb hby d3_7) _ ?_
    show Steps p.tables e below (s₁.setTop (mkF m 10 #[.val (.ref a), .val (.double xb), .second, .unset, .unset, .unset, .unset, .unset, .unset, .unset, .unset, .unset, .unset, .unset, .unset] [(.double (9218868437227405312 : UInt64)), (.double xb)])) _
    refine XS.dcmpS X0.here hx rfl (hb hby d3_10) rfl (cmpV_g _) ?_
    show Steps p.tables e below (s₁.setTop (mkF m 11 #[.val (.ref a), .val (.double xb), .second, .unset, .unset, .unset, .unset, .unset, .unset, .unset, .unset, .unset, .unset, .unset, .unset] [(.int (FP.cmpInt 1 (FP.dcmp xb (9218868437227405312 : UInt64))))])) _
    exact kt)
  clear S450
  have S452 : Go p e below s₁ (entryFrame m #[(.ref a), (.double xb)] 15) s₁ (mkF m 29 #[.val (.ref a), .val (.double xb), .second, .unset, .unset, .unset, .unset, .unset, .unset, .unset, .unset, .unset, .unset, .unset, .unset] [(.double xb)]) := fun t kt => S451 t (by
    refine XS.ifYes X0.here hx rfl (pc0 := 11) (pc' := 28) rfl (hb hby d3_11) rfl ((if0 _ _).trans (tlt (show (FP.cmpInt 1 (FP.dcmp xb (9218868437227405312 : UInt64))) < (0 : Int32) from c2)).1) (by decide) (by decide) ?_
    show Steps p.tables e below (s₁.setTop (mkF m 28 #[.val (.ref a), .val (.double xb), .second, .unset, .unset, .unset, .unset, .unset, .unset, .unset, .unset, .unset, .unset, .unset, .unset] [])) _
    refine XS.dloadN X0.here hx rfl (hb hby d3_28) rfl ?_
    show Steps p.tables e below (s₁.setTop (mkF m 29 #[.val (.ref a), .val (.double xb), .second, .unset, .unset, .unset, .unset, .unset, .unset, .unset, .unset, .unset, .unset, .unset, .unset] [(.double xb)])) _
    exact kt)
  clear S451
  obtain ⟨T453, X453, e453, st453⟩ := own_dbits X0 hx hZ hown (hw _ (List.mem_of_getElem? (i := 19) rfl)) (hw _ (List.mem_of_getElem? (i := 20) rfl)) (hw _ (List.mem_of_getElem? (i := 21) rfl)) (hw _ (List.mem_of_getElem? (i := 22) rfl)) e0 (by decide) (W := 0) (by decide) (g := (mkF m 29 #[.val (.ref a), .val (.double xb), .second, .unset, .unset, .unset, .unset, .unset, .unset, .unset, .unset, .unset, .unset, .unset, .unset] [(.double xb)])) rfl (by rw [hml]; rfl)  rfl (by show 2 * 0 + _ ≤ _; exact Nat.le_of_eq rfl) (hb hby d3_29)
  have S454 : Go p e below s₁ (entryFrame m #[(.ref a), (.double xb)] 15) T453 (mkF m 32 #[.val (.ref a), .val (.double xb), .second, .unset, .unset, .unset, .unset, .unset, .unset, .unset, .unset, .unset, .unset, .unset, .unset] [(.long xb.toInt64)]) := fun t kt => S452 t (st453 t kt)
  clear S452 st453 X0 e0
  have S455 : Go p e below s₁ (entryFrame m #[(.ref a), (.double xb)] 15) T453 (mkF m 42 #[.val (.ref a), .val (.double xb), .second, .val (.long xb.toInt64), .second, .unset, .unset, .unset, .unset, .unset, .unset, .unset, .unset, .unset, .unset] [(.int ((((xb.toInt64.toUInt64 >>> ((52 : Int32) &&& 0x3f).toInt64.toUInt64).toInt64).toInt32) &&& (2047 : Int32)))]) := fun t kt => S454 t (by
    refine XS.lstoreN X453.here hx rfl (hb hby d3_32) rfl (l' := #[.val (.ref a), .val (.double xb), .second, .val (.long xb.toInt64), .second, .unset, .unset, .unset, .unset, .unset, .unset, .unset, .unset, .unset, .unset]) rfl ?_
    show Steps p.tables e below (T453.setTop (mkF m 33 #[.val (.ref a), .val (.double xb), .second, .val (.long xb.toInt64), .second, .unset, .unset, .unset, .unset, .unset, .unset, .unset, .unset, .unset, .unset] [])) _
    refine XS.lloadN X453.here hx rfl (hb hby d3_33) rfl ?_
    show Steps p.tables e below (T453.setTop (mkF m 34 #[.val (.ref a), .val (.double xb), .second, .val (.long xb.toInt64), .second, .unset, .unset, .unset, .unset, .unset, .unset, .unset, .unset, .unset, .unset] [(.long xb.toInt64)])) _
    refine XS.bipush X453.here hx rfl (hb hby d3_34) ?_
    show Steps p.tables e below (T453.setTop (mkF m 36 #[.val (.ref a), .val (.double xb), .second, .val (.long xb.toInt64), .second, .unset, .unset, .unset, .unset, .unset, .unset, .unset, .unset, .unset, .unset] [(.int (52 : Int32)), (.long xb.toInt64)])) _
    refine XS.lushr X453.here hx rfl (hb hby d3_36) rfl ?_
    show Steps p.tables e below (T453.setTop (mkF m 37 #[.val (.ref a), .val (.double xb), .second, .val (.long xb.toInt64), .second, .unset, .unset, .unset, .unset, .unset, .unset, .unset, .unset, .unset, .unset] [(.long ((xb.toInt64.toUInt64 >>> ((52 : Int32) &&& 0x3f).toInt64.toUInt64).toInt64))])) _
    refine XS.l2i X453.here hx rfl (hb hby d3_37) rfl ?_
    show Steps p.tables e below (T453.setTop (mkF m 38 #[.val (.ref a), .val (.double xb), .second, .val (.long xb.toInt64), .second, .unset, .unset, .unset, .unset, .unset, .unset, .unset, .unset, .unset, .unset] [(.int (((xb.toInt64.toUInt64 >>> ((52 : Int32) &&& 0x3f).toInt64.toUInt64).toInt64).toInt32))])) _
    refine XS.sipush X453.here hx rfl (hb hby d3_38) ?_
    show Steps p.tables e below (T453.setTop (mkF m 41 #[.val (.ref a), .val (.double xb), .second, .val (.long xb.toInt64), .second, .unset, .unset, .unset, .unset, .unset, .unset, .unset, .unset, .unset, .unset] [(.int (2047 : Int32)), (.int (((xb.toInt64.toUInt64 >>> ((52 : Int32) &&& 0x3f).toInt64.toUInt64).toInt64).toInt32))])) _
    refine XS.iand X453.here hx rfl (hb hby d3_41) rfl ?_
    show Steps p.tables e below (T453.setTop (mkF m 42 #[.val (.ref a), .val (.double xb), .second, .val (.long xb.toInt64), .second, .unset, .unset, .unset, .unset, .unset, .unset, .unset, .unset, .unset, .unset] [(.int ((((xb.toInt64.toUInt64 >>> ((52 : Int32) &&& 0x3f).toInt64.toUInt64).toInt64).toInt32) &&& (2047 : Int32)))])) _
    exact kt)
  clear S454
  have q457 : ((((xb.toInt64.toUInt64 >>> ((52 : Int32) &&& 0x3f).toInt64.toUInt64).toInt64).toInt32) &&& (2047 : Int32)) = ex := e1
  have S456 : Go p e below s₁ (entryFrame m #[(.ref a), (.double xb)] 15) T453 (mkF m 42 #[.val (.ref a), .val (.double xb), .second, .val (.long xb.toInt64), .second, .unset, .unset, .unset, .unset, .unset, .unset, .unset, .unset, .unset, .unset] [(.int ex)]) := by have h := S455; rw [q457] at h; exact h
  clear S455
  have S458 : Go p e below s₁ (entryFrame m #[(.ref a), (.double xb)] 15) T453 (mkF m 49 #[.val (.ref a), .val (.double xb), .second, .val (.long xb.toInt64), .second, .val (.int ex), .unset, .unset, .unset, .unset, .unset, .unset, .unset, .unset, .unset] [(.long (xb.toInt64 &&& (4503599627370495 : Int64)))]) := fun t kt => S456 t (by
    refine XS.istore X453.here hx rfl (hb hby d3_42) rfl (l' := #[.val (.ref a), .val (.double xb), .second, .val (.long xb.toInt64), .second, .val (.int ex), .unset, .unset, .unset, .unset, .unset, .unset, .unset, .unset, .unset]) rfl ?_
    show Steps p.tables e below (T453.setTop (mkF m 44 #[.val (.ref a), .val (.double xb), .second, .val (.long xb.toInt64), .second, .val (.int ex), .unset, .unset, .unset, .unset, .unset, .unset, .unset, .unset, .unset] [])) _
    refine XS.lloadN X453.here hx rfl (hb hby d3_44) rfl ?_
    show Steps p.tables e below (T453.setTop (mkF m 45 #[.val (.ref a), .val (.double xb), .second, .val (.long xb.toInt64), .second, .val (.int ex), .unset, .unset, .unset, .unset, .unset, .unset, .unset, .unset, .unset] [(.long xb.toInt64)])) _
    refine X453.ldc2Long hx hown (mvT hZ (hw _ (List.mem_of_getElem? (i := 23) rfl))) (g := (mkF m 45 #[.val (.ref a), .val (.double xb), .second, .val (.long xb.toInt64), .second, .val (.int ex), .unset, .unset, .unset, .unset, .unset, .unset, .unset, .unset, .unset] [(.long xb.toInt64)])) rfl (hb hby d3_45) _ ?_
    show Steps p.tables e below (T453.setTop (mkF m 48 #[.val (.ref a), .val (.double xb), .second, .val (.long xb.toInt64), .second, .val (.int ex), .unset, .unset, .unset, .unset, .unset, .unset, .unset, .unset, .unset] [(.long (4503599627370495 : Int64)), (.long xb.toInt64)])) _
    refine XS.land X453.here hx rfl (hb hby d3_48) rfl ?_
    show Steps p.tables e below (T453.setTop (mkF m 49 #[.val (.ref a), .val (.double xb), .second, .val (.long xb.toInt64), .second, .val (.int ex), .unset, .unset, .unset, .unset, .unset, .unset, .unset, .unset, .unset] [(.long (xb.toInt64 &&& (4503599627370495 : Int64)))])) _
    exact kt)
  clear S456
  have q460 : (xb.toInt64 &&& (4503599627370495 : Int64)) = sg0 := e2
  have S459 : Go p e below s₁ (entryFrame m #[(.ref a), (.double xb)] 15) T453 (mkF m 49 #[.val (.ref a), .val (.double xb), .second, .val (.long xb.toInt64), .second, .val (.int ex), .unset, .unset, .unset, .unset, .unset, .unset, .unset, .unset, .unset] [(.long sg0)]) := by have h := S458; rw [q460] at h; exact h
  clear S458
  have S461 : Go p e below s₁ (entryFrame m #[(.ref a), (.double xb)] 15) T453 (mkF m 56 #[.val (.ref a), .val (.double xb), .second, .val (.long xb.toInt64), .second, .val (.int ex), .val (.long sg0), .second, .val (.int (0 : Int32)), .unset, .unset, .unset, .unset, .unset, .unset] [(.int ex)]) := fun t kt => S459 t (by
    refine XS.lstore X453.here hx rfl (hb hby d3_49) rfl (l' := #[.val (.ref a), .val (.double xb), .second, .val (.long xb.toInt64), .second, .val (.int ex), .val (.long sg0), .second, .unset, .unset, .unset, .unset, .unset, .unset, .unset]) rfl ?_
    show Steps p.tables e below (T453.setTop (mkF m 51 #[.val (.ref a), .val (.double xb), .second, .val (.long xb.toInt64), .second, .val (.int ex), .val (.long sg0), .second, .unset, .unset, .unset, .unset, .unset, .unset, .unset] [])) _
    refine XS.iconst X453.here hx rfl (hb hby d3_51) ?_
    show Steps p.tables e below (T453.setTop (mkF m 52 #[.val (.ref a), .val (.double xb), .second, .val (.long xb.toInt64), .second, .val (.int ex), .val (.long sg0), .second, .unset, .unset, .unset, .unset, .unset, .unset, .unset] [(.int (0 : Int32))])) _
    refine XS.istore X453.here hx rfl (hb hby d3_52) rfl (l' := #[.val (.ref a), .val (.double xb), .second, .val (.long xb.toInt64), .second, .val (.int ex), .val (.long sg0), .second, .val (.int (0 : Int32)), .unset, .unset, .unset, .unset, .unset, .unset]) rfl ?_
    show Steps p.tables e below (T453.setTop (mkF m 54 #[.val (.ref a), .val (.double xb), .second, .val (.long xb.toInt64), .second, .val (.int ex), .val (.long sg0), .second, .val (.int (0 : Int32)), .unset, .unset, .unset, .unset, .unset, .unset] [])) _
    refine XS.iload X453.here hx rfl (hb hby d3_54) rfl ?_
    show Steps p.tables e below (T453.setTop (mkF m 56 #[.val (.ref a), .val (.double xb), .second, .val (.long xb.toInt64), .second, .val (.int ex), .val (.long sg0), .second, .val (.int (0 : Int32)), .unset, .unset, .unset, .unset, .unset, .unset] [(.int ex)])) _
    exact kt)
  clear S459
  have S472 : Go p e below s₁ (entryFrame m #[(.ref a), (.double xb)] 15) T453 (mkF m 73 #[.val (.ref a), .val (.double xb), .second, .val (.long xb.toInt64), .second, .val (.int ex), .val (.long sig), .second, .val (.int pos), .unset, .unset, .unset, .unset, .unset, .unset] []) := by
    by_cases hex : (0 : Int32) < ex
    · have S462 : Go p e below s₁ (entryFrame m #[(.ref a), (.double xb)] 15) T453 (mkF m 59 #[.val (.ref a), .val (.double xb), .second, .val (.long xb.toInt64), .second, .val (.int ex), .val (.long sg0), .second, .val (.int (0 : Int32)), .unset, .unset, .unset, .unset, .unset, .unset] []) := fun t kt => S461 t (by
        refine XS.ifNo X453.here hx rfl (hb hby d3_56) rfl ((if0 _ _).trans (tlt (show (0 : Int32) < ex from hex)).2.2.2) ?_
        show Steps p.tables e below (T453.setTop (mkF m 59 #[.val (.ref a), .val (.double xb), .second, .val (.long xb.toInt64), .second, .val (.int ex), .val (.long sg0), .second, .val (.int (0 : Int32)), .unset, .unset, .unset, .unset, .unset, .unset] [])) _
        exact kt)
      clear S461
      obtain ⟨-, e31, e32⟩ := e3.resolve_right (fun q => q.1 hex)
      have S463 : Go p e below s₁ (entryFrame m #[(.ref a), (.double xb)] 15) T453 (mkF m 73 #[.val (.ref a), .val (.double xb), .second, .val (.long xb.toInt64), .second, .val (.int ex), .val (.long (sg0 ||| (4503599627370496 : Int64))), .second, .val (.int (ex - (1 : Int32))), .unset, .unset, .unset, .unset, .unset, .unset] []) := fun t kt => S462 t (by
        refine XS.lload X453.here hx rfl (hb hby d3_59) rfl ?_
        show Steps p.tables e below (T453.setTop (mkF m 61 #[.val (.ref a), .val (.double xb), .second, .val (.long xb.toInt64), .second, .val (.int ex), .val (.long sg0), .second, .val (.int (0 : Int32)), .unset, .unset, .unset, .unset, .unset, .unset] [(.long sg0)])) _
        refine X453.ldc2Long hx hown (mvT hZ (hw _ (List.mem_of_getElem? (i := 57) rfl))) (g := (mkF m 61 #[.val (.ref a), .val (.double xb), .second, .val (.long xb.toInt64), .second, .val (.int ex), .val (.long sg0), .second, .val (.int (0 : Int32)), .unset, .unset, .unset, .unset, .unset, .unset] [(.long sg0)])) rfl (hb hby d3_61) _ ?_
        show Steps p.tables e below (T453.setTop (mkF m 64 #[.val (.ref a), .val (.double xb), .second, .val (.long xb.toInt64), .second, .val (.int ex), .val (.long sg0), .second, .val (.int (0 : Int32)), .unset, .unset, .unset, .unset, .unset, .unset] [(.long (4503599627370496 : Int64)), (.long sg0)])) _
        refine XS.lor X453.here hx rfl (hb hby d3_64) rfl ?_
        show Steps p.tables e below (T453.setTop (mkF m 65 #[.val (.ref a), .val (.double xb), .second, .val (.long xb.toInt64), .second, .val (.int ex), .val (.long sg0), .second, .val (.int (0 : Int32)), .unset, .unset, .unset, .unset, .unset, .unset] [(.long (sg0 ||| (4503599627370496 : Int64)))])) _
        refine XS.lstore X453.here hx rfl (hb hby d3_65) rfl (l' := #[.val (.ref a), .val (.double xb), .second, .val (.long xb.toInt64), .second, .val (.int ex), .val (.long (sg0 ||| (4503599627370496 : Int64))), .second, .val (.int (0 : Int32)), .unset, .unset, .unset, .unset, .unset, .unset]) rfl ?_
        show Steps p.tables e below (T453.setTop (mkF m 67 #[.val (.ref a), .val (.double xb), .second, .val (.long xb.toInt64), .second, .val (.int ex), .val (.long (sg0 ||| (4503599627370496 : Int64))), .second, .val (.int (0 : Int32)), .unset, .unset, .unset, .unset, .unset, .unset] [])) _
        refine XS.iload X453.here hx rfl (hb hby d3_67) rfl ?_
        show Steps p.tables e below (T453.setTop (mkF m 69 #[.val (.ref a), .val (.double xb), .second, .val (.long xb.toInt64), .second, .val (.int ex), .val (.long (sg0 ||| (4503599627370496 : Int64))), .second, .val (.int (0 : Int32)), .unset, .unset, .unset, .unset, .unset, .unset] [(.int ex)])) _
        refine XS.iconst X453.here hx rfl (hb hby d3_69) ?_
        show Steps p.tables e below (T453.setTop (mkF m 70 #[.val (.ref a), .val (.double xb), .second, .val (.long xb.toInt64), .second, .val (.int ex), .val (.long (sg0 ||| (4503599627370496 : Int64))), .second, .val (.int (0 : Int32)), .unset, .unset, .unset, .unset, .unset, .unset] [(.int (1 : Int32)), (.int ex)])) _
        refine XS.isub X453.here hx rfl (hb hby d3_70) rfl ?_
        show Steps p.tables e below (T453.setTop (mkF m 71 #[.val (.ref a), .val (.double xb), .second, .val (.long xb.toInt64), .second, .val (.int ex), .val (.long (sg0 ||| (4503599627370496 : Int64))), .second, .val (.int (0 : Int32)), .unset, .unset, .unset, .unset, .unset, .unset] [(.int (ex - (1 : Int32)))])) _
        refine XS.istore X453.here hx rfl (hb hby d3_71) rfl (l' := #[.val (.ref a), .val (.double xb), .second, .val (.long xb.toInt64), .second, .val (.int ex), .val (.long (sg0 ||| (4503599627370496 : Int64))), .second, .val (.int (ex - (1 : Int32))), .unset, .unset, .unset, .unset, .unset, .unset]) rfl ?_
        show Steps p.tables e below (T453.setTop (mkF m 73 #[.val (.ref a), .val (.double xb), .second, .val (.long xb.toInt64), .second, .val (.int ex), .val (.long (sg0 ||| (4503599627370496 : Int64))), .second, .val (.int (ex - (1 : Int32))), .unset, .unset, .unset, .unset, .unset, .unset] [])) _
        exact kt)
      clear S462
      have q465 : (sg0 ||| (4503599627370496 : Int64)) = sig := e31
      have S464 : Go p e below s₁ (entryFrame m #[(.ref a), (.double xb)] 15) T453 (mkF m 73 #[.val (.ref a), .val (.double xb), .second, .val (.long xb.toInt64), .second, .val (.int ex), .val (.long sig), .second, .val (.int (ex - (1 : Int32))), .unset, .unset, .unset, .unset, .unset, .unset] []) := by have h := S463; rw [q465] at h; exact h
      clear S463
      have q467 : (ex - (1 : Int32)) = pos := e32
      have S466 : Go p e below s₁ (entryFrame m #[(.ref a), (.double xb)] 15) T453 (mkF m 73 #[.val (.ref a), .val (.double xb), .second, .val (.long xb.toInt64), .second, .val (.int ex), .val (.long sig), .second, .val (.int pos), .unset, .unset, .unset, .unset, .unset, .unset] []) := by have h := S464; rw [q467] at h; exact h
      clear S464
      exact S466
    · have S468 : Go p e below s₁ (entryFrame m #[(.ref a), (.double xb)] 15) T453 (mkF m 73 #[.val (.ref a), .val (.double xb), .second, .val (.long xb.toInt64), .second, .val (.int ex), .val (.long sg0), .second, .val (.int (0 : Int32)), .unset, .unset, .unset, .unset, .unset, .unset] []) := fun t kt => S461 t (by
        refine XS.ifYes X453.here hx rfl (pc0 := 56) (pc' := 73) rfl (hb hby d3_56) rfl ((if0 _ _).trans (flt (show ¬ ((0 : Int32) < ex) from hex)).2.2.2) (by decide) (by decide) ?_
        show Steps p.tables e below (T453.setTop (mkF m 73 #[.val (.ref a), .val (.double xb), .second, .val (.long xb.toInt64), .second, .val (.int ex), .val (.long sg0), .second, .val (.int (0 : Int32)), .unset, .unset, .unset, .unset, .unset, .unset] [])) _
        exact kt)
      clear S461
      obtain ⟨-, e31, e32⟩ := e3.resolve_left (fun q => hex q.1)
      have q470 : sg0 = sig := e31
      have S469 : Go p e below s₁ (entryFrame m #[(.ref a), (.double xb)] 15) T453 (mkF m 73 #[.val (.ref a), .val (.double xb), .second, .val (.long xb.toInt64), .second, .val (.int ex), .val (.long sig), .second, .val (.int (0 : Int32)), .unset, .unset, .unset, .unset, .unset, .unset] []) := by have h := S468; rw [q470] at h; exact h
      clear S468
      have S471 : Go p e below s₁ (entryFrame m #[(.ref a), (.double xb)] 15) T453 (mkF m 73 #[.val (.ref a), .val (.double xb), .second, .val (.long xb.toInt64), .second, .val (.int ex), .val (.long sig), .second, .val (.int pos), .unset, .unset, .unset, .unset, .unset, .unset] []) := by rw [← e32]; exact S469
      exact S471
  clear S461
  have S473 : Go p e below s₁ (entryFrame m #[(.ref a), (.double xb)] 15) T453 (mkF m 78 #[.val (.ref a), .val (.double xb), .second, .val (.long xb.toInt64), .second, .val (.int ex), .val (.long sig), .second, .val (.int pos), .unset, .unset, .unset, .unset, .unset, .unset] [(.int (pos / (32 : Int32)))]) := fun t kt => S472 t (by
    refine XS.iload X453.here hx rfl (hb hby d3_73) rfl ?_
    show Steps p.tables e below (T453.setTop (mkF m 75 #[.val (.ref a), .val (.double xb), .second, .val (.long xb.toInt64), .second, .val (.int ex), .val (.long sig), .second, .val (.int pos), .unset, .unset, .unset, .unset, .unset, .unset] [(.int pos)])) _
    refine XS.bipush X453.here hx rfl (hb hby d3_75) ?_
    show Steps p.tables e below (T453.setTop (mkF m 77 #[.val (.ref a), .val (.double xb), .second, .val (.long xb.toInt64), .second, .val (.int ex), .val (.long sig), .second, .val (.int pos), .unset, .unset, .unset, .unset, .unset, .unset] [(.int (32 : Int32)), (.int pos)])) _
    refine XS.idiv X453.here hx rfl (hb hby d3_77) rfl (by decide) ?_
    show Steps p.tables e below (T453.setTop (mkF m 78 #[.val (.ref a), .val (.double xb), .second, .val (.long xb.toInt64), .second, .val (.int ex), .val (.long sig), .second, .val (.int pos), .unset, .unset, .unset, .unset, .unset, .unset] [(.int (pos / (32 : Int32)))])) _
    exact kt)
  clear S472
  have q475 : (pos / (32 : Int32)) = li := e4
  have S474 : Go p e below s₁ (entryFrame m #[(.ref a), (.double xb)] 15) T453 (mkF m 78 #[.val (.ref a), .val (.double xb), .second, .val (.long xb.toInt64), .second, .val (.int ex), .val (.long sig), .second, .val (.int pos), .unset, .unset, .unset, .unset, .unset, .unset] [(.int li)]) := by have h := S473; rw [q475] at h; exact h
  clear S473
  have S476 : Go p e below s₁ (entryFrame m #[(.ref a), (.double xb)] 15) T453 (mkF m 85 #[.val (.ref a), .val (.double xb), .second, .val (.long xb.toInt64), .second, .val (.int ex), .val (.long sig), .second, .val (.int pos), .val (.int li), .unset, .unset, .unset, .unset, .unset] [(.int (pos % (32 : Int32)))]) := fun t kt => S474 t (by
    refine XS.istore X453.here hx rfl (hb hby d3_78) rfl (l' := #[.val (.ref a), .val (.double xb), .second, .val (.long xb.toInt64), .second, .val (.int ex), .val (.long sig), .second, .val (.int pos), .val (.int li), .unset, .unset, .unset, .unset, .unset]) rfl ?_
    show Steps p.tables e below (T453.setTop (mkF m 80 #[.val (.ref a), .val (.double xb), .second, .val (.long xb.toInt64), .second, .val (.int ex), .val (.long sig), .second, .val (.int pos), .val (.int li), .unset, .unset, .unset, .unset, .unset] [])) _
    refine XS.iload X453.here hx rfl (hb hby d3_80) rfl ?_
    show Steps p.tables e below (T453.setTop (mkF m 82 #[.val (.ref a), .val (.double xb), .second, .val (.long xb.toInt64), .second, .val (.int ex), .val (.long sig), .second, .val (.int pos), .val (.int li), .unset, .unset, .unset, .unset, .unset] [(.int pos)])) _
    refine XS.bipush X453.here hx rfl (hb hby d3_82) ?_
    show Steps p.tables e below (T453.setTop (mkF m 84 #[.val (.ref a), .val (.double xb), .second, .val (.long xb.toInt64), .second, .val (.int ex), .val (.long sig), .second, .val (.int pos), .val (.int li), .unset, .unset, .unset, .unset, .unset] [(.int (32 : Int32)), (.int pos)])) _
    refine iremM X453 hx rfl (hb hby d3_84) rfl (by decide) ?_
    show Steps p.tables e below (T453.setTop (mkF m 85 #[.val (.ref a), .val (.double xb), .second, .val (.long xb.toInt64), .second, .val (.int ex), .val (.long sig), .second, .val (.int pos), .val (.int li), .unset, .unset, .unset, .unset, .unset] [(.int (pos % (32 : Int32)))])) _
    exact kt)
  clear S474
  have q478 : (pos % (32 : Int32)) = sh := e5
  have S477 : Go p e below s₁ (entryFrame m #[(.ref a), (.double xb)] 15) T453 (mkF m 85 #[.val (.ref a), .val (.double xb), .second, .val (.long xb.toInt64), .second, .val (.int ex), .val (.long sig), .second, .val (.int pos), .val (.int li), .unset, .unset, .unset, .unset, .unset] [(.int sh)]) := by have h := S476; rw [q478] at h; exact h
  clear S476
  have S479 : Go p e below s₁ (entryFrame m #[(.ref a), (.double xb)] 15) T453 (mkF m 96 #[.val (.ref a), .val (.double xb), .second, .val (.long xb.toInt64), .second, .val (.int ex), .val (.long sig), .second, .val (.int pos), .val (.int li), .val (.int sh), .val (.long (sig <<< (sh &&& 0x3f).toInt64)), .second, .unset, .unset] [(.int sh)]) := fun t kt => S477 t (by
    refine XS.istore X453.here hx rfl (hb hby d3_85) rfl (l' := #[.val (.ref a), .val (.double xb), .second, .val (.long xb.toInt64), .second, .val (.int ex), .val (.long sig), .second, .val (.int pos), .val (.int li), .val (.int sh), .unset, .unset, .unset, .unset]) rfl ?_
    show Steps p.tables e below (T453.setTop (mkF m 87 #[.val (.ref a), .val (.double xb), .second, .val (.long xb.toInt64), .second, .val (.int ex), .val (.long sig), .second, .val (.int pos), .val (.int li), .val (.int sh), .unset, .unset, .unset, .unset] [])) _
    refine XS.lload X453.here hx rfl (hb hby d3_87) rfl ?_
    show Steps p.tables e below (T453.setTop (mkF m 89 #[.val (.ref a), .val (.double xb), .second, .val (.long xb.toInt64), .second, .val (.int ex), .val (.long sig), .second, .val (.int pos), .val (.int li), .val (.int sh), .unset, .unset, .unset, .unset] [(.long sig)])) _
    refine XS.iload X453.here hx rfl (hb hby d3_89) rfl ?_
    show Steps p.tables e below (T453.setTop (mkF m 91 #[.val (.ref a), .val (.double xb), .second, .val (.long xb.toInt64), .second, .val (.int ex), .val (.long sig), .second, .val (.int pos), .val (.int li), .val (.int sh), .unset, .unset, .unset, .unset] [(.int sh), (.long sig)])) _
    refine XS.lshl X453.here hx rfl (hb hby d3_91) rfl ?_
    show Steps p.tables e below (T453.setTop (mkF m 92 #[.val (.ref a), .val (.double xb), .second, .val (.long xb.toInt64), .second, .val (.int ex), .val (.long sig), .second, .val (.int pos), .val (.int li), .val (.int sh), .unset, .unset, .unset, .unset] [(.long (sig <<< (sh &&& 0x3f).toInt64))])) _
    refine XS.lstore X453.here hx rfl (hb hby d3_92) rfl (l' := #[.val (.ref a), .val (.double xb), .second, .val (.long xb.toInt64), .second, .val (.int ex), .val (.long sig), .second, .val (.int pos), .val (.int li), .val (.int sh), .val (.long (sig <<< (sh &&& 0x3f).toInt64)), .second, .unset, .unset]) rfl ?_
    show Steps p.tables e below (T453.setTop (mkF m 94 #[.val (.ref a), .val (.double xb), .second, .val (.long xb.toInt64), .second, .val (.int ex), .val (.long sig), .second, .val (.int pos), .val (.int li), .val (.int sh), .val (.long (sig <<< (sh &&& 0x3f).toInt64)), .second, .unset, .unset] [])) _
    refine XS.iload X453.here hx rfl (hb hby d3_94) rfl ?_
    show Steps p.tables e below (T453.setTop (mkF m 96 #[.val (.ref a), .val (.double xb), .second, .val (.long xb.toInt64), .second, .val (.int ex), .val (.long sig), .second, .val (.int pos), .val (.int li), .val (.int sh), .val (.long (sig <<< (sh &&& 0x3f).toInt64)), .second, .unset, .unset] [(.int sh)])) _
    exact kt)
  clear S477
  have S487 : Go p e below s₁ (entryFrame m #[(.ref a), (.double xb)] 15) T453 (mkF m 111 #[.val (.ref a), .val (.double xb), .second, .val (.long xb.toInt64), .second, .val (.int ex), .val (.long sig), .second, .val (.int pos), .val (.int li), .val (.int sh), .val (.long (sig <<< (sh &&& 0x3f).toInt64)), .second, .unset, .unset] [(.long hi)]) := by
    by_cases hsh : sh = (0 : Int32)
    · have S480 : Go p e below s₁ (entryFrame m #[(.ref a), (.double xb)] 15) T453 (mkF m 99 #[.val (.ref a), .val (.double xb), .second, .val (.long xb.toInt64), .second, .val (.int ex), .val (.long sig), .second, .val (.int pos), .val (.int li), .val (.int sh), .val (.long (sig <<< (sh &&& 0x3f).toInt64)), .second, .unset, .unset] []) := fun t kt => S479 t (by
        refine XS.ifNo X453.here hx rfl (hb hby d3_96) rfl ((if0 _ _).trans (teq (show sh = (0 : Int32) from hsh)).2) ?_
        show Steps p.tables e below (T453.setTop (mkF m 99 #[.val (.ref a), .val (.double xb), .second, .val (.long xb.toInt64), .second, .val (.int ex), .val (.long sig), .second, .val (.int pos), .val (.int li), .val (.int sh), .val (.long (sig <<< (sh &&& 0x3f).toInt64)), .second, .unset, .unset] [])) _
        exact kt)
      clear S479
      obtain ⟨-, e61⟩ := e6.resolve_right (fun q => q.1 hsh)
      have S481 : Go p e below s₁ (entryFrame m #[(.ref a), (.double xb)] 15) T453 (mkF m 111 #[.val (.ref a), .val (.double xb), .second, .val (.long xb.toInt64), .second, .val (.int ex), .val (.long sig), .second, .val (.int pos), .val (.int li), .val (.int sh), .val (.long (sig <<< (sh &&& 0x3f).toInt64)), .second, .unset, .unset] [(.long (0 : Int64))]) := fun t kt => S480 t (by
        refine XS.lconst X453.here hx rfl (hb hby d3_99) ?_
        show Steps p.tables e below (T453.setTop (mkF m 100 #[.val (.ref a), .val (.double xb), .second, .val (.long xb.toInt64), .second, .val (.int ex), .val (.long sig), .second, .val (.int pos), .val (.int li), .val (.int sh), .val (.long (sig <<< (sh &&& 0x3f).toInt64)), .second, .unset, .unset] [(.long (0 : Int64))])) _
        refine XS.goto X453.here hx rfl (pc0 := 100) (pc' := 111) rfl (hb hby d3_100) (by decide) (by decide) ?_
        show Steps p.tables e below (T453.setTop (mkF m 111 #[.val (.ref a), .val (.double xb), .second, .val (.long xb.toInt64), .second, .val (.int ex), .val (.long sig), .second, .val (.int pos), .val (.int li), .val (.int sh), .val (.long (sig <<< (sh &&& 0x3f).toInt64)), .second, .unset, .unset] [(.long (0 : Int64))])) _
        exact kt)
      clear S480
      have S482 : Go p e below s₁ (entryFrame m #[(.ref a), (.double xb)] 15) T453 (mkF m 111 #[.val (.ref a), .val (.double xb), .second, .val (.long xb.toInt64), .second, .val (.int ex), .val (.long sig), .second, .val (.int pos), .val (.int li), .val (.int sh), .val (.long (sig <<< (sh &&& 0x3f).toInt64)), .second, .unset, .unset] [(.long hi)]) := by rw [← e61]; exact S481
      exact S482
    · have S483 : Go p e below s₁ (entryFrame m #[(.ref a), (.double xb)] 15) T453 (mkF m 103 #[.val (.ref a), .val (.double xb), .second, .val (.long xb.toInt64), .second, .val (.int ex), .val (.long sig), .second, .val (.int pos), .val (.int li), .val (.int sh), .val (.long (sig <<< (sh &&& 0x3f).toInt64)), .second, .unset, .unset] []) := fun t kt => S479 t (by
        refine XS.ifYes X453.here hx rfl (pc0 := 96) (pc' := 103) rfl (hb hby d3_96) rfl ((if0 _ _).trans (feq (show ¬ (sh = (0 : Int32)) from hsh)).2) (by decide) (by decide) ?_
        show Steps p.tables e below (T453.setTop (mkF m 103 #[.val (.ref a), .val (.double xb), .second, .val (.long xb.toInt64), .second, .val (.int ex), .val (.long sig), .second, .val (.int pos), .val (.int li), .val (.int sh), .val (.long (sig <<< (sh &&& 0x3f).toInt64)), .second, .unset, .unset] [])) _
        exact kt)
      clear S479
      obtain ⟨-, e61⟩ := e6.resolve_left (fun q => hsh q.1)
      have S484 : Go p e below s₁ (entryFrame m #[(.ref a), (.double xb)] 15) T453 (mkF m 111 #[.val (.ref a), .val (.double xb), .second, .val (.long xb.toInt64), .second, .val (.int ex), .val (.long sig), .second, .val (.int pos), .val (.int li), .val (.int sh), .val (.long (sig <<< (sh &&& 0x3f).toInt64)), .second, .unset, .unset] [(.long ((sig.toUInt64 >>> (((64 : Int32) - sh) &&& 0x3f).toInt64.toUInt64).toInt64))]) := fun t kt => S483 t (by
        refine XS.lload X453.here hx rfl (hb hby d3_103) rfl ?_
        show Steps p.tables e below (T453.setTop (mkF m 105 #[.val (.ref a), .val (.double xb), .second, .val (.long xb.toInt64), .second, .val (.int ex), .val (.long sig), .second, .val (.int pos), .val (.int li), .val (.int sh), .val (.long (sig <<< (sh &&& 0x3f).toInt64)), .second, .unset, .unset] [(.long sig)])) _
        refine XS.bipush X453.here hx rfl (hb hby d3_105) ?_
        show Steps p.tables e below (T453.setTop (mkF m 107 #[.val (.ref a), .val (.double xb), .second, .val (.long xb.toInt64), .second, .val (.int ex), .val (.long sig), .second, .val (.int pos), .val (.int li), .val (.int sh), .val (.long (sig <<< (sh &&& 0x3f).toInt64)), .second, .unset, .unset] [(.int (64 : Int32)), (.long sig)])) _
        refine XS.iload X453.here hx rfl (hb hby d3_107) rfl ?_
        show Steps p.tables e below (T453.setTop (mkF m 109 #[.val (.ref a), .val (.double xb), .second, .val (.long xb.toInt64), .second, .val (.int ex), .val (.long sig), .second, .val (.int pos), .val (.int li), .val (.int sh), .val (.long (sig <<< (sh &&& 0x3f).toInt64)), .second, .unset, .unset] [(.int sh), (.int (64 : Int32)), (.long sig)])) _
        refine XS.isub X453.here hx rfl (hb hby d3_109) rfl ?_
        show Steps p.tables e below (T453.setTop (mkF m 110 #[.val (.ref a), .val (.double xb), .second, .val (.long xb.toInt64), .second, .val (.int ex), .val (.long sig), .second, .val (.int pos), .val (.int li), .val (.int sh), .val (.long (sig <<< (sh &&& 0x3f).toInt64)), .second, .unset, .unset] [(.int ((64 : Int32) - sh)), (.long sig)])) _
        refine XS.lushr X453.here hx rfl (hb hby d3_110) rfl ?_
        show Steps p.tables e below (T453.setTop (mkF m 111 #[.val (.ref a), .val (.double xb), .second, .val (.long xb.toInt64), .second, .val (.int ex), .val (.long sig), .second, .val (.int pos), .val (.int li), .val (.int sh), .val (.long (sig <<< (sh &&& 0x3f).toInt64)), .second, .unset, .unset] [(.long ((sig.toUInt64 >>> (((64 : Int32) - sh) &&& 0x3f).toInt64.toUInt64).toInt64))])) _
        exact kt)
      clear S483
      have q486 : ((sig.toUInt64 >>> (((64 : Int32) - sh) &&& 0x3f).toInt64.toUInt64).toInt64) = hi := e61
      have S485 : Go p e below s₁ (entryFrame m #[(.ref a), (.double xb)] 15) T453 (mkF m 111 #[.val (.ref a), .val (.double xb), .second, .val (.long xb.toInt64), .second, .val (.int ex), .val (.long sig), .second, .val (.int pos), .val (.int li), .val (.int sh), .val (.long (sig <<< (sh &&& 0x3f).toInt64)), .second, .unset, .unset] [(.long hi)]) := by have h := S484; rw [q486] at h; exact h
      clear S484
      exact S485
  clear S479
  have S488 : Go p e below s₁ (entryFrame m #[(.ref a), (.double xb)] 15) T453 (mkF m 114 #[.val (.ref a), .val (.double xb), .second, .val (.long xb.toInt64), .second, .val (.int ex), .val (.long sig), .second, .val (.int pos), .val (.int li), .val (.int sh), .val (.long (sig <<< (sh &&& 0x3f).toInt64)), .second, .val (.long hi), .second] [(.ref a)]) := fun t kt => S487 t (by
    refine XS.lstore X453.here hx rfl (hb hby d3_111) rfl (l' := #[.val (.ref a), .val (.double xb), .second, .val (.long xb.toInt64), .second, .val (.int ex), .val (.long sig), .second, .val (.int pos), .val (.int li), .val (.int sh), .val (.long (sig <<< (sh &&& 0x3f).toInt64)), .second, .val (.long hi), .second]) rfl ?_
    show Steps p.tables e below (T453.setTop (mkF m 113 #[.val (.ref a), .val (.double xb), .second, .val (.long xb.toInt64), .second, .val (.int ex), .val (.long sig), .second, .val (.int pos), .val (.int li), .val (.int sh), .val (.long (sig <<< (sh &&& 0x3f).toInt64)), .second, .val (.long hi), .second] [])) _
    refine XS.aloadN X453.here hx rfl (hb hby d3_113) rfl rfl ?_
    show Steps p.tables e below (T453.setTop (mkF m 114 #[.val (.ref a), .val (.double xb), .second, .val (.long xb.toInt64), .second, .val (.int ex), .val (.long sig), .second, .val (.int pos), .val (.int li), .val (.int sh), .val (.long (sig <<< (sh &&& 0x3f).toInt64)), .second, .val (.long hi), .second] [(.ref a)])) _
    exact kt)
  clear S487
  obtain ⟨T489, X489, e489, st489⟩ := getF X453 hx hZ hown (host := "") (Or.inl (hw _ (List.mem_of_getElem? (i := 11) rfl))) Via.refl e453 F0 (g := (mkF m 114 #[.val (.ref a), .val (.double xb), .second, .val (.long xb.toInt64), .second, .val (.int ex), .val (.long sig), .second, .val (.int pos), .val (.int li), .val (.int sh), .val (.long (sig <<< (sh &&& 0x3f).toInt64)), .second, .val (.long hi), .second] [(.ref a)])) rfl rfl (hb hby d3_114)
  have S490 : Go p e below s₁ (entryFrame m #[(.ref a), (.double xb)] 15) T489 (mkF m 117 #[.val (.ref a), .val (.double xb), .second, .val (.long xb.toInt64), .second, .val (.int ex), .val (.long sig), .second, .val (.int pos), .val (.int li), .val (.int sh), .val (.long (sig <<< (sh &&& 0x3f).toInt64)), .second, .val (.long hi), .second] [(.ref b)]) := fun t kt => S488 t (st489 t kt)
  clear S488 st489 X453 e453
  have S491 : Go p e below s₁ (entryFrame m #[(.ref a), (.double xb)] 15) T489 (mkF m 120 #[.val (.ref a), .val (.double xb), .second, .val (.long xb.toInt64), .second, .val (.int ex), .val (.long sig), .second, .val (.int pos), .val (.int li), .val (.int sh), .val (.long (sig <<< (sh &&& 0x3f).toInt64)), .second, .val (.long hi), .second] [(.int li), (.ref b), (.int li), (.ref b)]) := fun t kt => S490 t (by
    refine XS.iload X489.here hx rfl (hb hby d3_117) rfl ?_
    show Steps p.tables e below (T489.setTop (mkF m 119 #[.val (.ref a), .val (.double xb), .second, .val (.long xb.toInt64), .second, .val (.int ex), .val (.long sig), .second, .val (.int pos), .val (.int li), .val (.int sh), .val (.long (sig <<< (sh &&& 0x3f).toInt64)), .second, .val (.long hi), .second] [(.int li), (.ref b)])) _
    refine Jvm.Free.XT.dup2 X489.here hx rfl (hb hby d3_119) rfl rfl rfl ?_
    show Steps p.tables e below (T489.setTop (mkF m 120 #[.val (.ref a), .val (.double xb), .second, .val (.long xb.toInt64), .second, .val (.int ex), .val (.long sig), .second, .val (.int pos), .val (.int li), .val (.int sh), .val (.long (sig <<< (sh &&& 0x3f).toInt64)), .second, .val (.long hi), .second] [(.int li), (.ref b), (.int li), (.ref b)])) _
    exact kt)
  clear S490
  obtain ⟨co492, Ao492, qo492, So492, No492, Ho492, Go492⟩ := id V0
  have hino492 : ¬ (li < 0 ∨ co492.slots.size ≤ (li).toNatClampNeg) := inb_of So492 r0.1
  have hato492 : co492.slots[(li).toNatClampNeg]? = some (.long (0 : Int64)) := Has.at Ho492 hino492 (by rw [r0.2]; exact own_at0 n hn 0 0 0)
  have S493 : Go p e below s₁ (entryFrame m #[(.ref a), (.double xb)] 15) T489 (mkF m 128 #[.val (.ref a), .val (.double xb), .second, .val (.long xb.toInt64), .second, .val (.int ex), .val (.long sig), .second, .val (.int pos), .val (.int li), .val (.int sh), .val (.long (sig <<< (sh &&& 0x3f).toInt64)), .second, .val (.long hi), .second] [(.long ((0 : Int64) + ((sig <<< (sh &&& 0x3f).toInt64) &&& (4294967295 : Int64)))), (.int li), (.ref b)]) := fun t kt => S491 t (by
    refine X489.laload hx (j := li) (v := (.long (0 : Int64))) (by rw [e489]; exact Ao492.1) (State.isArrayOf_alike hZ.alike Ao492.2.1) Ao492.2.2 hino492 hato492 (g := (mkF m 120 #[.val (.ref a), .val (.double xb), .second, .val (.long xb.toInt64), .second, .val (.int ex), .val (.long sig), .second, .val (.int pos), .val (.int li), .val (.int sh), .val (.long (sig <<< (sh &&& 0x3f).toInt64)), .second, .val (.long hi), .second] [(.int li), (.ref b), (.int li), (.ref b)])) rfl rfl (hb hby d3_120) _ ?_
    show Steps p.tables e below (T489.setTop (mkF m 121 #[.val (.ref a), .val (.double xb), .second, .val (.long xb.toInt64), .second, .val (.int ex), .val (.long sig), .second, .val (.int pos), .val (.int li), .val (.int sh), .val (.long (sig <<< (sh &&& 0x3f).toInt64)), .second, .val (.long hi), .second] [(.long (0 : Int64)), (.int li), (.ref b)])) _
    refine XS.lload X489.here hx rfl (hb hby d3_121) rfl ?_
    show Steps p.tables e below (T489.setTop (mkF m 123 #[.val (.ref a), .val (.double xb), .second, .val (.long xb.toInt64), .second, .val (.int ex), .val (.long sig), .second, .val (.int pos), .val (.int li), .val (.int sh), .val (.long (sig <<< (sh &&& 0x3f).toInt64)), .second, .val (.long hi), .second] [(.long (sig <<< (sh &&& 0x3f).toInt64)), (.long (0 : Int64)), (.int li), (.ref b)])) _
    refine X489.ldc2Long hx hown (mvT hZ (hw _ (List.mem_of_getElem? (i := 24) rfl))) (g := (mkF m 123 #[.val (.ref a), .val (.double xb), .second, .val (.long xb.toInt64), .second, .val (.int ex), .val (.long sig), .second, .val (.int pos), .val (.int li), .val (.int sh), .val (.long (sig <<< (sh &&& 0x3f).toInt64)), .second, .val (.long hi), .second] [(.long (sig <<< (sh &&& 0x3f).toInt64)), (.long (0 : Int64)), (.int li), (.ref b)])) rfl (hb hby d3_123) _ ?_
    show Steps p.tables e below (T489.setTop (mkF m 126 #[.val (.ref a), .val (.double xb), .second, .val (.long xb.toInt64), .second, .val (.int ex), .val (.long sig), .second, .val (.int pos), .val (.int li), .val (.int sh), .val (.long (sig <<< (sh &&& 0x3f).toInt64)), .second, .val (.long hi), .second] [(.long (4294967295 : Int64)), (.long (sig <<< (sh &&& 0x3f).toInt64)), (.long (0 : Int64)), (.int li), (.ref b)])) _
    refine XS.land X489.here hx rfl (hb hby d3_126) rfl ?_
    show Steps p.tables e below (T489.setTop (mkF m 127 #[.val (.ref a), .val (.double xb), .second, .val (.long xb.toInt64), .second, .val (.int ex), .val (.long sig), .second, .val (.int pos), .val (.int li), .val (.int sh), .val (.long (sig <<< (sh &&& 0x3f).toInt64)), .second, .val (.long hi), .second] [(.long ((sig <<< (sh &&& 0x3f).toInt64) &&& (4294967295 : Int64))), (.long (0 : Int64)), (.int li), (.ref b)])) _
    refine XS.ladd X489.here hx rfl (hb hby d3_127) rfl ?_
    show Steps p.tables e below (T489.setTop (mkF m 128 #[.val (.ref a), .val (.double xb), .second, .val (.long xb.toInt64), .second, .val (.int ex), .val (.long sig), .second, .val (.int pos), .val (.int li), .val (.int sh), .val (.long (sig <<< (sh &&& 0x3f).toInt64)), .second, .val (.long hi), .second] [(.long ((0 : Int64) + ((sig <<< (sh &&& 0x3f).toInt64) &&& (4294967295 : Int64)))), (.int li), (.ref b)])) _
    exact kt)
  clear S491
  have q495 : ((0 : Int64) + ((sig <<< (sh &&& 0x3f).toInt64) &&& (4294967295 : Int64))) = x := e7
  have S494 : Go p e below s₁ (entryFrame m #[(.ref a), (.double xb)] 15) T489 (mkF m 128 #[.val (.ref a), .val (.double xb), .second, .val (.long xb.toInt64), .second, .val (.int ex), .val (.long sig), .second, .val (.int pos), .val (.int li), .val (.int sh), .val (.long (sig <<< (sh &&& 0x3f).toInt64)), .second, .val (.long hi), .second] [(.long x), (.int li), (.ref b)]) := by have h := S493; rw [q495] at h; exact h
  clear S493
  obtain ⟨co496, Ao496, qo496, So496, No496, Ho496, Go496⟩ := id V0
  have hino496 : ¬ (li < 0 ∨ co496.slots.size ≤ (li).toNatClampNeg) := inb_of So496 r0.1
  obtain ⟨T497, h497, X497, e497, W497, st497⟩ := stJ X489 hx hZ e489 Ao496 (j := li) hino496 (g := (mkF m 128 #[.val (.ref a), .val (.double xb), .second, .val (.long xb.toInt64), .second, .val (.int ex), .val (.long sig), .second, .val (.int pos), .val (.int li), .val (.int sh), .val (.long (sig <<< (sh &&& 0x3f).toInt64)), .second, .val (.long hi), .second] [(.long x), (.int li), (.ref b)])) rfl rfl (hb hby d3_128)
  have N497 := Fr.snoc X497 N0 g_b
  have K497 : Keep h0 h497 [a, b] := (Keep.refl h0 [a, b]).wr W497 (Or.inl (by simp))
  have V497 : Arv Z h497 b kb .long (68 : Int32) (own_L n x 0 0) (.long (0 : Int64)) := by rw [← (own_set n hn 0 0 0 x).1]; exact Arv.set Ao496 qo496 So496 No496 Ho496 Go496 rfl W497 n r0.2 (by rw [own_len]; omega)
  have S498 : Go p e below s₁ (entryFrame m #[(.ref a), (.double xb)] 15) T497 (mkF m 129 #[.val (.ref a), .val (.double xb), .second, .val (.long xb.toInt64), .second, .val (.int ex), .val (.long sig), .second, .val (.int pos), .val (.int li), .val (.int sh), .val (.long (sig <<< (sh &&& 0x3f).toInt64)), .second, .val (.long hi), .second] []) := fun t kt => S494 t (st497 t kt)
  clear S494 st497 X489 e489
  have S499 : Go p e below s₁ (entryFrame m #[(.ref a), (.double xb)] 15) T497 (mkF m 130 #[.val (.ref a), .val (.double xb), .second, .val (.long xb.toInt64), .second, .val (.int ex), .val (.long sig), .second, .val (.int pos), .val (.int li), .val (.int sh), .val (.long (sig <<< (sh &&& 0x3f).toInt64)), .second, .val (.long hi), .second] [(.ref a)]) := fun t kt => S498 t (by
    refine XS.aloadN X497.here hx rfl (hb hby d3_129) rfl rfl ?_
    show Steps p.tables e below (T497.setTop (mkF m 130 #[.val (.ref a), .val (.double xb), .second, .val (.long xb.toInt64), .second, .val (.int ex), .val (.long sig), .second, .val (.int pos), .val (.int li), .val (.int sh), .val (.long (sig <<< (sh &&& 0x3f).toInt64)), .second, .val (.long hi), .second] [(.ref a)])) _
    exact kt)
  clear S498
  have f500 := (F0.other W497 (Or.inl hab))
  obtain ⟨T501, X501, e501, st501⟩ := getF X497 hx hZ hown (host := "") (Or.inl (hw _ (List.mem_of_getElem? (i := 11) rfl))) Via.refl e497 f500 (g := (mkF m 130 #[.val (.ref a), .val (.double xb), .second, .val (.long xb.toInt64), .second, .val (.int ex), .val (.long sig), .second, .val (.int pos), .val (.int li), .val (.int sh), .val (.long (sig <<< (sh &&& 0x3f).toInt64)), .second, .val (.long hi), .second] [(.ref a)])) rfl rfl (hb hby d3_130)
  have S502 : Go p e below s₁ (entryFrame m #[(.ref a), (.double xb)] 15) T501 (mkF m 133 #[.val (.ref a), .val (.double xb), .second, .val (.long xb.toInt64), .second, .val (.int ex), .val (.long sig), .second, .val (.int pos), .val (.int li), .val (.int sh), .val (.long (sig <<< (sh &&& 0x3f).toInt64)), .second, .val (.long hi), .second] [(.ref b)]) := fun t kt => S499 t (st501 t kt)
  clear S499 st501 X497 e497
  have S503 : Go p e below s₁ (entryFrame m #[(.ref a), (.double xb)] 15) T501 (mkF m 138 #[.val (.ref a), .val (.double xb), .second, .val (.long xb.toInt64), .second, .val (.int ex), .val (.long sig), .second, .val (.int pos), .val (.int li), .val (.int sh), .val (.long (sig <<< (sh &&& 0x3f).toInt64)), .second, .val (.long hi), .second] [(.int (li + (1 : Int32))), (.ref b), (.int (li + (1 : Int32))), (.ref b)]) := fun t kt => S502 t (by
    refine XS.iload X501.here hx rfl (hb hby d3_133) rfl ?_
    show Steps p.tables e below (T501.setTop (mkF m 135 #[.val (.ref a), .val (.double xb), .second, .val (.long xb.toInt64), .second, .val (.int ex), .val (.long sig), .second, .val (.int pos), .val (.int li), .val (.int sh), .val (.long (sig <<< (sh &&& 0x3f).toInt64)), .second, .val (.long hi), .second] [(.int li), (.ref b)])) _
    refine XS.iconst X501.here hx rfl (hb hby d3_135) ?_
    show Steps p.tables e below (T501.setTop (mkF m 136 #[.val (.ref a), .val (.double xb), .second, .val (.long xb.toInt64), .second, .val (.int ex), .val (.long sig), .second, .val (.int pos), .val (.int li), .val (.int sh), .val (.long (sig <<< (sh &&& 0x3f).toInt64)), .second, .val (.long hi), .second] [(.int (1 : Int32)), (.int li), (.ref b)])) _
    refine XS.iadd X501.here hx rfl (hb hby d3_136) rfl ?_
    show Steps p.tables e below (T501.setTop (mkF m 137 #[.val (.ref a), .val (.double xb), .second, .val (.long xb.toInt64), .second, .val (.int ex), .val (.long sig), .second, .val (.int pos), .val (.int li), .val (.int sh), .val (.long (sig <<< (sh &&& 0x3f).toInt64)), .second, .val (.long hi), .second] [(.int (li + (1 : Int32))), (.ref b)])) _
    refine Jvm.Free.XT.dup2 X501.here hx rfl (hb hby d3_137) rfl rfl rfl ?_
    show Steps p.tables e below (T501.setTop (mkF m 138 #[.val (.ref a), .val (.double xb), .second, .val (.long xb.toInt64), .second, .val (.int ex), .val (.long sig), .second, .val (.int pos), .val (.int li), .val (.int sh), .val (.long (sig <<< (sh &&& 0x3f).toInt64)), .second, .val (.long hi), .second] [(.int (li + (1 : Int32))), (.ref b), (.int (li + (1 : Int32))), (.ref b)])) _
    exact kt)
  clear S502
  obtain ⟨co504, Ao504, qo504, So504, No504, Ho504, Go504⟩ := id V497
  have hino504 : ¬ ((li + (1 : Int32)) < 0 ∨ co504.slots.size ≤ ((li + (1 : Int32))).toNatClampNeg) := inb_of So504 r1.1
  have hato504 : co504.slots[((li + (1 : Int32))).toNatClampNeg]? = some (.long (0 : Int64)) := Has.at Ho504 hino504 (by rw [r1.2]; exact own_at1 n hn x 0 0)
  have S505 : Go p e below s₁ (entryFrame m #[(.ref a), (.double xb)] 15) T501 (mkF m 145 #[.val (.ref a), .val (.double xb), .second, .val (.long xb.toInt64), .second, .val (.int ex), .val (.long sig), .second, .val (.int pos), .val (.int li), .val (.int sh), .val (.long (sig <<< (sh &&& 0x3f).toInt64)), .second, .val (.long hi), .second] [(.long ((0 : Int64) + (((sig <<< (sh &&& 0x3f).toInt64).toUInt64 >>> ((32 : Int32) &&& 0x3f).toInt64.toUInt64).toInt64))), (.int (li + (1 : Int32))), (.ref b)]) := fun t kt => S503 t (by
    refine X501.laload hx (j := (li + (1 : Int32))) (v := (.long (0 : Int64))) (by rw [e501]; exact Ao504.1) (State.isArrayOf_alike hZ.alike Ao504.2.1) Ao504.2.2 hino504 hato504 (g := (mkF m 138 #[.val (.ref a), .val (.double xb), .second, .val (.long xb.toInt64), .second, .val (.int ex), .val (.long sig), .second, .val (.int pos), .val (.int li), .val (.int sh), .val (.long (sig <<< (sh &&& 0x3f).toInt64)), .second, .val (.long hi), .second] [(.int (li + (1 : Int32))), (.ref b), (.int (li + (1 : Int32))), (.ref b)])) rfl rfl (hb hby d3_138) _ ?_
    show Steps p.tables e below (T501.setTop (mkF m 139 #[.val (.ref a), .val (.double xb), .second, .val (.long xb.toInt64), .second, .val (.int ex), .val (.long sig), .second, .val (.int pos), .val (.int li), .val (.int sh), .val (.long (sig <<< (sh &&& 0x3f).toInt64)), .second, .val (.long hi), .second] [(.long (0 : Int64)), (.int (li + (1 : Int32))), (.ref b)])) _
    refine XS.lload X501.here hx rfl (hb hby d3_139) rfl ?_
    show Steps p.tables e below (T501.setTop (mkF m 141 #[.val (.ref a), .val (.double xb), .second, .val (.long xb.toInt64), .second, .val (.int ex), .val (.long sig), .second, .val (.int pos), .val (.int li), .val (.int sh), .val (.long (sig <<< (sh &&& 0x3f).toInt64)), .second, .val (.long hi), .second] [(.long (sig <<< (sh &&& 0x3f).toInt64)), (.long (0 : Int64)), (.int (li + (1 : Int32))), (.ref b)])) _
    refine XS.bipush X501.here hx rfl (hb hby d3_141) ?_
    show Steps p.tables e below (T501.setTop (mkF m 143 #[.val (.ref a), .val (.double xb), .second, .val (.long xb.toInt64), .second, .val (.int ex), .val (.long sig), .second, .val (.int pos), .val (.int li), .val (.int sh), .val (.long (sig <<< (sh &&& 0x3f).toInt64)), .second, .val (.long hi), .second] [(.int (32 : Int32)), (.long (sig <<< (sh &&& 0x3f).toInt64)), (.long (0 : Int64)), (.int (li + (1 : Int32))), (.ref b)])) _
    refine XS.lushr X501.here hx rfl (hb hby d3_143) rfl ?_
    show Steps p.tables e below (T501.setTop (mkF m 144 #[.val (.ref a), .val (.double xb), .second, .val (.long xb.toInt64), .second, .val (.int ex), .val (.long sig), .second, .val (.int pos), .val (.int li), .val (.int sh), .val (.long (sig <<< (sh &&& 0x3f).toInt64)), .second, .val (.long hi), .second] [(.long (((sig <<< (sh &&& 0x3f).toInt64).toUInt64 >>> ((32 : Int32) &&& 0x3f).toInt64.toUInt64).toInt64)), (.long (0 : Int64)), (.int (li + (1 : Int32))), (.ref b)])) _
    refine XS.ladd X501.here hx rfl (hb hby d3_144) rfl ?_
    show Steps p.tables e below (T501.setTop (mkF m 145 #[.val (.ref a), .val (.double xb), .second, .val (.long xb.toInt64), .second, .val (.int ex), .val (.long sig), .second, .val (.int pos), .val (.int li), .val (.int sh), .val (.long (sig <<< (sh &&& 0x3f).toInt64)), .second, .val (.long hi), .second] [(.long ((0 : Int64) + (((sig <<< (sh &&& 0x3f).toInt64).toUInt64 >>> ((32 : Int32) &&& 0x3f).toInt64.toUInt64).toInt64))), (.int (li + (1 : Int32))), (.ref b)])) _
    exact kt)
  clear S503
  have q507 : ((0 : Int64) + (((sig <<< (sh &&& 0x3f).toInt64).toUInt64 >>> ((32 : Int32) &&& 0x3f).toInt64.toUInt64).toInt64)) = y := e8
  have S506 : Go p e below s₁ (entryFrame m #[(.ref a), (.double xb)] 15) T501 (mkF m 145 #[.val (.ref a), .val (.double xb), .second, .val (.long xb.toInt64), .second, .val (.int ex), .val (.long sig), .second, .val (.int pos), .val (.int li), .val (.int sh), .val (.long (sig <<< (sh &&& 0x3f).toInt64)), .second, .val (.long hi), .second] [(.long y), (.int (li + (1 : Int32))), (.ref b)]) := by have h := S505; rw [q507] at h; exact h
  clear S505
  obtain ⟨co508, Ao508, qo508, So508, No508, Ho508, Go508⟩ := id V497
  have hino508 : ¬ ((li + (1 : Int32)) < 0 ∨ co508.slots.size ≤ ((li + (1 : Int32))).toNatClampNeg) := inb_of So508 r1.1
  obtain ⟨T509, h509, X509, e509, W509, st509⟩ := stJ X501 hx hZ e501 Ao508 (j := (li + (1 : Int32))) hino508 (g := (mkF m 145 #[.val (.ref a), .val (.double xb), .second, .val (.long xb.toInt64), .second, .val (.int ex), .val (.long sig), .second, .val (.int pos), .val (.int li), .val (.int sh), .val (.long (sig <<< (sh &&& 0x3f).toInt64)), .second, .val (.long hi), .second] [(.long y), (.int (li + (1 : Int32))), (.ref b)])) rfl rfl (hb hby d3_145)
  have N509 := Fr.snoc X509 N497 g_b
  have K509 : Keep h0 h509 [a, b] := K497.wr W509 (Or.inl (by simp))
  have V509 : Arv Z h509 b kb .long (68 : Int32) (own_L n x y 0) (.long (0 : Int64)) := by rw [← (own_set n hn x 0 0 y).2.1]; exact Arv.set Ao508 qo508 So508 No508 Ho508 Go508 rfl W509 (n + 1) r1.2 (by rw [own_len]; omega)
  have S510 : Go p e below s₁ (entryFrame m #[(.ref a), (.double xb)] 15) T509 (mkF m 146 #[.val (.ref a), .val (.double xb), .second, .val (.long xb.toInt64), .second, .val (.int ex), .val (.long sig), .second, .val (.int pos), .val (.int li), .val (.int sh), .val (.long (sig <<< (sh &&& 0x3f).toInt64)), .second, .val (.long hi), .second] []) := fun t kt => S506 t (st509 t kt)
  clear S506 st509 X501 e501
  have S511 : Go p e below s₁ (entryFrame m #[(.ref a), (.double xb)] 15) T509 (mkF m 147 #[.val (.ref a), .val (.double xb), .second, .val (.long xb.toInt64), .second, .val (.int ex), .val (.long sig), .second, .val (.int pos), .val (.int li), .val (.int sh), .val (.long (sig <<< (sh &&& 0x3f).toInt64)), .second, .val (.long hi), .second] [(.ref a)]) := fun t kt => S510 t (by
    refine XS.aloadN X509.here hx rfl (hb hby d3_146) rfl rfl ?_
    show Steps p.tables e below (T509.setTop (mkF m 147 #[.val (.ref a), .val (.double xb), .second, .val (.long xb.toInt64), .second, .val (.int ex), .val (.long sig), .second, .val (.int pos), .val (.int li), .val (.int sh), .val (.long (sig <<< (sh &&& 0x3f).toInt64)), .second, .val (.long hi), .second] [(.ref a)])) _
    exact kt)
  clear S510
  have f512 := (f500.other W509 (Or.inl hab))
  obtain ⟨T513, X513, e513, st513⟩ := getF X509 hx hZ hown (host := "") (Or.inl (hw _ (List.mem_of_getElem? (i := 11) rfl))) Via.refl e509 f512 (g := (mkF m 147 #[.val (.ref a), .val (.double xb), .second, .val (.long xb.toInt64), .second, .val (.int ex), .val (.long sig), .second, .val (.int pos), .val (.int li), .val (.int sh), .val (.long (sig <<< (sh &&& 0x3f).toInt64)), .second, .val (.long hi), .second] [(.ref a)])) rfl rfl (hb hby d3_147)
  have S514 : Go p e below s₁ (entryFrame m #[(.ref a), (.double xb)] 15) T513 (mkF m 150 #[.val (.ref a), .val (.double xb), .second, .val (.long xb.toInt64), .second, .val (.int ex), .val (.long sig), .second, .val (.int pos), .val (.int li), .val (.int sh), .val (.long (sig <<< (sh &&& 0x3f).toInt64)), .second, .val (.long hi), .second] [(.ref b)]) := fun t kt => S511 t (st513 t kt)
  clear S511 st513 X509 e509
  have S515 : Go p e below s₁ (entryFrame m #[(.ref a), (.double xb)] 15) T513 (mkF m 155 #[.val (.ref a), .val (.double xb), .second, .val (.long xb.toInt64), .second, .val (.int ex), .val (.long sig), .second, .val (.int pos), .val (.int li), .val (.int sh), .val (.long (sig <<< (sh &&& 0x3f).toInt64)), .second, .val (.long hi), .second] [(.int (li + (2 : Int32))), (.ref b), (.int (li + (2 : Int32))), (.ref b)]) := fun t kt => S514 t (by
    refine XS.iload X513.here hx rfl (hb hby d3_150) rfl ?_
    show Steps p.tables e below (T513.setTop (mkF m 152 #[.val (.ref a), .val (.double xb), .second, .val (.long xb.toInt64), .second, .val (.int ex), .val (.long sig), .second, .val (.int pos), .val (.int li), .val (.int sh), .val (.long (sig <<< (sh &&& 0x3f).toInt64)), .second, .val (.long hi), .second] [(.int li), (.ref b)])) _
    refine XS.iconst X513.here hx rfl (hb hby d3_152) ?_
    show Steps p.tables e below (T513.setTop (mkF m 153 #[.val (.ref a), .val (.double xb), .second, .val (.long xb.toInt64), .second, .val (.int ex), .val (.long sig), .second, .val (.int pos), .val (.int li), .val (.int sh), .val (.long (sig <<< (sh &&& 0x3f).toInt64)), .second, .val (.long hi), .second] [(.int (2 : Int32)), (.int li), (.ref b)])) _
    refine XS.iadd X513.here hx rfl (hb hby d3_153) rfl ?_
    show Steps p.tables e below (T513.setTop (mkF m 154 #[.val (.ref a), .val (.double xb), .second, .val (.long xb.toInt64), .second, .val (.int ex), .val (.long sig), .second, .val (.int pos), .val (.int li), .val (.int sh), .val (.long (sig <<< (sh &&& 0x3f).toInt64)), .second, .val (.long hi), .second] [(.int (li + (2 : Int32))), (.ref b)])) _
    refine Jvm.Free.XT.dup2 X513.here hx rfl (hb hby d3_154) rfl rfl rfl ?_
    show Steps p.tables e below (T513.setTop (mkF m 155 #[.val (.ref a), .val (.double xb), .second, .val (.long xb.toInt64), .second, .val (.int ex), .val (.long sig), .second, .val (.int pos), .val (.int li), .val (.int sh), .val (.long (sig <<< (sh &&& 0x3f).toInt64)), .second, .val (.long hi), .second] [(.int (li + (2 : Int32))), (.ref b), (.int (li + (2 : Int32))), (.ref b)])) _
    exact kt)
  clear S514
  obtain ⟨co516, Ao516, qo516, So516, No516, Ho516, Go516⟩ := id V509
  have hino516 : ¬ ((li + (2 : Int32)) < 0 ∨ co516.slots.size ≤ ((li + (2 : Int32))).toNatClampNeg) := inb_of So516 r2.1
  have hato516 : co516.slots[((li + (2 : Int32))).toNatClampNeg]? = some (.long (0 : Int64)) := Has.at Ho516 hino516 (by rw [r2.2]; exact own_at2 n hn x y 0)
  have S517 : Go p e below s₁ (entryFrame m #[(.ref a), (.double xb)] 15) T513 (mkF m 159 #[.val (.ref a), .val (.double xb), .second, .val (.long xb.toInt64), .second, .val (.int ex), .val (.long sig), .second, .val (.int pos), .val (.int li), .val (.int sh), .val (.long (sig <<< (sh &&& 0x3f).toInt64)), .second, .val (.long hi), .second] [(.long ((0 : Int64) + hi)), (.int (li + (2 : Int32))), (.ref b)]) := fun t kt => S515 t (by
    refine X513.laload hx (j := (li + (2 : Int32))) (v := (.long (0 : Int64))) (by rw [e513]; exact Ao516.1) (State.isArrayOf_alike hZ.alike Ao516.2.1) Ao516.2.2 hino516 hato516 (g := (mkF m 155 #[.val (.ref a), .val (.double xb), .second, .val (.long xb.toInt64), .second, .val (.int ex), .val (.long sig), .second, .val (.int pos), .val (.int li), .val (.int sh), .val (.long (sig <<< (sh &&& 0x3f).toInt64)), .second, .val (.long hi), .second] [(.int (li + (2 : Int32))), (.ref b), (.int (li + (2 : Int32))), (.ref b)])) rfl rfl (hb hby d3_155) _ ?_
    show Steps p.tables e below (T513.setTop (mkF m 156 #[.val (.ref a), .val (.double xb), .second, .val (.long xb.toInt64), .second, .val (.int ex), .val (.long sig), .second, .val (.int pos), .val (.int li), .val (.int sh), .val (.long (sig <<< (sh &&& 0x3f).toInt64)), .second, .val (.long hi), .second] [(.long (0 : Int64)), (.int (li + (2 : Int32))), (.ref b)])) _
    refine XS.lload X513.here hx rfl (hb hby d3_156) rfl ?_
    show Steps p.tables e below (T513.setTop (mkF m 158 #[.val (.ref a), .val (.double xb), .second, .val (.long xb.toInt64), .second, .val (.int ex), .val (.long sig), .second, .val (.int pos), .val (.int li), .val (.int sh), .val (.long (sig <<< (sh &&& 0x3f).toInt64)), .second, .val (.long hi), .second] [(.long hi), (.long (0 : Int64)), (.int (li + (2 : Int32))), (.ref b)])) _
    refine XS.ladd X513.here hx rfl (hb hby d3_158) rfl ?_
    show Steps p.tables e below (T513.setTop (mkF m 159 #[.val (.ref a), .val (.double xb), .second, .val (.long xb.toInt64), .second, .val (.int ex), .val (.long sig), .second, .val (.int pos), .val (.int li), .val (.int sh), .val (.long (sig <<< (sh &&& 0x3f).toInt64)), .second, .val (.long hi), .second] [(.long ((0 : Int64) + hi)), (.int (li + (2 : Int32))), (.ref b)])) _
    exact kt)
  clear S515
  have q519 : ((0 : Int64) + hi) = z := e9
  have S518 : Go p e below s₁ (entryFrame m #[(.ref a), (.double xb)] 15) T513 (mkF m 159 #[.val (.ref a), .val (.double xb), .second, .val (.long xb.toInt64), .second, .val (.int ex), .val (.long sig), .second, .val (.int pos), .val (.int li), .val (.int sh), .val (.long (sig <<< (sh &&& 0x3f).toInt64)), .second, .val (.long hi), .second] [(.long z), (.int (li + (2 : Int32))), (.ref b)]) := by have h := S517; rw [q519] at h; exact h
  clear S517
  obtain ⟨co520, Ao520, qo520, So520, No520, Ho520, Go520⟩ := id V509
  have hino520 : ¬ ((li + (2 : Int32)) < 0 ∨ co520.slots.size ≤ ((li + (2 : Int32))).toNatClampNeg) := inb_of So520 r2.1
  obtain ⟨T521, h521, X521, e521, W521, st521⟩ := stJ X513 hx hZ e513 Ao520 (j := (li + (2 : Int32))) hino520 (g := (mkF m 159 #[.val (.ref a), .val (.double xb), .second, .val (.long xb.toInt64), .second, .val (.int ex), .val (.long sig), .second, .val (.int pos), .val (.int li), .val (.int sh), .val (.long (sig <<< (sh &&& 0x3f).toInt64)), .second, .val (.long hi), .second] [(.long z), (.int (li + (2 : Int32))), (.ref b)])) rfl rfl (hb hby d3_159)
  have N521 := Fr.snoc X521 N509 g_b
  have K521 : Keep h0 h521 [a, b] := K509.wr W521 (Or.inl (by simp))
  have V521 : Arv Z h521 b kb .long (68 : Int32) (own_L n x y z) (.long (0 : Int64)) := by rw [← (own_set n hn x y 0 z).2.2]; exact Arv.set Ao520 qo520 So520 No520 Ho520 Go520 rfl W521 (n + 2) r2.2 (by rw [own_len]; omega)
  have S522 : Go p e below s₁ (entryFrame m #[(.ref a), (.double xb)] 15) T521 (mkF m 160 #[.val (.ref a), .val (.double xb), .second, .val (.long xb.toInt64), .second, .val (.int ex), .val (.long sig), .second, .val (.int pos), .val (.int li), .val (.int sh), .val (.long (sig <<< (sh &&& 0x3f).toInt64)), .second, .val (.long hi), .second] []) := fun t kt => S518 t (st521 t kt)
  clear S518 st521 X513 e513
  have S523 : Go p e below s₁ (entryFrame m #[(.ref a), (.double xb)] 15) T521 (mkF m 167 #[.val (.ref a), .val (.double xb), .second, .val (.long xb.toInt64), .second, .val (.int ex), .val (.long sig), .second, .val (.int pos), .val (.int li), .val (.int sh), .val (.long (sig <<< (sh &&& 0x3f).toInt64)), .second, .val (.long hi), .second] [(.int (li + (3 : Int32))), (.int li), (.ref a)]) := fun t kt => S522 t (by
    refine XS.aloadN X521.here hx rfl (hb hby d3_160) rfl rfl ?_
    show Steps p.tables e below (T521.setTop (mkF m 161 #[.val (.ref a), .val (.double xb), .second, .val (.long xb.toInt64), .second, .val (.int ex), .val (.long sig), .second, .val (.int pos), .val (.int li), .val (.int sh), .val (.long (sig <<< (sh &&& 0x3f).toInt64)), .second, .val (.long hi), .second] [(.ref a)])) _
    refine XS.iload X521.here hx rfl (hb hby d3_161) rfl ?_
    show Steps p.tables e below (T521.setTop (mkF m 163 #[.val (.ref a), .val (.double xb), .second, .val (.long xb.toInt64), .second, .val (.int ex), .val (.long sig), .second, .val (.int pos), .val (.int li), .val (.int sh), .val (.long (sig <<< (sh &&& 0x3f).toInt64)), .second, .val (.long hi), .second] [(.int li), (.ref a)])) _
    refine XS.iload X521.here hx rfl (hb hby d3_163) rfl ?_
    show Steps p.tables e below (T521.setTop (mkF m 165 #[.val (.ref a), .val (.double xb), .second, .val (.long xb.toInt64), .second, .val (.int ex), .val (.long sig), .second, .val (.int pos), .val (.int li), .val (.int sh), .val (.long (sig <<< (sh &&& 0x3f).toInt64)), .second, .val (.long hi), .second] [(.int li), (.int li), (.ref a)])) _
    refine XS.iconst X521.here hx rfl (hb hby d3_165) ?_
    show Steps p.tables e below (T521.setTop (mkF m 166 #[.val (.ref a), .val (.double xb), .second, .val (.long xb.toInt64), .second, .val (.int ex), .val (.long sig), .second, .val (.int pos), .val (.int li), .val (.int sh), .val (.long (sig <<< (sh &&& 0x3f).toInt64)), .second, .val (.long hi), .second] [(.int (3 : Int32)), (.int li), (.int li), (.ref a)])) _
    refine XS.iadd X521.here hx rfl (hb hby d3_166) rfl ?_
    show Steps p.tables e below (T521.setTop (mkF m 167 #[.val (.ref a), .val (.double xb), .second, .val (.long xb.toInt64), .second, .val (.int ex), .val (.long sig), .second, .val (.int pos), .val (.int li), .val (.int sh), .val (.long (sig <<< (sh &&& 0x3f).toInt64)), .second, .val (.long hi), .second] [(.int (li + (3 : Int32))), (.int li), (.ref a)])) _
    exact kt)
  clear S522
  have f524 := (((E0.wr W497).wr W509).wr W521)
  have f525 := (f512.other W521 (Or.inl hab))
  have f526 := (((F1.other W497 (Or.inl hab)).other W509 (Or.inl hab)).other W521 (Or.inl hab))
  have f527 := (((F2.other W497 (Or.inl hab)).other W509 (Or.inl hab)).other W521 (Or.inl hab))
  have f528 := (((F3.other W497 (Or.inl hab)).other W509 (Or.inl hab)).other W521 (Or.inl hab))
  obtain ⟨cq529, q529, q529'⟩ := f524.cell
  obtain ⟨v529, T529, L529, X529, hQ529, st529⟩ := own_outV (X521.privateBack hx (y := (⟨"com/example/umbel/umbel/rank/ExactSum", "cover", "(II)V"⟩ : MethodName)) hown (mvT hZ (hw _ (List.mem_of_getElem? (i := 25) rfl))) (mvT hZ (hw _ (List.mem_of_getElem? (i := 26) rfl))) (own_selp hZ (hw _ (List.mem_of_getElem? (i := 2) rfl)) (hw _ (List.mem_of_getElem? (i := 27) rfl)) (hw _ (List.mem_of_getElem? (i := 26) rfl)) (by decide)) (Cond.privateMethod_at (mvP hZ (hw _ (List.mem_of_getElem? (i := 27) rfl)) (args := #[]))) (mvT hZ (hw _ (List.mem_of_getElem? (i := 28) rfl))) (by decide) (backOf (W := 0) (rm_cover l Z a0 hw [] a b kb li n x y z h521 n0 (Nat.le_trans (Nat.le_trans (Nat.le_trans Z0 (Keep.of_wr W497).1) (Keep.of_wr W509).1) (Keep.of_wr W521).1) f524 f525 f526 f527 f528 V521 g_a g_b hab) hZ (hw _ (List.mem_of_getElem? (i := 28) rfl)) (hw _ (List.mem_of_getElem? (i := 3) rfl)) (by decide) (by decide)) (g := (mkF m 167 #[.val (.ref a), .val (.double xb), .second, .val (.long xb.toInt64), .second, .val (.int ex), .val (.long sig), .second, .val (.int pos), .val (.int li), .val (.int sh), .val (.long (sig <<< (sh &&& 0x3f).toInt64)), .second, .val (.long hi), .second] [(.int (li + (3 : Int32))), (.int li), (.ref a)])) rfl (by rw [hml]; rfl) (Steps.refl _) (a := a) (by rw [e521]; exact q529) q529' (argsL := [(.int li), (.int (li + (3 : Int32)))]) (rest := []) (lenOf pd__II_V rfl) rfl (by show 2 * 0 + _ ≤ _; exact Nat.le_of_eq rfl) (hb hby d3_167) (fun _ _ => ⟨rfl, e521, (by decide : 0 + 0 ≤ _), (by decide : 0 + 0 ≤ _)⟩))
  obtain ⟨rfl, N529q, K529, Ex529, Fa529, Fb529, Fc529, Fd529, Va529⟩ := hQ529
  have N529 := Fr.app N521 N529q
  have Kk529 : Keep h0 T529.heap [a, b] := Keep.trans K521 K529 (by simp)
  have S530 : Go p e below s₁ (entryFrame m #[(.ref a), (.double xb)] 15) T529 (mkF m 170 #[.val (.ref a), .val (.double xb), .second, .val (.long xb.toInt64), .second, .val (.int ex), .val (.long sig), .second, .val (.int pos), .val (.int li), .val (.int sh), .val (.long (sig <<< (sh &&& 0x3f).toInt64)), .second, .val (.long hi), .second] []) := fun t kt => S523 t (st529 t kt)
  clear S523 st529 X521 e521
  have S531 : Go p e below s₁ (entryFrame m #[(.ref a), (.double xb)] 15) T529 (mkF m 172 #[.val (.ref a), .val (.double xb), .second, .val (.long xb.toInt64), .second, .val (.int ex), .val (.long sig), .second, .val (.int pos), .val (.int li), .val (.int sh), .val (.long (sig <<< (sh &&& 0x3f).toInt64)), .second, .val (.long hi), .second] [(.ref a), (.ref a)]) := fun t kt => S530 t (by
    refine XS.aloadN X529.here hx rfl (hb hby d3_170) rfl rfl ?_
    show Steps p.tables e below (T529.setTop (mkF m 171 #[.val (.ref a), .val (.double xb), .second, .val (.long xb.toInt64), .second, .val (.int ex), .val (.long sig), .second, .val (.int pos), .val (.int li), .val (.int sh), .val (.long (sig <<< (sh &&& 0x3f).toInt64)), .second, .val (.long hi), .second] [(.ref a)])) _
    refine XS.dup X529.here hx rfl (hb hby d3_171) rfl rfl ?_
    show Steps p.tables e below (T529.setTop (mkF m 172 #[.val (.ref a), .val (.double xb), .second, .val (.long xb.toInt64), .second, .val (.int ex), .val (.long sig), .second, .val (.int pos), .val (.int li), .val (.int sh), .val (.long (sig <<< (sh &&& 0x3f).toInt64)), .second, .val (.long hi), .second] [(.ref a), (.ref a)])) _
    exact kt)
  clear S530
  obtain ⟨T532, X532, e532, st532⟩ := getF X529 hx hZ hown (host := "") (Or.inl (hw _ (List.mem_of_getElem? (i := 33) rfl))) Via.refl rfl Fd529 (g := (mkF m 172 #[.val (.ref a), .val (.double xb), .second, .val (.long xb.toInt64), .second, .val (.int ex), .val (.long sig), .second, .val (.int pos), .val (.int li), .val (.int sh), .val (.long (sig <<< (sh &&& 0x3f).toInt64)), .second, .val (.long hi), .second] [(.ref a), (.ref a)])) rfl rfl (hb hby d3_172)
  have S533 : Go p e below s₁ (entryFrame m #[(.ref a), (.double xb)] 15) T532 (mkF m 175 #[.val (.ref a), .val (.double xb), .second, .val (.long xb.toInt64), .second, .val (.int ex), .val (.long sig), .second, .val (.int pos), .val (.int li), .val (.int sh), .val (.long (sig <<< (sh &&& 0x3f).toInt64)), .second, .val (.long hi), .second] [(.int (0 : Int32)), (.ref a)]) := fun t kt => S531 t (st532 t kt)
  clear S531 st532 X529
  have S534 : Go p e below s₁ (entryFrame m #[(.ref a), (.double xb)] 15) T532 (mkF m 177 #[.val (.ref a), .val (.double xb), .second, .val (.long xb.toInt64), .second, .val (.int ex), .val (.long sig), .second, .val (.int pos), .val (.int li), .val (.int sh), .val (.long (sig <<< (sh &&& 0x3f).toInt64)), .second, .val (.long hi), .second] [(.int ((0 : Int32) + (1 : Int32))), (.ref a)]) := fun t kt => S533 t (by
    refine XS.iconst X532.here hx rfl (hb hby d3_175) ?_
    show Steps p.tables e below (T532.setTop (mkF m 176 #[.val (.ref a), .val (.double xb), .second, .val (.long xb.toInt64), .second, .val (.int ex), .val (.long sig), .second, .val (.int pos), .val (.int li), .val (.int sh), .val (.long (sig <<< (sh &&& 0x3f).toInt64)), .second, .val (.long hi), .second] [(.int (1 : Int32)), (.int (0 : Int32)), (.ref a)])) _
    refine XS.iadd X532.here hx rfl (hb hby d3_176) rfl ?_
    show Steps p.tables e below (T532.setTop (mkF m 177 #[.val (.ref a), .val (.double xb), .second, .val (.long xb.toInt64), .second, .val (.int ex), .val (.long sig), .second, .val (.int pos), .val (.int li), .val (.int sh), .val (.long (sig <<< (sh &&& 0x3f).toInt64)), .second, .val (.long hi), .second] [(.int ((0 : Int32) + (1 : Int32))), (.ref a)])) _
    exact kt)
  clear S533
  obtain ⟨T535, h535, X535, e535, W535, st535⟩ := putF X532 hx hZ hown (host := "") (Or.inl (hw _ (List.mem_of_getElem? (i := 33) rfl))) Via.refl e532 Fd529 Ex529 (Or.inl (hw _ (List.mem_of_getElem? (i := 34) rfl))) (hw _ (List.mem_of_getElem? (i := 2) rfl)) (ty := .int) (by decide) rfl rfl (g := (mkF m 177 #[.val (.ref a), .val (.double xb), .second, .val (.long xb.toInt64), .second, .val (.int ex), .val (.long sig), .second, .val (.int pos), .val (.int li), .val (.int sh), .val (.long (sig <<< (sh &&& 0x3f).toInt64)), .second, .val (.long hi), .second] [(.int ((0 : Int32) + (1 : Int32))), (.ref a)])) rfl rfl (hb hby d3_177)
  have N535 := Fr.snoc X535 N529 g_a
  have K535 : Keep h0 h535 [a, b] := Kk529.wr W535 (Or.inl (by simp))
  have Fw535 := Fd529.same W535
  have S536 : Go p e below s₁ (entryFrame m #[(.ref a), (.double xb)] 15) T535 (mkF m 180 #[.val (.ref a), .val (.double xb), .second, .val (.long xb.toInt64), .second, .val (.int ex), .val (.long sig), .second, .val (.int pos), .val (.int li), .val (.int sh), .val (.long (sig <<< (sh &&& 0x3f).toInt64)), .second, .val (.long hi), .second] []) := fun t kt => S534 t (st535 t kt)
  clear S534 st535 X532 e532
  have S537 : Go p e below s₁ (entryFrame m #[(.ref a), (.double xb)] 15) T535 (mkF m 181 #[.val (.ref a), .val (.double xb), .second, .val (.long xb.toInt64), .second, .val (.int ex), .val (.long sig), .second, .val (.int pos), .val (.int li), .val (.int sh), .val (.long (sig <<< (sh &&& 0x3f).toInt64)), .second, .val (.long hi), .second] [(.ref a)]) := fun t kt => S536 t (by
    refine XS.aloadN X535.here hx rfl (hb hby d3_180) rfl rfl ?_
    show Steps p.tables e below (T535.setTop (mkF m 181 #[.val (.ref a), .val (.double xb), .second, .val (.long xb.toInt64), .second, .val (.int ex), .val (.long sig), .second, .val (.int pos), .val (.int li), .val (.int sh), .val (.long (sig <<< (sh &&& 0x3f).toInt64)), .second, .val (.long hi), .second] [(.ref a)])) _
    exact kt)
  clear S536
  obtain ⟨T538, X538, e538, st538⟩ := getF X535 hx hZ hown (host := "") (Or.inl (hw _ (List.mem_of_getElem? (i := 33) rfl))) Via.refl e535 Fw535 (g := (mkF m 181 #[.val (.ref a), .val (.double xb), .second, .val (.long xb.toInt64), .second, .val (.int ex), .val (.long sig), .second, .val (.int pos), .val (.int li), .val (.int sh), .val (.long (sig <<< (sh &&& 0x3f).toInt64)), .second, .val (.long hi), .second] [(.ref a)])) rfl rfl (hb hby d3_181)
  have S539 : Go p e below s₁ (entryFrame m #[(.ref a), (.double xb)] 15) T538 (mkF m 184 #[.val (.ref a), .val (.double xb), .second, .val (.long xb.toInt64), .second, .val (.int ex), .val (.long sig), .second, .val (.int pos), .val (.int li), .val (.int sh), .val (.long (sig <<< (sh &&& 0x3f).toInt64)), .second, .val (.long hi), .second] [(.int ((0 : Int32) + (1 : Int32)))]) := fun t kt => S537 t (st538 t kt)
  clear S537 st538 X535 e535
  have S540 : Go p e below s₁ (entryFrame m #[(.ref a), (.double xb)] 15) T538 (mkF m 186 #[.val (.ref a), .val (.double xb), .second, .val (.long xb.toInt64), .second, .val (.int ex), .val (.long sig), .second, .val (.int pos), .val (.int li), .val (.int sh), .val (.long (sig <<< (sh &&& 0x3f).toInt64)), .second, .val (.long hi), .second] [(.int (1073741824 : Int32)), (.int ((0 : Int32) + (1 : Int32)))]) := fun t kt => S539 t (by
    refine X538.ldcInt hx hown (mvT hZ (hw _ (List.mem_of_getElem? (i := 35) rfl))) (g := (mkF m 184 #[.val (.ref a), .val (.double xb), .second, .val (.long xb.toInt64), .second, .val (.int ex), .val (.long sig), .second, .val (.int pos), .val (.int li), .val (.int sh), .val (.long (sig <<< (sh &&& 0x3f).toInt64)), .second, .val (.long hi), .second] [(.int ((0 : Int32) + (1 : Int32)))])) rfl (hb hby d3_184) _ ?_
    show Steps p.tables e below (T538.setTop (mkF m 186 #[.val (.ref a), .val (.double xb), .second, .val (.long xb.toInt64), .second, .val (.int ex), .val (.long sig), .second, .val (.int pos), .val (.int li), .val (.int sh), .val (.long (sig <<< (sh &&& 0x3f).toInt64)), .second, .val (.long hi), .second] [(.int (1073741824 : Int32)), (.int ((0 : Int32) + (1 : Int32)))])) _
    exact kt)
  clear S539
  have S541 : Go p e below s₁ (entryFrame m #[(.ref a), (.double xb)] 15) T538 (mkF m 193 #[.val (.ref a), .val (.double xb), .second, .val (.long xb.toInt64), .second, .val (.int ex), .val (.long sig), .second, .val (.int pos), .val (.int li), .val (.int sh), .val (.long (sig <<< (sh &&& 0x3f).toInt64)), .second, .val (.long hi), .second] []) := fun t kt => S540 t (by
    refine XS.icmpYes X538.here hx rfl (pc0 := 186) (pc' := 193) rfl (hb hby d3_186) rfl (feq (show ¬ (((0 : Int32) + (1 : Int32)) = (1073741824 : Int32)) from (by decide))).2 (by decide) (by decide) ?_
    show Steps p.tables e below (T538.setTop (mkF m 193 #[.val (.ref a), .val (.double xb), .second, .val (.long xb.toInt64), .second, .val (.int ex), .val (.long sig), .second, .val (.int pos), .val (.int li), .val (.int sh), .val (.long (sig <<< (sh &&& 0x3f).toInt64)), .second, .val (.long hi), .second] [])) _
    exact kt)
  clear S540
  have f542 := (Ex529.wr W535)
  have f543 := (Fa529.other W535 (Or.inr (slot_ne (C := "com/example/umbel/umbel/rank/ExactSum") (Or.inr (hw _ (List.mem_of_getElem? (i := 12) rfl))) (Or.inl (hw _ (List.mem_of_getElem? (i := 34) rfl))) (by decide) (t := (.array .long)) (t' := .int) (by decide) (by decide))))
  have f544 := (Fb529.other W535 (Or.inr (slot_ne (C := "com/example/umbel/umbel/rank/ExactSum") (Or.inl (hw _ (List.mem_of_getElem? (i := 30) rfl))) (Or.inl (hw _ (List.mem_of_getElem? (i := 34) rfl))) (by decide) (t := .int) (t' := .int) (by decide) (by decide))))
  have f545 := (Fc529.other W535 (Or.inr (slot_ne (C := "com/example/umbel/umbel/rank/ExactSum") (Or.inl (hw _ (List.mem_of_getElem? (i := 32) rfl))) (Or.inl (hw _ (List.mem_of_getElem? (i := 34) rfl))) (by decide) (t := .int) (t' := .int) (by decide) (by decide))))
  have f546 := (Va529.other W535 (Ne.symm hab))
  obtain ⟨fs, hr, hrun, hended, hW, hsame⟩ := X538.leave (v := none) (fun h => by first | rfl | (rw [Bd.returns] at h; cases h))
  refine ⟨_, _, S541 _ ?_, hrun, hended, _, _, rfl, ?_, ⟨_, rfl⟩, hW, hsame.mono (by decide) (by decide)⟩
  · exact X538.returnOut hx Bd.returns (hb hby d3_193) hr
  · show Q_add Z a b kb li n x y z h0 n0 _ T538.heap _
    rw [e538]
    exact ⟨rfl, N535, K535, f542, f543, f544, f545, Fw535, f546⟩
theorem ef_law (m : MethodId) (x0 : Int32) (x1 : Int32) (x2 : Int32) (x3 : Int32) : entryFrame m #[(.int x0), (.int x1), (.int x2), (.int x3)] maxLocals = mkF m 0 #[.val (.int x0), .val (.int x1), .val (.int x2), .val (.int x3), .unset, .unset, .unset, .unset, .unset, .unset] [] := by first | (simp [entryFrame, mkF, argsToLocals, Value.category, maxLocals]; done) | rfl
theorem pn_law : plainName "com/example/umbel/umbel/rank/ExactSumClearPinLaw" = true := by first | (simp [plainName, overriddenIn]; done) | decide +kernel
def Q_law (Z : State) (p0 : Int32) (p1 : Int32) (p2 : Int32) (p3 : Int32) (h0 : Heap) (n0 : Nat) (v : Option Value) (h : Heap) (L : List Loc) : Prop := v = some (.int 1) ∧ Fr n0 L
set_option maxRecDepth 65536 in
set_option maxHeartbeats 40000000 in
theorem rm_law (l : Launch) (Z : State) (a0 : Array Value) (hw : ∀ d ∈ tables_1, d.before a0 Z = true) (ws : List Jvm.Cond) (p0 : Int32) (p1 : Int32) (p2 : Int32) (p3 : Int32) (h0 : Heap) (n0 : Nat) (Z0 : n0 ≤ h0.size)  :
    MetFree l x (head1 (Jvm.Cond.code x code maxLocals ret :: ws) room_1) (fun aa U => aa = #[(.int p0), (.int p1), (.int p2), (.int p3)] ∧ Z.Warmed39 U.vm ∧ U.heap = h0) (fun _ _ _ _ _ => True) (fun _ U o U' => ∃ v L, o = .returned v ∧ Q_law Z p0 p1 p2 p3 h0 n0 v U'.heap L ∧ FrameEnd U o U' L 2 72) := by
  refine MetFree.of_bodySF (plainFor_of_name pn_law) hisR ?_
  intro p e s m args below meth c s₁ Bd hml0 hP hK
  obtain ⟨rfl, hZ, hh⟩ := hP
  have hx := Bd.exec
  have hby := Bd.bytes
  have hml : c.maxLocals = 10 := hml0
  have hown : s.vm.findClass "com/example/umbel/umbel/rank/ExactSumClearPinLaw" = some m.cls := findClass_of_methodNamed Bd.named
  have hnm := (name_of_methodNamed Bd.named Bd.method).1
  have X0 : Stand p l e room_1 s m #[(.int p0), (.int p1), (.int p2), (.int p3)] below meth c s₁ [] 0 0 := Stand.of_body Bd
  have e0 : s₁.heap = h0 := by rw [← hh, Bd.state]; rfl
  have N0 := Fr.nil n0
  have S0 : Go p e below s₁ (entryFrame m #[(.int p0), (.int p1), (.int p2), (.int p3)] maxLocals) s₁ (mkF m 0 #[.val (.int p0), .val (.int p1), .val (.int p2), .val (.int p3), .unset, .unset, .unset, .unset, .unset, .unset] []) := fun t k => castTop (ef_law m p0 p1 p2 p3) k
  have S547 : Go p e below s₁ (entryFrame m #[(.int p0), (.int p1), (.int p2), (.int p3)] maxLocals) s₁ (mkF m 11 #[.val (.int p0), .val (.int p1), .val (.int p2), .val (.int p3), .unset, .unset, .unset, .unset, .unset, .unset] [(.double (FP.dmul (FP.i2d (p0 &&& (2147483647 : Int32))) (FP.i2d (p1 &&& (2147483647 : Int32)))))]) := fun t kt => S0 t (by
    refine XS.iloadN X0.here hx rfl (hb hby at_0) rfl ?_
    show Steps p.tables e below (s₁.setTop (mkF m 1 #[.val (.int p0), .val (.int p1), .val (.int p2), .val (.int p3), .unset, .unset, .unset, .unset, .unset, .unset] [(.int p0)])) _
    refine X0.ldcInt hx hown (mvT hZ (hw _ (List.mem_of_getElem? (i := 0) rfl))) (g := (mkF m 1 #[.val (.int p0), .val (.int p1), .val (.int p2), .val (.int p3), .unset, .unset, .unset, .unset, .unset, .unset] [(.int p0)])) rfl (hb hby at_1) _ ?_
    show Steps p.tables e below (s₁.setTop (mkF m 3 #[.val (.int p0), .val (.int p1), .val (.int p2), .val (.int p3), .unset, .unset, .unset, .unset, .unset, .unset] [(.int (2147483647 : Int32)), (.int p0)])) _
    refine XS.iand X0.here hx rfl (hb hby at_3) rfl ?_
    show Steps p.tables e below (s₁.setTop (mkF m 4 #[.val (.int p0), .val (.int p1), .val (.int p2), .val (.int p3), .unset, .unset, .unset, .unset, .unset, .unset] [(.int (p0 &&& (2147483647 : Int32)))])) _
    refine XS.i2dS X0.here hx rfl (hb hby at_4) rfl rfl ?_
    show Steps p.tables e below (s₁.setTop (mkF m 5 #[.val (.int p0), .val (.int p1), .val (.int p2), .val (.int p3), .unset, .unset, .unset, .unset, .unset, .unset] [(.double (FP.i2d (p0 &&& (2147483647 : Int32))))])) _
    refine XS.iloadN X0.here hx rfl (hb hby at_5) rfl ?_
    show Steps p.tables e below (s₁.setTop (mkF m 6 #[.val (.int p0), .val (.int p1), .val (.int p2), .val (.int p3), .unset, .unset, .unset, .unset, .unset, .unset] [(.int p1), (.double (FP.i2d (p0 &&& (2147483647 : Int32))))])) _
    refine X0.ldcInt hx hown (mvT hZ (hw _ (List.mem_of_getElem? (i := 0) rfl))) (g := (mkF m 6 #[.val (.int p0), .val (.int p1), .val (.int p2), .val (.int p3), .unset, .unset, .unset, .unset, .unset, .unset] [(.int p1), (.double (FP.i2d (p0 &&& (2147483647 : Int32))))])) rfl (hb hby at_6) _ ?_
    show Steps p.tables e below (s₁.setTop (mkF m 8 #[.val (.int p0), .val (.int p1), .val (.int p2), .val (.int p3), .unset, .unset, .unset, .unset, .unset, .unset] [(.int (2147483647 : Int32)), (.int p1), (.double (FP.i2d (p0 &&& (2147483647 : Int32))))])) _
    refine XS.iand X0.here hx rfl (hb hby at_8) rfl ?_
    show Steps p.tables e below (s₁.setTop (mkF m 9 #[.val (.int p0), .val (.int p1), .val (.int p2), .val (.int p3), .unset, .unset, .unset, .unset, .unset, .unset] [(.int (p1 &&& (2147483647 : Int32))), (.double (FP.i2d (p0 &&& (2147483647 : Int32))))])) _
    refine XS.i2dS X0.here hx rfl (hb hby at_9) rfl rfl ?_
    show Steps p.tables e below (s₁.setTop (mkF m 10 #[.val (.int p0), .val (.int p1), .val (.int p2), .val (.int p3), .unset, .unset, .unset, .unset, .unset, .unset] [(.double (FP.i2d (p1 &&& (2147483647 : Int32)))), (.double (FP.i2d (p0 &&& (2147483647 : Int32))))])) _
    refine XS.dmulS X0.here hx rfl (hb hby at_10) rfl (own_nnm _ _) rfl ?_
    show Steps p.tables e below (s₁.setTop (mkF m 11 #[.val (.int p0), .val (.int p1), .val (.int p2), .val (.int p3), .unset, .unset, .unset, .unset, .unset, .unset] [(.double (FP.dmul (FP.i2d (p0 &&& (2147483647 : Int32))) (FP.i2d (p1 &&& (2147483647 : Int32)))))])) _
    exact kt)
  clear S0
  obtain ⟨xv, q_xv⟩ : ∃ z : UInt64, z = (FP.dmul (FP.i2d (p0 &&& (2147483647 : Int32))) (FP.i2d (p1 &&& (2147483647 : Int32)))) := ⟨_, rfl⟩
  have S548 : Go p e below s₁ (entryFrame m #[(.int p0), (.int p1), (.int p2), (.int p3)] maxLocals) s₁ (mkF m 11 #[.val (.int p0), .val (.int p1), .val (.int p2), .val (.int p3), .unset, .unset, .unset, .unset, .unset, .unset] [(.double xv)]) := by subst q_xv; exact S547
  clear S547
  have hPx : own_PB xv := by rw [q_xv]; exact own_PBm p0 p1
  have S549 : Go p e below s₁ (entryFrame m #[(.int p0), (.int p1), (.int p2), (.int p3)] maxLocals) s₁ (mkF m 23 #[.val (.int p0), .val (.int p1), .val (.int p2), .val (.int p3), .val (.double xv), .second, .val (.double (FP.i2d (p2 &&& (2147483647 : Int32)))), .second, .unset, .unset] [(.int (p3 &&& (2 : Int32)))]) := fun t kt => S548 t (by
    refine XS.dstore X0.here hx rfl (hb hby at_11) rfl (l' := #[.val (.int p0), .val (.int p1), .val (.int p2), .val (.int p3), .val (.double xv), .second, .unset, .unset, .unset, .unset]) rfl ?_
    show Steps p.tables e below (s₁.setTop (mkF m 13 #[.val (.int p0), .val (.int p1), .val (.int p2), .val (.int p3), .val (.double xv), .second, .unset, .unset, .unset, .unset] [])) _
    refine XS.iloadN X0.here hx rfl (hb hby at_13) rfl ?_
    show Steps p.tables e below (s₁.setTop (mkF m 14 #[.val (.int p0), .val (.int p1), .val (.int p2), .val (.int p3), .val (.double xv), .second, .unset, .unset, .unset, .unset] [(.int p2)])) _
    refine X0.ldcInt hx hown (mvT hZ (hw _ (List.mem_of_getElem? (i := 0) rfl))) (g := (mkF m 14 #[.val (.int p0), .val (.int p1), .val (.int p2), .val (.int p3), .val (.double xv), .second, .unset, .unset, .unset, .unset] [(.int p2)])) rfl (hb hby at_14) _ ?_
    show Steps p.tables e below (s₁.setTop (mkF m 16 #[.val (.int p0), .val (.int p1), .val (.int p2), .val (.int p3), .val (.double xv), .second, .unset, .unset, .unset, .unset] [(.int (2147483647 : Int32)), (.int p2)])) _
    refine XS.iand X0.here hx rfl (hb hby at_16) rfl ?_
    show Steps p.tables e below (s₁.setTop (mkF m 17 #[.val (.int p0), .val (.int p1), .val (.int p2), .val (.int p3), .val (.double xv), .second, .unset, .unset, .unset, .unset] [(.int (p2 &&& (2147483647 : Int32)))])) _
    refine XS.i2dS X0.here hx rfl (hb hby at_17) rfl rfl ?_
    show Steps p.tables e below (s₁.setTop (mkF m 18 #[.val (.int p0), .val (.int p1), .val (.int p2), .val (.int p3), .val (.double xv), .second, .unset, .unset, .unset, .unset] [(.double (FP.i2d (p2 &&& (2147483647 : Int32))))])) _
    refine XS.dstore X0.here hx rfl (hb hby at_18) rfl (l' := #[.val (.int p0), .val (.int p1), .val (.int p2), .val (.int p3), .val (.double xv), .second, .val (.double (FP.i2d (p2 &&& (2147483647 : Int32)))), .second, .unset, .unset]) rfl ?_
    show Steps p.tables e below (s₁.setTop (mkF m 20 #[.val (.int p0), .val (.int p1), .val (.int p2), .val (.int p3), .val (.double xv), .second, .val (.double (FP.i2d (p2 &&& (2147483647 : Int32)))), .second, .unset, .unset] [])) _
    refine XS.iloadN X0.here hx rfl (hb hby at_20) rfl ?_
    show Steps p.tables e below (s₁.setTop (mkF m 21 #[.val (.int p0), .val (.int p1), .val (.int p2), .val (.int p3), .val (.double xv), .second, .val (.double (FP.i2d (p2 &&& (2147483647 : Int32)))), .second, .unset, .unset] [(.int p3)])) _
    refine XS.iconst X0.here hx rfl (hb hby at_21) ?_
    show Steps p.tables e below (s₁.setTop (mkF m 22 #[.val (.int p0), .val (.int p1), .val (.int p2), .val (.int p3), .val (.double xv), .second, .val (.double (FP.i2d (p2 &&& (2147483647 : Int32)))), .second, .unset, .unset] [(.int (2 : Int32)), (.int p3)])) _
    refine XS.iand X0.here hx rfl (hb hby at_22) rfl ?_
    show Steps p.tables e below (s₁.setTop (mkF m 23 #[.val (.int p0), .val (.int p1), .val (.int p2), .val (.int p3), .val (.double xv), .second, .val (.double (FP.i2d (p2 &&& (2147483647 : Int32)))), .second, .unset, .unset] [(.int (p3 &&& (2 : Int32)))])) _
    exact kt)
  clear S548
  obtain ⟨yv, hPy, S552⟩ : ∃ (yv : UInt64), (own_PB yv) ∧ Go p e below s₁ (entryFrame m #[(.int p0), (.int p1), (.int p2), (.int p3)] maxLocals) s₁ (mkF m 36 #[.val (.int p0), .val (.int p1), .val (.int p2), .val (.int p3), .val (.double xv), .second, .val (.double yv), .second, .unset, .unset] []) := by
    by_cases hk2 : (p3 &&& (2 : Int32)) = (0 : Int32)
    · have S550 : Go p e below s₁ (entryFrame m #[(.int p0), (.int p1), (.int p2), (.int p3)] maxLocals) s₁ (mkF m 36 #[.val (.int p0), .val (.int p1), .val (.int p2), .val (.int p3), .val (.double xv), .second, .val (.double (FP.i2d (p2 &&& (2147483647 : Int32)))), .second, .unset, .unset] []) := fun t kt => S549 t (by
        refine XS.ifYes X0.here hx rfl (pc0 := 23) (pc' := 36) rfl (hb hby at_23) rfl ((if0 _ _).trans (teq (show (p3 &&& (2 : Int32)) = (0 : Int32) from hk2)).1) (by decide) (by decide) ?_
        show Steps p.tables e below (s₁.setTop (mkF m 36 #[.val (.int p0), .val (.int p1), .val (.int p2), .val (.int p3), .val (.double xv), .second, .val (.double (FP.i2d (p2 &&& (2147483647 : Int32)))), .second, .unset, .unset] [])) _
        exact kt)
      clear S549
      exact ⟨(FP.i2d (p2 &&& (2147483647 : Int32))), own_PBi p2, S550⟩
    · have S551 : Go p e below s₁ (entryFrame m #[(.int p0), (.int p1), (.int p2), (.int p3)] maxLocals) s₁ (mkF m 36 #[.val (.int p0), .val (.int p1), .val (.int p2), .val (.int p3), .val (.double xv), .second, .val (.double (FP.dmul (FP.i2d (p2 &&& (2147483647 : Int32))) (FP.i2d (p1 &&& (2147483647 : Int32))))), .second, .unset, .unset] []) := fun t kt => S549 t (by
        refine XS.ifNo X0.here hx rfl (hb hby at_23) rfl ((if0 _ _).trans (feq (show ¬ ((p3 &&& (2 : Int32)) = (0 : Int32)) from hk2)).1) ?_
        show Steps p.tables e below (s₁.setTop (mkF m 26 #[.val (.int p0), .val (.int p1), .val (.int p2), .val (.int p3), .val (.double xv), .second, .val (.double (FP.i2d (p2 &&& (2147483647 : Int32)))), .second, .unset, .unset] [])) _
        refine XS.dload X0.here hx rfl (hb hby at_26) rfl ?_
        show Steps p.tables e below (s₁.setTop (mkF m 28 #[.val (.int p0), .val (.int p1), .val (.int p2), .val (.int p3), .val (.double xv), .second, .val (.double (FP.i2d (p2 &&& (2147483647 : Int32)))), .second, .unset, .unset] [(.double (FP.i2d (p2 &&& (2147483647 : Int32))))])) _
        refine XS.iloadN X0.here hx rfl (hb hby at_28) rfl ?_
        show Steps p.tables e below (s₁.setTop (mkF m 29 #[.val (.int p0), .val (.int p1), .val (.int p2), .val (.int p3), .val (.double xv), .second, .val (.double (FP.i2d (p2 &&& (2147483647 : Int32)))), .second, .unset, .unset] [(.int p1), (.double (FP.i2d (p2 &&& (2147483647 : Int32))))])) _
        refine X0.ldcInt hx hown (mvT hZ (hw _ (List.mem_of_getElem? (i := 0) rfl))) (g := (mkF m 29 #[.val (.int p0), .val (.int p1), .val (.int p2), .val (.int p3), .val (.double xv), .second, .val (.double (FP.i2d (p2 &&& (2147483647 : Int32)))), .second, .unset, .unset] [(.int p1), (.double (FP.i2d (p2 &&& (2147483647 : Int32))))])) rfl (hb hby at_29) _ ?_
        show Steps p.tables e below (s₁.setTop (mkF m 31 #[.val (.int p0), .val (.int p1), .val (.int p2), .val (.int p3), .val (.double xv), .second, .val (.double (FP.i2d (p2 &&& (2147483647 : Int32)))), .second, .unset, .unset] [(.int (2147483647 : Int32)), (.int p1), (.double (FP.i2d (p2 &&& (2147483647 : Int32))))])) _
        refine XS.iand X0.here hx rfl (hb hby at_31) rfl ?_
        show Steps p.tables e below (s₁.setTop (mkF m 32 #[.val (.int p0), .val (.int p1), .val (.int p2), .val (.int p3), .val (.double xv), .second, .val (.double (FP.i2d (p2 &&& (2147483647 : Int32)))), .second, .unset, .unset] [(.int (p1 &&& (2147483647 : Int32))), (.double (FP.i2d (p2 &&& (2147483647 : Int32))))])) _
        refine XS.i2dS X0.here hx rfl (hb hby at_32) rfl rfl ?_
        show Steps p.tables e below (s₁.setTop (mkF m 33 #[.val (.int p0), .val (.int p1), .val (.int p2), .val (.int p3), .val (.double xv), .second, .val (.double (FP.i2d (p2 &&& (2147483647 : Int32)))), .second, .unset, .unset] [(.double (FP.i2d (p1 &&& (2147483647 : Int32)))), (.double (FP.i2d (p2 &&& (2147483647 : Int32))))])) _
        refine XS.dmulS X0.here hx rfl (hb hby at_33) rfl (own_nnm _ _) rfl ?_
        show Steps p.tables e below (s₁.setTop (mkF m 34 #[.val (.int p0), .val (.int p1), .val (.int p2), .val (.int p3), .val (.double xv), .second, .val (.double (FP.i2d (p2 &&& (2147483647 : Int32)))), .second, .unset, .unset] [(.double (FP.dmul (FP.i2d (p2 &&& (2147483647 : Int32))) (FP.i2d (p1 &&& (2147483647 : Int32)))))])) _
        refine XS.dstore X0.here hx rfl (hb hby at_34) rfl (l' := #[.val (.int p0), .val (.int p1), .val (.int p2), .val (.int p3), .val (.double xv), .second, .val (.double (FP.dmul (FP.i2d (p2 &&& (2147483647 : Int32))) (FP.i2d (p1 &&& (2147483647 : Int32))))), .second, .unset, .unset]) rfl ?_
        show Steps p.tables e below (s₁.setTop (mkF m 36 #[.val (.int p0), .val (.int p1), .val (.int p2), .val (.int p3), .val (.double xv), .second, .val (.double (FP.dmul (FP.i2d (p2 &&& (2147483647 : Int32))) (FP.i2d (p1 &&& (2147483647 : Int32))))), .second, .unset, .unset] [])) _
        exact kt)
      clear S549
      exact ⟨(FP.dmul (FP.i2d (p2 &&& (2147483647 : Int32))) (FP.i2d (p1 &&& (2147483647 : Int32)))), own_PBm p2 p1, S551⟩
  clear S549
  obtain ⟨T553, h553, X553, e553, E553, A553, D553, -, st553⟩ := newO X0 hx hZ hown (hw _ (List.mem_of_getElem? (i := 1) rfl)) (hw _ (List.mem_of_getElem? (i := 2) rfl)) (hw _ (List.mem_of_getElem? (i := 3) rfl)) e0 (g := (mkF m 36 #[.val (.int p0), .val (.int p1), .val (.int p2), .val (.int p3), .val (.double xv), .second, .val (.double yv), .second, .unset, .unset] [])) rfl (hb hby at_36) (by decide) (by decide)
  obtain ⟨o1, g553⟩ : ∃ z, z = h0.size := ⟨_, rfl⟩
  rw [← g553] at A553 D553 st553
  have g_o1 : n0 ≤ o1 := Nat.le_trans Z0 (Nat.le_of_eq g553.symm)
  have F_limbs_o1 : Fld Z h553 o1 "com/example/umbel/umbel/rank/ExactSum" "limbs" "[J" .null := D553 (Or.inr (hw _ (List.mem_of_getElem? (i := 12) rfl))) (ty := (.array .long)) (by decide)
  have F_from_o1 : Fld Z h553 o1 "com/example/umbel/umbel/rank/ExactSum" "from" "I" (.int (0 : Int32)) := D553 (Or.inl (hw _ (List.mem_of_getElem? (i := 30) rfl))) (ty := .int) (by decide)
  have F_to_o1 : Fld Z h553 o1 "com/example/umbel/umbel/rank/ExactSum" "to" "I" (.int (0 : Int32)) := D553 (Or.inl (hw _ (List.mem_of_getElem? (i := 32) rfl))) (ty := .int) (by decide)
  have F_pending_o1 : Fld Z h553 o1 "com/example/umbel/umbel/rank/ExactSum" "pending" "I" (.int (0 : Int32)) := D553 (Or.inl (hw _ (List.mem_of_getElem? (i := 34) rfl))) (ty := .int) (by decide)
  have S554 : Go p e below s₁ (entryFrame m #[(.int p0), (.int p1), (.int p2), (.int p3)] maxLocals) T553 (mkF m 39 #[.val (.int p0), .val (.int p1), .val (.int p2), .val (.int p3), .val (.double xv), .second, .val (.double yv), .second, .unset, .unset] [(.ref o1)]) := fun t kt => S552 t (st553 t kt)
  clear S552 st553 X0 e0
  have S555 : Go p e below s₁ (entryFrame m #[(.int p0), (.int p1), (.int p2), (.int p3)] maxLocals) T553 (mkF m 40 #[.val (.int p0), .val (.int p1), .val (.int p2), .val (.int p3), .val (.double xv), .second, .val (.double yv), .second, .unset, .unset] [(.ref o1), (.ref o1)]) := fun t kt => S554 t (by
    refine XS.dup X553.here hx rfl (hb hby at_39) rfl rfl ?_
    show Steps p.tables e below (T553.setTop (mkF m 40 #[.val (.int p0), .val (.int p1), .val (.int p2), .val (.int p3), .val (.double xv), .second, .val (.double yv), .second, .unset, .unset] [(.ref o1), (.ref o1)])) _
    exact kt)
  clear S554
  obtain ⟨v556, T556, L556, X556, hQ556, st556⟩ := own_outV (X553.specialBack hx (y := (⟨"com/example/umbel/umbel/rank/ExactSum", "<init>", "()V"⟩ : MethodName)) rfl hown (mvT hZ (hw _ (List.mem_of_getElem? (i := 4) rfl))) (mvT hZ (hw _ (List.mem_of_getElem? (i := 5) rfl))) (mvT hZ (hw _ (List.mem_of_getElem? (i := 6) rfl))) (by decide) (backOf (W := 1) (rm_init l Z a0 hw [] o1 h553 n0 (Nat.le_trans Z0 E553.1) A553 F_limbs_o1 F_from_o1 F_to_o1 F_pending_o1 g_o1) hZ (hw _ (List.mem_of_getElem? (i := 6) rfl)) (hw _ (List.mem_of_getElem? (i := 3) rfl)) (by decide) (by decide)) (g := (mkF m 40 #[.val (.int p0), .val (.int p1), .val (.int p2), .val (.int p3), .val (.double xv), .second, .val (.double yv), .second, .unset, .unset] [(.ref o1), (.ref o1)])) rfl (by rw [hml]; rfl) (Steps.refl _) (a := o1) (argsL := []) (rest := [(.ref o1)]) (lenOf pd___V rfl) rfl (by show 2 * 0 + _ ≤ _; exact Nat.le_of_eq rfl) (hb hby at_40) (fun _ _ => ⟨rfl, e553, (by decide : 1 + 1 ≤ _), (by decide : 4 + 68 ≤ _)⟩))
  obtain ⟨bb, kb, rfl, N556q, g_bb, hab, hbs, K556, Ex556, Fa556, Fb556, Fc556, Fd556, Va556⟩ := hQ556
  have N556 := Fr.app N0 N556q
  have S557 : Go p e below s₁ (entryFrame m #[(.int p0), (.int p1), (.int p2), (.int p3)] maxLocals) T556 (mkF m 43 #[.val (.int p0), .val (.int p1), .val (.int p2), .val (.int p3), .val (.double xv), .second, .val (.double yv), .second, .unset, .unset] [(.ref o1)]) := fun t kt => S555 t (st556 t kt)
  clear S555 st556 X553 e553
  have S558 : Go p e below s₁ (entryFrame m #[(.int p0), (.int p1), (.int p2), (.int p3)] maxLocals) T556 (mkF m 49 #[.val (.int p0), .val (.int p1), .val (.int p2), .val (.int p3), .val (.double xv), .second, .val (.double yv), .second, .val (.ref o1), .unset] [(.double xv), (.ref o1)]) := fun t kt => S557 t (by
    refine XS.astore X556.here hx rfl (hb hby at_43) rfl rfl (l' := #[.val (.int p0), .val (.int p1), .val (.int p2), .val (.int p3), .val (.double xv), .second, .val (.double yv), .second, .val (.ref o1), .unset]) rfl ?_
    show Steps p.tables e below (T556.setTop (mkF m 45 #[.val (.int p0), .val (.int p1), .val (.int p2), .val (.int p3), .val (.double xv), .second, .val (.double yv), .second, .val (.ref o1), .unset] [])) _
    refine XS.aload X556.here hx rfl (hb hby at_45) rfl rfl ?_
    show Steps p.tables e below (T556.setTop (mkF m 47 #[.val (.int p0), .val (.int p1), .val (.int p2), .val (.int p3), .val (.double xv), .second, .val (.double yv), .second, .val (.ref o1), .unset] [(.ref o1)])) _
    refine XS.dload X556.here hx rfl (hb hby at_47) rfl ?_
    show Steps p.tables e below (T556.setTop (mkF m 49 #[.val (.int p0), .val (.int p1), .val (.int p2), .val (.int p3), .val (.double xv), .second, .val (.double yv), .second, .val (.ref o1), .unset] [(.double xv), (.ref o1)])) _
    exact kt)
  clear S557
  obtain ⟨exA, sg0A, sigA, posA, liA, shA, hiA, xA, yA, zA, nA, e1A, e2A, e3A, e4A, e5A, e6A, e7A, e8A, e9A, hlA, hnA, hx0A, hy0A, hz0A, moreA⟩ := own_pack xv hPx
  have cmA := own_cmp hPx
  have Vz559 : Arv Z T556.heap bb kb .long (68 : Int32) (own_L nA 0 0 0) (.long (0 : Int64)) := by rw [own_zeroL nA hnA]; exact Va556
  obtain ⟨cq560, kq560, q560a, q560b, q560c⟩ := isOf hZ rfl Ex556
  obtain ⟨v560, T560, L560, X560, hQ560, st560⟩ := own_outV (X556.virtualBack hx (y := (⟨"com/example/umbel/umbel/rank/ExactSum", "add", "(D)V"⟩ : MethodName)) (z := (⟨"com/example/umbel/umbel/rank/ExactSum", "add", "(D)V"⟩ : MethodName)) hown (mvT hZ (hw _ (List.mem_of_getElem? (i := 13) rfl))) (mvT hZ (hw _ (List.mem_of_getElem? (i := 14) rfl))) (notFace_of_selects (args := #[]) (mvT hZ (hw _ (List.mem_of_getElem? (i := 16) rfl)))) (mvT hZ (hw _ (List.mem_of_getElem? (i := 16) rfl))) (mvT hZ (hw _ (List.mem_of_getElem? (i := 15) rfl))) (by decide) (backOf (W := 0) (rm_add l Z a0 hw [] o1 bb kb xv exA sg0A sigA posA shA hiA liA nA xA yA zA T556.heap n0 (Nat.le_trans (Nat.le_trans Z0 E553.1) K556.1) Ex556 Fa556 Fb556 Fc556 Fd556 Vz559 g_o1 g_bb hab hlA hnA cmA.1 cmA.2.1 e1A e2A e3A e4A e5A e6A e7A e8A e9A) hZ (hw _ (List.mem_of_getElem? (i := 17) rfl)) (hw _ (List.mem_of_getElem? (i := 3) rfl)) (by decide) (by decide)) q560a q560c (g := (mkF m 49 #[.val (.int p0), .val (.int p1), .val (.int p2), .val (.int p3), .val (.double xv), .second, .val (.double yv), .second, .val (.ref o1), .unset] [(.double xv), (.ref o1)])) rfl (by rw [hml]; rfl) (Steps.refl _) (argsL := [(.double xv)]) (rest := []) (lenOf pd__D_V rfl) rfl (by show 2 * 0 + _ ≤ _; exact Nat.le_of_eq rfl) (hb hby at_49) (fun _ _ => ⟨rfl, rfl, (by decide : 2 + 0 ≤ _), (by decide : 72 + 0 ≤ _)⟩))
  obtain ⟨rfl, N560q, K560, Ex560, Fa560, Fb560, Fc560, Fd560, Va560⟩ := hQ560
  have N560 := Fr.app N556 N560q
  have S561 : Go p e below s₁ (entryFrame m #[(.int p0), (.int p1), (.int p2), (.int p3)] maxLocals) T560 (mkF m 52 #[.val (.int p0), .val (.int p1), .val (.int p2), .val (.int p3), .val (.double xv), .second, .val (.double yv), .second, .val (.ref o1), .unset] []) := fun t kt => S558 t (st560 t kt)
  clear S558 st560 X556
  have S562 : Go p e below s₁ (entryFrame m #[(.int p0), (.int p1), (.int p2), (.int p3)] maxLocals) T560 (mkF m 55 #[.val (.int p0), .val (.int p1), .val (.int p2), .val (.int p3), .val (.double xv), .second, .val (.double yv), .second, .val (.ref o1), .unset] [(.int (p3 &&& (1 : Int32)))]) := fun t kt => S561 t (by
    refine XS.iloadN X560.here hx rfl (hb hby at_52) rfl ?_
    show Steps p.tables e below (T560.setTop (mkF m 53 #[.val (.int p0), .val (.int p1), .val (.int p2), .val (.int p3), .val (.double xv), .second, .val (.double yv), .second, .val (.ref o1), .unset] [(.int p3)])) _
    refine XS.iconst X560.here hx rfl (hb hby at_53) ?_
    show Steps p.tables e below (T560.setTop (mkF m 54 #[.val (.int p0), .val (.int p1), .val (.int p2), .val (.int p3), .val (.double xv), .second, .val (.double yv), .second, .val (.ref o1), .unset] [(.int (1 : Int32)), (.int p3)])) _
    refine XS.iand X560.here hx rfl (hb hby at_54) rfl ?_
    show Steps p.tables e below (T560.setTop (mkF m 55 #[.val (.int p0), .val (.int p1), .val (.int p2), .val (.int p3), .val (.double xv), .second, .val (.double yv), .second, .val (.ref o1), .unset] [(.int (p3 &&& (1 : Int32)))])) _
    exact kt)
  clear S561
  by_cases hk1 : (p3 &&& (1 : Int32)) = (0 : Int32)
  · have S563 : Go p e below s₁ (entryFrame m #[(.int p0), (.int p1), (.int p2), (.int p3)] maxLocals) T560 (mkF m 66 #[.val (.int p0), .val (.int p1), .val (.int p2), .val (.int p3), .val (.double xv), .second, .val (.double yv), .second, .val (.ref o1), .unset] [(.ref o1)]) := fun t kt => S562 t (by
      refine XS.ifYes X560.here hx rfl (pc0 := 55) (pc' := 64) rfl (hb hby at_55) rfl ((if0 _ _).trans (teq (show (p3 &&& (1 : Int32)) = (0 : Int32) from hk1)).1) (by decide) (by decide) ?_
      show Steps p.tables e below (T560.setTop (mkF m 64 #[.val (.int p0), .val (.int p1), .val (.int p2), .val (.int p3), .val (.double xv), .second, .val (.double yv), .second, .val (.ref o1), .unset] [])) _
      refine XS.aload X560.here hx rfl (hb hby at_64) rfl rfl ?_
      show Steps p.tables e below (T560.setTop (mkF m 66 #[.val (.int p0), .val (.int p1), .val (.int p2), .val (.int p3), .val (.double xv), .second, .val (.double yv), .second, .val (.ref o1), .unset] [(.ref o1)])) _
      exact kt)
    clear S562
    obtain ⟨cq564, kq564, q564a, q564b, q564c⟩ := isOf hZ rfl Ex560
    obtain ⟨v564, T564, L564, X564, hQ564, st564⟩ := own_outV (X560.virtualBack hx (y := (⟨"com/example/umbel/umbel/rank/ExactSum", "clear", "()V"⟩ : MethodName)) (z := (⟨"com/example/umbel/umbel/rank/ExactSum", "clear", "()V"⟩ : MethodName)) hown (mvT hZ (hw _ (List.mem_of_getElem? (i := 45) rfl))) (mvT hZ (hw _ (List.mem_of_getElem? (i := 46) rfl))) (notFace_of_selects (args := #[]) (mvT hZ (hw _ (List.mem_of_getElem? (i := 48) rfl)))) (mvT hZ (hw _ (List.mem_of_getElem? (i := 48) rfl))) (mvT hZ (hw _ (List.mem_of_getElem? (i := 47) rfl))) (by decide) (backOf (W := 0) (rm_clear l Z a0 hw [] o1 bb kb liA nA xA yA zA (1 : Int32) T560.heap n0 (Nat.le_trans (Nat.le_trans (Nat.le_trans Z0 E553.1) K556.1) K560.1) Ex560 Fa560 Fb560 Fc560 Fd560 Va560 g_o1 g_bb hab hlA hnA) hZ (hw _ (List.mem_of_getElem? (i := 49) rfl)) (hw _ (List.mem_of_getElem? (i := 3) rfl)) (by decide) (by decide)) q564a q564c (g := (mkF m 66 #[.val (.int p0), .val (.int p1), .val (.int p2), .val (.int p3), .val (.double xv), .second, .val (.double yv), .second, .val (.ref o1), .unset] [(.ref o1)])) rfl (by rw [hml]; rfl) (Steps.refl _) (argsL := []) (rest := []) (lenOf pd___V rfl) rfl (by show 2 * 0 + _ ≤ _; exact Nat.le_of_eq rfl) (hb hby at_66) (fun _ _ => ⟨rfl, rfl, (by decide : 2 + 0 ≤ _), (by decide : 72 + 0 ≤ _)⟩))
    obtain ⟨rfl, N564q, K564, Ex564, Fa564, Fb564, Fc564, Fd564, Va564⟩ := hQ564
    have N564 := Fr.app N560 N564q
    have S565 : Go p e below s₁ (entryFrame m #[(.int p0), (.int p1), (.int p2), (.int p3)] maxLocals) T564 (mkF m 69 #[.val (.int p0), .val (.int p1), .val (.int p2), .val (.int p3), .val (.double xv), .second, .val (.double yv), .second, .val (.ref o1), .unset] []) := fun t kt => S563 t (st564 t kt)
    clear S563 st564 X560
    have S566 : Go p e below s₁ (entryFrame m #[(.int p0), (.int p1), (.int p2), (.int p3)] maxLocals) T564 (mkF m 71 #[.val (.int p0), .val (.int p1), .val (.int p2), .val (.int p3), .val (.double xv), .second, .val (.double yv), .second, .val (.ref o1), .unset] [(.ref o1)]) := fun t kt => S565 t (by
      refine XS.aload X564.here hx rfl (hb hby at_69) rfl rfl ?_
      show Steps p.tables e below (T564.setTop (mkF m 71 #[.val (.int p0), .val (.int p1), .val (.int p2), .val (.int p3), .val (.double xv), .second, .val (.double yv), .second, .val (.ref o1), .unset] [(.ref o1)])) _
      exact kt)
    clear S565
    obtain ⟨cq567, kq567, q567a, q567b, q567c⟩ := isOf hZ rfl Ex564
    obtain ⟨v567, T567, L567, X567, hQ567, st567⟩ := own_outV (X564.virtualBack hx (y := (⟨"com/example/umbel/umbel/rank/ExactSum", "value", "()D"⟩ : MethodName)) (z := (⟨"com/example/umbel/umbel/rank/ExactSum", "value", "()D"⟩ : MethodName)) hown (mvT hZ (hw _ (List.mem_of_getElem? (i := 36) rfl))) (mvT hZ (hw _ (List.mem_of_getElem? (i := 37) rfl))) (notFace_of_selects (args := #[]) (mvT hZ (hw _ (List.mem_of_getElem? (i := 39) rfl)))) (mvT hZ (hw _ (List.mem_of_getElem? (i := 39) rfl))) (mvT hZ (hw _ (List.mem_of_getElem? (i := 38) rfl))) (by decide) (backOf (W := 0) (rm_val0 l Z a0 hw [] o1 bb kb (own_L nA 0 0 0) T564.heap n0 (Nat.le_trans (Nat.le_trans (Nat.le_trans (Nat.le_trans Z0 E553.1) K556.1) K560.1) K564.1) Ex564 Fa564 Fb564 Fc564 Fd564 Va564 g_o1 g_bb hab) hZ (hw _ (List.mem_of_getElem? (i := 40) rfl)) (hw _ (List.mem_of_getElem? (i := 3) rfl)) (by decide) (by decide)) q567a q567c (g := (mkF m 71 #[.val (.int p0), .val (.int p1), .val (.int p2), .val (.int p3), .val (.double xv), .second, .val (.double yv), .second, .val (.ref o1), .unset] [(.ref o1)])) rfl (by rw [hml]; rfl) (Steps.refl _) (argsL := []) (rest := []) (lenOf pd___D rfl) rfl (by show 2 * 0 + _ ≤ _; exact Nat.le_of_eq rfl) (hb hby at_71) (fun _ _ => ⟨rfl, rfl, (by decide : 2 + 0 ≤ _), (by decide : 72 + 0 ≤ _)⟩))
    obtain ⟨rfl, N567q, K567, Ex567, Fa567, Fb567, Fc567, Fd567, Va567⟩ := hQ567
    have N567 := Fr.app N564 N567q
    have S568 : Go p e below s₁ (entryFrame m #[(.int p0), (.int p1), (.int p2), (.int p3)] maxLocals) T567 (mkF m 74 #[.val (.int p0), .val (.int p1), .val (.int p2), .val (.int p3), .val (.double xv), .second, .val (.double yv), .second, .val (.ref o1), .unset] [(.double (0 : UInt64))]) := fun t kt => S566 t (st567 t kt)
    clear S566 st567 X564
    have S569 : Go p e below s₁ (entryFrame m #[(.int p0), (.int p1), (.int p2), (.int p3)] maxLocals) T567 (mkF m 76 #[.val (.int p0), .val (.int p1), .val (.int p2), .val (.int p3), .val (.double xv), .second, .val (.double yv), .second, .val (.ref o1), .unset] [(.int (FP.cmpInt (-1) (FP.dcmp (0 : UInt64) (0 : UInt64))))]) := fun t kt => S568 t (by
      refine XS.dconst0 X567.here hx rfl (hb hby at_74) rfl ?_
      show Steps p.tables e below (T567.setTop (mkF m 75 #[.val (.int p0), .val (.int p1), .val (.int p2), .val (.int p3), .val (.double xv), .second, .val (.double yv), .second, .val (.ref o1), .unset] [(.double (0 : UInt64)), (.double (0 : UInt64))])) _
      refine XS.dcmpS X567.here hx rfl (hb hby at_75) rfl (cmpV_l _) ?_
      show Steps p.tables e below (T567.setTop (mkF m 76 #[.val (.int p0), .val (.int p1), .val (.int p2), .val (.int p3), .val (.double xv), .second, .val (.double yv), .second, .val (.ref o1), .unset] [(.int (FP.cmpInt (-1) (FP.dcmp (0 : UInt64) (0 : UInt64))))])) _
      exact kt)
    clear S568
    have S570 : Go p e below s₁ (entryFrame m #[(.int p0), (.int p1), (.int p2), (.int p3)] maxLocals) T567 (mkF m 90 #[.val (.int p0), .val (.int p1), .val (.int p2), .val (.int p3), .val (.double xv), .second, .val (.double yv), .second, .val (.ref o1), .val (.int (1 : Int32))] [(.double yv), (.ref o1)]) := fun t kt => S569 t (by
      refine XS.ifNo X567.here hx rfl (hb hby at_76) rfl ((if0 _ _).trans (teq (show (FP.cmpInt (-1) (FP.dcmp (0 : UInt64) (0 : UInt64))) = (0 : Int32) from (by decide +kernel))).2) ?_
      show Steps p.tables e below (T567.setTop (mkF m 79 #[.val (.int p0), .val (.int p1), .val (.int p2), .val (.int p3), .val (.double xv), .second, .val (.double yv), .second, .val (.ref o1), .unset] [])) _
      refine XS.iconst X567.here hx rfl (hb hby at_79) ?_
      show Steps p.tables e below (T567.setTop (mkF m 80 #[.val (.int p0), .val (.int p1), .val (.int p2), .val (.int p3), .val (.double xv), .second, .val (.double yv), .second, .val (.ref o1), .unset] [(.int (1 : Int32))])) _
      refine XS.goto X567.here hx rfl (pc0 := 80) (pc' := 84) rfl (hb hby at_80) (by decide) (by decide) ?_
      show Steps p.tables e below (T567.setTop (mkF m 84 #[.val (.int p0), .val (.int p1), .val (.int p2), .val (.int p3), .val (.double xv), .second, .val (.double yv), .second, .val (.ref o1), .unset] [(.int (1 : Int32))])) _
      refine XS.istore X567.here hx rfl (hb hby at_84) rfl (l' := #[.val (.int p0), .val (.int p1), .val (.int p2), .val (.int p3), .val (.double xv), .second, .val (.double yv), .second, .val (.ref o1), .val (.int (1 : Int32))]) rfl ?_
      show Steps p.tables e below (T567.setTop (mkF m 86 #[.val (.int p0), .val (.int p1), .val (.int p2), .val (.int p3), .val (.double xv), .second, .val (.double yv), .second, .val (.ref o1), .val (.int (1 : Int32))] [])) _
      refine XS.aload X567.here hx rfl (hb hby at_86) rfl rfl ?_
      show Steps p.tables e below (T567.setTop (mkF m 88 #[.val (.int p0), .val (.int p1), .val (.int p2), .val (.int p3), .val (.double xv), .second, .val (.double yv), .second, .val (.ref o1), .val (.int (1 : Int32))] [(.ref o1)])) _
      refine XS.dload X567.here hx rfl (hb hby at_88) rfl ?_
      show Steps p.tables e below (T567.setTop (mkF m 90 #[.val (.int p0), .val (.int p1), .val (.int p2), .val (.int p3), .val (.double xv), .second, .val (.double yv), .second, .val (.ref o1), .val (.int (1 : Int32))] [(.double yv), (.ref o1)])) _
      exact kt)
    clear S569
    obtain ⟨exB, sg0B, sigB, posB, liB, shB, hiB, xB, yB, zB, nB, e1B, e2B, e3B, e4B, e5B, e6B, e7B, e8B, e9B, hlB, hnB, hx0B, hy0B, hz0B, moreB⟩ := own_pack yv hPy
    have cmB := own_cmp hPy
    have Vz571 : Arv Z T567.heap bb kb .long (68 : Int32) (own_L nB 0 0 0) (.long (0 : Int64)) := by rw [own_zeroL nB hnB]; exact (own_zeroL nA hnA ▸ Va567)
    obtain ⟨cq572, kq572, q572a, q572b, q572c⟩ := isOf hZ rfl Ex567
    obtain ⟨v572, T572, L572, X572, hQ572, st572⟩ := own_outV (X567.virtualBack hx (y := (⟨"com/example/umbel/umbel/rank/ExactSum", "add", "(D)V"⟩ : MethodName)) (z := (⟨"com/example/umbel/umbel/rank/ExactSum", "add", "(D)V"⟩ : MethodName)) hown (mvT hZ (hw _ (List.mem_of_getElem? (i := 13) rfl))) (mvT hZ (hw _ (List.mem_of_getElem? (i := 14) rfl))) (notFace_of_selects (args := #[]) (mvT hZ (hw _ (List.mem_of_getElem? (i := 16) rfl)))) (mvT hZ (hw _ (List.mem_of_getElem? (i := 16) rfl))) (mvT hZ (hw _ (List.mem_of_getElem? (i := 15) rfl))) (by decide) (backOf (W := 0) (rm_add l Z a0 hw [] o1 bb kb yv exB sg0B sigB posB shB hiB liB nB xB yB zB T567.heap n0 (Nat.le_trans (Nat.le_trans (Nat.le_trans (Nat.le_trans (Nat.le_trans Z0 E553.1) K556.1) K560.1) K564.1) K567.1) Ex567 Fa567 Fb567 Fc567 Fd567 Vz571 g_o1 g_bb hab hlB hnB cmB.1 cmB.2.1 e1B e2B e3B e4B e5B e6B e7B e8B e9B) hZ (hw _ (List.mem_of_getElem? (i := 17) rfl)) (hw _ (List.mem_of_getElem? (i := 3) rfl)) (by decide) (by decide)) q572a q572c (g := (mkF m 90 #[.val (.int p0), .val (.int p1), .val (.int p2), .val (.int p3), .val (.double xv), .second, .val (.double yv), .second, .val (.ref o1), .val (.int (1 : Int32))] [(.double yv), (.ref o1)])) rfl (by rw [hml]; rfl) (Steps.refl _) (argsL := [(.double yv)]) (rest := []) (lenOf pd__D_V rfl) rfl (by show 2 * 0 + _ ≤ _; exact Nat.le_of_eq rfl) (hb hby at_90) (fun _ _ => ⟨rfl, rfl, (by decide : 2 + 0 ≤ _), (by decide : 72 + 0 ≤ _)⟩))
    obtain ⟨rfl, N572q, K572, Ex572, Fa572, Fb572, Fc572, Fd572, Va572⟩ := hQ572
    have N572 := Fr.app N567 N572q
    have S573 : Go p e below s₁ (entryFrame m #[(.int p0), (.int p1), (.int p2), (.int p3)] maxLocals) T572 (mkF m 93 #[.val (.int p0), .val (.int p1), .val (.int p2), .val (.int p3), .val (.double xv), .second, .val (.double yv), .second, .val (.ref o1), .val (.int (1 : Int32))] []) := fun t kt => S570 t (st572 t kt)
    clear S570 st572 X567
    have S574 : Go p e below s₁ (entryFrame m #[(.int p0), (.int p1), (.int p2), (.int p3)] maxLocals) T572 (mkF m 100 #[.val (.int p0), .val (.int p1), .val (.int p2), .val (.int p3), .val (.double xv), .second, .val (.double yv), .second, .val (.ref o1), .val (.int (1 : Int32))] [(.ref o1)]) := fun t kt => S573 t (by
      refine XS.iload X572.here hx rfl (hb hby at_93) rfl ?_
      show Steps p.tables e below (T572.setTop (mkF m 95 #[.val (.int p0), .val (.int p1), .val (.int p2), .val (.int p3), .val (.double xv), .second, .val (.double yv), .second, .val (.ref o1), .val (.int (1 : Int32))] [(.int (1 : Int32))])) _
      refine XS.ifNo X572.here hx rfl (hb hby at_95) rfl ((if0 _ _).trans (feq (show ¬ ((1 : Int32) = (0 : Int32)) from (by decide))).1) ?_
      show Steps p.tables e below (T572.setTop (mkF m 98 #[.val (.int p0), .val (.int p1), .val (.int p2), .val (.int p3), .val (.double xv), .second, .val (.double yv), .second, .val (.ref o1), .val (.int (1 : Int32))] [])) _
      refine XS.aload X572.here hx rfl (hb hby at_98) rfl rfl ?_
      show Steps p.tables e below (T572.setTop (mkF m 100 #[.val (.int p0), .val (.int p1), .val (.int p2), .val (.int p3), .val (.double xv), .second, .val (.double yv), .second, .val (.ref o1), .val (.int (1 : Int32))] [(.ref o1)])) _
      exact kt)
    clear S573
    rcases moreB with ⟨rxB, ryB, rzB, rvB⟩ | ⟨rB, kB, kqB, k32B, hposB, hppB, hp2B, hr0B, hr1B, hsgB, htopB, hkqB, hqB, hb0B, hbitsB, hsnB⟩
    · have VyB : Arv Z T572.heap bb kb .long (68 : Int32) (own_L nB 0 0 0) (.long (0 : Int64)) := by have h := Va572; rw [rxB, ryB, rzB] at h; exact h
      obtain ⟨cq575, kq575, q575a, q575b, q575c⟩ := isOf hZ rfl Ex572
      obtain ⟨v575, T575, L575, X575, hQ575, st575⟩ := own_outV (X572.virtualBack hx (y := (⟨"com/example/umbel/umbel/rank/ExactSum", "value", "()D"⟩ : MethodName)) (z := (⟨"com/example/umbel/umbel/rank/ExactSum", "value", "()D"⟩ : MethodName)) hown (mvT hZ (hw _ (List.mem_of_getElem? (i := 36) rfl))) (mvT hZ (hw _ (List.mem_of_getElem? (i := 37) rfl))) (notFace_of_selects (args := #[]) (mvT hZ (hw _ (List.mem_of_getElem? (i := 39) rfl)))) (mvT hZ (hw _ (List.mem_of_getElem? (i := 39) rfl))) (mvT hZ (hw _ (List.mem_of_getElem? (i := 38) rfl))) (by decide) (backOf (W := 0) (rm_valZ l Z a0 hw [] o1 bb kb liB nB (1 : Int32) T572.heap n0 (Nat.le_trans (Nat.le_trans (Nat.le_trans (Nat.le_trans (Nat.le_trans (Nat.le_trans Z0 E553.1) K556.1) K560.1) K564.1) K567.1) K572.1) Ex572 Fa572 Fb572 Fc572 Fd572 VyB g_o1 g_bb hab hlB hnB) hZ (hw _ (List.mem_of_getElem? (i := 40) rfl)) (hw _ (List.mem_of_getElem? (i := 3) rfl)) (by decide) (by decide)) q575a q575c (g := (mkF m 100 #[.val (.int p0), .val (.int p1), .val (.int p2), .val (.int p3), .val (.double xv), .second, .val (.double yv), .second, .val (.ref o1), .val (.int (1 : Int32))] [(.ref o1)])) rfl (by rw [hml]; rfl) (Steps.refl _) (argsL := []) (rest := []) (lenOf pd___D rfl) rfl (by show 2 * 0 + _ ≤ _; exact Nat.le_of_eq rfl) (hb hby at_100) (fun _ _ => ⟨rfl, rfl, (by decide : 2 + 0 ≤ _), (by decide : 72 + 0 ≤ _)⟩))
      obtain ⟨rfl, N575q, K575, Ex575, Fa575, Fb575, Fc575, Fd575, Va575⟩ := hQ575
      have N575 := Fr.app N572 N575q
      have S576 : Go p e below s₁ (entryFrame m #[(.int p0), (.int p1), (.int p2), (.int p3)] maxLocals) T575 (mkF m 103 #[.val (.int p0), .val (.int p1), .val (.int p2), .val (.int p3), .val (.double xv), .second, .val (.double yv), .second, .val (.ref o1), .val (.int (1 : Int32))] [(.double (0 : UInt64))]) := fun t kt => S574 t (st575 t kt)
      clear S574 st575 X572
      have S579 : Go p e below s₁ (entryFrame m #[(.int p0), (.int p1), (.int p2), (.int p3)] maxLocals) T575 (mkF m 106 #[.val (.int p0), .val (.int p1), .val (.int p2), .val (.int p3), .val (.double xv), .second, .val (.double yv), .second, .val (.ref o1), .val (.int (1 : Int32))] [(.int (FP.cmpInt (-1) (FP.dcmp (0 : UInt64) yv)))]) := fun t kt => S576 t (by
        refine XS.dload X575.here hx rfl (hb hby at_103) rfl ?_
        show Steps p.tables e below (T575.setTop (mkF m 105 #[.val (.int p0), .val (.int p1), .val (.int p2), .val (.int p3), .val (.double xv), .second, .val (.double yv), .second, .val (.ref o1), .val (.int (1 : Int32))] [(.double yv), (.double (0 : UInt64))])) _
        refine XS.dcmpS X575.here hx rfl (hb hby at_105) rfl (cmpV_l _) ?_
        show Steps p.tables e below (T575.setTop (mkF m 106 #[.val (.int p0), .val (.int p1), .val (.int p2), .val (.int p3), .val (.double xv), .second, .val (.double yv), .second, .val (.ref o1), .val (.int (1 : Int32))] [(.int (FP.cmpInt (-1) (FP.dcmp (0 : UInt64) yv)))])) _
        exact kt)
      clear S576
      have S580 : Go p e below s₁ (entryFrame m #[(.int p0), (.int p1), (.int p2), (.int p3)] maxLocals) T575 (mkF m 114 #[.val (.int p0), .val (.int p1), .val (.int p2), .val (.int p3), .val (.double xv), .second, .val (.double yv), .second, .val (.ref o1), .val (.int (1 : Int32))] [(.int (1 : Int32))]) := fun t kt => S579 t (by
        refine XS.ifNo X575.here hx rfl (hb hby at_106) rfl ((if0 _ _).trans (teq (show (FP.cmpInt (-1) (FP.dcmp (0 : UInt64) yv)) = (0 : Int32) from (by rw [rvB]; decide +kernel))).2) ?_
        show Steps p.tables e below (T575.setTop (mkF m 109 #[.val (.int p0), .val (.int p1), .val (.int p2), .val (.int p3), .val (.double xv), .second, .val (.double yv), .second, .val (.ref o1), .val (.int (1 : Int32))] [])) _
        refine XS.iconst X575.here hx rfl (hb hby at_109) ?_
        show Steps p.tables e below (T575.setTop (mkF m 110 #[.val (.int p0), .val (.int p1), .val (.int p2), .val (.int p3), .val (.double xv), .second, .val (.double yv), .second, .val (.ref o1), .val (.int (1 : Int32))] [(.int (1 : Int32))])) _
        refine XS.goto X575.here hx rfl (pc0 := 110) (pc' := 114) rfl (hb hby at_110) (by decide) (by decide) ?_
        show Steps p.tables e below (T575.setTop (mkF m 114 #[.val (.int p0), .val (.int p1), .val (.int p2), .val (.int p3), .val (.double xv), .second, .val (.double yv), .second, .val (.ref o1), .val (.int (1 : Int32))] [(.int (1 : Int32))])) _
        exact kt)
      clear S579
      obtain ⟨fs, hr, hrun, hended, hW, hsame⟩ := X575.leave (v := some (.int (1 : Int32))) (fun h => by first | rfl | (rw [Bd.returns] at h; cases h))
      refine ⟨_, _, S580 _ ?_, hrun, hended, _, _, rfl, ?_, ⟨_, rfl⟩, hW, hsame.mono (by decide) (by decide)⟩
      · exact retN X575 hx (t := .boolean) Bd.returns (by simp) (hb hby at_114) hr
      · show Q_law Z p0 p1 p2 p3 h0 n0 _ T575.heap _
        exact ⟨rfl, N575⟩
    · obtain ⟨cq577, kq577, q577a, q577b, q577c⟩ := isOf hZ rfl Ex572
      obtain ⟨v577, T577, L577, X577, hQ577, st577⟩ := own_outV (X572.virtualBack hx (y := (⟨"com/example/umbel/umbel/rank/ExactSum", "value", "()D"⟩ : MethodName)) (z := (⟨"com/example/umbel/umbel/rank/ExactSum", "value", "()D"⟩ : MethodName)) hown (mvT hZ (hw _ (List.mem_of_getElem? (i := 36) rfl))) (mvT hZ (hw _ (List.mem_of_getElem? (i := 37) rfl))) (notFace_of_selects (args := #[]) (mvT hZ (hw _ (List.mem_of_getElem? (i := 39) rfl)))) (mvT hZ (hw _ (List.mem_of_getElem? (i := 39) rfl))) (mvT hZ (hw _ (List.mem_of_getElem? (i := 38) rfl))) (by decide) (backOf (W := 0) (rm_val l Z a0 hw [] o1 bb kb liB nB xB yB zB (1 : Int32) posB shB sigB rB kB kqB yv T572.heap n0 (Nat.le_trans (Nat.le_trans (Nat.le_trans (Nat.le_trans (Nat.le_trans (Nat.le_trans Z0 E553.1) K556.1) K560.1) K564.1) K567.1) K572.1) Ex572 Fa572 Fb572 Fc572 Fd572 Va572 g_o1 g_bb hab hlB hnB hx0B hy0B hz0B e4B e5B k32B hposB hppB hp2B hr0B hr1B hsgB htopB hkqB hqB hb0B hbitsB hsnB) hZ (hw _ (List.mem_of_getElem? (i := 40) rfl)) (hw _ (List.mem_of_getElem? (i := 3) rfl)) (by decide) (by decide)) q577a q577c (g := (mkF m 100 #[.val (.int p0), .val (.int p1), .val (.int p2), .val (.int p3), .val (.double xv), .second, .val (.double yv), .second, .val (.ref o1), .val (.int (1 : Int32))] [(.ref o1)])) rfl (by rw [hml]; rfl) (Steps.refl _) (argsL := []) (rest := []) (lenOf pd___D rfl) rfl (by show 2 * 0 + _ ≤ _; exact Nat.le_of_eq rfl) (hb hby at_100) (fun _ _ => ⟨rfl, rfl, (by decide : 2 + 0 ≤ _), (by decide : 72 + 0 ≤ _)⟩))
      obtain ⟨rfl, N577q, K577, Ex577, Fa577, Fb577, Fc577, Fd577, Va577⟩ := hQ577
      have N577 := Fr.app N572 N577q
      have S578 : Go p e below s₁ (entryFrame m #[(.int p0), (.int p1), (.int p2), (.int p3)] maxLocals) T577 (mkF m 103 #[.val (.int p0), .val (.int p1), .val (.int p2), .val (.int p3), .val (.double xv), .second, .val (.double yv), .second, .val (.ref o1), .val (.int (1 : Int32))] [(.double yv)]) := fun t kt => S574 t (st577 t kt)
      clear S574 st577 X572
      have S581 : Go p e below s₁ (entryFrame m #[(.int p0), (.int p1), (.int p2), (.int p3)] maxLocals) T577 (mkF m 106 #[.val (.int p0), .val (.int p1), .val (.int p2), .val (.int p3), .val (.double xv), .second, .val (.double yv), .second, .val (.ref o1), .val (.int (1 : Int32))] [(.int (FP.cmpInt (-1) (FP.dcmp yv yv)))]) := fun t kt => S578 t (by
        refine XS.dload X577.here hx rfl (hb hby at_103) rfl ?_
        show Steps p.tables e below (T577.setTop (mkF m 105 #[.val (.int p0), .val (.int p1), .val (.int p2), .val (.int p3), .val (.double xv), .second, .val (.double yv), .second, .val (.ref o1), .val (.int (1 : Int32))] [(.double yv), (.double yv)])) _
        refine XS.dcmpS X577.here hx rfl (hb hby at_105) rfl (cmpV_l _) ?_
        show Steps p.tables e below (T577.setTop (mkF m 106 #[.val (.int p0), .val (.int p1), .val (.int p2), .val (.int p3), .val (.double xv), .second, .val (.double yv), .second, .val (.ref o1), .val (.int (1 : Int32))] [(.int (FP.cmpInt (-1) (FP.dcmp yv yv)))])) _
        exact kt)
      clear S578
      have S582 : Go p e below s₁ (entryFrame m #[(.int p0), (.int p1), (.int p2), (.int p3)] maxLocals) T577 (mkF m 114 #[.val (.int p0), .val (.int p1), .val (.int p2), .val (.int p3), .val (.double xv), .second, .val (.double yv), .second, .val (.ref o1), .val (.int (1 : Int32))] [(.int (1 : Int32))]) := fun t kt => S581 t (by
        refine XS.ifNo X577.here hx rfl (hb hby at_106) rfl ((if0 _ _).trans (teq (show (FP.cmpInt (-1) (FP.dcmp yv yv)) = (0 : Int32) from (by rw [cmB.2.2]; rfl))).2) ?_
        show Steps p.tables e below (T577.setTop (mkF m 109 #[.val (.int p0), .val (.int p1), .val (.int p2), .val (.int p3), .val (.double xv), .second, .val (.double yv), .second, .val (.ref o1), .val (.int (1 : Int32))] [])) _
        refine XS.iconst X577.here hx rfl (hb hby at_109) ?_
        show Steps p.tables e below (T577.setTop (mkF m 110 #[.val (.int p0), .val (.int p1), .val (.int p2), .val (.int p3), .val (.double xv), .second, .val (.double yv), .second, .val (.ref o1), .val (.int (1 : Int32))] [(.int (1 : Int32))])) _
        refine XS.goto X577.here hx rfl (pc0 := 110) (pc' := 114) rfl (hb hby at_110) (by decide) (by decide) ?_
        show Steps p.tables e below (T577.setTop (mkF m 114 #[.val (.int p0), .val (.int p1), .val (.int p2), .val (.int p3), .val (.double xv), .second, .val (.double yv), .second, .val (.ref o1), .val (.int (1 : Int32))] [(.int (1 : Int32))])) _
        exact kt)
      clear S581
      obtain ⟨fs, hr, hrun, hended, hW, hsame⟩ := X577.leave (v := some (.int (1 : Int32))) (fun h => by first | rfl | (rw [Bd.returns] at h; cases h))
      refine ⟨_, _, S582 _ ?_, hrun, hended, _, _, rfl, ?_, ⟨_, rfl⟩, hW, hsame.mono (by decide) (by decide)⟩
      · exact retN X577 hx (t := .boolean) Bd.returns (by simp) (hb hby at_114) hr
      · show Q_law Z p0 p1 p2 p3 h0 n0 _ T577.heap _
        exact ⟨rfl, N577⟩
  · have S583 : Go p e below s₁ (entryFrame m #[(.int p0), (.int p1), (.int p2), (.int p3)] maxLocals) T560 (mkF m 60 #[.val (.int p0), .val (.int p1), .val (.int p2), .val (.int p3), .val (.double xv), .second, .val (.double yv), .second, .val (.ref o1), .unset] [(.ref o1)]) := fun t kt => S562 t (by
      refine XS.ifNo X560.here hx rfl (hb hby at_55) rfl ((if0 _ _).trans (feq (show ¬ ((p3 &&& (1 : Int32)) = (0 : Int32)) from hk1)).1) ?_
      show Steps p.tables e below (T560.setTop (mkF m 58 #[.val (.int p0), .val (.int p1), .val (.int p2), .val (.int p3), .val (.double xv), .second, .val (.double yv), .second, .val (.ref o1), .unset] [])) _
      refine XS.aload X560.here hx rfl (hb hby at_58) rfl rfl ?_
      show Steps p.tables e below (T560.setTop (mkF m 60 #[.val (.int p0), .val (.int p1), .val (.int p2), .val (.int p3), .val (.double xv), .second, .val (.double yv), .second, .val (.ref o1), .unset] [(.ref o1)])) _
      exact kt)
    clear S562
    rcases moreA with ⟨rxA, ryA, rzA, rvA⟩ | ⟨rA, kA, kqA, k32A, hposA, hppA, hp2A, hr0A, hr1A, hsgA, htopA, hkqA, hqA, hb0A, hbitsA, hsnA⟩
    · have VyA : Arv Z T560.heap bb kb .long (68 : Int32) (own_L nA 0 0 0) (.long (0 : Int64)) := by have h := Va560; rw [rxA, ryA, rzA] at h; exact h
      obtain ⟨cq584, kq584, q584a, q584b, q584c⟩ := isOf hZ rfl Ex560
      obtain ⟨v584, T584, L584, X584, hQ584, st584⟩ := own_outV (X560.virtualBack hx (y := (⟨"com/example/umbel/umbel/rank/ExactSum", "value", "()D"⟩ : MethodName)) (z := (⟨"com/example/umbel/umbel/rank/ExactSum", "value", "()D"⟩ : MethodName)) hown (mvT hZ (hw _ (List.mem_of_getElem? (i := 36) rfl))) (mvT hZ (hw _ (List.mem_of_getElem? (i := 37) rfl))) (notFace_of_selects (args := #[]) (mvT hZ (hw _ (List.mem_of_getElem? (i := 39) rfl)))) (mvT hZ (hw _ (List.mem_of_getElem? (i := 39) rfl))) (mvT hZ (hw _ (List.mem_of_getElem? (i := 38) rfl))) (by decide) (backOf (W := 0) (rm_valZ l Z a0 hw [] o1 bb kb liA nA (1 : Int32) T560.heap n0 (Nat.le_trans (Nat.le_trans (Nat.le_trans Z0 E553.1) K556.1) K560.1) Ex560 Fa560 Fb560 Fc560 Fd560 VyA g_o1 g_bb hab hlA hnA) hZ (hw _ (List.mem_of_getElem? (i := 40) rfl)) (hw _ (List.mem_of_getElem? (i := 3) rfl)) (by decide) (by decide)) q584a q584c (g := (mkF m 60 #[.val (.int p0), .val (.int p1), .val (.int p2), .val (.int p3), .val (.double xv), .second, .val (.double yv), .second, .val (.ref o1), .unset] [(.ref o1)])) rfl (by rw [hml]; rfl) (Steps.refl _) (argsL := []) (rest := []) (lenOf pd___D rfl) rfl (by show 2 * 0 + _ ≤ _; exact Nat.le_of_eq rfl) (hb hby at_60) (fun _ _ => ⟨rfl, rfl, (by decide : 2 + 0 ≤ _), (by decide : 72 + 0 ≤ _)⟩))
      obtain ⟨rfl, N584q, K584, Ex584, Fa584, Fb584, Fc584, Fd584, Va584⟩ := hQ584
      have N584 := Fr.app N560 N584q
      have S585 : Go p e below s₁ (entryFrame m #[(.int p0), (.int p1), (.int p2), (.int p3)] maxLocals) T584 (mkF m 63 #[.val (.int p0), .val (.int p1), .val (.int p2), .val (.int p3), .val (.double xv), .second, .val (.double yv), .second, .val (.ref o1), .unset] [(.double (0 : UInt64))]) := fun t kt => S583 t (st584 t kt)
      clear S583 st584 X560
      have S588 : Go p e below s₁ (entryFrame m #[(.int p0), (.int p1), (.int p2), (.int p3)] maxLocals) T584 (mkF m 66 #[.val (.int p0), .val (.int p1), .val (.int p2), .val (.int p3), .val (.double xv), .second, .val (.double yv), .second, .val (.ref o1), .unset] [(.ref o1)]) := fun t kt => S585 t (by
        jvm_step X584.here [X584.here.top, hx, (hb hby at_63), Value.category]
        show Steps p.tables e below (T584.setTop (mkF m 64 #[.val (.int p0), .val (.int p1), .val (.int p2), .val (.int p3), .val (.double xv), .second, .val (.double yv), .second, .val (.ref o1), .unset] [])) _
        refine XS.aload X584.here hx rfl (hb hby at_64) rfl rfl ?_
        show Steps p.tables e below (T584.setTop (mkF m 66 #[.val (.int p0), .val (.int p1), .val (.int p2), .val (.int p3), .val (.double xv), .second, .val (.double yv), .second, .val (.ref o1), .unset] [(.ref o1)])) _
        exact kt)
      clear S585
      obtain ⟨cq589, kq589, q589a, q589b, q589c⟩ := isOf hZ rfl Ex584
      obtain ⟨v589, T589, L589, X589, hQ589, st589⟩ := own_outV (X584.virtualBack hx (y := (⟨"com/example/umbel/umbel/rank/ExactSum", "clear", "()V"⟩ : MethodName)) (z := (⟨"com/example/umbel/umbel/rank/ExactSum", "clear", "()V"⟩ : MethodName)) hown (mvT hZ (hw _ (List.mem_of_getElem? (i := 45) rfl))) (mvT hZ (hw _ (List.mem_of_getElem? (i := 46) rfl))) (notFace_of_selects (args := #[]) (mvT hZ (hw _ (List.mem_of_getElem? (i := 48) rfl)))) (mvT hZ (hw _ (List.mem_of_getElem? (i := 48) rfl))) (mvT hZ (hw _ (List.mem_of_getElem? (i := 47) rfl))) (by decide) (backOf (W := 0) (rm_clear l Z a0 hw [] o1 bb kb liA nA 0 0 0 (0 : Int32) T584.heap n0 (Nat.le_trans (Nat.le_trans (Nat.le_trans (Nat.le_trans Z0 E553.1) K556.1) K560.1) K584.1) Ex584 Fa584 Fb584 Fc584 Fd584 Va584 g_o1 g_bb hab hlA hnA) hZ (hw _ (List.mem_of_getElem? (i := 49) rfl)) (hw _ (List.mem_of_getElem? (i := 3) rfl)) (by decide) (by decide)) q589a q589c (g := (mkF m 66 #[.val (.int p0), .val (.int p1), .val (.int p2), .val (.int p3), .val (.double xv), .second, .val (.double yv), .second, .val (.ref o1), .unset] [(.ref o1)])) rfl (by rw [hml]; rfl) (Steps.refl _) (argsL := []) (rest := []) (lenOf pd___V rfl) rfl (by show 2 * 0 + _ ≤ _; exact Nat.le_of_eq rfl) (hb hby at_66) (fun _ _ => ⟨rfl, rfl, (by decide : 2 + 0 ≤ _), (by decide : 72 + 0 ≤ _)⟩))
      obtain ⟨rfl, N589q, K589, Ex589, Fa589, Fb589, Fc589, Fd589, Va589⟩ := hQ589
      have N589 := Fr.app N584 N589q
      have S590 : Go p e below s₁ (entryFrame m #[(.int p0), (.int p1), (.int p2), (.int p3)] maxLocals) T589 (mkF m 69 #[.val (.int p0), .val (.int p1), .val (.int p2), .val (.int p3), .val (.double xv), .second, .val (.double yv), .second, .val (.ref o1), .unset] []) := fun t kt => S588 t (st589 t kt)
      clear S588 st589 X584
      have S591 : Go p e below s₁ (entryFrame m #[(.int p0), (.int p1), (.int p2), (.int p3)] maxLocals) T589 (mkF m 71 #[.val (.int p0), .val (.int p1), .val (.int p2), .val (.int p3), .val (.double xv), .second, .val (.double yv), .second, .val (.ref o1), .unset] [(.ref o1)]) := fun t kt => S590 t (by
        refine XS.aload X589.here hx rfl (hb hby at_69) rfl rfl ?_
        show Steps p.tables e below (T589.setTop (mkF m 71 #[.val (.int p0), .val (.int p1), .val (.int p2), .val (.int p3), .val (.double xv), .second, .val (.double yv), .second, .val (.ref o1), .unset] [(.ref o1)])) _
        exact kt)
      clear S590
      obtain ⟨cq592, kq592, q592a, q592b, q592c⟩ := isOf hZ rfl Ex589
      obtain ⟨v592, T592, L592, X592, hQ592, st592⟩ := own_outV (X589.virtualBack hx (y := (⟨"com/example/umbel/umbel/rank/ExactSum", "value", "()D"⟩ : MethodName)) (z := (⟨"com/example/umbel/umbel/rank/ExactSum", "value", "()D"⟩ : MethodName)) hown (mvT hZ (hw _ (List.mem_of_getElem? (i := 36) rfl))) (mvT hZ (hw _ (List.mem_of_getElem? (i := 37) rfl))) (notFace_of_selects (args := #[]) (mvT hZ (hw _ (List.mem_of_getElem? (i := 39) rfl)))) (mvT hZ (hw _ (List.mem_of_getElem? (i := 39) rfl))) (mvT hZ (hw _ (List.mem_of_getElem? (i := 38) rfl))) (by decide) (backOf (W := 0) (rm_val0 l Z a0 hw [] o1 bb kb (own_L nA 0 0 0) T589.heap n0 (Nat.le_trans (Nat.le_trans (Nat.le_trans (Nat.le_trans (Nat.le_trans Z0 E553.1) K556.1) K560.1) K584.1) K589.1) Ex589 Fa589 Fb589 Fc589 Fd589 Va589 g_o1 g_bb hab) hZ (hw _ (List.mem_of_getElem? (i := 40) rfl)) (hw _ (List.mem_of_getElem? (i := 3) rfl)) (by decide) (by decide)) q592a q592c (g := (mkF m 71 #[.val (.int p0), .val (.int p1), .val (.int p2), .val (.int p3), .val (.double xv), .second, .val (.double yv), .second, .val (.ref o1), .unset] [(.ref o1)])) rfl (by rw [hml]; rfl) (Steps.refl _) (argsL := []) (rest := []) (lenOf pd___D rfl) rfl (by show 2 * 0 + _ ≤ _; exact Nat.le_of_eq rfl) (hb hby at_71) (fun _ _ => ⟨rfl, rfl, (by decide : 2 + 0 ≤ _), (by decide : 72 + 0 ≤ _)⟩))
      obtain ⟨rfl, N592q, K592, Ex592, Fa592, Fb592, Fc592, Fd592, Va592⟩ := hQ592
      have N592 := Fr.app N589 N592q
      have S593 : Go p e below s₁ (entryFrame m #[(.int p0), (.int p1), (.int p2), (.int p3)] maxLocals) T592 (mkF m 74 #[.val (.int p0), .val (.int p1), .val (.int p2), .val (.int p3), .val (.double xv), .second, .val (.double yv), .second, .val (.ref o1), .unset] [(.double (0 : UInt64))]) := fun t kt => S591 t (st592 t kt)
      clear S591 st592 X589
      have S594 : Go p e below s₁ (entryFrame m #[(.int p0), (.int p1), (.int p2), (.int p3)] maxLocals) T592 (mkF m 76 #[.val (.int p0), .val (.int p1), .val (.int p2), .val (.int p3), .val (.double xv), .second, .val (.double yv), .second, .val (.ref o1), .unset] [(.int (FP.cmpInt (-1) (FP.dcmp (0 : UInt64) (0 : UInt64))))]) := fun t kt => S593 t (by
        refine XS.dconst0 X592.here hx rfl (hb hby at_74) rfl ?_
        show Steps p.tables e below (T592.setTop (mkF m 75 #[.val (.int p0), .val (.int p1), .val (.int p2), .val (.int p3), .val (.double xv), .second, .val (.double yv), .second, .val (.ref o1), .unset] [(.double (0 : UInt64)), (.double (0 : UInt64))])) _
        refine XS.dcmpS X592.here hx rfl (hb hby at_75) rfl (cmpV_l _) ?_
        show Steps p.tables e below (T592.setTop (mkF m 76 #[.val (.int p0), .val (.int p1), .val (.int p2), .val (.int p3), .val (.double xv), .second, .val (.double yv), .second, .val (.ref o1), .unset] [(.int (FP.cmpInt (-1) (FP.dcmp (0 : UInt64) (0 : UInt64))))])) _
        exact kt)
      clear S593
      have S595 : Go p e below s₁ (entryFrame m #[(.int p0), (.int p1), (.int p2), (.int p3)] maxLocals) T592 (mkF m 90 #[.val (.int p0), .val (.int p1), .val (.int p2), .val (.int p3), .val (.double xv), .second, .val (.double yv), .second, .val (.ref o1), .val (.int (1 : Int32))] [(.double yv), (.ref o1)]) := fun t kt => S594 t (by
        refine XS.ifNo X592.here hx rfl (hb hby at_76) rfl ((if0 _ _).trans (teq (show (FP.cmpInt (-1) (FP.dcmp (0 : UInt64) (0 : UInt64))) = (0 : Int32) from (by decide +kernel))).2) ?_
        show Steps p.tables e below (T592.setTop (mkF m 79 #[.val (.int p0), .val (.int p1), .val (.int p2), .val (.int p3), .val (.double xv), .second, .val (.double yv), .second, .val (.ref o1), .unset] [])) _
        refine XS.iconst X592.here hx rfl (hb hby at_79) ?_
        show Steps p.tables e below (T592.setTop (mkF m 80 #[.val (.int p0), .val (.int p1), .val (.int p2), .val (.int p3), .val (.double xv), .second, .val (.double yv), .second, .val (.ref o1), .unset] [(.int (1 : Int32))])) _
        refine XS.goto X592.here hx rfl (pc0 := 80) (pc' := 84) rfl (hb hby at_80) (by decide) (by decide) ?_
        show Steps p.tables e below (T592.setTop (mkF m 84 #[.val (.int p0), .val (.int p1), .val (.int p2), .val (.int p3), .val (.double xv), .second, .val (.double yv), .second, .val (.ref o1), .unset] [(.int (1 : Int32))])) _
        refine XS.istore X592.here hx rfl (hb hby at_84) rfl (l' := #[.val (.int p0), .val (.int p1), .val (.int p2), .val (.int p3), .val (.double xv), .second, .val (.double yv), .second, .val (.ref o1), .val (.int (1 : Int32))]) rfl ?_
        show Steps p.tables e below (T592.setTop (mkF m 86 #[.val (.int p0), .val (.int p1), .val (.int p2), .val (.int p3), .val (.double xv), .second, .val (.double yv), .second, .val (.ref o1), .val (.int (1 : Int32))] [])) _
        refine XS.aload X592.here hx rfl (hb hby at_86) rfl rfl ?_
        show Steps p.tables e below (T592.setTop (mkF m 88 #[.val (.int p0), .val (.int p1), .val (.int p2), .val (.int p3), .val (.double xv), .second, .val (.double yv), .second, .val (.ref o1), .val (.int (1 : Int32))] [(.ref o1)])) _
        refine XS.dload X592.here hx rfl (hb hby at_88) rfl ?_
        show Steps p.tables e below (T592.setTop (mkF m 90 #[.val (.int p0), .val (.int p1), .val (.int p2), .val (.int p3), .val (.double xv), .second, .val (.double yv), .second, .val (.ref o1), .val (.int (1 : Int32))] [(.double yv), (.ref o1)])) _
        exact kt)
      clear S594
      obtain ⟨exB, sg0B, sigB, posB, liB, shB, hiB, xB, yB, zB, nB, e1B, e2B, e3B, e4B, e5B, e6B, e7B, e8B, e9B, hlB, hnB, hx0B, hy0B, hz0B, moreB⟩ := own_pack yv hPy
      have cmB := own_cmp hPy
      have Vz596 : Arv Z T592.heap bb kb .long (68 : Int32) (own_L nB 0 0 0) (.long (0 : Int64)) := by rw [own_zeroL nB hnB]; exact (own_zeroL nA hnA ▸ Va592)
      obtain ⟨cq597, kq597, q597a, q597b, q597c⟩ := isOf hZ rfl Ex592
      obtain ⟨v597, T597, L597, X597, hQ597, st597⟩ := own_outV (X592.virtualBack hx (y := (⟨"com/example/umbel/umbel/rank/ExactSum", "add", "(D)V"⟩ : MethodName)) (z := (⟨"com/example/umbel/umbel/rank/ExactSum", "add", "(D)V"⟩ : MethodName)) hown (mvT hZ (hw _ (List.mem_of_getElem? (i := 13) rfl))) (mvT hZ (hw _ (List.mem_of_getElem? (i := 14) rfl))) (notFace_of_selects (args := #[]) (mvT hZ (hw _ (List.mem_of_getElem? (i := 16) rfl)))) (mvT hZ (hw _ (List.mem_of_getElem? (i := 16) rfl))) (mvT hZ (hw _ (List.mem_of_getElem? (i := 15) rfl))) (by decide) (backOf (W := 0) (rm_add l Z a0 hw [] o1 bb kb yv exB sg0B sigB posB shB hiB liB nB xB yB zB T592.heap n0 (Nat.le_trans (Nat.le_trans (Nat.le_trans (Nat.le_trans (Nat.le_trans (Nat.le_trans Z0 E553.1) K556.1) K560.1) K584.1) K589.1) K592.1) Ex592 Fa592 Fb592 Fc592 Fd592 Vz596 g_o1 g_bb hab hlB hnB cmB.1 cmB.2.1 e1B e2B e3B e4B e5B e6B e7B e8B e9B) hZ (hw _ (List.mem_of_getElem? (i := 17) rfl)) (hw _ (List.mem_of_getElem? (i := 3) rfl)) (by decide) (by decide)) q597a q597c (g := (mkF m 90 #[.val (.int p0), .val (.int p1), .val (.int p2), .val (.int p3), .val (.double xv), .second, .val (.double yv), .second, .val (.ref o1), .val (.int (1 : Int32))] [(.double yv), (.ref o1)])) rfl (by rw [hml]; rfl) (Steps.refl _) (argsL := [(.double yv)]) (rest := []) (lenOf pd__D_V rfl) rfl (by show 2 * 0 + _ ≤ _; exact Nat.le_of_eq rfl) (hb hby at_90) (fun _ _ => ⟨rfl, rfl, (by decide : 2 + 0 ≤ _), (by decide : 72 + 0 ≤ _)⟩))
      obtain ⟨rfl, N597q, K597, Ex597, Fa597, Fb597, Fc597, Fd597, Va597⟩ := hQ597
      have N597 := Fr.app N592 N597q
      have S598 : Go p e below s₁ (entryFrame m #[(.int p0), (.int p1), (.int p2), (.int p3)] maxLocals) T597 (mkF m 93 #[.val (.int p0), .val (.int p1), .val (.int p2), .val (.int p3), .val (.double xv), .second, .val (.double yv), .second, .val (.ref o1), .val (.int (1 : Int32))] []) := fun t kt => S595 t (st597 t kt)
      clear S595 st597 X592
      have S599 : Go p e below s₁ (entryFrame m #[(.int p0), (.int p1), (.int p2), (.int p3)] maxLocals) T597 (mkF m 100 #[.val (.int p0), .val (.int p1), .val (.int p2), .val (.int p3), .val (.double xv), .second, .val (.double yv), .second, .val (.ref o1), .val (.int (1 : Int32))] [(.ref o1)]) := fun t kt => S598 t (by
        refine XS.iload X597.here hx rfl (hb hby at_93) rfl ?_
        show Steps p.tables e below (T597.setTop (mkF m 95 #[.val (.int p0), .val (.int p1), .val (.int p2), .val (.int p3), .val (.double xv), .second, .val (.double yv), .second, .val (.ref o1), .val (.int (1 : Int32))] [(.int (1 : Int32))])) _
        refine XS.ifNo X597.here hx rfl (hb hby at_95) rfl ((if0 _ _).trans (feq (show ¬ ((1 : Int32) = (0 : Int32)) from (by decide))).1) ?_
        show Steps p.tables e below (T597.setTop (mkF m 98 #[.val (.int p0), .val (.int p1), .val (.int p2), .val (.int p3), .val (.double xv), .second, .val (.double yv), .second, .val (.ref o1), .val (.int (1 : Int32))] [])) _
        refine XS.aload X597.here hx rfl (hb hby at_98) rfl rfl ?_
        show Steps p.tables e below (T597.setTop (mkF m 100 #[.val (.int p0), .val (.int p1), .val (.int p2), .val (.int p3), .val (.double xv), .second, .val (.double yv), .second, .val (.ref o1), .val (.int (1 : Int32))] [(.ref o1)])) _
        exact kt)
      clear S598
      rcases moreB with ⟨rxB, ryB, rzB, rvB⟩ | ⟨rB, kB, kqB, k32B, hposB, hppB, hp2B, hr0B, hr1B, hsgB, htopB, hkqB, hqB, hb0B, hbitsB, hsnB⟩
      · have VyB : Arv Z T597.heap bb kb .long (68 : Int32) (own_L nB 0 0 0) (.long (0 : Int64)) := by have h := Va597; rw [rxB, ryB, rzB] at h; exact h
        obtain ⟨cq600, kq600, q600a, q600b, q600c⟩ := isOf hZ rfl Ex597
        obtain ⟨v600, T600, L600, X600, hQ600, st600⟩ := own_outV (X597.virtualBack hx (y := (⟨"com/example/umbel/umbel/rank/ExactSum", "value", "()D"⟩ : MethodName)) (z := (⟨"com/example/umbel/umbel/rank/ExactSum", "value", "()D"⟩ : MethodName)) hown (mvT hZ (hw _ (List.mem_of_getElem? (i := 36) rfl))) (mvT hZ (hw _ (List.mem_of_getElem? (i := 37) rfl))) (notFace_of_selects (args := #[]) (mvT hZ (hw _ (List.mem_of_getElem? (i := 39) rfl)))) (mvT hZ (hw _ (List.mem_of_getElem? (i := 39) rfl))) (mvT hZ (hw _ (List.mem_of_getElem? (i := 38) rfl))) (by decide) (backOf (W := 0) (rm_valZ l Z a0 hw [] o1 bb kb liB nB (1 : Int32) T597.heap n0 (Nat.le_trans (Nat.le_trans (Nat.le_trans (Nat.le_trans (Nat.le_trans (Nat.le_trans (Nat.le_trans Z0 E553.1) K556.1) K560.1) K584.1) K589.1) K592.1) K597.1) Ex597 Fa597 Fb597 Fc597 Fd597 VyB g_o1 g_bb hab hlB hnB) hZ (hw _ (List.mem_of_getElem? (i := 40) rfl)) (hw _ (List.mem_of_getElem? (i := 3) rfl)) (by decide) (by decide)) q600a q600c (g := (mkF m 100 #[.val (.int p0), .val (.int p1), .val (.int p2), .val (.int p3), .val (.double xv), .second, .val (.double yv), .second, .val (.ref o1), .val (.int (1 : Int32))] [(.ref o1)])) rfl (by rw [hml]; rfl) (Steps.refl _) (argsL := []) (rest := []) (lenOf pd___D rfl) rfl (by show 2 * 0 + _ ≤ _; exact Nat.le_of_eq rfl) (hb hby at_100) (fun _ _ => ⟨rfl, rfl, (by decide : 2 + 0 ≤ _), (by decide : 72 + 0 ≤ _)⟩))
        obtain ⟨rfl, N600q, K600, Ex600, Fa600, Fb600, Fc600, Fd600, Va600⟩ := hQ600
        have N600 := Fr.app N597 N600q
        have S601 : Go p e below s₁ (entryFrame m #[(.int p0), (.int p1), (.int p2), (.int p3)] maxLocals) T600 (mkF m 103 #[.val (.int p0), .val (.int p1), .val (.int p2), .val (.int p3), .val (.double xv), .second, .val (.double yv), .second, .val (.ref o1), .val (.int (1 : Int32))] [(.double (0 : UInt64))]) := fun t kt => S599 t (st600 t kt)
        clear S599 st600 X597
        have S604 : Go p e below s₁ (entryFrame m #[(.int p0), (.int p1), (.int p2), (.int p3)] maxLocals) T600 (mkF m 106 #[.val (.int p0), .val (.int p1), .val (.int p2), .val (.int p3), .val (.double xv), .second, .val (.double yv), .second, .val (.ref o1), .val (.int (1 : Int32))] [(.int (FP.cmpInt (-1) (FP.dcmp (0 : UInt64) yv)))]) := fun t kt => S601 t (by
          refine XS.dload X600.here hx rfl (hb hby at_103) rfl ?_
          show Steps p.tables e below (T600.setTop (mkF m 105 #[.val (.int p0), .val (.int p1), .val (.int p2), .val (.int p3), .val (.double xv), .second, .val (.double yv), .second, .val (.ref o1), .val (.int (1 : Int32))] [(.double yv), (.double (0 : UInt64))])) _
          refine XS.dcmpS X600.here hx rfl (hb hby at_105) rfl (cmpV_l _) ?_
          show Steps p.tables e below (T600.setTop (mkF m 106 #[.val (.int p0), .val (.int p1), .val (.int p2), .val (.int p3), .val (.double xv), .second, .val (.double yv), .second, .val (.ref o1), .val (.int (1 : Int32))] [(.int (FP.cmpInt (-1) (FP.dcmp (0 : UInt64) yv)))])) _
          exact kt)
        clear S601
        have S605 : Go p e below s₁ (entryFrame m #[(.int p0), (.int p1), (.int p2), (.int p3)] maxLocals) T600 (mkF m 114 #[.val (.int p0), .val (.int p1), .val (.int p2), .val (.int p3), .val (.double xv), .second, .val (.double yv), .second, .val (.ref o1), .val (.int (1 : Int32))] [(.int (1 : Int32))]) := fun t kt => S604 t (by
          refine XS.ifNo X600.here hx rfl (hb hby at_106) rfl ((if0 _ _).trans (teq (show (FP.cmpInt (-1) (FP.dcmp (0 : UInt64) yv)) = (0 : Int32) from (by rw [rvB]; decide +kernel))).2) ?_
          show Steps p.tables e below (T600.setTop (mkF m 109 #[.val (.int p0), .val (.int p1), .val (.int p2), .val (.int p3), .val (.double xv), .second, .val (.double yv), .second, .val (.ref o1), .val (.int (1 : Int32))] [])) _
          refine XS.iconst X600.here hx rfl (hb hby at_109) ?_
          show Steps p.tables e below (T600.setTop (mkF m 110 #[.val (.int p0), .val (.int p1), .val (.int p2), .val (.int p3), .val (.double xv), .second, .val (.double yv), .second, .val (.ref o1), .val (.int (1 : Int32))] [(.int (1 : Int32))])) _
          refine XS.goto X600.here hx rfl (pc0 := 110) (pc' := 114) rfl (hb hby at_110) (by decide) (by decide) ?_
          show Steps p.tables e below (T600.setTop (mkF m 114 #[.val (.int p0), .val (.int p1), .val (.int p2), .val (.int p3), .val (.double xv), .second, .val (.double yv), .second, .val (.ref o1), .val (.int (1 : Int32))] [(.int (1 : Int32))])) _
          exact kt)
        clear S604
        obtain ⟨fs, hr, hrun, hended, hW, hsame⟩ := X600.leave (v := some (.int (1 : Int32))) (fun h => by first | rfl | (rw [Bd.returns] at h; cases h))
        refine ⟨_, _, S605 _ ?_, hrun, hended, _, _, rfl, ?_, ⟨_, rfl⟩, hW, hsame.mono (by decide) (by decide)⟩
        · exact retN X600 hx (t := .boolean) Bd.returns (by simp) (hb hby at_114) hr
        · show Q_law Z p0 p1 p2 p3 h0 n0 _ T600.heap _
          exact ⟨rfl, N600⟩
      · obtain ⟨cq602, kq602, q602a, q602b, q602c⟩ := isOf hZ rfl Ex597
        obtain ⟨v602, T602, L602, X602, hQ602, st602⟩ := own_outV (X597.virtualBack hx (y := (⟨"com/example/umbel/umbel/rank/ExactSum", "value", "()D"⟩ : MethodName)) (z := (⟨"com/example/umbel/umbel/rank/ExactSum", "value", "()D"⟩ : MethodName)) hown (mvT hZ (hw _ (List.mem_of_getElem? (i := 36) rfl))) (mvT hZ (hw _ (List.mem_of_getElem? (i := 37) rfl))) (notFace_of_selects (args := #[]) (mvT hZ (hw _ (List.mem_of_getElem? (i := 39) rfl)))) (mvT hZ (hw _ (List.mem_of_getElem? (i := 39) rfl))) (mvT hZ (hw _ (List.mem_of_getElem? (i := 38) rfl))) (by decide) (backOf (W := 0) (rm_val l Z a0 hw [] o1 bb kb liB nB xB yB zB (1 : Int32) posB shB sigB rB kB kqB yv T597.heap n0 (Nat.le_trans (Nat.le_trans (Nat.le_trans (Nat.le_trans (Nat.le_trans (Nat.le_trans (Nat.le_trans Z0 E553.1) K556.1) K560.1) K584.1) K589.1) K592.1) K597.1) Ex597 Fa597 Fb597 Fc597 Fd597 Va597 g_o1 g_bb hab hlB hnB hx0B hy0B hz0B e4B e5B k32B hposB hppB hp2B hr0B hr1B hsgB htopB hkqB hqB hb0B hbitsB hsnB) hZ (hw _ (List.mem_of_getElem? (i := 40) rfl)) (hw _ (List.mem_of_getElem? (i := 3) rfl)) (by decide) (by decide)) q602a q602c (g := (mkF m 100 #[.val (.int p0), .val (.int p1), .val (.int p2), .val (.int p3), .val (.double xv), .second, .val (.double yv), .second, .val (.ref o1), .val (.int (1 : Int32))] [(.ref o1)])) rfl (by rw [hml]; rfl) (Steps.refl _) (argsL := []) (rest := []) (lenOf pd___D rfl) rfl (by show 2 * 0 + _ ≤ _; exact Nat.le_of_eq rfl) (hb hby at_100) (fun _ _ => ⟨rfl, rfl, (by decide : 2 + 0 ≤ _), (by decide : 72 + 0 ≤ _)⟩))
        obtain ⟨rfl, N602q, K602, Ex602, Fa602, Fb602, Fc602, Fd602, Va602⟩ := hQ602
        have N602 := Fr.app N597 N602q
        have S603 : Go p e below s₁ (entryFrame m #[(.int p0), (.int p1), (.int p2), (.int p3)] maxLocals) T602 (mkF m 103 #[.val (.int p0), .val (.int p1), .val (.int p2), .val (.int p3), .val (.double xv), .second, .val (.double yv), .second, .val (.ref o1), .val (.int (1 : Int32))] [(.double yv)]) := fun t kt => S599 t (st602 t kt)
        clear S599 st602 X597
        have S606 : Go p e below s₁ (entryFrame m #[(.int p0), (.int p1), (.int p2), (.int p3)] maxLocals) T602 (mkF m 106 #[.val (.int p0), .val (.int p1), .val (.int p2), .val (.int p3), .val (.double xv), .second, .val (.double yv), .second, .val (.ref o1), .val (.int (1 : Int32))] [(.int (FP.cmpInt (-1) (FP.dcmp yv yv)))]) := fun t kt => S603 t (by
          refine XS.dload X602.here hx rfl (hb hby at_103) rfl ?_
          show Steps p.tables e below (T602.setTop (mkF m 105 #[.val (.int p0), .val (.int p1), .val (.int p2), .val (.int p3), .val (.double xv), .second, .val (.double yv), .second, .val (.ref o1), .val (.int (1 : Int32))] [(.double yv), (.double yv)])) _
          refine XS.dcmpS X602.here hx rfl (hb hby at_105) rfl (cmpV_l _) ?_
          show Steps p.tables e below (T602.setTop (mkF m 106 #[.val (.int p0), .val (.int p1), .val (.int p2), .val (.int p3), .val (.double xv), .second, .val (.double yv), .second, .val (.ref o1), .val (.int (1 : Int32))] [(.int (FP.cmpInt (-1) (FP.dcmp yv yv)))])) _
          exact kt)
        clear S603
        have S607 : Go p e below s₁ (entryFrame m #[(.int p0), (.int p1), (.int p2), (.int p3)] maxLocals) T602 (mkF m 114 #[.val (.int p0), .val (.int p1), .val (.int p2), .val (.int p3), .val (.double xv), .second, .val (.double yv), .second, .val (.ref o1), .val (.int (1 : Int32))] [(.int (1 : Int32))]) := fun t kt => S606 t (by
          refine XS.ifNo X602.here hx rfl (hb hby at_106) rfl ((if0 _ _).trans (teq (show (FP.cmpInt (-1) (FP.dcmp yv yv)) = (0 : Int32) from (by rw [cmB.2.2]; rfl))).2) ?_
          show Steps p.tables e below (T602.setTop (mkF m 109 #[.val (.int p0), .val (.int p1), .val (.int p2), .val (.int p3), .val (.double xv), .second, .val (.double yv), .second, .val (.ref o1), .val (.int (1 : Int32))] [])) _
          refine XS.iconst X602.here hx rfl (hb hby at_109) ?_
          show Steps p.tables e below (T602.setTop (mkF m 110 #[.val (.int p0), .val (.int p1), .val (.int p2), .val (.int p3), .val (.double xv), .second, .val (.double yv), .second, .val (.ref o1), .val (.int (1 : Int32))] [(.int (1 : Int32))])) _
          refine XS.goto X602.here hx rfl (pc0 := 110) (pc' := 114) rfl (hb hby at_110) (by decide) (by decide) ?_
          show Steps p.tables e below (T602.setTop (mkF m 114 #[.val (.int p0), .val (.int p1), .val (.int p2), .val (.int p3), .val (.double xv), .second, .val (.double yv), .second, .val (.ref o1), .val (.int (1 : Int32))] [(.int (1 : Int32))])) _
          exact kt)
        clear S606
        obtain ⟨fs, hr, hrun, hended, hW, hsame⟩ := X602.leave (v := some (.int (1 : Int32))) (fun h => by first | rfl | (rw [Bd.returns] at h; cases h))
        refine ⟨_, _, S607 _ ?_, hrun, hended, _, _, rfl, ?_, ⟨_, rfl⟩, hW, hsame.mono (by decide) (by decide)⟩
        · exact retN X602 hx (t := .boolean) Bd.returns (by simp) (hb hby at_114) hr
        · show Q_law Z p0 p1 p2 p3 h0 n0 _ T602.heap _
          exact ⟨rfl, N602⟩
    · obtain ⟨cq586, kq586, q586a, q586b, q586c⟩ := isOf hZ rfl Ex560
      obtain ⟨v586, T586, L586, X586, hQ586, st586⟩ := own_outV (X560.virtualBack hx (y := (⟨"com/example/umbel/umbel/rank/ExactSum", "value", "()D"⟩ : MethodName)) (z := (⟨"com/example/umbel/umbel/rank/ExactSum", "value", "()D"⟩ : MethodName)) hown (mvT hZ (hw _ (List.mem_of_getElem? (i := 36) rfl))) (mvT hZ (hw _ (List.mem_of_getElem? (i := 37) rfl))) (notFace_of_selects (args := #[]) (mvT hZ (hw _ (List.mem_of_getElem? (i := 39) rfl)))) (mvT hZ (hw _ (List.mem_of_getElem? (i := 39) rfl))) (mvT hZ (hw _ (List.mem_of_getElem? (i := 38) rfl))) (by decide) (backOf (W := 0) (rm_val l Z a0 hw [] o1 bb kb liA nA xA yA zA (1 : Int32) posA shA sigA rA kA kqA xv T560.heap n0 (Nat.le_trans (Nat.le_trans (Nat.le_trans Z0 E553.1) K556.1) K560.1) Ex560 Fa560 Fb560 Fc560 Fd560 Va560 g_o1 g_bb hab hlA hnA hx0A hy0A hz0A e4A e5A k32A hposA hppA hp2A hr0A hr1A hsgA htopA hkqA hqA hb0A hbitsA hsnA) hZ (hw _ (List.mem_of_getElem? (i := 40) rfl)) (hw _ (List.mem_of_getElem? (i := 3) rfl)) (by decide) (by decide)) q586a q586c (g := (mkF m 60 #[.val (.int p0), .val (.int p1), .val (.int p2), .val (.int p3), .val (.double xv), .second, .val (.double yv), .second, .val (.ref o1), .unset] [(.ref o1)])) rfl (by rw [hml]; rfl) (Steps.refl _) (argsL := []) (rest := []) (lenOf pd___D rfl) rfl (by show 2 * 0 + _ ≤ _; exact Nat.le_of_eq rfl) (hb hby at_60) (fun _ _ => ⟨rfl, rfl, (by decide : 2 + 0 ≤ _), (by decide : 72 + 0 ≤ _)⟩))
      obtain ⟨rfl, N586q, K586, Ex586, Fa586, Fb586, Fc586, Fd586, Va586⟩ := hQ586
      have N586 := Fr.app N560 N586q
      have S587 : Go p e below s₁ (entryFrame m #[(.int p0), (.int p1), (.int p2), (.int p3)] maxLocals) T586 (mkF m 63 #[.val (.int p0), .val (.int p1), .val (.int p2), .val (.int p3), .val (.double xv), .second, .val (.double yv), .second, .val (.ref o1), .unset] [(.double xv)]) := fun t kt => S583 t (st586 t kt)
      clear S583 st586 X560
      have S608 : Go p e below s₁ (entryFrame m #[(.int p0), (.int p1), (.int p2), (.int p3)] maxLocals) T586 (mkF m 66 #[.val (.int p0), .val (.int p1), .val (.int p2), .val (.int p3), .val (.double xv), .second, .val (.double yv), .second, .val (.ref o1), .unset] [(.ref o1)]) := fun t kt => S587 t (by
        jvm_step X586.here [X586.here.top, hx, (hb hby at_63), Value.category]
        show Steps p.tables e below (T586.setTop (mkF m 64 #[.val (.int p0), .val (.int p1), .val (.int p2), .val (.int p3), .val (.double xv), .second, .val (.double yv), .second, .val (.ref o1), .unset] [])) _
        refine XS.aload X586.here hx rfl (hb hby at_64) rfl rfl ?_
        show Steps p.tables e below (T586.setTop (mkF m 66 #[.val (.int p0), .val (.int p1), .val (.int p2), .val (.int p3), .val (.double xv), .second, .val (.double yv), .second, .val (.ref o1), .unset] [(.ref o1)])) _
        exact kt)
      clear S587
      obtain ⟨cq609, kq609, q609a, q609b, q609c⟩ := isOf hZ rfl Ex586
      obtain ⟨v609, T609, L609, X609, hQ609, st609⟩ := own_outV (X586.virtualBack hx (y := (⟨"com/example/umbel/umbel/rank/ExactSum", "clear", "()V"⟩ : MethodName)) (z := (⟨"com/example/umbel/umbel/rank/ExactSum", "clear", "()V"⟩ : MethodName)) hown (mvT hZ (hw _ (List.mem_of_getElem? (i := 45) rfl))) (mvT hZ (hw _ (List.mem_of_getElem? (i := 46) rfl))) (notFace_of_selects (args := #[]) (mvT hZ (hw _ (List.mem_of_getElem? (i := 48) rfl)))) (mvT hZ (hw _ (List.mem_of_getElem? (i := 48) rfl))) (mvT hZ (hw _ (List.mem_of_getElem? (i := 47) rfl))) (by decide) (backOf (W := 0) (rm_clear l Z a0 hw [] o1 bb kb liA nA xA yA zA (0 : Int32) T586.heap n0 (Nat.le_trans (Nat.le_trans (Nat.le_trans (Nat.le_trans Z0 E553.1) K556.1) K560.1) K586.1) Ex586 Fa586 Fb586 Fc586 Fd586 Va586 g_o1 g_bb hab hlA hnA) hZ (hw _ (List.mem_of_getElem? (i := 49) rfl)) (hw _ (List.mem_of_getElem? (i := 3) rfl)) (by decide) (by decide)) q609a q609c (g := (mkF m 66 #[.val (.int p0), .val (.int p1), .val (.int p2), .val (.int p3), .val (.double xv), .second, .val (.double yv), .second, .val (.ref o1), .unset] [(.ref o1)])) rfl (by rw [hml]; rfl) (Steps.refl _) (argsL := []) (rest := []) (lenOf pd___V rfl) rfl (by show 2 * 0 + _ ≤ _; exact Nat.le_of_eq rfl) (hb hby at_66) (fun _ _ => ⟨rfl, rfl, (by decide : 2 + 0 ≤ _), (by decide : 72 + 0 ≤ _)⟩))
      obtain ⟨rfl, N609q, K609, Ex609, Fa609, Fb609, Fc609, Fd609, Va609⟩ := hQ609
      have N609 := Fr.app N586 N609q
      have S610 : Go p e below s₁ (entryFrame m #[(.int p0), (.int p1), (.int p2), (.int p3)] maxLocals) T609 (mkF m 69 #[.val (.int p0), .val (.int p1), .val (.int p2), .val (.int p3), .val (.double xv), .second, .val (.double yv), .second, .val (.ref o1), .unset] []) := fun t kt => S608 t (st609 t kt)
      clear S608 st609 X586
      have S611 : Go p e below s₁ (entryFrame m #[(.int p0), (.int p1), (.int p2), (.int p3)] maxLocals) T609 (mkF m 71 #[.val (.int p0), .val (.int p1), .val (.int p2), .val (.int p3), .val (.double xv), .second, .val (.double yv), .second, .val (.ref o1), .unset] [(.ref o1)]) := fun t kt => S610 t (by
        refine XS.aload X609.here hx rfl (hb hby at_69) rfl rfl ?_
        show Steps p.tables e below (T609.setTop (mkF m 71 #[.val (.int p0), .val (.int p1), .val (.int p2), .val (.int p3), .val (.double xv), .second, .val (.double yv), .second, .val (.ref o1), .unset] [(.ref o1)])) _
        exact kt)
      clear S610
      obtain ⟨cq612, kq612, q612a, q612b, q612c⟩ := isOf hZ rfl Ex609
      obtain ⟨v612, T612, L612, X612, hQ612, st612⟩ := own_outV (X609.virtualBack hx (y := (⟨"com/example/umbel/umbel/rank/ExactSum", "value", "()D"⟩ : MethodName)) (z := (⟨"com/example/umbel/umbel/rank/ExactSum", "value", "()D"⟩ : MethodName)) hown (mvT hZ (hw _ (List.mem_of_getElem? (i := 36) rfl))) (mvT hZ (hw _ (List.mem_of_getElem? (i := 37) rfl))) (notFace_of_selects (args := #[]) (mvT hZ (hw _ (List.mem_of_getElem? (i := 39) rfl)))) (mvT hZ (hw _ (List.mem_of_getElem? (i := 39) rfl))) (mvT hZ (hw _ (List.mem_of_getElem? (i := 38) rfl))) (by decide) (backOf (W := 0) (rm_val0 l Z a0 hw [] o1 bb kb (own_L nA 0 0 0) T609.heap n0 (Nat.le_trans (Nat.le_trans (Nat.le_trans (Nat.le_trans (Nat.le_trans Z0 E553.1) K556.1) K560.1) K586.1) K609.1) Ex609 Fa609 Fb609 Fc609 Fd609 Va609 g_o1 g_bb hab) hZ (hw _ (List.mem_of_getElem? (i := 40) rfl)) (hw _ (List.mem_of_getElem? (i := 3) rfl)) (by decide) (by decide)) q612a q612c (g := (mkF m 71 #[.val (.int p0), .val (.int p1), .val (.int p2), .val (.int p3), .val (.double xv), .second, .val (.double yv), .second, .val (.ref o1), .unset] [(.ref o1)])) rfl (by rw [hml]; rfl) (Steps.refl _) (argsL := []) (rest := []) (lenOf pd___D rfl) rfl (by show 2 * 0 + _ ≤ _; exact Nat.le_of_eq rfl) (hb hby at_71) (fun _ _ => ⟨rfl, rfl, (by decide : 2 + 0 ≤ _), (by decide : 72 + 0 ≤ _)⟩))
      obtain ⟨rfl, N612q, K612, Ex612, Fa612, Fb612, Fc612, Fd612, Va612⟩ := hQ612
      have N612 := Fr.app N609 N612q
      have S613 : Go p e below s₁ (entryFrame m #[(.int p0), (.int p1), (.int p2), (.int p3)] maxLocals) T612 (mkF m 74 #[.val (.int p0), .val (.int p1), .val (.int p2), .val (.int p3), .val (.double xv), .second, .val (.double yv), .second, .val (.ref o1), .unset] [(.double (0 : UInt64))]) := fun t kt => S611 t (st612 t kt)
      clear S611 st612 X609
      have S614 : Go p e below s₁ (entryFrame m #[(.int p0), (.int p1), (.int p2), (.int p3)] maxLocals) T612 (mkF m 76 #[.val (.int p0), .val (.int p1), .val (.int p2), .val (.int p3), .val (.double xv), .second, .val (.double yv), .second, .val (.ref o1), .unset] [(.int (FP.cmpInt (-1) (FP.dcmp (0 : UInt64) (0 : UInt64))))]) := fun t kt => S613 t (by
        refine XS.dconst0 X612.here hx rfl (hb hby at_74) rfl ?_
        show Steps p.tables e below (T612.setTop (mkF m 75 #[.val (.int p0), .val (.int p1), .val (.int p2), .val (.int p3), .val (.double xv), .second, .val (.double yv), .second, .val (.ref o1), .unset] [(.double (0 : UInt64)), (.double (0 : UInt64))])) _
        refine XS.dcmpS X612.here hx rfl (hb hby at_75) rfl (cmpV_l _) ?_
        show Steps p.tables e below (T612.setTop (mkF m 76 #[.val (.int p0), .val (.int p1), .val (.int p2), .val (.int p3), .val (.double xv), .second, .val (.double yv), .second, .val (.ref o1), .unset] [(.int (FP.cmpInt (-1) (FP.dcmp (0 : UInt64) (0 : UInt64))))])) _
        exact kt)
      clear S613
      have S615 : Go p e below s₁ (entryFrame m #[(.int p0), (.int p1), (.int p2), (.int p3)] maxLocals) T612 (mkF m 90 #[.val (.int p0), .val (.int p1), .val (.int p2), .val (.int p3), .val (.double xv), .second, .val (.double yv), .second, .val (.ref o1), .val (.int (1 : Int32))] [(.double yv), (.ref o1)]) := fun t kt => S614 t (by
        refine XS.ifNo X612.here hx rfl (hb hby at_76) rfl ((if0 _ _).trans (teq (show (FP.cmpInt (-1) (FP.dcmp (0 : UInt64) (0 : UInt64))) = (0 : Int32) from (by decide +kernel))).2) ?_
        show Steps p.tables e below (T612.setTop (mkF m 79 #[.val (.int p0), .val (.int p1), .val (.int p2), .val (.int p3), .val (.double xv), .second, .val (.double yv), .second, .val (.ref o1), .unset] [])) _
        refine XS.iconst X612.here hx rfl (hb hby at_79) ?_
        show Steps p.tables e below (T612.setTop (mkF m 80 #[.val (.int p0), .val (.int p1), .val (.int p2), .val (.int p3), .val (.double xv), .second, .val (.double yv), .second, .val (.ref o1), .unset] [(.int (1 : Int32))])) _
        refine XS.goto X612.here hx rfl (pc0 := 80) (pc' := 84) rfl (hb hby at_80) (by decide) (by decide) ?_
        show Steps p.tables e below (T612.setTop (mkF m 84 #[.val (.int p0), .val (.int p1), .val (.int p2), .val (.int p3), .val (.double xv), .second, .val (.double yv), .second, .val (.ref o1), .unset] [(.int (1 : Int32))])) _
        refine XS.istore X612.here hx rfl (hb hby at_84) rfl (l' := #[.val (.int p0), .val (.int p1), .val (.int p2), .val (.int p3), .val (.double xv), .second, .val (.double yv), .second, .val (.ref o1), .val (.int (1 : Int32))]) rfl ?_
        show Steps p.tables e below (T612.setTop (mkF m 86 #[.val (.int p0), .val (.int p1), .val (.int p2), .val (.int p3), .val (.double xv), .second, .val (.double yv), .second, .val (.ref o1), .val (.int (1 : Int32))] [])) _
        refine XS.aload X612.here hx rfl (hb hby at_86) rfl rfl ?_
        show Steps p.tables e below (T612.setTop (mkF m 88 #[.val (.int p0), .val (.int p1), .val (.int p2), .val (.int p3), .val (.double xv), .second, .val (.double yv), .second, .val (.ref o1), .val (.int (1 : Int32))] [(.ref o1)])) _
        refine XS.dload X612.here hx rfl (hb hby at_88) rfl ?_
        show Steps p.tables e below (T612.setTop (mkF m 90 #[.val (.int p0), .val (.int p1), .val (.int p2), .val (.int p3), .val (.double xv), .second, .val (.double yv), .second, .val (.ref o1), .val (.int (1 : Int32))] [(.double yv), (.ref o1)])) _
        exact kt)
      clear S614
      obtain ⟨exB, sg0B, sigB, posB, liB, shB, hiB, xB, yB, zB, nB, e1B, e2B, e3B, e4B, e5B, e6B, e7B, e8B, e9B, hlB, hnB, hx0B, hy0B, hz0B, moreB⟩ := own_pack yv hPy
      have cmB := own_cmp hPy
      have Vz616 : Arv Z T612.heap bb kb .long (68 : Int32) (own_L nB 0 0 0) (.long (0 : Int64)) := by rw [own_zeroL nB hnB]; exact (own_zeroL nA hnA ▸ Va612)
      obtain ⟨cq617, kq617, q617a, q617b, q617c⟩ := isOf hZ rfl Ex612
      obtain ⟨v617, T617, L617, X617, hQ617, st617⟩ := own_outV (X612.virtualBack hx (y := (⟨"com/example/umbel/umbel/rank/ExactSum", "add", "(D)V"⟩ : MethodName)) (z := (⟨"com/example/umbel/umbel/rank/ExactSum", "add", "(D)V"⟩ : MethodName)) hown (mvT hZ (hw _ (List.mem_of_getElem? (i := 13) rfl))) (mvT hZ (hw _ (List.mem_of_getElem? (i := 14) rfl))) (notFace_of_selects (args := #[]) (mvT hZ (hw _ (List.mem_of_getElem? (i := 16) rfl)))) (mvT hZ (hw _ (List.mem_of_getElem? (i := 16) rfl))) (mvT hZ (hw _ (List.mem_of_getElem? (i := 15) rfl))) (by decide) (backOf (W := 0) (rm_add l Z a0 hw [] o1 bb kb yv exB sg0B sigB posB shB hiB liB nB xB yB zB T612.heap n0 (Nat.le_trans (Nat.le_trans (Nat.le_trans (Nat.le_trans (Nat.le_trans (Nat.le_trans Z0 E553.1) K556.1) K560.1) K586.1) K609.1) K612.1) Ex612 Fa612 Fb612 Fc612 Fd612 Vz616 g_o1 g_bb hab hlB hnB cmB.1 cmB.2.1 e1B e2B e3B e4B e5B e6B e7B e8B e9B) hZ (hw _ (List.mem_of_getElem? (i := 17) rfl)) (hw _ (List.mem_of_getElem? (i := 3) rfl)) (by decide) (by decide)) q617a q617c (g := (mkF m 90 #[.val (.int p0), .val (.int p1), .val (.int p2), .val (.int p3), .val (.double xv), .second, .val (.double yv), .second, .val (.ref o1), .val (.int (1 : Int32))] [(.double yv), (.ref o1)])) rfl (by rw [hml]; rfl) (Steps.refl _) (argsL := [(.double yv)]) (rest := []) (lenOf pd__D_V rfl) rfl (by show 2 * 0 + _ ≤ _; exact Nat.le_of_eq rfl) (hb hby at_90) (fun _ _ => ⟨rfl, rfl, (by decide : 2 + 0 ≤ _), (by decide : 72 + 0 ≤ _)⟩))
      obtain ⟨rfl, N617q, K617, Ex617, Fa617, Fb617, Fc617, Fd617, Va617⟩ := hQ617
      have N617 := Fr.app N612 N617q
      have S618 : Go p e below s₁ (entryFrame m #[(.int p0), (.int p1), (.int p2), (.int p3)] maxLocals) T617 (mkF m 93 #[.val (.int p0), .val (.int p1), .val (.int p2), .val (.int p3), .val (.double xv), .second, .val (.double yv), .second, .val (.ref o1), .val (.int (1 : Int32))] []) := fun t kt => S615 t (st617 t kt)
      clear S615 st617 X612
      have S619 : Go p e below s₁ (entryFrame m #[(.int p0), (.int p1), (.int p2), (.int p3)] maxLocals) T617 (mkF m 100 #[.val (.int p0), .val (.int p1), .val (.int p2), .val (.int p3), .val (.double xv), .second, .val (.double yv), .second, .val (.ref o1), .val (.int (1 : Int32))] [(.ref o1)]) := fun t kt => S618 t (by
        refine XS.iload X617.here hx rfl (hb hby at_93) rfl ?_
        show Steps p.tables e below (T617.setTop (mkF m 95 #[.val (.int p0), .val (.int p1), .val (.int p2), .val (.int p3), .val (.double xv), .second, .val (.double yv), .second, .val (.ref o1), .val (.int (1 : Int32))] [(.int (1 : Int32))])) _
        refine XS.ifNo X617.here hx rfl (hb hby at_95) rfl ((if0 _ _).trans (feq (show ¬ ((1 : Int32) = (0 : Int32)) from (by decide))).1) ?_
        show Steps p.tables e below (T617.setTop (mkF m 98 #[.val (.int p0), .val (.int p1), .val (.int p2), .val (.int p3), .val (.double xv), .second, .val (.double yv), .second, .val (.ref o1), .val (.int (1 : Int32))] [])) _
        refine XS.aload X617.here hx rfl (hb hby at_98) rfl rfl ?_
        show Steps p.tables e below (T617.setTop (mkF m 100 #[.val (.int p0), .val (.int p1), .val (.int p2), .val (.int p3), .val (.double xv), .second, .val (.double yv), .second, .val (.ref o1), .val (.int (1 : Int32))] [(.ref o1)])) _
        exact kt)
      clear S618
      rcases moreB with ⟨rxB, ryB, rzB, rvB⟩ | ⟨rB, kB, kqB, k32B, hposB, hppB, hp2B, hr0B, hr1B, hsgB, htopB, hkqB, hqB, hb0B, hbitsB, hsnB⟩
      · have VyB : Arv Z T617.heap bb kb .long (68 : Int32) (own_L nB 0 0 0) (.long (0 : Int64)) := by have h := Va617; rw [rxB, ryB, rzB] at h; exact h
        obtain ⟨cq620, kq620, q620a, q620b, q620c⟩ := isOf hZ rfl Ex617
        obtain ⟨v620, T620, L620, X620, hQ620, st620⟩ := own_outV (X617.virtualBack hx (y := (⟨"com/example/umbel/umbel/rank/ExactSum", "value", "()D"⟩ : MethodName)) (z := (⟨"com/example/umbel/umbel/rank/ExactSum", "value", "()D"⟩ : MethodName)) hown (mvT hZ (hw _ (List.mem_of_getElem? (i := 36) rfl))) (mvT hZ (hw _ (List.mem_of_getElem? (i := 37) rfl))) (notFace_of_selects (args := #[]) (mvT hZ (hw _ (List.mem_of_getElem? (i := 39) rfl)))) (mvT hZ (hw _ (List.mem_of_getElem? (i := 39) rfl))) (mvT hZ (hw _ (List.mem_of_getElem? (i := 38) rfl))) (by decide) (backOf (W := 0) (rm_valZ l Z a0 hw [] o1 bb kb liB nB (1 : Int32) T617.heap n0 (Nat.le_trans (Nat.le_trans (Nat.le_trans (Nat.le_trans (Nat.le_trans (Nat.le_trans (Nat.le_trans Z0 E553.1) K556.1) K560.1) K586.1) K609.1) K612.1) K617.1) Ex617 Fa617 Fb617 Fc617 Fd617 VyB g_o1 g_bb hab hlB hnB) hZ (hw _ (List.mem_of_getElem? (i := 40) rfl)) (hw _ (List.mem_of_getElem? (i := 3) rfl)) (by decide) (by decide)) q620a q620c (g := (mkF m 100 #[.val (.int p0), .val (.int p1), .val (.int p2), .val (.int p3), .val (.double xv), .second, .val (.double yv), .second, .val (.ref o1), .val (.int (1 : Int32))] [(.ref o1)])) rfl (by rw [hml]; rfl) (Steps.refl _) (argsL := []) (rest := []) (lenOf pd___D rfl) rfl (by show 2 * 0 + _ ≤ _; exact Nat.le_of_eq rfl) (hb hby at_100) (fun _ _ => ⟨rfl, rfl, (by decide : 2 + 0 ≤ _), (by decide : 72 + 0 ≤ _)⟩))
        obtain ⟨rfl, N620q, K620, Ex620, Fa620, Fb620, Fc620, Fd620, Va620⟩ := hQ620
        have N620 := Fr.app N617 N620q
        have S621 : Go p e below s₁ (entryFrame m #[(.int p0), (.int p1), (.int p2), (.int p3)] maxLocals) T620 (mkF m 103 #[.val (.int p0), .val (.int p1), .val (.int p2), .val (.int p3), .val (.double xv), .second, .val (.double yv), .second, .val (.ref o1), .val (.int (1 : Int32))] [(.double (0 : UInt64))]) := fun t kt => S619 t (st620 t kt)
        clear S619 st620 X617
        have S624 : Go p e below s₁ (entryFrame m #[(.int p0), (.int p1), (.int p2), (.int p3)] maxLocals) T620 (mkF m 106 #[.val (.int p0), .val (.int p1), .val (.int p2), .val (.int p3), .val (.double xv), .second, .val (.double yv), .second, .val (.ref o1), .val (.int (1 : Int32))] [(.int (FP.cmpInt (-1) (FP.dcmp (0 : UInt64) yv)))]) := fun t kt => S621 t (by
          refine XS.dload X620.here hx rfl (hb hby at_103) rfl ?_
          show Steps p.tables e below (T620.setTop (mkF m 105 #[.val (.int p0), .val (.int p1), .val (.int p2), .val (.int p3), .val (.double xv), .second, .val (.double yv), .second, .val (.ref o1), .val (.int (1 : Int32))] [(.double yv), (.double (0 : UInt64))])) _
          refine XS.dcmpS X620.here hx rfl (hb hby at_105) rfl (cmpV_l _) ?_
          show Steps p.tables e below (T620.setTop (mkF m 106 #[.val (.int p0), .val (.int p1), .val (.int p2), .val (.int p3), .val (.double xv), .second, .val (.double yv), .second, .val (.ref o1), .val (.int (1 : Int32))] [(.int (FP.cmpInt (-1) (FP.dcmp (0 : UInt64) yv)))])) _
          exact kt)
        clear S621
        have S625 : Go p e below s₁ (entryFrame m #[(.int p0), (.int p1), (.int p2), (.int p3)] maxLocals) T620 (mkF m 114 #[.val (.int p0), .val (.int p1), .val (.int p2), .val (.int p3), .val (.double xv), .second, .val (.double yv), .second, .val (.ref o1), .val (.int (1 : Int32))] [(.int (1 : Int32))]) := fun t kt => S624 t (by
          refine XS.ifNo X620.here hx rfl (hb hby at_106) rfl ((if0 _ _).trans (teq (show (FP.cmpInt (-1) (FP.dcmp (0 : UInt64) yv)) = (0 : Int32) from (by rw [rvB]; decide +kernel))).2) ?_
          show Steps p.tables e below (T620.setTop (mkF m 109 #[.val (.int p0), .val (.int p1), .val (.int p2), .val (.int p3), .val (.double xv), .second, .val (.double yv), .second, .val (.ref o1), .val (.int (1 : Int32))] [])) _
          refine XS.iconst X620.here hx rfl (hb hby at_109) ?_
          show Steps p.tables e below (T620.setTop (mkF m 110 #[.val (.int p0), .val (.int p1), .val (.int p2), .val (.int p3), .val (.double xv), .second, .val (.double yv), .second, .val (.ref o1), .val (.int (1 : Int32))] [(.int (1 : Int32))])) _
          refine XS.goto X620.here hx rfl (pc0 := 110) (pc' := 114) rfl (hb hby at_110) (by decide) (by decide) ?_
          show Steps p.tables e below (T620.setTop (mkF m 114 #[.val (.int p0), .val (.int p1), .val (.int p2), .val (.int p3), .val (.double xv), .second, .val (.double yv), .second, .val (.ref o1), .val (.int (1 : Int32))] [(.int (1 : Int32))])) _
          exact kt)
        clear S624
        obtain ⟨fs, hr, hrun, hended, hW, hsame⟩ := X620.leave (v := some (.int (1 : Int32))) (fun h => by first | rfl | (rw [Bd.returns] at h; cases h))
        refine ⟨_, _, S625 _ ?_, hrun, hended, _, _, rfl, ?_, ⟨_, rfl⟩, hW, hsame.mono (by decide) (by decide)⟩
        · exact retN X620 hx (t := .boolean) Bd.returns (by simp) (hb hby at_114) hr
        · show Q_law Z p0 p1 p2 p3 h0 n0 _ T620.heap _
          exact ⟨rfl, N620⟩
      · obtain ⟨cq622, kq622, q622a, q622b, q622c⟩ := isOf hZ rfl Ex617
        obtain ⟨v622, T622, L622, X622, hQ622, st622⟩ := own_outV (X617.virtualBack hx (y := (⟨"com/example/umbel/umbel/rank/ExactSum", "value", "()D"⟩ : MethodName)) (z := (⟨"com/example/umbel/umbel/rank/ExactSum", "value", "()D"⟩ : MethodName)) hown (mvT hZ (hw _ (List.mem_of_getElem? (i := 36) rfl))) (mvT hZ (hw _ (List.mem_of_getElem? (i := 37) rfl))) (notFace_of_selects (args := #[]) (mvT hZ (hw _ (List.mem_of_getElem? (i := 39) rfl)))) (mvT hZ (hw _ (List.mem_of_getElem? (i := 39) rfl))) (mvT hZ (hw _ (List.mem_of_getElem? (i := 38) rfl))) (by decide) (backOf (W := 0) (rm_val l Z a0 hw [] o1 bb kb liB nB xB yB zB (1 : Int32) posB shB sigB rB kB kqB yv T617.heap n0 (Nat.le_trans (Nat.le_trans (Nat.le_trans (Nat.le_trans (Nat.le_trans (Nat.le_trans (Nat.le_trans Z0 E553.1) K556.1) K560.1) K586.1) K609.1) K612.1) K617.1) Ex617 Fa617 Fb617 Fc617 Fd617 Va617 g_o1 g_bb hab hlB hnB hx0B hy0B hz0B e4B e5B k32B hposB hppB hp2B hr0B hr1B hsgB htopB hkqB hqB hb0B hbitsB hsnB) hZ (hw _ (List.mem_of_getElem? (i := 40) rfl)) (hw _ (List.mem_of_getElem? (i := 3) rfl)) (by decide) (by decide)) q622a q622c (g := (mkF m 100 #[.val (.int p0), .val (.int p1), .val (.int p2), .val (.int p3), .val (.double xv), .second, .val (.double yv), .second, .val (.ref o1), .val (.int (1 : Int32))] [(.ref o1)])) rfl (by rw [hml]; rfl) (Steps.refl _) (argsL := []) (rest := []) (lenOf pd___D rfl) rfl (by show 2 * 0 + _ ≤ _; exact Nat.le_of_eq rfl) (hb hby at_100) (fun _ _ => ⟨rfl, rfl, (by decide : 2 + 0 ≤ _), (by decide : 72 + 0 ≤ _)⟩))
        obtain ⟨rfl, N622q, K622, Ex622, Fa622, Fb622, Fc622, Fd622, Va622⟩ := hQ622
        have N622 := Fr.app N617 N622q
        have S623 : Go p e below s₁ (entryFrame m #[(.int p0), (.int p1), (.int p2), (.int p3)] maxLocals) T622 (mkF m 103 #[.val (.int p0), .val (.int p1), .val (.int p2), .val (.int p3), .val (.double xv), .second, .val (.double yv), .second, .val (.ref o1), .val (.int (1 : Int32))] [(.double yv)]) := fun t kt => S619 t (st622 t kt)
        clear S619 st622 X617
        have S626 : Go p e below s₁ (entryFrame m #[(.int p0), (.int p1), (.int p2), (.int p3)] maxLocals) T622 (mkF m 106 #[.val (.int p0), .val (.int p1), .val (.int p2), .val (.int p3), .val (.double xv), .second, .val (.double yv), .second, .val (.ref o1), .val (.int (1 : Int32))] [(.int (FP.cmpInt (-1) (FP.dcmp yv yv)))]) := fun t kt => S623 t (by
          refine XS.dload X622.here hx rfl (hb hby at_103) rfl ?_
          show Steps p.tables e below (T622.setTop (mkF m 105 #[.val (.int p0), .val (.int p1), .val (.int p2), .val (.int p3), .val (.double xv), .second, .val (.double yv), .second, .val (.ref o1), .val (.int (1 : Int32))] [(.double yv), (.double yv)])) _
          refine XS.dcmpS X622.here hx rfl (hb hby at_105) rfl (cmpV_l _) ?_
          show Steps p.tables e below (T622.setTop (mkF m 106 #[.val (.int p0), .val (.int p1), .val (.int p2), .val (.int p3), .val (.double xv), .second, .val (.double yv), .second, .val (.ref o1), .val (.int (1 : Int32))] [(.int (FP.cmpInt (-1) (FP.dcmp yv yv)))])) _
          exact kt)
        clear S623
        have S627 : Go p e below s₁ (entryFrame m #[(.int p0), (.int p1), (.int p2), (.int p3)] maxLocals) T622 (mkF m 114 #[.val (.int p0), .val (.int p1), .val (.int p2), .val (.int p3), .val (.double xv), .second, .val (.double yv), .second, .val (.ref o1), .val (.int (1 : Int32))] [(.int (1 : Int32))]) := fun t kt => S626 t (by
          refine XS.ifNo X622.here hx rfl (hb hby at_106) rfl ((if0 _ _).trans (teq (show (FP.cmpInt (-1) (FP.dcmp yv yv)) = (0 : Int32) from (by rw [cmB.2.2]; rfl))).2) ?_
          show Steps p.tables e below (T622.setTop (mkF m 109 #[.val (.int p0), .val (.int p1), .val (.int p2), .val (.int p3), .val (.double xv), .second, .val (.double yv), .second, .val (.ref o1), .val (.int (1 : Int32))] [])) _
          refine XS.iconst X622.here hx rfl (hb hby at_109) ?_
          show Steps p.tables e below (T622.setTop (mkF m 110 #[.val (.int p0), .val (.int p1), .val (.int p2), .val (.int p3), .val (.double xv), .second, .val (.double yv), .second, .val (.ref o1), .val (.int (1 : Int32))] [(.int (1 : Int32))])) _
          refine XS.goto X622.here hx rfl (pc0 := 110) (pc' := 114) rfl (hb hby at_110) (by decide) (by decide) ?_
          show Steps p.tables e below (T622.setTop (mkF m 114 #[.val (.int p0), .val (.int p1), .val (.int p2), .val (.int p3), .val (.double xv), .second, .val (.double yv), .second, .val (.ref o1), .val (.int (1 : Int32))] [(.int (1 : Int32))])) _
          exact kt)
        clear S626
        obtain ⟨fs, hr, hrun, hended, hW, hsame⟩ := X622.leave (v := some (.int (1 : Int32))) (fun h => by first | rfl | (rw [Bd.returns] at h; cases h))
        refine ⟨_, _, S627 _ ?_, hrun, hended, _, _, rfl, ?_, ⟨_, rfl⟩, hW, hsame.mono (by decide) (by decide)⟩
        · exact retN X622 hx (t := .boolean) Bd.returns (by simp) (hb hby at_114) hr
        · show Q_law Z p0 p1 p2 p3 h0 n0 _ T622.heap _
          exact ⟨rfl, N622⟩
set_option maxRecDepth 65536 in
set_option maxHeartbeats 40000000 in
theorem comes_1 {Post : Tables → Env → Array Value → State → Outcome → State → Prop} (hpost : ∀ tb e args s v u, (limb_1_1.after args s (.returned v) u = true ∧ limb_1_2.after args s (.returned v) u = true ∧ True) → FrameEnd s (.returned v) u (Jvm.fieldLocs frame_1_writes args s ++ Jvm.arrayLocs frame_1_arrays args s ++ Jvm.staticLocs frame_1_statics s) 16 256 → Post tb e args s (.returned v) u) :
    ArmFor flags0 classFile x code maxLocals ret World_1 tables_1 room_1 Calls_1 rest_1 Pre_1 Post := by
  intro l hfl _ _ p e ha hc hk s m args below hf hA hF happ hP
  obtain ⟨hcalls, hrest, hpre⟩ := hP
  obtain ⟨-, -, -, hnamed, -, -, -, hat⟩ := (Spec.applies_iff hf).mp happ
  obtain ⟨hg, hn⟩ := and_e (Cond.before_iff.mp (show (Jvm.Cond.and given_1 narrow_1).before args s = true from hpre))
  obtain ⟨hcount, r0⟩ := and_e hg
  obtain ⟨v0, r1⟩ := and_e r0
  obtain ⟨v1, r2⟩ := and_e r1
  obtain ⟨v2, r3⟩ := and_e r2
  obtain ⟨w0, w1, w2, w3, rfl⟩ : ∃ w0 w1 w2 w3 : Value, args = #[w0, w1, w2, w3] := by
    have hs : args.size = 4 := by simpa [Cond.value, given_1] using hcount
    obtain ⟨L⟩ := args
    match L, hs with
    | [w0, w1, w2, w3], _ => exact ⟨w0, w1, w2, w3, rfl⟩
  have hw := fun d (hd : d ∈ tables_1) => atoms_spec (ws := Jvm.Cond.code x code maxLocals ret :: tables_1) hat d (List.mem_cons_of_mem _ hd)
  have hfit : Fit s := fun {y c} hc i hi => by
    obtain ⟨ha, rfl⟩ := Array.getElem?_eq_some_iff.mp hc
    have q := List.all_eq_true.mp ((Array.all_eq_true_iff_forall_mem.mp hF) _ (Array.getElem_mem ha)) i (List.mem_range.mpr hi)
    simpa [Array.getElem?_eq_getElem hi] using q
  obtain ⟨i0, ei0⟩ := is_v v0
  obtain rfl : w0 = (.int i0) := Option.some.inj ei0
  obtain ⟨i1, ei1⟩ := is_v v1
  obtain rfl : w1 = (.int i1) := Option.some.inj ei1
  obtain ⟨i2, ei2⟩ := is_v v2
  obtain rfl : w2 = (.int i2) := Option.some.inj ei2
  obtain ⟨i3, ei3⟩ := is_v r3
  obtain rfl : w3 = (.int i3) := Option.some.inj ei3
  obtain ⟨n, o, h1, h2, h3, _, L, rfl, ⟨rfl, N⟩, hq⟩ := rm_law l s _ hw tables_1 i0 i1 i2 i3 s.heap s.heap.size (Nat.le_refl _)  p e ha hc hk s m _ below hf ((Spec.applies_iff_loose hf).mp happ).1 ⟨rfl, State.Warmed39.refl s, rfl⟩ trivial
  refine ⟨n, _, h1, h2, h3, hpost _ _ _ _ _ _ ⟨Cond.after_iff.mpr rfl, Cond.after_iff.mpr (eq_i res_at (Term.int_eval (1)) rfl), trivial⟩ ⟨hq.1, hq.2.1, (hq.2.2.sift fun y hy => Or.inr (N y hy)).mono (by decide) (by decide)⟩⟩
theorem main_1_1 : Claimed_1_1 := comes_1 fun _ _ _ _ _ _ h hF => ⟨h.1, hF⟩
theorem main_1_2 : Claimed_1_2 := comes_1 fun _ _ _ _ _ _ h hF => ⟨h.2.1, hF⟩
end Jvm.Pilot.@@N@@
namespace Jvm.Pilot.@@N@@
open Jvm Jvm.ClassFile Sem Op Lib Jvm.Free Jvm.Stand Jvm.Pilot.@@N@@.Jvm.D
/-! MADE BY PROGRAM (witnessworld.py) out of the Statement's table words and the real class files: 20 classes; the members and pool entries that the words name. The judged class is class 1, her method 1. -/
namespace start1
open Jvm.ClassFile
def u (s : String) : CpInfo := .utf8 (stringToUtf16 s)
/-- a pool by its gaps: so many unusable entries, then the entry; so many at the end -/
def gap : Nat → List CpInfo → List CpInfo
  | 0, r => r
  | n + 1, r => .unusable :: gap n r
def poolList (es : List (Nat × CpInfo)) (last : Nat) : List CpInfo := es.foldr (fun e r => gap e.1 (e.2 :: r)) (gap last [])
def pool (es : List (Nat × CpInfo)) (last : Nat) : Array CpInfo := ⟨poolList es last⟩
def fileOf (pool : Array CpInfo) (this : Nat) (attrs : Array Attribute := #[]) (ms : Array MethodInfo := #[]) (fl : Nat := 33) (sup : Nat := 0) (ifs : Array Nat := #[]) (fds : Array FieldInfo := #[]) : ClassFile where
  minorVersion := 0
  majorVersion := 65
  constantPool := pool
  accessFlags := fl
  thisClass := this
  superClass := sup
  interfaces := ifs
  fields := fds
  methods := ms
  attributes := attrs
def plain (name : String) (sup : Option ClassId) : Class where
  name := name
  kind := .ordinary
  loader := none
  accessFlags := 33
  super := sup
  interfaces := #[]
  cf := none
  fields := #[]
  methods := #[]
  instanceTypes := #[]
  staticTypes := #[]
  resolved := #[]
  callSites := []
  init := .initialized
  statics := none
  mirror := none

def pool0 : Array CpInfo := pool [(5, u "<init>"), (0, u "()V"), (1, .class_ 10), (1, u "java/lang/Object")] 113

def k0c0 : Code := { maxStack := 0, maxLocals := 1, code := object_method_1_code, exceptionTable := #[], attributes := #[] }
def k0m0 : Method := { name := "<init>", desc := "()V", sig := { parameters := [], returnType := none }, accessFlags := 1, code := some k0c0 }
/-- java/lang/Object -/
def k0 : Class := { plain "java/lang/Object" none with
  accessFlags := 33
  interfaces := #[]
  cf := some (fileOf pool0 8 #[] #[{ accessFlags := 1, nameIndex := 5, descriptorIndex := 6, attributes := #[] }] 33 0 #[] #[])
  fields := #[]
  methods := #[k0m0]
  instanceTypes := #[]
  staticTypes := #[]
  resolved := Array.replicate 124 none
  statics := none }

def pool1 : Array CpInfo := pool [(2, .class_ 4), (0, .nameAndType 5 6), (0, u "java/lang/Object"), (0, u "<init>"), (0, u "()V"), (0, .integer 2147483647), (0, .class_ 9), (0, u "com/example/umbel/umbel/rank/ExactSum"), (0, .methodref 8 3), (0, .methodref 8 12), (0, .nameAndType 13 14), (0, u "add"), (0, u "(D)V"), (0, .methodref 8 16), (0, .nameAndType 17 18), (0, u "value"), (0, u "()D"), (0, .methodref 8 20), (0, .nameAndType 21 6), (0, u "clear"), (0, .class_ 23), (0, u "com/example/umbel/umbel/rank/ExactSumClearPinLaw"), (2, u "law"), (0, u "(IIII)Z")] 3

def k1m0 : Method := { name := "<init>", desc := "()V", sig := { parameters := [], returnType := none }, accessFlags := 1, code := none }
def k1c1 : Code := { maxStack := 4, maxLocals := 10, code := code, exceptionTable := #[], attributes := #[] }
def k1m1 : Method := { name := "law", desc := "(IIII)Z", sig := { parameters := [.int, .int, .int, .int], returnType := some .boolean }, accessFlags := 9, code := some k1c1 }
/-- com/example/umbel/umbel/rank/ExactSumClearPinLaw -/
def k1 : Class := { plain "com/example/umbel/umbel/rank/ExactSumClearPinLaw" (some 0) with
  accessFlags := 49
  interfaces := #[]
  cf := some (fileOf pool1 22 #[] #[{ accessFlags := 1, nameIndex := 5, descriptorIndex := 6, attributes := #[] }, { accessFlags := 9, nameIndex := 26, descriptorIndex := 27, attributes := #[] }] 49 2 #[] #[])
  fields := #[]
  methods := #[k1m0, k1m1]
  instanceTypes := #[]
  staticTypes := #[]
  resolved := Array.replicate 31 none
  statics := none }

def pool2 : Array CpInfo := pool [(1, .class_ 2), (0, u "com/example/umbel/umbel/rank/ExactSum"), (0, .methodref 4 5), (0, .class_ 6), (0, .nameAndType 7 8), (0, u "java/lang/Object"), (0, u "<init>"), (0, u "()V"), (0, .fieldref 1 10), (0, .nameAndType 11 12), (0, u "limbs"), (0, u "[J"), (0, .class_ 14), (0, u "java/lang/Double"), (0, .double 9218868437227405312), (10, .methodref 13 27), (0, .nameAndType 28 29), (0, u "doubleToRawLongBits"), (0, u "(D)J"), (0, .long 4503599627370495), (1, .long 4503599627370496), (1, .class_ 35), (0, u "java/lang/Long"), (0, .long 4294967295), (1, .methodref 1 39), (0, .nameAndType 40 41), (0, u "cover"), (0, u "(II)V"), (0, .fieldref 1 43), (0, .nameAndType 44 45), (0, u "pending"), (0, u "I"), (0, .integer 1073741824), (0, .methodref 1 48), (0, .nameAndType 49 8), (0, u "carry"), (0, .fieldref 1 51), (0, .nameAndType 52 45), (0, u "from"), (0, .fieldref 1 54), (0, .nameAndType 55 45), (0, u "to"), (0, .methodref 57 58), (0, .class_ 59), (0, .nameAndType 60 61), (0, u "java/util/Arrays"), (0, u "fill"), (0, u "([JIIJ)V"), (0, .methodref 34 63), (0, .nameAndType 64 65), (0, u "numberOfLeadingZeros"), (0, u "(J)I"), (0, .methodref 67 68), (0, .class_ 69), (0, .nameAndType 70 71), (0, u "java/lang/Math"), (0, u "max"), (0, u "(II)I"), (0, .methodref 1 73), (0, .nameAndType 74 75), (0, u "bitsFrom"), (0, u "(I)J"), (0, .long 9007199254740991), (1, .methodref 1 79), (0, .nameAndType 80 81), (0, u "bit"), (0, u "(I)Z"), (3, .long 9007199254740992), (1, .methodref 13 88), (0, .nameAndType 89 90), (0, u "longBitsToDouble"), (0, u "(J)D"), (23, u "clear"), (6, .methodref 1 122), (0, .nameAndType 123 75), (0, u "limb"), (0, u "LIMB_BITS"), (2, u "LIMB_MASK"), (0, u "J"), (0, u "SIGNIFICAND_BITS"), (1, u "LIMBS"), (1, u "MAX_PENDING"), (2, u "add"), (0, u "(D)V"), (2, u "value"), (0, u "()D")] 24

def k2c0 : Code := { maxStack := 2, maxLocals := 1, code := prog_6_method_1_code, exceptionTable := #[], attributes := #[] }
def k2m0 : Method := { name := "<init>", desc := "()V", sig := { parameters := [], returnType := none }, accessFlags := 1, code := some k2c0 }
def k2c1 : Code := { maxStack := 8, maxLocals := 15, code := prog_6_method_2_code, exceptionTable := #[], attributes := #[] }
def k2m1 : Method := { name := "add", desc := "(D)V", sig := { parameters := [.double], returnType := none }, accessFlags := 1, code := some k2c1 }
def k2c2 : Code := { maxStack := 5, maxLocals := 1, code := prog_6_method_4_code, exceptionTable := #[], attributes := #[] }
def k2m2 : Method := { name := "clear", desc := "()V", sig := { parameters := [], returnType := none }, accessFlags := 1, code := some k2c2 }
def k2c3 : Code := { maxStack := 4, maxLocals := 6, code := prog_6_method_5_code, exceptionTable := #[], attributes := #[] }
def k2m3 : Method := { name := "value", desc := "()D", sig := { parameters := [], returnType := some .double }, accessFlags := 1, code := some k2c3 }
def k2c4 : Code := { maxStack := 6, maxLocals := 6, code := prog_6_method_8_code, exceptionTable := #[], attributes := #[] }
def k2m4 : Method := { name := "carry", desc := "()V", sig := { parameters := [], returnType := none }, accessFlags := 2, code := some k2c4 }
def k2c5 : Code := { maxStack := 3, maxLocals := 3, code := prog_6_method_9_code, exceptionTable := #[], attributes := #[] }
def k2m5 : Method := { name := "cover", desc := "(II)V", sig := { parameters := [.int, .int], returnType := none }, accessFlags := 2, code := some k2c5 }
def k2c6 : Code := { maxStack := 6, maxLocals := 6, code := prog_6_method_10_code, exceptionTable := #[], attributes := #[] }
def k2m6 : Method := { name := "bitsFrom", desc := "(I)J", sig := { parameters := [.int], returnType := some .long }, accessFlags := 2, code := some k2c6 }
def k2c7 : Code := { maxStack := 4, maxLocals := 2, code := prog_6_method_11_code, exceptionTable := #[], attributes := #[] }
def k2m7 : Method := { name := "bit", desc := "(I)Z", sig := { parameters := [.int], returnType := some .boolean }, accessFlags := 2, code := some k2c7 }
def k2c8 : Code := { maxStack := 2, maxLocals := 2, code := prog_6_method_13_code, exceptionTable := #[], attributes := #[] }
def k2m8 : Method := { name := "limb", desc := "(I)J", sig := { parameters := [.int], returnType := some .long }, accessFlags := 2, code := some k2c8 }
/-- com/example/umbel/umbel/rank/ExactSum -/
def k2 : Class := { plain "com/example/umbel/umbel/rank/ExactSum" (some 0) with
  accessFlags := 49
  interfaces := #[]
  cf := some (fileOf pool2 1 #[] #[{ accessFlags := 1, nameIndex := 7, descriptorIndex := 8, attributes := #[] }, { accessFlags := 1, nameIndex := 136, descriptorIndex := 137, attributes := #[] }, { accessFlags := 1, nameIndex := 114, descriptorIndex := 8, attributes := #[] }, { accessFlags := 1, nameIndex := 140, descriptorIndex := 141, attributes := #[] }, { accessFlags := 2, nameIndex := 49, descriptorIndex := 8, attributes := #[] }, { accessFlags := 2, nameIndex := 40, descriptorIndex := 41, attributes := #[] }, { accessFlags := 2, nameIndex := 74, descriptorIndex := 75, attributes := #[] }, { accessFlags := 2, nameIndex := 80, descriptorIndex := 81, attributes := #[] }, { accessFlags := 2, nameIndex := 123, descriptorIndex := 75, attributes := #[] }] 49 4 #[] #[{ accessFlags := 26, nameIndex := 124, descriptorIndex := 45, attributes := #[] }, { accessFlags := 26, nameIndex := 127, descriptorIndex := 128, attributes := #[] }, { accessFlags := 26, nameIndex := 129, descriptorIndex := 45, attributes := #[] }, { accessFlags := 26, nameIndex := 131, descriptorIndex := 45, attributes := #[] }, { accessFlags := 26, nameIndex := 133, descriptorIndex := 45, attributes := #[] }, { accessFlags := 18, nameIndex := 11, descriptorIndex := 12, attributes := #[] }, { accessFlags := 2, nameIndex := 52, descriptorIndex := 45, attributes := #[] }, { accessFlags := 2, nameIndex := 55, descriptorIndex := 45, attributes := #[] }, { accessFlags := 2, nameIndex := 44, descriptorIndex := 45, attributes := #[] }])
  fields := #[{ name := "LIMB_BITS", type := .int, accessFlags := 26, slot := 0, constantValue := 0 }, { name := "LIMB_MASK", type := .long, accessFlags := 26, slot := 1, constantValue := 0 }, { name := "SIGNIFICAND_BITS", type := .int, accessFlags := 26, slot := 2, constantValue := 0 }, { name := "LIMBS", type := .int, accessFlags := 26, slot := 3, constantValue := 0 }, { name := "MAX_PENDING", type := .int, accessFlags := 26, slot := 4, constantValue := 0 }, { name := "limbs", type := (.array .long), accessFlags := 18, slot := 0, constantValue := 0 }, { name := "from", type := .int, accessFlags := 2, slot := 1, constantValue := 0 }, { name := "to", type := .int, accessFlags := 2, slot := 2, constantValue := 0 }, { name := "pending", type := .int, accessFlags := 2, slot := 3, constantValue := 0 }]
  methods := #[k2m0, k2m1, k2m2, k2m3, k2m4, k2m5, k2m6, k2m7, k2m8]
  instanceTypes := #[(.array .long), .int, .int, .int]
  staticTypes := #[.int, .long, .int, .int, .int]
  resolved := Array.replicate 166 none
  statics := none }

def pool3 : Array CpInfo := pool [(1, .class_ 2), (0, u "java/io/Serializable"), (0, .class_ 4), (0, u "java/lang/Object")] 2

/-- java/io/Serializable -/
def k3 : Class := { plain "java/io/Serializable" (some 0) with
  accessFlags := 1537
  interfaces := #[]
  cf := some (fileOf pool3 1 #[] #[] 1537 3 #[] #[])
  fields := #[]
  methods := #[]
  instanceTypes := #[]
  staticTypes := #[]
  resolved := Array.replicate 7 none
  statics := none }

def pool4 : Array CpInfo := pool [(2, .class_ 4), (1, u "java/lang/Object"), (0, u "<init>"), (0, u "()V"), (1, .class_ 10), (1, u "java/lang/Number"), (2, .class_ 14), (0, u "java/io/Serializable"), (0, u "serialVersionUID"), (0, u "J")] 20

def k4m0 : Method := { name := "<init>", desc := "()V", sig := { parameters := [], returnType := none }, accessFlags := 1, code := none }
/-- java/lang/Number -/
def k4 : Class := { plain "java/lang/Number" (some 0) with
  accessFlags := 1057
  interfaces := #[3]
  cf := some (fileOf pool4 8 #[] #[{ accessFlags := 1, nameIndex := 5, descriptorIndex := 6, attributes := #[] }] 1057 2 #[13] #[{ accessFlags := 26, nameIndex := 15, descriptorIndex := 16, attributes := #[] }])
  fields := #[{ name := "serialVersionUID", type := .long, accessFlags := 26, slot := 0, constantValue := 0 }]
  methods := #[k4m0]
  instanceTypes := #[]
  staticTypes := #[.long]
  resolved := Array.replicate 37 none
  statics := none }

def pool5 : Array CpInfo := pool [(1, .class_ 2), (0, u "java/lang/Comparable"), (0, .class_ 4), (0, u "java/lang/Object")] 7

/-- java/lang/Comparable -/
def k5 : Class := { plain "java/lang/Comparable" (some 0) with
  accessFlags := 1537
  interfaces := #[]
  cf := some (fileOf pool5 1 #[] #[] 1537 3 #[] #[])
  fields := #[]
  methods := #[]
  instanceTypes := #[]
  staticTypes := #[]
  resolved := Array.replicate 12 none
  statics := none }

def pool6 : Array CpInfo := pool [(1, .class_ 2), (0, u "java/lang/constant/Constable"), (0, .class_ 4), (0, u "java/lang/Object")] 6

/-- java/lang/constant/Constable -/
def k6 : Class := { plain "java/lang/constant/Constable" (some 0) with
  accessFlags := 1537
  interfaces := #[]
  cf := some (fileOf pool6 1 #[] #[] 1537 3 #[] #[])
  fields := #[]
  methods := #[]
  instanceTypes := #[]
  staticTypes := #[]
  resolved := Array.replicate 11 none
  statics := none }

def pool7 : Array CpInfo := pool [(1, .class_ 2), (0, u "java/lang/constant/ConstantDesc"), (0, .class_ 4), (0, u "java/lang/Object")] 32

/-- java/lang/constant/ConstantDesc -/
def k7 : Class := { plain "java/lang/constant/ConstantDesc" (some 0) with
  accessFlags := 1537
  interfaces := #[]
  cf := some (fileOf pool7 1 #[] #[] 1537 3 #[] #[])
  fields := #[]
  methods := #[]
  instanceTypes := #[]
  staticTypes := #[]
  resolved := Array.replicate 37 none
  statics := none }

def pool8 : Array CpInfo := pool [(1, .class_ 2), (0, u "java/lang/Double"), (46, u "(D)J"), (64, .class_ 116), (1, u "java/lang/Number"), (3, u "value"), (0, u "D"), (14, u "doubleToRawLongBits"), (36, u "TYPE"), (0, u "Ljava/lang/Class;"), (0, .class_ 176), (0, u "java/lang/Comparable"), (0, .class_ 178), (0, u "java/lang/constant/Constable"), (0, .class_ 180), (0, u "java/lang/constant/ConstantDesc"), (0, u "POSITIVE_INFINITY"), (3, u "NEGATIVE_INFINITY"), (2, u "NaN"), (2, u "MAX_VALUE"), (0, u "MIN_NORMAL"), (0, u "MIN_VALUE"), (2, u "SIZE"), (0, u "I"), (1, u "PRECISION"), (1, u "MAX_EXPONENT"), (1, u "MIN_EXPONENT"), (1, u "BYTES"), (3, u "serialVersionUID"), (0, u "J"), (48, u "longBitsToDouble"), (0, u "(J)D")] 29

def k8m0 : Method := { name := "doubleToRawLongBits", desc := "(D)J", sig := { parameters := [.double], returnType := some .long }, accessFlags := 265, code := none }
def k8m1 : Method := { name := "longBitsToDouble", desc := "(J)D", sig := { parameters := [.long], returnType := some .double }, accessFlags := 265, code := none }
/-- java/lang/Double -/
def k8 : Class := { plain "java/lang/Double" (some 4) with
  accessFlags := 49
  interfaces := #[5, 6, 7]
  cf := some (fileOf pool8 1 #[] #[{ accessFlags := 265, nameIndex := 136, descriptorIndex := 49, attributes := #[] }, { accessFlags := 265, nameIndex := 259, descriptorIndex := 260, attributes := #[] }] 49 114 #[175, 177, 179] #[{ accessFlags := 25, nameIndex := 181, descriptorIndex := 121, attributes := #[] }, { accessFlags := 25, nameIndex := 185, descriptorIndex := 121, attributes := #[] }, { accessFlags := 25, nameIndex := 188, descriptorIndex := 121, attributes := #[] }, { accessFlags := 25, nameIndex := 191, descriptorIndex := 121, attributes := #[] }, { accessFlags := 25, nameIndex := 192, descriptorIndex := 121, attributes := #[] }, { accessFlags := 25, nameIndex := 193, descriptorIndex := 121, attributes := #[] }, { accessFlags := 25, nameIndex := 196, descriptorIndex := 197, attributes := #[] }, { accessFlags := 25, nameIndex := 199, descriptorIndex := 197, attributes := #[] }, { accessFlags := 25, nameIndex := 201, descriptorIndex := 197, attributes := #[] }, { accessFlags := 25, nameIndex := 203, descriptorIndex := 197, attributes := #[] }, { accessFlags := 25, nameIndex := 205, descriptorIndex := 197, attributes := #[] }, { accessFlags := 25, nameIndex := 173, descriptorIndex := 174, attributes := #[] }, { accessFlags := 18, nameIndex := 120, descriptorIndex := 121, attributes := #[] }, { accessFlags := 26, nameIndex := 209, descriptorIndex := 210, attributes := #[] }])
  fields := #[{ name := "POSITIVE_INFINITY", type := .double, accessFlags := 25, slot := 0, constantValue := 0 }, { name := "NEGATIVE_INFINITY", type := .double, accessFlags := 25, slot := 1, constantValue := 0 }, { name := "NaN", type := .double, accessFlags := 25, slot := 2, constantValue := 0 }, { name := "MAX_VALUE", type := .double, accessFlags := 25, slot := 3, constantValue := 0 }, { name := "MIN_NORMAL", type := .double, accessFlags := 25, slot := 4, constantValue := 0 }, { name := "MIN_VALUE", type := .double, accessFlags := 25, slot := 5, constantValue := 0 }, { name := "SIZE", type := .int, accessFlags := 25, slot := 6, constantValue := 0 }, { name := "PRECISION", type := .int, accessFlags := 25, slot := 7, constantValue := 0 }, { name := "MAX_EXPONENT", type := .int, accessFlags := 25, slot := 8, constantValue := 0 }, { name := "MIN_EXPONENT", type := .int, accessFlags := 25, slot := 9, constantValue := 0 }, { name := "BYTES", type := .int, accessFlags := 25, slot := 10, constantValue := 0 }, { name := "TYPE", type := (.object "java/lang/Class"), accessFlags := 25, slot := 11, constantValue := 0 }, { name := "value", type := .double, accessFlags := 18, slot := 0, constantValue := 0 }, { name := "serialVersionUID", type := .long, accessFlags := 26, slot := 12, constantValue := 0 }]
  methods := #[k8m0, k8m1]
  instanceTypes := #[.double]
  staticTypes := #[.double, .double, .double, .double, .double, .double, .int, .int, .int, .int, .int, (.object "java/lang/Class"), .long]
  resolved := Array.replicate 290 none
  statics := none }

def pool9 : Array CpInfo := pool [(2, .class_ 4), (1, u "java/lang/Object"), (0, u "<init>"), (0, u "()V"), (6, .methodref 14 15), (0, .class_ 16), (0, .nameAndType 17 18), (0, u "java/util/Arrays"), (0, u "rangeCheck"), (0, u "(III)V"), (55, .class_ 76), (1, u "java/util/Arrays$NaturalOrder"), (36, .class_ 115), (1, u "java/util/Arrays$LegacyMergeSort"), (1, u "Z"), (257, .class_ 376), (0, u "java/util/Arrays$ArrayList"), (68, u "$assertionsDisabled"), (269, u "MIN_ARRAY_SORT_GRAN"), (0, u "I"), (2, u "INSERTIONSORT_THRESHOLD"), (120, u "fill"), (3, u "([JIIJ)V"), (130, .class_ 976), (0, u "java/util/Arrays$ArrayItr")] 52

def k9m0 : Method := { name := "<init>", desc := "()V", sig := { parameters := [], returnType := none }, accessFlags := 2, code := none }
def k9c1 : Code := { maxStack := 4, maxLocals := 3, code := jdk_65_method_30_code, exceptionTable := #[], attributes := #[] }
def k9m1 : Method := { name := "rangeCheck", desc := "(III)V", sig := { parameters := [.int, .int, .int], returnType := none }, accessFlags := 8, code := some k9c1 }
def k9c2 : Code := { maxStack := 4, maxLocals := 6, code := jdk_65_method_102_code, exceptionTable := #[], attributes := #[] }
def k9m2 : Method := { name := "fill", desc := "([JIIJ)V", sig := { parameters := [(.array .long), .int, .int, .long], returnType := none }, accessFlags := 9, code := some k9c2 }
/-- java/util/Arrays -/
def k9 : Class := { plain "java/util/Arrays" (some 0) with
  accessFlags := 49
  interfaces := #[]
  cf := some (fileOf pool9 14 #[.nestMembers #[975, 375, 113, 74]] #[{ accessFlags := 2, nameIndex := 5, descriptorIndex := 6, attributes := #[] }, { accessFlags := 8, nameIndex := 17, descriptorIndex := 18, attributes := #[] }, { accessFlags := 9, nameIndex := 840, descriptorIndex := 844, attributes := #[] }] 49 2 #[] #[{ accessFlags := 26, nameIndex := 715, descriptorIndex := 716, attributes := #[] }, { accessFlags := 26, nameIndex := 719, descriptorIndex := 716, attributes := #[] }, { accessFlags := 4120, nameIndex := 445, descriptorIndex := 117, attributes := #[] }])
  fields := #[{ name := "MIN_ARRAY_SORT_GRAN", type := .int, accessFlags := 26, slot := 0, constantValue := 0 }, { name := "INSERTIONSORT_THRESHOLD", type := .int, accessFlags := 26, slot := 1, constantValue := 0 }, { name := "$assertionsDisabled", type := .boolean, accessFlags := 4120, slot := 2, constantValue := 0 }]
  methods := #[k9m0, k9m1, k9m2]
  instanceTypes := #[]
  staticTypes := #[.int, .int, .boolean]
  resolved := Array.replicate 1029 none
  statics := none }

def pool10 : Array CpInfo := pool [(1, .class_ 2), (0, u "java/lang/Long"), (15, .class_ 20), (1, u "java/lang/Integer"), (79, u "numberOfLeadingZeros"), (0, u "(J)I"), (133, .class_ 237), (1, u "java/lang/Long$LongCache"), (33, .class_ 272), (0, u "java/lang/Number"), (2, u "value"), (0, u "J"), (31, .methodref 18 309), (0, .nameAndType 100 310), (0, u "(I)I"), (50, u "TYPE"), (0, u "Ljava/lang/Class;"), (0, .class_ 364), (0, u "java/lang/Comparable"), (0, .class_ 366), (0, u "java/lang/constant/Constable"), (0, .class_ 368), (0, u "java/lang/constant/ConstantDesc"), (0, u "MIN_VALUE"), (1, u "MAX_VALUE"), (4, u "SIZE"), (0, u "I"), (1, u "BYTES"), (1, u "serialVersionUID")] 142

def k10c0 : Code := { maxStack := 3, maxLocals := 3, code := jdk_35_method_48_code, exceptionTable := #[], attributes := #[] }
def k10m0 : Method := { name := "numberOfLeadingZeros", desc := "(J)I", sig := { parameters := [.long], returnType := some .int }, accessFlags := 9, code := some k10c0 }
/-- java/lang/Long -/
def k10 : Class := { plain "java/lang/Long" (some 4) with
  accessFlags := 49
  interfaces := #[5, 6, 7]
  cf := some (fileOf pool10 1 #[.nestMembers #[235]] #[{ accessFlags := 9, nameIndex := 100, descriptorIndex := 101, attributes := #[] }] 49 271 #[363, 365, 367] #[{ accessFlags := 25, nameIndex := 369, descriptorIndex := 276, attributes := #[] }, { accessFlags := 25, nameIndex := 371, descriptorIndex := 276, attributes := #[] }, { accessFlags := 25, nameIndex := 361, descriptorIndex := 362, attributes := #[] }, { accessFlags := 18, nameIndex := 275, descriptorIndex := 276, attributes := #[] }, { accessFlags := 25, nameIndex := 376, descriptorIndex := 377, attributes := #[] }, { accessFlags := 25, nameIndex := 379, descriptorIndex := 377, attributes := #[] }, { accessFlags := 26, nameIndex := 381, descriptorIndex := 276, attributes := #[] }])
  fields := #[{ name := "MIN_VALUE", type := .long, accessFlags := 25, slot := 0, constantValue := 0 }, { name := "MAX_VALUE", type := .long, accessFlags := 25, slot := 1, constantValue := 0 }, { name := "TYPE", type := (.object "java/lang/Class"), accessFlags := 25, slot := 2, constantValue := 0 }, { name := "value", type := .long, accessFlags := 18, slot := 0, constantValue := 0 }, { name := "SIZE", type := .int, accessFlags := 25, slot := 3, constantValue := 0 }, { name := "BYTES", type := .int, accessFlags := 25, slot := 4, constantValue := 0 }, { name := "serialVersionUID", type := .long, accessFlags := 26, slot := 5, constantValue := 0 }]
  methods := #[k10m0]
  instanceTypes := #[.long]
  staticTypes := #[.long, .long, (.object "java/lang/Class"), .int, .int, .long]
  resolved := Array.replicate 524 none
  statics := none }

def pool11 : Array CpInfo := pool [(1, .class_ 2), (0, u "java/lang/Integer"), (16, u "digits"), (0, u "[C"), (32, u "numberOfLeadingZeros"), (0, u "(I)I"), (30, u "DigitOnes"), (0, u "[B"), (2, u "DigitTens"), (99, .class_ 190), (0, u "java/lang/Integer$IntegerCache"), (3, u "I"), (8, .class_ 204), (0, u "java/lang/Number"), (2, u "value"), (56, .integer 65536), (37, u "TYPE"), (0, u "Ljava/lang/Class;"), (0, .class_ 305), (0, u "java/lang/Comparable"), (0, .class_ 307), (0, u "java/lang/constant/Constable"), (0, .class_ 309), (0, u "java/lang/constant/ConstantDesc"), (0, u "MIN_VALUE"), (1, u "MAX_VALUE"), (3, u "SIZE"), (1, u "BYTES"), (1, u "serialVersionUID"), (0, u "J")] 131

def k11c0 : Code := { maxStack := 3, maxLocals := 2, code := jdk_33_method_47_code, exceptionTable := #[], attributes := #[] }
def k11m0 : Method := { name := "numberOfLeadingZeros", desc := "(I)I", sig := { parameters := [.int], returnType := some .int }, accessFlags := 9, code := some k11c0 }
/-- java/lang/Integer -/
def k11 : Class := { plain "java/lang/Integer" (some 4) with
  accessFlags := 49
  interfaces := #[5, 6, 7]
  cf := some (fileOf pool11 1 #[.nestMembers #[189]] #[{ accessFlags := 9, nameIndex := 53, descriptorIndex := 54, attributes := #[] }] 49 203 #[304, 306, 308] #[{ accessFlags := 25, nameIndex := 310, descriptorIndex := 194, attributes := #[] }, { accessFlags := 25, nameIndex := 312, descriptorIndex := 194, attributes := #[] }, { accessFlags := 25, nameIndex := 302, descriptorIndex := 303, attributes := #[] }, { accessFlags := 24, nameIndex := 19, descriptorIndex := 20, attributes := #[] }, { accessFlags := 24, nameIndex := 89, descriptorIndex := 86, attributes := #[] }, { accessFlags := 24, nameIndex := 85, descriptorIndex := 86, attributes := #[] }, { accessFlags := 18, nameIndex := 207, descriptorIndex := 194, attributes := #[] }, { accessFlags := 25, nameIndex := 316, descriptorIndex := 194, attributes := #[] }, { accessFlags := 25, nameIndex := 318, descriptorIndex := 194, attributes := #[] }, { accessFlags := 26, nameIndex := 320, descriptorIndex := 321, attributes := #[] }])
  fields := #[{ name := "MIN_VALUE", type := .int, accessFlags := 25, slot := 0, constantValue := 0 }, { name := "MAX_VALUE", type := .int, accessFlags := 25, slot := 1, constantValue := 0 }, { name := "TYPE", type := (.object "java/lang/Class"), accessFlags := 25, slot := 2, constantValue := 0 }, { name := "digits", type := (.array .char), accessFlags := 24, slot := 3, constantValue := 0 }, { name := "DigitTens", type := (.array .byte), accessFlags := 24, slot := 4, constantValue := 0 }, { name := "DigitOnes", type := (.array .byte), accessFlags := 24, slot := 5, constantValue := 0 }, { name := "value", type := .int, accessFlags := 18, slot := 0, constantValue := 0 }, { name := "SIZE", type := .int, accessFlags := 25, slot := 6, constantValue := 0 }, { name := "BYTES", type := .int, accessFlags := 25, slot := 7, constantValue := 0 }, { name := "serialVersionUID", type := .long, accessFlags := 26, slot := 8, constantValue := 0 }]
  methods := #[k11m0]
  instanceTypes := #[.int]
  staticTypes := #[.int, .int, (.object "java/lang/Class"), (.array .char), (.array .byte), (.array .byte), .int, .int, .long]
  resolved := Array.replicate 453 none
  statics := none }

def pool12 : Array CpInfo := pool [(1, .class_ 2), (0, u "java/lang/Math"), (1, .class_ 6), (1, u "java/lang/Object"), (0, u "<init>"), (0, u "()V"), (89, .class_ 100), (1, u "java/lang/Math$RandomNumberGeneratorHolder"), (71, u "negativeZeroFloatBits"), (0, u "J"), (2, u "negativeZeroDoubleBits"), (21, u "max"), (46, u "$assertionsDisabled"), (0, u "Z"), (88, u "(II)I"), (2, u "twoToTheDoubleScaleDown"), (0, u "D"), (4, u "twoToTheDoubleScaleUp"), (9, u "E"), (3, u "PI"), (2, u "TAU"), (2, u "DEGREES_TO_RADIANS"), (0, u "RADIANS_TO_DEGREES")] 94

def k12m0 : Method := { name := "<init>", desc := "()V", sig := { parameters := [], returnType := none }, accessFlags := 2, code := none }
def k12c1 : Code := { maxStack := 2, maxLocals := 2, code := jdk_29_method_65_code, exceptionTable := #[], attributes := #[] }
def k12m1 : Method := { name := "max", desc := "(II)I", sig := { parameters := [.int, .int], returnType := some .int }, accessFlags := 9, code := some k12c1 }
/-- java/lang/Math -/
def k12 : Class := { plain "java/lang/Math" (some 0) with
  accessFlags := 49
  interfaces := #[]
  cf := some (fileOf pool12 1 #[.nestMembers #[98]] #[{ accessFlags := 2, nameIndex := 7, descriptorIndex := 8, attributes := #[] }, { accessFlags := 9, nameIndex := 198, descriptorIndex := 335, attributes := #[] }] 49 4 #[] #[{ accessFlags := 25, nameIndex := 354, descriptorIndex := 339, attributes := #[] }, { accessFlags := 25, nameIndex := 358, descriptorIndex := 339, attributes := #[] }, { accessFlags := 25, nameIndex := 361, descriptorIndex := 339, attributes := #[] }, { accessFlags := 26, nameIndex := 364, descriptorIndex := 339, attributes := #[] }, { accessFlags := 26, nameIndex := 365, descriptorIndex := 339, attributes := #[] }, { accessFlags := 26, nameIndex := 172, descriptorIndex := 173, attributes := #[] }, { accessFlags := 26, nameIndex := 176, descriptorIndex := 173, attributes := #[] }, { accessFlags := 8, nameIndex := 344, descriptorIndex := 339, attributes := #[] }, { accessFlags := 8, nameIndex := 338, descriptorIndex := 339, attributes := #[] }, { accessFlags := 4120, nameIndex := 245, descriptorIndex := 246, attributes := #[] }])
  fields := #[{ name := "E", type := .double, accessFlags := 25, slot := 0, constantValue := 0 }, { name := "PI", type := .double, accessFlags := 25, slot := 1, constantValue := 0 }, { name := "TAU", type := .double, accessFlags := 25, slot := 2, constantValue := 0 }, { name := "DEGREES_TO_RADIANS", type := .double, accessFlags := 26, slot := 3, constantValue := 0 }, { name := "RADIANS_TO_DEGREES", type := .double, accessFlags := 26, slot := 4, constantValue := 0 }, { name := "negativeZeroFloatBits", type := .long, accessFlags := 26, slot := 5, constantValue := 0 }, { name := "negativeZeroDoubleBits", type := .long, accessFlags := 26, slot := 6, constantValue := 0 }, { name := "twoToTheDoubleScaleUp", type := .double, accessFlags := 8, slot := 7, constantValue := 0 }, { name := "twoToTheDoubleScaleDown", type := .double, accessFlags := 8, slot := 8, constantValue := 0 }, { name := "$assertionsDisabled", type := .boolean, accessFlags := 4120, slot := 9, constantValue := 0 }]
  methods := #[k12m0, k12m1]
  instanceTypes := #[]
  staticTypes := #[.double, .double, .double, .double, .double, .long, .long, .double, .double, .boolean]
  resolved := Array.replicate 460 none
  statics := none }

def pool13 : Array CpInfo := pool [(1, u "java/lang/Cloneable"), (0, .class_ 1), (0, u "java/lang/Object"), (0, .class_ 3)] 3

/-- java/lang/Cloneable -/
def k13 : Class := { plain "java/lang/Cloneable" (some 0) with
  accessFlags := 1537
  interfaces := #[]
  cf := some (fileOf pool13 2 #[] #[] 1537 4 #[] #[])
  fields := #[]
  methods := #[]
  instanceTypes := #[]
  staticTypes := #[]
  resolved := Array.replicate 8 none
  statics := none }

/-- the primitive byte -/
def k14 : Class := { plain "byte" none with kind := .primitive 'B', accessFlags := 0x411 }
/-- [B -/
def k15 : Class := { plain "[B" (some 0) with kind := .array 14 .byte, interfaces := #[13, 3], accessFlags := 1041 }

/-- the primitive int -/
def k16 : Class := { plain "int" none with kind := .primitive 'I', accessFlags := 0x411 }
/-- [I -/
def k17 : Class := { plain "[I" (some 0) with kind := .array 16 .int, interfaces := #[13, 3], accessFlags := 1041 }

/-- the primitive long -/
def k18 : Class := { plain "long" none with kind := .primitive 'J', accessFlags := 0x411 }
/-- [J -/
def k19 : Class := { plain "[J" (some 0) with kind := .array 18 .long, interfaces := #[13, 3], accessFlags := 1041 }

def heap : Heap := #[]
def classes : Array Class := #[k0, k1, k2, k3, k4, k5, k6, k7, k8, k9, k10, k11, k12, k13, k14, k15, k16, k17, k18, k19]
def interned : List (Array UInt16 × Addr) := []
def slotsUsed : Nat := 0
def theMethod : MethodId := ⟨1, 1⟩
def args0 : Array Value := #[.int 5, .int 3, .int 4, .int 2]
def aboutOver (below : List Frame) : State where
  vm := { classes := classes, interned := interned.toArray }
  heap := heap
  slotsUsed := slotsUsed
  threads := #[{ frames := .invoking theMethod args0 :: below }]
def below0 : List Frame := [.native { method := ⟨0, 0⟩, args := #[] }]
def about1 : State := aboutOver below0
def p0 : Program := .bare "" "" ""
def e0 : Env := launch0.env 0 0 0
theorem w_frames : about1.frames = Frame.invoking theMethod args0 :: below0 := rfl
set_option maxRecDepth 65536 in
theorem w_args : argsFit about1.vm theMethod args0 = true := by decide +kernel
set_option maxRecDepth 65536 in
theorem w_heap : heapFits about1 = true := by decide +kernel
set_option maxRecDepth 65536 in
theorem w_runnable : about1.curStatus? = some .runnable := by decide +kernel
set_option maxRecDepth 65536 in
theorem w_alone : about1.alone = true := by decide +kernel
set_option maxRecDepth 65536 in
theorem w_named : about1.methodNamed? x = some theMethod := by decide +kernel
set_option maxRecDepth 65536 in
theorem w_hears : about1.hears theMethod below0 = true := by decide +kernel
set_option maxRecDepth 65536 in
theorem w_ripe : about1.ripe theMethod args0 below0 = true := by decide +kernel
theorem w_running : about1.status = .running := rfl
set_option maxRecDepth 65536 in
theorem w_room : about1.hasRoom e0.platform room_1 = true :=
  launch0.hasRoom_least _ room_1 (by decide +kernel) (by decide +kernel) (by decide +kernel) (by decide +kernel) (by decide +kernel) (by decide +kernel)
theorem allAtoms_all (ts : List Jvm.Cond) (a : Array Jvm.Value) (st : Jvm.State) : (allAtoms ts).before a st = ts.all (fun c => c.before a st) := by
  induction ts with
  | nil => rfl
  | cons c t ih =>
    show (Jvm.Cond.and c (allAtoms t)).before a st = _
    rw [Jvm.Cond.before_and, ih, List.all_cons]
def words1 : List Jvm.Cond := Jvm.Cond.code x code maxLocals ret :: tables_1
/-- a 'code' word, met by the world's own term for the bytes: nothing is compared byte by byte -/
theorem code_word {y : MethodName} {bytes : ByteArray} {mx : Nat} {rt : Option FieldType} {a : Array Value} {s : State} {m : MethodId} {meth : Method} {c : Code} (h1 : s.methodNamed? y = some m) (h2 : s.vm.method? m = some meth) (h3 : meth.code = some c) (h4 : c.code = bytes)
    (h5 : (c.maxLocals == mx && c.exceptionTable.isEmpty && decide (c.maxStack ≤ mostOperands) && decide (meth.sig.returnType = rt) && !meth.locks && decide (parseMethodDescriptor y.desc = some meth.sig)) = true) : (Jvm.Cond.code y bytes mx rt).before a s = true := by
  simp only [Bool.and_eq_true, beq_iff_eq, Bool.not_eq_true', decide_eq_true_eq] at h5
  obtain ⟨⟨⟨⟨⟨g1, g2⟩, g3⟩, g4⟩, g5⟩, g6⟩ := h5
  simp [Cond.before, Cond.holds, Cond.value, h1, h2, h3, h4, g1, g2, g3, g4, g5, g6]
def isCode : Jvm.Cond → Bool
  | .code _ _ _ _ => true
  | _ => false
theorem all_split {L : List Jvm.Cond} {P : Jvm.Cond → Bool} (h1 : L.all (fun c => isCode c || P c) = true) (h2 : ∀ c ∈ L.filter isCode, P c = true) : L.all P = true := by
  refine List.all_eq_true.mpr fun c hc => ?_
  have h := List.all_eq_true.mp h1 c hc
  rcases Bool.eq_false_or_eq_true (isCode c) with hi | hi
  · exact h2 c (List.mem_filter.mpr ⟨hc, hi⟩)
  · simpa [hi] using h
set_option maxRecDepth 65536 in
theorem w_c0 : (Jvm.Cond.code x code maxLocals ret).before args0 about1 = true := code_word (m := ⟨1, 1⟩) (meth := k1m1) (c := k1c1) (by decide +kernel) rfl rfl rfl (by decide +kernel)
set_option maxRecDepth 65536 in
theorem w_c1 : (Jvm.Cond.code ({ cls := "com/example/umbel/umbel/rank/ExactSum", name := "<init>", desc := "()V" } : Jvm.MethodName) prog_6_method_1_code (1 : Nat) (Option.none : Option Jvm.ClassFile.FieldType)).before args0 about1 = true := code_word (m := ⟨2, 0⟩) (meth := k2m0) (c := k2c0) (by decide +kernel) rfl rfl rfl (by decide +kernel)
set_option maxRecDepth 65536 in
theorem w_c2 : (Jvm.Cond.code ({ cls := "java/lang/Object", name := "<init>", desc := "()V" } : Jvm.MethodName) object_method_1_code (1 : Nat) (Option.none : Option Jvm.ClassFile.FieldType)).before args0 about1 = true := code_word (m := ⟨0, 0⟩) (meth := k0m0) (c := k0c0) (by decide +kernel) rfl rfl rfl (by decide +kernel)
set_option maxRecDepth 65536 in
theorem w_c3 : (Jvm.Cond.code ({ cls := "com/example/umbel/umbel/rank/ExactSum", name := "add", desc := "(D)V" } : Jvm.MethodName) prog_6_method_2_code (15 : Nat) (Option.none : Option Jvm.ClassFile.FieldType)).before args0 about1 = true := code_word (m := ⟨2, 1⟩) (meth := k2m1) (c := k2c1) (by decide +kernel) rfl rfl rfl (by decide +kernel)
set_option maxRecDepth 65536 in
theorem w_c4 : (Jvm.Cond.code ({ cls := "com/example/umbel/umbel/rank/ExactSum", name := "cover", desc := "(II)V" } : Jvm.MethodName) prog_6_method_9_code (3 : Nat) (Option.none : Option Jvm.ClassFile.FieldType)).before args0 about1 = true := code_word (m := ⟨2, 5⟩) (meth := k2m5) (c := k2c5) (by decide +kernel) rfl rfl rfl (by decide +kernel)
set_option maxRecDepth 65536 in
theorem w_c5 : (Jvm.Cond.code ({ cls := "com/example/umbel/umbel/rank/ExactSum", name := "value", desc := "()D" } : Jvm.MethodName) prog_6_method_5_code (6 : Nat) (Option.some Jvm.ClassFile.FieldType.double)).before args0 about1 = true := code_word (m := ⟨2, 3⟩) (meth := k2m3) (c := k2c3) (by decide +kernel) rfl rfl rfl (by decide +kernel)
set_option maxRecDepth 65536 in
theorem w_c6 : (Jvm.Cond.code ({ cls := "com/example/umbel/umbel/rank/ExactSum", name := "carry", desc := "()V" } : Jvm.MethodName) prog_6_method_8_code (6 : Nat) (Option.none : Option Jvm.ClassFile.FieldType)).before args0 about1 = true := code_word (m := ⟨2, 4⟩) (meth := k2m4) (c := k2c4) (by decide +kernel) rfl rfl rfl (by decide +kernel)
set_option maxRecDepth 65536 in
theorem w_c7 : (Jvm.Cond.code ({ cls := "com/example/umbel/umbel/rank/ExactSum", name := "clear", desc := "()V" } : Jvm.MethodName) prog_6_method_4_code (1 : Nat) (Option.none : Option Jvm.ClassFile.FieldType)).before args0 about1 = true := code_word (m := ⟨2, 2⟩) (meth := k2m2) (c := k2c2) (by decide +kernel) rfl rfl rfl (by decide +kernel)
set_option maxRecDepth 65536 in
theorem w_c8 : (Jvm.Cond.code ({ cls := "java/util/Arrays", name := "fill", desc := "([JIIJ)V" } : Jvm.MethodName) jdk_65_method_102_code (6 : Nat) (Option.none : Option Jvm.ClassFile.FieldType)).before args0 about1 = true := code_word (m := ⟨9, 2⟩) (meth := k9m2) (c := k9c2) (by decide +kernel) rfl rfl rfl (by decide +kernel)
set_option maxRecDepth 65536 in
theorem w_c9 : (Jvm.Cond.code ({ cls := "java/util/Arrays", name := "rangeCheck", desc := "(III)V" } : Jvm.MethodName) jdk_65_method_30_code (3 : Nat) (Option.none : Option Jvm.ClassFile.FieldType)).before args0 about1 = true := code_word (m := ⟨9, 1⟩) (meth := k9m1) (c := k9c1) (by decide +kernel) rfl rfl rfl (by decide +kernel)
set_option maxRecDepth 65536 in
theorem w_c10 : (Jvm.Cond.code ({ cls := "java/lang/Long", name := "numberOfLeadingZeros", desc := "(J)I" } : Jvm.MethodName) jdk_35_method_48_code (3 : Nat) (Option.some Jvm.ClassFile.FieldType.int)).before args0 about1 = true := code_word (m := ⟨10, 0⟩) (meth := k10m0) (c := k10c0) (by decide +kernel) rfl rfl rfl (by decide +kernel)
set_option maxRecDepth 65536 in
theorem w_c11 : (Jvm.Cond.code ({ cls := "java/lang/Integer", name := "numberOfLeadingZeros", desc := "(I)I" } : Jvm.MethodName) jdk_33_method_47_code (2 : Nat) (Option.some Jvm.ClassFile.FieldType.int)).before args0 about1 = true := code_word (m := ⟨11, 0⟩) (meth := k11m0) (c := k11c0) (by decide +kernel) rfl rfl rfl (by decide +kernel)
set_option maxRecDepth 65536 in
theorem w_c12 : (Jvm.Cond.code ({ cls := "java/lang/Math", name := "max", desc := "(II)I" } : Jvm.MethodName) jdk_29_method_65_code (2 : Nat) (Option.some Jvm.ClassFile.FieldType.int)).before args0 about1 = true := code_word (m := ⟨12, 1⟩) (meth := k12m1) (c := k12c1) (by decide +kernel) rfl rfl rfl (by decide +kernel)
set_option maxRecDepth 65536 in
theorem w_c13 : (Jvm.Cond.code ({ cls := "com/example/umbel/umbel/rank/ExactSum", name := "bitsFrom", desc := "(I)J" } : Jvm.MethodName) prog_6_method_10_code (6 : Nat) (Option.some Jvm.ClassFile.FieldType.long)).before args0 about1 = true := code_word (m := ⟨2, 6⟩) (meth := k2m6) (c := k2c6) (by decide +kernel) rfl rfl rfl (by decide +kernel)
set_option maxRecDepth 65536 in
theorem w_c14 : (Jvm.Cond.code ({ cls := "com/example/umbel/umbel/rank/ExactSum", name := "limb", desc := "(I)J" } : Jvm.MethodName) prog_6_method_13_code (2 : Nat) (Option.some Jvm.ClassFile.FieldType.long)).before args0 about1 = true := code_word (m := ⟨2, 8⟩) (meth := k2m8) (c := k2c8) (by decide +kernel) rfl rfl rfl (by decide +kernel)
set_option maxRecDepth 65536 in
theorem w_c15 : (Jvm.Cond.code ({ cls := "com/example/umbel/umbel/rank/ExactSum", name := "bit", desc := "(I)Z" } : Jvm.MethodName) prog_6_method_11_code (2 : Nat) (Option.some Jvm.ClassFile.FieldType.boolean)).before args0 about1 = true := code_word (m := ⟨2, 7⟩) (meth := k2m7) (c := k2c7) (by decide +kernel) rfl rfl rfl (by decide +kernel)
def codes1 : List Jvm.Cond := [Jvm.Cond.code x code maxLocals ret, Jvm.Cond.code ({ cls := "com/example/umbel/umbel/rank/ExactSum", name := "<init>", desc := "()V" } : Jvm.MethodName) prog_6_method_1_code (1 : Nat) (Option.none : Option Jvm.ClassFile.FieldType), Jvm.Cond.code ({ cls := "java/lang/Object", name := "<init>", desc := "()V" } : Jvm.MethodName) object_method_1_code (1 : Nat) (Option.none : Option Jvm.ClassFile.FieldType), Jvm.Cond.code ({ cls := "com/example/umbel/umbel/rank/ExactSum", name := "add", desc := "(D)V" } : Jvm.MethodName) prog_6_method_2_code (15 : Nat) (Option.none : Option Jvm.ClassFile.FieldType), Jvm.Cond.code ({ cls := "com/example/umbel/umbel/rank/ExactSum", name := "cover", desc := "(II)V" } : Jvm.MethodName) prog_6_method_9_code (3 : Nat) (Option.none : Option Jvm.ClassFile.FieldType), Jvm.Cond.code ({ cls := "com/example/umbel/umbel/rank/ExactSum", name := "value", desc := "()D" } : Jvm.MethodName) prog_6_method_5_code (6 : Nat) (Option.some Jvm.ClassFile.FieldType.double), Jvm.Cond.code ({ cls := "com/example/umbel/umbel/rank/ExactSum", name := "carry", desc := "()V" } : Jvm.MethodName) prog_6_method_8_code (6 : Nat) (Option.none : Option Jvm.ClassFile.FieldType), Jvm.Cond.code ({ cls := "com/example/umbel/umbel/rank/ExactSum", name := "clear", desc := "()V" } : Jvm.MethodName) prog_6_method_4_code (1 : Nat) (Option.none : Option Jvm.ClassFile.FieldType), Jvm.Cond.code ({ cls := "java/util/Arrays", name := "fill", desc := "([JIIJ)V" } : Jvm.MethodName) jdk_65_method_102_code (6 : Nat) (Option.none : Option Jvm.ClassFile.FieldType), Jvm.Cond.code ({ cls := "java/util/Arrays", name := "rangeCheck", desc := "(III)V" } : Jvm.MethodName) jdk_65_method_30_code (3 : Nat) (Option.none : Option Jvm.ClassFile.FieldType), Jvm.Cond.code ({ cls := "java/lang/Long", name := "numberOfLeadingZeros", desc := "(J)I" } : Jvm.MethodName) jdk_35_method_48_code (3 : Nat) (Option.some Jvm.ClassFile.FieldType.int), Jvm.Cond.code ({ cls := "java/lang/Integer", name := "numberOfLeadingZeros", desc := "(I)I" } : Jvm.MethodName) jdk_33_method_47_code (2 : Nat) (Option.some Jvm.ClassFile.FieldType.int), Jvm.Cond.code ({ cls := "java/lang/Math", name := "max", desc := "(II)I" } : Jvm.MethodName) jdk_29_method_65_code (2 : Nat) (Option.some Jvm.ClassFile.FieldType.int), Jvm.Cond.code ({ cls := "com/example/umbel/umbel/rank/ExactSum", name := "bitsFrom", desc := "(I)J" } : Jvm.MethodName) prog_6_method_10_code (6 : Nat) (Option.some Jvm.ClassFile.FieldType.long), Jvm.Cond.code ({ cls := "com/example/umbel/umbel/rank/ExactSum", name := "limb", desc := "(I)J" } : Jvm.MethodName) prog_6_method_13_code (2 : Nat) (Option.some Jvm.ClassFile.FieldType.long), Jvm.Cond.code ({ cls := "com/example/umbel/umbel/rank/ExactSum", name := "bit", desc := "(I)Z" } : Jvm.MethodName) prog_6_method_11_code (2 : Nat) (Option.some Jvm.ClassFile.FieldType.boolean)]
set_option maxRecDepth 65536 in
theorem codes_eq : words1.filter isCode = codes1 := rfl
theorem w_codes : ∀ c ∈ words1.filter isCode, c.before args0 about1 = true := by
  rw [codes_eq]
  intro c hc
  simp only [codes1, List.mem_cons, List.not_mem_nil, or_false] at hc
  rcases hc with rfl | rfl | rfl | rfl | rfl | rfl | rfl | rfl | rfl | rfl | rfl | rfl | rfl | rfl | rfl | rfl
  · exact w_c0
  · exact w_c1
  · exact w_c2
  · exact w_c3
  · exact w_c4
  · exact w_c5
  · exact w_c6
  · exact w_c7
  · exact w_c8
  · exact w_c9
  · exact w_c10
  · exact w_c11
  · exact w_c12
  · exact w_c13
  · exact w_c14
  · exact w_c15
set_option maxRecDepth 65536 in
theorem w_t1 : (words1.take 24).all (fun c => isCode c || c.before args0 about1) = true := by decide +kernel
set_option maxRecDepth 65536 in
theorem w_t2 : ((words1.drop 24).take 24).all (fun c => isCode c || c.before args0 about1) = true := by decide +kernel
set_option maxRecDepth 65536 in
theorem w_t3 : (((words1.drop 24).drop 24).take 24).all (fun c => isCode c || c.before args0 about1) = true := by decide +kernel
set_option maxRecDepth 65536 in
theorem w_t4 : (((words1.drop 24).drop 24).drop 24).all (fun c => isCode c || c.before args0 about1) = true := by decide +kernel
theorem w_tables : (allAtoms (Jvm.Cond.code x code maxLocals ret :: tables_1)).before args0 about1 = true := by
  rw [allAtoms_all]
  show words1.all (fun c => c.before args0 about1) = true
  refine all_split ?_ w_codes
  rw [← List.take_append_drop 24 words1, List.all_append, w_t1, ← List.take_append_drop 24 (words1.drop 24), List.all_append, w_t2, ← List.take_append_drop 24 ((words1.drop 24).drop 24), List.all_append, w_t3, w_t4]
  rfl
set_option maxRecDepth 65536 in
theorem w_case : (Jvm.Cond.and given_1 narrow_1).before args0 about1 = true := by decide +kernel
theorem w_applies : (headSpec (Jvm.Cond.code x code maxLocals ret :: tables_1) room_1).applies x e0.platform about1 = true :=
  (Spec.applies_iff w_frames).mpr ⟨w_running, w_runnable, w_alone, w_named, w_hears, w_ripe, w_room, w_tables⟩
theorem atStart : AtStart classFile x code maxLocals ret World_1 tables_1 room_1 Calls_1 rest_1 Pre_1 launch0 p0 e0 about1 theMethod args0 below0 :=
  ⟨lists_1, trivial, launch0.admits_env _ _ _, launch0.least_env, fairChoices_fair.cas, fairChoices_fair.clock, w_frames, w_args, w_heap, w_applies, trivial, trivial, w_case⟩
end start1
theorem witness_1 : WitnessClaimed_1 := ⟨start1.p0, start1.e0, start1.about1, start1.theMethod, start1.args0, start1.below0, start1.atStart⟩
end Jvm.Pilot.@@N@@
