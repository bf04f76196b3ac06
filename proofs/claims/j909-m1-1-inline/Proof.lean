import JvmDerived
import JvmDerived.Pilot.@@N@@Statement
import JvmDerived.Pilot.@@N@@Code
set_option linter.unusedVariables false
set_option linter.unusedSimpArgs false
namespace Jvm.RoadKit
open Sem ClassFile Op Lib Jvm.Stand Jvm.Free Jvm.LawKit
section New
variable {p : Program} {l : Launch} {e : Env} {R : Room} {s : State} {m : MethodId} {args : Array Value} {below : List Frame} {meth : Method} {c : Code} {T : State} {locs : List Loc} {cells slots : Nat}
theorem retI (X : Stand p l e R s m args below meth c T locs cells slots) (hx : p.tables.exec = Jvm.exec) {pc : Nat} {Ls : Array Slot} {z : Int32} {rest : List Value} (hret : meth.sig.returnType = some .int) (hd : decode c.code pc = .ok (.ireturn, 1)) {fs : List Frame}
    (hl : ∀ (f : JFrame) (acts : List Action), f.method = m → f.locked = none → f.entered = [] → (doReturn e (T.setTop f) acts (some (.int z))).1 = T.setFrames fs) : Steps p.tables e below (T.setTop (mkF m pc Ls (.int z :: rest))) (T.setFrames fs) := by
  have hm' : T.vm.method? m = some meth := X.method'
  have hn : narrow .int (.int z) = .int z := rfl
  show Steps p.tables e below (T.setTop { method := m, pc := pc, locals := Ls, stack := _ :: rest, locked := none }) _
  jvm_step X.here [X.here.top, hx, hd, hm', hret, hn]
  first | (intro acts; rw [hl _ acts rfl rfl rfl]) | rw [hl _ _ rfl rfl rfl]
  exact Steps.refl _
end New
end Jvm.RoadKit
/- laws to paste: narrow_ch (cut by pick.py; bodies as the Statement names them) -/
namespace Jvm.Pilot.@@N@@
namespace StrChars
open Jvm Sem ClassFile Op Lib Jvm.Stand Jvm.Free.XT Jvm.Free.ALB Jvm.Free.JM Jvm.Free
open Jvm.Lib.Cold (StaticIs)
/-- the byte that i2b leaves of a char -/
def lo8 (x : Int32) : Int32 := x.toInt8.toInt32
end StrChars
namespace StrChars
open Jvm Sem ClassFile Op Lib Jvm.Stand Jvm.Free.XT Jvm.Free.ALB Jvm.Free.JM Jvm.Free
open Jvm.Lib.Cold (StaticIs)
def hi8 (x : Int32) : Int32 := lo8 (x >>> ((8 : Int32) &&& 31))
/-- what StringUTF16.getChar makes of two bytes -/
def pairCh (u v : Int32) : Int32 := (((u &&& 255) <<< ((0 : Int32) &&& 31)) ||| ((v &&& 255) <<< ((8 : Int32) &&& 31))).toUInt32.toUInt16.toUInt32.toInt32
theorem lo8_and (x : Int32) : (lo8 x &&& 255).toBitVec.toNat = x.toBitVec.toNat % 256 := by
  have h : (lo8 x).toBitVec = (x.toBitVec.signExtend 8).signExtend 32 := by rw [lo8, Int8.toBitVec_toInt32, Int32.toBitVec_toInt8]
  rw [Int32.toBitVec_and, BitVec.toNat_and, h]
  have e : ((x.toBitVec.signExtend 8).signExtend 32).toNat % 256 = x.toBitVec.toNat % 256 := by
    rw [BitVec.toNat_signExtend]
    have hlt := x.toBitVec.isLt
    simp only [BitVec.toNat_setWidth, BitVec.toNat_signExtend]
    split <;> split <;> omega
  rw [← e]
  exact Nat.and_two_pow_sub_one_eq_mod _ 8
theorem pair_says {c : Int32} (h0 : ¬ c < 0) (h1 : ¬ 65535 < c) : pairCh (lo8 c) (hi8 c) = c := by
  rw [Int32.lt_iff_toInt_lt] at h0 h1
  have e0 : (0 : Int32).toInt = 0 := rfl
  have e1 : (65535 : Int32).toInt = 65535 := rfl
  have hc : c.toInt = c.toBitVec.toNat := by
    have := c.toBitVec.isLt
    have e : c.toInt = c.toBitVec.toInt := rfl
    rw [e] at h0 h1
    rw [e]
    rw [BitVec.toInt_eq_toNat_cond] at h0 h1 ⊢
    split at h0 <;> split <;> omega
  have hn : c.toBitVec.toNat < 65536 := by omega
  have a1 := lo8_and c
  have a2 : (hi8 c &&& 255).toBitVec.toNat = c.toBitVec.toNat / 256 := by
    rw [hi8, lo8_and]
    have e : ((8 : Int32) &&& 31) = 8 := by decide
    rw [e, Int32.toBitVec_shiftRight]
    have e2 : ((8 : Int32).toBitVec.smod 32) = 8#32 := by decide
    rw [e2, BitVec.sshiftRight_eq', BitVec.toNat_sshiftRight_of_msb_false (by rw [BitVec.msb_eq_false_iff_two_mul_lt]; omega)]
    show c.toBitVec.toNat >>> 8 % 256 = _
    rw [Nat.shiftRight_eq_div_pow]
    omega
  unfold pairCh
  apply Int32.toBitVec_inj.mp
  apply BitVec.eq_of_toNat_eq
  have f0 : ((0 : Int32) &&& 31) = 0 := by decide
  have f8 : ((8 : Int32) &&& 31) = 8 := by decide
  rw [f0, f8]
  have g : (((lo8 c &&& 255) <<< (0 : Int32)) ||| ((hi8 c &&& 255) <<< (8 : Int32))).toBitVec.toNat = c.toBitVec.toNat := by
    rw [Int32.toBitVec_or, Int32.toBitVec_shiftLeft, Int32.toBitVec_shiftLeft]
    have s0 : ((0 : Int32).toBitVec.smod 32) = 0#32 := by decide
    have s8 : ((8 : Int32).toBitVec.smod 32) = 8#32 := by decide
    rw [s0, s8, BitVec.toNat_or]
    simp only [BitVec.shiftLeft_eq', BitVec.toNat_shiftLeft, a1, a2]
    show (c.toBitVec.toNat % 256) <<< 0 % 2 ^ 32 ||| (c.toBitVec.toNat / 256) <<< 8 % 2 ^ 32 = _
    rw [Nat.shiftLeft_zero, Nat.mod_eq_of_lt (show c.toBitVec.toNat % 256 < 2 ^ 32 by omega), Nat.mod_eq_of_lt (show (c.toBitVec.toNat / 256) <<< 8 < 2 ^ 32 by rw [Nat.shiftLeft_eq]; omega), Nat.or_comm, ← Nat.shiftLeft_add_eq_or_of_lt (by omega), Nat.shiftLeft_eq]
    omega
  show BitVec.toNat (((((lo8 c &&& 255) <<< (0 : Int32)) ||| ((hi8 c &&& 255) <<< (8 : Int32))).toBitVec.setWidth 16).setWidth 32) = _
  rw [BitVec.toNat_setWidth, BitVec.toNat_setWidth, g]
  omega
end StrChars
namespace StrChars
open Jvm Sem ClassFile Op Lib Jvm.Stand Jvm.Free.XT Jvm.Free.ALB Jvm.Free.JM Jvm.Free
open Jvm.Lib.Cold (StaticIs)
theorem narrow_ch {c : Int32} (h0 : ¬ c < 0) (h1 : ¬ 65535 < c) : narrow .char (.int c) = .int c := by
  have q : narrow .char (.int (pairCh (lo8 c) (hi8 c))) = .int (pairCh (lo8 c) (hi8 c)) := narrow_c _
  rwa [pair_says h0 h1] at q
end StrChars
end Jvm.Pilot.@@N@@
namespace Jvm.Pilot.@@N@@
open Jvm Jvm.ClassFile Sem Op Lib Jvm.Free Jvm.Stand Jvm.LawKit Jvm.RoadKit Bundle Jvm.Free.Fl Jvm.Pilot.@@N@@.Jvm.D
abbrev vU : Slot := .unset
abbrev vI (x : Int32) : Slot := .val (.int x)
abbrev vJ (x : Int64) : Slot := .val (.long x)
abbrev vD (x : UInt64) : Slot := .val (.double x)
abbrev vR (x : Addr) : Slot := .val (.ref x)
/-- a step's goal -/
abbrev Sp (p : Program) (e : Env) (below : List Frame) (T : State) (g : JFrame) (t : State) : Prop := Steps p.tables e below (T.setTop g) t
theorem own_h {a0 : Array Value} {Z : State} (hw : ∀ d ∈ tables_1, d.before a0 Z = true) (i : Nat) {d : Jvm.Cond} (h : tables_1[i]? = some d) : d.before a0 Z = true := hw d (List.mem_of_getElem? h)
/-- the run comes from the frame g0 (over T0) to the frame g (over T) -/
abbrev Go (p : Program) (e : Env) (below : List Frame) (T0 : State) (g0 : JFrame) (T : State) (g : JFrame) : Prop :=
  ∀ t, Steps p.tables e below (T.setTop g) t → Steps p.tables e below (T0.setTop g0) t
theorem own_neArr {Z : State} {h : Heap} {x y : Addr} {k k' : ClassId} {t t' : FieldType} {n n' : Int32} {vs vs' : List Value} {d d' : Value} (A : Arv Z h x k t n vs d) (B : Arv Z h y k' t' n' vs' d') (ht : t ≠ t') : x ≠ y := by
  rintro rfl
  obtain ⟨c1, A1, -⟩ := A
  obtain ⟨c2, B1, -⟩ := B
  have e := Option.some.inj (A1.1.symm.trans B1.1)
  subst e
  obtain ⟨-, k1, hk1, p1, q1⟩ := A1.2.1
  obtain ⟨-, k2, hk2, p2, q2⟩ := B1.2.1
  cases hk1.symm.trans hk2
  rw [q1] at q2
  cases q2
  exact ht rfl
theorem own_neStr {Z : State} {a0 : Array Value} {h : Heap} {x y : Addr} {C : String} {k : ClassId} {t : FieldType} {n : Int32} {vs : List Value} {d : Value} {sl : Nat} (E : Exa Z h x C) (B : Arv Z h y k t n vs d) (wi : (Jvm.Cond.instantiable C sl).before a0 Z = true) : x ≠ y := by
  rintro rfl
  obtain ⟨c1, k1, e1, e2, e3, -⟩ := E
  obtain ⟨c2, B1, -⟩ := B
  have e := Option.some.inj (e1.symm.trans B1.1)
  subst e
  obtain ⟨-, k2, hk2, p2, q2⟩ := B1.2.1
  obtain ⟨c3, k3, h1, h2, h3, -⟩ := Jvm.Cond.instantiable_spec wi
  cases e2.symm.trans h1
  cases e3.symm.trans h2
  cases e3.symm.trans hk2
  rw [q2] at h3
  cases h3
theorem own_selp {Z s : State} {a0 args : Array Value} {y : MethodName} {k : Nat} (hZ : Z.Warmed39 s.vm) (wi : (Jvm.Cond.instantiable y.cls k).before a0 Z = true) (wp : (Jvm.Cond.privateMethod y).before a0 Z = true) (wm : (Jvm.Cond.instanceMethod y).before a0 Z = true) (hy : y.cls ≠ "java/lang/invoke/MethodHandle" ∧ y.cls ≠ "java/lang/invoke/VarHandle") : (Jvm.Cond.selects y.cls y y).before args s = true := by
  have hi : (Jvm.Cond.instantiable y.cls k).before args s = true := mvT hZ wi
  obtain ⟨c, kk, h1, h2, h3, h4, -⟩ := Jvm.Cond.instantiable_spec hi
  exact selects_self_of_private h1 h2 (by simp only [Bool.or_eq_false_iff] at h4; exact h4.1) (Cond.privateMethod_at (mvP hZ wp (args := #[]))) (mvT hZ wm) hy
/-- a call's outcome, its point opened -/
theorem own_outV {p : Program} {l : Launch} {e : Env} {R : Room} {s : State} {m : MethodId} {args : Array Value} {below : List Frame} {meth : Method} {c : Code} {s₀ : State} {locs : List Loc} {cells slots : Nat} {Q : Option Value → Heap → List Loc → Prop} {kc ks : Nat} {g' : Option Value → JFrame}
    (H : ∃ (v : Option Value) (vm₁ : Vm) (B : Pt), s.WarmedH vm₁ ∧ Stand p l e R s m args below meth c B.U B.locs B.cells B.slots ∧ (∃ L, Q v B.U.heap L ∧ B.locs = locs ++ L ∧ B.cells = cells + kc ∧ B.slots = slots + ks) ∧ Steps p.tables e below s₀ (B.U.setTop (g' v))) :
    ∃ (v : Option Value) (T' : State) (L : List Loc), Stand p l e R s m args below meth c T' (locs ++ L) (cells + kc) (slots + ks) ∧ Q v T'.heap L ∧ ∀ t, Steps p.tables e below (T'.setTop (g' v)) t → Steps p.tables e below s₀ t := by
  obtain ⟨v, vm, ⟨T', L', k', n'⟩, -, X, ⟨L, hQ, e1, e2, e3⟩, st⟩ := H
  subst e1 e2 e3
  exact ⟨v, T', L, X, hQ, fun t k => st.trans k⟩
theorem own_outS {p : Program} {l : Launch} {e : Env} {R : Room} {s : State} {m : MethodId} {args : Array Value} {below : List Frame} {meth : Method} {c : Code} {s₀ : State} {locs : List Loc} {cells slots : Nat} {Q : Option Value → Heap → List Loc → Prop} {kc ks : Nat} {g' : Option Value → JFrame}
    (H : ∃ (v : Option Value) (vm₁ : Vm) (B : Pt), s.WarmedH vm₁ ∧ Stand p l e R s m args below meth c B.U B.locs B.cells B.slots ∧ (∃ L, Q v B.U.heap L ∧ B.locs = locs ++ L ∧ B.cells = cells + kc ∧ B.slots = slots + ks) ∧ ∀ t, Steps p.tables e below (B.U.setTop (g' v)) t → Steps p.tables e below s₀ t) :
    ∃ (v : Option Value) (T' : State) (L : List Loc), Stand p l e R s m args below meth c T' (locs ++ L) (cells + kc) (slots + ks) ∧ Q v T'.heap L ∧ ∀ t, Steps p.tables e below (T'.setTop (g' v)) t → Steps p.tables e below s₀ t := by
  obtain ⟨v, vm, ⟨T', L', k', n'⟩, -, X, ⟨L, hQ, e1, e2, e3⟩, st⟩ := H
  subst e1 e2 e3
  exact ⟨v, T', L, X, hQ, st⟩
set_option maxRecDepth 65536
set_option maxHeartbeats 40000000

theorem own_ga {p : Program} {e : Env} {below : List Frame} (T0 : State) (g0 : JFrame) : ∃ Ga : State → JFrame → Prop, Ga T0 g0 ∧ (∀ {T : State} {g : JFrame} {T' : State} {g' : JFrame}, Ga T g → (∀ t, Steps p.tables e below (T'.setTop g') t → Steps p.tables e below (T.setTop g) t) → Ga T' g') ∧ ∀ {T : State} {g : JFrame}, Ga T g → Go p e below T0 g0 T g :=
  ⟨Go p e below T0 g0, fun t k => k, fun S k t kt => S t (k t kt), fun S => S⟩
abbrev own_d (b : ByteArray) (pc : Nat) (i : Instr) (n : Nat) : Prop := decode b pc = .ok (i, n)
theorem own_w {S W : Nat} (h : 0 + S = W) : 2 * 0 + S ≤ W := by omega
abbrev own_W (a0 : Array Value) (Z : State) : Prop := ∀ d ∈ tables_1, d.before a0 Z = true
theorem own_t {Z s : State} {a0 args : Array Value} {d : Jvm.Cond} (hZ : Z.Warmed39 s.vm) (hw : own_W a0 Z) (i : Nat) (h : tables_1[i]? = some d) (hd : (d.onTables && d.keepsFace) = true := by first | rfl | simp [Cond.onTables, Cond.keepsFace, Cond.keeps, Cond.steady]) : d.before args s = true := mvT hZ (own_h hw i h) hd
theorem own_k {c : Code} {b : ByteArray} (hby : c.code = b) (pc : Nat) (i : Instr) (n : Nat) (hd : own_d b pc i n := by decide +kernel) : decode c.code pc = .ok (i, n) := hb hby hd
section OwnX
variable {p : Program} {e : Env} {below : List Frame} {T t : State} {m : MethodId} {c : Code} {g : JFrame} {b : ByteArray}
theorem xa {v : Value} (h : At T m c below) (hx : p.tables.exec = Jvm.exec) (hby : c.code = b) (pc : Nat) (k : Fin 4) (hl : g.locals[k.val]? = some (.val v)) (hr : Steps p.tables e below (T.setTop { g with pc := g.pc + 1, stack := v :: g.stack }) t) (hd : own_d b pc (.aload_n k) 1 := by decide +kernel) (hpc : g.pc = pc := by rfl) (hg : g.method = m := by rfl) (hv : v.isRef = true := by rfl) : Steps p.tables e below (T.setTop g) t := XS.aloadN h hx hg (by rw [hpc]; exact hb hby hd) hl hv hr
theorem xi {v : Int32} (h : At T m c below) (hx : p.tables.exec = Jvm.exec) (hby : c.code = b) (pc : Nat) (k : Fin 4) (hl : g.locals[k.val]? = some (.val (.int v))) (hr : Steps p.tables e below (T.setTop { g with pc := g.pc + 1, stack := .int v :: g.stack }) t) (hd : own_d b pc (.iload_n k) 1 := by decide +kernel) (hpc : g.pc = pc := by rfl) (hg : g.method = m := by rfl) : Steps p.tables e below (T.setTop g) t := XS.iloadN h hx hg (by rw [hpc]; exact hb hby hd) hl hr
theorem xb (h : At T m c below) (hx : p.tables.exec = Jvm.exec) (hby : c.code = b) (pc : Nat) (i : Int) (hr : Steps p.tables e below (T.setTop { g with pc := g.pc + 2, stack := .int (Int8.ofInt i).toInt32 :: g.stack }) t) (hd : own_d b pc (.bipush i) 2 := by decide +kernel) (hpc : g.pc = pc := by rfl) (hg : g.method = m := by rfl) : Steps p.tables e below (T.setTop g) t := XS.bipush h hx hg (by rw [hpc]; exact hb hby hd) hr
theorem xc (h : At T m c below) (hx : p.tables.exec = Jvm.exec) (hby : c.code = b) (pc : Nat) (i : Int) (hr : Steps p.tables e below (T.setTop { g with pc := g.pc + 1, stack := .int (Int32.ofInt i) :: g.stack }) t) (hd : own_d b pc (.iconst i) 1 := by decide +kernel) (hpc : g.pc = pc := by rfl) (hg : g.method = m := by rfl) : Steps p.tables e below (T.setTop g) t := XS.iconst h hx hg (by rw [hpc]; exact hb hby hd) hr
end OwnX
/-- a contract of the walks' shape -/
abbrev own_Met (l : Launch) (y : MethodName) (bytes : ByteArray) (ml : Nat) (ret : Option FieldType) (rm : Room) (Z : State) (h0 : Heap) (as' : Array Value) (Q : Option Value → Heap → List Loc → Prop) : Prop :=
  MetFree l y (head1 [Jvm.Cond.code y bytes ml ret] rm) (fun aa U => aa = as' ∧ Z.Warmed39 U.vm ∧ U.heap = h0) (fun _ _ _ _ _ => True) (fun _ U o U' => ∃ v L, o = .returned v ∧ Q v U'.heap L ∧ FrameEnd U o U' L rm.cells rm.slots)
/-- its beginning and its end -/
theorem own_body {l : Launch} {y : MethodName} {bytes : ByteArray} {ml : Nat} {ret : Option FieldType} {rm : Room} {Z : State} {h0 : Heap} {as' : Array Value} {Q : Option Value → Heap → List Loc → Prop} (hp : plainFor y = true)
    (H : ∀ (p : Program) (e : Env) (s : State) (m : MethodId) (below : List Frame) (meth : Method) (c : Code) (s₁ : State), meth.locks = false → meth.sig.returnType = ret → meth.name = y.name → p.tables.exec = Jvm.exec → c.code = bytes → c.maxLocals = ml → s.vm.findClass y.cls = some m.cls → Z.Warmed39 s.vm → Stand p l e rm s m as' below meth c s₁ [] 0 0 → s₁.heap = h0 →
      ∃ (T : State) (g : JFrame) (v : Option Value) (locs : List Loc) (k n : Nat), Stand p l e rm s m as' below meth c T locs k n ∧ Go p e below s₁ (entryFrame m as' ml) T g ∧ (meth.sig.returnType = none → v = none) ∧ k ≤ rm.cells ∧ n ≤ rm.slots ∧ Q v T.heap locs ∧
        ∀ fs, (∀ (f : JFrame) (acts : List Action), f.method = m → f.locked = none → f.entered = [] → (doReturn e (T.setTop f) acts v).1 = T.setFrames fs) → Steps p.tables e below (T.setTop g) (T.setFrames fs)) : own_Met l y bytes ml ret rm Z h0 as' Q := by
  refine MetFree.of_bodySF hp hisR ?_
  intro p e s m args below meth c s₁ Bd hml0 hP hK
  obtain ⟨ha, hZ, hh⟩ := hP
  subst ha
  have X0 := Stand.of_body Bd
  have hlk : meth.locks = false := BodyLoose.notSynchronized Bd
  obtain ⟨T, g, v, locs, k, n, X, S, hv, hk, hn, hQ, hf⟩ := H p e s m below meth c s₁ hlk Bd.returns (name_of_methodNamed Bd.named Bd.method).1 Bd.exec Bd.bytes hml0 (findClass_of_methodNamed Bd.named) hZ X0 (by rw [← hh, Bd.state]; rfl)
  obtain ⟨fs, hr, hrun, hended, hW, hsame⟩ := X.leave (v := v) hv
  exact ⟨_, _, S _ (hf fs hr), hrun, hended, _, _, rfl, hQ, ⟨_, rfl⟩, hW, hsame.mono hk hn⟩
theorem own_selq {Z s : State} {a0 args : Array Value} {y : MethodName} {C : String} (hZ : Z.Warmed39 s.vm) (ws : (Jvm.Cond.selects C y y).before a0 Z = true) (wp : (Jvm.Cond.privateMethod y).before a0 Z = true) (wm : (Jvm.Cond.instanceMethod y).before a0 Z = true) (hy : y.cls ≠ "java/lang/invoke/MethodHandle" ∧ y.cls ≠ "java/lang/invoke/VarHandle") : (Jvm.Cond.selects y.cls y y).before args s = true := by
  have hs : (Jvm.Cond.selects C y y).before args s = true := mvT hZ ws
  obtain ⟨c, r, m, -, -, h3, -, mk, h5, h6⟩ := Jvm.Cond.selects_spec hs
  exact selects_self_of_private (findClass_of_methodNamed h3) h5 h6 (Cond.privateMethod_at (mvP hZ wp (args := #[]))) (mvT hZ wm) hy
section OwnC
variable {p : Program} {l : Launch} {e : Env} {R : Room} {s : State} {m : MethodId} {args : Array Value} {below : List Frame} {meth : Method} {c : Code} {T : State} {locs : List Loc} {cells slots : Nat} {Z : State} {a0 : Array Value} {h : Heap} {own C : String} {index ml : Nat} {y z : MethodName} {bytes : ByteArray} {maxL : Nat} {ret : Option FieldType} {rm : Room} {as' : Array Value} {Q : Option Value → Heap → List Loc → Prop} {ps : List FieldType} {rt : Option FieldType}
/-- calls: a static method -/
theorem own_cS (X : Stand p l e R s m args below meth c T locs cells slots) (hx : p.tables.exec = Jvm.exec) (hZ : Z.Warmed39 s.vm) (hw : own_W a0 Z) (hown : s.vm.findClass own = some m.cls) (hml : c.maxLocals = ml) (i1 i2 i3 i4 : Nat) (h1 : tables_1[i1]? = some (.methodLink own index y)) (h2 : tables_1[i2]? = some (.static y)) (h3 : tables_1[i3]? = some (.code y bytes maxL ret)) (h4 : tables_1[i4]? = some (.initialized y.cls))
    (hM : own_Met l y bytes maxL ret rm Z h as' Q) (eT : T.heap = h) {W : Nat} {g : JFrame} (hg : g.method = m) {argsL rest : List Value} (pd : parseMethodDescriptor y.desc = some ⟨ps, rt⟩) (hd : decode c.code g.pc = .ok (.invokestatic index, 3))
    (hsz : g.locals.size = ml := by rfl) (hL : argsL.length = ps.length := by rfl) (hst : g.stack = argsL.reverse ++ rest := by rfl) (has : argsL.toArray = as' := by rfl) (hW : 2 * g.monitorRoom + (rest.map fun v => v.category).sum ≤ W := by exact own_w rfl) (hy : y.cls ≠ "java/lang/invoke/MethodHandle" ∧ y.cls ≠ "java/lang/invoke/VarHandle" := by decide) (hf : rm.frames + 1 ≤ R.frames := by decide) (hl : W + (maxL + 11) + rm.locals ≤ R.locals := by decide) (hc : cells + rm.cells ≤ R.cells := by decide) (hs : slots + rm.slots ≤ R.slots := by decide) :
    ∃ (v : Option Value) (T' : State) (L : List Loc), Stand p l e R s m args below meth c T' (locs ++ L) (cells + rm.cells) (slots + rm.slots) ∧ Q v T'.heap L ∧ ∀ t, Steps p.tables e below (T'.setTop { g with pc := g.pc + 3, stack := v.toList ++ rest }) t → Steps p.tables e below (T.setTop g) t :=
  own_outS (Jvm.LawKit.callS X hx (y := y) hown (own_t hZ hw i1 h1) (own_t hZ hw i2 h2) (own_t hZ hw i4 h4) (own_t hZ hw i3 h3) hy (backOf (W := W) hM hZ (own_h hw i3 h3) (own_h hw i4 h4) hf hl) hg (hsz.trans hml.symm) (argsL := argsL) (rest := rest) (lenOf pd hL) hst hW hd (fun _ _ => ⟨has, eT, hc, hs⟩))
/-- .. a constructor -/
theorem own_cI (X : Stand p l e R s m args below meth c T locs cells slots) (hx : p.tables.exec = Jvm.exec) (hZ : Z.Warmed39 s.vm) (hw : own_W a0 Z) (hown : s.vm.findClass own = some m.cls) (hml : c.maxLocals = ml) (i1 i2 i3 i4 : Nat) (h1 : tables_1[i1]? = some (.methodLink own index y)) (h2 : tables_1[i2]? = some (.instanceMethod y)) (h3 : tables_1[i3]? = some (.code y bytes maxL none)) (h4 : tables_1[i4]? = some (.initialized y.cls)) (hy1 : y.name = "<init>") {a : Addr}
    (hM : own_Met l y bytes maxL none rm Z h as' Q) (eT : T.heap = h) {W : Nat} {g : JFrame} (hg : g.method = m) {argsL rest : List Value} (pd : parseMethodDescriptor y.desc = some ⟨ps, rt⟩) (hd : decode c.code g.pc = .ok (.invokespecial index, 3))
    (hsz : g.locals.size = ml := by rfl) (hL : argsL.length = ps.length := by rfl) (hst : g.stack = argsL.reverse ++ .ref a :: rest := by rfl) (has : (.ref a :: argsL).toArray = as' := by rfl) (hW : 2 * g.monitorRoom + (rest.map fun v => v.category).sum ≤ W := by exact own_w rfl) (hy : y.cls ≠ "java/lang/invoke/MethodHandle" ∧ y.cls ≠ "java/lang/invoke/VarHandle" := by decide) (hf : rm.frames + 1 ≤ R.frames := by decide) (hl : W + (maxL + 11) + rm.locals ≤ R.locals := by decide) (hc : cells + rm.cells ≤ R.cells := by decide) (hs : slots + rm.slots ≤ R.slots := by decide) :
    ∃ (v : Option Value) (T' : State) (L : List Loc), Stand p l e R s m args below meth c T' (locs ++ L) (cells + rm.cells) (slots + rm.slots) ∧ Q v T'.heap L ∧ ∀ t, Steps p.tables e below (T'.setTop { g with pc := g.pc + 3, stack := v.toList ++ rest }) t → Steps p.tables e below (T.setTop g) t :=
  own_outV (X.specialBack hx (y := y) hy1 hown (own_t hZ hw i1 h1) (own_t hZ hw i2 h2) (own_t hZ hw i3 h3) hy (backOf (W := W) hM hZ (own_h hw i3 h3) (own_h hw i4 h4) hf hl) hg (hsz.trans hml.symm) (Steps.refl _) (a := a) (argsL := argsL) (rest := rest) (lenOf pd hL) hst hW hd (fun _ _ => ⟨has, eT, hc, hs⟩))
/-- .. a private method -/
theorem own_cP (X : Stand p l e R s m args below meth c T locs cells slots) (hx : p.tables.exec = Jvm.exec) (hZ : Z.Warmed39 s.vm) (hw : own_W a0 Z) (hown : s.vm.findClass own = some m.cls) (hml : c.maxLocals = ml) (i1 i2 i3 i4 i5 i6 : Nat) (h1 : tables_1[i1]? = some (.methodLink own index y)) (h2 : tables_1[i2]? = some (.instanceMethod y)) (h3 : tables_1[i3]? = some (.selects C y y)) (h4 : tables_1[i4]? = some (.privateMethod y)) (h5 : tables_1[i5]? = some (.code y bytes maxL ret)) (h6 : tables_1[i6]? = some (.initialized y.cls)) {a : Addr} {D : String} (E : Exa Z h a D)
    (hM : own_Met l y bytes maxL ret rm Z h as' Q) (eT : T.heap = h) {W : Nat} {g : JFrame} (hg : g.method = m) {argsL rest : List Value} (pd : parseMethodDescriptor y.desc = some ⟨ps, rt⟩) (hd : decode c.code g.pc = .ok (.invokevirtual index, 3))
    (hsz : g.locals.size = ml := by rfl) (hL : argsL.length = ps.length := by rfl) (hst : g.stack = argsL.reverse ++ .ref a :: rest := by rfl) (has : (.ref a :: argsL).toArray = as' := by rfl) (hW : 2 * g.monitorRoom + (rest.map fun v => v.category).sum ≤ W := by exact own_w rfl) (hy : y.cls ≠ "java/lang/invoke/MethodHandle" ∧ y.cls ≠ "java/lang/invoke/VarHandle" := by decide) (hf : rm.frames + 1 ≤ R.frames := by decide) (hl : W + (maxL + 11) + rm.locals ≤ R.locals := by decide) (hc : cells + rm.cells ≤ R.cells := by decide) (hs : slots + rm.slots ≤ R.slots := by decide) :
    ∃ (v : Option Value) (T' : State) (L : List Loc), Stand p l e R s m args below meth c T' (locs ++ L) (cells + rm.cells) (slots + rm.slots) ∧ Q v T'.heap L ∧ ∀ t, Steps p.tables e below (T'.setTop { g with pc := g.pc + 3, stack := v.toList ++ rest }) t → Steps p.tables e below (T.setTop g) t := by
  obtain ⟨cq, q1, q2⟩ := E.cell
  exact own_outV (X.privateBack hx (y := y) hown (own_t hZ hw i1 h1) (own_t hZ hw i2 h2) (own_selq hZ (own_h hw i3 h3) (own_h hw i4 h4) (own_h hw i2 h2) hy) (Cond.privateMethod_at (mvP hZ (own_h hw i4 h4) (args := #[]))) (own_t hZ hw i5 h5) hy (backOf (W := W) hM hZ (own_h hw i5 h5) (own_h hw i6 h6) hf hl) hg (hsz.trans hml.symm) (Steps.refl _) (a := a) (by rw [eT]; exact q1) q2 (argsL := argsL) (rest := rest) (lenOf pd hL) hst hW hd (fun _ _ => ⟨has, eT, hc, hs⟩))
/-- .. a virtual one -/
theorem own_cV (X : Stand p l e R s m args below meth c T locs cells slots) (hx : p.tables.exec = Jvm.exec) (hZ : Z.Warmed39 s.vm) (hw : own_W a0 Z) (hown : s.vm.findClass own = some m.cls) (hml : c.maxLocals = ml) (i1 i2 i3 i4 i5 i6 : Nat) (h1 : tables_1[i1]? = some (.methodLink own index y)) (h2 : tables_1[i2]? = some (.declares y)) (h3 : tables_1[i3]? = some (.selects C y z)) (h4 : tables_1[i4]? = some (.instanceMethod z)) (h5 : tables_1[i5]? = some (.code z bytes maxL ret)) (h6 : tables_1[i6]? = some (.initialized z.cls)) (nf : NotFace s y) {a : Addr} (E : Exa Z h a C)
    (hM : own_Met l z bytes maxL ret rm Z h as' Q) (eT : T.heap = h) {W : Nat} {g : JFrame} (hg : g.method = m) {argsL rest : List Value} (pd : parseMethodDescriptor y.desc = some ⟨ps, rt⟩) (hd : decode c.code g.pc = .ok (.invokevirtual index, 3))
    (hsz : g.locals.size = ml := by rfl) (hL : argsL.length = ps.length := by rfl) (hst : g.stack = argsL.reverse ++ .ref a :: rest := by rfl) (has : (.ref a :: argsL).toArray = as' := by rfl) (hW : 2 * g.monitorRoom + (rest.map fun v => v.category).sum ≤ W := by exact own_w rfl) (hy : y.cls ≠ "java/lang/invoke/MethodHandle" ∧ y.cls ≠ "java/lang/invoke/VarHandle" := by decide) (hf : rm.frames + 1 ≤ R.frames := by decide) (hl : W + (maxL + 11) + rm.locals ≤ R.locals := by decide) (hc : cells + rm.cells ≤ R.cells := by decide) (hs : slots + rm.slots ≤ R.slots := by decide) :
    ∃ (v : Option Value) (T' : State) (L : List Loc), Stand p l e R s m args below meth c T' (locs ++ L) (cells + rm.cells) (slots + rm.slots) ∧ Q v T'.heap L ∧ ∀ t, Steps p.tables e below (T'.setTop { g with pc := g.pc + 3, stack := v.toList ++ rest }) t → Steps p.tables e below (T.setTop g) t := by
  obtain ⟨cq, kq, qa, qb, qc⟩ := isOf hZ eT E
  exact own_outV (X.virtualBack hx (y := y) (z := z) hown (own_t hZ hw i1 h1) (own_t hZ hw i2 h2) nf (own_t hZ hw i3 h3) (own_t hZ hw i4 h4) hy (backOf (W := W) hM hZ (own_h hw i5 h5) (own_h hw i6 h6) hf hl) qa qc hg (hsz.trans hml.symm) (Steps.refl _) (argsL := argsL) (rest := rest) (lenOf pd hL) hst hW hd (fun _ _ => ⟨has, eT, hc, hs⟩))
theorem own_cV1 (X : Stand p l e R s m args below meth c T locs cells slots) (hx : p.tables.exec = Jvm.exec) (hZ : Z.Warmed39 s.vm) (hw : own_W a0 Z) (hown : s.vm.findClass own = some m.cls) (hml : c.maxLocals = ml) (i1 i2 i3 i4 i5 i6 : Nat) (h1 : tables_1[i1]? = some (.methodLink own index y)) (h2 : tables_1[i2]? = some (.declares y)) (h3 : tables_1[i3]? = some (.selects C y y)) (h4 : tables_1[i4]? = some (.instanceMethod y)) (h5 : tables_1[i5]? = some (.code y bytes maxL ret)) (h6 : tables_1[i6]? = some (.initialized y.cls)) {a : Addr} (E : Exa Z h a C)
    (hM : own_Met l y bytes maxL ret rm Z h as' Q) (eT : T.heap = h) {W : Nat} {g : JFrame} (hg : g.method = m) {argsL rest : List Value} (pd : parseMethodDescriptor y.desc = some ⟨ps, rt⟩) (hd : decode c.code g.pc = .ok (.invokevirtual index, 3))
    (hsz : g.locals.size = ml := by rfl) (hL : argsL.length = ps.length := by rfl) (hst : g.stack = argsL.reverse ++ .ref a :: rest := by rfl) (has : (.ref a :: argsL).toArray = as' := by rfl) (hW : 2 * g.monitorRoom + (rest.map fun v => v.category).sum ≤ W := by exact own_w rfl) (hy : y.cls ≠ "java/lang/invoke/MethodHandle" ∧ y.cls ≠ "java/lang/invoke/VarHandle" := by decide) (hf : rm.frames + 1 ≤ R.frames := by decide) (hl : W + (maxL + 11) + rm.locals ≤ R.locals := by decide) (hc : cells + rm.cells ≤ R.cells := by decide) (hs : slots + rm.slots ≤ R.slots := by decide) :
    ∃ (v : Option Value) (T' : State) (L : List Loc), Stand p l e R s m args below meth c T' (locs ++ L) (cells + rm.cells) (slots + rm.slots) ∧ Q v T'.heap L ∧ ∀ t, Steps p.tables e below (T'.setTop { g with pc := g.pc + 3, stack := v.toList ++ rest }) t → Steps p.tables e below (T.setTop g) t :=
  own_cV X hx hZ hw hown hml i1 i2 i3 i4 i5 i6 h1 h2 h3 h4 h5 h6 (notFace_of_selects (args := #[]) (own_t hZ hw i3 h3)) E hM eT hg (argsL := argsL) (rest := rest) pd hd hsz hL hst has hW hy hf hl hc hs
end OwnC
abbrev own_Str (Z : State) (h : Heap) (a b : Addr) (k : ClassId) (n : Int32) (vs : List Value) : Prop := Exa Z h a "java/lang/String" ∧ Fld Z h a "java/lang/String" "coder" "B" (.int (0 : Int32)) ∧ Fld Z h a "java/lang/String" "value" "[B" (.ref b) ∧ Arv Z h b k .byte n vs (.int (0 : Int32))
abbrev own_SB (Z : State) (h : Heap) (q bv : Addr) (k : ClassId) (cap : Int32) (vs : List Value) (cnt : Int32) : Prop := Exa Z h q "java/lang/StringBuilder" ∧ Fld Z h q "java/lang/AbstractStringBuilder" "value" "[B" (.ref bv) ∧ Fld Z h q "java/lang/AbstractStringBuilder" "coder" "B" (.int (0 : Int32)) ∧ Fld Z h q "java/lang/AbstractStringBuilder" "count" "I" (.int cnt) ∧ Exa Z h bv "[B" ∧ Arv Z h bv k .byte cap vs (.int (0 : Int32))
abbrev own_AL (Z : State) (h : Heap) (x : Addr) (ed : Value) (sz mc : Int32) : Prop := Exa Z h x "java/util/ArrayList" ∧ Fld Z h x "java/util/AbstractList" "modCount" "I" (.int mc) ∧ Fld Z h x "java/util/ArrayList" "elementData" "[Ljava/lang/Object;" ed ∧ Fld Z h x "java/util/ArrayList" "size" "I" (.int sz)
abbrev own_Ed (Z : State) (h : Heap) (ed : Addr) (k : ClassId) (vs : List Value) : Prop := Exa Z h ed "[Ljava/lang/Object;" ∧ Arv Z h ed k (.object "java/lang/Object") (10 : Int32) vs .null ∧ Ovr Z k "java/lang/Object"
abbrev own_L (Z : State) (h : Heap) (r : Addr) (e0 e1 : Value) : Prop := Exa Z h r "java/util/ImmutableCollections$List12" ∧ Fld Z h r "java/util/ImmutableCollections$List12" "e0" "Ljava/lang/Object;" e0 ∧ Fld Z h r "java/util/ImmutableCollections$List12" "e1" "Ljava/lang/Object;" e1
/-- the statics: ArrayList's empty array, the empty list and its array, the mark EMPTY -/
def own_St (Z : State) (de em el ey : Addr) : Prop := (∃ z : Int32, Sta Z Z.heap "java/lang/String" "COMPACT_STRINGS" "Z" (.int z) ∧ ¬ z = 0) ∧
  (∃ k : ClassId, Sta Z Z.heap "java/util/ArrayList" "DEFAULTCAPACITY_EMPTY_ELEMENTDATA" "[Ljava/lang/Object;" (.ref de) ∧ Exa Z Z.heap de "[Ljava/lang/Object;" ∧ Arv Z Z.heap de k (.object "java/lang/Object") (0 : Int32) [] .null) ∧
  (∃ k : ClassId, Sta Z Z.heap "java/util/ImmutableCollections" "EMPTY_LIST" "Ljava/util/ImmutableCollections$ListN;" (.ref em) ∧ Exa Z Z.heap em "java/util/ImmutableCollections$ListN" ∧ Fld Z Z.heap em "java/util/ImmutableCollections$ListN" "elements" "[Ljava/lang/Object;" (.ref el) ∧ Arv Z Z.heap el k (.object "java/lang/Object") (0 : Int32) [] .null) ∧
  Sta Z Z.heap "java/util/ImmutableCollections" "EMPTY" "Ljava/lang/Object;" (.ref ey) ∧ Exa Z Z.heap ey "java/lang/Object"
section OwnSt
variable {args : Array Value} {s : State}
theorem own_eqv {t : Term} (h : (Jvm.Cond.eq t (.int 0)).value args s none s [] = some true) : t.eval args s none [] s = some (.int 0) := by
  obtain ⟨x, y, ha, hb, k1, k2⟩ := cmp_v (Or.inl h)
  have hy : y = .int 0 := Option.some.inj (hb.symm.trans (rfl : (Term.int 0).eval args s none [] s = some (.int 0)))
  subst hy
  obtain ⟨z, rfl⟩ := k2
  have e : z = 0 := of_decide_eq_true (Option.some.inj ((Cond.eq_ints ha hb).symm.trans h))
  rw [ha, e]
/-- an empty array of the sheet -/
theorem own_arr0 {t : Term} (hf : Fit s) (h2 : (Jvm.Cond.arrayOf t (.object "java/lang/Object")).before args s = true) (h3 : (Jvm.Cond.eq (.length t) (.int 0)).before args s = true) :
    ∃ (el : Addr) (k : ClassId), t.eval args s none [] s = some (.ref el) ∧ Arv s s.heap el k (.object "java/lang/Object") (0 : Int32) [] .null := by
  obtain ⟨el, ee⟩ := arr_v (Cond.before_iff.mp h2)
  obtain ⟨cl, A⟩ := Arr.start ee (Cond.before_iff.mp h2)
  have e3 := own_eqv (Cond.before_iff.mp h3)
  obtain ⟨el', cl', e4, e5, e6⟩ := Term.length_spec e3
  cases Option.some.inj (ee.symm.trans e4)
  have e7 : s.arrayAt? el = some cl := Arr.fin (U := s) (Vm.Alike.refl s.vm) A
  cases Option.some.inj (e7.symm.trans e5)
  have q : cl.slots.size < 2 ^ 31 := by
    refine Decidable.byContradiction fun hn => ?_
    have hn' : ¬ cl.slots.size < 2147483648 := hn
    simp [Term.eval, ee, e7, hn'] at e3
  have e8 : cl.slots.size.toInt32 = 0 := (Value.int.inj e6).symm
  exact ⟨el, cl.cls, ee, Arv.start hf A q e8 (by decide) rfl trivial⟩
theorem own_ss (hsets : ∀ d ∈ jdkStatics_1, d.before args s = true) (hw : ∀ d ∈ tables_1, d.before args s = true) (hf : Fit s) : ∃ de em el ey, own_St s de em el ey := by
  obtain ⟨i, e1⟩ := is_v (Cond.before_iff.mp (hsets _ (List.mem_of_getElem? (i := 1) rfl)))
  have n5 := not_v (Cond.before_iff.mp (hsets _ (List.mem_of_getElem? (i := 2) rfl)))
  obtain ⟨de, kd, ed, Ad⟩ := own_arr0 hf (hsets _ (List.mem_of_getElem? (i := 15) rfl)) (hsets _ (List.mem_of_getElem? (i := 17) rfl))
  have Ed := Exa.start ed (Cond.before_iff.mp (hsets _ (List.mem_of_getElem? (i := 16) rfl)))
  obtain ⟨em, eem⟩ := exa_v (Cond.before_iff.mp (hsets _ (List.mem_of_getElem? (i := 20) rfl)))
  obtain ⟨el, kl, eel, Al⟩ := own_arr0 hf (hsets _ (List.mem_of_getElem? (i := 21) rfl)) (hsets _ (List.mem_of_getElem? (i := 23) rfl))
  obtain ⟨ey, eey⟩ := exa_v (Cond.before_iff.mp (hsets _ (List.mem_of_getElem? (i := 27) rfl)))
  exact ⟨de, em, el, ey, ⟨i, Sta.start e1 (Or.inl (hsets _ (List.mem_of_getElem? (i := 0) rfl))), gotF (Cond.eq_ints e1 (Term.int_eval (0))) n5⟩,
    ⟨kd, Sta.start ed (Or.inr ⟨own_h hw 33 rfl, hsets _ (List.mem_of_getElem? (i := 11) rfl)⟩), Ed, Ad⟩,
    ⟨kl, Sta.start eem (Or.inl (hsets _ (List.mem_of_getElem? (i := 19) rfl))), Exa.start eem (Cond.before_iff.mp (hsets _ (List.mem_of_getElem? (i := 20) rfl))), Fld.start ((fld_at eem).symm.trans eel), Al⟩,
    Sta.start eey (Or.inl (hsets _ (List.mem_of_getElem? (i := 26) rfl))), Exa.start eey (Cond.before_iff.mp (hsets _ (List.mem_of_getElem? (i := 27) rfl)))⟩
end OwnSt
theorem own_nf {s : State} {y : MethodName} {c : ClassId} {k : Class} (h1 : s.vm.findClass y.cls = some c) (h2 : s.vm.classes[c]? = some k) (h3 : k.isInterface = false) : NotFace s y := fun r0 hn => by
  have h4 := findClass_of_methodNamed hn
  cases h1.symm.trans h4
  exact ⟨k, h2, h3⟩
theorem own_nfS {s : State} {args : Array Value} {y x z : MethodName} {C : String} (w : (Jvm.Cond.selects C x z).before args s = true) (e : z.cls = y.cls) : NotFace s y := by
  obtain ⟨c, r, m, -, -, h3, -, mk, h5, h6⟩ := Jvm.Cond.selects_spec w
  exact own_nf (by rw [← e]; exact findClass_of_methodNamed h3) h5 h6
theorem own_nfC {s : State} {args : Array Value} {y : MethodName} {S : String} (w : (Jvm.Cond.superclass y.cls S).before args s = true) : NotFace s y := by
  obtain ⟨c, hc⟩ := found_sup w
  obtain ⟨p, k, kp, h1, h2, h3, h4, h5, h6, h7⟩ := Jvm.Cond.superclass_spec hc w
  exact own_nf hc h2 (by first | exact h7 | exact h6)
theorem own_nfO {s : State} {args : Array Value} {y : MethodName} (w : (Jvm.Cond.noSuperclass y.cls).before args s = true) : NotFace s y := by
  obtain ⟨c, k, h1, h2, h3, h4, h5⟩ := Jvm.Cond.noSuperclass_spec w
  exact own_nf h1 h2 (by first | exact h5 | exact h4)
theorem own_same {Z : State} {a0 : Array Value} {y : MethodName} (w : (Jvm.Cond.instanceMethod y).before a0 Z = true) (nf : NotFace Z y) (hx : y.cls ≠ "java/lang/invoke/MethodHandle" ∧ y.cls ≠ "java/lang/invoke/VarHandle") : (Jvm.Cond.sameMethod y.cls y.cls y.name y.desc).before a0 Z = true := by
  obtain ⟨mk, methM, hn, hm, -, -⟩ := Jvm.Cond.instanceMethod_spec w
  obtain ⟨kr, hk, hi⟩ := nf mk hn
  have hf := State.methodFound?_of_named hn hx
  have hc := findClass_of_methodNamed hn
  have hn' : Z.methodNamed? ⟨y.cls, y.name, y.desc⟩ = some mk := hn
  simp [Jvm.Cond.before, Jvm.Cond.holds, Jvm.Cond.value, hc, hf, hn', hk, hi]
/-- the mirror of Object[] -/
def own_Mir (s : State) (mir : Addr) : Prop := ∃ c k, s.vm.findClass "[Ljava/lang/Object;" = some c ∧ s.vm.classes[c]? = some k ∧ k.mirror = some mir
theorem own_Mir.at {Z s : State} {mir : Addr} (M : own_Mir Z mir) (hZ : Z.Warmed39 s.vm) : own_Mir s mir := by
  obtain ⟨c, k, h1, h2, h3⟩ := M
  obtain ⟨k', q, e⟩ := hZ.alike.2.2 _ _ h2
  exact ⟨c, k', by rw [hZ.alike.findClass]; exact h1, q, by rw [e]; exact h3⟩
theorem own_Mir.eval {s : State} {args : Array Value} {mir : Addr} (M : own_Mir s mir) : (Term.mirror "[Ljava/lang/Object;").eval args s none [] s = some (.ref mir) := by
  obtain ⟨c, k, h1, h2, h3⟩ := M
  simp [Term.eval, h1, h2, h3]
theorem own_nsR {Z : State} {a0 : Array Value} {O K : String} {t : ClassId} (w : (Jvm.Cond.noSuperclass O).before a0 Z = true) (g1 : Z.vm.findClass K = some t) (hn : O ≠ K) : NS Z O K := by
  obtain ⟨c, k, h1, h2, h3, -, -⟩ := Jvm.Cond.noSuperclass_spec w
  have ne := ids_ne h1 g1 hn
  refine ⟨c, t, h1, g1, fun fuel => ?_⟩
  cases fuel with
  | zero => rfl
  | succ f => simp [Vm.isSubclassAux, ne, h2, h3]
theorem own_nsNo {Z : State} {a0 : Array Value} {C S K : String} {t : ClassId} {kt : Class} (w : (Jvm.Cond.superclass C S).before a0 Z = true) (n : NS Z C K) (hn : C ≠ K) (g0 : Z.vm.findClass K = some t) (g2 : Z.vm.classes[t]? = some kt) (g7 : kt.isInterface = false) : ∃ c t, Z.vm.findClass C = some c ∧ Z.vm.findClass K = some t ∧ Z.vm.assignable c t = false := by
  obtain ⟨c, t', h0, g1, n3⟩ := n
  cases g0.symm.trans g1
  obtain ⟨p, k, kp, h1, h2, h3, h4, h5, -, h7⟩ := Jvm.Cond.superclass_spec h0 w
  have ne := ids_ne h0 g0 hn
  refine ⟨c, t, h0, g0, ?_⟩
  show Z.vm.assignableAux (255 + 1) c t = false
  cases hk : kt.kind <;> simp [Vm.assignableAux, ne, h2, g2, h5, hk, g7, Vm.isSubclass, n3]
theorem own_faceS {Z : State} {args : Array Value} {C : String} {x z : MethodName} (w : (Jvm.Cond.selects C x z).before args Z = true) : ∃ t kt, Z.vm.findClass z.cls = some t ∧ Z.vm.classes[t]? = some kt ∧ kt.isInterface = false := by
  obtain ⟨c, r, m, -, -, h3, -, mk, h5, h6⟩ := Jvm.Cond.selects_spec w
  exact ⟨m.cls, mk, findClass_of_methodNamed h3, h5, h6⟩
theorem own_faceI {Z : State} {args : Array Value} {C : String} {n : Nat} (w : (Jvm.Cond.instantiable C n).before args Z = true) : ∃ t kt, Z.vm.findClass C = some t ∧ Z.vm.classes[t]? = some kt ∧ kt.isInterface = false := by
  obtain ⟨c, k, h1, h2, h3, h4, -⟩ := Jvm.Cond.instantiable_spec w
  simp only [Bool.or_eq_false_iff] at h4
  exact ⟨c, k, h1, h2, h4.1⟩
/-- an ArrayList is neither of the two -/
theorem own_alNo {Z : State} {a0 : Array Value} {K : String} (hw : ∀ d ∈ tables_1, d.before a0 Z = true) (h : ∃ t kt, Z.vm.findClass K = some t ∧ Z.vm.classes[t]? = some kt ∧ kt.isInterface = false) (n1 : "java/util/ArrayList" ≠ K) (n2 : "java/util/AbstractList" ≠ K) (n3 : "java/util/AbstractCollection" ≠ K) (n4 : "java/lang/Object" ≠ K) : ∃ c t, Z.vm.findClass "java/util/ArrayList" = some c ∧ Z.vm.findClass K = some t ∧ Z.vm.assignable c t = false := by
  obtain ⟨t, kt, g0, g2, g7⟩ := h
  exact own_nsNo (own_h hw 125 rfl) (NS.step (own_h hw 125 rfl) (NS.step (own_h hw 126 rfl) (NS.step (own_h hw 127 rfl) (own_nsR (own_h hw 128 rfl) g0 n4) n3) n2) n1) n1 g0 g2 g7
/-- one byte a sign -/
def own_vs (cs : List Int32) : List Value := cs.map fun z => Value.int (StrChars.lo8 z)
/-- a sign of Latin-1 -/
abbrev own_c (z : Int32) : Prop := 0 ≤ z.toInt ∧ z.toInt ≤ 255
theorem own_lt {z k : Int32} (n : Int) (hk : k.toInt = n) : z < k ↔ z.toInt < n := by rw [Int32.lt_iff_toInt_lt, hk]
theorem own_gt {z k : Int32} (n : Int) (hk : k.toInt = n) : k < z ↔ n < z.toInt := by rw [Int32.lt_iff_toInt_lt, hk]
theorem own_eq {z k : Int32} (n : Int) (hk : k.toInt = n) : z = k ↔ z.toInt = n := by rw [← Int32.toInt_inj, hk]
theorem own_rng {z : Int32} (h : own_c z) : ¬ z < 0 ∧ ¬ (255 : Int32) < z := by
  rw [own_lt (k := 0) 0 rfl, own_gt (k := 255) 255 rfl]
  obtain ⟨h1, h2⟩ := h
  omega
theorem own_rng2 {z : Int32} (h : own_c z) : ¬ z < 0 ∧ ¬ (65535 : Int32) < z := by
  rw [own_lt (k := 0) 0 rfl, own_gt (k := 65535) 65535 rfl]
  obtain ⟨h1, h2⟩ := h
  omega
theorem own_nc {z : Int32} (h : own_c z) : nar .char z = z := Value.int.inj (StrChars.narrow_ch (own_rng2 h).1 (own_rng2 h).2)
theorem own_nc2 {z : Int32} (h : own_c z) : z.toUInt32.toUInt16.toUInt32.toInt32 = z := own_nc h
theorem own_cand (x : Int32) : own_c (x &&& 255) := by
  show 0 ≤ (x &&& 255).toInt ∧ (x &&& 255).toInt ≤ 255
  have h : (x &&& 255).toBitVec.toNat ≤ 255 := by
    rw [Int32.toBitVec_and, BitVec.toNat_and]; exact Nat.and_le_right
  have e : (x &&& 255).toInt = (x &&& 255).toBitVec.toInt := rfl
  rw [e, BitVec.toInt_eq_toNat_cond, if_pos (by omega)]
  omega
theorem own_toI {j : Nat} (h : j < 2000) : (Int32.ofNat j).toInt = j := Int32.toInt_ofNat_of_lt (by omega)
theorem own_toN {j : Nat} (h : j < 2000) : (Int32.ofNat j).toNatClampNeg = j := by simp only [Int32.toNatClampNeg, own_toI h]; rfl
theorem own_nn {j : Nat} (h : j < 2000) : ¬ Int32.ofNat j < 0 := by rw [own_lt (k := 0) 0 rfl, own_toI h]; omega
theorem own_and (x : Int32) : 0 ≤ (x &&& 2147483647).toInt := by
  have h : (x &&& 2147483647).toBitVec.toNat ≤ 2147483647 := by
    rw [Int32.toBitVec_and, BitVec.toNat_and]; exact Nat.and_le_right
  have e : (x &&& 2147483647).toInt = (x &&& 2147483647).toBitVec.toInt := rfl
  rw [e, BitVec.toInt_eq_toNat_cond, if_pos (by omega)]
  omega
theorem own_mod (x : Int32) {k : Int32} (n : Nat) (hk : k.toInt = n) (h0 : 0 < n) (h1 : n < 1000) : ∃ j : Nat, j < n ∧ (x &&& 2147483647) % k = Int32.ofNat j := by
  have h := own_and x
  refine ⟨((x &&& 2147483647).toInt % n).toNat, ?_, ?_⟩
  · have := Int.emod_lt_of_pos (x &&& 2147483647).toInt (show (0 : Int) < n by omega)
    have := Int.emod_nonneg (x &&& 2147483647).toInt (show (n : Int) ≠ 0 by omega)
    omega
  · apply Int32.toInt_inj.mp
    have a := Int.emod_lt_of_pos (x &&& 2147483647).toInt (show (0 : Int) < n by omega)
    have b := Int.emod_nonneg (x &&& 2147483647).toInt (show (n : Int) ≠ 0 by omega)
    rw [own_toI (by omega), Int32.toInt_mod, hk, Int.tmod_eq_emod_of_nonneg h]
    omega
theorem own_ltn {i j : Nat} (hi : i < 2000) (hj : j < 2000) : Int32.ofNat i < Int32.ofNat j ↔ i < j := by
  rw [Int32.lt_iff_toInt_lt, own_toI hi, own_toI hj]; omega
theorem own_eqn {i j : Nat} (hi : i < 2000) (hj : j < 2000) : Int32.ofNat i = Int32.ofNat j ↔ i = j := by
  rw [← Int32.toInt_inj, own_toI hi, own_toI hj]; omega
theorem own_shr0 (x : Int32) : x >>> ((0 : Int32) &&& 31) = x := by rw [show (0 : Int32) &&& 31 = 0 from rfl]; exact Int32.shiftRight_zero
theorem own_shl0 (x : Int32) : x <<< ((0 : Int32) &&& 31) = x := by rw [show (0 : Int32) &&& 31 = 0 from rfl]; exact Int32.shiftLeft_zero
theorem own_subI {a b : Nat} (ha : a < 2000) (hb : b < 2000) : (Int32.ofNat a - Int32.ofNat b).toInt = (a : Int) - b := by
  rw [Int32.toInt_sub, own_toI ha, own_toI hb]
  first | exact Int.bmod_eq_of_le (by omega) (by omega) | (simp only [Int.bmod]; omega)
theorem own_np {a b : Nat} (ha : a < 2000) (hb : b < 2000) (h : a ≤ b) : ¬ (0 : Int32) < Int32.ofNat a - Int32.ofNat b := by
  rw [own_gt (k := 0) 0 rfl, own_subI ha hb]; omega
theorem own_one : ∀ x : Int32, (x &&& 1) = 0 ∨ (x &&& 1) = 1 := fun x => and_one x
theorem own_not (t : String) : t ∉ ([] : List String) := fun h => nomatch h
theorem own_cpT {vs : List Value} {dv : Value} {nn : Nat} (h : nn ≤ vs.length) : (List.range nn).map (fun i => vs.getD (0 + i) dv) = vs.take nn := by
  apply List.ext_getElem
  · simp; omega
  · intro i h1 h2
    have hi : i < vs.length := by simp at h2; omega
    simp [List.getD_eq_getElem?_getD, List.getElem?_eq_getElem hi]
/-- what a copy from place 0 takes -/
theorem own_hus {vs : List Value} {dv : Value} {sp nn : Int32} {n : Nat} (h0 : sp.toNatClampNeg = 0) (hn : nn.toNatClampNeg = n) (h : n ≤ vs.length) : vs.take n = (List.range nn.toNatClampNeg).map fun i => vs.getD (sp.toNatClampNeg + i) dv := by rw [h0, hn]; exact (own_cpT h).symm
theorem own_frm {a b : Nat} {L : List Loc} (h : b ≤ a) (N : Fr a L) : Fr b L := fun y hy => Nat.le_trans h (N y hy)
theorem own_b8 (x : Int32) : (x.toInt8.toInt32).toInt8.toInt32 = StrChars.lo8 x := by unfold StrChars.lo8; simp
theorem own_sub0 (x : Int32) : x - (0 : Int32) = x := by simp
theorem own_inc (j : Nat) : Int32.ofNat j + (1 : Int32) = Int32.ofNat (j + 1) := (Int32.ofNat_add j 1).symm
theorem own_add (i j : Nat) : Int32.ofNat i + Int32.ofNat j = Int32.ofNat (i + j) := (Int32.ofNat_add i j).symm
theorem own_rep (n : Nat) (d : Value) (us : List Value) : (List.replicate n d).take (0 : Int32).toNatClampNeg ++ us ++ (List.replicate n d).drop ((0 : Int32).toNatClampNeg + n) = us := by
  rw [show (0 : Int32).toNatClampNeg = 0 from rfl]
  simp
theorem own_len {vs ws : List Value} {c n cap : Nat} (h : c + n ≤ cap) (hv : vs.length = cap) (hw : ws.length = n) : (vs.take c ++ ws ++ vs.drop (c + n)).length = cap := by
  simp only [List.length_append, List.length_take, List.length_drop]; omega
theorem own_husF {vs : List Value} {dv : Value} {sp nn : Int32} {n : Nat} (h0 : sp.toNatClampNeg = 0) (hn : nn.toNatClampNeg = n) (h : vs.length = n) : vs = (List.range nn.toNatClampNeg).map fun i => vs.getD (sp.toNatClampNeg + i) dv := by
  have q := own_hus (dv := dv) h0 hn (Nat.le_of_eq h.symm)
  rw [List.take_of_length_le (Nat.le_of_eq h)] at q
  exact q
theorem own_z16 : ([(.int (0 : Int32)), (.int (0 : Int32)), (.int (0 : Int32)), (.int (0 : Int32)), (.int (0 : Int32)), (.int (0 : Int32)), (.int (0 : Int32)), (.int (0 : Int32)), (.int (0 : Int32)), (.int (0 : Int32)), (.int (0 : Int32)), (.int (0 : Int32)), (.int (0 : Int32)), (.int (0 : Int32)), (.int (0 : Int32)), (.int (0 : Int32))] : List Value) = own_vs [0, 0, 0, 0, 0, 0, 0, 0, 0, 0, 0, 0, 0, 0, 0, 0] := by decide +kernel
theorem own_v34 {vs : List Value} : ([(.int (0 : Int32)), (.int (0 : Int32)), (.int (0 : Int32)), (.int (0 : Int32)), (.int (0 : Int32)), (.int (0 : Int32)), (.int (0 : Int32)), (.int (0 : Int32)), (.int (0 : Int32)), (.int (0 : Int32)), (.int (0 : Int32)), (.int (0 : Int32)), (.int (0 : Int32)), (.int (0 : Int32)), (.int (0 : Int32)), (.int (0 : Int32)), (.int (0 : Int32)), (.int (0 : Int32)), (.int (0 : Int32)), (.int (0 : Int32)), (.int (0 : Int32)), (.int (0 : Int32)), (.int (0 : Int32)), (.int (0 : Int32)), (.int (0 : Int32)), (.int (0 : Int32)), (.int (0 : Int32)), (.int (0 : Int32)), (.int (0 : Int32)), (.int (0 : Int32)), (.int (0 : Int32)), (.int (0 : Int32)), (.int (0 : Int32)), (.int (0 : Int32))] : List Value).take (0 : Int32).toNatClampNeg ++ vs ++ ([(.int (0 : Int32)), (.int (0 : Int32)), (.int (0 : Int32)), (.int (0 : Int32)), (.int (0 : Int32)), (.int (0 : Int32)), (.int (0 : Int32)), (.int (0 : Int32)), (.int (0 : Int32)), (.int (0 : Int32)), (.int (0 : Int32)), (.int (0 : Int32)), (.int (0 : Int32)), (.int (0 : Int32)), (.int (0 : Int32)), (.int (0 : Int32)), (.int (0 : Int32)), (.int (0 : Int32)), (.int (0 : Int32)), (.int (0 : Int32)), (.int (0 : Int32)), (.int (0 : Int32)), (.int (0 : Int32)), (.int (0 : Int32)), (.int (0 : Int32)), (.int (0 : Int32)), (.int (0 : Int32)), (.int (0 : Int32)), (.int (0 : Int32)), (.int (0 : Int32)), (.int (0 : Int32)), (.int (0 : Int32)), (.int (0 : Int32)), (.int (0 : Int32))] : List Value).drop ((0 : Int32).toNatClampNeg + (16 : Int32).toNatClampNeg) = vs ++ List.replicate 18 (.int (0 : Int32)) := by first | rfl | simp
abbrev own_LI (Z : State) (h : Heap) (x r : Addr) (sz c : Int32) : Prop := Exa Z h x "java/util/ImmutableCollections$ListItr" ∧ Fld Z h x "java/util/ImmutableCollections$ListItr" "list" "Ljava/util/List;" (.ref r) ∧ Fld Z h x "java/util/ImmutableCollections$ListItr" "size" "I" (.int sz) ∧ Fld Z h x "java/util/ImmutableCollections$ListItr" "cursor" "I" (.int c)
/-- an ArrayList of at most two Strings -/
def own_ALg (Z : State) (h : Heap) (de x : Addr) : List Addr → Prop
  | [] => ∃ mc : Int32, own_AL Z h x (.ref de) (0 : Int32) mc
  | [u] => ∃ (ed : Addr) (ke : ClassId) (mc : Int32), own_AL Z h x (.ref ed) (1 : Int32) mc ∧ own_Ed Z h ed ke [(.ref u), .null, .null, .null, .null, .null, .null, .null, .null, .null] ∧ Exa Z h u "java/lang/String"
  | [u, w] => ∃ (ed : Addr) (ke : ClassId) (mc : Int32), own_AL Z h x (.ref ed) (2 : Int32) mc ∧ own_Ed Z h ed ke [(.ref u), (.ref w), .null, .null, .null, .null, .null, .null, .null, .null] ∧ Exa Z h u "java/lang/String" ∧ Exa Z h w "java/lang/String"
  | _ => False
/-- what List.copyOf makes of it -/
def own_ILg (Z : State) (h : Heap) (em ey r : Addr) : List Addr → Prop
  | [] => r = em
  | [u] => own_L Z h r (.ref u) (.ref ey)
  | [u, w] => own_L Z h r (.ref u) (.ref w)
  | _ => False
section OwnG
variable {Z : State} {h h' : Heap} {de em ey x r : Addr}
theorem own_al0 {mc : Int32} (A : own_AL Z h x (.ref de) (0 : Int32) mc) : own_ALg Z h de x [] := Exists.intro mc A
theorem own_al1 {u ed : Addr} {ke : ClassId} {mc : Int32} (A : own_AL Z h x (.ref ed) (1 : Int32) mc) (B : own_Ed Z h ed ke [(.ref u), .null, .null, .null, .null, .null, .null, .null, .null, .null]) (E : Exa Z h u "java/lang/String") : own_ALg Z h de x [u] := Exists.intro ed (Exists.intro ke (Exists.intro mc ⟨A, B, E⟩))
theorem own_al2 {u w ed : Addr} {ke : ClassId} {mc : Int32} (A : own_AL Z h x (.ref ed) (2 : Int32) mc) (B : own_Ed Z h ed ke [(.ref u), (.ref w), .null, .null, .null, .null, .null, .null, .null, .null]) (E : Exa Z h u "java/lang/String") (E' : Exa Z h w "java/lang/String") : own_ALg Z h de x [u, w] := Exists.intro ed (Exists.intro ke (Exists.intro mc ⟨A, B, E, E'⟩))
theorem own_il1 {u : Addr} (H : own_L Z h r (.ref u) (.ref ey)) : own_ILg Z h em ey r [u] := H
theorem own_il2 {u w : Addr} (H : own_L Z h r (.ref u) (.ref w)) : own_ILg Z h em ey r [u, w] := H
theorem own_ALg.cases {Ls : List Addr} (H : own_ALg Z h de x Ls) : (Ls = [] ∧ ∃ mc : Int32, own_AL Z h x (.ref de) (0 : Int32) mc) ∨
    (∃ (u ed : Addr) (ke : ClassId) (mc : Int32), Ls = [u] ∧ own_AL Z h x (.ref ed) (1 : Int32) mc ∧ own_Ed Z h ed ke [(.ref u), .null, .null, .null, .null, .null, .null, .null, .null, .null] ∧ Exa Z h u "java/lang/String") ∨
    (∃ (u w ed : Addr) (ke : ClassId) (mc : Int32), Ls = [u, w] ∧ own_AL Z h x (.ref ed) (2 : Int32) mc ∧ own_Ed Z h ed ke [(.ref u), (.ref w), .null, .null, .null, .null, .null, .null, .null, .null] ∧ Exa Z h u "java/lang/String" ∧ Exa Z h w "java/lang/String") := by
  match Ls, H with
  | [], H => exact Or.inl ⟨rfl, H⟩
  | [u], H =>
    obtain ⟨ed, ke, mc, H1, H2, H3⟩ := H
    exact Or.inr (Or.inl ⟨u, ed, ke, mc, rfl, H1, H2, H3⟩)
  | [u, w], H =>
    obtain ⟨ed, ke, mc, H1, H2, H3, H4⟩ := H
    exact Or.inr (Or.inr ⟨u, w, ed, ke, mc, rfl, H1, H2, H3, H4⟩)
  | _ :: _ :: _ :: _, H => exact False.elim H
theorem own_AL.kp {ed : Value} {sz mc : Int32} (K : Keep h h' []) (A : own_AL Z h x ed sz mc) : own_AL Z h' x ed sz mc := ⟨A.1.keep K, A.2.1.keep K nin0, A.2.2.1.keep K nin0, A.2.2.2.keep K nin0⟩
theorem own_Ed.kp {ed : Addr} {ke : ClassId} {vs : List Value} (K : Keep h h' []) (B : own_Ed Z h ed ke vs) : own_Ed Z h' ed ke vs := ⟨B.1.keep K, B.2.1.keep K nin0, B.2.2⟩
theorem own_L.kp {e0 e1 : Value} (K : Keep h h' []) (A : own_L Z h r e0 e1) : own_L Z h' r e0 e1 := ⟨A.1.keep K, A.2.1.keep K nin0, A.2.2.keep K nin0⟩
theorem own_L.wr {e0 e1 : Value} {y : Addr} {sl : Nat} {v : Value} (W : Wr h h' y sl v) (E : Exa Z h y "com/example/passlane/passlane/oidc/Client") (A : own_L Z h r e0 e1) : own_L Z h' r e0 e1 := ⟨A.1.wr W, A.2.1.other W (Or.inl (Exa.ne A.1 E (by decide))), A.2.2.other W (Or.inl (Exa.ne A.1 E (by decide)))⟩
theorem own_ALg.keep {Ls : List Addr} (K : Keep h h' []) (H : own_ALg Z h de x Ls) : own_ALg Z h' de x Ls := by
  rcases H.cases with ⟨rfl, mc, A⟩ | ⟨u, ed, ke, mc, rfl, A, B, E⟩ | ⟨u, w, ed, ke, mc, rfl, A, B, E, E'⟩
  · exact own_al0 (own_AL.kp K A)
  · exact own_al1 (own_AL.kp K A) (own_Ed.kp K B) (E.keep K)
  · exact own_al2 (own_AL.kp K A) (own_Ed.kp K B) (E.keep K) (E'.keep K)
theorem own_ILg.keep {Ls : List Addr} (K : Keep h h' []) (H : own_ILg Z h em ey r Ls) : own_ILg Z h' em ey r Ls := by
  match Ls, H with
  | [], H => exact H
  | [u], H => exact own_il1 (own_L.kp K H)
  | [u, w], H => exact own_il2 (own_L.kp K H)
  | _ :: _ :: _ :: _, H => exact False.elim H
theorem own_ILg.wr {Ls : List Addr} {y : Addr} {sl : Nat} {v : Value} (W : Wr h h' y sl v) (E : Exa Z h y "com/example/passlane/passlane/oidc/Client") (H : own_ILg Z h em ey r Ls) : own_ILg Z h' em ey r Ls := by
  match Ls, H with
  | [], H => exact H
  | [u], H => exact own_il1 (own_L.wr W E H)
  | [u, w], H => exact own_il2 (own_L.wr W E H)
  | _ :: _ :: _ :: _, H => exact False.elim H
end OwnG
/-- the expected array, its first k signs written -/
def own_fl (cs : List Int32) (k N : Nat) : List Value := (cs.take k).map Value.int ++ List.replicate (N - k) (.int 0)
def own_px (a b : Int32) : List Int32 := [67, 108, 105, 101, 110, 116, 91, 105, 100, 61, a, b, 44, 32, 114, 101, 100, 105, 114, 101, 99, 116, 85, 114, 105, 115, 61, 91]
theorem own_fll {cs : List Int32} {k N : Nat} (hk : k ≤ cs.length) (h : k ≤ N) : (own_fl cs k N).length = N := by
  simp only [own_fl, List.length_append, List.length_map, List.length_take, List.length_replicate]; omega
theorem own_fls {cs : List Int32} {i N : Nat} {c c' : Int32} (hc : c' = c) (h : cs[i]? = some c) (hN : i < N) : (own_fl cs i N).set i (.int c') = own_fl cs (i + 1) N := by
  subst hc
  obtain ⟨hi, he⟩ := List.getElem?_eq_some_iff.mp h
  have hl : ((cs.take i).map Value.int).length = i := by simp; omega
  unfold own_fl
  rw [List.set_append_right i _ (by omega), hl, Nat.sub_self, show N - i = (N - (i + 1)) + 1 by omega, List.replicate_succ, List.set_cons_zero, List.take_add_one, h]
  simp
theorem own_ltk {k : Int32} {i N : Nat} (hk : k.toInt = (i : Int)) (hi : i < N) (hN : N < 2000) : k < Int32.ofNat N := by
  rw [Int32.lt_iff_toInt_lt, hk, own_toI hN]; omega
theorem own_flN {cs : List Int32} {N : Nat} (h : cs.length = N) : own_fl cs N N = cs.map Value.int := by
  unfold own_fl
  rw [Nat.sub_self, List.take_of_length_le (Nat.le_of_eq h)]
  simp
theorem own_flA {Z : State} {h : Heap} {x : Addr} {k : ClassId} {n : Int32} {cs : List Int32} {i N : Nat} {d : Value} (V : Arv Z h x k .char n (own_fl cs i N) d) (hi : i = N) (hl : cs.length = N) : Arv Z h x k .char n (cs.map Value.int) d := by
  subst hi
  rw [own_flN hl] at V
  exact V
/-- a sign written into the expected array -/
theorem own_stp {p : Program} {l : Launch} {e : Env} {R : Room} {s : State} {m : MethodId} {args : Array Value} {below : List Frame} {meth : Method} {c : Code} {T : State} {locs : List Loc} {cells slots : Nat} {Z : State} {h : Heap} {ex : Addr} {kx : ClassId} {cs : List Int32} {N n0 : Nat} (i : Nat) {x cc j : Int32} (X : Stand p l e R s m args below meth c T locs cells slots) (hx : p.tables.exec = Jvm.exec) (hZ : Z.Warmed39 s.vm) (eT : T.heap = h) (V : Arv Z h ex kx .char (Int32.ofNat N) (own_fl cs i N) (.int (0 : Int32)))
    (hc : x.toUInt32.toUInt16.toUInt32.toInt32 = cc) (hcs : cs[i]? = some cc) (hi : i < N) (hN : N < 2000) (Nf : Fr n0 locs) (ge : n0 ≤ ex) {h0 : Heap} {ws : List Addr} (K0 : Keep h0 h ws) (qk : ex ∈ ws ∨ h0.size ≤ ex) (hj : j.toInt = (i : Int)) {g : JFrame} (hg : g.method = m) {rest : List Value} (hs : g.stack = .int x :: .int j :: .ref ex :: rest) (hd : decode c.code g.pc = .ok (.castore, 1)) :
    ∃ T' h' L, Stand p l e R s m args below meth c T' L cells slots ∧ T'.heap = h' ∧ Fr n0 L ∧ Keep h0 h' ws ∧ Arv Z h' ex kx .char (Int32.ofNat N) (own_fl cs (i + 1) N) (.int (0 : Int32)) ∧ ∀ t, Steps p.tables e below (T'.setTop { g with pc := g.pc + 1, stack := rest }) t → Steps p.tables e below (T.setTop g) t := by
  obtain ⟨c1, A, q, S, Nn, H, G⟩ := id V
  obtain ⟨hil, -⟩ := List.getElem?_eq_some_iff.mp hcs
  have hin : ¬ (j < 0 ∨ c1.slots.size ≤ j.toNatClampNeg) := inb_of S ⟨by rw [own_lt (k := 0) 0 rfl, hj]; omega, own_ltk hj hi hN⟩
  obtain ⟨T', h', X', e', W, st⟩ := stC X hx hZ eT A (j := j) hin hg hs hd
  have hjn : j.toNatClampNeg = i := by simp only [Int32.toNatClampNeg, hj]; rfl
  have V' : Arv Z h' ex kx .char (Int32.ofNat N) ((own_fl cs i N).set i (.int x.toUInt32.toUInt16.toUInt32.toInt32)) (.int (0 : Int32)) := Arv.set A q S Nn H G (fits_nar_char _) W i hjn (by rw [own_fll (by omega) (by omega)]; exact hi)
  rw [own_fls hc hcs hi] at V'
  exact ⟨T', h', _, X', e', Fr.snoc X' Nf ge, K0.wr W qk, V', st⟩
theorem own_ht0 : (∀ c ∈ "[]".toList, c.toNat < 256) ∧ "[]".toList.map (fun c => Value.int (Jvm.Lit.byteI c.toNat.toUInt16)) = own_vs [91, 93] := ⟨by decide +kernel, by decide +kernel⟩
theorem own_ht1 : (∀ c ∈ "Client[id=".toList, c.toNat < 256) ∧ "Client[id=".toList.map (fun c => Value.int (Jvm.Lit.byteI c.toNat.toUInt16)) = own_vs [67, 108, 105, 101, 110, 116, 91, 105, 100, 61] := ⟨by decide +kernel, by decide +kernel⟩
theorem own_ht2 : (∀ c ∈ ", redirectUris=".toList, c.toNat < 256) ∧ ", redirectUris=".toList.map (fun c => Value.int (Jvm.Lit.byteI c.toNat.toUInt16)) = own_vs [44, 32, 114, 101, 100, 105, 114, 101, 99, 116, 85, 114, 105, 115, 61] := ⟨by decide +kernel, by decide +kernel⟩
theorem own_ht3 : (∀ c ∈ "]".toList, c.toNat < 256) ∧ "]".toList.map (fun c => Value.int (Jvm.Lit.byteI c.toNat.toUInt16)) = own_vs [93] := ⟨by decide +kernel, by decide +kernel⟩
theorem own_vsAt {cs : List Int32} {j : Nat} (h : j < 2000) (hj : j < cs.length) : (own_vs cs).getD (Int32.ofNat j).toNatClampNeg (.int (0 : Int32)) = .int (StrChars.lo8 (cs.getD j 0)) := by
  rw [own_toN h, List.getD_eq_getElem?_getD, List.getD_eq_getElem?_getD, own_vs, List.getElem?_map, List.getElem?_eq_getElem hj]
  rfl
theorem own_m8 (x : Int32) : (x &&& 255).toUInt32.toUInt16.toUInt32.toInt32 = x &&& 255 := own_nc2 (own_cand x)
/-- the Strings in the list -/
def own_Els (Z : State) (h : Heap) (cu cv : Int32) : Nat → List Addr → Prop
  | 0, [] => True
  | 1, [u] => ∃ (ub : Addr) (uk : ClassId), own_Str Z h u ub uk (1 : Int32) (own_vs [cu])
  | 2, [u, w] => (∃ (ub : Addr) (uk : ClassId), own_Str Z h u ub uk (1 : Int32) (own_vs [cu])) ∧ ∃ (vb : Addr) (vk : ClassId), own_Str Z h w vb vk (1 : Int32) (own_vs [cv])
  | _, _ => False
theorem own_strK {Z : State} {h h' : Heap} {a b : Addr} {k : ClassId} {n : Int32} {vs : List Value} (K : Keep h h' []) (H : own_Str Z h a b k n vs) : own_Str Z h' a b k n vs := ⟨H.1.keep K, H.2.1.keep K nin0, H.2.2.1.keep K nin0, H.2.2.2.keep K nin0⟩
section OwnE
variable {Z : State} {h h' : Heap} {cu cv : Int32}
theorem own_e0 : own_Els Z h cu cv 0 [] := True.intro
theorem own_e1 {u ub : Addr} {uk : ClassId} (H : own_Str Z h u ub uk (1 : Int32) (own_vs [cu])) : own_Els Z h cu cv 1 [u] := Exists.intro ub (Exists.intro uk H)
theorem own_e2 {u ub w vb : Addr} {uk vk : ClassId} (H : own_Str Z h u ub uk (1 : Int32) (own_vs [cu])) (H' : own_Str Z h w vb vk (1 : Int32) (own_vs [cv])) : own_Els Z h cu cv 2 [u, w] := And.intro (Exists.intro ub (Exists.intro uk H)) (Exists.intro vb (Exists.intro vk H'))
theorem own_Els.c0 {L : List Addr} (H : own_Els Z h cu cv 0 L) : L = [] := by
  match L, H with
  | [], _ => rfl
  | _ :: _, H => exact False.elim H
theorem own_Els.c1 {L : List Addr} (H : own_Els Z h cu cv 1 L) : ∃ u, L = [u] ∧ ∃ (ub : Addr) (uk : ClassId), own_Str Z h u ub uk (1 : Int32) (own_vs [cu]) := by
  match L, H with
  | [], H => exact False.elim H
  | [u], H => exact ⟨u, rfl, H⟩
  | _ :: _ :: _, H => exact False.elim H
theorem own_Els.c2 {L : List Addr} (H : own_Els Z h cu cv 2 L) : ∃ u w, L = [u, w] ∧ (∃ (ub : Addr) (uk : ClassId), own_Str Z h u ub uk (1 : Int32) (own_vs [cu])) ∧ ∃ (vb : Addr) (vk : ClassId), own_Str Z h w vb vk (1 : Int32) (own_vs [cv]) := by
  match L, H with
  | [], H => exact False.elim H
  | [_], H => exact False.elim H
  | [u, w], H => exact ⟨u, w, rfl, H⟩
  | _ :: _ :: _ :: _, H => exact False.elim H
theorem own_Els.keep {L : List Addr} {n : Nat} (hn : n < 3) (K : Keep h h' []) (H : own_Els Z h cu cv n L) : own_Els Z h' cu cv n L := by
  obtain rfl | rfl | rfl : n = 0 ∨ n = 1 ∨ n = 2 := by omega
  · obtain rfl := H.c0
    exact own_e0
  · obtain ⟨u, rfl, ub, uk, q⟩ := H.c1
    exact own_e1 (own_strK K q)
  · obtain ⟨u, w, rfl, ⟨ub, uk, q⟩, vb, vk, r⟩ := H.c2
    exact own_e2 (own_strK K q) (own_strK K r)
end OwnE
def own_N : Nat → Int32
  | 0 => 30
  | 1 => 31
  | _ => 34
def own_tl (u v : Int32) : Nat → List Int32
  | 0 => [93, 93]
  | 1 => [u, 93, 93]
  | _ => [u, 44, 32, v, 93, 93]
/-- the bytes of the first k signs -/
def own_fb (cs : List Int32) (k : Nat) : List Value := own_vs (cs.take k) ++ List.replicate (cs.length - k) (.int (0 : Int32))
theorem own_fb0 (cs : List Int32) : own_fb cs 0 = List.replicate cs.length (.int (0 : Int32)) := by simp [own_fb, own_vs]
theorem own_fbN (cs : List Int32) : own_fb cs cs.length = own_vs cs := by simp [own_fb, own_vs]
theorem own_fbl {cs : List Int32} {k : Nat} (hk : k ≤ cs.length) : (own_fb cs k).length = cs.length := by
  simp only [own_fb, own_vs, List.length_append, List.length_map, List.length_take, List.length_replicate]; omega
theorem own_fbs {cs : List Int32} {i : Nat} (hi : i < cs.length) : (own_fb cs i).set i (.int (((cs.getD i 0).toInt8.toInt32).toInt8.toInt32)) = own_fb cs (i + 1) := by
  have hl : (own_vs (cs.take i)).length = i := by simp [own_vs]; omega
  have hg : cs.getD i 0 = cs[i] := by rw [List.getD_eq_getElem?_getD, List.getElem?_eq_getElem hi]; rfl
  unfold own_fb
  rw [List.set_append_right i _ (by omega), hl, Nat.sub_self, show cs.length - i = (cs.length - (i + 1)) + 1 by omega, List.replicate_succ, List.set_cons_zero, own_b8, hg, List.take_add_one, List.getElem?_eq_getElem hi]
  have e : own_vs (cs.take i ++ (some cs[i]).toList) = own_vs (cs.take i) ++ [Value.int (StrChars.lo8 cs[i])] := by unfold own_vs; rw [List.map_append]; rfl
  rw [e, List.append_assoc]; rfl
theorem own_chAt {cs : List Int32} {j : Nat} (h : j < 2000) (hj : j < cs.length) : (cs.map Value.int).getD (Int32.ofNat j).toNatClampNeg (.int (0 : Int32)) = .int (cs.getD j 0) := by
  rw [own_toN h, List.getD_eq_getElem?_getD, List.getD_eq_getElem?_getD, List.getElem?_map, List.getElem?_eq_getElem hj]
  rfl
theorem own_cfl (x : Int32) : (((x - x).toUInt32 >>> ((31 : Int32) &&& 31).toUInt32).toInt32).toInt8.toInt32 = 0 := by rw [Int32.sub_self]; decide
theorem own_cAt {cs : List Int32} {j : Nat} (h : ∀ z ∈ cs, own_c z) (hj : j < cs.length) : own_c (cs.getD j 0) := by
  rw [List.getD_eq_getElem?_getD, List.getElem?_eq_getElem hj]
  exact h _ (List.getElem_mem hj)
abbrev y1 : MethodName := ⟨"java/lang/String", "<init>", "([C)V"⟩
abbrev y2 : MethodName := ⟨"java/lang/String", "<init>", "([CIILjava/lang/Void;)V"⟩
abbrev y4 : MethodName := ⟨"java/lang/StringUTF16", "compress", "([CII)[B"⟩
abbrev y5 : MethodName := ⟨"java/lang/StringUTF16", "compress", "([CI[BII)I"⟩
abbrev y6 : MethodName := ⟨"java/lang/StringUTF16", "coderFromArrayLen", "([BI)B"⟩
abbrev y7 : MethodName := ⟨"java/util/ArrayList", "<init>", "()V"⟩
abbrev y8 : MethodName := ⟨"java/util/AbstractList", "<init>", "()V"⟩
abbrev y9 : MethodName := ⟨"java/util/AbstractCollection", "<init>", "()V"⟩
abbrev y10 : MethodName := ⟨"java/lang/String", "valueOf", "(C)Ljava/lang/String;"⟩
abbrev y11 : MethodName := ⟨"java/lang/StringLatin1", "canEncode", "(C)Z"⟩
abbrev y12 : MethodName := ⟨"java/lang/StringLatin1", "toBytes", "(C)[B"⟩
abbrev y13 : MethodName := ⟨"java/lang/String", "<init>", "([BB)V"⟩
abbrev y14 : MethodName := ⟨"java/util/ArrayList", "add", "(Ljava/lang/Object;)Z"⟩
abbrev y15 : MethodName := ⟨"java/util/ArrayList", "add", "(Ljava/lang/Object;[Ljava/lang/Object;I)V"⟩
abbrev y16 : MethodName := ⟨"java/util/ArrayList", "grow", "()[Ljava/lang/Object;"⟩
abbrev y17 : MethodName := ⟨"java/util/ArrayList", "grow", "(I)[Ljava/lang/Object;"⟩
abbrev y18 : MethodName := ⟨"java/lang/Math", "max", "(II)I"⟩
abbrev y19 : MethodName := ⟨"com/example/passlane/passlane/oidc/ClientToStringPinLaw", "expected", "(CCICC)[C"⟩
abbrev y20 : MethodName := ⟨"com/example/passlane/passlane/oidc/Client", "<init>", "(Ljava/lang/String;Ljava/lang/String;Ljava/util/List;Ljava/util/List;Ljava/lang/String;)V"⟩
abbrev y21 : MethodName := ⟨"java/lang/Record", "<init>", "()V"⟩
abbrev y22 : MethodName := ⟨"java/util/List", "copyOf", "(Ljava/util/Collection;)Ljava/util/List;"⟩
abbrev y23 : MethodName := ⟨"java/util/ImmutableCollections", "listCopy", "(Ljava/util/Collection;)Ljava/util/List;"⟩
abbrev y24 : MethodName := ⟨"java/util/ArrayList", "isEmpty", "()Z"⟩
abbrev y25 : MethodName := ⟨"java/util/ArrayList", "toArray", "()[Ljava/lang/Object;"⟩
abbrev y26 : MethodName := ⟨"java/util/Arrays", "copyOf", "([Ljava/lang/Object;I)[Ljava/lang/Object;"⟩
abbrev y27 : MethodName := ⟨"java/util/Arrays", "copyOf", "([Ljava/lang/Object;ILjava/lang/Class;)[Ljava/lang/Object;"⟩
abbrev y28 : MethodName := ⟨"java/lang/Math", "min", "(II)I"⟩
abbrev y29 : MethodName := ⟨"java/util/List", "of", "([Ljava/lang/Object;)Ljava/util/List;"⟩
abbrev y30 : MethodName := ⟨"java/util/ImmutableCollections$List12", "<init>", "(Ljava/lang/Object;Ljava/lang/Object;)V"⟩
abbrev y31 : MethodName := ⟨"java/util/ImmutableCollections$AbstractImmutableList", "<init>", "()V"⟩
abbrev y32 : MethodName := ⟨"java/util/ImmutableCollections$AbstractImmutableCollection", "<init>", "()V"⟩
abbrev y33 : MethodName := ⟨"java/util/Objects", "requireNonNull", "(Ljava/lang/Object;)Ljava/lang/Object;"⟩
abbrev y34 : MethodName := ⟨"java/util/List", "of", "()Ljava/util/List;"⟩
abbrev y35 : MethodName := ⟨"com/example/passlane/passlane/oidc/Client", "toString", "()Ljava/lang/String;"⟩
abbrev y36 : MethodName := ⟨"java/lang/StringBuilder", "<init>", "()V"⟩
abbrev y37 : MethodName := ⟨"java/lang/AbstractStringBuilder", "<init>", "(I)V"⟩
abbrev y38 : MethodName := ⟨"java/lang/StringBuilder", "append", "(Ljava/lang/String;)Ljava/lang/StringBuilder;"⟩
abbrev y39 : MethodName := ⟨"java/lang/AbstractStringBuilder", "append", "(Ljava/lang/String;)Ljava/lang/AbstractStringBuilder;"⟩
abbrev y40 : MethodName := ⟨"java/lang/String", "length", "()I"⟩
abbrev y41 : MethodName := ⟨"java/lang/String", "coder", "()B"⟩
abbrev y42 : MethodName := ⟨"java/lang/AbstractStringBuilder", "ensureCapacityInternal", "(I)V"⟩
abbrev y43 : MethodName := ⟨"java/lang/AbstractStringBuilder", "putStringAt", "(ILjava/lang/String;)V"⟩
abbrev y44 : MethodName := ⟨"java/lang/AbstractStringBuilder", "inflateIfNeededFor", "(Ljava/lang/String;)V"⟩
abbrev y45 : MethodName := ⟨"java/lang/String", "getBytes", "([BIB)V"⟩
abbrev y46 : MethodName := ⟨"java/lang/AbstractStringBuilder", "newCapacity", "(I)I"⟩
abbrev y47 : MethodName := ⟨"jdk/internal/util/ArraysSupport", "newLength", "(III)I"⟩
abbrev y48 : MethodName := ⟨"java/util/Arrays", "copyOf", "([BI)[B"⟩
abbrev y49 : MethodName := ⟨"java/lang/StringBuilder", "append", "(Ljava/lang/Object;)Ljava/lang/StringBuilder;"⟩
abbrev y50 : MethodName := ⟨"java/lang/String", "valueOf", "(Ljava/lang/Object;)Ljava/lang/String;"⟩
abbrev y51 : MethodName := ⟨"java/util/AbstractCollection", "toString", "()Ljava/lang/String;"⟩
abbrev y52 : MethodName := ⟨"java/util/ImmutableCollections$AbstractImmutableList", "iterator", "()Ljava/util/Iterator;"⟩
abbrev y53 : MethodName := ⟨"java/util/ImmutableCollections$List12", "size", "()I"⟩
abbrev y54 : MethodName := ⟨"java/util/ImmutableCollections$ListItr", "<init>", "(Ljava/util/List;I)V"⟩
abbrev y55 : MethodName := ⟨"java/util/ImmutableCollections$ListItr", "hasNext", "()Z"⟩
abbrev y56 : MethodName := ⟨"java/lang/StringBuilder", "append", "(C)Ljava/lang/StringBuilder;"⟩
abbrev y57 : MethodName := ⟨"java/lang/AbstractStringBuilder", "append", "(C)Ljava/lang/AbstractStringBuilder;"⟩
abbrev y58 : MethodName := ⟨"java/lang/AbstractStringBuilder", "isLatin1", "()Z"⟩
abbrev y59 : MethodName := ⟨"java/util/ImmutableCollections$ListItr", "next", "()Ljava/lang/Object;"⟩
abbrev y60 : MethodName := ⟨"java/util/ImmutableCollections$List12", "get", "(I)Ljava/lang/Object;"⟩
abbrev y61 : MethodName := ⟨"java/lang/String", "toString", "()Ljava/lang/String;"⟩
abbrev y62 : MethodName := ⟨"java/lang/StringBuilder", "toString", "()Ljava/lang/String;"⟩
abbrev y63 : MethodName := ⟨"java/lang/String", "<init>", "(Ljava/lang/StringBuilder;)V"⟩
abbrev y64 : MethodName := ⟨"java/lang/String", "<init>", "(Ljava/lang/AbstractStringBuilder;Ljava/lang/Void;)V"⟩
abbrev y65 : MethodName := ⟨"java/lang/AbstractStringBuilder", "getValue", "()[B"⟩
abbrev y66 : MethodName := ⟨"java/lang/StringBuilder", "length", "()I"⟩
abbrev y67 : MethodName := ⟨"java/lang/AbstractStringBuilder", "length", "()I"⟩
abbrev y68 : MethodName := ⟨"java/util/Arrays", "copyOfRange", "([BII)[B"⟩
abbrev y69 : MethodName := ⟨"java/util/Arrays", "copyOfRangeByte", "([BII)[B"⟩
abbrev y70 : MethodName := ⟨"java/util/Arrays", "checkLength", "(II)V"⟩
abbrev y71 : MethodName := ⟨"java/lang/String", "equals", "(Ljava/lang/Object;)Z"⟩
abbrev y72 : MethodName := ⟨"java/lang/StringLatin1", "equals", "([B[B)Z"⟩
abbrev y73 : MethodName := ⟨"java/util/ImmutableCollections$List12", "<init>", "(Ljava/lang/Object;)V"⟩
abbrev y74 : MethodName := ⟨"java/util/ImmutableCollections$ListN", "size", "()I"⟩
theorem ns0 {a0 : Array Value} {Z : State} (hw : own_W a0 Z) : RoadKit.slotOf Z "java/lang/String" "coder" "B" ≠ RoadKit.slotOf Z "java/lang/String" "value" "[B" := slot_ne (C := "java/lang/String") (Or.inr (own_h hw 28 rfl)) (Or.inr (own_h hw 30 rfl)) (by decide) (t := .byte) (t' := (.array .byte)) (by decide) (by decide)
theorem ns1 {a0 : Array Value} {Z : State} (hw : own_W a0 Z) : RoadKit.slotOf Z "java/lang/String" "value" "[B" ≠ RoadKit.slotOf Z "java/lang/String" "coder" "B" := slot_ne (C := "java/lang/String") (Or.inr (own_h hw 30 rfl)) (Or.inr (own_h hw 28 rfl)) (by decide) (t := (.array .byte)) (t' := .byte) (by decide) (by decide)
theorem ns2 {a0 : Array Value} {Z : State} (hw : own_W a0 Z) : RoadKit.slotOf Z "java/lang/AbstractStringBuilder" "value" "[B" ≠ RoadKit.slotOf Z "java/lang/AbstractStringBuilder" "count" "I" := slot_ne (C := "java/lang/StringBuilder") (Or.inl (own_h hw 235 rfl)) (Or.inl (own_h hw 262 rfl)) (by decide) (t := (.array .byte)) (t' := .int) (by decide) (by decide)
theorem ns3 {a0 : Array Value} {Z : State} (hw : own_W a0 Z) : RoadKit.slotOf Z "java/lang/AbstractStringBuilder" "coder" "B" ≠ RoadKit.slotOf Z "java/lang/AbstractStringBuilder" "count" "I" := slot_ne (C := "java/lang/StringBuilder") (Or.inl (own_h hw 237 rfl)) (Or.inl (own_h hw 262 rfl)) (by decide) (t := .byte) (t' := .int) (by decide) (by decide)
theorem ns4 {a0 : Array Value} {Z : State} (hw : own_W a0 Z) : RoadKit.slotOf Z "java/lang/AbstractStringBuilder" "coder" "B" ≠ RoadKit.slotOf Z "java/lang/AbstractStringBuilder" "value" "[B" := slot_ne (C := "java/lang/StringBuilder") (Or.inl (own_h hw 237 rfl)) (Or.inl (own_h hw 235 rfl)) (by decide) (t := .byte) (t' := (.array .byte)) (by decide) (by decide)
theorem ns5 {a0 : Array Value} {Z : State} (hw : own_W a0 Z) : RoadKit.slotOf Z "java/lang/AbstractStringBuilder" "value" "[B" ≠ RoadKit.slotOf Z "java/lang/AbstractStringBuilder" "coder" "B" := slot_ne (C := "java/lang/StringBuilder") (Or.inl (own_h hw 235 rfl)) (Or.inl (own_h hw 237 rfl)) (by decide) (t := (.array .byte)) (t' := .byte) (by decide) (by decide)
theorem ns6 {a0 : Array Value} {Z : State} (hw : own_W a0 Z) : RoadKit.slotOf Z "java/lang/AbstractStringBuilder" "count" "I" ≠ RoadKit.slotOf Z "java/lang/AbstractStringBuilder" "value" "[B" := slot_ne (C := "java/lang/StringBuilder") (Or.inl (own_h hw 262 rfl)) (Or.inl (own_h hw 235 rfl)) (by decide) (t := .int) (t' := (.array .byte)) (by decide) (by decide)
theorem ns7 {a0 : Array Value} {Z : State} (hw : own_W a0 Z) : RoadKit.slotOf Z "java/lang/AbstractStringBuilder" "count" "I" ≠ RoadKit.slotOf Z "java/lang/AbstractStringBuilder" "coder" "B" := slot_ne (C := "java/lang/StringBuilder") (Or.inl (own_h hw 262 rfl)) (Or.inl (own_h hw 237 rfl)) (by decide) (t := .int) (t' := .byte) (by decide) (by decide)
theorem ns8 {a0 : Array Value} {Z : State} (hw : own_W a0 Z) : RoadKit.slotOf Z "java/util/ArrayList" "elementData" "[Ljava/lang/Object;" ≠ RoadKit.slotOf Z "java/util/AbstractList" "modCount" "I" := slot_ne (C := "java/util/ArrayList") (Or.inl (own_h hw 54 rfl)) (Or.inl (own_h hw 51 rfl)) (by decide) (t := (.array (.object "java/lang/Object"))) (t' := .int) (by decide) (by decide)
theorem ns9 {a0 : Array Value} {Z : State} (hw : own_W a0 Z) : RoadKit.slotOf Z "java/util/ArrayList" "size" "I" ≠ RoadKit.slotOf Z "java/util/AbstractList" "modCount" "I" := slot_ne (C := "java/util/ArrayList") (Or.inl (own_h hw 77 rfl)) (Or.inl (own_h hw 51 rfl)) (by decide) (t := .int) (t' := .int) (by decide) (by decide)
theorem ns10 {a0 : Array Value} {Z : State} (hw : own_W a0 Z) : RoadKit.slotOf Z "java/util/AbstractList" "modCount" "I" ≠ RoadKit.slotOf Z "java/util/ArrayList" "elementData" "[Ljava/lang/Object;" := slot_ne (C := "java/util/ArrayList") (Or.inl (own_h hw 51 rfl)) (Or.inl (own_h hw 54 rfl)) (by decide) (t := .int) (t' := (.array (.object "java/lang/Object"))) (by decide) (by decide)
theorem ns11 {a0 : Array Value} {Z : State} (hw : own_W a0 Z) : RoadKit.slotOf Z "java/util/ArrayList" "size" "I" ≠ RoadKit.slotOf Z "java/util/ArrayList" "elementData" "[Ljava/lang/Object;" := slot_ne (C := "java/util/ArrayList") (Or.inl (own_h hw 77 rfl)) (Or.inl (own_h hw 54 rfl)) (by decide) (t := .int) (t' := (.array (.object "java/lang/Object"))) (by decide) (by decide)
theorem ns12 {a0 : Array Value} {Z : State} (hw : own_W a0 Z) : RoadKit.slotOf Z "java/util/AbstractList" "modCount" "I" ≠ RoadKit.slotOf Z "java/util/ArrayList" "size" "I" := slot_ne (C := "java/util/ArrayList") (Or.inl (own_h hw 51 rfl)) (Or.inl (own_h hw 77 rfl)) (by decide) (t := .int) (t' := .int) (by decide) (by decide)
theorem ns13 {a0 : Array Value} {Z : State} (hw : own_W a0 Z) : RoadKit.slotOf Z "java/util/ArrayList" "elementData" "[Ljava/lang/Object;" ≠ RoadKit.slotOf Z "java/util/ArrayList" "size" "I" := slot_ne (C := "java/util/ArrayList") (Or.inl (own_h hw 54 rfl)) (Or.inl (own_h hw 77 rfl)) (by decide) (t := (.array (.object "java/lang/Object"))) (t' := .int) (by decide) (by decide)
theorem ns14 {a0 : Array Value} {Z : State} (hw : own_W a0 Z) : RoadKit.slotOf Z "java/util/ImmutableCollections$List12" "e1" "Ljava/lang/Object;" ≠ RoadKit.slotOf Z "java/util/ImmutableCollections$List12" "e0" "Ljava/lang/Object;" := slot_ne (C := "java/util/ImmutableCollections$List12") (Or.inr (own_h hw 200 rfl)) (Or.inr (own_h hw 198 rfl)) (by decide) (t := (.object "java/lang/Object")) (t' := (.object "java/lang/Object")) (by decide) (by decide)
theorem ns15 {a0 : Array Value} {Z : State} (hw : own_W a0 Z) : RoadKit.slotOf Z "java/util/ImmutableCollections$List12" "e0" "Ljava/lang/Object;" ≠ RoadKit.slotOf Z "java/util/ImmutableCollections$List12" "e1" "Ljava/lang/Object;" := slot_ne (C := "java/util/ImmutableCollections$List12") (Or.inr (own_h hw 198 rfl)) (Or.inr (own_h hw 200 rfl)) (by decide) (t := (.object "java/lang/Object")) (t' := (.object "java/lang/Object")) (by decide) (by decide)
theorem ns16 {a0 : Array Value} {Z : State} (hw : own_W a0 Z) : RoadKit.slotOf Z "java/util/ImmutableCollections$ListItr" "size" "I" ≠ RoadKit.slotOf Z "java/util/ImmutableCollections$ListItr" "list" "Ljava/util/List;" := slot_ne (C := "java/util/ImmutableCollections$ListItr") (Or.inr (own_h hw 338 rfl)) (Or.inr (own_h hw 336 rfl)) (by decide) (t := .int) (t' := (.object "java/util/List")) (by decide) (by decide)
theorem ns17 {a0 : Array Value} {Z : State} (hw : own_W a0 Z) : RoadKit.slotOf Z "java/util/ImmutableCollections$ListItr" "cursor" "I" ≠ RoadKit.slotOf Z "java/util/ImmutableCollections$ListItr" "list" "Ljava/util/List;" := slot_ne (C := "java/util/ImmutableCollections$ListItr") (Or.inl (own_h hw 340 rfl)) (Or.inr (own_h hw 336 rfl)) (by decide) (t := .int) (t' := (.object "java/util/List")) (by decide) (by decide)
theorem ns18 {a0 : Array Value} {Z : State} (hw : own_W a0 Z) : RoadKit.slotOf Z "java/util/ImmutableCollections$ListItr" "cursor" "I" ≠ RoadKit.slotOf Z "java/util/ImmutableCollections$ListItr" "size" "I" := slot_ne (C := "java/util/ImmutableCollections$ListItr") (Or.inl (own_h hw 340 rfl)) (Or.inr (own_h hw 338 rfl)) (by decide) (t := .int) (t' := .int) (by decide) (by decide)
theorem ns19 {a0 : Array Value} {Z : State} (hw : own_W a0 Z) : RoadKit.slotOf Z "java/util/ImmutableCollections$ListItr" "isListIterator" "Z" ≠ RoadKit.slotOf Z "java/util/ImmutableCollections$ListItr" "list" "Ljava/util/List;" := slot_ne (C := "java/util/ImmutableCollections$ListItr") (Or.inr (own_h hw 342 rfl)) (Or.inr (own_h hw 336 rfl)) (by decide) (t := .boolean) (t' := (.object "java/util/List")) (by decide) (by decide)
theorem ns20 {a0 : Array Value} {Z : State} (hw : own_W a0 Z) : RoadKit.slotOf Z "java/util/ImmutableCollections$ListItr" "isListIterator" "Z" ≠ RoadKit.slotOf Z "java/util/ImmutableCollections$ListItr" "size" "I" := slot_ne (C := "java/util/ImmutableCollections$ListItr") (Or.inr (own_h hw 342 rfl)) (Or.inr (own_h hw 338 rfl)) (by decide) (t := .boolean) (t' := .int) (by decide) (by decide)
theorem ns21 {a0 : Array Value} {Z : State} (hw : own_W a0 Z) : RoadKit.slotOf Z "java/util/ImmutableCollections$ListItr" "isListIterator" "Z" ≠ RoadKit.slotOf Z "java/util/ImmutableCollections$ListItr" "cursor" "I" := slot_ne (C := "java/util/ImmutableCollections$ListItr") (Or.inr (own_h hw 342 rfl)) (Or.inl (own_h hw 340 rfl)) (by decide) (t := .boolean) (t' := .int) (by decide) (by decide)
theorem ns22 {a0 : Array Value} {Z : State} (hw : own_W a0 Z) : RoadKit.slotOf Z "java/util/ImmutableCollections$ListItr" "list" "Ljava/util/List;" ≠ RoadKit.slotOf Z "java/util/ImmutableCollections$ListItr" "size" "I" := slot_ne (C := "java/util/ImmutableCollections$ListItr") (Or.inr (own_h hw 336 rfl)) (Or.inr (own_h hw 338 rfl)) (by decide) (t := (.object "java/util/List")) (t' := .int) (by decide) (by decide)
theorem ns23 {a0 : Array Value} {Z : State} (hw : own_W a0 Z) : RoadKit.slotOf Z "java/util/ImmutableCollections$ListItr" "list" "Ljava/util/List;" ≠ RoadKit.slotOf Z "java/util/ImmutableCollections$ListItr" "cursor" "I" := slot_ne (C := "java/util/ImmutableCollections$ListItr") (Or.inr (own_h hw 336 rfl)) (Or.inl (own_h hw 340 rfl)) (by decide) (t := (.object "java/util/List")) (t' := .int) (by decide) (by decide)
theorem ns24 {a0 : Array Value} {Z : State} (hw : own_W a0 Z) : RoadKit.slotOf Z "java/util/ImmutableCollections$ListItr" "list" "Ljava/util/List;" ≠ RoadKit.slotOf Z "java/util/ImmutableCollections$ListItr" "isListIterator" "Z" := slot_ne (C := "java/util/ImmutableCollections$ListItr") (Or.inr (own_h hw 336 rfl)) (Or.inr (own_h hw 342 rfl)) (by decide) (t := (.object "java/util/List")) (t' := .boolean) (by decide) (by decide)
theorem ns25 {a0 : Array Value} {Z : State} (hw : own_W a0 Z) : RoadKit.slotOf Z "java/util/ImmutableCollections$ListItr" "size" "I" ≠ RoadKit.slotOf Z "java/util/ImmutableCollections$ListItr" "cursor" "I" := slot_ne (C := "java/util/ImmutableCollections$ListItr") (Or.inr (own_h hw 338 rfl)) (Or.inl (own_h hw 340 rfl)) (by decide) (t := .int) (t' := .int) (by decide) (by decide)
theorem ns26 {a0 : Array Value} {Z : State} (hw : own_W a0 Z) : RoadKit.slotOf Z "java/util/ImmutableCollections$ListItr" "size" "I" ≠ RoadKit.slotOf Z "java/util/ImmutableCollections$ListItr" "isListIterator" "Z" := slot_ne (C := "java/util/ImmutableCollections$ListItr") (Or.inr (own_h hw 338 rfl)) (Or.inr (own_h hw 342 rfl)) (by decide) (t := .int) (t' := .boolean) (by decide) (by decide)
theorem ns27 {a0 : Array Value} {Z : State} (hw : own_W a0 Z) : RoadKit.slotOf Z "java/util/ImmutableCollections$ListItr" "cursor" "I" ≠ RoadKit.slotOf Z "java/util/ImmutableCollections$ListItr" "isListIterator" "Z" := slot_ne (C := "java/util/ImmutableCollections$ListItr") (Or.inl (own_h hw 340 rfl)) (Or.inr (own_h hw 342 rfl)) (by decide) (t := .int) (t' := .boolean) (by decide) (by decide)
theorem ns28 {a0 : Array Value} {Z : State} (hw : own_W a0 Z) : RoadKit.slotOf Z "com/example/passlane/passlane/oidc/Client" "secret" "Ljava/lang/String;" ≠ RoadKit.slotOf Z "com/example/passlane/passlane/oidc/Client" "id" "Ljava/lang/String;" := slot_ne (C := "com/example/passlane/passlane/oidc/Client") (Or.inr (own_h hw 208 rfl)) (Or.inr (own_h hw 206 rfl)) (by decide) (t := (.object "java/lang/String")) (t' := (.object "java/lang/String")) (by decide) (by decide)
theorem ns29 {a0 : Array Value} {Z : State} (hw : own_W a0 Z) : RoadKit.slotOf Z "com/example/passlane/passlane/oidc/Client" "redirectUris" "Ljava/util/List;" ≠ RoadKit.slotOf Z "com/example/passlane/passlane/oidc/Client" "id" "Ljava/lang/String;" := slot_ne (C := "com/example/passlane/passlane/oidc/Client") (Or.inr (own_h hw 210 rfl)) (Or.inr (own_h hw 206 rfl)) (by decide) (t := (.object "java/util/List")) (t' := (.object "java/lang/String")) (by decide) (by decide)
theorem ns30 {a0 : Array Value} {Z : State} (hw : own_W a0 Z) : RoadKit.slotOf Z "com/example/passlane/passlane/oidc/Client" "redirectUris" "Ljava/util/List;" ≠ RoadKit.slotOf Z "com/example/passlane/passlane/oidc/Client" "secret" "Ljava/lang/String;" := slot_ne (C := "com/example/passlane/passlane/oidc/Client") (Or.inr (own_h hw 210 rfl)) (Or.inr (own_h hw 208 rfl)) (by decide) (t := (.object "java/util/List")) (t' := (.object "java/lang/String")) (by decide) (by decide)
theorem ns31 {a0 : Array Value} {Z : State} (hw : own_W a0 Z) : RoadKit.slotOf Z "com/example/passlane/passlane/oidc/Client" "postLogoutRedirectUris" "Ljava/util/List;" ≠ RoadKit.slotOf Z "com/example/passlane/passlane/oidc/Client" "id" "Ljava/lang/String;" := slot_ne (C := "com/example/passlane/passlane/oidc/Client") (Or.inr (own_h hw 212 rfl)) (Or.inr (own_h hw 206 rfl)) (by decide) (t := (.object "java/util/List")) (t' := (.object "java/lang/String")) (by decide) (by decide)
theorem ns32 {a0 : Array Value} {Z : State} (hw : own_W a0 Z) : RoadKit.slotOf Z "com/example/passlane/passlane/oidc/Client" "postLogoutRedirectUris" "Ljava/util/List;" ≠ RoadKit.slotOf Z "com/example/passlane/passlane/oidc/Client" "secret" "Ljava/lang/String;" := slot_ne (C := "com/example/passlane/passlane/oidc/Client") (Or.inr (own_h hw 212 rfl)) (Or.inr (own_h hw 208 rfl)) (by decide) (t := (.object "java/util/List")) (t' := (.object "java/lang/String")) (by decide) (by decide)
theorem ns33 {a0 : Array Value} {Z : State} (hw : own_W a0 Z) : RoadKit.slotOf Z "com/example/passlane/passlane/oidc/Client" "postLogoutRedirectUris" "Ljava/util/List;" ≠ RoadKit.slotOf Z "com/example/passlane/passlane/oidc/Client" "redirectUris" "Ljava/util/List;" := slot_ne (C := "com/example/passlane/passlane/oidc/Client") (Or.inr (own_h hw 212 rfl)) (Or.inr (own_h hw 210 rfl)) (by decide) (t := (.object "java/util/List")) (t' := (.object "java/util/List")) (by decide) (by decide)
theorem ns34 {a0 : Array Value} {Z : State} (hw : own_W a0 Z) : RoadKit.slotOf Z "com/example/passlane/passlane/oidc/Client" "backChannelLogoutUri" "Ljava/lang/String;" ≠ RoadKit.slotOf Z "com/example/passlane/passlane/oidc/Client" "id" "Ljava/lang/String;" := slot_ne (C := "com/example/passlane/passlane/oidc/Client") (Or.inr (own_h hw 214 rfl)) (Or.inr (own_h hw 206 rfl)) (by decide) (t := (.object "java/lang/String")) (t' := (.object "java/lang/String")) (by decide) (by decide)
theorem ns35 {a0 : Array Value} {Z : State} (hw : own_W a0 Z) : RoadKit.slotOf Z "com/example/passlane/passlane/oidc/Client" "backChannelLogoutUri" "Ljava/lang/String;" ≠ RoadKit.slotOf Z "com/example/passlane/passlane/oidc/Client" "secret" "Ljava/lang/String;" := slot_ne (C := "com/example/passlane/passlane/oidc/Client") (Or.inr (own_h hw 214 rfl)) (Or.inr (own_h hw 208 rfl)) (by decide) (t := (.object "java/lang/String")) (t' := (.object "java/lang/String")) (by decide) (by decide)
theorem ns36 {a0 : Array Value} {Z : State} (hw : own_W a0 Z) : RoadKit.slotOf Z "com/example/passlane/passlane/oidc/Client" "backChannelLogoutUri" "Ljava/lang/String;" ≠ RoadKit.slotOf Z "com/example/passlane/passlane/oidc/Client" "redirectUris" "Ljava/util/List;" := slot_ne (C := "com/example/passlane/passlane/oidc/Client") (Or.inr (own_h hw 214 rfl)) (Or.inr (own_h hw 210 rfl)) (by decide) (t := (.object "java/lang/String")) (t' := (.object "java/util/List")) (by decide) (by decide)
theorem ns37 {a0 : Array Value} {Z : State} (hw : own_W a0 Z) : RoadKit.slotOf Z "com/example/passlane/passlane/oidc/Client" "backChannelLogoutUri" "Ljava/lang/String;" ≠ RoadKit.slotOf Z "com/example/passlane/passlane/oidc/Client" "postLogoutRedirectUris" "Ljava/util/List;" := slot_ne (C := "com/example/passlane/passlane/oidc/Client") (Or.inr (own_h hw 214 rfl)) (Or.inr (own_h hw 212 rfl)) (by decide) (t := (.object "java/lang/String")) (t' := (.object "java/util/List")) (by decide) (by decide)
theorem ns38 {a0 : Array Value} {Z : State} (hw : own_W a0 Z) : RoadKit.slotOf Z "com/example/passlane/passlane/oidc/Client" "id" "Ljava/lang/String;" ≠ RoadKit.slotOf Z "com/example/passlane/passlane/oidc/Client" "secret" "Ljava/lang/String;" := slot_ne (C := "com/example/passlane/passlane/oidc/Client") (Or.inr (own_h hw 206 rfl)) (Or.inr (own_h hw 208 rfl)) (by decide) (t := (.object "java/lang/String")) (t' := (.object "java/lang/String")) (by decide) (by decide)
theorem ns39 {a0 : Array Value} {Z : State} (hw : own_W a0 Z) : RoadKit.slotOf Z "com/example/passlane/passlane/oidc/Client" "id" "Ljava/lang/String;" ≠ RoadKit.slotOf Z "com/example/passlane/passlane/oidc/Client" "redirectUris" "Ljava/util/List;" := slot_ne (C := "com/example/passlane/passlane/oidc/Client") (Or.inr (own_h hw 206 rfl)) (Or.inr (own_h hw 210 rfl)) (by decide) (t := (.object "java/lang/String")) (t' := (.object "java/util/List")) (by decide) (by decide)
theorem ns40 {a0 : Array Value} {Z : State} (hw : own_W a0 Z) : RoadKit.slotOf Z "com/example/passlane/passlane/oidc/Client" "id" "Ljava/lang/String;" ≠ RoadKit.slotOf Z "com/example/passlane/passlane/oidc/Client" "postLogoutRedirectUris" "Ljava/util/List;" := slot_ne (C := "com/example/passlane/passlane/oidc/Client") (Or.inr (own_h hw 206 rfl)) (Or.inr (own_h hw 212 rfl)) (by decide) (t := (.object "java/lang/String")) (t' := (.object "java/util/List")) (by decide) (by decide)
theorem ns41 {a0 : Array Value} {Z : State} (hw : own_W a0 Z) : RoadKit.slotOf Z "com/example/passlane/passlane/oidc/Client" "id" "Ljava/lang/String;" ≠ RoadKit.slotOf Z "com/example/passlane/passlane/oidc/Client" "backChannelLogoutUri" "Ljava/lang/String;" := slot_ne (C := "com/example/passlane/passlane/oidc/Client") (Or.inr (own_h hw 206 rfl)) (Or.inr (own_h hw 214 rfl)) (by decide) (t := (.object "java/lang/String")) (t' := (.object "java/lang/String")) (by decide) (by decide)
theorem ns42 {a0 : Array Value} {Z : State} (hw : own_W a0 Z) : RoadKit.slotOf Z "com/example/passlane/passlane/oidc/Client" "redirectUris" "Ljava/util/List;" ≠ RoadKit.slotOf Z "com/example/passlane/passlane/oidc/Client" "postLogoutRedirectUris" "Ljava/util/List;" := slot_ne (C := "com/example/passlane/passlane/oidc/Client") (Or.inr (own_h hw 210 rfl)) (Or.inr (own_h hw 212 rfl)) (by decide) (t := (.object "java/util/List")) (t' := (.object "java/util/List")) (by decide) (by decide)
theorem ns43 {a0 : Array Value} {Z : State} (hw : own_W a0 Z) : RoadKit.slotOf Z "com/example/passlane/passlane/oidc/Client" "redirectUris" "Ljava/util/List;" ≠ RoadKit.slotOf Z "com/example/passlane/passlane/oidc/Client" "backChannelLogoutUri" "Ljava/lang/String;" := slot_ne (C := "com/example/passlane/passlane/oidc/Client") (Or.inr (own_h hw 210 rfl)) (Or.inr (own_h hw 214 rfl)) (by decide) (t := (.object "java/util/List")) (t' := (.object "java/lang/String")) (by decide) (by decide)
theorem pd___V : parseMethodDescriptor "()V" = some ⟨[], none⟩ := by decide +kernel
theorem pd___B : parseMethodDescriptor "()B" = some ⟨[], some .byte⟩ := by decide +kernel
theorem pd__C_Z : parseMethodDescriptor "(C)Z" = some ⟨[.char], some .boolean⟩ := by decide +kernel
theorem pd__C__B : parseMethodDescriptor "(C)[B" = some ⟨[.char], some (.array .byte)⟩ := by decide +kernel
theorem pd___BB_V : parseMethodDescriptor "([BB)V" = some ⟨[(.array .byte), .byte], none⟩ := by decide +kernel
theorem pd__Ljava_lang_String__V : parseMethodDescriptor "(Ljava/lang/String;)V" = some ⟨[(.object "java/lang/String")], none⟩ := by decide +kernel
theorem pd___BIB_V : parseMethodDescriptor "([BIB)V" = some ⟨[(.array .byte), .int, .byte], none⟩ := by decide +kernel
theorem pd___I : parseMethodDescriptor "()I" = some ⟨[], some .int⟩ := by decide +kernel
theorem pd__I_V : parseMethodDescriptor "(I)V" = some ⟨[.int], none⟩ := by decide +kernel
theorem pd__ILjava_lang_String__V : parseMethodDescriptor "(ILjava/lang/String;)V" = some ⟨[.int, (.object "java/lang/String")], none⟩ := by decide +kernel
theorem pd__Ljava_lang_String__Ljava_lang_AbstractStringBuilder_ : parseMethodDescriptor "(Ljava/lang/String;)Ljava/lang/AbstractStringBuilder;" = some ⟨[(.object "java/lang/String")], some (.object "java/lang/AbstractStringBuilder")⟩ := by decide +kernel
theorem pd___Z : parseMethodDescriptor "()Z" = some ⟨[], some .boolean⟩ := by decide +kernel
theorem pd__C_Ljava_lang_AbstractStringBuilder_ : parseMethodDescriptor "(C)Ljava/lang/AbstractStringBuilder;" = some ⟨[.char], some (.object "java/lang/AbstractStringBuilder")⟩ := by decide +kernel
theorem pd__II_V : parseMethodDescriptor "(II)V" = some ⟨[.int, .int], none⟩ := by decide +kernel
theorem pd__II_I : parseMethodDescriptor "(II)I" = some ⟨[.int, .int], some .int⟩ := by decide +kernel
theorem pd___BII__B : parseMethodDescriptor "([BII)[B" = some ⟨[(.array .byte), .int, .int], some (.array .byte)⟩ := by decide +kernel
theorem pd____B : parseMethodDescriptor "()[B" = some ⟨[], some (.array .byte)⟩ := by decide +kernel
theorem pd__Ljava_lang_AbstractStringBuilder_Ljava_lang_Void__V : parseMethodDescriptor "(Ljava/lang/AbstractStringBuilder;Ljava/lang/Void;)V" = some ⟨[(.object "java/lang/AbstractStringBuilder"), (.object "java/lang/Void")], none⟩ := by decide +kernel
theorem pd__Ljava_lang_StringBuilder__V : parseMethodDescriptor "(Ljava/lang/StringBuilder;)V" = some ⟨[(.object "java/lang/StringBuilder")], none⟩ := by decide +kernel
theorem pd__III_I : parseMethodDescriptor "(III)I" = some ⟨[.int, .int, .int], some .int⟩ := by decide +kernel
theorem pd__I_I : parseMethodDescriptor "(I)I" = some ⟨[.int], some .int⟩ := by decide +kernel
theorem pd___BI__B : parseMethodDescriptor "([BI)[B" = some ⟨[(.array .byte), .int], some (.array .byte)⟩ := by decide +kernel
theorem pd__I__Ljava_lang_Object_ : parseMethodDescriptor "(I)[Ljava/lang/Object;" = some ⟨[.int], some (.array (.object "java/lang/Object"))⟩ := by decide +kernel
theorem pd____Ljava_lang_Object_ : parseMethodDescriptor "()[Ljava/lang/Object;" = some ⟨[], some (.array (.object "java/lang/Object"))⟩ := by decide +kernel
theorem pd__Ljava_lang_Object__Ljava_lang_Object_I_V : parseMethodDescriptor "(Ljava/lang/Object;[Ljava/lang/Object;I)V" = some ⟨[(.object "java/lang/Object"), (.array (.object "java/lang/Object")), .int], none⟩ := by decide +kernel
theorem pd___Ljava_lang_Object_ILjava_lang_Class___Ljava_lang_Object_ : parseMethodDescriptor "([Ljava/lang/Object;ILjava/lang/Class;)[Ljava/lang/Object;" = some ⟨[(.array (.object "java/lang/Object")), .int, (.object "java/lang/Class")], some (.array (.object "java/lang/Object"))⟩ := by decide +kernel
theorem pd___Ljava_lang_Object_I__Ljava_lang_Object_ : parseMethodDescriptor "([Ljava/lang/Object;I)[Ljava/lang/Object;" = some ⟨[(.array (.object "java/lang/Object")), .int], some (.array (.object "java/lang/Object"))⟩ := by decide +kernel
theorem pd__Ljava_lang_Object__Ljava_lang_Object_ : parseMethodDescriptor "(Ljava/lang/Object;)Ljava/lang/Object;" = some ⟨[(.object "java/lang/Object")], some (.object "java/lang/Object")⟩ := by decide +kernel
theorem pd__Ljava_lang_Object__V : parseMethodDescriptor "(Ljava/lang/Object;)V" = some ⟨[(.object "java/lang/Object")], none⟩ := by decide +kernel
theorem pd__Ljava_lang_Object_Ljava_lang_Object__V : parseMethodDescriptor "(Ljava/lang/Object;Ljava/lang/Object;)V" = some ⟨[(.object "java/lang/Object"), (.object "java/lang/Object")], none⟩ := by decide +kernel
theorem pd___Ljava_util_List_ : parseMethodDescriptor "()Ljava/util/List;" = some ⟨[], some (.object "java/util/List")⟩ := by decide +kernel
theorem pd___Ljava_lang_Object__Ljava_util_List_ : parseMethodDescriptor "([Ljava/lang/Object;)Ljava/util/List;" = some ⟨[(.array (.object "java/lang/Object"))], some (.object "java/util/List")⟩ := by decide +kernel
theorem pd__Ljava_util_Collection__Ljava_util_List_ : parseMethodDescriptor "(Ljava/util/Collection;)Ljava/util/List;" = some ⟨[(.object "java/util/Collection")], some (.object "java/util/List")⟩ := by decide +kernel
theorem pd__Ljava_util_List_I_V : parseMethodDescriptor "(Ljava/util/List;I)V" = some ⟨[(.object "java/util/List"), .int], none⟩ := by decide +kernel
theorem pd__I_Ljava_lang_Object_ : parseMethodDescriptor "(I)Ljava/lang/Object;" = some ⟨[.int], some (.object "java/lang/Object")⟩ := by decide +kernel
theorem pd___Ljava_lang_String_ : parseMethodDescriptor "()Ljava/lang/String;" = some ⟨[], some (.object "java/lang/String")⟩ := by decide +kernel
theorem pd__Ljava_lang_Object__Ljava_lang_String_ : parseMethodDescriptor "(Ljava/lang/Object;)Ljava/lang/String;" = some ⟨[(.object "java/lang/Object")], some (.object "java/lang/String")⟩ := by decide +kernel
theorem pd__Ljava_lang_String__Ljava_lang_StringBuilder_ : parseMethodDescriptor "(Ljava/lang/String;)Ljava/lang/StringBuilder;" = some ⟨[(.object "java/lang/String")], some (.object "java/lang/StringBuilder")⟩ := by decide +kernel
theorem pd___Ljava_util_Iterator_ : parseMethodDescriptor "()Ljava/util/Iterator;" = some ⟨[], some (.object "java/util/Iterator")⟩ := by decide +kernel
theorem pd__C_Ljava_lang_StringBuilder_ : parseMethodDescriptor "(C)Ljava/lang/StringBuilder;" = some ⟨[.char], some (.object "java/lang/StringBuilder")⟩ := by decide +kernel
theorem pd___Ljava_lang_Object_ : parseMethodDescriptor "()Ljava/lang/Object;" = some ⟨[], some (.object "java/lang/Object")⟩ := by decide +kernel
theorem pd__Ljava_lang_Object__Ljava_lang_StringBuilder_ : parseMethodDescriptor "(Ljava/lang/Object;)Ljava/lang/StringBuilder;" = some ⟨[(.object "java/lang/Object")], some (.object "java/lang/StringBuilder")⟩ := by decide +kernel
theorem pd___CI_BII_I : parseMethodDescriptor "([CI[BII)I" = some ⟨[(.array .char), .int, (.array .byte), .int, .int], some .int⟩ := by decide +kernel
theorem pd___CII__B : parseMethodDescriptor "([CII)[B" = some ⟨[(.array .char), .int, .int], some (.array .byte)⟩ := by decide +kernel
theorem pd___BI_B : parseMethodDescriptor "([BI)B" = some ⟨[(.array .byte), .int], some .byte⟩ := by decide +kernel
theorem pd___CIILjava_lang_Void__V : parseMethodDescriptor "([CIILjava/lang/Void;)V" = some ⟨[(.array .char), .int, .int, (.object "java/lang/Void")], none⟩ := by decide +kernel
theorem pd___B_B_Z : parseMethodDescriptor "([B[B)Z" = some ⟨[(.array .byte), (.array .byte)], some .boolean⟩ := by decide +kernel
theorem pd___C_V : parseMethodDescriptor "([C)V" = some ⟨[(.array .char)], none⟩ := by decide +kernel
theorem pd__C_Ljava_lang_String_ : parseMethodDescriptor "(C)Ljava/lang/String;" = some ⟨[.char], some (.object "java/lang/String")⟩ := by decide +kernel
theorem pd__Ljava_lang_Object__Z : parseMethodDescriptor "(Ljava/lang/Object;)Z" = some ⟨[(.object "java/lang/Object")], some .boolean⟩ := by decide +kernel
theorem pd__CCICC__C : parseMethodDescriptor "(CCICC)[C" = some ⟨[.char, .char, .int, .char, .char], some (.array .char)⟩ := by decide +kernel
theorem pd__Ljava_lang_String_Ljava_lang_String_Ljava_util_List_Ljava_util_List_Ljava_lang_String__V : parseMethodDescriptor "(Ljava/lang/String;Ljava/lang/String;Ljava/util/List;Ljava/util/List;Ljava/lang/String;)V" = some ⟨[(.object "java/lang/String"), (.object "java/lang/String"), (.object "java/util/List"), (.object "java/util/List"), (.object "java/lang/String")], none⟩ := by decide +kernel
theorem own_wS : ∀ d ∈ Bundle.stringAtoms, d ∈ tables_1 := by decide +kernel
section OwnS
variable {p : Program} {l : Launch} {e : Env} {R : Room} {s : State} {m : MethodId} {args : Array Value} {below : List Frame} {meth : Method} {c : Code} {T : State} {locs : List Loc} {cells slots : Nat} {Z : State} {a0 : Array Value} {h : Heap}
/-- a callee that may intern, its contract asking something of the tables and saying something of them -/
theorem own_backS {y : MethodName} {bytes : ByteArray} {maxL : Nat} {ret : Option FieldType} {rm : Room} {len W : Nat} {as' : Array Value} {Pv : State → Prop} {Q : Option Value → Vm → Heap → List Loc → Prop}
    (hM : MetFree l y (head1 [Cond.code y bytes maxL ret] rm) (fun a U => a = as' ∧ Z.Warmed39 U.vm ∧ U.heap = h ∧ Pv U) (fun _ _ _ _ _ => True) (fun _ U o U' => ∃ v L, o = .returned v ∧ Q v U'.vm U'.heap L ∧ ReturnedEndW U o U' L rm.cells rm.slots))
    (hZ : Z.Warmed39 s.vm) (wc : (Cond.code y bytes maxL ret).before a0 Z = true) (wz : (Cond.initialized y.cls).before a0 Z = true) (hf : rm.frames + 1 ≤ R.frames) (hl : W + (maxL + 11) + rm.locals ≤ R.locals) (hv : ∀ U : State, s.WarmedH U.vm → Pv U) :
    BackS l R p e below s args y len W (fun A a => a = as' ∧ A.U.heap = h ∧ A.cells + rm.cells ≤ R.cells ∧ A.slots + rm.slots ≤ R.slots)
      (fun A _ v B => ∃ L, Q v B.U.vm B.U.heap L ∧ B.locs = A.locs ++ L ∧ B.cells = A.cells + rm.cells ∧ B.slots = A.slots + rm.slots) := by
  refine BackS.of_freeW (bytes := bytes) (maxL := maxL) (ret := ret) (E := fun _ _ o t L k n => k = rm.cells ∧ n = rm.slots ∧ ∃ v, o = .returned v ∧ Q v t.vm t.heap L) hM hf hl ?_ ?_ (fun _ _ _ _ _ _ _ _ _ => trivial) ?_ ?_
  · intro m meth c A a Y hp
    have hU : Z.Warmed39 A.U.vm := wtrans hZ Y.warmed
    exact ⟨by show (Cond.and _ .tt).before a A.U = true; rw [Cond.before_and, mv hU wc]; rfl, mv hU wc, mv hU wz, hp.2.2.1, hp.2.2.2⟩
  · intro m meth c A a g mk Y hp
    exact ⟨hp.1, wtrans hZ Y.warmed, hp.2.1, hv _ Y.warmed⟩
  · rintro a first o t ⟨v, L, h1, h2, h3⟩
    exact ⟨L, _, _, h3, rfl, rfl, v, h1, h2⟩
  · rintro m meth c A a g mk v t L k n Y hp - - ⟨e1, e2, v', e3, e4⟩
    cases e3
    subst e1 e2
    exact ⟨L, e4, rfl, rfl, rfl⟩
/-- .. one that interns nothing, and asks something of the tables -/
theorem own_backL {y : MethodName} {bytes : ByteArray} {maxL : Nat} {ret : Option FieldType} {rm : Room} {len W : Nat} {as' : Array Value} {Pv : State → Prop} {Q : Option Value → Heap → List Loc → Prop}
    (hM : MetFree l y (head1 [Cond.code y bytes maxL ret] rm) (fun a U => a = as' ∧ Z.Warmed39 U.vm ∧ U.heap = h ∧ Pv U) (fun _ _ _ _ _ => True) (fun _ U o U' => ∃ v L, o = .returned v ∧ Q v U'.heap L ∧ FrameEnd U o U' L rm.cells rm.slots))
    (hZ : Z.Warmed39 s.vm) (wc : (Cond.code y bytes maxL ret).before a0 Z = true) (wz : (Cond.initialized y.cls).before a0 Z = true) (hf : rm.frames + 1 ≤ R.frames) (hl : W + (maxL + 11) + rm.locals ≤ R.locals) (hv : ∀ U : State, s.WarmedH U.vm → Pv U) :
    Back l R p e below s args y len W (fun A a => a = as' ∧ A.U.heap = h ∧ A.cells + rm.cells ≤ R.cells ∧ A.slots + rm.slots ≤ R.slots)
      (fun A _ v B => ∃ L, Q v B.U.heap L ∧ B.locs = A.locs ++ L ∧ B.cells = A.cells + rm.cells ∧ B.slots = A.slots + rm.slots) := by
  refine Back.of_free (bytes := bytes) (maxL := maxL) (ret := ret) (E := fun _ _ o t L k n => k = rm.cells ∧ n = rm.slots ∧ ∃ v, o = .returned v ∧ Q v t.heap L) hM hf hl ?_ ?_ (fun _ _ _ _ _ _ _ _ _ => trivial) ?_ ?_
  · intro m meth c A a Y hp
    have hU : Z.Warmed39 A.U.vm := wtrans hZ Y.warmed
    exact ⟨by show (Cond.and _ .tt).before a A.U = true; rw [Cond.before_and, mv hU wc]; rfl, mv hU wc, mv hU wz, hp.2.2.1, hp.2.2.2⟩
  · intro m meth c A a g mk Y hp
    exact ⟨hp.1, wtrans hZ Y.warmed, hp.2.1, hv _ Y.warmed⟩
  · rintro a first o t ⟨v, L, h1, h2, h3⟩
    exact ⟨L, _, _, h3, rfl, rfl, v, h1, h2⟩
  · rintro m meth c A a g mk v t L k n Y hp - - ⟨e1, e2, v', e3, e4⟩
    cases e3
    subst e1 e2
    exact ⟨L, e4, rfl, rfl, rfl⟩
theorem own_outSS {own : String} {vm0 : Vm} {k0 : Nat} {g : JFrame} {g' : Option Value → JFrame} {Q : Option Value → Vm → Heap → List Loc → Prop} {kc ks : Nat} (hS : s.Since vm0 k0) (hk : k0 ≤ T.heap.size) (hZ : Z.Warmed39 (s.setVm vm0).vm) (hown : (s.setVm vm0).vm.findClass own = some m.cls)
    (H : ∃ (v : Option Value) (vm₁ : Vm) (B : Pt), (s.setVm vm0).WarmedH vm₁ ∧ Stand p l e R ((s.setVm vm0).setVm B.U.vm) m args below meth c B.U B.locs B.cells B.slots ∧ (s.setVm vm0).Since B.U.vm B.U.heap.size ∧ T.heap.size ≤ B.U.heap.size ∧ (∃ L, Q v B.U.vm B.U.heap L ∧ B.locs = locs ++ L ∧ B.cells = cells + kc ∧ B.slots = slots + ks) ∧ Steps p.tables e below (T.setTop g) (B.U.setTop (g' v))) :
    ∃ (v : Option Value) (T' : State) (L : List Loc), Stand p l e R (s.setVm T'.vm) m args below meth c T' (locs ++ L) (cells + kc) (slots + ks) ∧ Q v T'.vm T'.heap L ∧ s.Since T'.vm T'.heap.size ∧ T.heap.size ≤ T'.heap.size ∧ Z.Warmed39 (s.setVm T'.vm).vm ∧ (s.setVm T'.vm).vm.findClass own = some m.cls ∧ ∀ t, Steps p.tables e below (T'.setTop (g' v)) t → Steps p.tables e below (T.setTop g) t := by
  obtain ⟨v, vm, ⟨T', L', k', n'⟩, -, X, h2, hgr, ⟨L, hQ, e1, e2, e3⟩, st⟩ := H
  subst e1 e2 e3
  obtain ⟨X1, h3, h4, h5⟩ := rebS hS hk X h2 hgr hZ hown
  exact ⟨v, T', L, X1, hQ, h3, hgr, h4, h5, fun t k => st.trans k⟩
theorem own_litU {own : String} {ix : Nat} {la : Addr} (hL : Lit s own ix la) : ∀ U : State, s.WarmedH U.vm → Lit U own ix la := fun U hU => (Lit.stays (s := s) (vm0 := s.vm) hL hU.wide : Lit (s.setVm U.vm) own ix la)
theorem own_ibU {Ts : List String} (hI : IB Z s.vm Ts) : ∀ U : State, s.WarmedH U.vm → IB Z U.vm Ts := fun U hU => by
  obtain ⟨more, e, hm⟩ := hI
  exact ⟨more, hU.interned_eq.trans e, hm⟩
end OwnS
theorem own_lit2 {p : Program} {l : Launch} {e : Env} {R : Room} {s : State} {m : MethodId} {args : Array Value} {below : List Frame} {meth : Method} {c : Code} {T : State} {locs : List Loc} {cells slots : Nat} {Z : State} {vm0 : Vm} {own : String} {ix : Nat} {a : Addr} (L : Lit (s.setVm vm0) own ix a) (X : Stand p l e R (s.setVm vm0) m args below meth c T locs cells slots) : Lit (Z.setVm T.vm) own ix a :=
  (Lit.stays L X.warmed.wide : Lit (s.setVm T.vm) own ix a)
theorem own_ib2 {p : Program} {l : Launch} {e : Env} {R : Room} {s : State} {m : MethodId} {args : Array Value} {below : List Frame} {meth : Method} {c : Code} {T : State} {locs : List Loc} {cells slots : Nat} {Z : State} {vm0 : Vm} {Ts : List String} (I : IB Z vm0 Ts) (X : Stand p l e R (s.setVm vm0) m args below meth c T locs cells slots) : IB Z T.vm Ts := by
  obtain ⟨more, e, hm⟩ := I
  exact ⟨more, X.warmed.interned_eq.trans e, hm⟩
abbrev R_cen : Room := { frames := 0, cells := 0, slots := 0, locals := 0 }
abbrev eF_0 (m : MethodId) (x0 : Int32) : JFrame := entryFrame m #[(.int x0)] 1
theorem ef_0 (m : MethodId) (x0 : Int32) : entryFrame m #[(.int x0)] 1 = mkF m 0 #[.val (.int x0)] [] := by first | (simp [entryFrame, mkF, argsToLocals, Value.category]; done) | rfl
theorem pn_cen : plainName "java/lang/StringLatin1" = true := by first | (simp [plainName, overriddenIn]; done) | decide +kernel
def Q_cen (Z : State)  (h0 : Heap) (n0 : Nat) (v : Option Value) (h : Heap) (L : List Loc) : Prop := v = some (.int 1) ∧ Fr n0 L ∧ h = h0
theorem rm_cen {l : Launch} {Z : State} {a0 : Array Value} (hw : own_W a0 Z) (ch : Int32) (h0 : Heap) (n0 : Nat) (Z0 : n0 ≤ h0.size) (hc : own_c ch) : own_Met l y11 jdk_43_method_3_code 1 (some .boolean) R_cen Z h0 #[(.int ch)] (Q_cen Z  h0 n0) := by
  refine own_body (plainFor_of_name pn_cen) fun p e s m below meth c s₁ hlk hret hnm hx hby hml hown hZ X0 e0 => ?_
  have N0 := Fr.nil n0
  obtain ⟨Ga, Sa, nx, og⟩ := own_ga (p := p) (e := e) (below := below) s₁ (eF_0 m ch)
  have S0 : Ga s₁ (mkF m 0 #[vI ch] []) := nx Sa fun t k => castTop (ef_0 m ch) k
  have S1 : Ga s₁ (mkF m 4 #[vI ch] [(.int 255), (.int ch)]) := nx S0 fun t kt => by
    refine xi X0.here hx hby 0 0 rfl ?_
    refine XS.sipush X0.here hx rfl (own_k hby 1 (.sipush 255) 3) ?_
    exact kt
  have S2 : Ga s₁ (mkF m 12 #[vI ch] [(.int 1)]) := nx S1 fun t kt => by
    refine XS.icmpNo X0.here hx rfl (own_k hby 4 (.if_icmp .gt 7) 3) rfl (flt (show ¬ ((255 : Int32) < ch) from (own_rng hc).2)).2.2.1 ?_
    refine xc X0.here hx hby 7 1 ?_
    refine XS.goto X0.here hx rfl (pc0 := 8) (pc' := 12) rfl (own_k hby 8 (.goto 4) 3) (by decide) (by decide) ?_
    exact kt
  refine ⟨s₁, _, some (.int 1), _, _, _, X0, og S2, fun h => (nomatch hret.symm.trans h), by decide, by decide, ?_, fun fs hr => retN X0 hx (t := .boolean) hret (by simp) (own_k hby 12 (.ireturn) 1) hr⟩
  show Q_cen Z  h0 n0 _ s₁.heap _
  rw [e0]
  exact ⟨rfl, N0, rfl⟩
abbrev R_mxl : Room := { frames := 0, cells := 0, slots := 0, locals := 0 }
abbrev eF_1 (m : MethodId) (x0 : Int32) (x1 : Int32) : JFrame := entryFrame m #[(.int x0), (.int x1)] 2
theorem ef_1 (m : MethodId) (x0 : Int32) (x1 : Int32) : entryFrame m #[(.int x0), (.int x1)] 2 = mkF m 0 #[.val (.int x0), .val (.int x1)] [] := by first | (simp [entryFrame, mkF, argsToLocals, Value.category]; done) | rfl
def Q_mxl (Z : State) (x : Int32) (h0 : Heap) (n0 : Nat) (v : Option Value) (h : Heap) (L : List Loc) : Prop := v = some (.int x) ∧ Fr n0 L ∧ h = h0
theorem rm_mxl {l : Launch} {Z : State} {a0 : Array Value} (hw : own_W a0 Z) (x : Int32) (y : Int32) (h0 : Heap) (n0 : Nat) (Z0 : n0 ≤ h0.size) (hxy : ¬ x < y) : own_Met l y18 jdk_29_method_65_code 2 (some .int) R_mxl Z h0 #[(.int x), (.int y)] (Q_mxl Z x h0 n0) := by
  refine own_body (Jvm.Free.JP.mathPlain rfl (by decide +kernel)) fun p e s m below meth c s₁ hlk hret hnm hx hby hml hown hZ X0 e0 => ?_
  have N0 := Fr.nil n0
  obtain ⟨Ga, Sa, nx, og⟩ := own_ga (p := p) (e := e) (below := below) s₁ (eF_1 m x y)
  have S0 : Ga s₁ (mkF m 0 #[vI x, vI y] []) := nx Sa fun t k => castTop (ef_1 m x y) k
  have S3 : Ga s₁ (mkF m 2 #[vI x, vI y] [(.int y), (.int x)]) := nx S0 fun t kt => by
    refine xi X0.here hx hby 0 0 rfl ?_
    refine xi X0.here hx hby 1 1 rfl ?_
    exact kt
  have S4 : Ga s₁ (mkF m 10 #[vI x, vI y] [(.int x)]) := nx S3 fun t kt => by
    refine XS.icmpNo X0.here hx rfl (own_k hby 2 (.if_icmp .lt 7) 3) rfl (flt (show ¬ (x < y) from hxy)).1 ?_
    refine xi X0.here hx hby 5 0 rfl ?_
    refine XS.goto X0.here hx rfl (pc0 := 6) (pc' := 10) rfl (own_k hby 6 (.goto 4) 3) (by decide) (by decide) ?_
    exact kt
  refine ⟨s₁, _, some (.int x), _, _, _, X0, og S4, fun h => (nomatch hret.symm.trans h), by decide, by decide, ?_, fun fs hr => retI X0 hx hret (own_k hby 10 (.ireturn) 1) hr⟩
  show Q_mxl Z x h0 n0 _ s₁.heap _
  rw [e0]
  exact ⟨rfl, N0, rfl⟩
abbrev R_mxr : Room := { frames := 0, cells := 0, slots := 0, locals := 0 }
def Q_mxr (Z : State) (y : Int32) (h0 : Heap) (n0 : Nat) (v : Option Value) (h : Heap) (L : List Loc) : Prop := v = some (.int y) ∧ Fr n0 L ∧ h = h0
theorem rm_mxr {l : Launch} {Z : State} {a0 : Array Value} (hw : own_W a0 Z) (x : Int32) (y : Int32) (h0 : Heap) (n0 : Nat) (Z0 : n0 ≤ h0.size) (hxy : x < y) : own_Met l y18 jdk_29_method_65_code 2 (some .int) R_mxr Z h0 #[(.int x), (.int y)] (Q_mxr Z y h0 n0) := by
  refine own_body (Jvm.Free.JP.mathPlain rfl (by decide +kernel)) fun p e s m below meth c s₁ hlk hret hnm hx hby hml hown hZ X0 e0 => ?_
  have N0 := Fr.nil n0
  obtain ⟨Ga, Sa, nx, og⟩ := own_ga (p := p) (e := e) (below := below) s₁ (eF_1 m x y)
  have S0 : Ga s₁ (mkF m 0 #[vI x, vI y] []) := nx Sa fun t k => castTop (ef_1 m x y) k
  have S5 : Ga s₁ (mkF m 2 #[vI x, vI y] [(.int y), (.int x)]) := nx S0 fun t kt => by
    refine xi X0.here hx hby 0 0 rfl ?_
    refine xi X0.here hx hby 1 1 rfl ?_
    exact kt
  have S6 : Ga s₁ (mkF m 10 #[vI x, vI y] [(.int y)]) := nx S5 fun t kt => by
    refine XS.icmpYes X0.here hx rfl (pc0 := 2) (pc' := 9) rfl (own_k hby 2 (.if_icmp .lt 7) 3) rfl (tlt (show x < y from hxy)).1 (by decide) (by decide) ?_
    refine xi X0.here hx hby 9 1 rfl ?_
    exact kt
  refine ⟨s₁, _, some (.int y), _, _, _, X0, og S6, fun h => (nomatch hret.symm.trans h), by decide, by decide, ?_, fun fs hr => retI X0 hx hret (own_k hby 10 (.ireturn) 1) hr⟩
  show Q_mxr Z y h0 n0 _ s₁.heap _
  rw [e0]
  exact ⟨rfl, N0, rfl⟩
abbrev R_mnl : Room := { frames := 0, cells := 0, slots := 0, locals := 0 }
def Q_mnl (Z : State) (x : Int32) (h0 : Heap) (n0 : Nat) (v : Option Value) (h : Heap) (L : List Loc) : Prop := v = some (.int x) ∧ Fr n0 L ∧ h = h0
theorem rm_mnl {l : Launch} {Z : State} {a0 : Array Value} (hw : own_W a0 Z) (x : Int32) (y : Int32) (h0 : Heap) (n0 : Nat) (Z0 : n0 ≤ h0.size) (hxy : ¬ y < x) : own_Met l y28 jdk_29_method_69_code 2 (some .int) R_mnl Z h0 #[(.int x), (.int y)] (Q_mnl Z x h0 n0) := by
  refine own_body (Jvm.Free.JP.mathPlain rfl (by decide +kernel)) fun p e s m below meth c s₁ hlk hret hnm hx hby hml hown hZ X0 e0 => ?_
  have N0 := Fr.nil n0
  obtain ⟨Ga, Sa, nx, og⟩ := own_ga (p := p) (e := e) (below := below) s₁ (eF_1 m x y)
  have S0 : Ga s₁ (mkF m 0 #[vI x, vI y] []) := nx Sa fun t k => castTop (ef_1 m x y) k
  have S7 : Ga s₁ (mkF m 2 #[vI x, vI y] [(.int y), (.int x)]) := nx S0 fun t kt => by
    refine xi X0.here hx hby 0 0 rfl ?_
    refine xi X0.here hx hby 1 1 rfl ?_
    exact kt
  have S8 : Ga s₁ (mkF m 10 #[vI x, vI y] [(.int x)]) := nx S7 fun t kt => by
    refine XS.icmpNo X0.here hx rfl (own_k hby 2 (.if_icmp .gt 7) 3) rfl (flt (show ¬ (y < x) from hxy)).2.2.1 ?_
    refine xi X0.here hx hby 5 0 rfl ?_
    refine XS.goto X0.here hx rfl (pc0 := 6) (pc' := 10) rfl (own_k hby 6 (.goto 4) 3) (by decide) (by decide) ?_
    exact kt
  refine ⟨s₁, _, some (.int x), _, _, _, X0, og S8, fun h => (nomatch hret.symm.trans h), by decide, by decide, ?_, fun fs hr => retI X0 hx hret (own_k hby 10 (.ireturn) 1) hr⟩
  show Q_mnl Z x h0 n0 _ s₁.heap _
  rw [e0]
  exact ⟨rfl, N0, rfl⟩
abbrev R_mnr : Room := { frames := 0, cells := 0, slots := 0, locals := 0 }
def Q_mnr (Z : State) (y : Int32) (h0 : Heap) (n0 : Nat) (v : Option Value) (h : Heap) (L : List Loc) : Prop := v = some (.int y) ∧ Fr n0 L ∧ h = h0
theorem rm_mnr {l : Launch} {Z : State} {a0 : Array Value} (hw : own_W a0 Z) (x : Int32) (y : Int32) (h0 : Heap) (n0 : Nat) (Z0 : n0 ≤ h0.size) (hxy : y < x) : own_Met l y28 jdk_29_method_69_code 2 (some .int) R_mnr Z h0 #[(.int x), (.int y)] (Q_mnr Z y h0 n0) := by
  refine own_body (Jvm.Free.JP.mathPlain rfl (by decide +kernel)) fun p e s m below meth c s₁ hlk hret hnm hx hby hml hown hZ X0 e0 => ?_
  have N0 := Fr.nil n0
  obtain ⟨Ga, Sa, nx, og⟩ := own_ga (p := p) (e := e) (below := below) s₁ (eF_1 m x y)
  have S0 : Ga s₁ (mkF m 0 #[vI x, vI y] []) := nx Sa fun t k => castTop (ef_1 m x y) k
  have S9 : Ga s₁ (mkF m 2 #[vI x, vI y] [(.int y), (.int x)]) := nx S0 fun t kt => by
    refine xi X0.here hx hby 0 0 rfl ?_
    refine xi X0.here hx hby 1 1 rfl ?_
    exact kt
  have S10 : Ga s₁ (mkF m 10 #[vI x, vI y] [(.int y)]) := nx S9 fun t kt => by
    refine XS.icmpYes X0.here hx rfl (pc0 := 2) (pc' := 9) rfl (own_k hby 2 (.if_icmp .gt 7) 3) rfl (tlt (show y < x from hxy)).2.2.1 (by decide) (by decide) ?_
    refine xi X0.here hx hby 9 1 rfl ?_
    exact kt
  refine ⟨s₁, _, some (.int y), _, _, _, X0, og S10, fun h => (nomatch hret.symm.trans h), by decide, by decide, ?_, fun fs hr => retI X0 hx hret (own_k hby 10 (.ireturn) 1) hr⟩
  show Q_mnr Z y h0 n0 _ s₁.heap _
  rw [e0]
  exact ⟨rfl, N0, rfl⟩
abbrev R_rnn : Room := { frames := 0, cells := 0, slots := 0, locals := 0 }
abbrev eF_2 (m : MethodId) (x0 : Addr) : JFrame := entryFrame m #[(.ref x0)] 1
theorem ef_2 (m : MethodId) (x0 : Addr) : entryFrame m #[(.ref x0)] 1 = mkF m 0 #[.val (.ref x0)] [] := by first | (simp [entryFrame, mkF, argsToLocals, Value.category]; done) | rfl
theorem pn_rnn : plainName "java/util/Objects" = true := by first | (simp [plainName, overriddenIn]; done) | decide +kernel
def Q_rnn (Z : State) (a : Addr) (h0 : Heap) (n0 : Nat) (v : Option Value) (h : Heap) (L : List Loc) : Prop := v = some (.ref a) ∧ Fr n0 L ∧ h = h0
theorem rm_rnn {l : Launch} {Z : State} {a0 : Array Value} (hw : own_W a0 Z) (a : Addr) (h0 : Heap) (n0 : Nat) (Z0 : n0 ≤ h0.size)  : own_Met l y33 jdk_31_method_10_code 1 (some (.object "java/lang/Object")) R_rnn Z h0 #[(.ref a)] (Q_rnn Z a h0 n0) := by
  refine own_body (plainFor_of_name pn_rnn) fun p e s m below meth c s₁ hlk hret hnm hx hby hml hown hZ X0 e0 => ?_
  have N0 := Fr.nil n0
  obtain ⟨Ga, Sa, nx, og⟩ := own_ga (p := p) (e := e) (below := below) s₁ (eF_2 m a)
  have S0 : Ga s₁ (mkF m 0 #[vR a] []) := nx Sa fun t k => castTop (ef_2 m a) k
  have S11 : Ga s₁ (mkF m 13 #[vR a] [(.ref a)]) := nx S0 fun t kt => by
    refine xa X0.here hx hby 0 0 rfl ?_
    refine XS.ifnonnullYes X0.here hx rfl (pc0 := 1) (pc' := 12) rfl (own_k hby 1 (.ifnonnull 11) 3) rfl (by decide) (by decide) ?_
    refine xa X0.here hx hby 12 0 rfl ?_
    exact kt
  refine ⟨s₁, _, some (.ref a), _, _, _, X0, og S11, fun h => (nomatch hret.symm.trans h), by decide, by decide, ?_, fun fs hr => retOut X0 hx hret rfl (Or.inr (Or.inr (Or.inr (Or.inr ⟨rfl, rfl, rfl⟩)))) (own_k hby 13 (.areturn) 1) hr⟩
  show Q_rnn Z a h0 n0 _ s₁.heap _
  rw [e0]
  exact ⟨rfl, N0, rfl⟩
abbrev R_lof : Room := { frames := 0, cells := 0, slots := 0, locals := 0 }
abbrev eF_3 (m : MethodId)  : JFrame := entryFrame m #[] 0
theorem ef_3 (m : MethodId)  : entryFrame m #[] 0 = mkF m 0 #[] [] := by first | (simp [entryFrame, mkF, argsToLocals, Value.category]; done) | rfl
theorem pn_lof : plainName "java/util/List" = true := by first | (simp [plainName, overriddenIn]; done) | decide +kernel
def Q_lof (Z : State) (em : Addr) (h0 : Heap) (n0 : Nat) (v : Option Value) (h : Heap) (L : List Loc) : Prop := v = some (.ref em) ∧ Fr n0 L ∧ h = h0
theorem rm_lof {l : Launch} {Z : State} {a0 : Array Value} (hw : own_W a0 Z) (no : Nat) (de : Addr) (em : Addr) (el : Addr) (ey : Addr) (h0 : Heap) (n0 : Nat) (Z0 : n0 ≤ h0.size) (SS : own_St Z de em el ey) (hno : no ≤ n0) (O0 : Old Z no h0) : own_Met l y34 jdk_40_method_36_code 0 (some (.object "java/util/List")) R_lof Z h0 #[] (Q_lof Z em h0 n0) := by
  refine own_body (plainFor_of_name pn_lof) fun p e s m below meth c s₁ hlk hret hnm hx hby hml hown hZ X0 e0 => ?_
  have N0 := Fr.nil n0
  obtain ⟨Ga, Sa, nx, og⟩ := own_ga (p := p) (e := e) (below := below) s₁ (eF_3 m)
  have S0 : Ga s₁ (mkF m 0 #[] []) := nx Sa fun t k => castTop (ef_3 m ) k
  obtain ⟨⟨cz, S_cs, hcz⟩, ⟨kde, S_de, E_de, V_de⟩, ⟨kel, S_em, E_em, F_em, V_el⟩, S_ey, E_ey⟩ := id SS
  obtain ⟨T12, X12, e12, st12⟩ := getS2 X0 hx hZ hown (host := "") (Or.inl (own_h hw 204 rfl)) Via.refl e0 (S_em.ext O0.2) (g := (mkF m 0 #[] [])) rfl (own_k hby 0 (.getstatic 90) 3)
  have S13 : Ga T12 (mkF m 3 #[] [(.ref em)]) := nx S0 fun t kt => st12 t kt
  refine ⟨T12, _, some (.ref em), _, _, _, X12, og S13, fun h => (nomatch hret.symm.trans h), by decide, by decide, ?_, fun fs hr => retOut X12 hx hret rfl (Or.inr (Or.inr (Or.inr (Or.inr ⟨rfl, rfl, rfl⟩)))) (own_k hby 3 (.areturn) 1) hr⟩
  show Q_lof Z em h0 n0 _ T12.heap _
  rw [e12]
  exact ⟨rfl, N0, rfl⟩
abbrev R_sts : Room := { frames := 0, cells := 0, slots := 0, locals := 0 }
theorem pn_sts : plainName "java/lang/String" = true := by first | (simp [plainName, overriddenIn]; done) | decide +kernel
def Q_sts (Z : State) (a : Addr) (h0 : Heap) (n0 : Nat) (v : Option Value) (h : Heap) (L : List Loc) : Prop := v = some (.ref a) ∧ Fr n0 L ∧ h = h0
theorem rm_sts {l : Launch} {Z : State} {a0 : Array Value} (hw : own_W a0 Z) (a : Addr) (h0 : Heap) (n0 : Nat) (Z0 : n0 ≤ h0.size)  : own_Met l y61 jdk_42_method_126_code 1 (some (.object "java/lang/String")) R_sts Z h0 #[(.ref a)] (Q_sts Z a h0 n0) := by
  refine own_body (plainFor_of_name pn_sts) fun p e s m below meth c s₁ hlk hret hnm hx hby hml hown hZ X0 e0 => ?_
  have N0 := Fr.nil n0
  obtain ⟨Ga, Sa, nx, og⟩ := own_ga (p := p) (e := e) (below := below) s₁ (eF_2 m a)
  have S0 : Ga s₁ (mkF m 0 #[vR a] []) := nx Sa fun t k => castTop (ef_2 m a) k
  have S14 : Ga s₁ (mkF m 1 #[vR a] [(.ref a)]) := nx S0 fun t kt => by
    refine xa X0.here hx hby 0 0 rfl ?_
    exact kt
  refine ⟨s₁, _, some (.ref a), _, _, _, X0, og S14, fun h => (nomatch hret.symm.trans h), by decide, by decide, ?_, fun fs hr => retOut X0 hx hret rfl (Or.inr (Or.inr (Or.inr (Or.inr ⟨rfl, rfl, rfl⟩)))) (own_k hby 1 (.areturn) 1) hr⟩
  show Q_sts Z a h0 n0 _ s₁.heap _
  rw [e0]
  exact ⟨rfl, N0, rfl⟩
abbrev R_abi : Room := { frames := 1, cells := 0, slots := 0, locals := 12 }
theorem pn_abi : plainName "java/util/AbstractCollection" = true := by first | (simp [plainName, overriddenIn]; done) | decide +kernel
def Q_abi (Z : State)  (h0 : Heap) (n0 : Nat) (v : Option Value) (h : Heap) (L : List Loc) : Prop := v = none ∧ Fr n0 L ∧ h = h0
theorem rm_abi {l : Launch} {Z : State} {a0 : Array Value} (hw : own_W a0 Z) (x : Addr) (h0 : Heap) (n0 : Nat) (Z0 : n0 ≤ h0.size)  : own_Met l y9 jdk_22_method_1_code 1 none R_abi Z h0 #[(.ref x)] (Q_abi Z  h0 n0) := by
  refine own_body (plainFor_of_name pn_abi) fun p e s m below meth c s₁ hlk hret hnm hx hby hml hown hZ X0 e0 => ?_
  have N0 := Fr.nil n0
  obtain ⟨Ga, Sa, nx, og⟩ := own_ga (p := p) (e := e) (below := below) s₁ (eF_2 m x)
  have S0 : Ga s₁ (mkF m 0 #[vR x] []) := nx Sa fun t k => castTop (ef_2 m x) k
  have S15 : Ga s₁ (mkF m 1 #[vR x] [(.ref x)]) := nx S0 fun t kt => by
    refine xa X0.here hx hby 0 0 rfl ?_
    exact kt
  obtain ⟨T16, X16, e16, st16⟩ := initO X0 hx hZ hown (own_h hw 49 rfl) (own_h hw 13 rfl) (own_h hw 14 rfl) e0 (g := (mkF m 1 #[vR x] [(.ref x)])) rfl (by rw [hml]; rfl) rfl (own_k hby 1 (.invokespecial 1) 3) (by decide) (W := 0) (by show 2 * 0 + _ ≤ _; exact Nat.le_of_eq rfl) (by decide)
  have S17 : Ga T16 (mkF m 4 #[vR x] []) := nx S15 fun t kt => st16 t kt
  refine ⟨T16, _, none, _, _, _, X16, og S17, fun _ => rfl, by decide, by decide, ?_, fun fs hr => X16.returnOut hx hret (own_k hby 4 (.return_) 1) hr⟩
  show Q_abi Z  h0 n0 _ T16.heap _
  rw [e16]
  exact ⟨rfl, N0, rfl⟩
abbrev R_rci : Room := { frames := 1, cells := 0, slots := 0, locals := 12 }
theorem pn_rci : plainName "java/lang/Record" = true := by first | (simp [plainName, overriddenIn]; done) | decide +kernel
def Q_rci (Z : State)  (h0 : Heap) (n0 : Nat) (v : Option Value) (h : Heap) (L : List Loc) : Prop := v = none ∧ Fr n0 L ∧ h = h0
theorem rm_rci {l : Launch} {Z : State} {a0 : Array Value} (hw : own_W a0 Z) (x : Addr) (h0 : Heap) (n0 : Nat) (Z0 : n0 ≤ h0.size)  : own_Met l y21 jdk_30_method_1_code 1 none R_rci Z h0 #[(.ref x)] (Q_rci Z  h0 n0) := by
  refine own_body (plainFor_of_name pn_rci) fun p e s m below meth c s₁ hlk hret hnm hx hby hml hown hZ X0 e0 => ?_
  have N0 := Fr.nil n0
  obtain ⟨Ga, Sa, nx, og⟩ := own_ga (p := p) (e := e) (below := below) s₁ (eF_2 m x)
  have S0 : Ga s₁ (mkF m 0 #[vR x] []) := nx Sa fun t k => castTop (ef_2 m x) k
  have S18 : Ga s₁ (mkF m 1 #[vR x] [(.ref x)]) := nx S0 fun t kt => by
    refine xa X0.here hx hby 0 0 rfl ?_
    exact kt
  obtain ⟨T19, X19, e19, st19⟩ := initO X0 hx hZ hown (own_h hw 115 rfl) (own_h hw 13 rfl) (own_h hw 14 rfl) e0 (g := (mkF m 1 #[vR x] [(.ref x)])) rfl (by rw [hml]; rfl) rfl (own_k hby 1 (.invokespecial 1) 3) (by decide) (W := 0) (by show 2 * 0 + _ ≤ _; exact Nat.le_of_eq rfl) (by decide)
  have S20 : Ga T19 (mkF m 4 #[vR x] []) := nx S18 fun t kt => st19 t kt
  refine ⟨T19, _, none, _, _, _, X19, og S20, fun _ => rfl, by decide, by decide, ?_, fun fs hr => X19.returnOut hx hret (own_k hby 4 (.return_) 1) hr⟩
  show Q_rci Z  h0 n0 _ T19.heap _
  rw [e19]
  exact ⟨rfl, N0, rfl⟩
abbrev R_aic : Room := { frames := 2, cells := 0, slots := 0, locals := 24 }
theorem pn_aic : plainName "java/util/ImmutableCollections$AbstractImmutableCollection" = true := by first | (simp [plainName, overriddenIn]; done) | decide +kernel
def Q_aic (Z : State)  (h0 : Heap) (n0 : Nat) (v : Option Value) (h : Heap) (L : List Loc) : Prop := v = none ∧ Fr n0 L ∧ h = h0
theorem rm_aic {l : Launch} {Z : State} {a0 : Array Value} (hw : own_W a0 Z) (x : Addr) (h0 : Heap) (n0 : Nat) (Z0 : n0 ≤ h0.size)  : own_Met l y32 jdk_47_method_1_code 1 none R_aic Z h0 #[(.ref x)] (Q_aic Z  h0 n0) := by
  refine own_body (plainFor_of_name pn_aic) fun p e s m below meth c s₁ hlk hret hnm hx hby hml hown hZ X0 e0 => ?_
  have N0 := Fr.nil n0
  obtain ⟨Ga, Sa, nx, og⟩ := own_ga (p := p) (e := e) (below := below) s₁ (eF_2 m x)
  have S0 : Ga s₁ (mkF m 0 #[vR x] []) := nx Sa fun t k => castTop (ef_2 m x) k
  have S21 : Ga s₁ (mkF m 1 #[vR x] [(.ref x)]) := nx S0 fun t kt => by
    refine xa X0.here hx hby 0 0 rfl ?_
    exact kt
  obtain ⟨v22, T22, L22, X22, hQ22, st22⟩ := own_cI X0 hx hZ hw hown hml 191 44 48 47 rfl rfl rfl rfl rfl (a := x) (rm_abi hw x h0 n0 Z0 ) e0 (W := 0) (g := (mkF m 1 #[vR x] [(.ref x)])) rfl (argsL := []) (rest := []) pd___V (own_k hby 1 (.invokespecial 1) 3)
  obtain ⟨rfl, N22q, e22⟩ := hQ22
  have N22 := Fr.app N0 N22q
  have S23 : Ga T22 (mkF m 4 #[vR x] []) := nx S21 fun t kt => st22 t kt
  refine ⟨T22, _, none, _, _, _, X22, og S23, fun _ => rfl, by decide, by decide, ?_, fun fs hr => X22.returnOut hx hret (own_k hby 4 (.return_) 1) hr⟩
  show Q_aic Z  h0 n0 _ T22.heap _
  rw [e22]
  exact ⟨rfl, N22, rfl⟩
abbrev R_ail : Room := { frames := 3, cells := 0, slots := 0, locals := 36 }
theorem pn_ail : plainName "java/util/ImmutableCollections$AbstractImmutableList" = true := by first | (simp [plainName, overriddenIn]; done) | decide +kernel
def Q_ail (Z : State)  (h0 : Heap) (n0 : Nat) (v : Option Value) (h : Heap) (L : List Loc) : Prop := v = none ∧ Fr n0 L ∧ h = h0
theorem rm_ail {l : Launch} {Z : State} {a0 : Array Value} (hw : own_W a0 Z) (x : Addr) (h0 : Heap) (n0 : Nat) (Z0 : n0 ≤ h0.size)  : own_Met l y31 jdk_46_method_1_code 1 none R_ail Z h0 #[(.ref x)] (Q_ail Z  h0 n0) := by
  refine own_body (plainFor_of_name pn_ail) fun p e s m below meth c s₁ hlk hret hnm hx hby hml hown hZ X0 e0 => ?_
  have N0 := Fr.nil n0
  obtain ⟨Ga, Sa, nx, og⟩ := own_ga (p := p) (e := e) (below := below) s₁ (eF_2 m x)
  have S0 : Ga s₁ (mkF m 0 #[vR x] []) := nx Sa fun t k => castTop (ef_2 m x) k
  have S24 : Ga s₁ (mkF m 1 #[vR x] [(.ref x)]) := nx S0 fun t kt => by
    refine xa X0.here hx hby 0 0 rfl ?_
    exact kt
  obtain ⟨v25, T25, L25, X25, hQ25, st25⟩ := own_cI X0 hx hZ hw hown hml 185 186 190 189 rfl rfl rfl rfl rfl (a := x) (rm_aic hw x h0 n0 Z0 ) e0 (W := 0) (g := (mkF m 1 #[vR x] [(.ref x)])) rfl (argsL := []) (rest := []) pd___V (own_k hby 1 (.invokespecial 1) 3)
  obtain ⟨rfl, N25q, e25⟩ := hQ25
  have N25 := Fr.app N0 N25q
  have S26 : Ga T25 (mkF m 4 #[vR x] []) := nx S24 fun t kt => st25 t kt
  refine ⟨T25, _, none, _, _, _, X25, og S26, fun _ => rfl, by decide, by decide, ?_, fun fs hr => X25.returnOut hx hret (own_k hby 4 (.return_) 1) hr⟩
  show Q_ail Z  h0 n0 _ T25.heap _
  rw [e25]
  exact ⟨rfl, N25, rfl⟩
abbrev R_cod : Room := { frames := 0, cells := 0, slots := 0, locals := 0 }
def Q_cod (Z : State)  (h0 : Heap) (n0 : Nat) (v : Option Value) (h : Heap) (L : List Loc) : Prop := v = some (.int 0) ∧ Fr n0 L ∧ h = h0
theorem rm_cod {l : Launch} {Z : State} {a0 : Array Value} (hw : own_W a0 Z) (no : Nat) (de : Addr) (em : Addr) (el : Addr) (ey : Addr) (a : Addr) (h0 : Heap) (n0 : Nat) (Z0 : n0 ≤ h0.size) (SS : own_St Z de em el ey) (hno : no ≤ n0) (O0 : Old Z no h0) (F : Fld Z h0 a "java/lang/String" "coder" "B" (.int 0)) : own_Met l y41 jdk_42_method_152_code 1 (some .byte) R_cod Z h0 #[(.ref a)] (Q_cod Z  h0 n0) := by
  refine own_body (plainFor_of_name pn_sts) fun p e s m below meth c s₁ hlk hret hnm hx hby hml hown hZ X0 e0 => ?_
  have N0 := Fr.nil n0
  obtain ⟨Ga, Sa, nx, og⟩ := own_ga (p := p) (e := e) (below := below) s₁ (eF_2 m a)
  have S0 : Ga s₁ (mkF m 0 #[vR a] []) := nx Sa fun t k => castTop (ef_2 m a) k
  obtain ⟨⟨cz, S_cs, hcz⟩, -⟩ := id SS
  obtain ⟨T27, X27, e27, st27⟩ := getS2 X0 hx hZ hown (host := "") (Or.inl (own_h hw 15 rfl)) Via.refl e0 (S_cs.ext O0.2) (g := (mkF m 0 #[vR a] [])) rfl (own_k hby 0 (.getstatic 38) 3)
  have S28 : Ga T27 (mkF m 7 #[vR a] [(.ref a)]) := nx S0 fun t kt => st27 t (by
    show Sp p e below T27 (mkF m 3 #[vR a] [(.int cz)]) _
    refine XS.ifNo X27.here hx rfl (own_k hby 3 (.ifCond .eq 10) 3) rfl ((if0 _ _).trans (feq (show ¬ (cz = (0 : Int32)) from hcz)).1) ?_
    refine xa X27.here hx hby 6 0 rfl ?_
    exact kt)
  obtain ⟨T29, X29, e29, st29⟩ := getF X27 hx hZ hown (host := "") (Or.inl (own_h hw 27 rfl)) Via.refl e27 F (g := (mkF m 7 #[vR a] [(.ref a)])) rfl rfl (own_k hby 7 (.getfield 15) 3)
  have S30 : Ga T29 (mkF m 14 #[vR a] [(.int 0)]) := nx S28 fun t kt => st29 t (by
    show Sp p e below T29 (mkF m 10 #[vR a] [(.int 0)]) _
    refine XS.goto X29.here hx rfl (pc0 := 10) (pc' := 14) rfl (own_k hby 10 (.goto 4) 3) (by decide) (by decide) ?_
    exact kt)
  refine ⟨T29, _, some (.int (nar .byte 0)), _, _, _, X29, og S30, fun h => (nomatch hret.symm.trans h), by decide, by decide, ?_, fun fs hr => retN X29 hx (t := .byte) hret (by simp) (own_k hby 14 (.ireturn) 1) hr⟩
  show Q_cod Z  h0 n0 _ T29.heap _
  rw [e29]
  exact ⟨(by decide), N0, rfl⟩
abbrev R_len : Room := { frames := 1, cells := 0, slots := 0, locals := 13 }
def Q_len (Z : State) (n : Nat) (h0 : Heap) (n0 : Nat) (v : Option Value) (h : Heap) (L : List Loc) : Prop := v = some (.int (Int32.ofNat n)) ∧ Fr n0 L ∧ h = h0
theorem rm_len {l : Launch} {Z : State} {a0 : Array Value} (hw : own_W a0 Z) (no : Nat) (de : Addr) (em : Addr) (el : Addr) (ey : Addr)(a : Addr) (b : Addr) (ks : ClassId) (n : Nat) (ws' : List Value) (h0 : Heap) (n0 : Nat) (Z0 : n0 ≤ h0.size) (SS : own_St Z de em el ey) (hno : no ≤ n0) (O0 : Old Z no h0) (HS : own_Str Z h0 a b ks (Int32.ofNat n) ws') : own_Met l y40 jdk_42_method_54_code 1 (some .int) R_len Z h0 #[(.ref a)] (Q_len Z n h0 n0) := by
  refine own_body (plainFor_of_name pn_sts) fun p e s m below meth c s₁ hlk hret hnm hx hby hml hown hZ X0 e0 => ?_
  have N0 := Fr.nil n0
  obtain ⟨Ga, Sa, nx, og⟩ := own_ga (p := p) (e := e) (below := below) s₁ (eF_2 m a)
  have S0 : Ga s₁ (mkF m 0 #[vR a] []) := nx Sa fun t k => castTop (ef_2 m a) k
  obtain ⟨⟨cz, S_cs, hcz⟩, -⟩ := id SS
  obtain ⟨E, F, G, V⟩ := HS
  have S31 : Ga s₁ (mkF m 1 #[vR a] [(.ref a)]) := nx S0 fun t kt => by
    refine xa X0.here hx hby 0 0 rfl ?_
    exact kt
  obtain ⟨T32, X32, e32, st32⟩ := getF X0 hx hZ hown (host := "") (Or.inl (own_h hw 29 rfl)) Via.refl e0 G (g := (mkF m 1 #[vR a] [(.ref a)])) rfl rfl (own_k hby 1 (.getfield 9) 3)
  obtain ⟨co33, Ao33, qo33, So33, No33, Ho33, Go33⟩ := id V
  have S34 : Ga T32 (mkF m 6 #[vR a] [(.ref a), (.int (Int32.ofNat n))]) := nx S31 fun t kt => st32 t (by
    show Sp p e below T32 (mkF m 4 #[vR a] [(.ref b)]) _
    refine X32.arraylength hx (by rw [e32]; exact Ao33.1) (State.isArrayOf_alike hZ.alike Ao33.2.1) (g := (mkF m 4 #[vR a] [(.ref b)])) rfl rfl (own_k hby 4 (.arraylength) 1) _ ?_
    rw [len_of So33 No33]
    show Sp p e below T32 (mkF m 5 #[vR a] [(.int (Int32.ofNat n))]) _
    refine xa X32.here hx hby 5 0 rfl ?_
    exact kt)
  obtain ⟨v35, T35, L35, X35, hQ35, st35⟩ := own_cV1 X32 hx hZ hw hown hml 256 257 259 258 260 3 rfl rfl rfl rfl rfl rfl E (rm_cod hw no de em el ey a h0 n0 Z0 SS hno O0 F) e32 (W := 1) (g := (mkF m 6 #[vR a] [(.ref a), (.int (Int32.ofNat n))])) rfl (argsL := []) (rest := [(.int (Int32.ofNat n))]) pd___B (own_k hby 6 (.invokevirtual 335) 3)
  obtain ⟨rfl, N35q, e35⟩ := hQ35
  have N35 := Fr.app N0 N35q
  have S36 : Ga T35 (mkF m 10 #[vR a] [(.int ((Int32.ofNat n) >>> ((0 : Int32) &&& 31)))]) := nx S34 fun t kt => st35 t (by
    show Sp p e below T35 (mkF m 9 #[vR a] [(.int 0), (.int (Int32.ofNat n))]) _
    refine XS.ishr X35.here hx rfl (own_k hby 9 (.ishr) 1) rfl ?_
    exact kt)
  have q38 : ((Int32.ofNat n) >>> ((0 : Int32) &&& 31)) = (Int32.ofNat n) := own_shr0 _
  have S37 : Ga T35 (mkF m 10 #[vR a] [(.int (Int32.ofNat n))]) := by have h := S36; rw [q38] at h; exact h
  clear S36
  refine ⟨T35, _, some (.int (Int32.ofNat n)), _, _, _, X35, og S37, fun h => (nomatch hret.symm.trans h), by decide, by decide, ?_, fun fs hr => retI X35 hx hret (own_k hby 10 (.ireturn) 1) hr⟩
  show Q_len Z n h0 n0 _ T35.heap _
  rw [e35]
  exact ⟨rfl, N35, rfl⟩
abbrev R_tob : Room := { frames := 0, cells := 1, slots := 1, locals := 0 }
def Q_tob (Z : State) (ch : Int32) (h0 : Heap) (n0 : Nat) (v : Option Value) (h : Heap) (L : List Loc) : Prop := ∃ (b : Addr) (k : ClassId), v = some (.ref b) ∧ Fr n0 L ∧ Keep h0 h [] ∧ h0.size ≤ b ∧ Arv Z h b k .byte 1 (own_vs [ch]) (.int 0)
theorem rm_tob {l : Launch} {Z : State} {a0 : Array Value} (hw : own_W a0 Z) (ch : Int32) (h0 : Heap) (n0 : Nat) (Z0 : n0 ≤ h0.size)  : own_Met l y12 jdk_43_method_46_code 1 (some (.array .byte)) R_tob Z h0 #[(.int ch)] (Q_tob Z ch h0 n0) := by
  refine own_body (plainFor_of_name pn_cen) fun p e s m below meth c s₁ hlk hret hnm hx hby hml hown hZ X0 e0 => ?_
  have N0 := Fr.nil n0
  obtain ⟨Ga, Sa, nx, og⟩ := own_ga (p := p) (e := e) (below := below) s₁ (eF_0 m ch)
  have S0 : Ga s₁ (mkF m 0 #[vI ch] []) := nx Sa fun t k => castTop (ef_0 m ch) k
  have S39 : Ga s₁ (mkF m 1 #[vI ch] [(.int 1)]) := nx S0 fun t kt => by
    refine xc X0.here hx hby 0 1 ?_
    exact kt
  obtain ⟨T40, h40, k40, X40, e40, E40, A40, st40⟩ := newP X0 hx hZ (own_h hw 20 rfl) e0 (g := (mkF m 1 #[vI ch] [(.int 1)])) rfl (own_k hby 1 (.newarray .byte) 2) rfl (by decide) (cap := 1) (by decide) (by decide) (by decide) (by decide)
  obtain ⟨b1, g40⟩ : ∃ z, z = h0.size := ⟨_, rfl⟩
  rw [← g40] at A40 st40
  have g_b1 : n0 ≤ b1 := Nat.le_trans Z0 (Nat.le_of_eq g40.symm)
  have sz_b1 : h0.size ≤ b1 := Nat.le_trans (Keep.refl h0 []).1 (Nat.le_of_eq g40.symm)
  have K40 : Keep h0 h40 [] := (Keep.refl h0 []).ext E40
  have V40 : Arv Z h40 b1 k40 .byte 1 [(.int 0)] (.int 0) := (Arv.new A40 (by decide)).pad (pad_rep [] _ 1)
  have S41 : Ga T40 (mkF m 7 #[vI ch] [(.int (ch.toInt8.toInt32)), (.int 0), (.ref b1), (.ref b1)]) := nx S39 fun t kt => st40 t (by
    show Sp p e below T40 (mkF m 3 #[vI ch] [(.ref b1)]) _
    refine XS.dup X40.here hx rfl (own_k hby 3 (.dup) 1) rfl rfl ?_
    refine xc X40.here hx hby 4 0 ?_
    refine xi X40.here hx hby 5 0 rfl ?_
    refine XS.i2b X40.here hx rfl (own_k hby 6 (.i2b) 1) rfl ?_
    show Sp p e below T40 (mkF m 7 #[vI ch] [(.int (ch.toInt8.toInt32)), (.int 0), (.ref b1), (.ref b1)]) _
    exact kt)
  obtain ⟨co42, Ao42, qo42, So42, No42, Ho42, Go42⟩ := id V40
  have hino42 : ¬ ((0 : Int32) < 0 ∨ co42.slots.size ≤ ((0 : Int32)).toNatClampNeg) := inb_of So42 ⟨by decide, by decide⟩
  obtain ⟨T43, h43, X43, e43, W43, st43⟩ := stB X40 hx hZ e40 Ao42 (j := (0 : Int32)) hino42 (g := (mkF m 7 #[vI ch] [(.int (ch.toInt8.toInt32)), (.int 0), (.ref b1), (.ref b1)])) rfl rfl (own_k hby 7 (.bastore) 1)
  have N43 := Fr.snoc X43 N0 g_b1
  have K43 : Keep h0 h43 [] := K40.wr W43 (Or.inr sz_b1)
  have V43 : Arv Z h43 b1 k40 .byte 1 [(.int ((ch.toInt8.toInt32).toInt8.toInt32))] (.int 0) := Arv.set Ao42 qo42 So42 No42 Ho42 Go42 (fits_nar_byte _) W43 0 rfl (Nat.le_of_ble_eq_true rfl)
  rw [own_b8 ch] at V43
  have S44 : Ga T43 (mkF m 8 #[vI ch] [(.ref b1)]) := nx S41 fun t kt => st43 t kt
  refine ⟨T43, _, some (.ref b1), _, _, _, X43, og S44, fun h => (nomatch hret.symm.trans h), by decide, by decide, ?_, fun fs hr => retOut X43 hx hret rfl (Or.inr (Or.inr (Or.inr (Or.inr ⟨rfl, rfl, rfl⟩)))) (own_k hby 8 (.areturn) 1) hr⟩
  show Q_tob Z ch h0 n0 _ T43.heap _
  rw [e43]
  exact ⟨b1, _, rfl, N43, K43, sz_b1, V43⟩
abbrev R_sib : Room := { frames := 1, cells := 0, slots := 0, locals := 12 }
abbrev eF_4 (m : MethodId) (x0 : Addr) (x1 : Addr) (x2 : Int32) : JFrame := entryFrame m #[(.ref x0), (.ref x1), (.int x2)] 3
theorem ef_4 (m : MethodId) (x0 : Addr) (x1 : Addr) (x2 : Int32) : entryFrame m #[(.ref x0), (.ref x1), (.int x2)] 3 = mkF m 0 #[.val (.ref x0), .val (.ref x1), .val (.int x2)] [] := by first | (simp [entryFrame, mkF, argsToLocals, Value.category]; done) | rfl
def Q_sib (Z : State) (x : Addr) (b : Addr) (h0 : Heap) (n0 : Nat) (v : Option Value) (h : Heap) (L : List Loc) : Prop := v = none ∧ Fr n0 L ∧ Keep h0 h [x] ∧ Exa Z h x "java/lang/String" ∧ Fld Z h x "java/lang/String" "coder" "B" (.int 0) ∧ Fld Z h x "java/lang/String" "value" "[B" (.ref b)
theorem rm_sib {l : Launch} {Z : State} {a0 : Array Value} (hw : own_W a0 Z) (x : Addr) (b : Addr) (h0 : Heap) (n0 : Nat) (Z0 : n0 ≤ h0.size) (E0 : Exa Z h0 x "java/lang/String") (F0 : Fld Z h0 x "java/lang/String" "value" "[B" .null) (G0 : Fld Z h0 x "java/lang/String" "coder" "B" (.int 0)) (g_x : n0 ≤ x) : own_Met l y13 jdk_42_method_151_code 3 none R_sib Z h0 #[(.ref x), (.ref b), (.int 0)] (Q_sib Z x b h0 n0) := by
  refine own_body (plainFor_of_name pn_sts) fun p e s m below meth c s₁ hlk hret hnm hx hby hml hown hZ X0 e0 => ?_
  have N0 := Fr.nil n0
  obtain ⟨Ga, Sa, nx, og⟩ := own_ga (p := p) (e := e) (below := below) s₁ (eF_4 m x b (0 : Int32))
  have S0 : Ga s₁ (mkF m 0 #[vR x, vR b, vI 0] []) := nx Sa fun t k => castTop (ef_4 m x b (0 : Int32)) k
  have S45 : Ga s₁ (mkF m 1 #[vR x, vR b, vI 0] [(.ref x)]) := nx S0 fun t kt => by
    refine xa X0.here hx hby 0 0 rfl ?_
    exact kt
  obtain ⟨T46, X46, e46, st46⟩ := initO X0 hx hZ hown (own_h hw 12 rfl) (own_h hw 13 rfl) (own_h hw 14 rfl) e0 (g := (mkF m 1 #[vR x, vR b, vI 0] [(.ref x)])) rfl (by rw [hml]; rfl) rfl (own_k hby 1 (.invokespecial 1) 3) (by decide) (W := 0) (by show 2 * 0 + _ ≤ _; exact Nat.le_of_eq rfl) (by decide)
  have S47 : Ga T46 (mkF m 6 #[vR x, vR b, vI 0] [(.ref b), (.ref x)]) := nx S45 fun t kt => st46 t (by
    show Sp p e below T46 (mkF m 4 #[vR x, vR b, vI 0] []) _
    refine xa X46.here hx hby 4 0 rfl ?_
    refine xa X46.here hx hby 5 1 rfl ?_
    exact kt)
  obtain ⟨T48, h48, X48, e48, W48, st48⟩ := putF X46 hx hZ hown (host := "") (Or.inl (own_h hw 29 rfl)) Via.refl e46 F0 E0 (Or.inr ⟨(own_h hw 30 rfl), rfl, hnm⟩) (own_h hw 2 rfl) (ty := (.array .byte)) (by decide) rfl rfl (g := (mkF m 6 #[vR x, vR b, vI 0] [(.ref b), (.ref x)])) rfl rfl (own_k hby 6 (.putfield 9) 3)
  have N48 := Fr.snoc X48 N0 g_x
  have K48 : Keep h0 h48 [x] := (Keep.refl h0 [x]).wr W48 (Or.inl (by simp))
  have Fw48 := F0.same W48
  have S49 : Ga T48 (mkF m 11 #[vR x, vR b, vI 0] [(.int 0), (.ref x)]) := nx S47 fun t kt => st48 t (by
    show Sp p e below T48 (mkF m 9 #[vR x, vR b, vI 0] []) _
    refine xa X48.here hx hby 9 0 rfl ?_
    refine xi X48.here hx hby 10 2 rfl ?_
    exact kt)
  have f50 := (G0.other W48 (Or.inr (ns0 hw)))
  have f51 := (E0.wr W48)
  obtain ⟨T52, h52, X52, e52, W52, st52⟩ := putFN X48 hx hZ hown (own_h hw 27 rfl) Via.refl e48 f50 f51 (Or.inr ⟨(own_h hw 28 rfl), rfl, hnm⟩) (own_h hw 2 rfl) (ty := .byte) (v' := .int ((0 : Int32).toInt8.toInt32)) (by decide) rfl (fits_nar_byte _) (g := (mkF m 11 #[vR x, vR b, vI 0] [(.int 0), (.ref x)])) rfl rfl (own_k hby 11 (.putfield 15) 3)
  rw [show ((0 : Int32).toInt8.toInt32) = (0 : Int32) from by decide] at W52
  have N52 := Fr.snoc X52 N48 g_x
  have K52 : Keep h0 h52 [x] := K48.wr W52 (Or.inl (by simp))
  have Fw52 := f50.same W52
  have f53 := (f51.wr W52)
  have f54 := (Fw48.other W52 (Or.inr (ns1 hw)))
  have S55 : Ga T52 (mkF m 14 #[vR x, vR b, vI 0] []) := nx S49 fun t kt => st52 t kt
  refine ⟨T52, _, none, _, _, _, X52, og S55, fun _ => rfl, by decide, by decide, ?_, fun fs hr => X52.returnOut hx hret (own_k hby 14 (.return_) 1) hr⟩
  show Q_sib Z x b h0 n0 _ T52.heap _
  rw [e52]
  exact ⟨rfl, N52, K52, f53, Fw52, f54⟩
abbrev R_vof : Room := { frames := 2, cells := 2, slots := 5, locals := 27 }
def Q_vof (Z : State) (ch : Int32) (h0 : Heap) (n0 : Nat) (v : Option Value) (h : Heap) (L : List Loc) : Prop := ∃ (a b : Addr) (k : ClassId), v = some (.ref a) ∧ Fr n0 L ∧ Keep h0 h [] ∧ h0.size ≤ a ∧ h0.size ≤ b ∧ own_Str Z h a b k (1 : Int32) (own_vs [ch])
theorem rm_vof {l : Launch} {Z : State} {a0 : Array Value} (hw : own_W a0 Z) (no : Nat) (de : Addr) (em : Addr) (el : Addr) (ey : Addr)(ch : Int32) (h0 : Heap) (n0 : Nat) (Z0 : n0 ≤ h0.size) (SS : own_St Z de em el ey) (hno : no ≤ n0) (O0 : Old Z no h0)(hc : own_c ch) : own_Met l y10 jdk_42_method_139_code 1 (some (.object "java/lang/String")) R_vof Z h0 #[(.int ch)] (Q_vof Z ch h0 n0) := by
  refine own_body (plainFor_of_name pn_sts) fun p e s m below meth c s₁ hlk hret hnm hx hby hml hown hZ X0 e0 => ?_
  have N0 := Fr.nil n0
  obtain ⟨Ga, Sa, nx, og⟩ := own_ga (p := p) (e := e) (below := below) s₁ (eF_0 m ch)
  have S0 : Ga s₁ (mkF m 0 #[vI ch] []) := nx Sa fun t k => castTop (ef_0 m ch) k
  obtain ⟨⟨cz, S_cs, hcz⟩, -⟩ := id SS
  obtain ⟨T56, X56, e56, st56⟩ := getS2 X0 hx hZ hown (host := "") (Or.inl (own_h hw 15 rfl)) Via.refl e0 (S_cs.ext O0.2) (g := (mkF m 0 #[vI ch] [])) rfl (own_k hby 0 (.getstatic 38) 3)
  have S57 : Ga T56 (mkF m 7 #[vI ch] [(.int ch)]) := nx S0 fun t kt => st56 t (by
    show Sp p e below T56 (mkF m 3 #[vI ch] [(.int cz)]) _
    refine XS.ifNo X56.here hx rfl (own_k hby 3 (.ifCond .eq 23) 3) rfl ((if0 _ _).trans (feq (show ¬ (cz = (0 : Int32)) from hcz)).1) ?_
    refine xi X56.here hx hby 6 0 rfl ?_
    exact kt)
  obtain ⟨v58, T58, L58, X58, hQ58, st58⟩ := own_cS X56 hx hZ hw hown hml 58 59 61 60 rfl rfl rfl rfl (rm_cen hw ch h0 n0 Z0 hc) e56 (W := 0) (g := (mkF m 7 #[vI ch] [(.int ch)])) rfl (argsL := [(.int ch)]) (rest := []) pd__C_Z (own_k hby 7 (.invokestatic 1015) 3)
  obtain ⟨rfl, N58q, e58⟩ := hQ58
  have N58 := Fr.app N0 N58q
  have S59 : Ga T58 (mkF m 13 #[vI ch] []) := nx S57 fun t kt => st58 t (by
    show Sp p e below T58 (mkF m 10 #[vI ch] [(.int 1)]) _
    refine XS.ifNo X58.here hx rfl (own_k hby 10 (.ifCond .eq 16) 3) rfl ((if0 _ _).trans (feq (show ¬ ((1 : Int32) = (0 : Int32)) from (by decide))).1) ?_
    exact kt)
  obtain ⟨T60, h60, X60, e60, E60, A60, D60, -, st60⟩ := newO X58 hx hZ hown (own_h hw 62 rfl) (own_h hw 2 rfl) (own_h hw 3 rfl) e58 (g := (mkF m 13 #[vI ch] [])) rfl (own_k hby 13 (.new 10) 3) (by decide) (by decide)
  obtain ⟨a1, g60⟩ : ∃ z, z = h0.size := ⟨_, rfl⟩
  rw [← g60] at A60 D60 st60
  have g_a1 : n0 ≤ a1 := Nat.le_trans Z0 (Nat.le_of_eq g60.symm)
  have sz_a1 : h0.size ≤ a1 := Nat.le_trans (Keep.refl h0 []).1 (Nat.le_of_eq g60.symm)
  have K60 : Keep h0 h60 [] := (Keep.refl h0 []).ext E60
  have F_coder_a1 : Fld Z h60 a1 "java/lang/String" "coder" "B" (.int 0) := D60 (Or.inr (own_h hw 28 rfl)) (ty := .byte) (by decide)
  have F_value_a1 : Fld Z h60 a1 "java/lang/String" "value" "[B" .null := D60 (Or.inr (own_h hw 30 rfl)) (ty := (.array .byte)) (by decide)
  have S61 : Ga T60 (mkF m 18 #[vI ch] [(.int ch), (.ref a1), (.ref a1)]) := nx S59 fun t kt => st60 t (by
    show Sp p e below T60 (mkF m 16 #[vI ch] [(.ref a1)]) _
    refine XS.dup X60.here hx rfl (own_k hby 16 (.dup) 1) rfl rfl ?_
    refine xi X60.here hx hby 17 0 rfl ?_
    exact kt)
  have z62 := (Nat.le_trans Z0 E60.1)
  obtain ⟨v63, T63, L63, X63, hQ63, st63⟩ := own_cS X60 hx hZ hw hown hml 63 64 65 60 rfl rfl rfl rfl (rm_tob hw ch h60 n0 z62 ) e60 (W := 2) (g := (mkF m 18 #[vI ch] [(.int ch), (.ref a1), (.ref a1)])) rfl (argsL := [(.int ch)]) (rest := [(.ref a1), (.ref a1)]) pd__C__B (own_k hby 18 (.invokestatic 1018) 3)
  obtain ⟨b1, kb63, rfl, N63q, K63, szb63, V63⟩ := hQ63
  have N63 := Fr.app N58 N63q
  have KK63 : Keep h0 T63.heap [] := K60.trans K63 all0
  have sz_b1 : h0.size ≤ b1 := Nat.le_trans K60.1 szb63
  have S64 : Ga T63 (mkF m 22 #[vI ch] [(.int 0), (.ref b1), (.ref a1), (.ref a1)]) := nx S61 fun t kt => st63 t (by
    show Sp p e below T63 (mkF m 21 #[vI ch] [(.ref b1), (.ref a1), (.ref a1)]) _
    refine xc X63.here hx hby 21 0 ?_
    exact kt)
  have f65 := (A60.keep K63)
  have f66 := (F_value_a1.keep K63 nin0)
  have f67 := (F_coder_a1.keep K63 nin0)
  have z68 := (Nat.le_trans z62 K63.1)
  obtain ⟨v69, T69, L69, X69, hQ69, st69⟩ := own_cI X63 hx hZ hw hown hml 66 67 68 3 rfl rfl rfl rfl rfl (a := a1) (rm_sib hw a1 b1 T63.heap n0 z68 f65 f66 f67 g_a1) rfl (W := 1) (g := (mkF m 22 #[vI ch] [(.int 0), (.ref b1), (.ref a1), (.ref a1)])) rfl (argsL := [(.ref b1), (.int 0)]) (rest := [(.ref a1)]) pd___BB_V (own_k hby 22 (.invokespecial 209) 3)
  obtain ⟨rfl, N69q, K69, E69, F69, G69⟩ := hQ69
  have N69 := Fr.app N63 N69q
  have KK69 : Keep h0 T69.heap [] := KK63.trans K69 (allS (Or.inr sz_a1) all0)
  have ne70 : a1 ≠ b1 := Nat.ne_of_lt (Nat.lt_of_lt_of_le (A60.lt) szb63)
  have f71 := (V63.keep K69 (ninS (Ne.symm ne70) nin0))
  have S72 : Ga T69 (mkF m 25 #[vI ch] [(.ref a1)]) := nx S64 fun t kt => st69 t kt
  refine ⟨T69, _, some (.ref a1), _, _, _, X69, og S72, fun h => (nomatch hret.symm.trans h), by decide, by decide, ?_, fun fs hr => retOut X69 hx hret rfl (Or.inr (Or.inr (Or.inr (Or.inr ⟨rfl, rfl, rfl⟩)))) (own_k hby 25 (.areturn) 1) hr⟩
  show Q_vof Z ch h0 n0 _ T69.heap _
  exact ⟨a1, b1, _, rfl, N69, KK69, sz_a1, sz_b1, E69, F69, G69, f71⟩
abbrev R_gby : Room := { frames := 1, cells := 0, slots := 0, locals := 18 }
abbrev eF_5 (m : MethodId) (x0 : Addr) (x1 : Addr) (x2 : Int32) (x3 : Int32) : JFrame := entryFrame m #[(.ref x0), (.ref x1), (.int x2), (.int x3)] 4
theorem ef_5 (m : MethodId) (x0 : Addr) (x1 : Addr) (x2 : Int32) (x3 : Int32) : entryFrame m #[(.ref x0), (.ref x1), (.int x2), (.int x3)] 4 = mkF m 0 #[.val (.ref x0), .val (.ref x1), .val (.int x2), .val (.int x3)] [] := by first | (simp [entryFrame, mkF, argsToLocals, Value.category]; done) | rfl
def Q_gby (Z : State) (n : Nat) (ws' : List Value) (bv : Addr) (k : ClassId) (cap : Nat) (vs : List Value) (c' : Nat) (h0 : Heap) (n0 : Nat) (v : Option Value) (h : Heap) (L : List Loc) : Prop := v = none ∧ Fr n0 L ∧ Keep h0 h [bv] ∧ Arv Z h bv k .byte (Int32.ofNat cap) (vs.take c' ++ ws' ++ vs.drop (c' + n)) (.int 0)
theorem rm_gby {l : Launch} {Z : State} {a0 : Array Value} (hw : own_W a0 Z) (no : Nat) (de : Addr) (em : Addr) (el : Addr) (ey : Addr)(a : Addr) (b : Addr) (ks : ClassId) (n : Nat) (ws' : List Value) (bv : Addr) (k : ClassId) (cap : Nat) (vs : List Value) (c' : Nat) (h0 : Heap) (n0 : Nat) (Z0 : n0 ≤ h0.size) (SS : own_St Z de em el ey) (hno : no ≤ n0) (O0 : Old Z no h0) (HS : own_Str Z h0 a b ks (Int32.ofNat n) ws') (Vb : Arv Z h0 bv k .byte (Int32.ofNat cap) vs (.int 0)) (g_bv : n0 ≤ bv) (hcn : c' + n ≤ cap) (hcap : cap ≤ 100) (hvl : vs.length = cap) (hwl : ws'.length = n) : own_Met l y45 jdk_42_method_147_code 4 none R_gby Z h0 #[(.ref a), (.ref bv), (.int (Int32.ofNat c')), (.int 0)] (Q_gby Z n ws' bv k cap vs c' h0 n0) := by
  refine own_body (plainFor_of_name pn_sts) fun p e s m below meth c s₁ hlk hret hnm hx hby hml hown hZ X0 e0 => ?_
  have N0 := Fr.nil n0
  obtain ⟨Ga, Sa, nx, og⟩ := own_ga (p := p) (e := e) (below := below) s₁ (eF_5 m a bv (Int32.ofNat c') (0 : Int32))
  have S0 : Ga s₁ (mkF m 0 #[vR a, vR bv, vI (Int32.ofNat c'), vI 0] []) := nx Sa fun t k => castTop (ef_5 m a bv (Int32.ofNat c') (0 : Int32)) k
  obtain ⟨⟨cz, S_cs, hcz⟩, -⟩ := id SS
  obtain ⟨E, F, G, V⟩ := HS
  have S73 : Ga s₁ (mkF m 1 #[vR a, vR bv, vI (Int32.ofNat c'), vI 0] [(.ref a)]) := nx S0 fun t kt => by
    refine xa X0.here hx hby 0 0 rfl ?_
    exact kt
  obtain ⟨v74, T74, L74, X74, hQ74, st74⟩ := own_cV1 X0 hx hZ hw hown hml 256 257 259 258 260 3 rfl rfl rfl rfl rfl rfl E (rm_cod hw no de em el ey a h0 n0 Z0 SS hno O0 F) e0 (W := 0) (g := (mkF m 1 #[vR a, vR bv, vI (Int32.ofNat c'), vI 0] [(.ref a)])) rfl (argsL := []) (rest := []) pd___B (own_k hby 1 (.invokevirtual 335) 3)
  obtain ⟨rfl, N74q, e74⟩ := hQ74
  have N74 := Fr.app N0 N74q
  have S75 : Ga T74 (mkF m 9 #[vR a, vR bv, vI (Int32.ofNat c'), vI 0] [(.ref a)]) := nx S73 fun t kt => st74 t (by
    show Sp p e below T74 (mkF m 4 #[vR a, vR bv, vI (Int32.ofNat c'), vI 0] [(.int 0)]) _
    refine xi X74.here hx hby 4 3 rfl ?_
    refine XS.icmpNo X74.here hx rfl (own_k hby 5 (.if_icmp .ne 23) 3) rfl (teq (show (0 : Int32) = (0 : Int32) from (by decide))).2 ?_
    refine xa X74.here hx hby 8 0 rfl ?_
    exact kt)
  obtain ⟨T76, X76, e76, st76⟩ := getF X74 hx hZ hown (host := "") (Or.inl (own_h hw 29 rfl)) Via.refl e74 G (g := (mkF m 9 #[vR a, vR bv, vI (Int32.ofNat c'), vI 0] [(.ref a)])) rfl rfl (own_k hby 9 (.getfield 9) 3)
  have S77 : Ga T76 (mkF m 17 #[vR a, vR bv, vI (Int32.ofNat c'), vI 0] [(.int ((Int32.ofNat c') <<< ((0 : Int32) &&& 31))), (.ref bv), (.int 0), (.ref b)]) := nx S75 fun t kt => st76 t (by
    show Sp p e below T76 (mkF m 12 #[vR a, vR bv, vI (Int32.ofNat c'), vI 0] [(.ref b)]) _
    refine xc X76.here hx hby 12 0 ?_
    refine xa X76.here hx hby 13 1 rfl ?_
    refine xi X76.here hx hby 14 2 rfl ?_
    refine xi X76.here hx hby 15 3 rfl ?_
    show Sp p e below T76 (mkF m 16 #[vR a, vR bv, vI (Int32.ofNat c'), vI 0] [(.int 0), (.int (Int32.ofNat c')), (.ref bv), (.int 0), (.ref b)]) _
    refine XS.ishl X76.here hx rfl (own_k hby 16 (.ishl) 1) rfl ?_
    exact kt)
  have q79 : ((Int32.ofNat c') <<< ((0 : Int32) &&& 31)) = (Int32.ofNat c') := own_shl0 _
  have S78 : Ga T76 (mkF m 17 #[vR a, vR bv, vI (Int32.ofNat c'), vI 0] [(.int (Int32.ofNat c')), (.ref bv), (.int 0), (.ref b)]) := by have h := S77; rw [q79] at h; exact h
  clear S77
  have S80 : Ga T76 (mkF m 18 #[vR a, vR bv, vI (Int32.ofNat c'), vI 0] [(.ref a), (.int (Int32.ofNat c')), (.ref bv), (.int 0), (.ref b)]) := nx S78 fun t kt => by
    refine xa X76.here hx hby 17 0 rfl ?_
    exact kt
  obtain ⟨T81, X81, e81, st81⟩ := getF X76 hx hZ hown (host := "") (Or.inl (own_h hw 29 rfl)) Via.refl e76 G (g := (mkF m 18 #[vR a, vR bv, vI (Int32.ofNat c'), vI 0] [(.ref a), (.int (Int32.ofNat c')), (.ref bv), (.int 0), (.ref b)])) rfl rfl (own_k hby 18 (.getfield 9) 3)
  obtain ⟨co82, Ao82, qo82, So82, No82, Ho82, Go82⟩ := id V
  have S83 : Ga T81 (mkF m 22 #[vR a, vR bv, vI (Int32.ofNat c'), vI 0] [(.int (Int32.ofNat n)), (.int (Int32.ofNat c')), (.ref bv), (.int 0), (.ref b)]) := nx S80 fun t kt => st81 t (by
    show Sp p e below T81 (mkF m 21 #[vR a, vR bv, vI (Int32.ofNat c'), vI 0] [(.ref b), (.int (Int32.ofNat c')), (.ref bv), (.int 0), (.ref b)]) _
    refine X81.arraylength hx (by rw [e81]; exact Ao82.1) (State.isArrayOf_alike hZ.alike Ao82.2.1) (g := (mkF m 21 #[vR a, vR bv, vI (Int32.ofNat c'), vI 0] [(.ref b), (.int (Int32.ofNat c')), (.ref bv), (.int 0), (.ref b)])) rfl rfl (own_k hby 21 (.arraylength) 1) _ ?_
    rw [len_of So82 No82]
    show Sp p e below T81 (mkF m 22 #[vR a, vR bv, vI (Int32.ofNat c'), vI 0] [(.int (Int32.ofNat n)), (.int (Int32.ofNat c')), (.ref bv), (.int 0), (.ref b)]) _
    exact kt)
  obtain ⟨T84, h84, L84, X84, e84, N84, K84, Vq84, st84⟩ := cpA X81 hx hZ hown (own_h hw 284 rfl) (own_h hw 168 rfl) (own_h hw 166 rfl) (own_h hw 167 rfl) e81 V Vb (sp := (0 : Int32)) (dp := (Int32.ofNat c')) (nn := (Int32.ofNat n)) (us := ws') (Or.inl ⟨rfl, rfl⟩) (by decide) (own_nn (by omega)) (own_nn (by omega)) (by rw [own_toN (show n < 2000 by omega)]; exact Nat.le_of_eq (Nat.zero_add n)) (by rw [own_toN (show c' < 2000 by omega), own_toN (show n < 2000 by omega), own_toN (show cap < 2000 by omega)]; omega) (own_husF rfl (own_toN (show n < 2000 by omega)) hwl) (by rw [own_toN (show c' < 2000 by omega), own_toN (show n < 2000 by omega), hvl]; omega) N74 g_bv (g := (mkF m 22 #[vR a, vR bv, vI (Int32.ofNat c'), vI 0] [(.int (Int32.ofNat n)), (.int (Int32.ofNat c')), (.ref bv), (.int 0), (.ref b)])) rfl (by rw [hml]; rfl) rfl (own_k hby 22 (.invokestatic 212) 3) (by decide) (W := 0) (by show 2 * 0 + _ ≤ _; exact Nat.le_of_eq rfl) (by decide)
  have KK84 : Keep h0 h84 [bv] := (Keep.refl h0 [bv]).trans K84 (allS (Or.inl (by simp)) all0)
  have V84 : Arv Z h84 bv k .byte (Int32.ofNat cap) (vs.take c' ++ ws' ++ vs.drop (c' + n)) (.int 0) := by have q := Vq84; rw [own_toN (show c' < 2000 by omega), own_toN (show n < 2000 by omega)] at q; exact q
  have S85 : Ga T84 (mkF m 43 #[vR a, vR bv, vI (Int32.ofNat c'), vI 0] []) := nx S83 fun t kt => st84 t (by
    show Sp p e below T84 (mkF m 25 #[vR a, vR bv, vI (Int32.ofNat c'), vI 0] []) _
    refine XS.goto X84.here hx rfl (pc0 := 25) (pc' := 43) rfl (own_k hby 25 (.goto 18) 3) (by decide) (by decide) ?_
    exact kt)
  refine ⟨T84, _, none, _, _, _, X84, og S85, fun _ => rfl, by decide, by decide, ?_, fun fs hr => X84.returnOut hx hret (own_k hby 43 (.return_) 1) hr⟩
  show Q_gby Z n ws' bv k cap vs c' h0 n0 _ T84.heap _
  rw [e84]
  exact ⟨rfl, N84, KK84, V84⟩
abbrev R_inf : Room := { frames := 1, cells := 0, slots := 0, locals := 13 }
abbrev eF_6 (m : MethodId) (x0 : Addr) (x1 : Addr) : JFrame := entryFrame m #[(.ref x0), (.ref x1)] 2
theorem ef_6 (m : MethodId) (x0 : Addr) (x1 : Addr) : entryFrame m #[(.ref x0), (.ref x1)] 2 = mkF m 0 #[.val (.ref x0), .val (.ref x1)] [] := by first | (simp [entryFrame, mkF, argsToLocals, Value.category]; done) | rfl
theorem pn_inf : plainName "java/lang/AbstractStringBuilder" = true := by first | (simp [plainName, overriddenIn]; done) | decide +kernel
def Q_inf (Z : State)  (h0 : Heap) (n0 : Nat) (v : Option Value) (h : Heap) (L : List Loc) : Prop := v = none ∧ Fr n0 L ∧ h = h0
theorem rm_inf {l : Launch} {Z : State} {a0 : Array Value} (hw : own_W a0 Z) (no : Nat) (de : Addr) (em : Addr) (el : Addr) (ey : Addr) (q : Addr) (a : Addr) (h0 : Heap) (n0 : Nat) (Z0 : n0 ≤ h0.size) (SS : own_St Z de em el ey) (hno : no ≤ n0) (O0 : Old Z no h0) (Fc : Fld Z h0 q "java/lang/AbstractStringBuilder" "coder" "B" (.int 0)) (E : Exa Z h0 a "java/lang/String") (F : Fld Z h0 a "java/lang/String" "coder" "B" (.int 0)) : own_Met l y44 jdk_68_method_71_code 2 none R_inf Z h0 #[(.ref q), (.ref a)] (Q_inf Z  h0 n0) := by
  refine own_body (plainFor_of_name pn_inf) fun p e s m below meth c s₁ hlk hret hnm hx hby hml hown hZ X0 e0 => ?_
  have N0 := Fr.nil n0
  obtain ⟨Ga, Sa, nx, og⟩ := own_ga (p := p) (e := e) (below := below) s₁ (eF_6 m q a)
  have S0 : Ga s₁ (mkF m 0 #[vR q, vR a] []) := nx Sa fun t k => castTop (ef_6 m q a) k
  obtain ⟨⟨cz, S_cs, hcz⟩, -⟩ := id SS
  obtain ⟨T86, X86, e86, st86⟩ := getS2 X0 hx hZ hown (host := "") (Or.inl (own_h hw 233 rfl)) Via.refl e0 (S_cs.ext O0.2) (g := (mkF m 0 #[vR q, vR a] [])) rfl (own_k hby 0 (.getstatic 18) 3)
  have S87 : Ga T86 (mkF m 7 #[vR q, vR a] [(.ref q)]) := nx S0 fun t kt => st86 t (by
    show Sp p e below T86 (mkF m 3 #[vR q, vR a] [(.int cz)]) _
    refine XS.ifNo X86.here hx rfl (own_k hby 3 (.ifCond .eq 18) 3) rfl ((if0 _ _).trans (feq (show ¬ (cz = (0 : Int32)) from hcz)).1) ?_
    refine xa X86.here hx hby 6 0 rfl ?_
    exact kt)
  obtain ⟨T88, X88, e88, st88⟩ := getF X86 hx hZ hown (host := "") (Or.inl (own_h hw 236 rfl)) Via.refl e86 Fc (g := (mkF m 7 #[vR q, vR a] [(.ref q)])) rfl rfl (own_k hby 7 (.getfield 22) 3)
  have S89 : Ga T88 (mkF m 11 #[vR q, vR a] [(.ref a), (.int 0)]) := nx S87 fun t kt => st88 t (by
    show Sp p e below T88 (mkF m 10 #[vR q, vR a] [(.int 0)]) _
    refine xa X88.here hx hby 10 1 rfl ?_
    exact kt)
  obtain ⟨v90, T90, L90, X90, hQ90, st90⟩ := own_cV1 X88 hx hZ hw hown hml 278 257 259 258 260 3 rfl rfl rfl rfl rfl rfl E (rm_cod hw no de em el ey a h0 n0 Z0 SS hno O0 F) e88 (W := 1) (g := (mkF m 11 #[vR q, vR a] [(.ref a), (.int 0)])) rfl (argsL := []) (rest := [(.int 0)]) pd___B (own_k hby 11 (.invokevirtual 40) 3)
  obtain ⟨rfl, N90q, e90⟩ := hQ90
  have N90 := Fr.app N0 N90q
  have S91 : Ga T90 (mkF m 21 #[vR q, vR a] []) := nx S89 fun t kt => st90 t (by
    show Sp p e below T90 (mkF m 14 #[vR q, vR a] [(.int 0), (.int 0)]) _
    refine XS.icmpYes X90.here hx rfl (pc0 := 14) (pc' := 21) rfl (own_k hby 14 (.if_icmp .eq 7) 3) rfl (teq (show (0 : Int32) = (0 : Int32) from (by decide))).1 (by decide) (by decide) ?_
    exact kt)
  refine ⟨T90, _, none, _, _, _, X90, og S91, fun _ => rfl, by decide, by decide, ?_, fun fs hr => X90.returnOut hx hret (own_k hby 21 (.return_) 1) hr⟩
  show Q_inf Z  h0 n0 _ T90.heap _
  rw [e90]
  exact ⟨rfl, N90, rfl⟩
abbrev R_psa : Room := { frames := 2, cells := 0, slots := 0, locals := 33 }
abbrev eF_7 (m : MethodId) (x0 : Addr) (x1 : Int32) (x2 : Addr) : JFrame := entryFrame m #[(.ref x0), (.int x1), (.ref x2)] 3
theorem ef_7 (m : MethodId) (x0 : Addr) (x1 : Int32) (x2 : Addr) : entryFrame m #[(.ref x0), (.int x1), (.ref x2)] 3 = mkF m 0 #[.val (.ref x0), .val (.int x1), .val (.ref x2)] [] := by first | (simp [entryFrame, mkF, argsToLocals, Value.category]; done) | rfl
def Q_psa (Z : State) (n : Nat) (ws' : List Value) (bv : Addr) (k : ClassId) (cap : Nat) (vs : List Value) (c' : Nat) (h0 : Heap) (n0 : Nat) (v : Option Value) (h : Heap) (L : List Loc) : Prop := v = none ∧ Fr n0 L ∧ Keep h0 h [bv] ∧ Arv Z h bv k .byte (Int32.ofNat cap) (vs.take c' ++ ws' ++ vs.drop (c' + n)) (.int 0)
theorem rm_psa {l : Launch} {Z : State} {a0 : Array Value} (hw : own_W a0 Z) (no : Nat) (de : Addr) (em : Addr) (el : Addr) (ey : Addr)(q : Addr) (bv : Addr) (k : ClassId) (cap : Nat) (vs : List Value) (c' : Nat)(a : Addr) (b : Addr) (ks : ClassId) (n : Nat) (ws' : List Value) (h0 : Heap) (n0 : Nat) (Z0 : n0 ≤ h0.size) (SS : own_St Z de em el ey) (hno : no ≤ n0) (O0 : Old Z no h0) (HB : own_SB Z h0 q bv k (Int32.ofNat cap) vs (Int32.ofNat c')) (HS : own_Str Z h0 a b ks (Int32.ofNat n) ws') (g_bv : n0 ≤ bv) (hcn : c' + n ≤ cap) (hcap : cap ≤ 100) (hvl : vs.length = cap) (hwl : ws'.length = n) : own_Met l y43 jdk_68_method_73_code 3 none R_psa Z h0 #[(.ref q), (.int (Int32.ofNat c')), (.ref a)] (Q_psa Z n ws' bv k cap vs c' h0 n0) := by
  refine own_body (plainFor_of_name pn_inf) fun p e s m below meth c s₁ hlk hret hnm hx hby hml hown hZ X0 e0 => ?_
  have N0 := Fr.nil n0
  obtain ⟨Ga, Sa, nx, og⟩ := own_ga (p := p) (e := e) (below := below) s₁ (eF_7 m q (Int32.ofNat c') a)
  have S0 : Ga s₁ (mkF m 0 #[vR q, vI (Int32.ofNat c'), vR a] []) := nx Sa fun t k => castTop (ef_7 m q (Int32.ofNat c') a) k
  obtain ⟨⟨cz, S_cs, hcz⟩, -⟩ := id SS
  obtain ⟨EQ, Fv, Fc, Fn, Eb, Vb⟩ := HB
  obtain ⟨E, F, G, V⟩ := HS
  have S92 : Ga s₁ (mkF m 2 #[vR q, vI (Int32.ofNat c'), vR a] [(.ref a), (.ref q)]) := nx S0 fun t kt => by
    refine xa X0.here hx hby 0 0 rfl ?_
    refine xa X0.here hx hby 1 2 rfl ?_
    exact kt
  obtain ⟨v93, T93, L93, X93, hQ93, st93⟩ := own_cP X0 hx hZ hw hown hml 273 274 276 275 277 230 rfl rfl rfl rfl rfl rfl EQ (rm_inf hw no de em el ey q a h0 n0 Z0 SS hno O0 Fc E F) e0 (W := 0) (g := (mkF m 2 #[vR q, vI (Int32.ofNat c'), vR a] [(.ref a), (.ref q)])) rfl (argsL := [(.ref a)]) (rest := []) pd__Ljava_lang_String__V (own_k hby 2 (.invokevirtual 397) 3)
  obtain ⟨rfl, N93q, e93⟩ := hQ93
  have N93 := Fr.app N0 N93q
  have S94 : Ga T93 (mkF m 7 #[vR q, vI (Int32.ofNat c'), vR a] [(.ref q), (.ref a)]) := nx S92 fun t kt => st93 t (by
    show Sp p e below T93 (mkF m 5 #[vR q, vI (Int32.ofNat c'), vR a] []) _
    refine xa X93.here hx hby 5 2 rfl ?_
    refine xa X93.here hx hby 6 0 rfl ?_
    exact kt)
  obtain ⟨T95, X95, e95, st95⟩ := getF X93 hx hZ hown (host := "") (Or.inl (own_h hw 234 rfl)) Via.refl e93 Fv (g := (mkF m 7 #[vR q, vI (Int32.ofNat c'), vR a] [(.ref q), (.ref a)])) rfl rfl (own_k hby 7 (.getfield 15) 3)
  have S96 : Ga T95 (mkF m 12 #[vR q, vI (Int32.ofNat c'), vR a] [(.ref q), (.int (Int32.ofNat c')), (.ref bv), (.ref a)]) := nx S94 fun t kt => st95 t (by
    show Sp p e below T95 (mkF m 10 #[vR q, vI (Int32.ofNat c'), vR a] [(.ref bv), (.ref a)]) _
    refine xi X95.here hx hby 10 1 rfl ?_
    refine xa X95.here hx hby 11 0 rfl ?_
    exact kt)
  obtain ⟨T97, X97, e97, st97⟩ := getF X95 hx hZ hown (host := "") (Or.inl (own_h hw 236 rfl)) Via.refl e95 Fc (g := (mkF m 12 #[vR q, vI (Int32.ofNat c'), vR a] [(.ref q), (.int (Int32.ofNat c')), (.ref bv), (.ref a)])) rfl rfl (own_k hby 12 (.getfield 22) 3)
  obtain ⟨v98, T98, L98, X98, hQ98, st98⟩ := own_cV1 X97 hx hZ hw hown hml 279 280 282 281 283 3 rfl rfl rfl rfl rfl rfl E (rm_gby hw no de em el ey a b ks n ws' bv k cap vs c' h0 n0 Z0 SS hno O0 ⟨E, F, G, V⟩ Vb g_bv hcn hcap hvl hwl) e97 (W := 0) (g := (mkF m 15 #[vR q, vI (Int32.ofNat c'), vR a] [(.int 0), (.int (Int32.ofNat c')), (.ref bv), (.ref a)])) rfl (argsL := [(.ref bv), (.int (Int32.ofNat c')), (.int 0)]) (rest := []) pd___BIB_V (own_k hby 15 (.invokevirtual 399) 3)
  obtain ⟨rfl, N98q, K98, V98⟩ := hQ98
  have N98 := Fr.app N93 N98q
  have KK98 : Keep h0 T98.heap [bv] := (Keep.refl h0 [bv]).trans K98 (allS (Or.inl (by simp)) all0)
  have S99 : Ga T98 (mkF m 18 #[vR q, vI (Int32.ofNat c'), vR a] []) := nx S96 fun t kt => st97 t (st98 t kt)
  refine ⟨T98, _, none, _, _, _, X98, og S99, fun _ => rfl, by decide, by decide, ?_, fun fs hr => X98.returnOut hx hret (own_k hby 18 (.return_) 1) hr⟩
  show Q_psa Z n ws' bv k cap vs c' h0 n0 _ T98.heap _
  exact ⟨rfl, N98, KK98, V98⟩
abbrev R_ecn : Room := { frames := 0, cells := 0, slots := 0, locals := 0 }
abbrev eF_8 (m : MethodId) (x0 : Addr) (x1 : Int32) : JFrame := entryFrame m #[(.ref x0), (.int x1)] 3
theorem ef_8 (m : MethodId) (x0 : Addr) (x1 : Int32) : entryFrame m #[(.ref x0), (.int x1)] 3 = mkF m 0 #[.val (.ref x0), .val (.int x1), .unset] [] := by first | (simp [entryFrame, mkF, argsToLocals, Value.category]; done) | rfl
def Q_ecn (Z : State)  (h0 : Heap) (n0 : Nat) (v : Option Value) (h : Heap) (L : List Loc) : Prop := v = none ∧ Fr n0 L ∧ h = h0
theorem rm_ecn {l : Launch} {Z : State} {a0 : Array Value} (hw : own_W a0 Z) (q : Addr) (bv : Addr) (k : ClassId) (cap : Nat) (vs : List Value) (mc : Nat) (h0 : Heap) (n0 : Nat) (Z0 : n0 ≤ h0.size)  (Fv : Fld Z h0 q "java/lang/AbstractStringBuilder" "value" "[B" (.ref bv)) (Fc : Fld Z h0 q "java/lang/AbstractStringBuilder" "coder" "B" (.int 0)) (Vb : Arv Z h0 bv k .byte (Int32.ofNat cap) vs (.int 0)) (hmc : mc ≤ cap) (hcap : cap ≤ 100) : own_Met l y42 jdk_68_method_9_code 3 none R_ecn Z h0 #[(.ref q), (.int (Int32.ofNat mc))] (Q_ecn Z  h0 n0) := by
  refine own_body (plainFor_of_name pn_inf) fun p e s m below meth c s₁ hlk hret hnm hx hby hml hown hZ X0 e0 => ?_
  have N0 := Fr.nil n0
  obtain ⟨Ga, Sa, nx, og⟩ := own_ga (p := p) (e := e) (below := below) s₁ (eF_8 m q (Int32.ofNat mc))
  have S0 : Ga s₁ (mkF m 0 #[vR q, vI (Int32.ofNat mc), vU] []) := nx Sa fun t k => castTop (ef_8 m q (Int32.ofNat mc)) k
  have S100 : Ga s₁ (mkF m 1 #[vR q, vI (Int32.ofNat mc), vU] [(.ref q)]) := nx S0 fun t kt => by
    refine xa X0.here hx hby 0 0 rfl ?_
    exact kt
  obtain ⟨T101, X101, e101, st101⟩ := getF X0 hx hZ hown (host := "") (Or.inl (own_h hw 234 rfl)) Via.refl e0 Fv (g := (mkF m 1 #[vR q, vI (Int32.ofNat mc), vU] [(.ref q)])) rfl rfl (own_k hby 1 (.getfield 15) 3)
  obtain ⟨co102, Ao102, qo102, So102, No102, Ho102, Go102⟩ := id Vb
  have S103 : Ga T101 (mkF m 6 #[vR q, vI (Int32.ofNat mc), vU] [(.ref q), (.int (Int32.ofNat cap))]) := nx S100 fun t kt => st101 t (by
    show Sp p e below T101 (mkF m 4 #[vR q, vI (Int32.ofNat mc), vU] [(.ref bv)]) _
    refine X101.arraylength hx (by rw [e101]; exact Ao102.1) (State.isArrayOf_alike hZ.alike Ao102.2.1) (g := (mkF m 4 #[vR q, vI (Int32.ofNat mc), vU] [(.ref bv)])) rfl rfl (own_k hby 4 (.arraylength) 1) _ ?_
    rw [len_of So102 No102]
    show Sp p e below T101 (mkF m 5 #[vR q, vI (Int32.ofNat mc), vU] [(.int (Int32.ofNat cap))]) _
    refine xa X101.here hx hby 5 0 rfl ?_
    exact kt)
  obtain ⟨T104, X104, e104, st104⟩ := getF X101 hx hZ hown (host := "") (Or.inl (own_h hw 236 rfl)) Via.refl e101 Fc (g := (mkF m 6 #[vR q, vI (Int32.ofNat mc), vU] [(.ref q), (.int (Int32.ofNat cap))])) rfl rfl (own_k hby 6 (.getfield 22) 3)
  have S105 : Ga T104 (mkF m 10 #[vR q, vI (Int32.ofNat mc), vU] [(.int ((Int32.ofNat cap) >>> ((0 : Int32) &&& 31)))]) := nx S103 fun t kt => st104 t (by
    show Sp p e below T104 (mkF m 9 #[vR q, vI (Int32.ofNat mc), vU] [(.int 0), (.int (Int32.ofNat cap))]) _
    refine XS.ishr X104.here hx rfl (own_k hby 9 (.ishr) 1) rfl ?_
    exact kt)
  have q107 : ((Int32.ofNat cap) >>> ((0 : Int32) &&& 31)) = (Int32.ofNat cap) := own_shr0 _
  have S106 : Ga T104 (mkF m 10 #[vR q, vI (Int32.ofNat mc), vU] [(.int (Int32.ofNat cap))]) := by have h := S105; rw [q107] at h; exact h
  clear S105
  have S108 : Ga T104 (mkF m 14 #[vR q, vI (Int32.ofNat mc), vI (Int32.ofNat cap)] [(.int ((Int32.ofNat mc) - (Int32.ofNat cap)))]) := nx S106 fun t kt => by
    refine XS.istoreN X104.here hx rfl (own_k hby 10 (.istore_n 2) 1) rfl (l' := #[vR q, vI (Int32.ofNat mc), vI (Int32.ofNat cap)]) rfl ?_
    refine xi X104.here hx hby 11 1 rfl ?_
    refine xi X104.here hx hby 12 2 rfl ?_
    refine XS.isub X104.here hx rfl (own_k hby 13 (.isub) 1) rfl ?_
    show Sp p e below T104 (mkF m 14 #[vR q, vI (Int32.ofNat mc), vI (Int32.ofNat cap)] [(.int ((Int32.ofNat mc) - (Int32.ofNat cap)))]) _
    exact kt
  have S109 : Ga T104 (mkF m 38 #[vR q, vI (Int32.ofNat mc), vI (Int32.ofNat cap)] []) := nx S108 fun t kt => by
    refine XS.ifYes X104.here hx rfl (pc0 := 14) (pc' := 38) rfl (own_k hby 14 (.ifCond .le 24) 3) rfl ((if0 _ _).trans (flt (show ¬ ((0 : Int32) < ((Int32.ofNat mc) - (Int32.ofNat cap))) from (own_np (by omega) (by omega) hmc))).2.2.2) (by decide) (by decide) ?_
    exact kt
  refine ⟨T104, _, none, _, _, _, X104, og S109, fun _ => rfl, by decide, by decide, ?_, fun fs hr => X104.returnOut hx hret (own_k hby 38 (.return_) 1) hr⟩
  show Q_ecn Z  h0 n0 _ T104.heap _
  rw [e104]
  exact ⟨rfl, N0, rfl⟩
abbrev R_asb : Room := { frames := 3, cells := 0, slots := 0, locals := 47 }
abbrev eF_9 (m : MethodId) (x0 : Addr) (x1 : Addr) : JFrame := entryFrame m #[(.ref x0), (.ref x1)] 3
theorem ef_9 (m : MethodId) (x0 : Addr) (x1 : Addr) : entryFrame m #[(.ref x0), (.ref x1)] 3 = mkF m 0 #[.val (.ref x0), .val (.ref x1), .unset] [] := by first | (simp [entryFrame, mkF, argsToLocals, Value.category]; done) | rfl
def Q_asb (Z : State) (q : Addr) (bv : Addr) (k : ClassId) (cap : Nat) (vs : List Value) (c' : Nat) (n : Nat) (ws' : List Value) (h0 : Heap) (n0 : Nat) (v : Option Value) (h : Heap) (L : List Loc) : Prop := v = some (.ref q) ∧ Fr n0 L ∧ Keep h0 h [q, bv] ∧ own_SB Z h q bv k (Int32.ofNat cap) (vs.take c' ++ ws' ++ vs.drop (c' + n)) (Int32.ofNat (c' + n))
theorem rm_asb {l : Launch} {Z : State} {a0 : Array Value} (hw : own_W a0 Z) (no : Nat) (de : Addr) (em : Addr) (el : Addr) (ey : Addr)(q : Addr) (bv : Addr) (k : ClassId) (cap : Nat) (vs : List Value) (c' : Nat)(a : Addr) (b : Addr) (ks : ClassId) (n : Nat) (ws' : List Value) (h0 : Heap) (n0 : Nat) (Z0 : n0 ≤ h0.size) (SS : own_St Z de em el ey) (hno : no ≤ n0) (O0 : Old Z no h0) (HB : own_SB Z h0 q bv k (Int32.ofNat cap) vs (Int32.ofNat c')) (HS : own_Str Z h0 a b ks (Int32.ofNat n) ws') (g_q : n0 ≤ q) (g_bv : n0 ≤ bv) (hcn : c' + n ≤ cap) (hcap : cap ≤ 100) (hvl : vs.length = cap) (hwl : ws'.length = n) : own_Met l y39 jdk_68_method_22_code 3 (some (.object "java/lang/AbstractStringBuilder")) R_asb Z h0 #[(.ref q), (.ref a)] (Q_asb Z q bv k cap vs c' n ws' h0 n0) := by
  refine own_body (plainFor_of_name pn_inf) fun p e s m below meth c s₁ hlk hret hnm hx hby hml hown hZ X0 e0 => ?_
  have N0 := Fr.nil n0
  obtain ⟨Ga, Sa, nx, og⟩ := own_ga (p := p) (e := e) (below := below) s₁ (eF_9 m q a)
  have S0 : Ga s₁ (mkF m 0 #[vR q, vR a, vU] []) := nx Sa fun t k => castTop (ef_9 m q a) k
  obtain ⟨⟨cz, S_cs, hcz⟩, -⟩ := id SS
  obtain ⟨EQ, Fv, Fc, Fn, Eb, Vb⟩ := HB
  obtain ⟨E, F, G, V⟩ := HS
  have S110 : Ga s₁ (mkF m 10 #[vR q, vR a, vU] [(.ref a)]) := nx S0 fun t kt => by
    refine xa X0.here hx hby 0 1 rfl ?_
    refine XS.ifnonnullYes X0.here hx rfl (pc0 := 1) (pc' := 9) rfl (own_k hby 1 (.ifnonnull 8) 3) rfl (by decide) (by decide) ?_
    refine xa X0.here hx hby 9 1 rfl ?_
    exact kt
  obtain ⟨v111, T111, L111, X111, hQ111, st111⟩ := own_cV1 X0 hx hZ hw hown hml 251 252 254 253 255 3 rfl rfl rfl rfl rfl rfl E (rm_len hw no de em el ey a b ks n ws' h0 n0 Z0 SS hno O0 ⟨E, F, G, V⟩) e0 (W := 0) (g := (mkF m 10 #[vR q, vR a, vU] [(.ref a)])) rfl (argsL := []) (rest := []) pd___I (own_k hby 10 (.invokevirtual 32) 3)
  obtain ⟨rfl, N111q, e111⟩ := hQ111
  have N111 := Fr.app N0 N111q
  have S112 : Ga T111 (mkF m 16 #[vR q, vR a, vI (Int32.ofNat n)] [(.ref q), (.ref q)]) := nx S110 fun t kt => st111 t (by
    show Sp p e below T111 (mkF m 13 #[vR q, vR a, vU] [(.int (Int32.ofNat n))]) _
    refine XS.istoreN X111.here hx rfl (own_k hby 13 (.istore_n 2) 1) rfl (l' := #[vR q, vR a, vI (Int32.ofNat n)]) rfl ?_
    refine xa X111.here hx hby 14 0 rfl ?_
    refine xa X111.here hx hby 15 0 rfl ?_
    exact kt)
  obtain ⟨T113, X113, e113, st113⟩ := getF X111 hx hZ hown (host := "") (Or.inl (own_h hw 261 rfl)) Via.refl e111 Fn (g := (mkF m 16 #[vR q, vR a, vI (Int32.ofNat n)] [(.ref q), (.ref q)])) rfl rfl (own_k hby 16 (.getfield 79) 3)
  have S114 : Ga T113 (mkF m 21 #[vR q, vR a, vI (Int32.ofNat n)] [(.int ((Int32.ofNat c') + (Int32.ofNat n))), (.ref q)]) := nx S112 fun t kt => st113 t (by
    show Sp p e below T113 (mkF m 19 #[vR q, vR a, vI (Int32.ofNat n)] [(.int (Int32.ofNat c')), (.ref q)]) _
    refine xi X113.here hx hby 19 2 rfl ?_
    refine XS.iadd X113.here hx rfl (own_k hby 20 (.iadd) 1) rfl ?_
    exact kt)
  have q116 : ((Int32.ofNat c') + (Int32.ofNat n)) = (Int32.ofNat (c' + n)) := own_add c' n
  have S115 : Ga T113 (mkF m 21 #[vR q, vR a, vI (Int32.ofNat n)] [(.int (Int32.ofNat (c' + n))), (.ref q)]) := by have h := S114; rw [q116] at h; exact h
  clear S114
  obtain ⟨v117, T117, L117, X117, hQ117, st117⟩ := own_cP X113 hx hZ hw hown hml 263 264 266 265 267 230 rfl rfl rfl rfl rfl rfl EQ (rm_ecn hw q bv k cap vs (c' + n) h0 n0 Z0 Fv Fc Vb (by omega) hcap) e113 (W := 0) (g := (mkF m 21 #[vR q, vR a, vI (Int32.ofNat n)] [(.int (Int32.ofNat (c' + n))), (.ref q)])) rfl (argsL := [(.int (Int32.ofNat (c' + n)))]) (rest := []) pd__I_V (own_k hby 21 (.invokevirtual 100) 3)
  obtain ⟨rfl, N117q, e117⟩ := hQ117
  have N117 := Fr.app N111 N117q
  have S118 : Ga T117 (mkF m 26 #[vR q, vR a, vI (Int32.ofNat n)] [(.ref q), (.ref q)]) := nx S115 fun t kt => st117 t (by
    show Sp p e below T117 (mkF m 24 #[vR q, vR a, vI (Int32.ofNat n)] []) _
    refine xa X117.here hx hby 24 0 rfl ?_
    refine xa X117.here hx hby 25 0 rfl ?_
    exact kt)
  obtain ⟨T119, X119, e119, st119⟩ := getF X117 hx hZ hown (host := "") (Or.inl (own_h hw 261 rfl)) Via.refl e117 Fn (g := (mkF m 26 #[vR q, vR a, vI (Int32.ofNat n)] [(.ref q), (.ref q)])) rfl rfl (own_k hby 26 (.getfield 79) 3)
  have S120 : Ga T119 (mkF m 30 #[vR q, vR a, vI (Int32.ofNat n)] [(.ref a), (.int (Int32.ofNat c')), (.ref q)]) := nx S118 fun t kt => st119 t (by
    show Sp p e below T119 (mkF m 29 #[vR q, vR a, vI (Int32.ofNat n)] [(.int (Int32.ofNat c')), (.ref q)]) _
    refine xa X119.here hx hby 29 1 rfl ?_
    exact kt)
  obtain ⟨v121, T121, L121, X121, hQ121, st121⟩ := own_cP X119 hx hZ hw hown hml 268 269 271 270 272 230 rfl rfl rfl rfl rfl rfl EQ (rm_psa hw no de em el ey q bv k cap vs c' a b ks n ws' h0 n0 Z0 SS hno O0 ⟨EQ, Fv, Fc, Fn, Eb, Vb⟩ ⟨E, F, G, V⟩ g_bv hcn hcap hvl hwl) e119 (W := 0) (g := (mkF m 30 #[vR q, vR a, vI (Int32.ofNat n)] [(.ref a), (.int (Int32.ofNat c')), (.ref q)])) rfl (argsL := [(.int (Int32.ofNat c')), (.ref a)]) (rest := []) pd__ILjava_lang_String__V (own_k hby 30 (.invokevirtual 208) 3)
  obtain ⟨rfl, N121q, K121, V121⟩ := hQ121
  have N121 := Fr.app N117 N121q
  have KK121 : Keep h0 T121.heap [q, bv] := (Keep.refl h0 [q, bv]).trans K121 (allS (Or.inl (by simp)) all0)
  have S122 : Ga T121 (mkF m 35 #[vR q, vR a, vI (Int32.ofNat n)] [(.ref q), (.ref q)]) := nx S120 fun t kt => st121 t (by
    show Sp p e below T121 (mkF m 33 #[vR q, vR a, vI (Int32.ofNat n)] []) _
    refine xa X121.here hx hby 33 0 rfl ?_
    refine XS.dup X121.here hx rfl (own_k hby 34 (.dup) 1) rfl rfl ?_
    exact kt)
  have ne123 : q ≠ bv := own_neStr EQ Vb (own_h hw 221 rfl)
  have f124 := (Fn.keep K121 (ninS ne123 nin0))
  obtain ⟨T125, X125, e125, st125⟩ := getF X121 hx hZ hown (host := "") (Or.inl (own_h hw 261 rfl)) Via.refl rfl f124 (g := (mkF m 35 #[vR q, vR a, vI (Int32.ofNat n)] [(.ref q), (.ref q)])) rfl rfl (own_k hby 35 (.getfield 79) 3)
  have S126 : Ga T125 (mkF m 40 #[vR q, vR a, vI (Int32.ofNat n)] [(.int ((Int32.ofNat c') + (Int32.ofNat n))), (.ref q)]) := nx S122 fun t kt => st125 t (by
    show Sp p e below T125 (mkF m 38 #[vR q, vR a, vI (Int32.ofNat n)] [(.int (Int32.ofNat c')), (.ref q)]) _
    refine xi X125.here hx hby 38 2 rfl ?_
    refine XS.iadd X125.here hx rfl (own_k hby 39 (.iadd) 1) rfl ?_
    exact kt)
  have q128 : ((Int32.ofNat c') + (Int32.ofNat n)) = (Int32.ofNat (c' + n)) := own_add c' n
  have S127 : Ga T125 (mkF m 40 #[vR q, vR a, vI (Int32.ofNat n)] [(.int (Int32.ofNat (c' + n))), (.ref q)]) := by have h := S126; rw [q128] at h; exact h
  clear S126
  have f129 := (EQ.keep K121)
  obtain ⟨T130, h130, X130, e130, W130, st130⟩ := putF X125 hx hZ hown (host := "") (Or.inl (own_h hw 261 rfl)) Via.refl e125 f124 f129 (Or.inl (own_h hw 262 rfl)) (own_h hw 221 rfl) (ty := .int) (by decide) rfl rfl (g := (mkF m 40 #[vR q, vR a, vI (Int32.ofNat n)] [(.int (Int32.ofNat (c' + n))), (.ref q)])) rfl rfl (own_k hby 40 (.putfield 79) 3)
  have N130 := Fr.snoc X130 N121 g_q
  have K130 : Keep h0 h130 [q, bv] := KK121.wr W130 (Or.inl (by simp))
  have Fw130 := f124.same W130
  have S131 : Ga T130 (mkF m 44 #[vR q, vR a, vI (Int32.ofNat n)] [(.ref q)]) := nx S127 fun t kt => st130 t (by
    show Sp p e below T130 (mkF m 43 #[vR q, vR a, vI (Int32.ofNat n)] []) _
    refine xa X130.here hx hby 43 0 rfl ?_
    exact kt)
  have f132 := (f129.wr W130)
  have f133 := ((Fv.keep K121 (ninS ne123 nin0)).other W130 (Or.inr (ns2 hw)))
  have f134 := ((Fc.keep K121 (ninS ne123 nin0)).other W130 (Or.inr (ns3 hw)))
  have f135 := ((Eb.keep K121).wr W130)
  have f136 := (V121.other W130 (Ne.symm ne123))
  refine ⟨T130, _, some (.ref q), _, _, _, X130, og S131, fun h => (nomatch hret.symm.trans h), by decide, by decide, ?_, fun fs hr => retOut X130 hx hret rfl (Or.inr (Or.inr (Or.inr (Or.inr ⟨rfl, rfl, rfl⟩)))) (own_k hby 44 (.areturn) 1) hr⟩
  show Q_asb Z q bv k cap vs c' n ws' h0 n0 _ T130.heap _
  rw [e130]
  exact ⟨rfl, N130, K130, f132, f133, f134, Fw130, f135, f136⟩
abbrev R_sba : Room := { frames := 4, cells := 0, slots := 0, locals := 61 }
theorem pn_sba : plainName "java/lang/StringBuilder" = true := by first | (simp [plainName, overriddenIn]; done) | decide +kernel
def Q_sba (Z : State) (q : Addr) (bv : Addr) (k : ClassId) (cap : Nat) (vs : List Value) (c' : Nat) (n : Nat) (ws' : List Value) (h0 : Heap) (n0 : Nat) (v : Option Value) (h : Heap) (L : List Loc) : Prop := v = some (.ref q) ∧ Fr n0 L ∧ Keep h0 h [q, bv] ∧ own_SB Z h q bv k (Int32.ofNat cap) (vs.take c' ++ ws' ++ vs.drop (c' + n)) (Int32.ofNat (c' + n))
theorem rm_sba {l : Launch} {Z : State} {a0 : Array Value} (hw : own_W a0 Z) (no : Nat) (de : Addr) (em : Addr) (el : Addr) (ey : Addr)(q : Addr) (bv : Addr) (k : ClassId) (cap : Nat) (vs : List Value) (c' : Nat)(a : Addr) (b : Addr) (ks : ClassId) (n : Nat) (ws' : List Value) (h0 : Heap) (n0 : Nat) (Z0 : n0 ≤ h0.size) (SS : own_St Z de em el ey) (hno : no ≤ n0) (O0 : Old Z no h0) (HB : own_SB Z h0 q bv k (Int32.ofNat cap) vs (Int32.ofNat c')) (HS : own_Str Z h0 a b ks (Int32.ofNat n) ws') (g_q : n0 ≤ q) (g_bv : n0 ≤ bv) (hcn : c' + n ≤ cap) (hcap : cap ≤ 100) (hvl : vs.length = cap) (hwl : ws'.length = n) : own_Met l y38 jdk_67_method_7_code 2 (some (.object "java/lang/StringBuilder")) R_sba Z h0 #[(.ref q), (.ref a)] (Q_sba Z q bv k cap vs c' n ws' h0 n0) := by
  refine own_body (plainFor_of_name pn_sba) fun p e s m below meth c s₁ hlk hret hnm hx hby hml hown hZ X0 e0 => ?_
  have N0 := Fr.nil n0
  obtain ⟨Ga, Sa, nx, og⟩ := own_ga (p := p) (e := e) (below := below) s₁ (eF_6 m q a)
  have S0 : Ga s₁ (mkF m 0 #[vR q, vR a] []) := nx Sa fun t k => castTop (ef_6 m q a) k
  obtain ⟨⟨cz, S_cs, hcz⟩, -⟩ := id SS
  obtain ⟨EQ, Fv, Fc, Fn, Eb, Vb⟩ := HB
  obtain ⟨E, F, G, V⟩ := HS
  have S137 : Ga s₁ (mkF m 2 #[vR q, vR a] [(.ref a), (.ref q)]) := nx S0 fun t kt => by
    refine xa X0.here hx hby 0 0 rfl ?_
    refine xa X0.here hx hby 1 1 rfl ?_
    exact kt
  obtain ⟨v138, T138, L138, X138, hQ138, st138⟩ := own_outV (superBack X0 hx hZ (y := y39) hown (own_h hw 246 rfl) (own_same (own_h hw 247 rfl) (own_nfS (args := a0) (own_h hw 407 rfl) rfl) (by decide)) (own_h hw 247 rfl) (own_h hw 248 rfl) (by decide) (backOf (W := 0) (rm_asb hw no de em el ey q bv k cap vs c' a b ks n ws' h0 n0 Z0 SS hno O0 ⟨EQ, Fv, Fc, Fn, Eb, Vb⟩ ⟨E, F, G, V⟩ g_q g_bv hcn hcap hvl hwl) hZ (own_h hw 250 rfl) (own_h hw 230 rfl) (by decide) (by decide)) e0 (Ins.self EQ) (g := (mkF m 2 #[vR q, vR a] [(.ref a), (.ref q)])) rfl (by rw [hml]; rfl) (own_h hw 250 rfl) (a := q) (argsL := [(.ref a)]) (rest := []) (lenOf pd__Ljava_lang_String__Ljava_lang_AbstractStringBuilder_ rfl) rfl (own_w rfl) (own_k hby 2 (.invokespecial 29) 3) (fun _ _ => ⟨rfl, e0, (by decide : 0 + 0 ≤ _), (by decide : 0 + 0 ≤ _)⟩))
  obtain ⟨rfl, N138q, K138, EQ138, Fv138, Fc138, Fn138, Eb138, Vb138⟩ := hQ138
  have N138 := Fr.app N0 N138q
  have KK138 : Keep h0 T138.heap [q, bv] := (Keep.refl h0 [q, bv]).trans K138 (allS (Or.inl (by simp)) (allS (Or.inl (by simp)) all0))
  have S139 : Ga T138 (mkF m 7 #[vR q, vR a] [(.ref q)]) := nx S137 fun t kt => st138 t (by
    show Sp p e below T138 (mkF m 5 #[vR q, vR a] [(.ref q)]) _
    refine XS.pop X138.here hx rfl (own_k hby 5 (.pop) 1) rfl rfl ?_
    refine xa X138.here hx hby 6 0 rfl ?_
    exact kt)
  refine ⟨T138, _, some (.ref q), _, _, _, X138, og S139, fun h => (nomatch hret.symm.trans h), by decide, by decide, ?_, fun fs hr => retOut X138 hx hret rfl (Or.inr (Or.inr (Or.inr (Or.inr ⟨rfl, rfl, rfl⟩)))) (own_k hby 7 (.areturn) 1) hr⟩
  show Q_sba Z q bv k cap vs c' n ws' h0 n0 _ T138.heap _
  exact ⟨rfl, N138, KK138, EQ138, Fv138, Fc138, Fn138, Eb138, Vb138⟩
abbrev R_isl : Room := { frames := 0, cells := 0, slots := 0, locals := 0 }
def Q_isl (Z : State)  (h0 : Heap) (n0 : Nat) (v : Option Value) (h : Heap) (L : List Loc) : Prop := v = some (.int 1) ∧ Fr n0 L ∧ h = h0
theorem rm_isl {l : Launch} {Z : State} {a0 : Array Value} (hw : own_W a0 Z) (no : Nat) (de : Addr) (em : Addr) (el : Addr) (ey : Addr) (q : Addr) (h0 : Heap) (n0 : Nat) (Z0 : n0 ≤ h0.size) (SS : own_St Z de em el ey) (hno : no ≤ n0) (O0 : Old Z no h0) (Fc : Fld Z h0 q "java/lang/AbstractStringBuilder" "coder" "B" (.int 0)) : own_Met l y58 jdk_68_method_68_code 1 (some .boolean) R_isl Z h0 #[(.ref q)] (Q_isl Z  h0 n0) := by
  refine own_body (plainFor_of_name pn_inf) fun p e s m below meth c s₁ hlk hret hnm hx hby hml hown hZ X0 e0 => ?_
  have N0 := Fr.nil n0
  obtain ⟨Ga, Sa, nx, og⟩ := own_ga (p := p) (e := e) (below := below) s₁ (eF_2 m q)
  have S0 : Ga s₁ (mkF m 0 #[vR q] []) := nx Sa fun t k => castTop (ef_2 m q) k
  obtain ⟨⟨cz, S_cs, hcz⟩, -⟩ := id SS
  obtain ⟨T140, X140, e140, st140⟩ := getS2 X0 hx hZ hown (host := "") (Or.inl (own_h hw 233 rfl)) Via.refl e0 (S_cs.ext O0.2) (g := (mkF m 0 #[vR q] [])) rfl (own_k hby 0 (.getstatic 18) 3)
  have S141 : Ga T140 (mkF m 7 #[vR q] [(.ref q)]) := nx S0 fun t kt => st140 t (by
    show Sp p e below T140 (mkF m 3 #[vR q] [(.int cz)]) _
    refine XS.ifNo X140.here hx rfl (own_k hby 3 (.ifCond .eq 14) 3) rfl ((if0 _ _).trans (feq (show ¬ (cz = (0 : Int32)) from hcz)).1) ?_
    refine xa X140.here hx hby 6 0 rfl ?_
    exact kt)
  obtain ⟨T142, X142, e142, st142⟩ := getF X140 hx hZ hown (host := "") (Or.inl (own_h hw 236 rfl)) Via.refl e140 Fc (g := (mkF m 7 #[vR q] [(.ref q)])) rfl rfl (own_k hby 7 (.getfield 22) 3)
  have S143 : Ga T142 (mkF m 18 #[vR q] [(.int 1)]) := nx S141 fun t kt => st142 t (by
    show Sp p e below T142 (mkF m 10 #[vR q] [(.int 0)]) _
    refine XS.ifNo X142.here hx rfl (own_k hby 10 (.ifCond .ne 7) 3) rfl ((if0 _ _).trans (teq (show (0 : Int32) = (0 : Int32) from (by decide))).2) ?_
    refine xc X142.here hx hby 13 1 ?_
    refine XS.goto X142.here hx rfl (pc0 := 14) (pc' := 18) rfl (own_k hby 14 (.goto 4) 3) (by decide) (by decide) ?_
    exact kt)
  refine ⟨T142, _, some (.int 1), _, _, _, X142, og S143, fun h => (nomatch hret.symm.trans h), by decide, by decide, ?_, fun fs hr => retN X142 hx (t := .boolean) hret (by simp) (own_k hby 18 (.ireturn) 1) hr⟩
  show Q_isl Z  h0 n0 _ T142.heap _
  rw [e142]
  exact ⟨rfl, N0, rfl⟩
abbrev R_gva : Room := { frames := 0, cells := 0, slots := 0, locals := 0 }
def Q_gva (Z : State) (bv : Addr) (h0 : Heap) (n0 : Nat) (v : Option Value) (h : Heap) (L : List Loc) : Prop := v = some (.ref bv) ∧ Fr n0 L ∧ h = h0
theorem rm_gva {l : Launch} {Z : State} {a0 : Array Value} (hw : own_W a0 Z) (q : Addr) (bv : Addr) (h0 : Heap) (n0 : Nat) (Z0 : n0 ≤ h0.size) (Fv : Fld Z h0 q "java/lang/AbstractStringBuilder" "value" "[B" (.ref bv)) : own_Met l y65 jdk_68_method_64_code 1 (some (.array .byte)) R_gva Z h0 #[(.ref q)] (Q_gva Z bv h0 n0) := by
  refine own_body (plainFor_of_name pn_inf) fun p e s m below meth c s₁ hlk hret hnm hx hby hml hown hZ X0 e0 => ?_
  have N0 := Fr.nil n0
  obtain ⟨Ga, Sa, nx, og⟩ := own_ga (p := p) (e := e) (below := below) s₁ (eF_2 m q)
  have S0 : Ga s₁ (mkF m 0 #[vR q] []) := nx Sa fun t k => castTop (ef_2 m q) k
  have S144 : Ga s₁ (mkF m 1 #[vR q] [(.ref q)]) := nx S0 fun t kt => by
    refine xa X0.here hx hby 0 0 rfl ?_
    exact kt
  obtain ⟨T145, X145, e145, st145⟩ := getF X0 hx hZ hown (host := "") (Or.inl (own_h hw 234 rfl)) Via.refl e0 Fv (g := (mkF m 1 #[vR q] [(.ref q)])) rfl rfl (own_k hby 1 (.getfield 15) 3)
  have S146 : Ga T145 (mkF m 4 #[vR q] [(.ref bv)]) := nx S144 fun t kt => st145 t kt
  refine ⟨T145, _, some (.ref bv), _, _, _, X145, og S146, fun h => (nomatch hret.symm.trans h), by decide, by decide, ?_, fun fs hr => retOut X145 hx hret rfl (Or.inr (Or.inr (Or.inr (Or.inr ⟨rfl, rfl, rfl⟩)))) (own_k hby 4 (.areturn) 1) hr⟩
  show Q_gva Z bv h0 n0 _ T145.heap _
  rw [e145]
  exact ⟨rfl, N0, rfl⟩
abbrev R_asl : Room := { frames := 0, cells := 0, slots := 0, locals := 0 }
def Q_asl (Z : State) (z : Int32) (h0 : Heap) (n0 : Nat) (v : Option Value) (h : Heap) (L : List Loc) : Prop := v = some (.int z) ∧ Fr n0 L ∧ h = h0
theorem rm_asl {l : Launch} {Z : State} {a0 : Array Value} (hw : own_W a0 Z) (q : Addr) (z : Int32) (h0 : Heap) (n0 : Nat) (Z0 : n0 ≤ h0.size) (Fn : Fld Z h0 q "java/lang/AbstractStringBuilder" "count" "I" (.int z)) : own_Met l y67 jdk_68_method_6_code 1 (some .int) R_asl Z h0 #[(.ref q)] (Q_asl Z z h0 n0) := by
  refine own_body (plainFor_of_name pn_inf) fun p e s m below meth c s₁ hlk hret hnm hx hby hml hown hZ X0 e0 => ?_
  have N0 := Fr.nil n0
  obtain ⟨Ga, Sa, nx, og⟩ := own_ga (p := p) (e := e) (below := below) s₁ (eF_2 m q)
  have S0 : Ga s₁ (mkF m 0 #[vR q] []) := nx Sa fun t k => castTop (ef_2 m q) k
  have S147 : Ga s₁ (mkF m 1 #[vR q] [(.ref q)]) := nx S0 fun t kt => by
    refine xa X0.here hx hby 0 0 rfl ?_
    exact kt
  obtain ⟨T148, X148, e148, st148⟩ := getF X0 hx hZ hown (host := "") (Or.inl (own_h hw 261 rfl)) Via.refl e0 Fn (g := (mkF m 1 #[vR q] [(.ref q)])) rfl rfl (own_k hby 1 (.getfield 79) 3)
  have S149 : Ga T148 (mkF m 4 #[vR q] [(.int z)]) := nx S147 fun t kt => st148 t kt
  refine ⟨T148, _, some (.int z), _, _, _, X148, og S149, fun h => (nomatch hret.symm.trans h), by decide, by decide, ?_, fun fs hr => retI X148 hx hret (own_k hby 4 (.ireturn) 1) hr⟩
  show Q_asl Z z h0 n0 _ T148.heap _
  rw [e148]
  exact ⟨rfl, N0, rfl⟩
abbrev R_sbl : Room := { frames := 1, cells := 0, slots := 0, locals := 12 }
def Q_sbl (Z : State) (z : Int32) (h0 : Heap) (n0 : Nat) (v : Option Value) (h : Heap) (L : List Loc) : Prop := v = some (.int z) ∧ Fr n0 L ∧ h = h0
theorem rm_sbl {l : Launch} {Z : State} {a0 : Array Value} (hw : own_W a0 Z) (q : Addr) (z : Int32) (h0 : Heap) (n0 : Nat) (Z0 : n0 ≤ h0.size) (EQ : Exa Z h0 q "java/lang/StringBuilder") (Fn : Fld Z h0 q "java/lang/AbstractStringBuilder" "count" "I" (.int z)) : own_Met l y66 jdk_67_method_93_code 1 (some .int) R_sbl Z h0 #[(.ref q)] (Q_sbl Z z h0 n0) := by
  refine own_body (plainFor_of_name pn_sba) fun p e s m below meth c s₁ hlk hret hnm hx hby hml hown hZ X0 e0 => ?_
  have N0 := Fr.nil n0
  obtain ⟨Ga, Sa, nx, og⟩ := own_ga (p := p) (e := e) (below := below) s₁ (eF_2 m q)
  have S0 : Ga s₁ (mkF m 0 #[vR q] []) := nx Sa fun t k => castTop (ef_2 m q) k
  have S150 : Ga s₁ (mkF m 1 #[vR q] [(.ref q)]) := nx S0 fun t kt => by
    refine xa X0.here hx hby 0 0 rfl ?_
    exact kt
  obtain ⟨v151, T151, L151, X151, hQ151, st151⟩ := own_outV (superBack X0 hx hZ (y := y67) hown (own_h hw 415 rfl) (own_same (own_h hw 411 rfl) (own_nfS (args := a0) (own_h hw 407 rfl) rfl) (by decide)) (own_h hw 411 rfl) (own_h hw 248 rfl) (by decide) (backOf (W := 0) (rm_asl hw q z h0 n0 Z0 Fn) hZ (own_h hw 416 rfl) (own_h hw 230 rfl) (by decide) (by decide)) e0 (Ins.self EQ) (g := (mkF m 1 #[vR q] [(.ref q)])) rfl (by rw [hml]; rfl) (own_h hw 416 rfl) (a := q) (argsL := []) (rest := []) (lenOf pd___I rfl) rfl (own_w rfl) (own_k hby 1 (.invokespecial 343) 3) (fun _ _ => ⟨rfl, e0, (by decide : 0 + 0 ≤ _), (by decide : 0 + 0 ≤ _)⟩))
  obtain ⟨rfl, N151q, e151⟩ := hQ151
  have N151 := Fr.app N0 N151q
  have S152 : Ga T151 (mkF m 4 #[vR q] [(.int z)]) := nx S150 fun t kt => st151 t kt
  refine ⟨T151, _, some (.int z), _, _, _, X151, og S152, fun h => (nomatch hret.symm.trans h), by decide, by decide, ?_, fun fs hr => retI X151 hx hret (own_k hby 4 (.ireturn) 1) hr⟩
  show Q_sbl Z z h0 n0 _ T151.heap _
  rw [e151]
  exact ⟨rfl, N151, rfl⟩
abbrev R_asc : Room := { frames := 1, cells := 0, slots := 0, locals := 14 }
abbrev eF_10 (m : MethodId) (x0 : Addr) (x1 : Int32) : JFrame := entryFrame m #[(.ref x0), (.int x1)] 2
theorem ef_10 (m : MethodId) (x0 : Addr) (x1 : Int32) : entryFrame m #[(.ref x0), (.int x1)] 2 = mkF m 0 #[.val (.ref x0), .val (.int x1)] [] := by first | (simp [entryFrame, mkF, argsToLocals, Value.category]; done) | rfl
def Q_asc (Z : State) (q : Addr) (bv : Addr) (k : ClassId) (cap : Nat) (vs : List Value) (c' : Nat) (ch : Int32) (h0 : Heap) (n0 : Nat) (v : Option Value) (h : Heap) (L : List Loc) : Prop := v = some (.ref q) ∧ Fr n0 L ∧ Keep h0 h [q, bv] ∧ own_SB Z h q bv k (Int32.ofNat cap) (vs.set c' (.int (StrChars.lo8 ch))) (Int32.ofNat (c' + 1))
theorem rm_asc {l : Launch} {Z : State} {a0 : Array Value} (hw : own_W a0 Z) (no : Nat) (de : Addr) (em : Addr) (el : Addr) (ey : Addr)(q : Addr) (bv : Addr) (k : ClassId) (cap : Nat) (vs : List Value) (c' : Nat) (ch : Int32) (h0 : Heap) (n0 : Nat) (Z0 : n0 ≤ h0.size) (SS : own_St Z de em el ey) (hno : no ≤ n0) (O0 : Old Z no h0) (HB : own_SB Z h0 q bv k (Int32.ofNat cap) vs (Int32.ofNat c')) (g_q : n0 ≤ q) (g_bv : n0 ≤ bv) (hcn : c' + 1 ≤ cap) (hcap : cap ≤ 100) (hvl : vs.length = cap) (hc : own_c ch) : own_Met l y57 jdk_68_method_31_code 2 (some (.object "java/lang/AbstractStringBuilder")) R_asc Z h0 #[(.ref q), (.int ch)] (Q_asc Z q bv k cap vs c' ch h0 n0) := by
  refine own_body (plainFor_of_name pn_inf) fun p e s m below meth c s₁ hlk hret hnm hx hby hml hown hZ X0 e0 => ?_
  have N0 := Fr.nil n0
  obtain ⟨Ga, Sa, nx, og⟩ := own_ga (p := p) (e := e) (below := below) s₁ (eF_10 m q ch)
  have S0 : Ga s₁ (mkF m 0 #[vR q, vI ch] []) := nx Sa fun t k => castTop (ef_10 m q ch) k
  obtain ⟨⟨cz, S_cs, hcz⟩, -⟩ := id SS
  obtain ⟨EQ, Fv, Fc, Fn, Eb, Vb⟩ := HB
  have S153 : Ga s₁ (mkF m 2 #[vR q, vI ch] [(.ref q), (.ref q)]) := nx S0 fun t kt => by
    refine xa X0.here hx hby 0 0 rfl ?_
    refine xa X0.here hx hby 1 0 rfl ?_
    exact kt
  obtain ⟨T154, X154, e154, st154⟩ := getF X0 hx hZ hown (host := "") (Or.inl (own_h hw 261 rfl)) Via.refl e0 Fn (g := (mkF m 2 #[vR q, vI ch] [(.ref q), (.ref q)])) rfl rfl (own_k hby 2 (.getfield 79) 3)
  have S155 : Ga T154 (mkF m 7 #[vR q, vI ch] [(.int ((Int32.ofNat c') + (1 : Int32))), (.ref q)]) := nx S153 fun t kt => st154 t (by
    show Sp p e below T154 (mkF m 5 #[vR q, vI ch] [(.int (Int32.ofNat c')), (.ref q)]) _
    refine xc X154.here hx hby 5 1 ?_
    refine XS.iadd X154.here hx rfl (own_k hby 6 (.iadd) 1) rfl ?_
    exact kt)
  have q157 : ((Int32.ofNat c') + (1 : Int32)) = (Int32.ofNat (c' + 1)) := own_inc c'
  have S156 : Ga T154 (mkF m 7 #[vR q, vI ch] [(.int (Int32.ofNat (c' + 1))), (.ref q)]) := by have h := S155; rw [q157] at h; exact h
  clear S155
  obtain ⟨v158, T158, L158, X158, hQ158, st158⟩ := own_cP X154 hx hZ hw hown hml 263 264 266 265 267 230 rfl rfl rfl rfl rfl rfl EQ (rm_ecn hw q bv k cap vs (c' + 1) h0 n0 Z0 Fv Fc Vb (by omega) hcap) e154 (W := 0) (g := (mkF m 7 #[vR q, vI ch] [(.int (Int32.ofNat (c' + 1))), (.ref q)])) rfl (argsL := [(.int (Int32.ofNat (c' + 1)))]) (rest := []) pd__I_V (own_k hby 7 (.invokevirtual 100) 3)
  obtain ⟨rfl, N158q, e158⟩ := hQ158
  have N158 := Fr.app N0 N158q
  have S159 : Ga T158 (mkF m 11 #[vR q, vI ch] [(.ref q)]) := nx S156 fun t kt => st158 t (by
    show Sp p e below T158 (mkF m 10 #[vR q, vI ch] []) _
    refine xa X158.here hx hby 10 0 rfl ?_
    exact kt)
  obtain ⟨v160, T160, L160, X160, hQ160, st160⟩ := own_cV1 X158 hx hZ hw hown hml 364 365 367 366 368 230 rfl rfl rfl rfl rfl rfl EQ (rm_isl hw no de em el ey q h0 n0 Z0 SS hno O0 Fc) e158 (W := 0) (g := (mkF m 11 #[vR q, vI ch] [(.ref q)])) rfl (argsL := []) (rest := []) pd___Z (own_k hby 11 (.invokevirtual 83) 3)
  obtain ⟨rfl, N160q, e160⟩ := hQ160
  have N160 := Fr.app N158 N160q
  have S161 : Ga T160 (mkF m 18 #[vR q, vI ch] [(.int ch)]) := nx S159 fun t kt => st160 t (by
    show Sp p e below T160 (mkF m 14 #[vR q, vI ch] [(.int 1)]) _
    refine XS.ifNo X160.here hx rfl (own_k hby 14 (.ifCond .eq 31) 3) rfl ((if0 _ _).trans (feq (show ¬ ((1 : Int32) = (0 : Int32)) from (by decide))).1) ?_
    refine xi X160.here hx hby 17 1 rfl ?_
    exact kt)
  obtain ⟨v162, T162, L162, X162, hQ162, st162⟩ := own_cS X160 hx hZ hw hown hml 369 59 61 60 rfl rfl rfl rfl (rm_cen hw ch h0 n0 Z0 hc) e160 (W := 0) (g := (mkF m 18 #[vR q, vI ch] [(.int ch)])) rfl (argsL := [(.int ch)]) (rest := []) pd__C_Z (own_k hby 18 (.invokestatic 191) 3)
  obtain ⟨rfl, N162q, e162⟩ := hQ162
  have N162 := Fr.app N160 N162q
  have S163 : Ga T162 (mkF m 25 #[vR q, vI ch] [(.ref q)]) := nx S161 fun t kt => st162 t (by
    show Sp p e below T162 (mkF m 21 #[vR q, vI ch] [(.int 1)]) _
    refine XS.ifNo X162.here hx rfl (own_k hby 21 (.ifCond .eq 24) 3) rfl ((if0 _ _).trans (feq (show ¬ ((1 : Int32) = (0 : Int32)) from (by decide))).1) ?_
    refine xa X162.here hx hby 24 0 rfl ?_
    exact kt)
  obtain ⟨T164, X164, e164, st164⟩ := getF X162 hx hZ hown (host := "") (Or.inl (own_h hw 234 rfl)) Via.refl e162 Fv (g := (mkF m 25 #[vR q, vI ch] [(.ref q)])) rfl rfl (own_k hby 25 (.getfield 15) 3)
  have S165 : Ga T164 (mkF m 30 #[vR q, vI ch] [(.ref q), (.ref q), (.ref bv)]) := nx S163 fun t kt => st164 t (by
    show Sp p e below T164 (mkF m 28 #[vR q, vI ch] [(.ref bv)]) _
    refine xa X164.here hx hby 28 0 rfl ?_
    refine XS.dup X164.here hx rfl (own_k hby 29 (.dup) 1) rfl rfl ?_
    exact kt)
  obtain ⟨T166, X166, e166, st166⟩ := getF X164 hx hZ hown (host := "") (Or.inl (own_h hw 261 rfl)) Via.refl e164 Fn (g := (mkF m 30 #[vR q, vI ch] [(.ref q), (.ref q), (.ref bv)])) rfl rfl (own_k hby 30 (.getfield 79) 3)
  have S167 : Ga T166 (mkF m 36 #[vR q, vI ch] [(.int ((Int32.ofNat c') + (1 : Int32))), (.ref q), (.int (Int32.ofNat c')), (.ref bv)]) := nx S165 fun t kt => st166 t (by
    show Sp p e below T166 (mkF m 33 #[vR q, vI ch] [(.int (Int32.ofNat c')), (.ref q), (.ref bv)]) _
    refine XS.dupX1 X166.here hx rfl (own_k hby 33 (.dup_x1) 1) rfl rfl rfl ?_
    refine xc X166.here hx hby 34 1 ?_
    refine XS.iadd X166.here hx rfl (own_k hby 35 (.iadd) 1) rfl ?_
    exact kt)
  have q169 : ((Int32.ofNat c') + (1 : Int32)) = (Int32.ofNat (c' + 1)) := own_inc c'
  have S168 : Ga T166 (mkF m 36 #[vR q, vI ch] [(.int (Int32.ofNat (c' + 1))), (.ref q), (.int (Int32.ofNat c')), (.ref bv)]) := by have h := S167; rw [q169] at h; exact h
  clear S167
  obtain ⟨T170, h170, X170, e170, W170, st170⟩ := putF X166 hx hZ hown (host := "") (Or.inl (own_h hw 261 rfl)) Via.refl e166 Fn EQ (Or.inl (own_h hw 262 rfl)) (own_h hw 221 rfl) (ty := .int) (by decide) rfl rfl (g := (mkF m 36 #[vR q, vI ch] [(.int (Int32.ofNat (c' + 1))), (.ref q), (.int (Int32.ofNat c')), (.ref bv)])) rfl rfl (own_k hby 36 (.putfield 79) 3)
  have N170 := Fr.snoc X170 N162 g_q
  have K170 : Keep h0 h170 [q, bv] := (Keep.refl h0 [q, bv]).wr W170 (Or.inl (by simp))
  have Fw170 := Fn.same W170
  have S171 : Ga T170 (mkF m 41 #[vR q, vI ch] [(.int (ch.toInt8.toInt32)), (.int (Int32.ofNat c')), (.ref bv)]) := nx S168 fun t kt => st170 t (by
    show Sp p e below T170 (mkF m 39 #[vR q, vI ch] [(.int (Int32.ofNat c')), (.ref bv)]) _
    refine xi X170.here hx hby 39 1 rfl ?_
    refine XS.i2b X170.here hx rfl (own_k hby 40 (.i2b) 1) rfl ?_
    exact kt)
  have ne172 : bv ≠ q := Ne.symm (own_neStr EQ Vb (own_h hw 221 rfl))
  have f173 := (Vb.other W170 ne172)
  obtain ⟨co174, Ao174, qo174, So174, No174, Ho174, Go174⟩ := id f173
  have hino174 : ¬ ((Int32.ofNat c') < 0 ∨ co174.slots.size ≤ ((Int32.ofNat c')).toNatClampNeg) := inb_of So174 ⟨own_nn (by omega), (own_ltn (by omega) (by omega)).mpr (by omega)⟩
  obtain ⟨T175, h175, X175, e175, W175, st175⟩ := stB X170 hx hZ e170 Ao174 (j := (Int32.ofNat c')) hino174 (g := (mkF m 41 #[vR q, vI ch] [(.int (ch.toInt8.toInt32)), (.int (Int32.ofNat c')), (.ref bv)])) rfl rfl (own_k hby 41 (.bastore) 1)
  have N175 := Fr.snoc X175 N170 g_bv
  have K175 : Keep h0 h175 [q, bv] := K170.wr W175 (Or.inl (by simp))
  have V175 : Arv Z h175 bv k .byte (Int32.ofNat cap) (vs.set c' (.int (StrChars.lo8 ch))) (.int 0) := by rw [← (show vs.set c' (.int ((ch.toInt8.toInt32).toInt8.toInt32)) = (vs.set c' (.int (StrChars.lo8 ch))) from by rw [own_b8])]; exact Arv.set Ao174 qo174 So174 No174 Ho174 Go174 (fits_nar_byte _) W175 c' (own_toN (by omega)) (by omega)
  have S176 : Ga T175 (mkF m 76 #[vR q, vI ch] [(.ref q)]) := nx S171 fun t kt => st175 t (by
    show Sp p e below T175 (mkF m 42 #[vR q, vI ch] []) _
    refine XS.goto X175.here hx rfl (pc0 := 42) (pc' := 75) rfl (own_k hby 42 (.goto 33) 3) (by decide) (by decide) ?_
    refine xa X175.here hx hby 75 0 rfl ?_
    exact kt)
  have f177 := ((EQ.wr W170).wr W175)
  have f178 := ((Fv.other W170 (Or.inr (ns2 hw))).other W175 (Or.inl (Ne.symm ne172)))
  have f179 := ((Fc.other W170 (Or.inr (ns3 hw))).other W175 (Or.inl (Ne.symm ne172)))
  have f180 := (Fw170.other W175 (Or.inl (Ne.symm ne172)))
  have f181 := ((Eb.wr W170).wr W175)
  refine ⟨T175, _, some (.ref q), _, _, _, X175, og S176, fun h => (nomatch hret.symm.trans h), by decide, by decide, ?_, fun fs hr => retOut X175 hx hret rfl (Or.inr (Or.inr (Or.inr (Or.inr ⟨rfl, rfl, rfl⟩)))) (own_k hby 76 (.areturn) 1) hr⟩
  show Q_asc Z q bv k cap vs c' ch h0 n0 _ T175.heap _
  rw [e175]
  exact ⟨rfl, N175, K175, f177, f178, f179, f180, f181, V175⟩
abbrev R_sbc : Room := { frames := 2, cells := 0, slots := 0, locals := 27 }
def Q_sbc (Z : State) (q : Addr) (bv : Addr) (k : ClassId) (cap : Nat) (vs : List Value) (c' : Nat) (ch : Int32) (h0 : Heap) (n0 : Nat) (v : Option Value) (h : Heap) (L : List Loc) : Prop := v = some (.ref q) ∧ Fr n0 L ∧ Keep h0 h [q, bv] ∧ own_SB Z h q bv k (Int32.ofNat cap) (vs.set c' (.int (StrChars.lo8 ch))) (Int32.ofNat (c' + 1))
theorem rm_sbc {l : Launch} {Z : State} {a0 : Array Value} (hw : own_W a0 Z) (no : Nat) (de : Addr) (em : Addr) (el : Addr) (ey : Addr)(q : Addr) (bv : Addr) (k : ClassId) (cap : Nat) (vs : List Value) (c' : Nat) (ch : Int32) (h0 : Heap) (n0 : Nat) (Z0 : n0 ≤ h0.size) (SS : own_St Z de em el ey) (hno : no ≤ n0) (O0 : Old Z no h0) (HB : own_SB Z h0 q bv k (Int32.ofNat cap) vs (Int32.ofNat c')) (g_q : n0 ≤ q) (g_bv : n0 ≤ bv) (hcn : c' + 1 ≤ cap) (hcap : cap ≤ 100) (hvl : vs.length = cap) (hc : own_c ch) : own_Met l y56 jdk_67_method_14_code 2 (some (.object "java/lang/StringBuilder")) R_sbc Z h0 #[(.ref q), (.int ch)] (Q_sbc Z q bv k cap vs c' ch h0 n0) := by
  refine own_body (plainFor_of_name pn_sba) fun p e s m below meth c s₁ hlk hret hnm hx hby hml hown hZ X0 e0 => ?_
  have N0 := Fr.nil n0
  obtain ⟨Ga, Sa, nx, og⟩ := own_ga (p := p) (e := e) (below := below) s₁ (eF_10 m q ch)
  have S0 : Ga s₁ (mkF m 0 #[vR q, vI ch] []) := nx Sa fun t k => castTop (ef_10 m q ch) k
  obtain ⟨⟨cz, S_cs, hcz⟩, -⟩ := id SS
  obtain ⟨EQ, Fv, Fc, Fn, Eb, Vb⟩ := HB
  have S182 : Ga s₁ (mkF m 2 #[vR q, vI ch] [(.int ch), (.ref q)]) := nx S0 fun t kt => by
    refine xa X0.here hx hby 0 0 rfl ?_
    refine xi X0.here hx hby 1 1 rfl ?_
    exact kt
  obtain ⟨v183, T183, L183, X183, hQ183, st183⟩ := own_outV (superBack X0 hx hZ (y := y57) hown (own_h hw 360 rfl) (own_same (own_h hw 361 rfl) (own_nfS (args := a0) (own_h hw 407 rfl) rfl) (by decide)) (own_h hw 361 rfl) (own_h hw 248 rfl) (by decide) (backOf (W := 0) (rm_asc hw no de em el ey q bv k cap vs c' ch h0 n0 Z0 SS hno O0 ⟨EQ, Fv, Fc, Fn, Eb, Vb⟩ g_q g_bv hcn hcap hvl hc) hZ (own_h hw 363 rfl) (own_h hw 230 rfl) (by decide) (by decide)) e0 (Ins.self EQ) (g := (mkF m 2 #[vR q, vI ch] [(.int ch), (.ref q)])) rfl (by rw [hml]; rfl) (own_h hw 363 rfl) (a := q) (argsL := [(.int ch)]) (rest := []) (lenOf pd__C_Ljava_lang_AbstractStringBuilder_ rfl) rfl (own_w rfl) (own_k hby 2 (.invokespecial 50) 3) (fun _ _ => ⟨rfl, e0, (by decide : 0 + 0 ≤ _), (by decide : 0 + 0 ≤ _)⟩))
  obtain ⟨rfl, N183q, K183, EQ183, Fv183, Fc183, Fn183, Eb183, Vb183⟩ := hQ183
  have N183 := Fr.app N0 N183q
  have KK183 : Keep h0 T183.heap [q, bv] := (Keep.refl h0 [q, bv]).trans K183 (allS (Or.inl (by simp)) (allS (Or.inl (by simp)) all0))
  have S184 : Ga T183 (mkF m 7 #[vR q, vI ch] [(.ref q)]) := nx S182 fun t kt => st183 t (by
    show Sp p e below T183 (mkF m 5 #[vR q, vI ch] [(.ref q)]) _
    refine XS.pop X183.here hx rfl (own_k hby 5 (.pop) 1) rfl rfl ?_
    refine xa X183.here hx hby 6 0 rfl ?_
    exact kt)
  refine ⟨T183, _, some (.ref q), _, _, _, X183, og S184, fun h => (nomatch hret.symm.trans h), by decide, by decide, ?_, fun fs hr => retOut X183 hx hret rfl (Or.inr (Or.inr (Or.inr (Or.inr ⟨rfl, rfl, rfl⟩)))) (own_k hby 7 (.areturn) 1) hr⟩
  show Q_sbc Z q bv k cap vs c' ch h0 n0 _ T183.heap _
  exact ⟨rfl, N183, KK183, EQ183, Fv183, Fc183, Fn183, Eb183, Vb183⟩
abbrev R_ckl : Room := { frames := 0, cells := 0, slots := 0, locals := 0 }
theorem pn_ckl : plainName "java/util/Arrays" = true := by first | (simp [plainName, overriddenIn]; done) | decide +kernel
def Q_ckl (Z : State)  (h0 : Heap) (n0 : Nat) (v : Option Value) (h : Heap) (L : List Loc) : Prop := v = none ∧ Fr n0 L ∧ h = h0
theorem rm_ckl {l : Launch} {Z : State} {a0 : Array Value} (hw : own_W a0 Z) (ln : Nat) (h0 : Heap) (n0 : Nat) (Z0 : n0 ≤ h0.size) (hl : ln ≤ 100) : own_Met l y70 jdk_65_method_131_code 2 none R_ckl Z h0 #[(.int 0), (.int (Int32.ofNat ln))] (Q_ckl Z  h0 n0) := by
  refine own_body (plainFor_of_name pn_ckl) fun p e s m below meth c s₁ hlk hret hnm hx hby hml hown hZ X0 e0 => ?_
  have N0 := Fr.nil n0
  obtain ⟨Ga, Sa, nx, og⟩ := own_ga (p := p) (e := e) (below := below) s₁ (eF_1 m (0 : Int32) (Int32.ofNat ln))
  have S0 : Ga s₁ (mkF m 0 #[vI 0, vI (Int32.ofNat ln)] []) := nx Sa fun t k => castTop (ef_1 m (0 : Int32) (Int32.ofNat ln)) k
  have S185 : Ga s₁ (mkF m 2 #[vI 0, vI (Int32.ofNat ln)] [(.int 0), (.int (Int32.ofNat ln))]) := nx S0 fun t kt => by
    refine xi X0.here hx hby 0 1 rfl ?_
    refine xi X0.here hx hby 1 0 rfl ?_
    exact kt
  have S186 : Ga s₁ (mkF m 37 #[vI 0, vI (Int32.ofNat ln)] []) := nx S185 fun t kt => by
    refine XS.icmpYes X0.here hx rfl (pc0 := 2) (pc' := 37) rfl (own_k hby 2 (.if_icmp .ge 35) 3) rfl (flt (show ¬ ((Int32.ofNat ln) < (0 : Int32)) from (own_nn (by omega)))).2.1 (by decide) (by decide) ?_
    exact kt
  refine ⟨s₁, _, none, _, _, _, X0, og S186, fun _ => rfl, by decide, by decide, ?_, fun fs hr => X0.returnOut hx hret (own_k hby 37 (.return_) 1) hr⟩
  show Q_ckl Z  h0 n0 _ s₁.heap _
  rw [e0]
  exact ⟨rfl, N0, rfl⟩
abbrev R_crb : Room := { frames := 1, cells := 1, slots := 100, locals := 18 }
abbrev eF_11 (m : MethodId) (x0 : Addr) (x1 : Int32) (x2 : Int32) : JFrame := entryFrame m #[(.ref x0), (.int x1), (.int x2)] 5
theorem ef_11 (m : MethodId) (x0 : Addr) (x1 : Int32) (x2 : Int32) : entryFrame m #[(.ref x0), (.int x1), (.int x2)] 5 = mkF m 0 #[.val (.ref x0), .val (.int x1), .val (.int x2), .unset, .unset] [] := by first | (simp [entryFrame, mkF, argsToLocals, Value.category]; done) | rfl
def Q_crb (Z : State) (vs : List Value) (c' : Nat) (h0 : Heap) (n0 : Nat) (v : Option Value) (h : Heap) (L : List Loc) : Prop := ∃ (b : Addr) (k' : ClassId), v = some (.ref b) ∧ Fr n0 L ∧ Keep h0 h [] ∧ h0.size ≤ b ∧ Arv Z h b k' .byte (Int32.ofNat c') (vs.take c') (.int 0)
theorem rm_crb {l : Launch} {Z : State} {a0 : Array Value} (hw : own_W a0 Z) (bv : Addr) (k : ClassId) (cap : Nat) (vs : List Value) (c' : Nat) (h0 : Heap) (n0 : Nat) (Z0 : n0 ≤ h0.size)  (Vb : Arv Z h0 bv k .byte (Int32.ofNat cap) vs (.int 0)) (hlt : c' < cap) (hcap : cap ≤ 100) (hvl : vs.length = cap) : own_Met l y69 jdk_65_method_133_code 5 (some (.array .byte)) R_crb Z h0 #[(.ref bv), (.int 0), (.int (Int32.ofNat c'))] (Q_crb Z vs c' h0 n0) := by
  refine own_body (plainFor_of_name pn_ckl) fun p e s m below meth c s₁ hlk hret hnm hx hby hml hown hZ X0 e0 => ?_
  have N0 := Fr.nil n0
  obtain ⟨Ga, Sa, nx, og⟩ := own_ga (p := p) (e := e) (below := below) s₁ (eF_11 m bv (0 : Int32) (Int32.ofNat c'))
  have S0 : Ga s₁ (mkF m 0 #[vR bv, vI 0, vI (Int32.ofNat c'), vU, vU] []) := nx Sa fun t k => castTop (ef_11 m bv (0 : Int32) (Int32.ofNat c')) k
  have S187 : Ga s₁ (mkF m 2 #[vR bv, vI 0, vI (Int32.ofNat c'), vU, vU] [(.int (Int32.ofNat c')), (.int 0)]) := nx S0 fun t kt => by
    refine xi X0.here hx hby 0 1 rfl ?_
    refine xi X0.here hx hby 1 2 rfl ?_
    exact kt
  obtain ⟨v188, T188, L188, X188, hQ188, st188⟩ := own_cS X0 hx hZ hw hown hml 424 425 426 149 rfl rfl rfl rfl (rm_ckl hw c' h0 n0 Z0 (by omega)) e0 (W := 0) (g := (mkF m 2 #[vR bv, vI 0, vI (Int32.ofNat c'), vU, vU] [(.int (Int32.ofNat c')), (.int 0)])) rfl (argsL := [(.int 0), (.int (Int32.ofNat c'))]) (rest := []) pd__II_V (own_k hby 2 (.invokestatic 343) 3)
  obtain ⟨rfl, N188q, e188⟩ := hQ188
  have N188 := Fr.app N0 N188q
  have S189 : Ga T188 (mkF m 8 #[vR bv, vI 0, vI (Int32.ofNat c'), vU, vU] [(.int ((Int32.ofNat c') - (0 : Int32)))]) := nx S187 fun t kt => st188 t (by
    show Sp p e below T188 (mkF m 5 #[vR bv, vI 0, vI (Int32.ofNat c'), vU, vU] []) _
    refine xi X188.here hx hby 5 2 rfl ?_
    refine xi X188.here hx hby 6 1 rfl ?_
    refine XS.isub X188.here hx rfl (own_k hby 7 (.isub) 1) rfl ?_
    exact kt)
  have q191 : ((Int32.ofNat c') - (0 : Int32)) = (Int32.ofNat c') := own_sub0 _
  have S190 : Ga T188 (mkF m 8 #[vR bv, vI 0, vI (Int32.ofNat c'), vU, vU] [(.int (Int32.ofNat c'))]) := by have h := S189; rw [q191] at h; exact h
  clear S189
  have S192 : Ga T188 (mkF m 10 #[vR bv, vI 0, vI (Int32.ofNat c'), vI (Int32.ofNat c'), vU] [(.int (Int32.ofNat c'))]) := nx S190 fun t kt => by
    refine XS.istoreN X188.here hx rfl (own_k hby 8 (.istore_n 3) 1) rfl (l' := #[vR bv, vI 0, vI (Int32.ofNat c'), vI (Int32.ofNat c'), vU]) rfl ?_
    refine xi X188.here hx hby 9 3 rfl ?_
    exact kt
  obtain ⟨T193, h193, k193, X193, e193, E193, A193, st193⟩ := newP X188 hx hZ (own_h hw 20 rfl) e188 (g := (mkF m 10 #[vR bv, vI 0, vI (Int32.ofNat c'), vI (Int32.ofNat c'), vU] [(.int (Int32.ofNat c'))])) rfl (own_k hby 10 (.newarray .byte) 2) rfl (own_nn (by omega)) (cap := 100) (by rw [own_toN (by omega)]; omega) (by decide) (by decide) (by decide)
  obtain ⟨b1, g193⟩ : ∃ z, z = h0.size := ⟨_, rfl⟩
  rw [← g193] at A193 st193
  have ne194 : bv ≠ b1 := by rw [g193]; exact Nat.ne_of_lt Vb.lt
  have g_b1 : n0 ≤ b1 := Nat.le_trans Z0 (Nat.le_of_eq g193.symm)
  have sz_b1 : h0.size ≤ b1 := Nat.le_trans (Keep.refl h0 []).1 (Nat.le_of_eq g193.symm)
  have K193 : Keep h0 h193 [] := (Keep.refl h0 []).ext E193
  have V193 : Arv Z h193 b1 k193 .byte (Int32.ofNat c') (List.replicate c' (.int 0)) (.int 0) := (Arv.new A193 (own_nn (by omega))).pad (pad_rep [] _ c')
  have S195 : Ga T193 (mkF m 20 #[vR bv, vI 0, vI (Int32.ofNat c'), vI (Int32.ofNat c'), vR b1] [(.ref bv), (.int 0), (.ref b1), (.int 0), (.ref bv)]) := nx S192 fun t kt => st193 t (by
    show Sp p e below T193 (mkF m 12 #[vR bv, vI 0, vI (Int32.ofNat c'), vI (Int32.ofNat c'), vU] [(.ref b1)]) _
    refine XS.astore X193.here hx rfl (own_k hby 12 (.astore 4) 2) rfl rfl (l' := #[vR bv, vI 0, vI (Int32.ofNat c'), vI (Int32.ofNat c'), vR b1]) rfl ?_
    refine xa X193.here hx hby 14 0 rfl ?_
    refine xi X193.here hx hby 15 1 rfl ?_
    refine XS.aload X193.here hx rfl (own_k hby 16 (.aload 4) 2) rfl rfl ?_
    show Sp p e below T193 (mkF m 18 #[vR bv, vI 0, vI (Int32.ofNat c'), vI (Int32.ofNat c'), vR b1] [(.ref b1), (.int 0), (.ref bv)]) _
    refine xc X193.here hx hby 18 0 ?_
    refine xa X193.here hx hby 19 0 rfl ?_
    exact kt)
  have f196 := (Vb.ext E193)
  obtain ⟨co197, Ao197, qo197, So197, No197, Ho197, Go197⟩ := id f196
  have S198 : Ga T193 (mkF m 23 #[vR bv, vI 0, vI (Int32.ofNat c'), vI (Int32.ofNat c'), vR b1] [(.int ((Int32.ofNat cap) - (0 : Int32))), (.int 0), (.ref b1), (.int 0), (.ref bv)]) := nx S195 fun t kt => by
    refine X193.arraylength hx (by rw [e193]; exact Ao197.1) (State.isArrayOf_alike hZ.alike Ao197.2.1) (g := (mkF m 20 #[vR bv, vI 0, vI (Int32.ofNat c'), vI (Int32.ofNat c'), vR b1] [(.ref bv), (.int 0), (.ref b1), (.int 0), (.ref bv)])) rfl rfl (own_k hby 20 (.arraylength) 1) _ ?_
    rw [len_of So197 No197]
    show Sp p e below T193 (mkF m 21 #[vR bv, vI 0, vI (Int32.ofNat c'), vI (Int32.ofNat c'), vR b1] [(.int (Int32.ofNat cap)), (.int 0), (.ref b1), (.int 0), (.ref bv)]) _
    refine xi X193.here hx hby 21 1 rfl ?_
    refine XS.isub X193.here hx rfl (own_k hby 22 (.isub) 1) rfl ?_
    exact kt
  have q200 : ((Int32.ofNat cap) - (0 : Int32)) = (Int32.ofNat cap) := own_sub0 _
  have S199 : Ga T193 (mkF m 23 #[vR bv, vI 0, vI (Int32.ofNat c'), vI (Int32.ofNat c'), vR b1] [(.int (Int32.ofNat cap)), (.int 0), (.ref b1), (.int 0), (.ref bv)]) := by have h := S198; rw [q200] at h; exact h
  clear S198
  have S201 : Ga T193 (mkF m 24 #[vR bv, vI 0, vI (Int32.ofNat c'), vI (Int32.ofNat c'), vR b1] [(.int (Int32.ofNat c')), (.int (Int32.ofNat cap)), (.int 0), (.ref b1), (.int 0), (.ref bv)]) := nx S199 fun t kt => by
    refine xi X193.here hx hby 23 3 rfl ?_
    exact kt
  have z202 := (Nat.le_trans Z0 E193.1)
  obtain ⟨v203, T203, L203, X203, hQ203, st203⟩ := own_cS X193 hx hZ hw hown hml 162 163 164 95 rfl rfl rfl rfl (rm_mnr hw (Int32.ofNat cap) (Int32.ofNat c') h193 n0 z202 ((own_ltn (by omega) (by omega)).mpr hlt)) e193 (W := 4) (g := (mkF m 24 #[vR bv, vI 0, vI (Int32.ofNat c'), vI (Int32.ofNat c'), vR b1] [(.int (Int32.ofNat c')), (.int (Int32.ofNat cap)), (.int 0), (.ref b1), (.int 0), (.ref bv)])) rfl (argsL := [(.int (Int32.ofNat cap)), (.int (Int32.ofNat c'))]) (rest := [(.int 0), (.ref b1), (.int 0), (.ref bv)]) pd__II_I (own_k hby 24 (.invokestatic 304) 3)
  obtain ⟨rfl, N203q, e203⟩ := hQ203
  have N203 := Fr.app N188 N203q
  obtain ⟨T204, h204, L204, X204, e204, N204, K204, Vq204, st204⟩ := cpA X203 hx hZ hown (own_h hw 165 rfl) (own_h hw 168 rfl) (own_h hw 166 rfl) (own_h hw 167 rfl) e203 f196 V193 (sp := (0 : Int32)) (dp := (0 : Int32)) (nn := (Int32.ofNat c')) (us := (vs.take c')) (Or.inl ⟨rfl, rfl⟩) (by decide) (by decide) (own_nn (by omega)) (by rw [own_toN (show c' < 2000 by omega), own_toN (show cap < 2000 by omega)]; exact Nat.le_trans (Nat.le_of_eq (Nat.zero_add c')) (by omega)) (by rw [own_toN (show c' < 2000 by omega)]; exact Nat.le_of_eq (Nat.zero_add c')) (own_hus rfl (own_toN (show c' < 2000 by omega)) (by omega)) (by rw [own_toN (show c' < 2000 by omega), List.length_replicate]; exact Nat.le_of_eq (Nat.zero_add c')) N203 g_b1 (g := (mkF m 27 #[vR bv, vI 0, vI (Int32.ofNat c'), vI (Int32.ofNat c'), vR b1] [(.int (Int32.ofNat c')), (.int 0), (.ref b1), (.int 0), (.ref bv)])) rfl (by rw [hml]; rfl) rfl (own_k hby 27 (.invokestatic 150) 3) (by decide) (W := 0) (by show 2 * 0 + _ ≤ _; exact Nat.le_of_eq rfl) (by decide)
  have KK204 : Keep h0 h204 [] := K193.trans K204 (allS (Or.inr sz_b1) all0)
  have V204 : Arv Z h204 b1 k193 .byte (Int32.ofNat c') (vs.take c') (.int 0) := by have q := Vq204; rw [own_toN (show c' < 2000 by omega), own_rep] at q; exact q
  have S205 : Ga T204 (mkF m 32 #[vR bv, vI 0, vI (Int32.ofNat c'), vI (Int32.ofNat c'), vR b1] [(.ref b1)]) := nx S201 fun t kt => st203 t (st204 t (by
    show Sp p e below T204 (mkF m 30 #[vR bv, vI 0, vI (Int32.ofNat c'), vI (Int32.ofNat c'), vR b1] []) _
    refine XS.aload X204.here hx rfl (own_k hby 30 (.aload 4) 2) rfl rfl ?_
    exact kt))
  refine ⟨T204, _, some (.ref b1), _, _, _, X204, og S205, fun h => (nomatch hret.symm.trans h), by decide, by decide, ?_, fun fs hr => retOut X204 hx hret rfl (Or.inr (Or.inr (Or.inr (Or.inr ⟨rfl, rfl, rfl⟩)))) (own_k hby 32 (.areturn) 1) hr⟩
  show Q_crb Z vs c' h0 n0 _ T204.heap _
  rw [e204]
  exact ⟨b1, k193, rfl, N204, KK204, sz_b1, V204⟩
abbrev R_cor : Room := { frames := 2, cells := 1, slots := 100, locals := 34 }
abbrev eF_12 (m : MethodId) (x0 : Addr) (x1 : Int32) (x2 : Int32) : JFrame := entryFrame m #[(.ref x0), (.int x1), (.int x2)] 3
theorem ef_12 (m : MethodId) (x0 : Addr) (x1 : Int32) (x2 : Int32) : entryFrame m #[(.ref x0), (.int x1), (.int x2)] 3 = mkF m 0 #[.val (.ref x0), .val (.int x1), .val (.int x2)] [] := by first | (simp [entryFrame, mkF, argsToLocals, Value.category]; done) | rfl
def Q_cor (Z : State) (vs : List Value) (c' : Nat) (h0 : Heap) (n0 : Nat) (v : Option Value) (h : Heap) (L : List Loc) : Prop := ∃ (b : Addr) (k' : ClassId), v = some (.ref b) ∧ Fr n0 L ∧ Keep h0 h [] ∧ h0.size ≤ b ∧ Arv Z h b k' .byte (Int32.ofNat c') (vs.take c') (.int 0)
theorem rm_cor {l : Launch} {Z : State} {a0 : Array Value} (hw : own_W a0 Z) (bv : Addr) (k : ClassId) (cap : Nat) (vs : List Value) (c' : Nat) (h0 : Heap) (n0 : Nat) (Z0 : n0 ≤ h0.size)  (Eb : Exa Z h0 bv "[B") (Vb : Arv Z h0 bv k .byte (Int32.ofNat cap) vs (.int 0)) (hle : c' ≤ cap) (hcap : cap ≤ 100) (hvl : vs.length = cap) : own_Met l y68 jdk_65_method_132_code 3 (some (.array .byte)) R_cor Z h0 #[(.ref bv), (.int 0), (.int (Int32.ofNat c'))] (Q_cor Z vs c' h0 n0) := by
  refine own_body (plainFor_of_name pn_ckl) fun p e s m below meth c s₁ hlk hret hnm hx hby hml hown hZ X0 e0 => ?_
  have N0 := Fr.nil n0
  obtain ⟨Ga, Sa, nx, og⟩ := own_ga (p := p) (e := e) (below := below) s₁ (eF_12 m bv (0 : Int32) (Int32.ofNat c'))
  have S0 : Ga s₁ (mkF m 0 #[vR bv, vI 0, vI (Int32.ofNat c')] []) := nx Sa fun t k => castTop (ef_12 m bv (0 : Int32) (Int32.ofNat c')) k
  have S206 : Ga s₁ (mkF m 6 #[vR bv, vI 0, vI (Int32.ofNat c')] [(.ref bv), (.int (Int32.ofNat c'))]) := nx S0 fun t kt => by
    refine xi X0.here hx hby 0 1 rfl ?_
    refine XS.ifNo X0.here hx rfl (own_k hby 1 (.ifCond .ne 9) 3) rfl ((if0 _ _).trans (teq (show (0 : Int32) = (0 : Int32) from (by decide))).2) ?_
    refine xi X0.here hx hby 4 2 rfl ?_
    refine xa X0.here hx hby 5 0 rfl ?_
    show Sp p e below s₁ (mkF m 6 #[vR bv, vI 0, vI (Int32.ofNat c')] [(.ref bv), (.int (Int32.ofNat c'))]) _
    exact kt
  obtain ⟨co207, Ao207, qo207, So207, No207, Ho207, Go207⟩ := id Vb
  have S208 : Ga s₁ (mkF m 7 #[vR bv, vI 0, vI (Int32.ofNat c')] [(.int (Int32.ofNat cap)), (.int (Int32.ofNat c'))]) := nx S206 fun t kt => by
    refine X0.arraylength hx (by rw [e0]; exact Ao207.1) (State.isArrayOf_alike hZ.alike Ao207.2.1) (g := (mkF m 6 #[vR bv, vI 0, vI (Int32.ofNat c')] [(.ref bv), (.int (Int32.ofNat c'))])) rfl rfl (own_k hby 6 (.arraylength) 1) _ ?_
    rw [len_of So207 No207]
    show Sp p e below s₁ (mkF m 7 #[vR bv, vI 0, vI (Int32.ofNat c')] [(.int (Int32.ofNat cap)), (.int (Int32.ofNat c'))]) _
    exact kt
  by_cases hlc : (Int32.ofNat c') = (Int32.ofNat cap)
  · have hlc' : c' = cap := (own_eqn (by omega) (by omega)).mp hlc
    have S209 : Ga s₁ (mkF m 18 #[vR bv, vI 0, vI (Int32.ofNat c')] [(.ref bv)]) := nx S208 fun t kt => by
      refine XS.icmpYes X0.here hx rfl (pc0 := 7) (pc' := 17) rfl (own_k hby 7 (.if_icmp .eq 10) 3) rfl (teq (show (Int32.ofNat c') = (Int32.ofNat cap) from hlc)).1 (by decide) (by decide) ?_
      refine xa X0.here hx hby 17 0 rfl ?_
      exact kt
    obtain ⟨T210, h210, X210, e210, E210, A210, Ex210, st210⟩ := cloneH X0 hx hZ hown (own_h hw 429 rfl) (own_h hw 430 rfl) (own_h hw 434 rfl) (own_h hw 432 rfl) (own_h hw 433 rfl) (own_h hw 435 rfl) e0 (Arv.arh Vb) Eb (g := (mkF m 18 #[vR bv, vI 0, vI (Int32.ofNat c')] [(.ref bv)])) rfl (by rw [hml]; rfl) rfl (own_k hby 18 (.invokevirtual 310) 3) (by decide) (W := 0) (cap := 100) (by show 2 * 0 + _ ≤ _; exact Nat.le_of_eq rfl) (by decide) (by rw [own_toN (by omega)]; omega) (by decide) (by decide)
    obtain ⟨b1, g210⟩ : ∃ z, z = h0.size := ⟨_, rfl⟩
    rw [← g210] at A210 Ex210 st210
    have ne211 : bv ≠ b1 := by rw [g210]; exact Nat.ne_of_lt Eb.lt
    have g_b1 : n0 ≤ b1 := Nat.le_trans Z0 (Nat.le_of_eq g210.symm)
    have sz_b1 : h0.size ≤ b1 := Nat.le_trans (Keep.refl h0 []).1 (Nat.le_of_eq g210.symm)
    have K210 : Keep h0 h210 [] := (Keep.refl h0 []).ext E210
    have V210 : Arv Z h210 b1 k .byte (Int32.ofNat cap) vs (.int 0) := A210
    obtain ⟨T212, X212, e212, st212⟩ := castY X210 hx hZ hown (own_h hw 436 rfl) e210 (Ins.self Ex210) (g := (mkF m 21 #[vR bv, vI 0, vI (Int32.ofNat c')] [(.ref b1)])) rfl rfl (own_k hby 21 (.checkcast 311) 3)
    have S213 : Ga T212 (mkF m 24 #[vR bv, vI 0, vI (Int32.ofNat c')] [(.ref b1)]) := nx S209 fun t kt => st210 t (st212 t kt)
    refine ⟨T212, _, some (.ref b1), _, _, _, X212, og S213, fun h => (nomatch hret.symm.trans h), by decide, by decide, ?_, fun fs hr => retOut X212 hx hret rfl (Or.inr (Or.inr (Or.inr (Or.inr ⟨rfl, rfl, rfl⟩)))) (own_k hby 24 (.areturn) 1) hr⟩
    show Q_cor Z vs c' h0 n0 _ T212.heap _
    rw [e212]
    exact ⟨b1, k, rfl, N0, K210, sz_b1, by rw [hlc', List.take_of_length_le (by omega)]; exact V210⟩
  · have S214 : Ga s₁ (mkF m 13 #[vR bv, vI 0, vI (Int32.ofNat c')] [(.int (Int32.ofNat c')), (.int 0), (.ref bv)]) := nx S208 fun t kt => by
      refine XS.icmpNo X0.here hx rfl (own_k hby 7 (.if_icmp .eq 10) 3) rfl (feq (show ¬ ((Int32.ofNat c') = (Int32.ofNat cap)) from hlc)).1 ?_
      refine xa X0.here hx hby 10 0 rfl ?_
      refine xi X0.here hx hby 11 1 rfl ?_
      refine xi X0.here hx hby 12 2 rfl ?_
      show Sp p e below s₁ (mkF m 13 #[vR bv, vI 0, vI (Int32.ofNat c')] [(.int (Int32.ofNat c')), (.int 0), (.ref bv)]) _
      exact kt
    obtain ⟨v215, T215, L215, X215, hQ215, st215⟩ := own_cS X0 hx hZ hw hown hml 421 422 423 149 rfl rfl rfl rfl (rm_crb hw bv k cap vs c' h0 n0 Z0 Vb (by have h1 : ¬ c' = cap := fun q => hlc (by rw [q]); omega) hcap hvl) e0 (W := 0) (g := (mkF m 13 #[vR bv, vI 0, vI (Int32.ofNat c')] [(.int (Int32.ofNat c')), (.int 0), (.ref bv)])) rfl (argsL := [(.ref bv), (.int 0), (.int (Int32.ofNat c'))]) (rest := []) pd___BII__B (own_k hby 13 (.invokestatic 339) 3)
    obtain ⟨b1, kb215, rfl, N215q, K215, sz_b1, V215⟩ := hQ215
    have N215 := Fr.app N0 N215q
    have KK215 : Keep h0 T215.heap [] := (Keep.refl h0 []).trans K215 all0
    have S216 : Ga T215 (mkF m 16 #[vR bv, vI 0, vI (Int32.ofNat c')] [(.ref b1)]) := nx S214 fun t kt => st215 t kt
    refine ⟨T215, _, some (.ref b1), _, _, _, X215, og S216, fun h => (nomatch hret.symm.trans h), by decide, by decide, ?_, fun fs hr => retOut X215 hx hret rfl (Or.inr (Or.inr (Or.inr (Or.inr ⟨rfl, rfl, rfl⟩)))) (own_k hby 16 (.areturn) 1) hr⟩
    show Q_cor Z vs c' h0 n0 _ T215.heap _
    exact ⟨b1, kb215, rfl, N215, KK215, sz_b1, V215⟩
abbrev R_sas : Room := { frames := 3, cells := 1, slots := 100, locals := 49 }
abbrev eF_13 (m : MethodId) (x0 : Addr) (x1 : Addr) : JFrame := entryFrame m #[(.ref x0), (.ref x1), .null] 5
theorem ef_13 (m : MethodId) (x0 : Addr) (x1 : Addr) : entryFrame m #[(.ref x0), (.ref x1), .null] 5 = mkF m 0 #[.val (.ref x0), .val (.ref x1), .val .null, .unset, .unset] [] := by first | (simp [entryFrame, mkF, argsToLocals, Value.category]; done) | rfl
def Q_sas (Z : State) (x : Addr) (vs : List Value) (c' : Nat) (h0 : Heap) (n0 : Nat) (v : Option Value) (h : Heap) (L : List Loc) : Prop := ∃ (b : Addr) (k' : ClassId), v = none ∧ Fr n0 L ∧ Keep h0 h [x] ∧ h0.size ≤ b ∧ own_Str Z h x b k' (Int32.ofNat c') (vs.take c')
theorem rm_sas {l : Launch} {Z : State} {a0 : Array Value} (hw : own_W a0 Z) (no : Nat) (de : Addr) (em : Addr) (el : Addr) (ey : Addr) (x : Addr) (q : Addr) (bv : Addr) (k : ClassId) (cap : Nat) (vs : List Value) (c' : Nat) (h0 : Heap) (n0 : Nat) (Z0 : n0 ≤ h0.size) (SS : own_St Z de em el ey) (hno : no ≤ n0) (O0 : Old Z no h0) (E0 : Exa Z h0 x "java/lang/String") (F0 : Fld Z h0 x "java/lang/String" "value" "[B" .null) (G0 : Fld Z h0 x "java/lang/String" "coder" "B" (.int 0)) (g_x : n0 ≤ x) (HB : own_SB Z h0 q bv k (Int32.ofNat cap) vs (Int32.ofNat c')) (hle : c' ≤ cap) (hcap : cap ≤ 100) (hvl : vs.length = cap) : own_Met l y64 jdk_42_method_150_code 5 none R_sas Z h0 #[(.ref x), (.ref q), .null] (Q_sas Z x vs c' h0 n0) := by
  refine own_body (plainFor_of_name pn_sts) fun p e s m below meth c s₁ hlk hret hnm hx hby hml hown hZ X0 e0 => ?_
  have N0 := Fr.nil n0
  obtain ⟨Ga, Sa, nx, og⟩ := own_ga (p := p) (e := e) (below := below) s₁ (eF_13 m x q)
  have S0 : Ga s₁ (mkF m 0 #[vR x, vR q, .val .null, vU, vU] []) := nx Sa fun t k => castTop (ef_13 m x q) k
  obtain ⟨⟨cz, S_cs, hcz⟩, -⟩ := id SS
  obtain ⟨EQ, Fv, Fc, Fn, Eb, Vb⟩ := HB
  have S217 : Ga s₁ (mkF m 1 #[vR x, vR q, .val .null, vU, vU] [(.ref x)]) := nx S0 fun t kt => by
    refine xa X0.here hx hby 0 0 rfl ?_
    exact kt
  obtain ⟨T218, X218, e218, st218⟩ := initO X0 hx hZ hown (own_h hw 12 rfl) (own_h hw 13 rfl) (own_h hw 14 rfl) e0 (g := (mkF m 1 #[vR x, vR q, .val .null, vU, vU] [(.ref x)])) rfl (by rw [hml]; rfl) rfl (own_k hby 1 (.invokespecial 1) 3) (by decide) (W := 0) (by show 2 * 0 + _ ≤ _; exact Nat.le_of_eq rfl) (by decide)
  have S219 : Ga T218 (mkF m 5 #[vR x, vR q, .val .null, vU, vU] [(.ref q)]) := nx S217 fun t kt => st218 t (by
    show Sp p e below T218 (mkF m 4 #[vR x, vR q, .val .null, vU, vU] []) _
    refine xa X218.here hx hby 4 1 rfl ?_
    exact kt)
  obtain ⟨v220, T220, L220, X220, hQ220, st220⟩ := own_cV1 X218 hx hZ hw hown hml 404 405 407 406 408 230 rfl rfl rfl rfl rfl rfl EQ (rm_gva hw q bv h0 n0 Z0 Fv) e218 (W := 0) (g := (mkF m 5 #[vR x, vR q, .val .null, vU, vU] [(.ref q)])) rfl (argsL := []) (rest := []) pd____B (own_k hby 5 (.invokevirtual 552) 3)
  obtain ⟨rfl, N220q, e220⟩ := hQ220
  have N220 := Fr.app N0 N220q
  have S221 : Ga T220 (mkF m 10 #[vR x, vR q, .val .null, vR bv, vU] [(.ref q)]) := nx S219 fun t kt => st220 t (by
    show Sp p e below T220 (mkF m 8 #[vR x, vR q, .val .null, vU, vU] [(.ref bv)]) _
    refine XS.astoreN X220.here hx rfl (own_k hby 8 (.astore_n 3) 1) rfl rfl (l' := #[vR x, vR q, .val .null, vR bv, vU]) rfl ?_
    refine xa X220.here hx hby 9 1 rfl ?_
    exact kt)
  obtain ⟨v222, T222, L222, X222, hQ222, st222⟩ := own_cV X220 hx hZ hw hown hml 409 410 412 413 414 222 rfl rfl rfl rfl rfl rfl (own_nfS (args := #[]) (own_t hZ hw 407 rfl) rfl) EQ (rm_sbl hw q (Int32.ofNat c') h0 n0 Z0 EQ Fn) e220 (W := 0) (g := (mkF m 10 #[vR x, vR q, .val .null, vR bv, vU] [(.ref q)])) rfl (argsL := []) (rest := []) pd___I (own_k hby 10 (.invokevirtual 549) 3)
  obtain ⟨rfl, N222q, e222⟩ := hQ222
  have N222 := Fr.app N220 N222q
  have S223 : Ga T222 (mkF m 16 #[vR x, vR q, .val .null, vR bv, vI (Int32.ofNat c')] [(.ref q)]) := nx S221 fun t kt => st222 t (by
    show Sp p e below T222 (mkF m 13 #[vR x, vR q, .val .null, vR bv, vU] [(.int (Int32.ofNat c'))]) _
    refine XS.istore X222.here hx rfl (own_k hby 13 (.istore 4) 2) rfl (l' := #[vR x, vR q, .val .null, vR bv, vI (Int32.ofNat c')]) rfl ?_
    refine xa X222.here hx hby 15 1 rfl ?_
    exact kt)
  obtain ⟨v224, T224, L224, X224, hQ224, st224⟩ := own_cV1 X222 hx hZ hw hown hml 417 365 367 366 368 230 rfl rfl rfl rfl rfl rfl EQ (rm_isl hw no de em el ey q h0 n0 Z0 SS hno O0 Fc) e222 (W := 0) (g := (mkF m 16 #[vR x, vR q, .val .null, vR bv, vI (Int32.ofNat c')] [(.ref q)])) rfl (argsL := []) (rest := []) pd___Z (own_k hby 16 (.invokevirtual 1047) 3)
  obtain ⟨rfl, N224q, e224⟩ := hQ224
  have N224 := Fr.app N222 N224q
  have S225 : Ga T224 (mkF m 24 #[vR x, vR q, .val .null, vR bv, vI (Int32.ofNat c')] [(.int 0), (.ref x)]) := nx S223 fun t kt => st224 t (by
    show Sp p e below T224 (mkF m 19 #[vR x, vR q, .val .null, vR bv, vI (Int32.ofNat c')] [(.int 1)]) _
    refine XS.ifNo X224.here hx rfl (own_k hby 19 (.ifCond .eq 22) 3) rfl ((if0 _ _).trans (feq (show ¬ ((1 : Int32) = (0 : Int32)) from (by decide))).1) ?_
    refine xa X224.here hx hby 22 0 rfl ?_
    refine xc X224.here hx hby 23 0 ?_
    exact kt)
  obtain ⟨T226, h226, X226, e226, W226, st226⟩ := putFN X224 hx hZ hown (own_h hw 27 rfl) Via.refl e224 G0 E0 (Or.inr ⟨(own_h hw 28 rfl), rfl, hnm⟩) (own_h hw 2 rfl) (ty := .byte) (v' := .int ((0 : Int32).toInt8.toInt32)) (by decide) rfl (fits_nar_byte _) (g := (mkF m 24 #[vR x, vR q, .val .null, vR bv, vI (Int32.ofNat c')] [(.int 0), (.ref x)])) rfl rfl (own_k hby 24 (.putfield 15) 3)
  rw [show ((0 : Int32).toInt8.toInt32) = (0 : Int32) from by decide] at W226
  have N226 := Fr.snoc X226 N224 g_x
  have K226 : Keep h0 h226 [x] := (Keep.refl h0 [x]).wr W226 (Or.inl (by simp))
  have Fw226 := G0.same W226
  have S227 : Ga T226 (mkF m 32 #[vR x, vR q, .val .null, vR bv, vI (Int32.ofNat c')] [(.int (Int32.ofNat c')), (.int 0), (.ref bv), (.ref x)]) := nx S225 fun t kt => st226 t (by
    show Sp p e below T226 (mkF m 27 #[vR x, vR q, .val .null, vR bv, vI (Int32.ofNat c')] []) _
    refine xa X226.here hx hby 27 0 rfl ?_
    refine xa X226.here hx hby 28 3 rfl ?_
    refine xc X226.here hx hby 29 0 ?_
    refine XS.iload X226.here hx rfl (own_k hby 30 (.iload 4) 2) rfl ?_
    show Sp p e below T226 (mkF m 32 #[vR x, vR q, .val .null, vR bv, vI (Int32.ofNat c')] [(.int (Int32.ofNat c')), (.int 0), (.ref bv), (.ref x)]) _
    exact kt)
  have f228 := (Eb.wr W226)
  have ne229 : bv ≠ x := Ne.symm (own_neStr E0 Vb (own_h hw 2 rfl))
  have f230 := (Vb.other W226 ne229)
  have z231 := (Nat.le_trans Z0 (Keep.of_wr W226).1)
  obtain ⟨v232, T232, L232, X232, hQ232, st232⟩ := own_cS X226 hx hZ hw hown hml 418 419 420 149 rfl rfl rfl rfl (rm_cor hw bv k cap vs c' h226 n0 z231 f228 f230 hle hcap hvl) e226 (W := 1) (g := (mkF m 32 #[vR x, vR q, .val .null, vR bv, vI (Int32.ofNat c')] [(.int (Int32.ofNat c')), (.int 0), (.ref bv), (.ref x)])) rfl (argsL := [(.ref bv), (.int 0), (.int (Int32.ofNat c'))]) (rest := [(.ref x)]) pd___BII__B (own_k hby 32 (.invokestatic 54) 3)
  obtain ⟨b1, kb232, rfl, N232q, K232, szb232, V232⟩ := hQ232
  have N232 := Fr.app N226 N232q
  have KK232 : Keep h0 T232.heap [x] := K226.trans K232 all0
  have sz_b1 : h0.size ≤ b1 := Nat.le_trans K226.1 szb232
  have f233 := ((F0.other W226 (Or.inr (ns1 hw))).keep K232 nin0)
  have f234 := ((E0.wr W226).keep K232)
  obtain ⟨T235, h235, X235, e235, W235, st235⟩ := putF X232 hx hZ hown (host := "") (Or.inl (own_h hw 29 rfl)) Via.refl rfl f233 f234 (Or.inr ⟨(own_h hw 30 rfl), rfl, hnm⟩) (own_h hw 2 rfl) (ty := (.array .byte)) (by decide) rfl rfl (g := (mkF m 35 #[vR x, vR q, .val .null, vR bv, vI (Int32.ofNat c')] [(.ref b1), (.ref x)])) rfl rfl (own_k hby 35 (.putfield 9) 3)
  have N235 := Fr.snoc X235 N232 g_x
  have K235 : Keep h0 h235 [x] := KK232.wr W235 (Or.inl (by simp))
  have Fw235 := f233.same W235
  have S236 : Ga T235 (mkF m 97 #[vR x, vR q, .val .null, vR bv, vI (Int32.ofNat c')] []) := nx S227 fun t kt => st232 t (st235 t (by
    show Sp p e below T235 (mkF m 38 #[vR x, vR q, .val .null, vR bv, vI (Int32.ofNat c')] []) _
    refine XS.goto X235.here hx rfl (pc0 := 38) (pc' := 97) rfl (own_k hby 38 (.goto 59) 3) (by decide) (by decide) ?_
    exact kt))
  have f237 := (f234.wr W235)
  have f238 := ((Fw226.keep K232 nin0).other W235 (Or.inr (ns0 hw)))
  have ne239 : x ≠ b1 := Nat.ne_of_lt (Nat.lt_of_lt_of_le ((E0.wr W226).lt) szb232)
  have f240 := (V232.other W235 (Ne.symm ne239))
  refine ⟨T235, _, none, _, _, _, X235, og S236, fun _ => rfl, by decide, by decide, ?_, fun fs hr => X235.returnOut hx hret (own_k hby 97 (.return_) 1) hr⟩
  show Q_sas Z x vs c' h0 n0 _ T235.heap _
  rw [e235]
  exact ⟨b1, kb232, rfl, N235, K235, sz_b1, f237, f238, Fw235, f240⟩
abbrev R_sis : Room := { frames := 4, cells := 1, slots := 100, locals := 65 }
def Q_sis (Z : State) (x : Addr) (vs : List Value) (c' : Nat) (h0 : Heap) (n0 : Nat) (v : Option Value) (h : Heap) (L : List Loc) : Prop := ∃ (b : Addr) (k' : ClassId), v = none ∧ Fr n0 L ∧ Keep h0 h [x] ∧ h0.size ≤ b ∧ own_Str Z h x b k' (Int32.ofNat c') (vs.take c')
theorem rm_sis {l : Launch} {Z : State} {a0 : Array Value} (hw : own_W a0 Z) (no : Nat) (de : Addr) (em : Addr) (el : Addr) (ey : Addr) (x : Addr) (q : Addr) (bv : Addr) (k : ClassId) (cap : Nat) (vs : List Value) (c' : Nat) (h0 : Heap) (n0 : Nat) (Z0 : n0 ≤ h0.size) (SS : own_St Z de em el ey) (hno : no ≤ n0) (O0 : Old Z no h0) (E0 : Exa Z h0 x "java/lang/String") (F0 : Fld Z h0 x "java/lang/String" "value" "[B" .null) (G0 : Fld Z h0 x "java/lang/String" "coder" "B" (.int 0)) (g_x : n0 ≤ x) (HB : own_SB Z h0 q bv k (Int32.ofNat cap) vs (Int32.ofNat c')) (hle : c' ≤ cap) (hcap : cap ≤ 100) (hvl : vs.length = cap) : own_Met l y63 jdk_42_method_53_code 2 none R_sis Z h0 #[(.ref x), (.ref q)] (Q_sis Z x vs c' h0 n0) := by
  refine own_body (plainFor_of_name pn_sts) fun p e s m below meth c s₁ hlk hret hnm hx hby hml hown hZ X0 e0 => ?_
  have N0 := Fr.nil n0
  obtain ⟨Ga, Sa, nx, og⟩ := own_ga (p := p) (e := e) (below := below) s₁ (eF_6 m x q)
  have S0 : Ga s₁ (mkF m 0 #[vR x, vR q] []) := nx Sa fun t k => castTop (ef_6 m x q) k
  obtain ⟨⟨cz, S_cs, hcz⟩, -⟩ := id SS
  obtain ⟨EQ, Fv, Fc, Fn, Eb, Vb⟩ := HB
  have S241 : Ga s₁ (mkF m 3 #[vR x, vR q] [.null, (.ref q), (.ref x)]) := nx S0 fun t kt => by
    refine xa X0.here hx hby 0 0 rfl ?_
    refine xa X0.here hx hby 1 1 rfl ?_
    refine XS.aconstNull X0.here hx rfl (own_k hby 2 (.aconst_null) 1) ?_
    exact kt
  obtain ⟨v242, T242, L242, X242, hQ242, st242⟩ := own_cI X0 hx hZ hw hown hml 401 402 403 3 rfl rfl rfl rfl rfl (a := x) (rm_sas hw no de em el ey x q bv k cap vs c' h0 n0 Z0 SS hno O0 E0 F0 G0 g_x ⟨EQ, Fv, Fc, Fn, Eb, Vb⟩ hle hcap hvl) e0 (W := 0) (g := (mkF m 3 #[vR x, vR q] [.null, (.ref q), (.ref x)])) rfl (argsL := [(.ref q), .null]) (rest := []) pd__Ljava_lang_AbstractStringBuilder_Ljava_lang_Void__V (own_k hby 3 (.invokespecial 489) 3)
  obtain ⟨b1, kb242, rfl, N242q, K242, sz_b1, E242, F242, G242, V242⟩ := hQ242
  have N242 := Fr.app N0 N242q
  have KK242 : Keep h0 T242.heap [x] := (Keep.refl h0 [x]).trans K242 (allS (Or.inl (by simp)) all0)
  have S243 : Ga T242 (mkF m 6 #[vR x, vR q] []) := nx S241 fun t kt => st242 t kt
  refine ⟨T242, _, none, _, _, _, X242, og S243, fun _ => rfl, by decide, by decide, ?_, fun fs hr => X242.returnOut hx hret (own_k hby 6 (.return_) 1) hr⟩
  show Q_sis Z x vs c' h0 n0 _ T242.heap _
  exact ⟨b1, kb242, rfl, N242, KK242, sz_b1, E242, F242, G242, V242⟩
abbrev R_sbt : Room := { frames := 5, cells := 2, slots := 104, locals := 79 }
def Q_sbt (Z : State) (vs : List Value) (c' : Nat) (h0 : Heap) (n0 : Nat) (v : Option Value) (h : Heap) (L : List Loc) : Prop := ∃ (a b : Addr) (k' : ClassId), v = some (.ref a) ∧ Fr n0 L ∧ Keep h0 h [] ∧ h0.size ≤ a ∧ h0.size ≤ b ∧ own_Str Z h a b k' (Int32.ofNat c') (vs.take c')
theorem rm_sbt {l : Launch} {Z : State} {a0 : Array Value} (hw : own_W a0 Z) (no : Nat) (de : Addr) (em : Addr) (el : Addr) (ey : Addr) (q : Addr) (bv : Addr) (k : ClassId) (cap : Nat) (vs : List Value) (c' : Nat) (h0 : Heap) (n0 : Nat) (Z0 : n0 ≤ h0.size) (SS : own_St Z de em el ey) (hno : no ≤ n0) (O0 : Old Z no h0) (HB : own_SB Z h0 q bv k (Int32.ofNat cap) vs (Int32.ofNat c')) (hle : c' ≤ cap) (hcap : cap ≤ 100) (hvl : vs.length = cap) : own_Met l y62 jdk_67_method_42_code 1 (some (.object "java/lang/String")) R_sbt Z h0 #[(.ref q)] (Q_sbt Z vs c' h0 n0) := by
  refine own_body (plainFor_of_name pn_sba) fun p e s m below meth c s₁ hlk hret hnm hx hby hml hown hZ X0 e0 => ?_
  have N0 := Fr.nil n0
  obtain ⟨Ga, Sa, nx, og⟩ := own_ga (p := p) (e := e) (below := below) s₁ (eF_2 m q)
  have S0 : Ga s₁ (mkF m 0 #[vR q] []) := nx Sa fun t k => castTop (ef_2 m q) k
  obtain ⟨⟨cz, S_cs, hcz⟩, -⟩ := id SS
  obtain ⟨EQ, Fv, Fc, Fn, Eb, Vb⟩ := HB
  obtain ⟨T244, h244, X244, e244, E244, A244, D244, -, st244⟩ := newO X0 hx hZ hown (own_h hw 397 rfl) (own_h hw 2 rfl) (own_h hw 3 rfl) e0 (g := (mkF m 0 #[vR q] [])) rfl (own_k hby 0 (.new 18) 3) (by decide) (by decide)
  obtain ⟨a1, g244⟩ : ∃ z, z = h0.size := ⟨_, rfl⟩
  rw [← g244] at A244 D244 st244
  have ne245 : q ≠ a1 := by rw [g244]; exact Nat.ne_of_lt EQ.lt
  have ne246 : bv ≠ a1 := by rw [g244]; exact Nat.ne_of_lt Eb.lt
  have g_a1 : n0 ≤ a1 := Nat.le_trans Z0 (Nat.le_of_eq g244.symm)
  have sz_a1 : h0.size ≤ a1 := Nat.le_trans (Keep.refl h0 []).1 (Nat.le_of_eq g244.symm)
  have K244 : Keep h0 h244 [] := (Keep.refl h0 []).ext E244
  have F_coder_a1 : Fld Z h244 a1 "java/lang/String" "coder" "B" (.int 0) := D244 (Or.inr (own_h hw 28 rfl)) (ty := .byte) (by decide)
  have F_value_a1 : Fld Z h244 a1 "java/lang/String" "value" "[B" .null := D244 (Or.inr (own_h hw 30 rfl)) (ty := (.array .byte)) (by decide)
  have S247 : Ga T244 (mkF m 5 #[vR q] [(.ref q), (.ref a1), (.ref a1)]) := nx S0 fun t kt => st244 t (by
    show Sp p e below T244 (mkF m 3 #[vR q] [(.ref a1)]) _
    refine XS.dup X244.here hx rfl (own_k hby 3 (.dup) 1) rfl rfl ?_
    refine xa X244.here hx hby 4 0 rfl ?_
    exact kt)
  have f248 := (O0.ext E244)
  have f249 := (EQ.ext E244)
  have f250 := (Fv.ext E244)
  have f251 := (Fc.ext E244)
  have f252 := (Fn.ext E244)
  have f253 := (Eb.ext E244)
  have f254 := (Vb.ext E244)
  have z255 := (Nat.le_trans Z0 E244.1)
  obtain ⟨v256, T256, L256, X256, hQ256, st256⟩ := own_cI X244 hx hZ hw hown hml 398 399 400 3 rfl rfl rfl rfl rfl (a := a1) (rm_sis hw no de em el ey a1 q bv k cap vs c' h244 n0 z255 SS hno f248 A244 F_value_a1 F_coder_a1 g_a1 ⟨f249, f250, f251, f252, f253, f254⟩ hle hcap hvl) e244 (W := 1) (g := (mkF m 5 #[vR q] [(.ref q), (.ref a1), (.ref a1)])) rfl (argsL := [(.ref q)]) (rest := [(.ref a1)]) pd__Ljava_lang_StringBuilder__V (own_k hby 5 (.invokespecial 137) 3)
  obtain ⟨b1, kb256, rfl, N256q, K256, szb256, E256, F256, G256, V256⟩ := hQ256
  have N256 := Fr.app N0 N256q
  have KK256 : Keep h0 T256.heap [] := K244.trans K256 (allS (Or.inr sz_a1) all0)
  have sz_b1 : h0.size ≤ b1 := Nat.le_trans K244.1 szb256
  have S257 : Ga T256 (mkF m 8 #[vR q] [(.ref a1)]) := nx S247 fun t kt => st256 t kt
  refine ⟨T256, _, some (.ref a1), _, _, _, X256, og S257, fun h => (nomatch hret.symm.trans h), by decide, by decide, ?_, fun fs hr => retOut X256 hx hret rfl (Or.inr (Or.inr (Or.inr (Or.inr ⟨rfl, rfl, rfl⟩)))) (own_k hby 8 (.areturn) 1) hr⟩
  show Q_sbt Z vs c' h0 n0 _ T256.heap _
  exact ⟨a1, b1, kb256, rfl, N256, KK256, sz_a1, sz_b1, E256, F256, G256, V256⟩
abbrev R_asi : Room := { frames := 1, cells := 1, slots := 16, locals := 12 }
def Q_asi (Z : State) (x : Addr) (h0 : Heap) (n0 : Nat) (v : Option Value) (h : Heap) (L : List Loc) : Prop := ∃ (bv : Addr) (k : ClassId), v = none ∧ Fr n0 L ∧ Keep h0 h [x] ∧ h0.size ≤ bv ∧ own_SB Z h x bv k (16 : Int32) (own_vs [0, 0, 0, 0, 0, 0, 0, 0, 0, 0, 0, 0, 0, 0, 0, 0]) (0 : Int32)
theorem rm_asi {l : Launch} {Z : State} {a0 : Array Value} (hw : own_W a0 Z) (no : Nat) (de : Addr) (em : Addr) (el : Addr) (ey : Addr) (x : Addr) (h0 : Heap) (n0 : Nat) (Z0 : n0 ≤ h0.size) (SS : own_St Z de em el ey) (hno : no ≤ n0) (O0 : Old Z no h0) (E0 : Exa Z h0 x "java/lang/StringBuilder") (F0 : Fld Z h0 x "java/lang/AbstractStringBuilder" "value" "[B" .null) (G0 : Fld Z h0 x "java/lang/AbstractStringBuilder" "coder" "B" (.int 0)) (C0 : Fld Z h0 x "java/lang/AbstractStringBuilder" "count" "I" (.int 0)) (g_x : n0 ≤ x) : own_Met l y37 jdk_68_method_2_code 2 none R_asi Z h0 #[(.ref x), (.int 16)] (Q_asi Z x h0 n0) := by
  refine own_body (plainFor_of_name pn_inf) fun p e s m below meth c s₁ hlk hret hnm hx hby hml hown hZ X0 e0 => ?_
  have N0 := Fr.nil n0
  obtain ⟨Ga, Sa, nx, og⟩ := own_ga (p := p) (e := e) (below := below) s₁ (eF_10 m x (16 : Int32))
  have S0 : Ga s₁ (mkF m 0 #[vR x, vI 16] []) := nx Sa fun t k => castTop (ef_10 m x (16 : Int32)) k
  obtain ⟨⟨cz, S_cs, hcz⟩, -⟩ := id SS
  have S258 : Ga s₁ (mkF m 1 #[vR x, vI 16] [(.ref x)]) := nx S0 fun t kt => by
    refine xa X0.here hx hby 0 0 rfl ?_
    exact kt
  obtain ⟨T259, X259, e259, st259⟩ := initO X0 hx hZ hown (own_h hw 232 rfl) (own_h hw 13 rfl) (own_h hw 14 rfl) e0 (g := (mkF m 1 #[vR x, vI 16] [(.ref x)])) rfl (by rw [hml]; rfl) rfl (own_k hby 1 (.invokespecial 3) 3) (by decide) (W := 0) (by show 2 * 0 + _ ≤ _; exact Nat.le_of_eq rfl) (by decide)
  obtain ⟨T260, X260, e260, st260⟩ := getS2 X259 hx hZ hown (host := "") (Or.inl (own_h hw 233 rfl)) Via.refl e259 (S_cs.ext O0.2) (g := (mkF m 4 #[vR x, vI 16] [])) rfl (own_k hby 4 (.getstatic 18) 3)
  have S261 : Ga T260 (mkF m 12 #[vR x, vI 16] [(.int 16), (.ref x)]) := nx S258 fun t kt => st259 t (st260 t (by
    show Sp p e below T260 (mkF m 7 #[vR x, vI 16] [(.int cz)]) _
    refine XS.ifNo X260.here hx rfl (own_k hby 7 (.ifCond .eq 18) 3) rfl ((if0 _ _).trans (feq (show ¬ (cz = (0 : Int32)) from hcz)).1) ?_
    refine xa X260.here hx hby 10 0 rfl ?_
    refine xi X260.here hx hby 11 1 rfl ?_
    exact kt))
  obtain ⟨T262, h262, k262, X262, e262, E262, A262, Ex262, st262⟩ := newPE X260 hx hZ (own_h hw 20 rfl) e260 (g := (mkF m 12 #[vR x, vI 16] [(.int 16), (.ref x)])) rfl (own_k hby 12 (.newarray .byte) 2) rfl (by decide) (cap := 16) (by decide) (by decide) (by decide) (by decide) (ad := "[B") rfl
  obtain ⟨bv, g262⟩ : ∃ z, z = h0.size := ⟨_, rfl⟩
  rw [← g262] at A262 Ex262 st262
  have ne263 : x ≠ bv := by rw [g262]; exact Nat.ne_of_lt E0.lt
  have g_bv : n0 ≤ bv := Nat.le_trans Z0 (Nat.le_of_eq g262.symm)
  have sz_bv : h0.size ≤ bv := Nat.le_trans (Keep.refl h0 [x]).1 (Nat.le_of_eq g262.symm)
  have K262 : Keep h0 h262 [x] := (Keep.refl h0 [x]).ext E262
  have V262 : Arv Z h262 bv k262 .byte 16 [(.int 0), (.int 0), (.int 0), (.int 0), (.int 0), (.int 0), (.int 0), (.int 0), (.int 0), (.int 0), (.int 0), (.int 0), (.int 0), (.int 0), (.int 0), (.int 0)] (.int 0) := (Arv.new A262 (by decide)).pad (pad_rep [] _ 16)
  rw [own_z16] at V262
  have f264 := (F0.ext E262)
  have f265 := (E0.ext E262)
  obtain ⟨T266, h266, X266, e266, W266, st266⟩ := putF X262 hx hZ hown (host := "") (Or.inl (own_h hw 234 rfl)) Via.refl e262 f264 f265 (Or.inl (own_h hw 235 rfl)) (own_h hw 221 rfl) (ty := (.array .byte)) (by decide) rfl rfl (g := (mkF m 14 #[vR x, vI 16] [(.ref bv), (.ref x)])) rfl rfl (own_k hby 14 (.putfield 15) 3)
  have N266 := Fr.snoc X266 N0 g_x
  have K266 : Keep h0 h266 [x] := K262.wr W266 (Or.inl (by simp))
  have Fw266 := f264.same W266
  have S267 : Ga T266 (mkF m 19 #[vR x, vI 16] [(.int 0), (.ref x)]) := nx S261 fun t kt => st262 t (st266 t (by
    show Sp p e below T266 (mkF m 17 #[vR x, vI 16] []) _
    refine xa X266.here hx hby 17 0 rfl ?_
    refine xc X266.here hx hby 18 0 ?_
    exact kt))
  have f268 := ((G0.ext E262).other W266 (Or.inr (ns4 hw)))
  have f269 := (f265.wr W266)
  obtain ⟨T270, h270, X270, e270, W270, st270⟩ := putFN X266 hx hZ hown (own_h hw 236 rfl) Via.refl e266 f268 f269 (Or.inl (own_h hw 237 rfl)) (own_h hw 221 rfl) (ty := .byte) (v' := .int ((0 : Int32).toInt8.toInt32)) (by decide) rfl (fits_nar_byte _) (g := (mkF m 19 #[vR x, vI 16] [(.int 0), (.ref x)])) rfl rfl (own_k hby 19 (.putfield 22) 3)
  rw [show ((0 : Int32).toInt8.toInt32) = (0 : Int32) from by decide] at W270
  have N270 := Fr.snoc X270 N266 g_x
  have K270 : Keep h0 h270 [x] := K266.wr W270 (Or.inl (by simp))
  have Fw270 := f268.same W270
  have S271 : Ga T270 (mkF m 38 #[vR x, vI 16] []) := nx S267 fun t kt => st270 t (by
    show Sp p e below T270 (mkF m 22 #[vR x, vI 16] []) _
    refine XS.goto X270.here hx rfl (pc0 := 22) (pc' := 38) rfl (own_k hby 22 (.goto 16) 3) (by decide) (by decide) ?_
    exact kt)
  have f272 := (f269.wr W270)
  have f273 := (Fw266.other W270 (Or.inr (ns5 hw)))
  have f274 := (((C0.ext E262).other W266 (Or.inr (ns6 hw))).other W270 (Or.inr (ns7 hw)))
  have f275 := ((Ex262.wr W266).wr W270)
  have f276 := ((V262.other W266 (Ne.symm ne263)).other W270 (Ne.symm ne263))
  refine ⟨T270, _, none, _, _, _, X270, og S271, fun _ => rfl, by decide, by decide, ?_, fun fs hr => X270.returnOut hx hret (own_k hby 38 (.return_) 1) hr⟩
  show Q_asi Z x h0 n0 _ T270.heap _
  rw [e270]
  exact ⟨bv, k262, rfl, N270, K270, sz_bv, f272, f273, Fw270, f274, f275, f276⟩
abbrev R_sbi : Room := { frames := 2, cells := 1, slots := 16, locals := 25 }
def Q_sbi (Z : State) (x : Addr) (h0 : Heap) (n0 : Nat) (v : Option Value) (h : Heap) (L : List Loc) : Prop := ∃ (bv : Addr) (k : ClassId), v = none ∧ Fr n0 L ∧ Keep h0 h [x] ∧ h0.size ≤ bv ∧ own_SB Z h x bv k (16 : Int32) (own_vs [0, 0, 0, 0, 0, 0, 0, 0, 0, 0, 0, 0, 0, 0, 0, 0]) (0 : Int32)
theorem rm_sbi {l : Launch} {Z : State} {a0 : Array Value} (hw : own_W a0 Z) (no : Nat) (de : Addr) (em : Addr) (el : Addr) (ey : Addr) (x : Addr) (h0 : Heap) (n0 : Nat) (Z0 : n0 ≤ h0.size) (SS : own_St Z de em el ey) (hno : no ≤ n0) (O0 : Old Z no h0) (E0 : Exa Z h0 x "java/lang/StringBuilder") (F0 : Fld Z h0 x "java/lang/AbstractStringBuilder" "value" "[B" .null) (G0 : Fld Z h0 x "java/lang/AbstractStringBuilder" "coder" "B" (.int 0)) (C0 : Fld Z h0 x "java/lang/AbstractStringBuilder" "count" "I" (.int 0)) (g_x : n0 ≤ x) : own_Met l y36 jdk_67_method_1_code 1 none R_sbi Z h0 #[(.ref x)] (Q_sbi Z x h0 n0) := by
  refine own_body (plainFor_of_name pn_sba) fun p e s m below meth c s₁ hlk hret hnm hx hby hml hown hZ X0 e0 => ?_
  have N0 := Fr.nil n0
  obtain ⟨Ga, Sa, nx, og⟩ := own_ga (p := p) (e := e) (below := below) s₁ (eF_2 m x)
  have S0 : Ga s₁ (mkF m 0 #[vR x] []) := nx Sa fun t k => castTop (ef_2 m x) k
  obtain ⟨⟨cz, S_cs, hcz⟩, -⟩ := id SS
  have S277 : Ga s₁ (mkF m 3 #[vR x] [(.int 16), (.ref x)]) := nx S0 fun t kt => by
    refine xa X0.here hx hby 0 0 rfl ?_
    refine xb X0.here hx hby 1 16 ?_
    exact kt
  obtain ⟨v278, T278, L278, X278, hQ278, st278⟩ := own_cI X0 hx hZ hw hown hml 226 227 231 230 rfl rfl rfl rfl rfl (a := x) (rm_asi hw no de em el ey x h0 n0 Z0 SS hno O0 E0 F0 G0 C0 g_x) e0 (W := 0) (g := (mkF m 3 #[vR x] [(.int 16), (.ref x)])) rfl (argsL := [(.int 16)]) (rest := []) pd__I_V (own_k hby 3 (.invokespecial 1) 3)
  obtain ⟨bv, kb278, rfl, N278q, K278, sz_bv, EQ278, Fv278, Fc278, Fn278, Eb278, Vb278⟩ := hQ278
  have N278 := Fr.app N0 N278q
  have KK278 : Keep h0 T278.heap [x] := (Keep.refl h0 [x]).trans K278 (allS (Or.inl (by simp)) all0)
  have S279 : Ga T278 (mkF m 6 #[vR x] []) := nx S277 fun t kt => st278 t kt
  refine ⟨T278, _, none, _, _, _, X278, og S279, fun _ => rfl, by decide, by decide, ?_, fun fs hr => X278.returnOut hx hret (own_k hby 6 (.return_) 1) hr⟩
  show Q_sbi Z x h0 n0 _ T278.heap _
  exact ⟨bv, kb278, rfl, N278, KK278, sz_bv, EQ278, Fv278, Fc278, Fn278, Eb278, Vb278⟩
abbrev R_nle : Room := { frames := 1, cells := 0, slots := 0, locals := 14 }
abbrev eF_14 (m : MethodId) (x0 : Int32) (x1 : Int32) (x2 : Int32) : JFrame := entryFrame m #[(.int x0), (.int x1), (.int x2)] 4
theorem ef_14 (m : MethodId) (x0 : Int32) (x1 : Int32) (x2 : Int32) : entryFrame m #[(.int x0), (.int x1), (.int x2)] 4 = mkF m 0 #[.val (.int x0), .val (.int x1), .val (.int x2), .unset] [] := by first | (simp [entryFrame, mkF, argsToLocals, Value.category]; done) | rfl
theorem pn_nle : plainName "jdk/internal/util/ArraysSupport" = true := by first | (simp [plainName, overriddenIn]; done) | decide +kernel
def Q_nle (Z : State)  (h0 : Heap) (n0 : Nat) (v : Option Value) (h : Heap) (L : List Loc) : Prop := v = some (.int 34) ∧ Fr n0 L ∧ h = h0
theorem rm_nle {l : Launch} {Z : State} {a0 : Array Value} (hw : own_W a0 Z)  (h0 : Heap) (n0 : Nat) (Z0 : n0 ≤ h0.size)  : own_Met l y47 jdk_48_method_27_code 4 (some .int) R_nle Z h0 #[(.int 16), (.int 11), (.int 18)] (Q_nle Z  h0 n0) := by
  refine own_body (plainFor_of_name pn_nle) fun p e s m below meth c s₁ hlk hret hnm hx hby hml hown hZ X0 e0 => ?_
  have N0 := Fr.nil n0
  obtain ⟨Ga, Sa, nx, og⟩ := own_ga (p := p) (e := e) (below := below) s₁ (eF_14 m (16 : Int32) (11 : Int32) (18 : Int32))
  have S0 : Ga s₁ (mkF m 0 #[vI 16, vI 11, vI 18, vU] []) := nx Sa fun t k => castTop (ef_14 m (16 : Int32) (11 : Int32) (18 : Int32)) k
  have S280 : Ga s₁ (mkF m 3 #[vI 16, vI 11, vI 18, vU] [(.int 18), (.int 11), (.int 16)]) := nx S0 fun t kt => by
    refine xi X0.here hx hby 0 0 rfl ?_
    refine xi X0.here hx hby 1 1 rfl ?_
    refine xi X0.here hx hby 2 2 rfl ?_
    exact kt
  obtain ⟨v281, T281, L281, X281, hQ281, st281⟩ := own_cS X0 hx hZ hw hown hml 295 94 96 95 rfl rfl rfl rfl (rm_mxr hw 11 18 h0 n0 Z0 (by decide)) e0 (W := 1) (g := (mkF m 3 #[vI 16, vI 11, vI 18, vU] [(.int 18), (.int 11), (.int 16)])) rfl (argsL := [(.int 11), (.int 18)]) (rest := [(.int 16)]) pd__II_I (own_k hby 3 (.invokestatic 194) 3)
  obtain ⟨rfl, N281q, e281⟩ := hQ281
  have N281 := Fr.app N0 N281q
  have S282 : Ga T281 (mkF m 8 #[vI 16, vI 11, vI 18, vI ((16 : Int32) + (18 : Int32))] []) := nx S280 fun t kt => st281 t (by
    show Sp p e below T281 (mkF m 6 #[vI 16, vI 11, vI 18, vU] [(.int 18), (.int 16)]) _
    refine XS.iadd X281.here hx rfl (own_k hby 6 (.iadd) 1) rfl ?_
    refine XS.istoreN X281.here hx rfl (own_k hby 7 (.istore_n 3) 1) rfl (l' := #[vI 16, vI 11, vI 18, vI ((16 : Int32) + (18 : Int32))]) rfl ?_
    exact kt)
  have q284 : ((16 : Int32) + (18 : Int32)) = (34 : Int32) := by decide
  have S283 : Ga T281 (mkF m 8 #[vI 16, vI 11, vI 18, vI 34] []) := by have h := S282; rw [q284] at h; exact h
  clear S282
  have S285 : Ga T281 (mkF m 20 #[vI 16, vI 11, vI 18, vI 34] [(.int 34)]) := nx S283 fun t kt => by
    refine xc X281.here hx hby 8 0 ?_
    refine xi X281.here hx hby 9 3 rfl ?_
    refine XS.icmpNo X281.here hx rfl (own_k hby 10 (.if_icmp .ge 11) 3) rfl (tlt (show (0 : Int32) < (34 : Int32) from (by decide))).2.1 ?_
    refine xi X281.here hx hby 13 3 rfl ?_
    show Sp p e below T281 (mkF m 14 #[vI 16, vI 11, vI 18, vI 34] [(.int 34)]) _
    refine X281.ldcInt hx hown (own_t hZ hw 296 rfl) (g := (mkF m 14 #[vI 16, vI 11, vI 18, vI 34] [(.int 34)])) rfl (own_k hby 14 (.ldc 200) 2) _ ?_
    refine XS.icmpNo X281.here hx rfl (own_k hby 16 (.if_icmp .gt 5) 3) rfl (flt (show ¬ ((2147483639 : Int32) < (34 : Int32)) from (by decide))).2.2.1 ?_
    refine xi X281.here hx hby 19 3 rfl ?_
    exact kt
  refine ⟨T281, _, some (.int 34), _, _, _, X281, og S285, fun h => (nomatch hret.symm.trans h), by decide, by decide, ?_, fun fs hr => retI X281 hx hret (own_k hby 20 (.ireturn) 1) hr⟩
  show Q_nle Z  h0 n0 _ T281.heap _
  rw [e281]
  exact ⟨rfl, N281, rfl⟩
abbrev R_nca : Room := { frames := 2, cells := 0, slots := 0, locals := 29 }
abbrev eF_15 (m : MethodId) (x0 : Addr) (x1 : Int32) : JFrame := entryFrame m #[(.ref x0), (.int x1)] 6
theorem ef_15 (m : MethodId) (x0 : Addr) (x1 : Int32) : entryFrame m #[(.ref x0), (.int x1)] 6 = mkF m 0 #[.val (.ref x0), .val (.int x1), .unset, .unset, .unset, .unset] [] := by first | (simp [entryFrame, mkF, argsToLocals, Value.category]; done) | rfl
def Q_nca (Z : State)  (h0 : Heap) (n0 : Nat) (v : Option Value) (h : Heap) (L : List Loc) : Prop := v = some (.int 34) ∧ Fr n0 L ∧ h = h0
theorem rm_nca {l : Launch} {Z : State} {a0 : Array Value} (hw : own_W a0 Z) (q : Addr) (bv : Addr) (k : ClassId) (vs : List Value) (h0 : Heap) (n0 : Nat) (Z0 : n0 ≤ h0.size)  (Fv : Fld Z h0 q "java/lang/AbstractStringBuilder" "value" "[B" (.ref bv)) (Fc : Fld Z h0 q "java/lang/AbstractStringBuilder" "coder" "B" (.int 0)) (Vb : Arv Z h0 bv k .byte 16 vs (.int 0)) : own_Met l y46 jdk_68_method_10_code 6 (some .int) R_nca Z h0 #[(.ref q), (.int 27)] (Q_nca Z  h0 n0) := by
  refine own_body (plainFor_of_name pn_inf) fun p e s m below meth c s₁ hlk hret hnm hx hby hml hown hZ X0 e0 => ?_
  have N0 := Fr.nil n0
  obtain ⟨Ga, Sa, nx, og⟩ := own_ga (p := p) (e := e) (below := below) s₁ (eF_15 m q (27 : Int32))
  have S0 : Ga s₁ (mkF m 0 #[vR q, vI 27, vU, vU, vU, vU] []) := nx Sa fun t k => castTop (ef_15 m q (27 : Int32)) k
  have S286 : Ga s₁ (mkF m 1 #[vR q, vI 27, vU, vU, vU, vU] [(.ref q)]) := nx S0 fun t kt => by
    refine xa X0.here hx hby 0 0 rfl ?_
    exact kt
  obtain ⟨T287, X287, e287, st287⟩ := getF X0 hx hZ hown (host := "") (Or.inl (own_h hw 234 rfl)) Via.refl e0 Fv (g := (mkF m 1 #[vR q, vI 27, vU, vU, vU, vU] [(.ref q)])) rfl rfl (own_k hby 1 (.getfield 15) 3)
  obtain ⟨co288, Ao288, qo288, So288, No288, Ho288, Go288⟩ := id Vb
  have S289 : Ga T287 (mkF m 8 #[vR q, vI 27, vI 16, vU, vU, vU] [(.ref q), (.int 27)]) := nx S286 fun t kt => st287 t (by
    show Sp p e below T287 (mkF m 4 #[vR q, vI 27, vU, vU, vU, vU] [(.ref bv)]) _
    refine X287.arraylength hx (by rw [e287]; exact Ao288.1) (State.isArrayOf_alike hZ.alike Ao288.2.1) (g := (mkF m 4 #[vR q, vI 27, vU, vU, vU, vU] [(.ref bv)])) rfl rfl (own_k hby 4 (.arraylength) 1) _ ?_
    rw [len_of So288 No288]
    show Sp p e below T287 (mkF m 5 #[vR q, vI 27, vU, vU, vU, vU] [(.int 16)]) _
    refine XS.istoreN X287.here hx rfl (own_k hby 5 (.istore_n 2) 1) rfl (l' := #[vR q, vI 27, vI 16, vU, vU, vU]) rfl ?_
    refine xi X287.here hx hby 6 1 rfl ?_
    refine xa X287.here hx hby 7 0 rfl ?_
    show Sp p e below T287 (mkF m 8 #[vR q, vI 27, vI 16, vU, vU, vU] [(.ref q), (.int 27)]) _
    exact kt)
  obtain ⟨T290, X290, e290, st290⟩ := getF X287 hx hZ hown (host := "") (Or.inl (own_h hw 236 rfl)) Via.refl e287 Fc (g := (mkF m 8 #[vR q, vI 27, vI 16, vU, vU, vU] [(.ref q), (.int 27)])) rfl rfl (own_k hby 8 (.getfield 22) 3)
  have S291 : Ga T290 (mkF m 12 #[vR q, vI 27, vI 16, vU, vU, vU] [(.int ((27 : Int32) <<< ((0 : Int32) &&& 31)))]) := nx S289 fun t kt => st290 t (by
    show Sp p e below T290 (mkF m 11 #[vR q, vI 27, vI 16, vU, vU, vU] [(.int 0), (.int 27)]) _
    refine XS.ishl X290.here hx rfl (own_k hby 11 (.ishl) 1) rfl ?_
    exact kt)
  have q293 : ((27 : Int32) <<< ((0 : Int32) &&& 31)) = (27 : Int32) := own_shl0 _
  have S292 : Ga T290 (mkF m 12 #[vR q, vI 27, vI 16, vU, vU, vU] [(.int 27)]) := by have h := S291; rw [q293] at h; exact h
  clear S291
  have S294 : Ga T290 (mkF m 16 #[vR q, vI 27, vI 16, vI 27, vU, vU] [(.int ((27 : Int32) - (16 : Int32)))]) := nx S292 fun t kt => by
    refine XS.istoreN X290.here hx rfl (own_k hby 12 (.istore_n 3) 1) rfl (l' := #[vR q, vI 27, vI 16, vI 27, vU, vU]) rfl ?_
    refine xi X290.here hx hby 13 3 rfl ?_
    refine xi X290.here hx hby 14 2 rfl ?_
    refine XS.isub X290.here hx rfl (own_k hby 15 (.isub) 1) rfl ?_
    show Sp p e below T290 (mkF m 16 #[vR q, vI 27, vI 16, vI 27, vU, vU] [(.int ((27 : Int32) - (16 : Int32)))]) _
    exact kt
  have q296 : ((27 : Int32) - (16 : Int32)) = (11 : Int32) := by decide
  have S295 : Ga T290 (mkF m 16 #[vR q, vI 27, vI 16, vI 27, vU, vU] [(.int 11)]) := by have h := S294; rw [q296] at h; exact h
  clear S294
  have S297 : Ga T290 (mkF m 24 #[vR q, vI 27, vI 16, vI 27, vI 11, vU] [(.ref q), (.int 2), (.int 16), (.int 11), (.int 16)]) := nx S295 fun t kt => by
    refine XS.istore X290.here hx rfl (own_k hby 16 (.istore 4) 2) rfl (l' := #[vR q, vI 27, vI 16, vI 27, vI 11, vU]) rfl ?_
    refine xi X290.here hx hby 18 2 rfl ?_
    refine XS.iload X290.here hx rfl (own_k hby 19 (.iload 4) 2) rfl ?_
    refine xi X290.here hx hby 21 2 rfl ?_
    show Sp p e below T290 (mkF m 22 #[vR q, vI 27, vI 16, vI 27, vI 11, vU] [(.int 16), (.int 11), (.int 16)]) _
    refine xc X290.here hx hby 22 2 ?_
    refine xa X290.here hx hby 23 0 rfl ?_
    exact kt
  obtain ⟨T298, X298, e298, st298⟩ := getF X290 hx hZ hown (host := "") (Or.inl (own_h hw 236 rfl)) Via.refl e290 Fc (g := (mkF m 24 #[vR q, vI 27, vI 16, vI 27, vI 11, vU] [(.ref q), (.int 2), (.int 16), (.int 11), (.int 16)])) rfl rfl (own_k hby 24 (.getfield 22) 3)
  have S299 : Ga T298 (mkF m 28 #[vR q, vI 27, vI 16, vI 27, vI 11, vU] [(.int ((2 : Int32) <<< ((0 : Int32) &&& 31))), (.int 16), (.int 11), (.int 16)]) := nx S297 fun t kt => st298 t (by
    show Sp p e below T298 (mkF m 27 #[vR q, vI 27, vI 16, vI 27, vI 11, vU] [(.int 0), (.int 2), (.int 16), (.int 11), (.int 16)]) _
    refine XS.ishl X298.here hx rfl (own_k hby 27 (.ishl) 1) rfl ?_
    exact kt)
  have q301 : ((2 : Int32) <<< ((0 : Int32) &&& 31)) = (2 : Int32) := own_shl0 _
  have S300 : Ga T298 (mkF m 28 #[vR q, vI 27, vI 16, vI 27, vI 11, vU] [(.int 2), (.int 16), (.int 11), (.int 16)]) := by have h := S299; rw [q301] at h; exact h
  clear S299
  have S302 : Ga T298 (mkF m 29 #[vR q, vI 27, vI 16, vI 27, vI 11, vU] [(.int ((16 : Int32) + (2 : Int32))), (.int 11), (.int 16)]) := nx S300 fun t kt => by
    refine XS.iadd X298.here hx rfl (own_k hby 28 (.iadd) 1) rfl ?_
    exact kt
  have q304 : ((16 : Int32) + (2 : Int32)) = (18 : Int32) := by decide
  have S303 : Ga T298 (mkF m 29 #[vR q, vI 27, vI 16, vI 27, vI 11, vU] [(.int 18), (.int 11), (.int 16)]) := by have h := S302; rw [q304] at h; exact h
  clear S302
  obtain ⟨v305, T305, L305, X305, hQ305, st305⟩ := own_cS X298 hx hZ hw hown hml 291 292 294 293 rfl rfl rfl rfl (rm_nle hw  h0 n0 Z0 ) e298 (W := 0) (g := (mkF m 29 #[vR q, vI 27, vI 16, vI 27, vI 11, vU] [(.int 18), (.int 11), (.int 16)])) rfl (argsL := [(.int 16), (.int 11), (.int 18)]) (rest := []) pd__III_I (own_k hby 29 (.invokestatic 114) 3)
  obtain ⟨rfl, N305q, e305⟩ := hQ305
  have N305 := Fr.app N0 N305q
  have S306 : Ga T305 (mkF m 54 #[vR q, vI 27, vI 16, vI 27, vI 11, vI 34] [(.ref q), (.int 34)]) := nx S303 fun t kt => st305 t (by
    show Sp p e below T305 (mkF m 32 #[vR q, vI 27, vI 16, vI 27, vI 11, vU] [(.int 34)]) _
    refine XS.istore X305.here hx rfl (own_k hby 32 (.istore 5) 2) rfl (l' := #[vR q, vI 27, vI 16, vI 27, vI 11, vI 34]) rfl ?_
    refine XS.iload X305.here hx rfl (own_k hby 34 (.iload 5) 2) rfl ?_
    refine X305.ldcInt hx hown (own_t hZ hw 297 rfl) (g := (mkF m 36 #[vR q, vI 27, vI 16, vI 27, vI 11, vI 34] [(.int 34)])) rfl (own_k hby 36 (.ldc 39) 2) _ ?_
    refine XS.icmpYes X305.here hx rfl (pc0 := 38) (pc' := 51) rfl (own_k hby 38 (.if_icmp .ne 13) 3) rfl (feq (show ¬ ((34 : Int32) = (2147483647 : Int32)) from (by decide))).2 (by decide) (by decide) ?_
    show Sp p e below T305 (mkF m 51 #[vR q, vI 27, vI 16, vI 27, vI 11, vI 34] []) _
    refine XS.iload X305.here hx rfl (own_k hby 51 (.iload 5) 2) rfl ?_
    refine xa X305.here hx hby 53 0 rfl ?_
    exact kt)
  obtain ⟨T307, X307, e307, st307⟩ := getF X305 hx hZ hown (host := "") (Or.inl (own_h hw 236 rfl)) Via.refl e305 Fc (g := (mkF m 54 #[vR q, vI 27, vI 16, vI 27, vI 11, vI 34] [(.ref q), (.int 34)])) rfl rfl (own_k hby 54 (.getfield 22) 3)
  have S308 : Ga T307 (mkF m 58 #[vR q, vI 27, vI 16, vI 27, vI 11, vI 34] [(.int ((34 : Int32) >>> ((0 : Int32) &&& 31)))]) := nx S306 fun t kt => st307 t (by
    show Sp p e below T307 (mkF m 57 #[vR q, vI 27, vI 16, vI 27, vI 11, vI 34] [(.int 0), (.int 34)]) _
    refine XS.ishr X307.here hx rfl (own_k hby 57 (.ishr) 1) rfl ?_
    exact kt)
  have q310 : ((34 : Int32) >>> ((0 : Int32) &&& 31)) = (34 : Int32) := own_shr0 _
  have S309 : Ga T307 (mkF m 58 #[vR q, vI 27, vI 16, vI 27, vI 11, vI 34] [(.int 34)]) := by have h := S308; rw [q310] at h; exact h
  clear S308
  refine ⟨T307, _, some (.int 34), _, _, _, X307, og S309, fun h => (nomatch hret.symm.trans h), by decide, by decide, ?_, fun fs hr => retI X307 hx hret (own_k hby 58 (.ireturn) 1) hr⟩
  show Q_nca Z  h0 n0 _ T307.heap _
  rw [e307]
  exact ⟨rfl, N305, rfl⟩
abbrev R_cpb : Room := { frames := 1, cells := 1, slots := 34, locals := 18 }
def Q_cpb (Z : State) (vs : List Value) (h0 : Heap) (n0 : Nat) (v : Option Value) (h : Heap) (L : List Loc) : Prop := ∃ (b : Addr) (k' : ClassId), v = some (.ref b) ∧ Fr n0 L ∧ Keep h0 h [] ∧ h0.size ≤ b ∧ Exa Z h b "[B" ∧ Arv Z h b k' .byte 34 (vs ++ List.replicate 18 (Value.int 0)) (.int 0)
theorem rm_cpb {l : Launch} {Z : State} {a0 : Array Value} (hw : own_W a0 Z) (bv : Addr) (k : ClassId) (vs : List Value) (h0 : Heap) (n0 : Nat) (Z0 : n0 ≤ h0.size) (Vb : Arv Z h0 bv k .byte 16 vs (.int 0)) (hvl : vs.length = 16) : own_Met l y48 jdk_65_method_121_code 3 (some (.array .byte)) R_cpb Z h0 #[(.ref bv), (.int 34)] (Q_cpb Z vs h0 n0) := by
  refine own_body (plainFor_of_name pn_ckl) fun p e s m below meth c s₁ hlk hret hnm hx hby hml hown hZ X0 e0 => ?_
  have N0 := Fr.nil n0
  obtain ⟨Ga, Sa, nx, og⟩ := own_ga (p := p) (e := e) (below := below) s₁ (eF_8 m bv (34 : Int32))
  have S0 : Ga s₁ (mkF m 0 #[vR bv, vI 34, vU] []) := nx Sa fun t k => castTop (ef_8 m bv (34 : Int32)) k
  have S311 : Ga s₁ (mkF m 2 #[vR bv, vI 34, vU] [(.ref bv), (.int 34)]) := nx S0 fun t kt => by
    refine xi X0.here hx hby 0 1 rfl ?_
    refine xa X0.here hx hby 1 0 rfl ?_
    exact kt
  obtain ⟨co312, Ao312, qo312, So312, No312, Ho312, Go312⟩ := id Vb
  have S313 : Ga s₁ (mkF m 15 #[vR bv, vI 34, vU] [(.int 34)]) := nx S311 fun t kt => by
    refine X0.arraylength hx (by rw [e0]; exact Ao312.1) (State.isArrayOf_alike hZ.alike Ao312.2.1) (g := (mkF m 2 #[vR bv, vI 34, vU] [(.ref bv), (.int 34)])) rfl rfl (own_k hby 2 (.arraylength) 1) _ ?_
    rw [len_of So312 No312]
    show Sp p e below s₁ (mkF m 3 #[vR bv, vI 34, vU] [(.int 16), (.int 34)]) _
    refine XS.icmpYes X0.here hx rfl (pc0 := 3) (pc' := 14) rfl (own_k hby 3 (.if_icmp .ne 11) 3) rfl (feq (show ¬ ((34 : Int32) = (16 : Int32)) from (by decide))).2 (by decide) (by decide) ?_
    refine xi X0.here hx hby 14 1 rfl ?_
    exact kt
  obtain ⟨T314, h314, k314, X314, e314, E314, A314, Ex314, st314⟩ := newPE X0 hx hZ (own_h hw 20 rfl) e0 (g := (mkF m 15 #[vR bv, vI 34, vU] [(.int 34)])) rfl (own_k hby 15 (.newarray .byte) 2) rfl (by decide) (cap := 34) (by decide) (by decide) (by decide) (by decide) (ad := "[B") rfl
  obtain ⟨b1, g314⟩ : ∃ z, z = h0.size := ⟨_, rfl⟩
  rw [← g314] at A314 Ex314 st314
  have ne315 : bv ≠ b1 := by rw [g314]; exact Nat.ne_of_lt Vb.lt
  have g_b1 : n0 ≤ b1 := Nat.le_trans Z0 (Nat.le_of_eq g314.symm)
  have sz_b1 : h0.size ≤ b1 := Nat.le_trans (Keep.refl h0 []).1 (Nat.le_of_eq g314.symm)
  have K314 : Keep h0 h314 [] := (Keep.refl h0 []).ext E314
  have V314 : Arv Z h314 b1 k314 .byte 34 [(.int 0), (.int 0), (.int 0), (.int 0), (.int 0), (.int 0), (.int 0), (.int 0), (.int 0), (.int 0), (.int 0), (.int 0), (.int 0), (.int 0), (.int 0), (.int 0), (.int 0), (.int 0), (.int 0), (.int 0), (.int 0), (.int 0), (.int 0), (.int 0), (.int 0), (.int 0), (.int 0), (.int 0), (.int 0), (.int 0), (.int 0), (.int 0), (.int 0), (.int 0)] (.int 0) := (Arv.new A314 (by decide)).pad (pad_rep [] _ 34)
  have S316 : Ga T314 (mkF m 23 #[vR bv, vI 34, vR b1] [(.ref bv), (.int 0), (.ref b1), (.int 0), (.ref bv)]) := nx S313 fun t kt => st314 t (by
    show Sp p e below T314 (mkF m 17 #[vR bv, vI 34, vU] [(.ref b1)]) _
    refine XS.astoreN X314.here hx rfl (own_k hby 17 (.astore_n 2) 1) rfl rfl (l' := #[vR bv, vI 34, vR b1]) rfl ?_
    refine xa X314.here hx hby 18 0 rfl ?_
    refine xc X314.here hx hby 19 0 ?_
    refine xa X314.here hx hby 20 2 rfl ?_
    show Sp p e below T314 (mkF m 21 #[vR bv, vI 34, vR b1] [(.ref b1), (.int 0), (.ref bv)]) _
    refine xc X314.here hx hby 21 0 ?_
    refine xa X314.here hx hby 22 0 rfl ?_
    exact kt)
  have f317 := (Vb.ext E314)
  obtain ⟨co318, Ao318, qo318, So318, No318, Ho318, Go318⟩ := id f317
  have S319 : Ga T314 (mkF m 25 #[vR bv, vI 34, vR b1] [(.int 34), (.int 16), (.int 0), (.ref b1), (.int 0), (.ref bv)]) := nx S316 fun t kt => by
    refine X314.arraylength hx (by rw [e314]; exact Ao318.1) (State.isArrayOf_alike hZ.alike Ao318.2.1) (g := (mkF m 23 #[vR bv, vI 34, vR b1] [(.ref bv), (.int 0), (.ref b1), (.int 0), (.ref bv)])) rfl rfl (own_k hby 23 (.arraylength) 1) _ ?_
    rw [len_of So318 No318]
    show Sp p e below T314 (mkF m 24 #[vR bv, vI 34, vR b1] [(.int 16), (.int 0), (.ref b1), (.int 0), (.ref bv)]) _
    refine xi X314.here hx hby 24 1 rfl ?_
    exact kt
  have z320 := (Nat.le_trans Z0 E314.1)
  obtain ⟨v321, T321, L321, X321, hQ321, st321⟩ := own_cS X314 hx hZ hw hown hml 162 163 164 95 rfl rfl rfl rfl (rm_mnl hw 16 34 h314 n0 z320 (by decide)) e314 (W := 4) (g := (mkF m 25 #[vR bv, vI 34, vR b1] [(.int 34), (.int 16), (.int 0), (.ref b1), (.int 0), (.ref bv)])) rfl (argsL := [(.int 16), (.int 34)]) (rest := [(.int 0), (.ref b1), (.int 0), (.ref bv)]) pd__II_I (own_k hby 25 (.invokestatic 304) 3)
  obtain ⟨rfl, N321q, e321⟩ := hQ321
  have N321 := Fr.app N0 N321q
  obtain ⟨T322, h322, L322, X322, e322, N322, K322, Vq322, st322⟩ := cpA X321 hx hZ hown (own_h hw 165 rfl) (own_h hw 168 rfl) (own_h hw 166 rfl) (own_h hw 167 rfl) e321 f317 V314 (sp := (0 : Int32)) (dp := (0 : Int32)) (nn := (16 : Int32)) (us := vs) (Or.inl ⟨rfl, rfl⟩) (by decide) (by decide) (by decide) (by decide) (by decide) (own_husF rfl rfl hvl) (Nat.le_of_ble_eq_true rfl) N321 g_b1 (g := (mkF m 28 #[vR bv, vI 34, vR b1] [(.int 16), (.int 0), (.ref b1), (.int 0), (.ref bv)])) rfl (by rw [hml]; rfl) rfl (own_k hby 28 (.invokestatic 150) 3) (by decide) (W := 0) (by show 2 * 0 + _ ≤ _; exact Nat.le_of_eq rfl) (by decide)
  have KK322 : Keep h0 h322 [] := K314.trans K322 (allS (Or.inr sz_b1) all0)
  have V322 : Arv Z h322 b1 k314 .byte 34 (vs ++ List.replicate 18 (Value.int 0)) (.int 0) := by have q := Vq322; rw [own_v34] at q; exact q
  have S323 : Ga T322 (mkF m 32 #[vR bv, vI 34, vR b1] [(.ref b1)]) := nx S319 fun t kt => st321 t (st322 t (by
    show Sp p e below T322 (mkF m 31 #[vR bv, vI 34, vR b1] []) _
    refine xa X322.here hx hby 31 2 rfl ?_
    exact kt))
  have f324 := (Ex314.keep K322)
  refine ⟨T322, _, some (.ref b1), _, _, _, X322, og S323, fun h => (nomatch hret.symm.trans h), by decide, by decide, ?_, fun fs hr => retOut X322 hx hret rfl (Or.inr (Or.inr (Or.inr (Or.inr ⟨rfl, rfl, rfl⟩)))) (own_k hby 32 (.areturn) 1) hr⟩
  show Q_cpb Z vs h0 n0 _ T322.heap _
  rw [e322]
  exact ⟨b1, k314, rfl, N322, KK322, sz_b1, f324, V322⟩
abbrev R_ecg : Room := { frames := 3, cells := 1, slots := 34, locals := 48 }
def Q_ecg (Z : State) (q : Addr) (vs : List Value) (h0 : Heap) (n0 : Nat) (v : Option Value) (h : Heap) (L : List Loc) : Prop := ∃ (b2 : Addr) (k2 : ClassId), v = none ∧ Fr n0 L ∧ Keep h0 h [q] ∧ h0.size ≤ b2 ∧ own_SB Z h q b2 k2 (34 : Int32) (vs ++ List.replicate 18 (Value.int 0)) (12 : Int32)
theorem rm_ecg {l : Launch} {Z : State} {a0 : Array Value} (hw : own_W a0 Z) (q : Addr) (bv : Addr) (k : ClassId) (vs : List Value) (h0 : Heap) (n0 : Nat) (Z0 : n0 ≤ h0.size)  (HB : own_SB Z h0 q bv k (16 : Int32) vs (12 : Int32)) (g_q : n0 ≤ q) (hvl : vs.length = 16) : own_Met l y42 jdk_68_method_9_code 3 none R_ecg Z h0 #[(.ref q), (.int 27)] (Q_ecg Z q vs h0 n0) := by
  refine own_body (plainFor_of_name pn_inf) fun p e s m below meth c s₁ hlk hret hnm hx hby hml hown hZ X0 e0 => ?_
  have N0 := Fr.nil n0
  obtain ⟨Ga, Sa, nx, og⟩ := own_ga (p := p) (e := e) (below := below) s₁ (eF_8 m q (27 : Int32))
  have S0 : Ga s₁ (mkF m 0 #[vR q, vI 27, vU] []) := nx Sa fun t k => castTop (ef_8 m q (27 : Int32)) k
  obtain ⟨EQ, Fv, Fc, Fn, Eb, Vb⟩ := HB
  have S325 : Ga s₁ (mkF m 1 #[vR q, vI 27, vU] [(.ref q)]) := nx S0 fun t kt => by
    refine xa X0.here hx hby 0 0 rfl ?_
    exact kt
  obtain ⟨T326, X326, e326, st326⟩ := getF X0 hx hZ hown (host := "") (Or.inl (own_h hw 234 rfl)) Via.refl e0 Fv (g := (mkF m 1 #[vR q, vI 27, vU] [(.ref q)])) rfl rfl (own_k hby 1 (.getfield 15) 3)
  obtain ⟨co327, Ao327, qo327, So327, No327, Ho327, Go327⟩ := id Vb
  have S328 : Ga T326 (mkF m 6 #[vR q, vI 27, vU] [(.ref q), (.int 16)]) := nx S325 fun t kt => st326 t (by
    show Sp p e below T326 (mkF m 4 #[vR q, vI 27, vU] [(.ref bv)]) _
    refine X326.arraylength hx (by rw [e326]; exact Ao327.1) (State.isArrayOf_alike hZ.alike Ao327.2.1) (g := (mkF m 4 #[vR q, vI 27, vU] [(.ref bv)])) rfl rfl (own_k hby 4 (.arraylength) 1) _ ?_
    rw [len_of So327 No327]
    show Sp p e below T326 (mkF m 5 #[vR q, vI 27, vU] [(.int 16)]) _
    refine xa X326.here hx hby 5 0 rfl ?_
    exact kt)
  obtain ⟨T329, X329, e329, st329⟩ := getF X326 hx hZ hown (host := "") (Or.inl (own_h hw 236 rfl)) Via.refl e326 Fc (g := (mkF m 6 #[vR q, vI 27, vU] [(.ref q), (.int 16)])) rfl rfl (own_k hby 6 (.getfield 22) 3)
  have S330 : Ga T329 (mkF m 10 #[vR q, vI 27, vU] [(.int ((16 : Int32) >>> ((0 : Int32) &&& 31)))]) := nx S328 fun t kt => st329 t (by
    show Sp p e below T329 (mkF m 9 #[vR q, vI 27, vU] [(.int 0), (.int 16)]) _
    refine XS.ishr X329.here hx rfl (own_k hby 9 (.ishr) 1) rfl ?_
    exact kt)
  have q332 : ((16 : Int32) >>> ((0 : Int32) &&& 31)) = (16 : Int32) := own_shr0 _
  have S331 : Ga T329 (mkF m 10 #[vR q, vI 27, vU] [(.int 16)]) := by have h := S330; rw [q332] at h; exact h
  clear S330
  have S333 : Ga T329 (mkF m 14 #[vR q, vI 27, vI 16] [(.int ((27 : Int32) - (16 : Int32)))]) := nx S331 fun t kt => by
    refine XS.istoreN X329.here hx rfl (own_k hby 10 (.istore_n 2) 1) rfl (l' := #[vR q, vI 27, vI 16]) rfl ?_
    refine xi X329.here hx hby 11 1 rfl ?_
    refine xi X329.here hx hby 12 2 rfl ?_
    refine XS.isub X329.here hx rfl (own_k hby 13 (.isub) 1) rfl ?_
    show Sp p e below T329 (mkF m 14 #[vR q, vI 27, vI 16] [(.int ((27 : Int32) - (16 : Int32)))]) _
    exact kt
  have q335 : ((27 : Int32) - (16 : Int32)) = (11 : Int32) := by decide
  have S334 : Ga T329 (mkF m 14 #[vR q, vI 27, vI 16] [(.int 11)]) := by have h := S333; rw [q335] at h; exact h
  clear S333
  have S336 : Ga T329 (mkF m 19 #[vR q, vI 27, vI 16] [(.ref q), (.ref q)]) := nx S334 fun t kt => by
    refine XS.ifNo X329.here hx rfl (own_k hby 14 (.ifCond .le 24) 3) rfl ((if0 _ _).trans (tlt (show (0 : Int32) < (11 : Int32) from (by decide))).2.2.2) ?_
    refine xa X329.here hx hby 17 0 rfl ?_
    refine xa X329.here hx hby 18 0 rfl ?_
    exact kt
  obtain ⟨T337, X337, e337, st337⟩ := getF X329 hx hZ hown (host := "") (Or.inl (own_h hw 234 rfl)) Via.refl e329 Fv (g := (mkF m 19 #[vR q, vI 27, vI 16] [(.ref q), (.ref q)])) rfl rfl (own_k hby 19 (.getfield 15) 3)
  have S338 : Ga T337 (mkF m 24 #[vR q, vI 27, vI 16] [(.int 27), (.ref q), (.ref bv), (.ref q)]) := nx S336 fun t kt => st337 t (by
    show Sp p e below T337 (mkF m 22 #[vR q, vI 27, vI 16] [(.ref bv), (.ref q)]) _
    refine xa X337.here hx hby 22 0 rfl ?_
    refine xi X337.here hx hby 23 1 rfl ?_
    exact kt)
  obtain ⟨v339, T339, L339, X339, hQ339, st339⟩ := own_cP X337 hx hZ hw hown hml 286 287 289 288 290 230 rfl rfl rfl rfl rfl rfl EQ (rm_nca hw q bv k vs h0 n0 Z0 Fv Fc Vb) e337 (W := 2) (g := (mkF m 24 #[vR q, vI 27, vI 16] [(.int 27), (.ref q), (.ref bv), (.ref q)])) rfl (argsL := [(.int 27)]) (rest := [(.ref bv), (.ref q)]) pd__I_I (own_k hby 24 (.invokevirtual 104) 3)
  obtain ⟨rfl, N339q, e339⟩ := hQ339
  have N339 := Fr.app N0 N339q
  have S340 : Ga T339 (mkF m 28 #[vR q, vI 27, vI 16] [(.ref q), (.int 34), (.ref bv), (.ref q)]) := nx S338 fun t kt => st339 t (by
    show Sp p e below T339 (mkF m 27 #[vR q, vI 27, vI 16] [(.int 34), (.ref bv), (.ref q)]) _
    refine xa X339.here hx hby 27 0 rfl ?_
    exact kt)
  obtain ⟨T341, X341, e341, st341⟩ := getF X339 hx hZ hown (host := "") (Or.inl (own_h hw 236 rfl)) Via.refl e339 Fc (g := (mkF m 28 #[vR q, vI 27, vI 16] [(.ref q), (.int 34), (.ref bv), (.ref q)])) rfl rfl (own_k hby 28 (.getfield 22) 3)
  have S342 : Ga T341 (mkF m 32 #[vR q, vI 27, vI 16] [(.int ((34 : Int32) <<< ((0 : Int32) &&& 31))), (.ref bv), (.ref q)]) := nx S340 fun t kt => st341 t (by
    show Sp p e below T341 (mkF m 31 #[vR q, vI 27, vI 16] [(.int 0), (.int 34), (.ref bv), (.ref q)]) _
    refine XS.ishl X341.here hx rfl (own_k hby 31 (.ishl) 1) rfl ?_
    exact kt)
  have q344 : ((34 : Int32) <<< ((0 : Int32) &&& 31)) = (34 : Int32) := own_shl0 _
  have S343 : Ga T341 (mkF m 32 #[vR q, vI 27, vI 16] [(.int 34), (.ref bv), (.ref q)]) := by have h := S342; rw [q344] at h; exact h
  clear S342
  obtain ⟨v345, T345, L345, X345, hQ345, st345⟩ := own_cS X341 hx hZ hw hown hml 298 299 300 149 rfl rfl rfl rfl (rm_cpb hw bv k vs h0 n0 Z0 Vb hvl) e341 (W := 1) (g := (mkF m 32 #[vR q, vI 27, vI 16] [(.int 34), (.ref bv), (.ref q)])) rfl (argsL := [(.ref bv), (.int 34)]) (rest := [(.ref q)]) pd___BI__B (own_k hby 32 (.invokestatic 108) 3)
  obtain ⟨b2, kb345, rfl, N345q, K345, szb345, E345, V345⟩ := hQ345
  have N345 := Fr.app N339 N345q
  have KK345 : Keep h0 T345.heap [q] := (Keep.refl h0 [q]).trans K345 all0
  have sz_b2 : h0.size ≤ b2 := Nat.le_trans (Keep.refl h0 [q]).1 szb345
  have f346 := (Fv.keep K345 nin0)
  have f347 := (EQ.keep K345)
  obtain ⟨T348, h348, X348, e348, W348, st348⟩ := putF X345 hx hZ hown (host := "") (Or.inl (own_h hw 234 rfl)) Via.refl rfl f346 f347 (Or.inl (own_h hw 235 rfl)) (own_h hw 221 rfl) (ty := (.array .byte)) (by decide) rfl rfl (g := (mkF m 35 #[vR q, vI 27, vI 16] [(.ref b2), (.ref q)])) rfl rfl (own_k hby 35 (.putfield 15) 3)
  have N348 := Fr.snoc X348 N345 g_q
  have K348 : Keep h0 h348 [q] := KK345.wr W348 (Or.inl (by simp))
  have Fw348 := f346.same W348
  have f349 := (f347.wr W348)
  have f350 := ((Fc.keep K345 nin0).other W348 (Or.inr (ns4 hw)))
  have f351 := ((Fn.keep K345 nin0).other W348 (Or.inr (ns6 hw)))
  have f352 := (E345.wr W348)
  have ne353 : q ≠ b2 := Nat.ne_of_lt (Nat.lt_of_lt_of_le (EQ.lt) szb345)
  have f354 := (V345.other W348 (Ne.symm ne353))
  have S355 : Ga T348 (mkF m 38 #[vR q, vI 27, vI 16] []) := nx S343 fun t kt => st345 t (st348 t kt)
  refine ⟨T348, _, none, _, _, _, X348, og S355, fun _ => rfl, by decide, by decide, ?_, fun fs hr => X348.returnOut hx hret (own_k hby 38 (.return_) 1) hr⟩
  show Q_ecg Z q vs h0 n0 _ T348.heap _
  rw [e348]
  exact ⟨b2, kb345, rfl, N348, K348, sz_b2, f349, Fw348, f350, f351, f352, f354⟩
abbrev R_asg : Room := { frames := 4, cells := 1, slots := 34, locals := 62 }
def Q_asg (Z : State) (q : Addr) (vs : List Value) (ws' : List Value) (h0 : Heap) (n0 : Nat) (v : Option Value) (h : Heap) (L : List Loc) : Prop := ∃ (b2 : Addr) (k2 : ClassId), v = some (.ref q) ∧ Fr n0 L ∧ Keep h0 h [q] ∧ h0.size ≤ b2 ∧ own_SB Z h q b2 k2 (34 : Int32) ((vs ++ List.replicate 18 (Value.int 0)).take 12 ++ ws' ++ (vs ++ List.replicate 18 (Value.int 0)).drop (12 + 15)) (27 : Int32)
theorem rm_asg {l : Launch} {Z : State} {a0 : Array Value} (hw : own_W a0 Z) (no : Nat) (de : Addr) (em : Addr) (el : Addr) (ey : Addr)(q : Addr) (bv : Addr) (k : ClassId) (vs : List Value)(a : Addr) (b : Addr) (ks : ClassId) (ws' : List Value) (h0 : Heap) (n0 : Nat) (Z0 : n0 ≤ h0.size) (SS : own_St Z de em el ey) (hno : no ≤ n0) (O0 : Old Z no h0) (HB : own_SB Z h0 q bv k (16 : Int32) vs (12 : Int32)) (HS : own_Str Z h0 a b ks (15 : Int32) ws') (g_q : n0 ≤ q) (hvl : vs.length = 16) (hwl : ws'.length = 15) : own_Met l y39 jdk_68_method_22_code 3 (some (.object "java/lang/AbstractStringBuilder")) R_asg Z h0 #[(.ref q), (.ref a)] (Q_asg Z q vs ws' h0 n0) := by
  refine own_body (plainFor_of_name pn_inf) fun p e s m below meth c s₁ hlk hret hnm hx hby hml hown hZ X0 e0 => ?_
  have N0 := Fr.nil n0
  obtain ⟨Ga, Sa, nx, og⟩ := own_ga (p := p) (e := e) (below := below) s₁ (eF_9 m q a)
  have S0 : Ga s₁ (mkF m 0 #[vR q, vR a, vU] []) := nx Sa fun t k => castTop (ef_9 m q a) k
  obtain ⟨⟨cz, S_cs, hcz⟩, -⟩ := id SS
  obtain ⟨EQ, Fv, Fc, Fn, Eb, Vb⟩ := HB
  obtain ⟨E, F, G, V⟩ := HS
  have S356 : Ga s₁ (mkF m 10 #[vR q, vR a, vU] [(.ref a)]) := nx S0 fun t kt => by
    refine xa X0.here hx hby 0 1 rfl ?_
    refine XS.ifnonnullYes X0.here hx rfl (pc0 := 1) (pc' := 9) rfl (own_k hby 1 (.ifnonnull 8) 3) rfl (by decide) (by decide) ?_
    refine xa X0.here hx hby 9 1 rfl ?_
    exact kt
  obtain ⟨v357, T357, L357, X357, hQ357, st357⟩ := own_cV1 X0 hx hZ hw hown hml 251 252 254 253 255 3 rfl rfl rfl rfl rfl rfl E (rm_len hw no de em el ey a b ks 15 ws' h0 n0 Z0 SS hno O0 ⟨E, F, G, V⟩) e0 (W := 0) (g := (mkF m 10 #[vR q, vR a, vU] [(.ref a)])) rfl (argsL := []) (rest := []) pd___I (own_k hby 10 (.invokevirtual 32) 3)
  obtain ⟨rfl, N357q, e357⟩ := hQ357
  have N357 := Fr.app N0 N357q
  have S358 : Ga T357 (mkF m 16 #[vR q, vR a, vI 15] [(.ref q), (.ref q)]) := nx S356 fun t kt => st357 t (by
    show Sp p e below T357 (mkF m 13 #[vR q, vR a, vU] [(.int 15)]) _
    refine XS.istoreN X357.here hx rfl (own_k hby 13 (.istore_n 2) 1) rfl (l' := #[vR q, vR a, vI 15]) rfl ?_
    refine xa X357.here hx hby 14 0 rfl ?_
    refine xa X357.here hx hby 15 0 rfl ?_
    exact kt)
  obtain ⟨T359, X359, e359, st359⟩ := getF X357 hx hZ hown (host := "") (Or.inl (own_h hw 261 rfl)) Via.refl e357 Fn (g := (mkF m 16 #[vR q, vR a, vI 15] [(.ref q), (.ref q)])) rfl rfl (own_k hby 16 (.getfield 79) 3)
  have S360 : Ga T359 (mkF m 21 #[vR q, vR a, vI 15] [(.int ((12 : Int32) + (15 : Int32))), (.ref q)]) := nx S358 fun t kt => st359 t (by
    show Sp p e below T359 (mkF m 19 #[vR q, vR a, vI 15] [(.int 12), (.ref q)]) _
    refine xi X359.here hx hby 19 2 rfl ?_
    refine XS.iadd X359.here hx rfl (own_k hby 20 (.iadd) 1) rfl ?_
    exact kt)
  have q362 : ((12 : Int32) + (15 : Int32)) = (27 : Int32) := by decide
  have S361 : Ga T359 (mkF m 21 #[vR q, vR a, vI 15] [(.int 27), (.ref q)]) := by have h := S360; rw [q362] at h; exact h
  clear S360
  obtain ⟨v363, T363, L363, X363, hQ363, st363⟩ := own_cP X359 hx hZ hw hown hml 263 264 266 265 267 230 rfl rfl rfl rfl rfl rfl EQ (rm_ecg hw q bv k vs h0 n0 Z0 ⟨EQ, Fv, Fc, Fn, Eb, Vb⟩ g_q hvl) e359 (W := 0) (g := (mkF m 21 #[vR q, vR a, vI 15] [(.int 27), (.ref q)])) rfl (argsL := [(.int 27)]) (rest := []) pd__I_V (own_k hby 21 (.invokevirtual 100) 3)
  obtain ⟨b2, kb363, rfl, N363q, K363, szb363, EQ363, Fv363, Fc363, Fn363, Eb363, Vb363⟩ := hQ363
  have N363 := Fr.app N357 N363q
  have KK363 : Keep h0 T363.heap [q] := (Keep.refl h0 [q]).trans K363 (allS (Or.inl (by simp)) all0)
  have sz_b2 : h0.size ≤ b2 := Nat.le_trans (Keep.refl h0 [q]).1 szb363
  have g_b2 : n0 ≤ b2 := Nat.le_trans Z0 szb363
  have S364 : Ga T363 (mkF m 26 #[vR q, vR a, vI 15] [(.ref q), (.ref q)]) := nx S361 fun t kt => st363 t (by
    show Sp p e below T363 (mkF m 24 #[vR q, vR a, vI 15] []) _
    refine xa X363.here hx hby 24 0 rfl ?_
    refine xa X363.here hx hby 25 0 rfl ?_
    exact kt)
  obtain ⟨T365, X365, e365, st365⟩ := getF X363 hx hZ hown (host := "") (Or.inl (own_h hw 261 rfl)) Via.refl rfl Fn363 (g := (mkF m 26 #[vR q, vR a, vI 15] [(.ref q), (.ref q)])) rfl rfl (own_k hby 26 (.getfield 79) 3)
  have S366 : Ga T365 (mkF m 30 #[vR q, vR a, vI 15] [(.ref a), (.int 12), (.ref q)]) := nx S364 fun t kt => st365 t (by
    show Sp p e below T365 (mkF m 29 #[vR q, vR a, vI 15] [(.int 12), (.ref q)]) _
    refine xa X365.here hx hby 29 1 rfl ?_
    exact kt)
  have f367 := (O0.keep K363 (allS (Nat.le_trans hno g_q) all0))
  have f368 := (E.keep K363)
  have ne369 : a ≠ q := Exa.ne E EQ (by decide)
  have f370 := (F.keep K363 (ninS ne369 nin0))
  have f371 := (G.keep K363 (ninS ne369 nin0))
  have ne372 : b ≠ q := Ne.symm (own_neStr EQ V (own_h hw 221 rfl))
  have f373 := (V.keep K363 (ninS ne372 nin0))
  have z374 := (Nat.le_trans Z0 K363.1)
  obtain ⟨v375, T375, L375, X375, hQ375, st375⟩ := own_cP X365 hx hZ hw hown hml 268 269 271 270 272 230 rfl rfl rfl rfl rfl rfl EQ363 (rm_psa hw no de em el ey q b2 kb363 34 (vs ++ List.replicate 18 (Value.int 0)) 12 a b ks 15 ws' T363.heap n0 z374 SS hno f367 ⟨EQ363, Fv363, Fc363, Fn363, Eb363, Vb363⟩ ⟨f368, f370, f371, f373⟩ g_b2 (by decide) (by decide) (by rw [List.length_append, hvl]; rfl) hwl) e365 (W := 0) (g := (mkF m 30 #[vR q, vR a, vI 15] [(.ref a), (.int 12), (.ref q)])) rfl (argsL := [(.int 12), (.ref a)]) (rest := []) pd__ILjava_lang_String__V (own_k hby 30 (.invokevirtual 208) 3)
  obtain ⟨rfl, N375q, K375, V375⟩ := hQ375
  have N375 := Fr.app N363 N375q
  have KK375 : Keep h0 T375.heap [q] := KK363.trans K375 (allS (Or.inr sz_b2) all0)
  have S376 : Ga T375 (mkF m 35 #[vR q, vR a, vI 15] [(.ref q), (.ref q)]) := nx S366 fun t kt => st375 t (by
    show Sp p e below T375 (mkF m 33 #[vR q, vR a, vI 15] []) _
    refine xa X375.here hx hby 33 0 rfl ?_
    refine XS.dup X375.here hx rfl (own_k hby 34 (.dup) 1) rfl rfl ?_
    exact kt)
  have ne377 : q ≠ b2 := Nat.ne_of_lt (Nat.lt_of_lt_of_le (EQ.lt) szb363)
  have f378 := (Fn363.keep K375 (ninS ne377 nin0))
  obtain ⟨T379, X379, e379, st379⟩ := getF X375 hx hZ hown (host := "") (Or.inl (own_h hw 261 rfl)) Via.refl rfl f378 (g := (mkF m 35 #[vR q, vR a, vI 15] [(.ref q), (.ref q)])) rfl rfl (own_k hby 35 (.getfield 79) 3)
  have S380 : Ga T379 (mkF m 40 #[vR q, vR a, vI 15] [(.int ((12 : Int32) + (15 : Int32))), (.ref q)]) := nx S376 fun t kt => st379 t (by
    show Sp p e below T379 (mkF m 38 #[vR q, vR a, vI 15] [(.int 12), (.ref q)]) _
    refine xi X379.here hx hby 38 2 rfl ?_
    refine XS.iadd X379.here hx rfl (own_k hby 39 (.iadd) 1) rfl ?_
    exact kt)
  have q382 : ((12 : Int32) + (15 : Int32)) = (27 : Int32) := by decide
  have S381 : Ga T379 (mkF m 40 #[vR q, vR a, vI 15] [(.int 27), (.ref q)]) := by have h := S380; rw [q382] at h; exact h
  clear S380
  have f383 := (EQ363.keep K375)
  obtain ⟨T384, h384, X384, e384, W384, st384⟩ := putF X379 hx hZ hown (host := "") (Or.inl (own_h hw 261 rfl)) Via.refl e379 f378 f383 (Or.inl (own_h hw 262 rfl)) (own_h hw 221 rfl) (ty := .int) (by decide) rfl rfl (g := (mkF m 40 #[vR q, vR a, vI 15] [(.int 27), (.ref q)])) rfl rfl (own_k hby 40 (.putfield 79) 3)
  have N384 := Fr.snoc X384 N375 g_q
  have K384 : Keep h0 h384 [q] := KK375.wr W384 (Or.inl (by simp))
  have Fw384 := f378.same W384
  have S385 : Ga T384 (mkF m 44 #[vR q, vR a, vI 15] [(.ref q)]) := nx S381 fun t kt => st384 t (by
    show Sp p e below T384 (mkF m 43 #[vR q, vR a, vI 15] []) _
    refine xa X384.here hx hby 43 0 rfl ?_
    exact kt)
  have f386 := (f383.wr W384)
  have f387 := ((Fv363.keep K375 (ninS ne377 nin0)).other W384 (Or.inr (ns2 hw)))
  have f388 := ((Fc363.keep K375 (ninS ne377 nin0)).other W384 (Or.inr (ns3 hw)))
  have f389 := ((Eb363.keep K375).wr W384)
  have f390 := (V375.other W384 (Ne.symm ne377))
  refine ⟨T384, _, some (.ref q), _, _, _, X384, og S385, fun h => (nomatch hret.symm.trans h), by decide, by decide, ?_, fun fs hr => retOut X384 hx hret rfl (Or.inr (Or.inr (Or.inr (Or.inr ⟨rfl, rfl, rfl⟩)))) (own_k hby 44 (.areturn) 1) hr⟩
  show Q_asg Z q vs ws' h0 n0 _ T384.heap _
  rw [e384]
  exact ⟨b2, kb363, rfl, N384, K384, sz_b2, f386, f387, f388, Fw384, f389, f390⟩
abbrev R_sbx : Room := { frames := 5, cells := 1, slots := 34, locals := 76 }
def Q_sbx (Z : State) (q : Addr) (vs : List Value) (ws' : List Value) (h0 : Heap) (n0 : Nat) (v : Option Value) (h : Heap) (L : List Loc) : Prop := ∃ (b2 : Addr) (k2 : ClassId), v = some (.ref q) ∧ Fr n0 L ∧ Keep h0 h [q] ∧ h0.size ≤ b2 ∧ own_SB Z h q b2 k2 (34 : Int32) ((vs ++ List.replicate 18 (Value.int 0)).take 12 ++ ws' ++ (vs ++ List.replicate 18 (Value.int 0)).drop (12 + 15)) (27 : Int32)
theorem rm_sbx {l : Launch} {Z : State} {a0 : Array Value} (hw : own_W a0 Z) (no : Nat) (de : Addr) (em : Addr) (el : Addr) (ey : Addr)(q : Addr) (bv : Addr) (k : ClassId) (vs : List Value)(a : Addr) (b : Addr) (ks : ClassId) (ws' : List Value) (h0 : Heap) (n0 : Nat) (Z0 : n0 ≤ h0.size) (SS : own_St Z de em el ey) (hno : no ≤ n0) (O0 : Old Z no h0) (HB : own_SB Z h0 q bv k (16 : Int32) vs (12 : Int32)) (HS : own_Str Z h0 a b ks (15 : Int32) ws') (g_q : n0 ≤ q) (hvl : vs.length = 16) (hwl : ws'.length = 15) : own_Met l y38 jdk_67_method_7_code 2 (some (.object "java/lang/StringBuilder")) R_sbx Z h0 #[(.ref q), (.ref a)] (Q_sbx Z q vs ws' h0 n0) := by
  refine own_body (plainFor_of_name pn_sba) fun p e s m below meth c s₁ hlk hret hnm hx hby hml hown hZ X0 e0 => ?_
  have N0 := Fr.nil n0
  obtain ⟨Ga, Sa, nx, og⟩ := own_ga (p := p) (e := e) (below := below) s₁ (eF_6 m q a)
  have S0 : Ga s₁ (mkF m 0 #[vR q, vR a] []) := nx Sa fun t k => castTop (ef_6 m q a) k
  obtain ⟨⟨cz, S_cs, hcz⟩, -⟩ := id SS
  obtain ⟨EQ, Fv, Fc, Fn, Eb, Vb⟩ := HB
  obtain ⟨E, F, G, V⟩ := HS
  have S391 : Ga s₁ (mkF m 2 #[vR q, vR a] [(.ref a), (.ref q)]) := nx S0 fun t kt => by
    refine xa X0.here hx hby 0 0 rfl ?_
    refine xa X0.here hx hby 1 1 rfl ?_
    exact kt
  obtain ⟨v392, T392, L392, X392, hQ392, st392⟩ := own_outV (superBack X0 hx hZ (y := y39) hown (own_h hw 246 rfl) (own_same (own_h hw 247 rfl) (own_nfS (args := a0) (own_h hw 407 rfl) rfl) (by decide)) (own_h hw 247 rfl) (own_h hw 248 rfl) (by decide) (backOf (W := 0) (rm_asg hw no de em el ey q bv k vs a b ks ws' h0 n0 Z0 SS hno O0 ⟨EQ, Fv, Fc, Fn, Eb, Vb⟩ ⟨E, F, G, V⟩ g_q hvl hwl) hZ (own_h hw 250 rfl) (own_h hw 230 rfl) (by decide) (by decide)) e0 (Ins.self EQ) (g := (mkF m 2 #[vR q, vR a] [(.ref a), (.ref q)])) rfl (by rw [hml]; rfl) (own_h hw 250 rfl) (a := q) (argsL := [(.ref a)]) (rest := []) (lenOf pd__Ljava_lang_String__Ljava_lang_AbstractStringBuilder_ rfl) rfl (own_w rfl) (own_k hby 2 (.invokespecial 29) 3) (fun _ _ => ⟨rfl, e0, (by decide : 0 + 1 ≤ _), (by decide : 0 + 34 ≤ _)⟩))
  obtain ⟨b2, kb392, rfl, N392q, K392, sz_b2, EQ392, Fv392, Fc392, Fn392, Eb392, Vb392⟩ := hQ392
  have N392 := Fr.app N0 N392q
  have KK392 : Keep h0 T392.heap [q] := (Keep.refl h0 [q]).trans K392 (allS (Or.inl (by simp)) all0)
  have S393 : Ga T392 (mkF m 7 #[vR q, vR a] [(.ref q)]) := nx S391 fun t kt => st392 t (by
    show Sp p e below T392 (mkF m 5 #[vR q, vR a] [(.ref q)]) _
    refine XS.pop X392.here hx rfl (own_k hby 5 (.pop) 1) rfl rfl ?_
    refine xa X392.here hx hby 6 0 rfl ?_
    exact kt)
  refine ⟨T392, _, some (.ref q), _, _, _, X392, og S393, fun h => (nomatch hret.symm.trans h), by decide, by decide, ?_, fun fs hr => retOut X392 hx hret rfl (Or.inr (Or.inr (Or.inr (Or.inr ⟨rfl, rfl, rfl⟩)))) (own_k hby 7 (.areturn) 1) hr⟩
  show Q_sbx Z q vs ws' h0 n0 _ T392.heap _
  exact ⟨b2, kb392, rfl, N392, KK392, sz_b2, EQ392, Fv392, Fc392, Fn392, Eb392, Vb392⟩
abbrev R_abl : Room := { frames := 2, cells := 0, slots := 0, locals := 24 }
theorem pn_abl : plainName "java/util/AbstractList" = true := by first | (simp [plainName, overriddenIn]; done) | decide +kernel
def Q_abl (Z : State) (x : Addr) (h0 : Heap) (n0 : Nat) (v : Option Value) (h : Heap) (L : List Loc) : Prop := v = none ∧ Fr n0 L ∧ Keep h0 h [x] ∧ own_AL Z h x .null (0 : Int32) (0 : Int32)
theorem rm_abl {l : Launch} {Z : State} {a0 : Array Value} (hw : own_W a0 Z) (x : Addr) (h0 : Heap) (n0 : Nat) (Z0 : n0 ≤ h0.size)  (HA : own_AL Z h0 x .null (0 : Int32) (0 : Int32)) (g_x : n0 ≤ x) : own_Met l y8 jdk_39_method_1_code 1 none R_abl Z h0 #[(.ref x)] (Q_abl Z x h0 n0) := by
  refine own_body (plainFor_of_name pn_abl) fun p e s m below meth c s₁ hlk hret hnm hx hby hml hown hZ X0 e0 => ?_
  have N0 := Fr.nil n0
  obtain ⟨Ga, Sa, nx, og⟩ := own_ga (p := p) (e := e) (below := below) s₁ (eF_2 m x)
  have S0 : Ga s₁ (mkF m 0 #[vR x] []) := nx Sa fun t k => castTop (ef_2 m x) k
  obtain ⟨Ex, Fm, Fe, Fs⟩ := HA
  have S394 : Ga s₁ (mkF m 1 #[vR x] [(.ref x)]) := nx S0 fun t kt => by
    refine xa X0.here hx hby 0 0 rfl ?_
    exact kt
  obtain ⟨v395, T395, L395, X395, hQ395, st395⟩ := own_cI X0 hx hZ hw hown hml 43 44 48 47 rfl rfl rfl rfl rfl (a := x) (rm_abi hw x h0 n0 Z0 ) e0 (W := 0) (g := (mkF m 1 #[vR x] [(.ref x)])) rfl (argsL := []) (rest := []) pd___V (own_k hby 1 (.invokespecial 1) 3)
  obtain ⟨rfl, N395q, e395⟩ := hQ395
  have N395 := Fr.app N0 N395q
  have S396 : Ga T395 (mkF m 6 #[vR x] [(.int 0), (.ref x)]) := nx S394 fun t kt => st395 t (by
    show Sp p e below T395 (mkF m 4 #[vR x] []) _
    refine xa X395.here hx hby 4 0 rfl ?_
    refine xc X395.here hx hby 5 0 ?_
    exact kt)
  obtain ⟨T397, h397, X397, e397, W397, st397⟩ := putF X395 hx hZ hown (host := "") (Or.inl (own_h hw 50 rfl)) Via.refl e395 Fm Ex (Or.inl (own_h hw 51 rfl)) (own_h hw 32 rfl) (ty := .int) (by decide) rfl rfl (g := (mkF m 6 #[vR x] [(.int 0), (.ref x)])) rfl rfl (own_k hby 6 (.putfield 7) 3)
  have N397 := Fr.snoc X397 N395 g_x
  have K397 : Keep h0 h397 [x] := (Keep.refl h0 [x]).wr W397 (Or.inl (by simp))
  have Fw397 := Fm.same W397
  have f398 := (Ex.wr W397)
  have f399 := (Fe.other W397 (Or.inr (ns8 hw)))
  have f400 := (Fs.other W397 (Or.inr (ns9 hw)))
  have S401 : Ga T397 (mkF m 9 #[vR x] []) := nx S396 fun t kt => st397 t kt
  refine ⟨T397, _, none, _, _, _, X397, og S401, fun _ => rfl, by decide, by decide, ?_, fun fs hr => X397.returnOut hx hret (own_k hby 9 (.return_) 1) hr⟩
  show Q_abl Z x h0 n0 _ T397.heap _
  rw [e397]
  exact ⟨rfl, N397, K397, ⟨f398, Fw397, f399, f400⟩⟩
abbrev R_ali : Room := { frames := 3, cells := 0, slots := 0, locals := 36 }
theorem pn_ali : plainName "java/util/ArrayList" = true := by first | (simp [plainName, overriddenIn]; done) | decide +kernel
def Q_ali (Z : State) (de : Addr) (x : Addr) (h0 : Heap) (n0 : Nat) (v : Option Value) (h : Heap) (L : List Loc) : Prop := v = none ∧ Fr n0 L ∧ Keep h0 h [x] ∧ own_AL Z h x (.ref de) (0 : Int32) (0 : Int32)
theorem rm_ali {l : Launch} {Z : State} {a0 : Array Value} (hw : own_W a0 Z) (no : Nat) (de : Addr) (em : Addr) (el : Addr) (ey : Addr) (x : Addr) (h0 : Heap) (n0 : Nat) (Z0 : n0 ≤ h0.size) (SS : own_St Z de em el ey) (hno : no ≤ n0) (O0 : Old Z no h0) (HA : own_AL Z h0 x .null (0 : Int32) (0 : Int32)) (g_x : n0 ≤ x) : own_Met l y7 jdk_38_method_2_code 1 none R_ali Z h0 #[(.ref x)] (Q_ali Z de x h0 n0) := by
  refine own_body (plainFor_of_name pn_ali) fun p e s m below meth c s₁ hlk hret hnm hx hby hml hown hZ X0 e0 => ?_
  have N0 := Fr.nil n0
  obtain ⟨Ga, Sa, nx, og⟩ := own_ga (p := p) (e := e) (below := below) s₁ (eF_2 m x)
  have S0 : Ga s₁ (mkF m 0 #[vR x] []) := nx Sa fun t k => castTop (ef_2 m x) k
  obtain ⟨⟨cz, S_cs, hcz⟩, ⟨kde, S_de, E_de, V_de⟩, ⟨kel, S_em, E_em, F_em, V_el⟩, S_ey, E_ey⟩ := id SS
  obtain ⟨Ex, Fm, Fe, Fs⟩ := HA
  have S402 : Ga s₁ (mkF m 1 #[vR x] [(.ref x)]) := nx S0 fun t kt => by
    refine xa X0.here hx hby 0 0 rfl ?_
    exact kt
  obtain ⟨v403, T403, L403, X403, hQ403, st403⟩ := own_cI X0 hx hZ hw hown hml 37 38 42 41 rfl rfl rfl rfl rfl (a := x) (rm_abl hw x h0 n0 Z0 ⟨Ex, Fm, Fe, Fs⟩ g_x) e0 (W := 0) (g := (mkF m 1 #[vR x] [(.ref x)])) rfl (argsL := []) (rest := []) pd___V (own_k hby 1 (.invokespecial 1) 3)
  obtain ⟨rfl, N403q, K403, ⟨Ex403, Fm403, Fe403, Fs403⟩⟩ := hQ403
  have N403 := Fr.app N0 N403q
  have KK403 : Keep h0 T403.heap [x] := (Keep.refl h0 [x]).trans K403 (allS (Or.inl (by simp)) all0)
  have S404 : Ga T403 (mkF m 5 #[vR x] [(.ref x)]) := nx S402 fun t kt => st403 t (by
    show Sp p e below T403 (mkF m 4 #[vR x] []) _
    refine xa X403.here hx hby 4 0 rfl ?_
    exact kt)
  have f405 := (O0.keep K403 (allS (Nat.le_trans hno g_x) all0))
  obtain ⟨T406, X406, e406, st406⟩ := getS2 X403 hx hZ hown (host := "") (Or.inl (own_h hw 52 rfl)) Via.refl rfl (S_de.ext f405.2) (g := (mkF m 5 #[vR x] [(.ref x)])) rfl (own_k hby 5 (.getstatic 39) 3)
  obtain ⟨T407, h407, X407, e407, W407, st407⟩ := putF X406 hx hZ hown (host := "") (Or.inl (own_h hw 53 rfl)) Via.refl e406 Fe403 Ex403 (Or.inl (own_h hw 54 rfl)) (own_h hw 32 rfl) (ty := (.array (.object "java/lang/Object"))) (by decide) rfl rfl (g := (mkF m 8 #[vR x] [(.ref de), (.ref x)])) rfl rfl (own_k hby 8 (.putfield 9) 3)
  have N407 := Fr.snoc X407 N403 g_x
  have K407 : Keep h0 h407 [x] := KK403.wr W407 (Or.inl (by simp))
  have Fw407 := Fe403.same W407
  have f408 := (Ex403.wr W407)
  have f409 := (Fm403.other W407 (Or.inr (ns10 hw)))
  have f410 := (Fs403.other W407 (Or.inr (ns11 hw)))
  have S411 : Ga T407 (mkF m 11 #[vR x] []) := nx S404 fun t kt => st406 t (st407 t kt)
  refine ⟨T407, _, none, _, _, _, X407, og S411, fun _ => rfl, by decide, by decide, ?_, fun fs hr => X407.returnOut hx hret (own_k hby 11 (.return_) 1) hr⟩
  show Q_ali Z de x h0 n0 _ T407.heap _
  rw [e407]
  exact ⟨rfl, N407, K407, ⟨f408, f409, Fw407, f410⟩⟩
abbrev R_gri : Room := { frames := 1, cells := 1, slots := 10, locals := 14 }
abbrev eF_16 (m : MethodId) (x0 : Addr) (x1 : Int32) : JFrame := entryFrame m #[(.ref x0), (.int x1)] 4
theorem ef_16 (m : MethodId) (x0 : Addr) (x1 : Int32) : entryFrame m #[(.ref x0), (.int x1)] 4 = mkF m 0 #[.val (.ref x0), .val (.int x1), .unset, .unset] [] := by first | (simp [entryFrame, mkF, argsToLocals, Value.category]; done) | rfl
def Q_gri (Z : State) (x : Addr) (mc : Int32) (h0 : Heap) (n0 : Nat) (v : Option Value) (h : Heap) (L : List Loc) : Prop := ∃ (ed : Addr) (ke : ClassId), v = some (.ref ed) ∧ Fr n0 L ∧ Keep h0 h [x] ∧ h0.size ≤ ed ∧ own_AL Z h x (.ref ed) (0 : Int32) mc ∧ own_Ed Z h ed ke [.null, .null, .null, .null, .null, .null, .null, .null, .null, .null]
theorem rm_gri {l : Launch} {Z : State} {a0 : Array Value} (hw : own_W a0 Z) (no : Nat) (de : Addr) (em : Addr) (el : Addr) (ey : Addr)(x : Addr) (mc : Int32) (h0 : Heap) (n0 : Nat) (Z0 : n0 ≤ h0.size) (SS : own_St Z de em el ey) (hno : no ≤ n0) (O0 : Old Z no h0) (HA : own_AL Z h0 x (.ref de) (0 : Int32) mc) (g_x : n0 ≤ x) : own_Met l y17 jdk_38_method_6_code 4 (some (.array (.object "java/lang/Object"))) R_gri Z h0 #[(.ref x), (.int 1)] (Q_gri Z x mc h0 n0) := by
  refine own_body (plainFor_of_name pn_ali) fun p e s m below meth c s₁ hlk hret hnm hx hby hml hown hZ X0 e0 => ?_
  have N0 := Fr.nil n0
  obtain ⟨Ga, Sa, nx, og⟩ := own_ga (p := p) (e := e) (below := below) s₁ (eF_16 m x (1 : Int32))
  have S0 : Ga s₁ (mkF m 0 #[vR x, vI 1, vU, vU] []) := nx Sa fun t k => castTop (ef_16 m x (1 : Int32)) k
  obtain ⟨⟨cz, S_cs, hcz⟩, ⟨kde, S_de, E_de, V_de⟩, ⟨kel, S_em, E_em, F_em, V_el⟩, S_ey, E_ey⟩ := id SS
  obtain ⟨Ex, Fm, Fe, Fs⟩ := HA
  have S412 : Ga s₁ (mkF m 1 #[vR x, vI 1, vU, vU] [(.ref x)]) := nx S0 fun t kt => by
    refine xa X0.here hx hby 0 0 rfl ?_
    exact kt
  obtain ⟨T413, X413, e413, st413⟩ := getF X0 hx hZ hown (host := "") (Or.inl (own_h hw 53 rfl)) Via.refl e0 Fe (g := (mkF m 1 #[vR x, vI 1, vU, vU] [(.ref x)])) rfl rfl (own_k hby 1 (.getfield 9) 3)
  obtain ⟨co414, Ao414, qo414, So414, No414, Ho414, Go414⟩ := id (V_de.ext O0.2)
  have S415 : Ga T413 (mkF m 11 #[vR x, vI 1, vI 0, vU] [(.ref x)]) := nx S412 fun t kt => st413 t (by
    show Sp p e below T413 (mkF m 4 #[vR x, vI 1, vU, vU] [(.ref de)]) _
    refine X413.arraylength hx (by rw [e413]; exact Ao414.1) (State.isArrayOf_alike hZ.alike Ao414.2.1) (g := (mkF m 4 #[vR x, vI 1, vU, vU] [(.ref de)])) rfl rfl (own_k hby 4 (.arraylength) 1) _ ?_
    rw [len_of So414 No414]
    show Sp p e below T413 (mkF m 5 #[vR x, vI 1, vU, vU] [(.int 0)]) _
    refine XS.istoreN X413.here hx rfl (own_k hby 5 (.istore_n 2) 1) rfl (l' := #[vR x, vI 1, vI 0, vU]) rfl ?_
    refine xi X413.here hx hby 6 2 rfl ?_
    refine XS.ifNo X413.here hx rfl (own_k hby 7 (.ifCond .gt 13) 3) rfl ((if0 _ _).trans (flt (show ¬ ((0 : Int32) < (0 : Int32)) from (by decide))).2.2.1) ?_
    show Sp p e below T413 (mkF m 10 #[vR x, vI 1, vI 0, vU] []) _
    refine xa X413.here hx hby 10 0 rfl ?_
    exact kt)
  obtain ⟨T416, X416, e416, st416⟩ := getF X413 hx hZ hown (host := "") (Or.inl (own_h hw 53 rfl)) Via.refl e413 Fe (g := (mkF m 11 #[vR x, vI 1, vI 0, vU] [(.ref x)])) rfl rfl (own_k hby 11 (.getfield 9) 3)
  obtain ⟨T417, X417, e417, st417⟩ := getS2 X416 hx hZ hown (host := "") (Or.inl (own_h hw 52 rfl)) Via.refl e416 (S_de.ext O0.2) (g := (mkF m 14 #[vR x, vI 1, vI 0, vU] [(.ref de)])) rfl (own_k hby 14 (.getstatic 39) 3)
  have S418 : Ga T417 (mkF m 49 #[vR x, vI 1, vI 0, vU] [(.int 1), (.int 10), (.ref x)]) := nx S415 fun t kt => st416 t (st417 t (by
    show Sp p e below T417 (mkF m 17 #[vR x, vI 1, vI 0, vU] [(.ref de), (.ref de)]) _
    refine Jvm.RoadKit.acmp (g := (mkF m 17 #[vR x, vI 1, vI 0, vU] [(.ref de), (.ref de)])) X417 hx rfl rfl rfl (pc0 := 17) (pc' := 45) (same := true) rfl (own_k hby 17 (.if_acmp .eq 28) 3) rfl (decide_eq_true rfl) (by decide) (by decide) ?_
    refine xa X417.here hx hby 45 0 rfl ?_
    refine xb X417.here hx hby 46 10 ?_
    refine xi X417.here hx hby 48 1 rfl ?_
    show Sp p e below T417 (mkF m 49 #[vR x, vI 1, vI 0, vU] [(.int 1), (.int 10), (.ref x)]) _
    exact kt))
  obtain ⟨v419, T419, L419, X419, hQ419, st419⟩ := own_cS X417 hx hZ hw hown hml 93 94 96 95 rfl rfl rfl rfl (rm_mxl hw 10 1 h0 n0 Z0 (by decide)) e417 (W := 1) (g := (mkF m 49 #[vR x, vI 1, vI 0, vU] [(.int 1), (.int 10), (.ref x)])) rfl (argsL := [(.int 10), (.int 1)]) (rest := [(.ref x)]) pd__II_I (own_k hby 49 (.invokestatic 79) 3)
  obtain ⟨rfl, N419q, e419⟩ := hQ419
  have N419 := Fr.app N0 N419q
  obtain ⟨T420, h420, k420, X420, e420, E420, A420, Ex420, O420, st420⟩ := newRE X419 hx hZ hown (own_h hw 97 rfl) (own_h hw 98 rfl) e419 (g := (mkF m 52 #[vR x, vI 1, vI 0, vU] [(.int 10), (.ref x)])) rfl (own_k hby 52 (.anewarray 7) 3) rfl (by decide) (cap := 10) (by decide) (by decide) (by decide) (by decide) (ad := "[Ljava/lang/Object;") rfl
  obtain ⟨ed, g420⟩ : ∃ z, z = h0.size := ⟨_, rfl⟩
  rw [← g420] at A420 Ex420 st420
  have ne421 : x ≠ ed := by rw [g420]; exact Nat.ne_of_lt Ex.lt
  have g_ed : n0 ≤ ed := Nat.le_trans Z0 (Nat.le_of_eq g420.symm)
  have sz_ed : h0.size ≤ ed := Nat.le_trans (Keep.refl h0 [x]).1 (Nat.le_of_eq g420.symm)
  have K420 : Keep h0 h420 [x] := (Keep.refl h0 [x]).ext E420
  have V420 : Arv Z h420 ed k420 (.object "java/lang/Object") (10 : Int32) [.null, .null, .null, .null, .null, .null, .null, .null, .null, .null] .null := (Arv.new A420 (by decide)).pad (pad_rep [] _ 10)
  have S422 : Ga T420 (mkF m 56 #[vR x, vI 1, vI 0, vU] [(.ref ed), (.ref x), (.ref ed)]) := nx S418 fun t kt => st419 t (st420 t (by
    show Sp p e below T420 (mkF m 55 #[vR x, vI 1, vI 0, vU] [(.ref ed), (.ref x)]) _
    refine XS.dupX1 X420.here hx rfl (own_k hby 55 (.dup_x1) 1) rfl rfl rfl ?_
    exact kt))
  have f423 := (Fe.ext E420)
  have f424 := (Ex.ext E420)
  obtain ⟨T425, h425, X425, e425, W425, st425⟩ := putF X420 hx hZ hown (host := "") (Or.inl (own_h hw 53 rfl)) Via.refl e420 f423 f424 (Or.inl (own_h hw 54 rfl)) (own_h hw 32 rfl) (ty := (.array (.object "java/lang/Object"))) (by decide) rfl rfl (g := (mkF m 56 #[vR x, vI 1, vI 0, vU] [(.ref ed), (.ref x), (.ref ed)])) rfl rfl (own_k hby 56 (.putfield 9) 3)
  have N425 := Fr.snoc X425 N419 g_x
  have K425 : Keep h0 h425 [x] := K420.wr W425 (Or.inl (by simp))
  have Fw425 := f423.same W425
  have f426 := (f424.wr W425)
  have f427 := ((Fm.ext E420).other W425 (Or.inr (ns10 hw)))
  have f428 := ((Fs.ext E420).other W425 (Or.inr (ns11 hw)))
  have f429 := (Ex420.wr W425)
  have f430 := (V420.other W425 (Ne.symm ne421))
  have S431 : Ga T425 (mkF m 59 #[vR x, vI 1, vI 0, vU] [(.ref ed)]) := nx S422 fun t kt => st425 t kt
  refine ⟨T425, _, some (.ref ed), _, _, _, X425, og S431, fun h => (nomatch hret.symm.trans h), by decide, by decide, ?_, fun fs hr => retOut X425 hx hret rfl (Or.inr (Or.inr (Or.inr (Or.inr ⟨rfl, rfl, rfl⟩)))) (own_k hby 59 (.areturn) 1) hr⟩
  show Q_gri Z x mc h0 n0 _ T425.heap _
  rw [e425]
  exact ⟨ed, k420, rfl, N425, K425, sz_ed, ⟨f426, f427, Fw425, f428⟩, ⟨f429, f430, O420⟩⟩
abbrev R_gr0 : Room := { frames := 2, cells := 1, slots := 10, locals := 29 }
def Q_gr0 (Z : State) (x : Addr) (mc : Int32) (h0 : Heap) (n0 : Nat) (v : Option Value) (h : Heap) (L : List Loc) : Prop := ∃ (ed : Addr) (ke : ClassId), v = some (.ref ed) ∧ Fr n0 L ∧ Keep h0 h [x] ∧ h0.size ≤ ed ∧ own_AL Z h x (.ref ed) (0 : Int32) mc ∧ own_Ed Z h ed ke [.null, .null, .null, .null, .null, .null, .null, .null, .null, .null]
theorem rm_gr0 {l : Launch} {Z : State} {a0 : Array Value} (hw : own_W a0 Z) (no : Nat) (de : Addr) (em : Addr) (el : Addr) (ey : Addr)(x : Addr) (mc : Int32) (h0 : Heap) (n0 : Nat) (Z0 : n0 ≤ h0.size) (SS : own_St Z de em el ey) (hno : no ≤ n0) (O0 : Old Z no h0) (HA : own_AL Z h0 x (.ref de) (0 : Int32) mc) (g_x : n0 ≤ x) : own_Met l y16 jdk_38_method_7_code 1 (some (.array (.object "java/lang/Object"))) R_gr0 Z h0 #[(.ref x)] (Q_gr0 Z x mc h0 n0) := by
  refine own_body (plainFor_of_name pn_ali) fun p e s m below meth c s₁ hlk hret hnm hx hby hml hown hZ X0 e0 => ?_
  have N0 := Fr.nil n0
  obtain ⟨Ga, Sa, nx, og⟩ := own_ga (p := p) (e := e) (below := below) s₁ (eF_2 m x)
  have S0 : Ga s₁ (mkF m 0 #[vR x] []) := nx Sa fun t k => castTop (ef_2 m x) k
  obtain ⟨⟨cz, S_cs, hcz⟩, ⟨kde, S_de, E_de, V_de⟩, ⟨kel, S_em, E_em, F_em, V_el⟩, S_ey, E_ey⟩ := id SS
  obtain ⟨Ex, Fm, Fe, Fs⟩ := HA
  have S432 : Ga s₁ (mkF m 2 #[vR x] [(.ref x), (.ref x)]) := nx S0 fun t kt => by
    refine xa X0.here hx hby 0 0 rfl ?_
    refine xa X0.here hx hby 1 0 rfl ?_
    exact kt
  obtain ⟨T433, X433, e433, st433⟩ := getF X0 hx hZ hown (host := "") (Or.inl (own_h hw 76 rfl)) Via.refl e0 Fs (g := (mkF m 2 #[vR x] [(.ref x), (.ref x)])) rfl rfl (own_k hby 2 (.getfield 48) 3)
  have S434 : Ga T433 (mkF m 7 #[vR x] [(.int ((0 : Int32) + (1 : Int32))), (.ref x)]) := nx S432 fun t kt => st433 t (by
    show Sp p e below T433 (mkF m 5 #[vR x] [(.int 0), (.ref x)]) _
    refine xc X433.here hx hby 5 1 ?_
    refine XS.iadd X433.here hx rfl (own_k hby 6 (.iadd) 1) rfl ?_
    exact kt)
  have q436 : ((0 : Int32) + (1 : Int32)) = (1 : Int32) := by decide
  have S435 : Ga T433 (mkF m 7 #[vR x] [(.int 1), (.ref x)]) := by have h := S434; rw [q436] at h; exact h
  clear S434
  obtain ⟨v437, T437, L437, X437, hQ437, st437⟩ := own_cP X433 hx hZ hw hown hml 88 89 91 90 92 33 rfl rfl rfl rfl rfl rfl Ex (rm_gri hw no de em el ey x mc h0 n0 Z0 SS hno O0 ⟨Ex, Fm, Fe, Fs⟩ g_x) e433 (W := 0) (g := (mkF m 7 #[vR x] [(.int 1), (.ref x)])) rfl (argsL := [(.int 1)]) (rest := []) pd__I__Ljava_lang_Object_ (own_k hby 7 (.invokevirtual 69) 3)
  obtain ⟨ed, ke437, rfl, N437q, K437, sze437, ⟨Ex437, Fm437, Fe437, Fs437⟩, ⟨Ee437, Ve437, Ov437⟩⟩ := hQ437
  have N437 := Fr.app N0 N437q
  have KK437 : Keep h0 T437.heap [x] := (Keep.refl h0 [x]).trans K437 (allS (Or.inl (by simp)) all0)
  have sz_ed : h0.size ≤ ed := Nat.le_trans (Keep.refl h0 [x]).1 sze437
  have g_ed : n0 ≤ ed := Nat.le_trans Z0 sze437
  have S438 : Ga T437 (mkF m 10 #[vR x] [(.ref ed)]) := nx S435 fun t kt => st437 t kt
  refine ⟨T437, _, some (.ref ed), _, _, _, X437, og S438, fun h => (nomatch hret.symm.trans h), by decide, by decide, ?_, fun fs hr => retOut X437 hx hret rfl (Or.inr (Or.inr (Or.inr (Or.inr ⟨rfl, rfl, rfl⟩)))) (own_k hby 10 (.areturn) 1) hr⟩
  show Q_gr0 Z x mc h0 n0 _ T437.heap _
  exact ⟨ed, ke437, rfl, N437, KK437, sz_ed, ⟨Ex437, Fm437, Fe437, Fs437⟩, ⟨Ee437, Ve437, Ov437⟩⟩
abbrev R_ad3 : Room := { frames := 3, cells := 1, slots := 10, locals := 41 }
abbrev eF_17 (m : MethodId) (x0 : Addr) (x1 : Addr) (x2 : Addr) (x3 : Int32) : JFrame := entryFrame m #[(.ref x0), (.ref x1), (.ref x2), (.int x3)] 4
theorem ef_17 (m : MethodId) (x0 : Addr) (x1 : Addr) (x2 : Addr) (x3 : Int32) : entryFrame m #[(.ref x0), (.ref x1), (.ref x2), (.int x3)] 4 = mkF m 0 #[.val (.ref x0), .val (.ref x1), .val (.ref x2), .val (.int x3)] [] := by first | (simp [entryFrame, mkF, argsToLocals, Value.category]; done) | rfl
def Q_ad3 (Z : State) (x : Addr) (a : Addr) (mc : Int32) (h0 : Heap) (n0 : Nat) (v : Option Value) (h : Heap) (L : List Loc) : Prop := ∃ (ed : Addr) (ke : ClassId), v = none ∧ Fr n0 L ∧ Keep h0 h [x] ∧ h0.size ≤ ed ∧ own_AL Z h x (.ref ed) (1 : Int32) mc ∧ own_Ed Z h ed ke [(.ref a), .null, .null, .null, .null, .null, .null, .null, .null, .null]
theorem rm_ad3 {l : Launch} {Z : State} {a0 : Array Value} (hw : own_W a0 Z) (no : Nat) (de : Addr) (em : Addr) (el : Addr) (ey : Addr)(x : Addr) (a : Addr) (mc : Int32) (h0 : Heap) (n0 : Nat) (Z0 : n0 ≤ h0.size) (SS : own_St Z de em el ey) (hno : no ≤ n0) (O0 : Old Z no h0) (HA : own_AL Z h0 x (.ref de) (0 : Int32) mc) (g_x : n0 ≤ x) (E : Exa Z h0 a "java/lang/String") : own_Met l y15 jdk_38_method_24_code 4 none R_ad3 Z h0 #[(.ref x), (.ref a), (.ref de), (.int 0)] (Q_ad3 Z x a mc h0 n0) := by
  refine own_body (plainFor_of_name pn_ali) fun p e s m below meth c s₁ hlk hret hnm hx hby hml hown hZ X0 e0 => ?_
  have N0 := Fr.nil n0
  obtain ⟨Ga, Sa, nx, og⟩ := own_ga (p := p) (e := e) (below := below) s₁ (eF_17 m x a de (0 : Int32))
  have S0 : Ga s₁ (mkF m 0 #[vR x, vR a, vR de, vI 0] []) := nx Sa fun t k => castTop (ef_17 m x a de (0 : Int32)) k
  obtain ⟨⟨cz, S_cs, hcz⟩, ⟨kde, S_de, E_de, V_de⟩, ⟨kel, S_em, E_em, F_em, V_el⟩, S_ey, E_ey⟩ := id SS
  obtain ⟨Ex, Fm, Fe, Fs⟩ := HA
  have S439 : Ga s₁ (mkF m 2 #[vR x, vR a, vR de, vI 0] [(.ref de), (.int 0)]) := nx S0 fun t kt => by
    refine xi X0.here hx hby 0 3 rfl ?_
    refine xa X0.here hx hby 1 2 rfl ?_
    exact kt
  obtain ⟨co440, Ao440, qo440, So440, No440, Ho440, Go440⟩ := id (V_de.ext O0.2)
  have S441 : Ga s₁ (mkF m 7 #[vR x, vR a, vR de, vI 0] [(.ref x)]) := nx S439 fun t kt => by
    refine X0.arraylength hx (by rw [e0]; exact Ao440.1) (State.isArrayOf_alike hZ.alike Ao440.2.1) (g := (mkF m 2 #[vR x, vR a, vR de, vI 0] [(.ref de), (.int 0)])) rfl rfl (own_k hby 2 (.arraylength) 1) _ ?_
    rw [len_of So440 No440]
    show Sp p e below s₁ (mkF m 3 #[vR x, vR a, vR de, vI 0] [(.int 0), (.int 0)]) _
    refine XS.icmpNo X0.here hx rfl (own_k hby 3 (.if_icmp .ne 8) 3) rfl (teq (show (0 : Int32) = (0 : Int32) from (by decide))).2 ?_
    refine xa X0.here hx hby 6 0 rfl ?_
    exact kt
  obtain ⟨v442, T442, L442, X442, hQ442, st442⟩ := own_cP X0 hx hZ hw hown hml 83 84 86 85 87 33 rfl rfl rfl rfl rfl rfl Ex (rm_gr0 hw no de em el ey x mc h0 n0 Z0 SS hno O0 ⟨Ex, Fm, Fe, Fs⟩ g_x) e0 (W := 0) (g := (mkF m 7 #[vR x, vR a, vR de, vI 0] [(.ref x)])) rfl (argsL := []) (rest := []) pd____Ljava_lang_Object_ (own_k hby 7 (.invokevirtual 129) 3)
  obtain ⟨ed, ke442, rfl, N442q, K442, sze442, ⟨Ex442, Fm442, Fe442, Fs442⟩, ⟨Ee442, Ve442, Ov442⟩⟩ := hQ442
  have N442 := Fr.app N0 N442q
  have KK442 : Keep h0 T442.heap [x] := (Keep.refl h0 [x]).trans K442 (allS (Or.inl (by simp)) all0)
  have sz_ed : h0.size ≤ ed := Nat.le_trans (Keep.refl h0 [x]).1 sze442
  have g_ed : n0 ≤ ed := Nat.le_trans Z0 sze442
  have S443 : Ga T442 (mkF m 14 #[vR x, vR a, vR ed, vI 0] [(.ref a), (.int 0), (.ref ed)]) := nx S441 fun t kt => st442 t (by
    show Sp p e below T442 (mkF m 10 #[vR x, vR a, vR de, vI 0] [(.ref ed)]) _
    refine XS.astoreN X442.here hx rfl (own_k hby 10 (.astore_n 2) 1) rfl rfl (l' := #[vR x, vR a, vR ed, vI 0]) rfl ?_
    refine xa X442.here hx hby 11 2 rfl ?_
    refine xi X442.here hx hby 12 3 rfl ?_
    refine xa X442.here hx hby 13 1 rfl ?_
    show Sp p e below T442 (mkF m 14 #[vR x, vR a, vR ed, vI 0] [(.ref a), (.int 0), (.ref ed)]) _
    exact kt)
  obtain ⟨co444, Ao444, qo444, So444, No444, Ho444, Go444⟩ := id Ve442
  have hino444 : ¬ ((0 : Int32) < 0 ∨ co444.slots.size ≤ ((0 : Int32)).toNatClampNeg) := inb_of So444 ⟨by decide, by decide⟩
  have f445 := (E.keep K442)
  obtain ⟨T446, h446, X446, e446, W446, st446⟩ := stR X442 hx hZ rfl Ao444 (j := (0 : Int32)) hino444 rfl (Sto.ofV Ao444 qo444 Ov442 (Ins.of_exa f445 (own_h hw 99 rfl))) (g := (mkF m 14 #[vR x, vR a, vR ed, vI 0] [(.ref a), (.int 0), (.ref ed)])) rfl rfl (own_k hby 14 (.aastore) 1)
  have N446 := Fr.snoc X446 N442 g_ed
  have K446 : Keep h0 h446 [x] := KK442.wr W446 (Or.inr sz_ed)
  have V446 : Arv Z h446 ed ke442 (.object "java/lang/Object") (10 : Int32) [(.ref a), .null, .null, .null, .null, .null, .null, .null, .null, .null] .null := Arv.set Ao444 qo444 So444 No444 Ho444 Go444 rfl W446 0 rfl (Nat.le_of_ble_eq_true rfl)
  have S447 : Ga T446 (mkF m 19 #[vR x, vR a, vR ed, vI 0] [(.int ((0 : Int32) + (1 : Int32))), (.ref x)]) := nx S443 fun t kt => st446 t (by
    show Sp p e below T446 (mkF m 15 #[vR x, vR a, vR ed, vI 0] []) _
    refine xa X446.here hx hby 15 0 rfl ?_
    refine xi X446.here hx hby 16 3 rfl ?_
    refine xc X446.here hx hby 17 1 ?_
    refine XS.iadd X446.here hx rfl (own_k hby 18 (.iadd) 1) rfl ?_
    show Sp p e below T446 (mkF m 19 #[vR x, vR a, vR ed, vI 0] [(.int ((0 : Int32) + (1 : Int32))), (.ref x)]) _
    exact kt)
  have q449 : ((0 : Int32) + (1 : Int32)) = (1 : Int32) := by decide
  have S448 : Ga T446 (mkF m 19 #[vR x, vR a, vR ed, vI 0] [(.int 1), (.ref x)]) := by have h := S447; rw [q449] at h; exact h
  clear S447
  have ne450 : x ≠ ed := Nat.ne_of_lt (Nat.lt_of_lt_of_le (Ex.lt) sze442)
  have f451 := (Fs442.other W446 (Or.inl ne450))
  have f452 := (Ex442.wr W446)
  obtain ⟨T453, h453, X453, e453, W453, st453⟩ := putF X446 hx hZ hown (host := "") (Or.inl (own_h hw 76 rfl)) Via.refl e446 f451 f452 (Or.inl (own_h hw 77 rfl)) (own_h hw 32 rfl) (ty := .int) (by decide) rfl rfl (g := (mkF m 19 #[vR x, vR a, vR ed, vI 0] [(.int 1), (.ref x)])) rfl rfl (own_k hby 19 (.putfield 48) 3)
  have N453 := Fr.snoc X453 N446 g_x
  have K453 : Keep h0 h453 [x] := K446.wr W453 (Or.inl (by simp))
  have Fw453 := f451.same W453
  have f454 := (f452.wr W453)
  have f455 := ((Fm442.other W446 (Or.inl ne450)).other W453 (Or.inr (ns12 hw)))
  have f456 := ((Fe442.other W446 (Or.inl ne450)).other W453 (Or.inr (ns13 hw)))
  have f457 := ((Ee442.wr W446).wr W453)
  have f458 := (V446.other W453 (Ne.symm ne450))
  have S459 : Ga T453 (mkF m 22 #[vR x, vR a, vR ed, vI 0] []) := nx S448 fun t kt => st453 t kt
  refine ⟨T453, _, none, _, _, _, X453, og S459, fun _ => rfl, by decide, by decide, ?_, fun fs hr => X453.returnOut hx hret (own_k hby 22 (.return_) 1) hr⟩
  show Q_ad3 Z x a mc h0 n0 _ T453.heap _
  rw [e453]
  exact ⟨ed, ke442, rfl, N453, K453, sz_ed, ⟨f454, f455, f456, Fw453⟩, ⟨f457, f458, Ov442⟩⟩
abbrev R_add0 : Room := { frames := 4, cells := 1, slots := 10, locals := 56 }
def Q_add0 (Z : State) (x : Addr) (a : Addr) (h0 : Heap) (n0 : Nat) (v : Option Value) (h : Heap) (L : List Loc) : Prop := ∃ (ed : Addr) (ke : ClassId), v = some (.int 1) ∧ Fr n0 L ∧ Keep h0 h [x] ∧ h0.size ≤ ed ∧ own_AL Z h x (.ref ed) (1 : Int32) (1 : Int32) ∧ own_Ed Z h ed ke [(.ref a), .null, .null, .null, .null, .null, .null, .null, .null, .null]
theorem rm_add0 {l : Launch} {Z : State} {a0 : Array Value} (hw : own_W a0 Z) (no : Nat) (de : Addr) (em : Addr) (el : Addr) (ey : Addr)(x : Addr) (a : Addr) (h0 : Heap) (n0 : Nat) (Z0 : n0 ≤ h0.size) (SS : own_St Z de em el ey) (hno : no ≤ n0) (O0 : Old Z no h0) (HA : own_AL Z h0 x (.ref de) (0 : Int32) (0 : Int32)) (g_x : n0 ≤ x) (E : Exa Z h0 a "java/lang/String") : own_Met l y14 jdk_38_method_25_code 2 (some .boolean) R_add0 Z h0 #[(.ref x), (.ref a)] (Q_add0 Z x a h0 n0) := by
  refine own_body (plainFor_of_name pn_ali) fun p e s m below meth c s₁ hlk hret hnm hx hby hml hown hZ X0 e0 => ?_
  have N0 := Fr.nil n0
  obtain ⟨Ga, Sa, nx, og⟩ := own_ga (p := p) (e := e) (below := below) s₁ (eF_6 m x a)
  have S0 : Ga s₁ (mkF m 0 #[vR x, vR a] []) := nx Sa fun t k => castTop (ef_6 m x a) k
  obtain ⟨⟨cz, S_cs, hcz⟩, ⟨kde, S_de, E_de, V_de⟩, ⟨kel, S_em, E_em, F_em, V_el⟩, S_ey, E_ey⟩ := id SS
  obtain ⟨Ex, Fm, Fe, Fs⟩ := HA
  have S460 : Ga s₁ (mkF m 2 #[vR x, vR a] [(.ref x), (.ref x)]) := nx S0 fun t kt => by
    refine xa X0.here hx hby 0 0 rfl ?_
    refine XS.dup X0.here hx rfl (own_k hby 1 (.dup) 1) rfl rfl ?_
    exact kt
  obtain ⟨T461, X461, e461, st461⟩ := getF X0 hx hZ hown (host := "") (Or.inl (own_h hw 74 rfl)) (Via.of (own_h hw 75 rfl)) e0 Fm (g := (mkF m 2 #[vR x, vR a] [(.ref x), (.ref x)])) rfl rfl (own_k hby 2 (.getfield 63) 3)
  have S462 : Ga T461 (mkF m 7 #[vR x, vR a] [(.int ((0 : Int32) + (1 : Int32))), (.ref x)]) := nx S460 fun t kt => st461 t (by
    show Sp p e below T461 (mkF m 5 #[vR x, vR a] [(.int 0), (.ref x)]) _
    refine xc X461.here hx hby 5 1 ?_
    refine XS.iadd X461.here hx rfl (own_k hby 6 (.iadd) 1) rfl ?_
    exact kt)
  have q464 : ((0 : Int32) + (1 : Int32)) = (1 : Int32) := by decide
  have S463 : Ga T461 (mkF m 7 #[vR x, vR a] [(.int 1), (.ref x)]) := by have h := S462; rw [q464] at h; exact h
  clear S462
  obtain ⟨T465, h465, X465, e465, W465, st465⟩ := putF X461 hx hZ hown (host := "") (Or.inl (own_h hw 74 rfl)) (Via.of (own_h hw 75 rfl)) e461 Fm Ex (Or.inl (own_h hw 51 rfl)) (own_h hw 32 rfl) (ty := .int) (by decide) rfl rfl (g := (mkF m 7 #[vR x, vR a] [(.int 1), (.ref x)])) rfl rfl (own_k hby 7 (.putfield 63) 3)
  have N465 := Fr.snoc X465 N0 g_x
  have K465 : Keep h0 h465 [x] := (Keep.refl h0 [x]).wr W465 (Or.inl (by simp))
  have Fw465 := Fm.same W465
  have S466 : Ga T465 (mkF m 13 #[vR x, vR a] [(.ref x), (.ref a), (.ref x)]) := nx S463 fun t kt => st465 t (by
    show Sp p e below T465 (mkF m 10 #[vR x, vR a] []) _
    refine xa X465.here hx hby 10 0 rfl ?_
    refine xa X465.here hx hby 11 1 rfl ?_
    refine xa X465.here hx hby 12 0 rfl ?_
    exact kt)
  have f467 := (Fe.other W465 (Or.inr (ns8 hw)))
  obtain ⟨T468, X468, e468, st468⟩ := getF X465 hx hZ hown (host := "") (Or.inl (own_h hw 53 rfl)) Via.refl e465 f467 (g := (mkF m 13 #[vR x, vR a] [(.ref x), (.ref a), (.ref x)])) rfl rfl (own_k hby 13 (.getfield 9) 3)
  have S469 : Ga T468 (mkF m 17 #[vR x, vR a] [(.ref x), (.ref de), (.ref a), (.ref x)]) := nx S466 fun t kt => st468 t (by
    show Sp p e below T468 (mkF m 16 #[vR x, vR a] [(.ref de), (.ref a), (.ref x)]) _
    refine xa X468.here hx hby 16 0 rfl ?_
    exact kt)
  have f470 := (Fs.other W465 (Or.inr (ns9 hw)))
  obtain ⟨T471, X471, e471, st471⟩ := getF X468 hx hZ hown (host := "") (Or.inl (own_h hw 76 rfl)) Via.refl e468 f470 (g := (mkF m 17 #[vR x, vR a] [(.ref x), (.ref de), (.ref a), (.ref x)])) rfl rfl (own_k hby 17 (.getfield 48) 3)
  have f472 := (O0.wr W465 (Nat.le_trans hno g_x))
  have f473 := (Ex.wr W465)
  have f474 := (E.wr W465)
  have z475 := (Nat.le_trans Z0 (Keep.of_wr W465).1)
  obtain ⟨v476, T476, L476, X476, hQ476, st476⟩ := own_cP X471 hx hZ hw hown hml 78 79 81 80 82 33 rfl rfl rfl rfl rfl rfl f473 (rm_ad3 hw no de em el ey x a 1 h465 n0 z475 SS hno f472 ⟨f473, Fw465, f467, f470⟩ g_x f474) e471 (W := 0) (g := (mkF m 20 #[vR x, vR a] [(.int 0), (.ref de), (.ref a), (.ref x)])) rfl (argsL := [(.ref a), (.ref de), (.int 0)]) (rest := []) pd__Ljava_lang_Object__Ljava_lang_Object_I_V (own_k hby 20 (.invokevirtual 131) 3)
  obtain ⟨ed, ke476, rfl, N476q, K476, sze476, ⟨Ex476, Fm476, Fe476, Fs476⟩, ⟨Ee476, Ve476, Ov476⟩⟩ := hQ476
  have N476 := Fr.app N465 N476q
  have KK476 : Keep h0 T476.heap [x] := K465.trans K476 (allS (Or.inl (by simp)) all0)
  have sz_ed : h0.size ≤ ed := Nat.le_trans K465.1 sze476
  have g_ed : n0 ≤ ed := Nat.le_trans z475 sze476
  have S477 : Ga T476 (mkF m 24 #[vR x, vR a] [(.int 1)]) := nx S469 fun t kt => st471 t (st476 t (by
    show Sp p e below T476 (mkF m 23 #[vR x, vR a] []) _
    refine xc X476.here hx hby 23 1 ?_
    exact kt))
  refine ⟨T476, _, some (.int 1), _, _, _, X476, og S477, fun h => (nomatch hret.symm.trans h), by decide, by decide, ?_, fun fs hr => retN X476 hx (t := .boolean) hret (by simp) (own_k hby 24 (.ireturn) 1) hr⟩
  show Q_add0 Z x a h0 n0 _ T476.heap _
  exact ⟨ed, ke476, rfl, N476, KK476, sz_ed, ⟨Ex476, Fm476, Fe476, Fs476⟩, ⟨Ee476, Ve476, Ov476⟩⟩
abbrev R_ad4 : Room := { frames := 0, cells := 0, slots := 0, locals := 0 }
def Q_ad4 (Z : State) (x : Addr) (ed : Addr) (ke : ClassId) (u : Addr) (a : Addr) (mc : Int32) (h0 : Heap) (n0 : Nat) (v : Option Value) (h : Heap) (L : List Loc) : Prop := v = none ∧ Fr n0 L ∧ Keep h0 h [x, ed] ∧ own_AL Z h x (.ref ed) (2 : Int32) mc ∧ own_Ed Z h ed ke [(.ref u), (.ref a), .null, .null, .null, .null, .null, .null, .null, .null]
theorem rm_ad4 {l : Launch} {Z : State} {a0 : Array Value} (hw : own_W a0 Z) (x : Addr) (ed : Addr) (ke : ClassId) (u : Addr) (a : Addr) (mc : Int32) (h0 : Heap) (n0 : Nat) (Z0 : n0 ≤ h0.size)  (HA : own_AL Z h0 x (.ref ed) (1 : Int32) mc) (g_x : n0 ≤ x) (g_ed : n0 ≤ ed) (HE : own_Ed Z h0 ed ke [(.ref u), .null, .null, .null, .null, .null, .null, .null, .null, .null]) (E : Exa Z h0 a "java/lang/String") : own_Met l y15 jdk_38_method_24_code 4 none R_ad4 Z h0 #[(.ref x), (.ref a), (.ref ed), (.int 1)] (Q_ad4 Z x ed ke u a mc h0 n0) := by
  refine own_body (plainFor_of_name pn_ali) fun p e s m below meth c s₁ hlk hret hnm hx hby hml hown hZ X0 e0 => ?_
  have N0 := Fr.nil n0
  obtain ⟨Ga, Sa, nx, og⟩ := own_ga (p := p) (e := e) (below := below) s₁ (eF_17 m x a ed (1 : Int32))
  have S0 : Ga s₁ (mkF m 0 #[vR x, vR a, vR ed, vI 1] []) := nx Sa fun t k => castTop (ef_17 m x a ed (1 : Int32)) k
  obtain ⟨Ex, Fm, Fe, Fs⟩ := HA
  obtain ⟨Ee, Ve, Ov⟩ := HE
  have S478 : Ga s₁ (mkF m 2 #[vR x, vR a, vR ed, vI 1] [(.ref ed), (.int 1)]) := nx S0 fun t kt => by
    refine xi X0.here hx hby 0 3 rfl ?_
    refine xa X0.here hx hby 1 2 rfl ?_
    exact kt
  obtain ⟨co479, Ao479, qo479, So479, No479, Ho479, Go479⟩ := id Ve
  have S480 : Ga s₁ (mkF m 14 #[vR x, vR a, vR ed, vI 1] [(.ref a), (.int 1), (.ref ed)]) := nx S478 fun t kt => by
    refine X0.arraylength hx (by rw [e0]; exact Ao479.1) (State.isArrayOf_alike hZ.alike Ao479.2.1) (g := (mkF m 2 #[vR x, vR a, vR ed, vI 1] [(.ref ed), (.int 1)])) rfl rfl (own_k hby 2 (.arraylength) 1) _ ?_
    rw [len_of So479 No479]
    show Sp p e below s₁ (mkF m 3 #[vR x, vR a, vR ed, vI 1] [(.int 10), (.int 1)]) _
    refine XS.icmpYes X0.here hx rfl (pc0 := 3) (pc' := 11) rfl (own_k hby 3 (.if_icmp .ne 8) 3) rfl (feq (show ¬ ((1 : Int32) = (10 : Int32)) from (by decide))).2 (by decide) (by decide) ?_
    refine xa X0.here hx hby 11 2 rfl ?_
    refine xi X0.here hx hby 12 3 rfl ?_
    show Sp p e below s₁ (mkF m 13 #[vR x, vR a, vR ed, vI 1] [(.int 1), (.ref ed)]) _
    refine xa X0.here hx hby 13 1 rfl ?_
    exact kt
  obtain ⟨co481, Ao481, qo481, So481, No481, Ho481, Go481⟩ := id Ve
  have hino481 : ¬ ((1 : Int32) < 0 ∨ co481.slots.size ≤ ((1 : Int32)).toNatClampNeg) := inb_of So481 ⟨by decide, by decide⟩
  obtain ⟨T482, h482, X482, e482, W482, st482⟩ := stR X0 hx hZ e0 Ao481 (j := (1 : Int32)) hino481 rfl (Sto.ofV Ao481 qo481 Ov (Ins.of_exa E (own_h hw 99 rfl))) (g := (mkF m 14 #[vR x, vR a, vR ed, vI 1] [(.ref a), (.int 1), (.ref ed)])) rfl rfl (own_k hby 14 (.aastore) 1)
  have N482 := Fr.snoc X482 N0 g_ed
  have K482 : Keep h0 h482 [x, ed] := (Keep.refl h0 [x, ed]).wr W482 (Or.inl (by simp))
  have V482 : Arv Z h482 ed ke (.object "java/lang/Object") (10 : Int32) [(.ref u), (.ref a), .null, .null, .null, .null, .null, .null, .null, .null] .null := Arv.set Ao481 qo481 So481 No481 Ho481 Go481 rfl W482 1 rfl (Nat.le_of_ble_eq_true rfl)
  have S483 : Ga T482 (mkF m 19 #[vR x, vR a, vR ed, vI 1] [(.int ((1 : Int32) + (1 : Int32))), (.ref x)]) := nx S480 fun t kt => st482 t (by
    show Sp p e below T482 (mkF m 15 #[vR x, vR a, vR ed, vI 1] []) _
    refine xa X482.here hx hby 15 0 rfl ?_
    refine xi X482.here hx hby 16 3 rfl ?_
    refine xc X482.here hx hby 17 1 ?_
    refine XS.iadd X482.here hx rfl (own_k hby 18 (.iadd) 1) rfl ?_
    show Sp p e below T482 (mkF m 19 #[vR x, vR a, vR ed, vI 1] [(.int ((1 : Int32) + (1 : Int32))), (.ref x)]) _
    exact kt)
  have q485 : ((1 : Int32) + (1 : Int32)) = (2 : Int32) := by decide
  have S484 : Ga T482 (mkF m 19 #[vR x, vR a, vR ed, vI 1] [(.int 2), (.ref x)]) := by have h := S483; rw [q485] at h; exact h
  clear S483
  have ne486 : x ≠ ed := own_neStr Ex Ve (own_h hw 32 rfl)
  have f487 := (Fs.other W482 (Or.inl ne486))
  have f488 := (Ex.wr W482)
  obtain ⟨T489, h489, X489, e489, W489, st489⟩ := putF X482 hx hZ hown (host := "") (Or.inl (own_h hw 76 rfl)) Via.refl e482 f487 f488 (Or.inl (own_h hw 77 rfl)) (own_h hw 32 rfl) (ty := .int) (by decide) rfl rfl (g := (mkF m 19 #[vR x, vR a, vR ed, vI 1] [(.int 2), (.ref x)])) rfl rfl (own_k hby 19 (.putfield 48) 3)
  have N489 := Fr.snoc X489 N482 g_x
  have K489 : Keep h0 h489 [x, ed] := K482.wr W489 (Or.inl (by simp))
  have Fw489 := f487.same W489
  have f490 := (f488.wr W489)
  have f491 := ((Fm.other W482 (Or.inl ne486)).other W489 (Or.inr (ns12 hw)))
  have f492 := ((Fe.other W482 (Or.inl ne486)).other W489 (Or.inr (ns13 hw)))
  have f493 := ((Ee.wr W482).wr W489)
  have f494 := (V482.other W489 (Ne.symm ne486))
  have S495 : Ga T489 (mkF m 22 #[vR x, vR a, vR ed, vI 1] []) := nx S484 fun t kt => st489 t kt
  refine ⟨T489, _, none, _, _, _, X489, og S495, fun _ => rfl, by decide, by decide, ?_, fun fs hr => X489.returnOut hx hret (own_k hby 22 (.return_) 1) hr⟩
  show Q_ad4 Z x ed ke u a mc h0 n0 _ T489.heap _
  rw [e489]
  exact ⟨rfl, N489, K489, ⟨f490, f491, f492, Fw489⟩, ⟨f493, f494, Ov⟩⟩
abbrev R_add1 : Room := { frames := 1, cells := 0, slots := 0, locals := 15 }
def Q_add1 (Z : State) (x : Addr) (ed : Addr) (ke : ClassId) (u : Addr) (a : Addr) (h0 : Heap) (n0 : Nat) (v : Option Value) (h : Heap) (L : List Loc) : Prop := v = some (.int 1) ∧ Fr n0 L ∧ Keep h0 h [x, ed] ∧ own_AL Z h x (.ref ed) (2 : Int32) (2 : Int32) ∧ own_Ed Z h ed ke [(.ref u), (.ref a), .null, .null, .null, .null, .null, .null, .null, .null]
theorem rm_add1 {l : Launch} {Z : State} {a0 : Array Value} (hw : own_W a0 Z) (x : Addr) (ed : Addr) (ke : ClassId) (u : Addr) (a : Addr) (h0 : Heap) (n0 : Nat) (Z0 : n0 ≤ h0.size)  (HA : own_AL Z h0 x (.ref ed) (1 : Int32) (1 : Int32)) (g_x : n0 ≤ x) (g_ed : n0 ≤ ed) (HE : own_Ed Z h0 ed ke [(.ref u), .null, .null, .null, .null, .null, .null, .null, .null, .null]) (E : Exa Z h0 a "java/lang/String") : own_Met l y14 jdk_38_method_25_code 2 (some .boolean) R_add1 Z h0 #[(.ref x), (.ref a)] (Q_add1 Z x ed ke u a h0 n0) := by
  refine own_body (plainFor_of_name pn_ali) fun p e s m below meth c s₁ hlk hret hnm hx hby hml hown hZ X0 e0 => ?_
  have N0 := Fr.nil n0
  obtain ⟨Ga, Sa, nx, og⟩ := own_ga (p := p) (e := e) (below := below) s₁ (eF_6 m x a)
  have S0 : Ga s₁ (mkF m 0 #[vR x, vR a] []) := nx Sa fun t k => castTop (ef_6 m x a) k
  obtain ⟨Ex, Fm, Fe, Fs⟩ := HA
  obtain ⟨Ee, Ve, Ov⟩ := HE
  have S496 : Ga s₁ (mkF m 2 #[vR x, vR a] [(.ref x), (.ref x)]) := nx S0 fun t kt => by
    refine xa X0.here hx hby 0 0 rfl ?_
    refine XS.dup X0.here hx rfl (own_k hby 1 (.dup) 1) rfl rfl ?_
    exact kt
  obtain ⟨T497, X497, e497, st497⟩ := getF X0 hx hZ hown (host := "") (Or.inl (own_h hw 74 rfl)) (Via.of (own_h hw 75 rfl)) e0 Fm (g := (mkF m 2 #[vR x, vR a] [(.ref x), (.ref x)])) rfl rfl (own_k hby 2 (.getfield 63) 3)
  have S498 : Ga T497 (mkF m 7 #[vR x, vR a] [(.int ((1 : Int32) + (1 : Int32))), (.ref x)]) := nx S496 fun t kt => st497 t (by
    show Sp p e below T497 (mkF m 5 #[vR x, vR a] [(.int 1), (.ref x)]) _
    refine xc X497.here hx hby 5 1 ?_
    refine XS.iadd X497.here hx rfl (own_k hby 6 (.iadd) 1) rfl ?_
    exact kt)
  have q500 : ((1 : Int32) + (1 : Int32)) = (2 : Int32) := by decide
  have S499 : Ga T497 (mkF m 7 #[vR x, vR a] [(.int 2), (.ref x)]) := by have h := S498; rw [q500] at h; exact h
  clear S498
  obtain ⟨T501, h501, X501, e501, W501, st501⟩ := putF X497 hx hZ hown (host := "") (Or.inl (own_h hw 74 rfl)) (Via.of (own_h hw 75 rfl)) e497 Fm Ex (Or.inl (own_h hw 51 rfl)) (own_h hw 32 rfl) (ty := .int) (by decide) rfl rfl (g := (mkF m 7 #[vR x, vR a] [(.int 2), (.ref x)])) rfl rfl (own_k hby 7 (.putfield 63) 3)
  have N501 := Fr.snoc X501 N0 g_x
  have K501 : Keep h0 h501 [x, ed] := (Keep.refl h0 [x, ed]).wr W501 (Or.inl (by simp))
  have Fw501 := Fm.same W501
  have S502 : Ga T501 (mkF m 13 #[vR x, vR a] [(.ref x), (.ref a), (.ref x)]) := nx S499 fun t kt => st501 t (by
    show Sp p e below T501 (mkF m 10 #[vR x, vR a] []) _
    refine xa X501.here hx hby 10 0 rfl ?_
    refine xa X501.here hx hby 11 1 rfl ?_
    refine xa X501.here hx hby 12 0 rfl ?_
    exact kt)
  have f503 := (Fe.other W501 (Or.inr (ns8 hw)))
  obtain ⟨T504, X504, e504, st504⟩ := getF X501 hx hZ hown (host := "") (Or.inl (own_h hw 53 rfl)) Via.refl e501 f503 (g := (mkF m 13 #[vR x, vR a] [(.ref x), (.ref a), (.ref x)])) rfl rfl (own_k hby 13 (.getfield 9) 3)
  have S505 : Ga T504 (mkF m 17 #[vR x, vR a] [(.ref x), (.ref ed), (.ref a), (.ref x)]) := nx S502 fun t kt => st504 t (by
    show Sp p e below T504 (mkF m 16 #[vR x, vR a] [(.ref ed), (.ref a), (.ref x)]) _
    refine xa X504.here hx hby 16 0 rfl ?_
    exact kt)
  have f506 := (Fs.other W501 (Or.inr (ns9 hw)))
  obtain ⟨T507, X507, e507, st507⟩ := getF X504 hx hZ hown (host := "") (Or.inl (own_h hw 76 rfl)) Via.refl e504 f506 (g := (mkF m 17 #[vR x, vR a] [(.ref x), (.ref ed), (.ref a), (.ref x)])) rfl rfl (own_k hby 17 (.getfield 48) 3)
  have f508 := (Ex.wr W501)
  have f509 := (Ee.wr W501)
  have ne510 : ed ≠ x := Ne.symm (own_neStr Ex Ve (own_h hw 32 rfl))
  have f511 := (Ve.other W501 ne510)
  have f512 := (E.wr W501)
  have z513 := (Nat.le_trans Z0 (Keep.of_wr W501).1)
  obtain ⟨v514, T514, L514, X514, hQ514, st514⟩ := own_cP X507 hx hZ hw hown hml 78 79 81 80 82 33 rfl rfl rfl rfl rfl rfl f508 (rm_ad4 hw x ed ke u a 2 h501 n0 z513 ⟨f508, Fw501, f503, f506⟩ g_x g_ed ⟨f509, f511, Ov⟩ f512) e507 (W := 0) (g := (mkF m 20 #[vR x, vR a] [(.int 1), (.ref ed), (.ref a), (.ref x)])) rfl (argsL := [(.ref a), (.ref ed), (.int 1)]) (rest := []) pd__Ljava_lang_Object__Ljava_lang_Object_I_V (own_k hby 20 (.invokevirtual 131) 3)
  obtain ⟨rfl, N514q, K514, ⟨Ex514, Fm514, Fe514, Fs514⟩, ⟨Ee514, Ve514, Ov514⟩⟩ := hQ514
  have N514 := Fr.app N501 N514q
  have KK514 : Keep h0 T514.heap [x, ed] := K501.trans K514 (allS (Or.inl (by simp)) (allS (Or.inl (by simp)) all0))
  have S515 : Ga T514 (mkF m 24 #[vR x, vR a] [(.int 1)]) := nx S505 fun t kt => st507 t (st514 t (by
    show Sp p e below T514 (mkF m 23 #[vR x, vR a] []) _
    refine xc X514.here hx hby 23 1 ?_
    exact kt))
  refine ⟨T514, _, some (.int 1), _, _, _, X514, og S515, fun h => (nomatch hret.symm.trans h), by decide, by decide, ?_, fun fs hr => retN X514 hx (t := .boolean) hret (by simp) (own_k hby 24 (.ireturn) 1) hr⟩
  show Q_add1 Z x ed ke u a h0 n0 _ T514.heap _
  exact ⟨rfl, N514, KK514, ⟨Ex514, Fm514, Fe514, Fs514⟩, ⟨Ee514, Ve514, Ov514⟩⟩
abbrev R_ise0 : Room := { frames := 0, cells := 0, slots := 0, locals := 0 }
def Q_ise0 (Z : State) (x : Addr) (h0 : Heap) (n0 : Nat) (v : Option Value) (h : Heap) (L : List Loc) : Prop := v = some (.int 1) ∧ Fr n0 L ∧ h = h0
theorem rm_ise0 {l : Launch} {Z : State} {a0 : Array Value} (hw : own_W a0 Z) (x : Addr) (h0 : Heap) (n0 : Nat) (Z0 : n0 ≤ h0.size) (Fs : Fld Z h0 x "java/util/ArrayList" "size" "I" (.int 0)) : own_Met l y24 jdk_38_method_9_code 1 (some .boolean) R_ise0 Z h0 #[(.ref x)] (Q_ise0 Z x h0 n0) := by
  refine own_body (plainFor_of_name pn_ali) fun p e s m below meth c s₁ hlk hret hnm hx hby hml hown hZ X0 e0 => ?_
  have N0 := Fr.nil n0
  obtain ⟨Ga, Sa, nx, og⟩ := own_ga (p := p) (e := e) (below := below) s₁ (eF_2 m x)
  have S0 : Ga s₁ (mkF m 0 #[vR x] []) := nx Sa fun t k => castTop (ef_2 m x) k
  have S516 : Ga s₁ (mkF m 1 #[vR x] [(.ref x)]) := nx S0 fun t kt => by
    refine xa X0.here hx hby 0 0 rfl ?_
    exact kt
  obtain ⟨T517, X517, e517, st517⟩ := getF X0 hx hZ hown (host := "") (Or.inl (own_h hw 76 rfl)) Via.refl e0 Fs (g := (mkF m 1 #[vR x] [(.ref x)])) rfl rfl (own_k hby 1 (.getfield 48) 3)
  have S518 : Ga T517 (mkF m 12 #[vR x] [(.int 1)]) := nx S516 fun t kt => st517 t (by
    show Sp p e below T517 (mkF m 4 #[vR x] [(.int 0)]) _
    refine XS.ifNo X517.here hx rfl (own_k hby 4 (.ifCond .ne 7) 3) rfl ((if0 _ _).trans (teq (show (0 : Int32) = (0 : Int32) from (by decide))).2) ?_
    refine xc X517.here hx hby 7 1 ?_
    refine XS.goto X517.here hx rfl (pc0 := 8) (pc' := 12) rfl (own_k hby 8 (.goto 4) 3) (by decide) (by decide) ?_
    exact kt)
  refine ⟨T517, _, some (.int 1), _, _, _, X517, og S518, fun h => (nomatch hret.symm.trans h), by decide, by decide, ?_, fun fs hr => retN X517 hx (t := .boolean) hret (by simp) (own_k hby 12 (.ireturn) 1) hr⟩
  show Q_ise0 Z x h0 n0 _ T517.heap _
  rw [e517]
  exact ⟨rfl, N0, rfl⟩
abbrev R_ise1 : Room := { frames := 0, cells := 0, slots := 0, locals := 0 }
def Q_ise1 (Z : State) (x : Addr) (h0 : Heap) (n0 : Nat) (v : Option Value) (h : Heap) (L : List Loc) : Prop := v = some (.int 0) ∧ Fr n0 L ∧ h = h0
theorem rm_ise1 {l : Launch} {Z : State} {a0 : Array Value} (hw : own_W a0 Z) (x : Addr) (h0 : Heap) (n0 : Nat) (Z0 : n0 ≤ h0.size) (Fs : Fld Z h0 x "java/util/ArrayList" "size" "I" (.int 1)) : own_Met l y24 jdk_38_method_9_code 1 (some .boolean) R_ise1 Z h0 #[(.ref x)] (Q_ise1 Z x h0 n0) := by
  refine own_body (plainFor_of_name pn_ali) fun p e s m below meth c s₁ hlk hret hnm hx hby hml hown hZ X0 e0 => ?_
  have N0 := Fr.nil n0
  obtain ⟨Ga, Sa, nx, og⟩ := own_ga (p := p) (e := e) (below := below) s₁ (eF_2 m x)
  have S0 : Ga s₁ (mkF m 0 #[vR x] []) := nx Sa fun t k => castTop (ef_2 m x) k
  have S519 : Ga s₁ (mkF m 1 #[vR x] [(.ref x)]) := nx S0 fun t kt => by
    refine xa X0.here hx hby 0 0 rfl ?_
    exact kt
  obtain ⟨T520, X520, e520, st520⟩ := getF X0 hx hZ hown (host := "") (Or.inl (own_h hw 76 rfl)) Via.refl e0 Fs (g := (mkF m 1 #[vR x] [(.ref x)])) rfl rfl (own_k hby 1 (.getfield 48) 3)
  have S521 : Ga T520 (mkF m 12 #[vR x] [(.int 0)]) := nx S519 fun t kt => st520 t (by
    show Sp p e below T520 (mkF m 4 #[vR x] [(.int 1)]) _
    refine XS.ifYes X520.here hx rfl (pc0 := 4) (pc' := 11) rfl (own_k hby 4 (.ifCond .ne 7) 3) rfl ((if0 _ _).trans (feq (show ¬ ((1 : Int32) = (0 : Int32)) from (by decide))).2) (by decide) (by decide) ?_
    refine xc X520.here hx hby 11 0 ?_
    exact kt)
  refine ⟨T520, _, some (.int 0), _, _, _, X520, og S521, fun h => (nomatch hret.symm.trans h), by decide, by decide, ?_, fun fs hr => retN X520 hx (t := .boolean) hret (by simp) (own_k hby 12 (.ireturn) 1) hr⟩
  show Q_ise1 Z x h0 n0 _ T520.heap _
  rw [e520]
  exact ⟨rfl, N0, rfl⟩
abbrev R_ise2 : Room := { frames := 0, cells := 0, slots := 0, locals := 0 }
def Q_ise2 (Z : State) (x : Addr) (h0 : Heap) (n0 : Nat) (v : Option Value) (h : Heap) (L : List Loc) : Prop := v = some (.int 0) ∧ Fr n0 L ∧ h = h0
theorem rm_ise2 {l : Launch} {Z : State} {a0 : Array Value} (hw : own_W a0 Z) (x : Addr) (h0 : Heap) (n0 : Nat) (Z0 : n0 ≤ h0.size) (Fs : Fld Z h0 x "java/util/ArrayList" "size" "I" (.int 2)) : own_Met l y24 jdk_38_method_9_code 1 (some .boolean) R_ise2 Z h0 #[(.ref x)] (Q_ise2 Z x h0 n0) := by
  refine own_body (plainFor_of_name pn_ali) fun p e s m below meth c s₁ hlk hret hnm hx hby hml hown hZ X0 e0 => ?_
  have N0 := Fr.nil n0
  obtain ⟨Ga, Sa, nx, og⟩ := own_ga (p := p) (e := e) (below := below) s₁ (eF_2 m x)
  have S0 : Ga s₁ (mkF m 0 #[vR x] []) := nx Sa fun t k => castTop (ef_2 m x) k
  have S522 : Ga s₁ (mkF m 1 #[vR x] [(.ref x)]) := nx S0 fun t kt => by
    refine xa X0.here hx hby 0 0 rfl ?_
    exact kt
  obtain ⟨T523, X523, e523, st523⟩ := getF X0 hx hZ hown (host := "") (Or.inl (own_h hw 76 rfl)) Via.refl e0 Fs (g := (mkF m 1 #[vR x] [(.ref x)])) rfl rfl (own_k hby 1 (.getfield 48) 3)
  have S524 : Ga T523 (mkF m 12 #[vR x] [(.int 0)]) := nx S522 fun t kt => st523 t (by
    show Sp p e below T523 (mkF m 4 #[vR x] [(.int 2)]) _
    refine XS.ifYes X523.here hx rfl (pc0 := 4) (pc' := 11) rfl (own_k hby 4 (.ifCond .ne 7) 3) rfl ((if0 _ _).trans (feq (show ¬ ((2 : Int32) = (0 : Int32)) from (by decide))).2) (by decide) (by decide) ?_
    refine xc X523.here hx hby 11 0 ?_
    exact kt)
  refine ⟨T523, _, some (.int 0), _, _, _, X523, og S524, fun h => (nomatch hret.symm.trans h), by decide, by decide, ?_, fun fs hr => retN X523 hx (t := .boolean) hret (by simp) (own_k hby 12 (.ireturn) 1) hr⟩
  show Q_ise2 Z x h0 n0 _ T523.heap _
  rw [e523]
  exact ⟨rfl, N0, rfl⟩
abbrev R_cp31 : Room := { frames := 1, cells := 1, slots := 1, locals := 18 }
abbrev eF_18 (m : MethodId) (x0 : Addr) (x1 : Int32) (x2 : Addr) : JFrame := entryFrame m #[(.ref x0), (.int x1), (.ref x2)] 4
theorem ef_18 (m : MethodId) (x0 : Addr) (x1 : Int32) (x2 : Addr) : entryFrame m #[(.ref x0), (.int x1), (.ref x2)] 4 = mkF m 0 #[.val (.ref x0), .val (.int x1), .val (.ref x2), .unset] [] := by first | (simp [entryFrame, mkF, argsToLocals, Value.category]; done) | rfl
def Q_cp31 (Z : State) (u : Addr) (h0 : Heap) (n0 : Nat) (v : Option Value) (h : Heap) (L : List Loc) : Prop := ∃ (r : Addr) (kr : ClassId), v = some (.ref r) ∧ Fr n0 L ∧ Keep h0 h [] ∧ h0.size ≤ r ∧ Arv Z h r kr (.object "java/lang/Object") (1 : Int32) [(.ref u)] .null
theorem rm_cp31 {l : Launch} {Z : State} {a0 : Array Value} (hw : own_W a0 Z) (ed : Addr) (ke : ClassId) (u : Addr) (mir : Addr) (h0 : Heap) (n0 : Nat) (Z0 : n0 ≤ h0.size)  (HE : own_Ed Z h0 ed ke [(.ref u), .null, .null, .null, .null, .null, .null, .null, .null, .null]) (Eu : Exa Z h0 u "java/lang/String")(M : own_Mir Z mir) : own_Met l y27 jdk_65_method_120_code 4 (some (.array (.object "java/lang/Object"))) R_cp31 Z h0 #[(.ref ed), (.int 1), (.ref mir)] (Q_cp31 Z u h0 n0) := by
  refine own_body (plainFor_of_name pn_ckl) fun p e s m below meth c s₁ hlk hret hnm hx hby hml hown hZ X0 e0 => ?_
  have N0 := Fr.nil n0
  obtain ⟨Ga, Sa, nx, og⟩ := own_ga (p := p) (e := e) (below := below) s₁ (eF_18 m ed (1 : Int32) mir)
  have S0 : Ga s₁ (mkF m 0 #[vR ed, vI 1, vR mir, vU] []) := nx Sa fun t k => castTop (ef_18 m ed (1 : Int32) mir) k
  obtain ⟨Ee, Ve, Ov⟩ := HE
  have S525 : Ga s₁ (mkF m 1 #[vR ed, vI 1, vR mir, vU] [(.ref mir)]) := nx S0 fun t kt => by
    refine xa X0.here hx hby 0 2 rfl ?_
    exact kt
  obtain ⟨vm526, X526, st526⟩ := X0.ldcMirror hx hown (own_t hZ hw 160 rfl) (M.at hZ).eval (g := (mkF m 1 #[vR ed, vI 1, vR mir, vU] [(.ref mir)])) rfl (own_k hby 1 (.ldc 110) 2)
  obtain ⟨T526, eT526⟩ : ∃ z : State, z = s₁.setVm vm526 := ⟨_, rfl⟩
  rw [← eT526] at X526 st526
  have e526 : T526.heap = h0 := by rw [eT526]; exact e0
  have S527 : Ga T526 (mkF m 7 #[vR ed, vI 1, vR mir, vU] [(.int 1)]) := nx S525 fun t kt => st526 t (by
    show Sp p e below T526 (mkF m 3 #[vR ed, vI 1, vR mir, vU] [(.ref mir), (.ref mir)]) _
    refine Jvm.RoadKit.acmp (g := (mkF m 3 #[vR ed, vI 1, vR mir, vU] [(.ref mir), (.ref mir)])) X526 hx rfl rfl rfl (pc0 := 3) (pc' := 6) (same := true) rfl (own_k hby 3 (.if_acmp .ne 10) 3) rfl (decide_eq_true rfl) (by decide) (by decide) ?_
    refine xi X526.here hx hby 6 1 rfl ?_
    exact kt)
  obtain ⟨T528, h528, k528, X528, e528, E528, A528, O528, st528⟩ := newR X526 hx hZ hown (own_h hw 161 rfl) (own_h hw 98 rfl) e526 (g := (mkF m 7 #[vR ed, vI 1, vR mir, vU] [(.int 1)])) rfl (own_k hby 7 (.anewarray 2) 3) rfl (by decide) (cap := 1) (by decide) (by decide) (by decide) (by decide)
  obtain ⟨r1, g528⟩ : ∃ z, z = h0.size := ⟨_, rfl⟩
  rw [← g528] at A528 st528
  have ne529 : ed ≠ r1 := by rw [g528]; exact Nat.ne_of_lt Ee.lt
  have ne530 : u ≠ r1 := by rw [g528]; exact Nat.ne_of_lt Eu.lt
  have g_r1 : n0 ≤ r1 := Nat.le_trans Z0 (Nat.le_of_eq g528.symm)
  have sz_r1 : h0.size ≤ r1 := Nat.le_trans (Keep.refl h0 []).1 (Nat.le_of_eq g528.symm)
  have K528 : Keep h0 h528 [] := (Keep.refl h0 []).ext E528
  have V528 : Arv Z h528 r1 k528 (.object "java/lang/Object") (1 : Int32) [.null] .null := (Arv.new A528 (by decide)).pad (pad_rep [] _ 1)
  have S531 : Ga T528 (mkF m 30 #[vR ed, vI 1, vR mir, vR r1] [(.ref ed), (.int 0), (.ref r1), (.int 0), (.ref ed)]) := nx S527 fun t kt => st528 t (by
    show Sp p e below T528 (mkF m 10 #[vR ed, vI 1, vR mir, vU] [(.ref r1)]) _
    refine XS.goto X528.here hx rfl (pc0 := 10) (pc' := 24) rfl (own_k hby 10 (.goto 14) 3) (by decide) (by decide) ?_
    refine XS.astoreN X528.here hx rfl (own_k hby 24 (.astore_n 3) 1) rfl rfl (l' := #[vR ed, vI 1, vR mir, vR r1]) rfl ?_
    refine xa X528.here hx hby 25 0 rfl ?_
    refine xc X528.here hx hby 26 0 ?_
    show Sp p e below T528 (mkF m 27 #[vR ed, vI 1, vR mir, vR r1] [(.int 0), (.ref ed)]) _
    refine xa X528.here hx hby 27 3 rfl ?_
    refine xc X528.here hx hby 28 0 ?_
    refine xa X528.here hx hby 29 0 rfl ?_
    exact kt)
  have f532 := (Ve.ext E528)
  obtain ⟨co533, Ao533, qo533, So533, No533, Ho533, Go533⟩ := id f532
  have S534 : Ga T528 (mkF m 32 #[vR ed, vI 1, vR mir, vR r1] [(.int 1), (.int 10), (.int 0), (.ref r1), (.int 0), (.ref ed)]) := nx S531 fun t kt => by
    refine X528.arraylength hx (by rw [e528]; exact Ao533.1) (State.isArrayOf_alike hZ.alike Ao533.2.1) (g := (mkF m 30 #[vR ed, vI 1, vR mir, vR r1] [(.ref ed), (.int 0), (.ref r1), (.int 0), (.ref ed)])) rfl rfl (own_k hby 30 (.arraylength) 1) _ ?_
    rw [len_of So533 No533]
    show Sp p e below T528 (mkF m 31 #[vR ed, vI 1, vR mir, vR r1] [(.int 10), (.int 0), (.ref r1), (.int 0), (.ref ed)]) _
    refine xi X528.here hx hby 31 1 rfl ?_
    exact kt
  have z535 := (Nat.le_trans Z0 E528.1)
  obtain ⟨v536, T536, L536, X536, hQ536, st536⟩ := own_cS X528 hx hZ hw hown hml 162 163 164 95 rfl rfl rfl rfl (rm_mnr hw 10 1 h528 n0 z535 (by decide)) e528 (W := 4) (g := (mkF m 32 #[vR ed, vI 1, vR mir, vR r1] [(.int 1), (.int 10), (.int 0), (.ref r1), (.int 0), (.ref ed)])) rfl (argsL := [(.int 10), (.int 1)]) (rest := [(.int 0), (.ref r1), (.int 0), (.ref ed)]) pd__II_I (own_k hby 32 (.invokestatic 304) 3)
  obtain ⟨rfl, N536q, e536⟩ := hQ536
  have N536 := Fr.app N0 N536q
  obtain ⟨co537, Ao537, qo537, So537, No537, Ho537, Go537⟩ := id V528
  have f538 := (Eu.ext E528)
  obtain ⟨T539, h539, L539, X539, e539, N539, K539, Vq539, st539⟩ := cpA X536 hx hZ hown (own_h hw 165 rfl) (own_h hw 168 rfl) (own_h hw 166 rfl) (own_h hw 167 rfl) e536 f532 V528 (sp := (0 : Int32)) (dp := (0 : Int32)) (nn := (1 : Int32)) (us := [(.ref u)]) (Or.inr ⟨rfl, rfl, ⟨Sto.ofV Ao537 qo537 O528 (Ins.of_exa f538 (own_h hw 99 rfl)), trivial⟩⟩) (by decide) (by decide) (by decide) (by decide) (by decide) rfl (Nat.le_of_ble_eq_true rfl) N536 g_r1 (g := (mkF m 35 #[vR ed, vI 1, vR mir, vR r1] [(.int 1), (.int 0), (.ref r1), (.int 0), (.ref ed)])) rfl (by rw [hml]; rfl) rfl (own_k hby 35 (.invokestatic 150) 3) (by decide) (W := 0) (by show 2 * 0 + _ ≤ _; exact Nat.le_of_eq rfl) (by decide)
  have KK539 : Keep h0 h539 [] := K528.trans K539 (allS (Or.inr sz_r1) all0)
  have V539 : Arv Z h539 r1 k528 (.object "java/lang/Object") (1 : Int32) [(.ref u)] .null := Vq539
  have S540 : Ga T539 (mkF m 39 #[vR ed, vI 1, vR mir, vR r1] [(.ref r1)]) := nx S534 fun t kt => st536 t (st539 t (by
    show Sp p e below T539 (mkF m 38 #[vR ed, vI 1, vR mir, vR r1] []) _
    refine xa X539.here hx hby 38 3 rfl ?_
    exact kt))
  refine ⟨T539, _, some (.ref r1), _, _, _, X539, og S540, fun h => (nomatch hret.symm.trans h), by decide, by decide, ?_, fun fs hr => retOut X539 hx hret rfl (Or.inr (Or.inr (Or.inr (Or.inr ⟨rfl, rfl, rfl⟩)))) (own_k hby 39 (.areturn) 1) hr⟩
  show Q_cp31 Z u h0 n0 _ T539.heap _
  rw [e539]
  exact ⟨r1, k528, rfl, N539, KK539, sz_r1, V539⟩
abbrev R_cp21 : Room := { frames := 2, cells := 1, slots := 1, locals := 33 }
def Q_cp21 (Z : State) (u : Addr) (h0 : Heap) (n0 : Nat) (v : Option Value) (h : Heap) (L : List Loc) : Prop := ∃ (r : Addr) (kr : ClassId), v = some (.ref r) ∧ Fr n0 L ∧ Keep h0 h [] ∧ h0.size ≤ r ∧ Arv Z h r kr (.object "java/lang/Object") (1 : Int32) [(.ref u)] .null
theorem rm_cp21 {l : Launch} {Z : State} {a0 : Array Value} (hw : own_W a0 Z) (ed : Addr) (ke : ClassId) (u : Addr) (mir : Addr) (h0 : Heap) (n0 : Nat) (Z0 : n0 ≤ h0.size)  (HE : own_Ed Z h0 ed ke [(.ref u), .null, .null, .null, .null, .null, .null, .null, .null, .null]) (Eu : Exa Z h0 u "java/lang/String")(M : own_Mir Z mir) : own_Met l y26 jdk_65_method_119_code 2 (some (.array (.object "java/lang/Object"))) R_cp21 Z h0 #[(.ref ed), (.int 1)] (Q_cp21 Z u h0 n0) := by
  refine own_body (plainFor_of_name pn_ckl) fun p e s m below meth c s₁ hlk hret hnm hx hby hml hown hZ X0 e0 => ?_
  have N0 := Fr.nil n0
  obtain ⟨Ga, Sa, nx, og⟩ := own_ga (p := p) (e := e) (below := below) s₁ (eF_10 m ed (1 : Int32))
  have S0 : Ga s₁ (mkF m 0 #[vR ed, vI 1] []) := nx Sa fun t k => castTop (ef_10 m ed (1 : Int32)) k
  obtain ⟨Ee, Ve, Ov⟩ := HE
  have S541 : Ga s₁ (mkF m 3 #[vR ed, vI 1] [(.ref ed), (.int 1), (.ref ed)]) := nx S0 fun t kt => by
    refine xa X0.here hx hby 0 0 rfl ?_
    refine xi X0.here hx hby 1 1 rfl ?_
    refine xa X0.here hx hby 2 0 rfl ?_
    exact kt
  obtain ⟨cq542, kq542, q542a, q542b, q542c⟩ := isOf hZ e0 Ee
  obtain ⟨cm542, km542, m542a, m542b, m542c⟩ := M.at hZ
  have m542d := m542a.symm.trans q542a
  obtain rfl := Option.some.inj m542d
  obtain ⟨vm543, X543, st543⟩ := X0.getClassOf hx hown (own_t hZ hw 151 rfl) (own_t hZ hw 152 rfl) (own_nfO (args := #[]) (mv hZ (own_h hw 128 rfl))) (own_t hZ hw 154 rfl) (own_t hZ hw 153 rfl) (own_t hZ hw 155 rfl) (C := "[Ljava/lang/Object;") m542a q542c m542b m542c (g := (mkF m 3 #[vR ed, vI 1] [(.ref ed), (.int 1), (.ref ed)])) rfl (by rw [hml]; rfl) rfl (own_k hby 3 (.invokevirtual 86) 3) (Nat.le_of_ble_eq_true rfl) (Nat.le_of_ble_eq_true rfl)
  obtain ⟨T543, eT543⟩ : ∃ z : State, z = s₁.setVm vm543 := ⟨_, rfl⟩
  rw [← eT543] at X543 st543
  have e543 : T543.heap = h0 := by rw [eT543]; exact e0
  obtain ⟨v544, T544, L544, X544, hQ544, st544⟩ := own_cS X543 hx hZ hw hown hml 157 158 159 149 rfl rfl rfl rfl (rm_cp31 hw ed ke u mir h0 n0 Z0 ⟨Ee, Ve, Ov⟩ Eu M) e543 (W := 0) (g := (mkF m 6 #[vR ed, vI 1] [(.ref mir), (.int 1), (.ref ed)])) rfl (argsL := [(.ref ed), (.int 1), (.ref mir)]) (rest := []) pd___Ljava_lang_Object_ILjava_lang_Class___Ljava_lang_Object_ (own_k hby 6 (.invokestatic 300) 3)
  obtain ⟨r1, kr544, rfl, N544q, K544, sz_r1, V544⟩ := hQ544
  have N544 := Fr.app N0 N544q
  have KK544 : Keep h0 T544.heap [] := (Keep.refl h0 []).trans K544 all0
  have S545 : Ga T544 (mkF m 9 #[vR ed, vI 1] [(.ref r1)]) := nx S541 fun t kt => st543 t (st544 t kt)
  refine ⟨T544, _, some (.ref r1), _, _, _, X544, og S545, fun h => (nomatch hret.symm.trans h), by decide, by decide, ?_, fun fs hr => retOut X544 hx hret rfl (Or.inr (Or.inr (Or.inr (Or.inr ⟨rfl, rfl, rfl⟩)))) (own_k hby 9 (.areturn) 1) hr⟩
  show Q_cp21 Z u h0 n0 _ T544.heap _
  exact ⟨r1, kr544, rfl, N544, KK544, sz_r1, V544⟩
abbrev R_toa1 : Room := { frames := 3, cells := 1, slots := 1, locals := 46 }
def Q_toa1 (Z : State) (u : Addr) (h0 : Heap) (n0 : Nat) (v : Option Value) (h : Heap) (L : List Loc) : Prop := ∃ (r : Addr) (kr : ClassId), v = some (.ref r) ∧ Fr n0 L ∧ Keep h0 h [] ∧ h0.size ≤ r ∧ Arv Z h r kr (.object "java/lang/Object") (1 : Int32) [(.ref u)] .null
theorem rm_toa1 {l : Launch} {Z : State} {a0 : Array Value} (hw : own_W a0 Z) (x : Addr) (mc : Int32) (ed : Addr) (ke : ClassId) (u : Addr) (mir : Addr) (h0 : Heap) (n0 : Nat) (Z0 : n0 ≤ h0.size)  (HA : own_AL Z h0 x (.ref ed) (1 : Int32) mc) (HE : own_Ed Z h0 ed ke [(.ref u), .null, .null, .null, .null, .null, .null, .null, .null, .null]) (Eu : Exa Z h0 u "java/lang/String")(M : own_Mir Z mir) : own_Met l y25 jdk_38_method_16_code 1 (some (.array (.object "java/lang/Object"))) R_toa1 Z h0 #[(.ref x)] (Q_toa1 Z u h0 n0) := by
  refine own_body (plainFor_of_name pn_ali) fun p e s m below meth c s₁ hlk hret hnm hx hby hml hown hZ X0 e0 => ?_
  have N0 := Fr.nil n0
  obtain ⟨Ga, Sa, nx, og⟩ := own_ga (p := p) (e := e) (below := below) s₁ (eF_2 m x)
  have S0 : Ga s₁ (mkF m 0 #[vR x] []) := nx Sa fun t k => castTop (ef_2 m x) k
  obtain ⟨Ex, Fm, Fe, Fs⟩ := HA
  obtain ⟨Ee, Ve, Ov⟩ := HE
  have S546 : Ga s₁ (mkF m 1 #[vR x] [(.ref x)]) := nx S0 fun t kt => by
    refine xa X0.here hx hby 0 0 rfl ?_
    exact kt
  obtain ⟨T547, X547, e547, st547⟩ := getF X0 hx hZ hown (host := "") (Or.inl (own_h hw 53 rfl)) Via.refl e0 Fe (g := (mkF m 1 #[vR x] [(.ref x)])) rfl rfl (own_k hby 1 (.getfield 9) 3)
  have S548 : Ga T547 (mkF m 5 #[vR x] [(.ref x), (.ref ed)]) := nx S546 fun t kt => st547 t (by
    show Sp p e below T547 (mkF m 4 #[vR x] [(.ref ed)]) _
    refine xa X547.here hx hby 4 0 rfl ?_
    exact kt)
  obtain ⟨T549, X549, e549, st549⟩ := getF X547 hx hZ hown (host := "") (Or.inl (own_h hw 76 rfl)) Via.refl e547 Fs (g := (mkF m 5 #[vR x] [(.ref x), (.ref ed)])) rfl rfl (own_k hby 5 (.getfield 48) 3)
  obtain ⟨v550, T550, L550, X550, hQ550, st550⟩ := own_cS X549 hx hZ hw hown hml 147 148 150 149 rfl rfl rfl rfl (rm_cp21 hw ed ke u mir h0 n0 Z0 ⟨Ee, Ve, Ov⟩ Eu M) e549 (W := 0) (g := (mkF m 8 #[vR x] [(.int 1), (.ref ed)])) rfl (argsL := [(.ref ed), (.int 1)]) (rest := []) pd___Ljava_lang_Object_I__Ljava_lang_Object_ (own_k hby 8 (.invokestatic 66) 3)
  obtain ⟨r1, kr550, rfl, N550q, K550, sz_r1, V550⟩ := hQ550
  have N550 := Fr.app N0 N550q
  have KK550 : Keep h0 T550.heap [] := (Keep.refl h0 []).trans K550 all0
  have S551 : Ga T550 (mkF m 11 #[vR x] [(.ref r1)]) := nx S548 fun t kt => st549 t (st550 t kt)
  refine ⟨T550, _, some (.ref r1), _, _, _, X550, og S551, fun h => (nomatch hret.symm.trans h), by decide, by decide, ?_, fun fs hr => retOut X550 hx hret rfl (Or.inr (Or.inr (Or.inr (Or.inr ⟨rfl, rfl, rfl⟩)))) (own_k hby 11 (.areturn) 1) hr⟩
  show Q_toa1 Z u h0 n0 _ T550.heap _
  exact ⟨r1, kr550, rfl, N550, KK550, sz_r1, V550⟩
abbrev R_cp32 : Room := { frames := 1, cells := 1, slots := 2, locals := 18 }
def Q_cp32 (Z : State) (u : Addr) (v' : Addr) (h0 : Heap) (n0 : Nat) (v : Option Value) (h : Heap) (L : List Loc) : Prop := ∃ (r : Addr) (kr : ClassId), v = some (.ref r) ∧ Fr n0 L ∧ Keep h0 h [] ∧ h0.size ≤ r ∧ Arv Z h r kr (.object "java/lang/Object") (2 : Int32) [(.ref u), (.ref v')] .null
theorem rm_cp32 {l : Launch} {Z : State} {a0 : Array Value} (hw : own_W a0 Z) (ed : Addr) (ke : ClassId) (u : Addr) (v' : Addr) (mir : Addr) (h0 : Heap) (n0 : Nat) (Z0 : n0 ≤ h0.size)  (HE : own_Ed Z h0 ed ke [(.ref u), (.ref v'), .null, .null, .null, .null, .null, .null, .null, .null]) (Eu : Exa Z h0 u "java/lang/String") (Ev' : Exa Z h0 v' "java/lang/String")(M : own_Mir Z mir) : own_Met l y27 jdk_65_method_120_code 4 (some (.array (.object "java/lang/Object"))) R_cp32 Z h0 #[(.ref ed), (.int 2), (.ref mir)] (Q_cp32 Z u v' h0 n0) := by
  refine own_body (plainFor_of_name pn_ckl) fun p e s m below meth c s₁ hlk hret hnm hx hby hml hown hZ X0 e0 => ?_
  have N0 := Fr.nil n0
  obtain ⟨Ga, Sa, nx, og⟩ := own_ga (p := p) (e := e) (below := below) s₁ (eF_18 m ed (2 : Int32) mir)
  have S0 : Ga s₁ (mkF m 0 #[vR ed, vI 2, vR mir, vU] []) := nx Sa fun t k => castTop (ef_18 m ed (2 : Int32) mir) k
  obtain ⟨Ee, Ve, Ov⟩ := HE
  have S552 : Ga s₁ (mkF m 1 #[vR ed, vI 2, vR mir, vU] [(.ref mir)]) := nx S0 fun t kt => by
    refine xa X0.here hx hby 0 2 rfl ?_
    exact kt
  obtain ⟨vm553, X553, st553⟩ := X0.ldcMirror hx hown (own_t hZ hw 160 rfl) (M.at hZ).eval (g := (mkF m 1 #[vR ed, vI 2, vR mir, vU] [(.ref mir)])) rfl (own_k hby 1 (.ldc 110) 2)
  obtain ⟨T553, eT553⟩ : ∃ z : State, z = s₁.setVm vm553 := ⟨_, rfl⟩
  rw [← eT553] at X553 st553
  have e553 : T553.heap = h0 := by rw [eT553]; exact e0
  have S554 : Ga T553 (mkF m 7 #[vR ed, vI 2, vR mir, vU] [(.int 2)]) := nx S552 fun t kt => st553 t (by
    show Sp p e below T553 (mkF m 3 #[vR ed, vI 2, vR mir, vU] [(.ref mir), (.ref mir)]) _
    refine Jvm.RoadKit.acmp (g := (mkF m 3 #[vR ed, vI 2, vR mir, vU] [(.ref mir), (.ref mir)])) X553 hx rfl rfl rfl (pc0 := 3) (pc' := 6) (same := true) rfl (own_k hby 3 (.if_acmp .ne 10) 3) rfl (decide_eq_true rfl) (by decide) (by decide) ?_
    refine xi X553.here hx hby 6 1 rfl ?_
    exact kt)
  obtain ⟨T555, h555, k555, X555, e555, E555, A555, O555, st555⟩ := newR X553 hx hZ hown (own_h hw 161 rfl) (own_h hw 98 rfl) e553 (g := (mkF m 7 #[vR ed, vI 2, vR mir, vU] [(.int 2)])) rfl (own_k hby 7 (.anewarray 2) 3) rfl (by decide) (cap := 2) (by decide) (by decide) (by decide) (by decide)
  obtain ⟨r1, g555⟩ : ∃ z, z = h0.size := ⟨_, rfl⟩
  rw [← g555] at A555 st555
  have ne556 : ed ≠ r1 := by rw [g555]; exact Nat.ne_of_lt Ee.lt
  have ne557 : u ≠ r1 := by rw [g555]; exact Nat.ne_of_lt Eu.lt
  have ne558 : v' ≠ r1 := by rw [g555]; exact Nat.ne_of_lt Ev'.lt
  have g_r1 : n0 ≤ r1 := Nat.le_trans Z0 (Nat.le_of_eq g555.symm)
  have sz_r1 : h0.size ≤ r1 := Nat.le_trans (Keep.refl h0 []).1 (Nat.le_of_eq g555.symm)
  have K555 : Keep h0 h555 [] := (Keep.refl h0 []).ext E555
  have V555 : Arv Z h555 r1 k555 (.object "java/lang/Object") (2 : Int32) [.null, .null] .null := (Arv.new A555 (by decide)).pad (pad_rep [] _ 2)
  have S559 : Ga T555 (mkF m 30 #[vR ed, vI 2, vR mir, vR r1] [(.ref ed), (.int 0), (.ref r1), (.int 0), (.ref ed)]) := nx S554 fun t kt => st555 t (by
    show Sp p e below T555 (mkF m 10 #[vR ed, vI 2, vR mir, vU] [(.ref r1)]) _
    refine XS.goto X555.here hx rfl (pc0 := 10) (pc' := 24) rfl (own_k hby 10 (.goto 14) 3) (by decide) (by decide) ?_
    refine XS.astoreN X555.here hx rfl (own_k hby 24 (.astore_n 3) 1) rfl rfl (l' := #[vR ed, vI 2, vR mir, vR r1]) rfl ?_
    refine xa X555.here hx hby 25 0 rfl ?_
    refine xc X555.here hx hby 26 0 ?_
    show Sp p e below T555 (mkF m 27 #[vR ed, vI 2, vR mir, vR r1] [(.int 0), (.ref ed)]) _
    refine xa X555.here hx hby 27 3 rfl ?_
    refine xc X555.here hx hby 28 0 ?_
    refine xa X555.here hx hby 29 0 rfl ?_
    exact kt)
  have f560 := (Ve.ext E555)
  obtain ⟨co561, Ao561, qo561, So561, No561, Ho561, Go561⟩ := id f560
  have S562 : Ga T555 (mkF m 32 #[vR ed, vI 2, vR mir, vR r1] [(.int 2), (.int 10), (.int 0), (.ref r1), (.int 0), (.ref ed)]) := nx S559 fun t kt => by
    refine X555.arraylength hx (by rw [e555]; exact Ao561.1) (State.isArrayOf_alike hZ.alike Ao561.2.1) (g := (mkF m 30 #[vR ed, vI 2, vR mir, vR r1] [(.ref ed), (.int 0), (.ref r1), (.int 0), (.ref ed)])) rfl rfl (own_k hby 30 (.arraylength) 1) _ ?_
    rw [len_of So561 No561]
    show Sp p e below T555 (mkF m 31 #[vR ed, vI 2, vR mir, vR r1] [(.int 10), (.int 0), (.ref r1), (.int 0), (.ref ed)]) _
    refine xi X555.here hx hby 31 1 rfl ?_
    exact kt
  have z563 := (Nat.le_trans Z0 E555.1)
  obtain ⟨v564, T564, L564, X564, hQ564, st564⟩ := own_cS X555 hx hZ hw hown hml 162 163 164 95 rfl rfl rfl rfl (rm_mnr hw 10 2 h555 n0 z563 (by decide)) e555 (W := 4) (g := (mkF m 32 #[vR ed, vI 2, vR mir, vR r1] [(.int 2), (.int 10), (.int 0), (.ref r1), (.int 0), (.ref ed)])) rfl (argsL := [(.int 10), (.int 2)]) (rest := [(.int 0), (.ref r1), (.int 0), (.ref ed)]) pd__II_I (own_k hby 32 (.invokestatic 304) 3)
  obtain ⟨rfl, N564q, e564⟩ := hQ564
  have N564 := Fr.app N0 N564q
  obtain ⟨co565, Ao565, qo565, So565, No565, Ho565, Go565⟩ := id V555
  have f566 := (Eu.ext E555)
  have f567 := (Ev'.ext E555)
  obtain ⟨T568, h568, L568, X568, e568, N568, K568, Vq568, st568⟩ := cpA X564 hx hZ hown (own_h hw 165 rfl) (own_h hw 168 rfl) (own_h hw 166 rfl) (own_h hw 167 rfl) e564 f560 V555 (sp := (0 : Int32)) (dp := (0 : Int32)) (nn := (2 : Int32)) (us := [(.ref u), (.ref v')]) (Or.inr ⟨rfl, rfl, ⟨Sto.ofV Ao565 qo565 O555 (Ins.of_exa f566 (own_h hw 99 rfl)), Sto.ofV Ao565 qo565 O555 (Ins.of_exa f567 (own_h hw 99 rfl)), trivial⟩⟩) (by decide) (by decide) (by decide) (by decide) (by decide) rfl (Nat.le_of_ble_eq_true rfl) N564 g_r1 (g := (mkF m 35 #[vR ed, vI 2, vR mir, vR r1] [(.int 2), (.int 0), (.ref r1), (.int 0), (.ref ed)])) rfl (by rw [hml]; rfl) rfl (own_k hby 35 (.invokestatic 150) 3) (by decide) (W := 0) (by show 2 * 0 + _ ≤ _; exact Nat.le_of_eq rfl) (by decide)
  have KK568 : Keep h0 h568 [] := K555.trans K568 (allS (Or.inr sz_r1) all0)
  have V568 : Arv Z h568 r1 k555 (.object "java/lang/Object") (2 : Int32) [(.ref u), (.ref v')] .null := Vq568
  have S569 : Ga T568 (mkF m 39 #[vR ed, vI 2, vR mir, vR r1] [(.ref r1)]) := nx S562 fun t kt => st564 t (st568 t (by
    show Sp p e below T568 (mkF m 38 #[vR ed, vI 2, vR mir, vR r1] []) _
    refine xa X568.here hx hby 38 3 rfl ?_
    exact kt))
  refine ⟨T568, _, some (.ref r1), _, _, _, X568, og S569, fun h => (nomatch hret.symm.trans h), by decide, by decide, ?_, fun fs hr => retOut X568 hx hret rfl (Or.inr (Or.inr (Or.inr (Or.inr ⟨rfl, rfl, rfl⟩)))) (own_k hby 39 (.areturn) 1) hr⟩
  show Q_cp32 Z u v' h0 n0 _ T568.heap _
  rw [e568]
  exact ⟨r1, k555, rfl, N568, KK568, sz_r1, V568⟩
abbrev R_cp22 : Room := { frames := 2, cells := 1, slots := 2, locals := 33 }
def Q_cp22 (Z : State) (u : Addr) (v' : Addr) (h0 : Heap) (n0 : Nat) (v : Option Value) (h : Heap) (L : List Loc) : Prop := ∃ (r : Addr) (kr : ClassId), v = some (.ref r) ∧ Fr n0 L ∧ Keep h0 h [] ∧ h0.size ≤ r ∧ Arv Z h r kr (.object "java/lang/Object") (2 : Int32) [(.ref u), (.ref v')] .null
theorem rm_cp22 {l : Launch} {Z : State} {a0 : Array Value} (hw : own_W a0 Z) (ed : Addr) (ke : ClassId) (u : Addr) (v' : Addr) (mir : Addr) (h0 : Heap) (n0 : Nat) (Z0 : n0 ≤ h0.size)  (HE : own_Ed Z h0 ed ke [(.ref u), (.ref v'), .null, .null, .null, .null, .null, .null, .null, .null]) (Eu : Exa Z h0 u "java/lang/String") (Ev' : Exa Z h0 v' "java/lang/String")(M : own_Mir Z mir) : own_Met l y26 jdk_65_method_119_code 2 (some (.array (.object "java/lang/Object"))) R_cp22 Z h0 #[(.ref ed), (.int 2)] (Q_cp22 Z u v' h0 n0) := by
  refine own_body (plainFor_of_name pn_ckl) fun p e s m below meth c s₁ hlk hret hnm hx hby hml hown hZ X0 e0 => ?_
  have N0 := Fr.nil n0
  obtain ⟨Ga, Sa, nx, og⟩ := own_ga (p := p) (e := e) (below := below) s₁ (eF_10 m ed (2 : Int32))
  have S0 : Ga s₁ (mkF m 0 #[vR ed, vI 2] []) := nx Sa fun t k => castTop (ef_10 m ed (2 : Int32)) k
  obtain ⟨Ee, Ve, Ov⟩ := HE
  have S570 : Ga s₁ (mkF m 3 #[vR ed, vI 2] [(.ref ed), (.int 2), (.ref ed)]) := nx S0 fun t kt => by
    refine xa X0.here hx hby 0 0 rfl ?_
    refine xi X0.here hx hby 1 1 rfl ?_
    refine xa X0.here hx hby 2 0 rfl ?_
    exact kt
  obtain ⟨cq571, kq571, q571a, q571b, q571c⟩ := isOf hZ e0 Ee
  obtain ⟨cm571, km571, m571a, m571b, m571c⟩ := M.at hZ
  have m571d := m571a.symm.trans q571a
  obtain rfl := Option.some.inj m571d
  obtain ⟨vm572, X572, st572⟩ := X0.getClassOf hx hown (own_t hZ hw 151 rfl) (own_t hZ hw 152 rfl) (own_nfO (args := #[]) (mv hZ (own_h hw 128 rfl))) (own_t hZ hw 154 rfl) (own_t hZ hw 153 rfl) (own_t hZ hw 155 rfl) (C := "[Ljava/lang/Object;") m571a q571c m571b m571c (g := (mkF m 3 #[vR ed, vI 2] [(.ref ed), (.int 2), (.ref ed)])) rfl (by rw [hml]; rfl) rfl (own_k hby 3 (.invokevirtual 86) 3) (Nat.le_of_ble_eq_true rfl) (Nat.le_of_ble_eq_true rfl)
  obtain ⟨T572, eT572⟩ : ∃ z : State, z = s₁.setVm vm572 := ⟨_, rfl⟩
  rw [← eT572] at X572 st572
  have e572 : T572.heap = h0 := by rw [eT572]; exact e0
  obtain ⟨v573, T573, L573, X573, hQ573, st573⟩ := own_cS X572 hx hZ hw hown hml 157 158 159 149 rfl rfl rfl rfl (rm_cp32 hw ed ke u v' mir h0 n0 Z0 ⟨Ee, Ve, Ov⟩ Eu Ev' M) e572 (W := 0) (g := (mkF m 6 #[vR ed, vI 2] [(.ref mir), (.int 2), (.ref ed)])) rfl (argsL := [(.ref ed), (.int 2), (.ref mir)]) (rest := []) pd___Ljava_lang_Object_ILjava_lang_Class___Ljava_lang_Object_ (own_k hby 6 (.invokestatic 300) 3)
  obtain ⟨r1, kr573, rfl, N573q, K573, sz_r1, V573⟩ := hQ573
  have N573 := Fr.app N0 N573q
  have KK573 : Keep h0 T573.heap [] := (Keep.refl h0 []).trans K573 all0
  have S574 : Ga T573 (mkF m 9 #[vR ed, vI 2] [(.ref r1)]) := nx S570 fun t kt => st572 t (st573 t kt)
  refine ⟨T573, _, some (.ref r1), _, _, _, X573, og S574, fun h => (nomatch hret.symm.trans h), by decide, by decide, ?_, fun fs hr => retOut X573 hx hret rfl (Or.inr (Or.inr (Or.inr (Or.inr ⟨rfl, rfl, rfl⟩)))) (own_k hby 9 (.areturn) 1) hr⟩
  show Q_cp22 Z u v' h0 n0 _ T573.heap _
  exact ⟨r1, kr573, rfl, N573, KK573, sz_r1, V573⟩
abbrev R_toa2 : Room := { frames := 3, cells := 1, slots := 2, locals := 46 }
def Q_toa2 (Z : State) (u : Addr) (v' : Addr) (h0 : Heap) (n0 : Nat) (v : Option Value) (h : Heap) (L : List Loc) : Prop := ∃ (r : Addr) (kr : ClassId), v = some (.ref r) ∧ Fr n0 L ∧ Keep h0 h [] ∧ h0.size ≤ r ∧ Arv Z h r kr (.object "java/lang/Object") (2 : Int32) [(.ref u), (.ref v')] .null
theorem rm_toa2 {l : Launch} {Z : State} {a0 : Array Value} (hw : own_W a0 Z) (x : Addr) (mc : Int32) (ed : Addr) (ke : ClassId) (u : Addr) (v' : Addr) (mir : Addr) (h0 : Heap) (n0 : Nat) (Z0 : n0 ≤ h0.size)  (HA : own_AL Z h0 x (.ref ed) (2 : Int32) mc) (HE : own_Ed Z h0 ed ke [(.ref u), (.ref v'), .null, .null, .null, .null, .null, .null, .null, .null]) (Eu : Exa Z h0 u "java/lang/String") (Ev' : Exa Z h0 v' "java/lang/String")(M : own_Mir Z mir) : own_Met l y25 jdk_38_method_16_code 1 (some (.array (.object "java/lang/Object"))) R_toa2 Z h0 #[(.ref x)] (Q_toa2 Z u v' h0 n0) := by
  refine own_body (plainFor_of_name pn_ali) fun p e s m below meth c s₁ hlk hret hnm hx hby hml hown hZ X0 e0 => ?_
  have N0 := Fr.nil n0
  obtain ⟨Ga, Sa, nx, og⟩ := own_ga (p := p) (e := e) (below := below) s₁ (eF_2 m x)
  have S0 : Ga s₁ (mkF m 0 #[vR x] []) := nx Sa fun t k => castTop (ef_2 m x) k
  obtain ⟨Ex, Fm, Fe, Fs⟩ := HA
  obtain ⟨Ee, Ve, Ov⟩ := HE
  have S575 : Ga s₁ (mkF m 1 #[vR x] [(.ref x)]) := nx S0 fun t kt => by
    refine xa X0.here hx hby 0 0 rfl ?_
    exact kt
  obtain ⟨T576, X576, e576, st576⟩ := getF X0 hx hZ hown (host := "") (Or.inl (own_h hw 53 rfl)) Via.refl e0 Fe (g := (mkF m 1 #[vR x] [(.ref x)])) rfl rfl (own_k hby 1 (.getfield 9) 3)
  have S577 : Ga T576 (mkF m 5 #[vR x] [(.ref x), (.ref ed)]) := nx S575 fun t kt => st576 t (by
    show Sp p e below T576 (mkF m 4 #[vR x] [(.ref ed)]) _
    refine xa X576.here hx hby 4 0 rfl ?_
    exact kt)
  obtain ⟨T578, X578, e578, st578⟩ := getF X576 hx hZ hown (host := "") (Or.inl (own_h hw 76 rfl)) Via.refl e576 Fs (g := (mkF m 5 #[vR x] [(.ref x), (.ref ed)])) rfl rfl (own_k hby 5 (.getfield 48) 3)
  obtain ⟨v579, T579, L579, X579, hQ579, st579⟩ := own_cS X578 hx hZ hw hown hml 147 148 150 149 rfl rfl rfl rfl (rm_cp22 hw ed ke u v' mir h0 n0 Z0 ⟨Ee, Ve, Ov⟩ Eu Ev' M) e578 (W := 0) (g := (mkF m 8 #[vR x] [(.int 2), (.ref ed)])) rfl (argsL := [(.ref ed), (.int 2)]) (rest := []) pd___Ljava_lang_Object_I__Ljava_lang_Object_ (own_k hby 8 (.invokestatic 66) 3)
  obtain ⟨r1, kr579, rfl, N579q, K579, sz_r1, V579⟩ := hQ579
  have N579 := Fr.app N0 N579q
  have KK579 : Keep h0 T579.heap [] := (Keep.refl h0 []).trans K579 all0
  have S580 : Ga T579 (mkF m 11 #[vR x] [(.ref r1)]) := nx S577 fun t kt => st578 t (st579 t kt)
  refine ⟨T579, _, some (.ref r1), _, _, _, X579, og S580, fun h => (nomatch hret.symm.trans h), by decide, by decide, ?_, fun fs hr => retOut X579 hx hret rfl (Or.inr (Or.inr (Or.inr (Or.inr ⟨rfl, rfl, rfl⟩)))) (own_k hby 11 (.areturn) 1) hr⟩
  show Q_toa2 Z u v' h0 n0 _ T579.heap _
  exact ⟨r1, kr579, rfl, N579, KK579, sz_r1, V579⟩
abbrev R_l121 : Room := { frames := 4, cells := 0, slots := 0, locals := 48 }
theorem pn_l121 : plainName "java/util/ImmutableCollections$List12" = true := by first | (simp [plainName, overriddenIn]; done) | decide +kernel
def Q_l121 (Z : State) (ey : Addr) (x : Addr) (u : Addr) (h0 : Heap) (n0 : Nat) (v : Option Value) (h : Heap) (L : List Loc) : Prop := v = none ∧ Fr n0 L ∧ Keep h0 h [x] ∧ own_L Z h x (.ref u) (.ref ey)
theorem rm_l121 {l : Launch} {Z : State} {a0 : Array Value} (hw : own_W a0 Z) (no : Nat) (de : Addr) (em : Addr) (el : Addr) (ey : Addr)(x : Addr) (u : Addr) (h0 : Heap) (n0 : Nat) (Z0 : n0 ≤ h0.size) (SS : own_St Z de em el ey) (hno : no ≤ n0) (O0 : Old Z no h0) (HL : own_L Z h0 x .null .null) (g_x : n0 ≤ x) : own_Met l y73 jdk_44_method_1_code 2 none R_l121 Z h0 #[(.ref x), (.ref u)] (Q_l121 Z ey x u h0 n0) := by
  refine own_body (plainFor_of_name pn_l121) fun p e s m below meth c s₁ hlk hret hnm hx hby hml hown hZ X0 e0 => ?_
  have N0 := Fr.nil n0
  obtain ⟨Ga, Sa, nx, og⟩ := own_ga (p := p) (e := e) (below := below) s₁ (eF_6 m x u)
  have S0 : Ga s₁ (mkF m 0 #[vR x, vR u] []) := nx Sa fun t k => castTop (ef_6 m x u) k
  obtain ⟨⟨cz, S_cs, hcz⟩, ⟨kde, S_de, E_de, V_de⟩, ⟨kel, S_em, E_em, F_em, V_el⟩, S_ey, E_ey⟩ := id SS
  obtain ⟨El, F0, F1⟩ := HL
  have S581 : Ga s₁ (mkF m 1 #[vR x, vR u] [(.ref x)]) := nx S0 fun t kt => by
    refine xa X0.here hx hby 0 0 rfl ?_
    exact kt
  obtain ⟨v582, T582, L582, X582, hQ582, st582⟩ := own_cI X0 hx hZ hw hown hml 179 180 184 183 rfl rfl rfl rfl rfl (a := x) (rm_ail hw x h0 n0 Z0 ) e0 (W := 0) (g := (mkF m 1 #[vR x, vR u] [(.ref x)])) rfl (argsL := []) (rest := []) pd___V (own_k hby 1 (.invokespecial 1) 3)
  obtain ⟨rfl, N582q, e582⟩ := hQ582
  have N582 := Fr.app N0 N582q
  have S583 : Ga T582 (mkF m 6 #[vR x, vR u] [(.ref u), (.ref x)]) := nx S581 fun t kt => st582 t (by
    show Sp p e below T582 (mkF m 4 #[vR x, vR u] []) _
    refine xa X582.here hx hby 4 0 rfl ?_
    refine xa X582.here hx hby 5 1 rfl ?_
    exact kt)
  obtain ⟨v584, T584, L584, X584, hQ584, st584⟩ := own_cS X582 hx hZ hw hown hml 193 194 196 195 rfl rfl rfl rfl (rm_rnn hw u h0 n0 Z0 ) e582 (W := 1) (g := (mkF m 6 #[vR x, vR u] [(.ref u), (.ref x)])) rfl (argsL := [(.ref u)]) (rest := [(.ref x)]) pd__Ljava_lang_Object__Ljava_lang_Object_ (own_k hby 6 (.invokestatic 7) 3)
  obtain ⟨rfl, N584q, e584⟩ := hQ584
  have N584 := Fr.app N582 N584q
  obtain ⟨T585, h585, X585, e585, W585, st585⟩ := putF X584 hx hZ hown (host := "") (Or.inl (own_h hw 197 rfl)) Via.refl e584 F0 El (Or.inr ⟨(own_h hw 198 rfl), rfl, hnm⟩) (own_h hw 173 rfl) (ty := (.object "java/lang/Object")) (by decide) rfl rfl (g := (mkF m 9 #[vR x, vR u] [(.ref u), (.ref x)])) rfl rfl (own_k hby 9 (.putfield 13) 3)
  have N585 := Fr.snoc X585 N584 g_x
  have K585 : Keep h0 h585 [x] := (Keep.refl h0 [x]).wr W585 (Or.inl (by simp))
  have Fw585 := F0.same W585
  have S586 : Ga T585 (mkF m 13 #[vR x, vR u] [(.ref x)]) := nx S583 fun t kt => st584 t (st585 t (by
    show Sp p e below T585 (mkF m 12 #[vR x, vR u] []) _
    refine xa X585.here hx hby 12 0 rfl ?_
    exact kt))
  have f587 := (O0.wr W585 (Nat.le_trans hno g_x))
  obtain ⟨T588, X588, e588, st588⟩ := getS2 X585 hx hZ hown (Or.inr (own_h hw 329 rfl)) Via.refl e585 (S_ey.ext f587.2) (g := (mkF m 13 #[vR x, vR u] [(.ref x)])) rfl (own_k hby 13 (.getstatic 19) 3)
  have f589 := (F1.other W585 (Or.inr (ns14 hw)))
  have f590 := (El.wr W585)
  obtain ⟨T591, h591, X591, e591, W591, st591⟩ := putF X588 hx hZ hown (host := "") (Or.inl (own_h hw 199 rfl)) Via.refl e588 f589 f590 (Or.inr ⟨(own_h hw 200 rfl), rfl, hnm⟩) (own_h hw 173 rfl) (ty := (.object "java/lang/Object")) (by decide) rfl rfl (g := (mkF m 16 #[vR x, vR u] [(.ref ey), (.ref x)])) rfl rfl (own_k hby 16 (.putfield 24) 3)
  have N591 := Fr.snoc X591 N585 g_x
  have K591 : Keep h0 h591 [x] := K585.wr W591 (Or.inl (by simp))
  have Fw591 := f589.same W591
  have f592 := (f590.wr W591)
  have f593 := (Fw585.other W591 (Or.inr (ns15 hw)))
  have S594 : Ga T591 (mkF m 19 #[vR x, vR u] []) := nx S586 fun t kt => st588 t (st591 t kt)
  refine ⟨T591, _, none, _, _, _, X591, og S594, fun _ => rfl, by decide, by decide, ?_, fun fs hr => X591.returnOut hx hret (own_k hby 19 (.return_) 1) hr⟩
  show Q_l121 Z ey x u h0 n0 _ T591.heap _
  rw [e591]
  exact ⟨rfl, N591, K591, ⟨f592, f593, Fw591⟩⟩
abbrev R_l122 : Room := { frames := 4, cells := 0, slots := 0, locals := 48 }
abbrev eF_19 (m : MethodId) (x0 : Addr) (x1 : Addr) (x2 : Addr) : JFrame := entryFrame m #[(.ref x0), (.ref x1), (.ref x2)] 3
theorem ef_19 (m : MethodId) (x0 : Addr) (x1 : Addr) (x2 : Addr) : entryFrame m #[(.ref x0), (.ref x1), (.ref x2)] 3 = mkF m 0 #[.val (.ref x0), .val (.ref x1), .val (.ref x2)] [] := by first | (simp [entryFrame, mkF, argsToLocals, Value.category]; done) | rfl
def Q_l122 (Z : State) (x : Addr) (u : Addr) (v' : Addr) (h0 : Heap) (n0 : Nat) (v : Option Value) (h : Heap) (L : List Loc) : Prop := v = none ∧ Fr n0 L ∧ Keep h0 h [x] ∧ own_L Z h x (.ref u) (.ref v')
theorem rm_l122 {l : Launch} {Z : State} {a0 : Array Value} (hw : own_W a0 Z) (no : Nat) (de : Addr) (em : Addr) (el : Addr) (ey : Addr)(x : Addr) (u : Addr) (v' : Addr) (h0 : Heap) (n0 : Nat) (Z0 : n0 ≤ h0.size) (SS : own_St Z de em el ey) (hno : no ≤ n0) (O0 : Old Z no h0) (HL : own_L Z h0 x .null .null) (g_x : n0 ≤ x) : own_Met l y30 jdk_44_method_2_code 3 none R_l122 Z h0 #[(.ref x), (.ref u), (.ref v')] (Q_l122 Z x u v' h0 n0) := by
  refine own_body (plainFor_of_name pn_l121) fun p e s m below meth c s₁ hlk hret hnm hx hby hml hown hZ X0 e0 => ?_
  have N0 := Fr.nil n0
  obtain ⟨Ga, Sa, nx, og⟩ := own_ga (p := p) (e := e) (below := below) s₁ (eF_19 m x u v')
  have S0 : Ga s₁ (mkF m 0 #[vR x, vR u, vR v'] []) := nx Sa fun t k => castTop (ef_19 m x u v') k
  obtain ⟨⟨cz, S_cs, hcz⟩, ⟨kde, S_de, E_de, V_de⟩, ⟨kel, S_em, E_em, F_em, V_el⟩, S_ey, E_ey⟩ := id SS
  obtain ⟨El, F0, F1⟩ := HL
  have S595 : Ga s₁ (mkF m 1 #[vR x, vR u, vR v'] [(.ref x)]) := nx S0 fun t kt => by
    refine xa X0.here hx hby 0 0 rfl ?_
    exact kt
  obtain ⟨v596, T596, L596, X596, hQ596, st596⟩ := own_cI X0 hx hZ hw hown hml 179 180 184 183 rfl rfl rfl rfl rfl (a := x) (rm_ail hw x h0 n0 Z0 ) e0 (W := 0) (g := (mkF m 1 #[vR x, vR u, vR v'] [(.ref x)])) rfl (argsL := []) (rest := []) pd___V (own_k hby 1 (.invokespecial 1) 3)
  obtain ⟨rfl, N596q, e596⟩ := hQ596
  have N596 := Fr.app N0 N596q
  have S597 : Ga T596 (mkF m 6 #[vR x, vR u, vR v'] [(.ref u), (.ref x)]) := nx S595 fun t kt => st596 t (by
    show Sp p e below T596 (mkF m 4 #[vR x, vR u, vR v'] []) _
    refine xa X596.here hx hby 4 0 rfl ?_
    refine xa X596.here hx hby 5 1 rfl ?_
    exact kt)
  obtain ⟨v598, T598, L598, X598, hQ598, st598⟩ := own_cS X596 hx hZ hw hown hml 193 194 196 195 rfl rfl rfl rfl (rm_rnn hw u h0 n0 Z0 ) e596 (W := 1) (g := (mkF m 6 #[vR x, vR u, vR v'] [(.ref u), (.ref x)])) rfl (argsL := [(.ref u)]) (rest := [(.ref x)]) pd__Ljava_lang_Object__Ljava_lang_Object_ (own_k hby 6 (.invokestatic 7) 3)
  obtain ⟨rfl, N598q, e598⟩ := hQ598
  have N598 := Fr.app N596 N598q
  obtain ⟨T599, h599, X599, e599, W599, st599⟩ := putF X598 hx hZ hown (host := "") (Or.inl (own_h hw 197 rfl)) Via.refl e598 F0 El (Or.inr ⟨(own_h hw 198 rfl), rfl, hnm⟩) (own_h hw 173 rfl) (ty := (.object "java/lang/Object")) (by decide) rfl rfl (g := (mkF m 9 #[vR x, vR u, vR v'] [(.ref u), (.ref x)])) rfl rfl (own_k hby 9 (.putfield 13) 3)
  have N599 := Fr.snoc X599 N598 g_x
  have K599 : Keep h0 h599 [x] := (Keep.refl h0 [x]).wr W599 (Or.inl (by simp))
  have Fw599 := F0.same W599
  have S600 : Ga T599 (mkF m 14 #[vR x, vR u, vR v'] [(.ref v'), (.ref x)]) := nx S597 fun t kt => st598 t (st599 t (by
    show Sp p e below T599 (mkF m 12 #[vR x, vR u, vR v'] []) _
    refine xa X599.here hx hby 12 0 rfl ?_
    refine xa X599.here hx hby 13 2 rfl ?_
    exact kt))
  have z601 := (Nat.le_trans Z0 (Keep.of_wr W599).1)
  obtain ⟨v602, T602, L602, X602, hQ602, st602⟩ := own_cS X599 hx hZ hw hown hml 193 194 196 195 rfl rfl rfl rfl (rm_rnn hw v' h599 n0 z601 ) e599 (W := 1) (g := (mkF m 14 #[vR x, vR u, vR v'] [(.ref v'), (.ref x)])) rfl (argsL := [(.ref v')]) (rest := [(.ref x)]) pd__Ljava_lang_Object__Ljava_lang_Object_ (own_k hby 14 (.invokestatic 7) 3)
  obtain ⟨rfl, N602q, e602⟩ := hQ602
  have N602 := Fr.app N599 N602q
  have f603 := (F1.other W599 (Or.inr (ns14 hw)))
  have f604 := (El.wr W599)
  obtain ⟨T605, h605, X605, e605, W605, st605⟩ := putF X602 hx hZ hown (host := "") (Or.inl (own_h hw 199 rfl)) Via.refl e602 f603 f604 (Or.inr ⟨(own_h hw 200 rfl), rfl, hnm⟩) (own_h hw 173 rfl) (ty := (.object "java/lang/Object")) (by decide) rfl rfl (g := (mkF m 17 #[vR x, vR u, vR v'] [(.ref v'), (.ref x)])) rfl rfl (own_k hby 17 (.putfield 24) 3)
  have N605 := Fr.snoc X605 N602 g_x
  have K605 : Keep h0 h605 [x] := K599.wr W605 (Or.inl (by simp))
  have Fw605 := f603.same W605
  have f606 := (f604.wr W605)
  have f607 := (Fw599.other W605 (Or.inr (ns15 hw)))
  have S608 : Ga T605 (mkF m 20 #[vR x, vR u, vR v'] []) := nx S600 fun t kt => st602 t (st605 t kt)
  refine ⟨T605, _, none, _, _, _, X605, og S608, fun _ => rfl, by decide, by decide, ?_, fun fs hr => X605.returnOut hx hret (own_k hby 20 (.return_) 1) hr⟩
  show Q_l122 Z x u v' h0 n0 _ T605.heap _
  rw [e605]
  exact ⟨rfl, N605, K605, ⟨f606, f607, Fw605⟩⟩
abbrev R_lst1 : Room := { frames := 5, cells := 1, slots := 2, locals := 62 }
abbrev eF_20 (m : MethodId) (x0 : Addr) : JFrame := entryFrame m #[(.ref x0)] 2
theorem ef_20 (m : MethodId) (x0 : Addr) : entryFrame m #[(.ref x0)] 2 = mkF m 0 #[.val (.ref x0), .unset] [] := by first | (simp [entryFrame, mkF, argsToLocals, Value.category]; done) | rfl
def Q_lst1 (Z : State) (ey : Addr) (u : Addr) (h0 : Heap) (n0 : Nat) (v : Option Value) (h : Heap) (L : List Loc) : Prop := ∃ r : Addr, v = some (.ref r) ∧ Fr n0 L ∧ Keep h0 h [] ∧ h0.size ≤ r ∧ own_L Z h r (.ref u) (.ref ey)
theorem rm_lst1 {l : Launch} {Z : State} {a0 : Array Value} (hw : own_W a0 Z) (no : Nat) (de : Addr) (em : Addr) (el : Addr) (ey : Addr)(ar : Addr) (ka : ClassId) (u : Addr) (h0 : Heap) (n0 : Nat) (Z0 : n0 ≤ h0.size) (SS : own_St Z de em el ey) (hno : no ≤ n0) (O0 : Old Z no h0)(Va : Arv Z h0 ar ka (.object "java/lang/Object") (1 : Int32) [(.ref u)] .null) : own_Met l y29 jdk_40_method_47_code 2 (some (.object "java/util/List")) R_lst1 Z h0 #[(.ref ar)] (Q_lst1 Z ey u h0 n0) := by
  refine own_body (plainFor_of_name pn_lof) fun p e s m below meth c s₁ hlk hret hnm hx hby hml hown hZ X0 e0 => ?_
  have N0 := Fr.nil n0
  obtain ⟨Ga, Sa, nx, og⟩ := own_ga (p := p) (e := e) (below := below) s₁ (eF_20 m ar)
  have S0 : Ga s₁ (mkF m 0 #[vR ar, vU] []) := nx Sa fun t k => castTop (ef_20 m ar) k
  obtain ⟨⟨cz, S_cs, hcz⟩, ⟨kde, S_de, E_de, V_de⟩, ⟨kel, S_em, E_em, F_em, V_el⟩, S_ey, E_ey⟩ := id SS
  have S609 : Ga s₁ (mkF m 1 #[vR ar, vU] [(.ref ar)]) := nx S0 fun t kt => by
    refine xa X0.here hx hby 0 0 rfl ?_
    exact kt
  obtain ⟨co610, Ao610, qo610, So610, No610, Ho610, Go610⟩ := id Va
  have S611 : Ga s₁ (mkF m 34 #[vR ar, vU] []) := nx S609 fun t kt => by
    refine X0.arraylength hx (by rw [e0]; exact Ao610.1) (State.isArrayOf_alike hZ.alike Ao610.2.1) (g := (mkF m 1 #[vR ar, vU] [(.ref ar)])) rfl rfl (own_k hby 1 (.arraylength) 1) _ ?_
    rw [len_of So610 No610]
    show Sp p e below s₁ (mkF m 2 #[vR ar, vU] [(.int 1)]) _
    refine XS.tswIn X0.here hx rfl (pc0 := 2) (pc' := 34) (o := 32) rfl (own_k hby 2 (.tableswitch 57 0 2 #[26, 32, 43]) 26) rfl (by decide) rfl (by decide) (by decide) ?_
    exact kt
  obtain ⟨T612, h612, X612, e612, E612, A612, D612, -, st612⟩ := newO X0 hx hZ hown (own_h hw 172 rfl) (own_h hw 173 rfl) (own_h hw 174 rfl) e0 (g := (mkF m 34 #[vR ar, vU] [])) rfl (own_k hby 34 (.new 96) 3) (by decide) (by decide)
  obtain ⟨r1, g612⟩ : ∃ z, z = h0.size := ⟨_, rfl⟩
  rw [← g612] at A612 D612 st612
  have ne613 : ar ≠ r1 := by rw [g612]; exact Nat.ne_of_lt Va.lt
  have g_r1 : n0 ≤ r1 := Nat.le_trans Z0 (Nat.le_of_eq g612.symm)
  have sz_r1 : h0.size ≤ r1 := Nat.le_trans (Keep.refl h0 []).1 (Nat.le_of_eq g612.symm)
  have K612 : Keep h0 h612 [] := (Keep.refl h0 []).ext E612
  have F_e0_r1 : Fld Z h612 r1 "java/util/ImmutableCollections$List12" "e0" "Ljava/lang/Object;" .null := D612 (Or.inr (own_h hw 198 rfl)) (ty := (.object "java/lang/Object")) (by decide)
  have F_e1_r1 : Fld Z h612 r1 "java/util/ImmutableCollections$List12" "e1" "Ljava/lang/Object;" .null := D612 (Or.inr (own_h hw 200 rfl)) (ty := (.object "java/lang/Object")) (by decide)
  have S614 : Ga T612 (mkF m 40 #[vR ar, vU] [(.int 0), (.ref ar), (.ref r1), (.ref r1)]) := nx S611 fun t kt => st612 t (by
    show Sp p e below T612 (mkF m 37 #[vR ar, vU] [(.ref r1)]) _
    refine XS.dup X612.here hx rfl (own_k hby 37 (.dup) 1) rfl rfl ?_
    refine xa X612.here hx hby 38 0 rfl ?_
    refine xc X612.here hx hby 39 0 ?_
    exact kt)
  have f615 := (Va.ext E612)
  obtain ⟨co616, Ao616, qo616, So616, No616, Ho616, Go616⟩ := id f615
  have hino616 : ¬ ((0 : Int32) < 0 ∨ co616.slots.size ≤ ((0 : Int32)).toNatClampNeg) := inb_of So616 ⟨by decide, by decide⟩
  have hato616 : co616.slots[((0 : Int32)).toNatClampNeg]? = some (.ref u) := Has.at Ho616 hino616 rfl
  have S617 : Ga T612 (mkF m 41 #[vR ar, vU] [(.ref u), (.ref r1), (.ref r1)]) := nx S614 fun t kt => by
    refine X612.aaload hx (j := (0 : Int32)) (v := (.ref u)) (by rw [e612]; exact Ao616.1) (State.isArrayOf_alike hZ.alike Ao616.2.1) rfl Ao616.2.2 hino616 hato616 (g := (mkF m 40 #[vR ar, vU] [(.int 0), (.ref ar), (.ref r1), (.ref r1)])) rfl rfl (own_k hby 40 (.aaload) 1) _ ?_
    show Sp p e below T612 (mkF m 41 #[vR ar, vU] [(.ref u), (.ref r1), (.ref r1)]) _
    exact kt
  have f618 := (O0.ext E612)
  have z619 := (Nat.le_trans Z0 E612.1)
  obtain ⟨v620, T620, L620, X620, hQ620, st620⟩ := own_cI X612 hx hZ hw hown hml 446 447 448 174 rfl rfl rfl rfl rfl (a := r1) (rm_l121 hw no de em el ey r1 u h612 n0 z619 SS hno f618 ⟨A612, F_e0_r1, F_e1_r1⟩ g_r1) e612 (W := 1) (g := (mkF m 41 #[vR ar, vU] [(.ref u), (.ref r1), (.ref r1)])) rfl (argsL := [(.ref u)]) (rest := [(.ref r1)]) pd__Ljava_lang_Object__V (own_k hby 41 (.invokespecial 98) 3)
  obtain ⟨rfl, N620q, K620, ⟨El620, F0620, F1620⟩⟩ := hQ620
  have N620 := Fr.app N0 N620q
  have KK620 : Keep h0 T620.heap [] := K612.trans K620 (allS (Or.inr sz_r1) all0)
  have S621 : Ga T620 (mkF m 44 #[vR ar, vU] [(.ref r1)]) := nx S617 fun t kt => st620 t kt
  refine ⟨T620, _, some (.ref r1), _, _, _, X620, og S621, fun h => (nomatch hret.symm.trans h), by decide, by decide, ?_, fun fs hr => retOut X620 hx hret rfl (Or.inr (Or.inr (Or.inr (Or.inr ⟨rfl, rfl, rfl⟩)))) (own_k hby 44 (.areturn) 1) hr⟩
  show Q_lst1 Z ey u h0 n0 _ T620.heap _
  exact ⟨r1, rfl, N620, KK620, sz_r1, ⟨El620, F0620, F1620⟩⟩
abbrev R_lst2 : Room := { frames := 5, cells := 1, slots := 2, locals := 63 }
def Q_lst2 (Z : State) (u : Addr) (v' : Addr) (h0 : Heap) (n0 : Nat) (v : Option Value) (h : Heap) (L : List Loc) : Prop := ∃ r : Addr, v = some (.ref r) ∧ Fr n0 L ∧ Keep h0 h [] ∧ h0.size ≤ r ∧ own_L Z h r (.ref u) (.ref v')
theorem rm_lst2 {l : Launch} {Z : State} {a0 : Array Value} (hw : own_W a0 Z) (no : Nat) (de : Addr) (em : Addr) (el : Addr) (ey : Addr)(ar : Addr) (ka : ClassId) (u : Addr) (v' : Addr) (h0 : Heap) (n0 : Nat) (Z0 : n0 ≤ h0.size) (SS : own_St Z de em el ey) (hno : no ≤ n0) (O0 : Old Z no h0)(Va : Arv Z h0 ar ka (.object "java/lang/Object") (2 : Int32) [(.ref u), (.ref v')] .null) : own_Met l y29 jdk_40_method_47_code 2 (some (.object "java/util/List")) R_lst2 Z h0 #[(.ref ar)] (Q_lst2 Z u v' h0 n0) := by
  refine own_body (plainFor_of_name pn_lof) fun p e s m below meth c s₁ hlk hret hnm hx hby hml hown hZ X0 e0 => ?_
  have N0 := Fr.nil n0
  obtain ⟨Ga, Sa, nx, og⟩ := own_ga (p := p) (e := e) (below := below) s₁ (eF_20 m ar)
  have S0 : Ga s₁ (mkF m 0 #[vR ar, vU] []) := nx Sa fun t k => castTop (ef_20 m ar) k
  obtain ⟨⟨cz, S_cs, hcz⟩, ⟨kde, S_de, E_de, V_de⟩, ⟨kel, S_em, E_em, F_em, V_el⟩, S_ey, E_ey⟩ := id SS
  have S622 : Ga s₁ (mkF m 1 #[vR ar, vU] [(.ref ar)]) := nx S0 fun t kt => by
    refine xa X0.here hx hby 0 0 rfl ?_
    exact kt
  obtain ⟨co623, Ao623, qo623, So623, No623, Ho623, Go623⟩ := id Va
  have S624 : Ga s₁ (mkF m 45 #[vR ar, vU] []) := nx S622 fun t kt => by
    refine X0.arraylength hx (by rw [e0]; exact Ao623.1) (State.isArrayOf_alike hZ.alike Ao623.2.1) (g := (mkF m 1 #[vR ar, vU] [(.ref ar)])) rfl rfl (own_k hby 1 (.arraylength) 1) _ ?_
    rw [len_of So623 No623]
    show Sp p e below s₁ (mkF m 2 #[vR ar, vU] [(.int 2)]) _
    refine XS.tswIn X0.here hx rfl (pc0 := 2) (pc' := 45) (o := 43) rfl (own_k hby 2 (.tableswitch 57 0 2 #[26, 32, 43]) 26) rfl (by decide) rfl (by decide) (by decide) ?_
    exact kt
  obtain ⟨T625, h625, X625, e625, E625, A625, D625, -, st625⟩ := newO X0 hx hZ hown (own_h hw 172 rfl) (own_h hw 173 rfl) (own_h hw 174 rfl) e0 (g := (mkF m 45 #[vR ar, vU] [])) rfl (own_k hby 45 (.new 96) 3) (by decide) (by decide)
  obtain ⟨r1, g625⟩ : ∃ z, z = h0.size := ⟨_, rfl⟩
  rw [← g625] at A625 D625 st625
  have ne626 : ar ≠ r1 := by rw [g625]; exact Nat.ne_of_lt Va.lt
  have g_r1 : n0 ≤ r1 := Nat.le_trans Z0 (Nat.le_of_eq g625.symm)
  have sz_r1 : h0.size ≤ r1 := Nat.le_trans (Keep.refl h0 []).1 (Nat.le_of_eq g625.symm)
  have K625 : Keep h0 h625 [] := (Keep.refl h0 []).ext E625
  have F_e0_r1 : Fld Z h625 r1 "java/util/ImmutableCollections$List12" "e0" "Ljava/lang/Object;" .null := D625 (Or.inr (own_h hw 198 rfl)) (ty := (.object "java/lang/Object")) (by decide)
  have F_e1_r1 : Fld Z h625 r1 "java/util/ImmutableCollections$List12" "e1" "Ljava/lang/Object;" .null := D625 (Or.inr (own_h hw 200 rfl)) (ty := (.object "java/lang/Object")) (by decide)
  have S627 : Ga T625 (mkF m 51 #[vR ar, vU] [(.int 0), (.ref ar), (.ref r1), (.ref r1)]) := nx S624 fun t kt => st625 t (by
    show Sp p e below T625 (mkF m 48 #[vR ar, vU] [(.ref r1)]) _
    refine XS.dup X625.here hx rfl (own_k hby 48 (.dup) 1) rfl rfl ?_
    refine xa X625.here hx hby 49 0 rfl ?_
    refine xc X625.here hx hby 50 0 ?_
    exact kt)
  have f628 := (Va.ext E625)
  obtain ⟨co629, Ao629, qo629, So629, No629, Ho629, Go629⟩ := id f628
  have hino629 : ¬ ((0 : Int32) < 0 ∨ co629.slots.size ≤ ((0 : Int32)).toNatClampNeg) := inb_of So629 ⟨by decide, by decide⟩
  have hato629 : co629.slots[((0 : Int32)).toNatClampNeg]? = some (.ref u) := Has.at Ho629 hino629 rfl
  have S630 : Ga T625 (mkF m 52 #[vR ar, vU] [(.ref u), (.ref r1), (.ref r1)]) := nx S627 fun t kt => by
    refine X625.aaload hx (j := (0 : Int32)) (v := (.ref u)) (by rw [e625]; exact Ao629.1) (State.isArrayOf_alike hZ.alike Ao629.2.1) rfl Ao629.2.2 hino629 hato629 (g := (mkF m 51 #[vR ar, vU] [(.int 0), (.ref ar), (.ref r1), (.ref r1)])) rfl rfl (own_k hby 51 (.aaload) 1) _ ?_
    show Sp p e below T625 (mkF m 52 #[vR ar, vU] [(.ref u), (.ref r1), (.ref r1)]) _
    exact kt
  have S631 : Ga T625 (mkF m 54 #[vR ar, vU] [(.int 1), (.ref ar), (.ref u), (.ref r1), (.ref r1)]) := nx S630 fun t kt => by
    refine xa X625.here hx hby 52 0 rfl ?_
    refine xc X625.here hx hby 53 1 ?_
    exact kt
  obtain ⟨co632, Ao632, qo632, So632, No632, Ho632, Go632⟩ := id f628
  have hino632 : ¬ ((1 : Int32) < 0 ∨ co632.slots.size ≤ ((1 : Int32)).toNatClampNeg) := inb_of So632 ⟨by decide, by decide⟩
  have hato632 : co632.slots[((1 : Int32)).toNatClampNeg]? = some (.ref v') := Has.at Ho632 hino632 rfl
  have S633 : Ga T625 (mkF m 55 #[vR ar, vU] [(.ref v'), (.ref u), (.ref r1), (.ref r1)]) := nx S631 fun t kt => by
    refine X625.aaload hx (j := (1 : Int32)) (v := (.ref v')) (by rw [e625]; exact Ao632.1) (State.isArrayOf_alike hZ.alike Ao632.2.1) rfl Ao632.2.2 hino632 hato632 (g := (mkF m 54 #[vR ar, vU] [(.int 1), (.ref ar), (.ref u), (.ref r1), (.ref r1)])) rfl rfl (own_k hby 54 (.aaload) 1) _ ?_
    show Sp p e below T625 (mkF m 55 #[vR ar, vU] [(.ref v'), (.ref u), (.ref r1), (.ref r1)]) _
    exact kt
  have f634 := (O0.ext E625)
  have z635 := (Nat.le_trans Z0 E625.1)
  obtain ⟨v636, T636, L636, X636, hQ636, st636⟩ := own_cI X625 hx hZ hw hown hml 175 176 178 174 rfl rfl rfl rfl rfl (a := r1) (rm_l122 hw no de em el ey r1 u v' h625 n0 z635 SS hno f634 ⟨A625, F_e0_r1, F_e1_r1⟩ g_r1) e625 (W := 1) (g := (mkF m 55 #[vR ar, vU] [(.ref v'), (.ref u), (.ref r1), (.ref r1)])) rfl (argsL := [(.ref u), (.ref v')]) (rest := [(.ref r1)]) pd__Ljava_lang_Object_Ljava_lang_Object__V (own_k hby 55 (.invokespecial 100) 3)
  obtain ⟨rfl, N636q, K636, ⟨El636, F0636, F1636⟩⟩ := hQ636
  have N636 := Fr.app N0 N636q
  have KK636 : Keep h0 T636.heap [] := K625.trans K636 (allS (Or.inr sz_r1) all0)
  have S637 : Ga T636 (mkF m 58 #[vR ar, vU] [(.ref r1)]) := nx S633 fun t kt => st636 t kt
  refine ⟨T636, _, some (.ref r1), _, _, _, X636, og S637, fun h => (nomatch hret.symm.trans h), by decide, by decide, ?_, fun fs hr => retOut X636 hx hret rfl (Or.inr (Or.inr (Or.inr (Or.inr ⟨rfl, rfl, rfl⟩)))) (own_k hby 58 (.areturn) 1) hr⟩
  show Q_lst2 Z u v' h0 n0 _ T636.heap _
  exact ⟨r1, rfl, N636, KK636, sz_r1, ⟨El636, F0636, F1636⟩⟩
abbrev R_lcp : Room := { frames := 6, cells := 2, slots := 4, locals := 76 }
theorem pn_lcp : plainName "java/util/ImmutableCollections" = true := by first | (simp [plainName, overriddenIn]; done) | decide +kernel
def Q_lcp (Z : State) (em : Addr) (ey : Addr) (Ls : List Addr) (h0 : Heap) (n0 : Nat) (v : Option Value) (h : Heap) (L : List Loc) : Prop := ∃ r : Addr, v = some (.ref r) ∧ Fr n0 L ∧ Keep h0 h [] ∧ own_ILg Z h em ey r Ls
theorem rm_lcp {l : Launch} {Z : State} {a0 : Array Value} (hw : own_W a0 Z) (no : Nat) (de : Addr) (em : Addr) (el : Addr) (ey : Addr)(x : Addr) (Ls : List Addr) (mir : Addr) (h0 : Heap) (n0 : Nat) (Z0 : n0 ≤ h0.size) (SS : own_St Z de em el ey) (hno : no ≤ n0) (O0 : Old Z no h0) (HG : own_ALg Z h0 de x Ls)(M : own_Mir Z mir) : own_Met l y23 jdk_56_method_3_code 2 (some (.object "java/util/List")) R_lcp Z h0 #[(.ref x)] (Q_lcp Z em ey Ls h0 n0) := by
  refine own_body (plainFor_of_name pn_lcp) fun p e s m below meth c s₁ hlk hret hnm hx hby hml hown hZ X0 e0 => ?_
  have N0 := Fr.nil n0
  obtain ⟨Ga, Sa, nx, og⟩ := own_ga (p := p) (e := e) (below := below) s₁ (eF_20 m x)
  have S0 : Ga s₁ (mkF m 0 #[vR x, vU] []) := nx Sa fun t k => castTop (ef_20 m x) k
  obtain ⟨⟨cz, S_cs, hcz⟩, ⟨kde, S_de, E_de, V_de⟩, ⟨kel, S_em, E_em, F_em, V_el⟩, S_ey, E_ey⟩ := id SS
  rcases HG.cases with ⟨rfl, mc, HA⟩ | ⟨u, ed, ke, mc, rfl, HA, HE, Eu⟩ | ⟨u, v', ed, ke, mc, rfl, HA, HE, Eu, Ev'⟩
  · obtain ⟨Ex, Fm, Fe, Fs⟩ := HA
    have S638 : Ga s₁ (mkF m 1 #[vR x, vU] [(.ref x)]) := nx S0 fun t kt => by
      refine xa X0.here hx hby 0 0 rfl ?_
      exact kt
    obtain ⟨T639, X639, e639, st639⟩ := instNo X0 hx hZ hown (own_h hw 124 rfl) e0 Ex (own_alNo hw (own_faceI (own_h hw 173 rfl)) (by decide) (by decide) (by decide) (by decide)) (g := (mkF m 1 #[vR x, vU] [(.ref x)])) rfl rfl (own_k hby 1 (.instanceof 10) 3)
    have S640 : Ga T639 (mkF m 8 #[vR x, vU] [(.ref x)]) := nx S638 fun t kt => st639 t (by
      show Sp p e below T639 (mkF m 4 #[vR x, vU] [(.int 0)]) _
      refine XS.ifNo X639.here hx rfl (own_k hby 4 (.ifCond .ne 22) 3) rfl ((if0 _ _).trans (teq (show (0 : Int32) = (0 : Int32) from (by decide))).2) ?_
      refine xa X639.here hx hby 7 0 rfl ?_
      exact kt)
    obtain ⟨T641, X641, e641, st641⟩ := instNo X639 hx hZ hown (own_h hw 129 rfl) e639 Ex (own_alNo hw (own_faceS (own_h hw 451 rfl)) (by decide) (by decide) (by decide) (by decide)) (g := (mkF m 8 #[vR x, vU] [(.ref x)])) rfl rfl (own_k hby 8 (.instanceof 12) 3)
    have S642 : Ga T641 (mkF m 32 #[vR x, vU] [(.ref x)]) := nx S640 fun t kt => st641 t (by
      show Sp p e below T641 (mkF m 11 #[vR x, vU] [(.int 0)]) _
      refine XS.ifYes X641.here hx rfl (pc0 := 11) (pc' := 31) rfl (own_k hby 11 (.ifCond .eq 20) 3) rfl ((if0 _ _).trans (teq (show (0 : Int32) = (0 : Int32) from (by decide))).1) (by decide) (by decide) ?_
      refine xa X641.here hx hby 31 0 rfl ?_
      exact kt)
    obtain ⟨cq643, kq643, q643a, q643b, q643c⟩ := isOf hZ e641 Ex
    obtain ⟨v643, T643, L643, X643, hQ643, st643⟩ := own_outV (X641.interfaceBack hx (xi := (⟨"java/util/Collection", "isEmpty", "()Z"⟩ : MethodName)) (y := y24) hown (own_t hZ hw 130 rfl) (own_t hZ hw 131 rfl) (own_t hZ hw 132 rfl) (own_t hZ hw 133 rfl) (own_t hZ hw 134 rfl) (own_t hZ hw 135 rfl) (own_t hZ hw 136 rfl) (own_t hZ hw 137 rfl) (by decide) (backOf (W := 0) (rm_ise0 hw x h0 n0 Z0 Fs) hZ (own_h hw 138 rfl) (own_h hw 33 rfl) (by decide) (by decide)) q643a q643b q643c (g := (mkF m 32 #[vR x, vU] [(.ref x)])) rfl (by rw [hml]; rfl) (Steps.refl _) (argsL := []) (rest := []) (lenOf pd___Z rfl) rfl (own_w rfl) (own_k hby 32 (.invokeinterface 20 1) 5) (fun _ _ => ⟨rfl, e641, (by decide : 0 + 0 ≤ _), (by decide : 0 + 0 ≤ _)⟩))
    obtain ⟨rfl, N643q, e643⟩ := hQ643
    have N643 := Fr.app N0 N643q
    have S644 : Ga T643 (mkF m 40 #[vR x, vU] []) := nx S642 fun t kt => st643 t (by
      show Sp p e below T643 (mkF m 37 #[vR x, vU] [(.int 1)]) _
      refine XS.ifNo X643.here hx rfl (own_k hby 37 (.ifCond .eq 7) 3) rfl ((if0 _ _).trans (feq (show ¬ ((1 : Int32) = (0 : Int32)) from (by decide))).1) ?_
      exact kt)
    obtain ⟨v645, T645, L645, X645, hQ645, st645⟩ := own_cS X643 hx hZ hw hown hml 201 202 203 118 rfl rfl rfl rfl (rm_lof hw no de em el ey h0 n0 Z0 SS hno O0) e643 (W := 0) (g := (mkF m 40 #[vR x, vU] [])) rfl (argsL := []) (rest := []) pd___Ljava_util_List_ (own_k hby 40 (.invokestatic 26) 3)
    obtain ⟨rfl, N645q, e645⟩ := hQ645
    have N645 := Fr.app N643 N645q
    have S646 : Ga T645 (mkF m 43 #[vR x, vU] [(.ref em)]) := nx S644 fun t kt => st645 t kt
    refine ⟨T645, _, some (.ref em), _, _, _, X645, og S646, fun h => (nomatch hret.symm.trans h), by decide, by decide, ?_, fun fs hr => retOut X645 hx hret rfl (Or.inr (Or.inr (Or.inr (Or.inr ⟨rfl, rfl, rfl⟩)))) (own_k hby 43 (.areturn) 1) hr⟩
    show Q_lcp Z em ey [] h0 n0 _ T645.heap _
    rw [e645]
    exact ⟨em, rfl, N645, (Keep.refl h0 []), rfl⟩
  · obtain ⟨Ex, Fm, Fe, Fs⟩ := HA
    obtain ⟨Ee, Ve, Ov⟩ := HE
    have S647 : Ga s₁ (mkF m 1 #[vR x, vU] [(.ref x)]) := nx S0 fun t kt => by
      refine xa X0.here hx hby 0 0 rfl ?_
      exact kt
    obtain ⟨T648, X648, e648, st648⟩ := instNo X0 hx hZ hown (own_h hw 124 rfl) e0 Ex (own_alNo hw (own_faceI (own_h hw 173 rfl)) (by decide) (by decide) (by decide) (by decide)) (g := (mkF m 1 #[vR x, vU] [(.ref x)])) rfl rfl (own_k hby 1 (.instanceof 10) 3)
    have S649 : Ga T648 (mkF m 8 #[vR x, vU] [(.ref x)]) := nx S647 fun t kt => st648 t (by
      show Sp p e below T648 (mkF m 4 #[vR x, vU] [(.int 0)]) _
      refine XS.ifNo X648.here hx rfl (own_k hby 4 (.ifCond .ne 22) 3) rfl ((if0 _ _).trans (teq (show (0 : Int32) = (0 : Int32) from (by decide))).2) ?_
      refine xa X648.here hx hby 7 0 rfl ?_
      exact kt)
    obtain ⟨T650, X650, e650, st650⟩ := instNo X648 hx hZ hown (own_h hw 129 rfl) e648 Ex (own_alNo hw (own_faceS (own_h hw 451 rfl)) (by decide) (by decide) (by decide) (by decide)) (g := (mkF m 8 #[vR x, vU] [(.ref x)])) rfl rfl (own_k hby 8 (.instanceof 12) 3)
    have S651 : Ga T650 (mkF m 32 #[vR x, vU] [(.ref x)]) := nx S649 fun t kt => st650 t (by
      show Sp p e below T650 (mkF m 11 #[vR x, vU] [(.int 0)]) _
      refine XS.ifYes X650.here hx rfl (pc0 := 11) (pc' := 31) rfl (own_k hby 11 (.ifCond .eq 20) 3) rfl ((if0 _ _).trans (teq (show (0 : Int32) = (0 : Int32) from (by decide))).1) (by decide) (by decide) ?_
      refine xa X650.here hx hby 31 0 rfl ?_
      exact kt)
    obtain ⟨cq652, kq652, q652a, q652b, q652c⟩ := isOf hZ e650 Ex
    obtain ⟨v652, T652, L652, X652, hQ652, st652⟩ := own_outV (X650.interfaceBack hx (xi := (⟨"java/util/Collection", "isEmpty", "()Z"⟩ : MethodName)) (y := y24) hown (own_t hZ hw 130 rfl) (own_t hZ hw 131 rfl) (own_t hZ hw 132 rfl) (own_t hZ hw 133 rfl) (own_t hZ hw 134 rfl) (own_t hZ hw 135 rfl) (own_t hZ hw 136 rfl) (own_t hZ hw 137 rfl) (by decide) (backOf (W := 0) (rm_ise1 hw x h0 n0 Z0 Fs) hZ (own_h hw 138 rfl) (own_h hw 33 rfl) (by decide) (by decide)) q652a q652b q652c (g := (mkF m 32 #[vR x, vU] [(.ref x)])) rfl (by rw [hml]; rfl) (Steps.refl _) (argsL := []) (rest := []) (lenOf pd___Z rfl) rfl (own_w rfl) (own_k hby 32 (.invokeinterface 20 1) 5) (fun _ _ => ⟨rfl, e650, (by decide : 0 + 0 ≤ _), (by decide : 0 + 0 ≤ _)⟩))
    obtain ⟨rfl, N652q, e652⟩ := hQ652
    have N652 := Fr.app N0 N652q
    have S653 : Ga T652 (mkF m 45 #[vR x, vU] [(.ref x)]) := nx S651 fun t kt => st652 t (by
      show Sp p e below T652 (mkF m 37 #[vR x, vU] [(.int 0)]) _
      refine XS.ifYes X652.here hx rfl (pc0 := 37) (pc' := 44) rfl (own_k hby 37 (.ifCond .eq 7) 3) rfl ((if0 _ _).trans (teq (show (0 : Int32) = (0 : Int32) from (by decide))).1) (by decide) (by decide) ?_
      refine xa X652.here hx hby 44 0 rfl ?_
      exact kt)
    obtain ⟨cq654, kq654, q654a, q654b, q654c⟩ := isOf hZ e652 Ex
    obtain ⟨v654, T654, L654, X654, hQ654, st654⟩ := own_outV (X652.interfaceBack hx (xi := (⟨"java/util/Collection", "toArray", "()[Ljava/lang/Object;"⟩ : MethodName)) (y := y25) hown (own_t hZ hw 139 rfl) (own_t hZ hw 140 rfl) (own_t hZ hw 141 rfl) (own_t hZ hw 142 rfl) (own_t hZ hw 143 rfl) (own_t hZ hw 144 rfl) (own_t hZ hw 145 rfl) (own_t hZ hw 137 rfl) (by decide) (backOf (W := 0) (rm_toa1 hw x mc ed ke u mir h0 n0 Z0 ⟨Ex, Fm, Fe, Fs⟩ ⟨Ee, Ve, Ov⟩ Eu M) hZ (own_h hw 146 rfl) (own_h hw 33 rfl) (by decide) (by decide)) q654a q654b q654c (g := (mkF m 45 #[vR x, vU] [(.ref x)])) rfl (by rw [hml]; rfl) (Steps.refl _) (argsL := []) (rest := []) (lenOf pd____Ljava_lang_Object_ rfl) rfl (own_w rfl) (own_k hby 45 (.invokeinterface 30 1) 5) (fun _ _ => ⟨rfl, e652, (by decide : 0 + 1 ≤ _), (by decide : 0 + 1 ≤ _)⟩))
    obtain ⟨ar, ka654, rfl, N654q, K654, sza654, V654⟩ := hQ654
    have N654 := Fr.app N652 N654q
    have KK654 : Keep h0 T654.heap [] := (Keep.refl h0 []).trans K654 all0
    have f655 := (O0.keep K654 all0)
    have z656 := (Nat.le_trans Z0 K654.1)
    obtain ⟨v657, T657, L657, X657, hQ657, st657⟩ := own_cS X654 hx hZ hw hown hml 169 170 171 118 rfl rfl rfl rfl (rm_lst1 hw no de em el ey ar ka654 u T654.heap n0 z656 SS hno f655 V654) rfl (W := 0) (g := (mkF m 50 #[vR x, vU] [(.ref ar)])) rfl (argsL := [(.ref ar)]) (rest := []) pd___Ljava_lang_Object__Ljava_util_List_ (own_k hby 50 (.invokestatic 34) 3)
    obtain ⟨r1, rfl, N657q, K657, szr657, ⟨El657, F0657, F1657⟩⟩ := hQ657
    have N657 := Fr.app N654 N657q
    have KK657 : Keep h0 T657.heap [] := KK654.trans K657 all0
    have S658 : Ga T657 (mkF m 53 #[vR x, vU] [(.ref r1)]) := nx S653 fun t kt => st654 t (st657 t kt)
    refine ⟨T657, _, some (.ref r1), _, _, _, X657, og S658, fun h => (nomatch hret.symm.trans h), by decide, by decide, ?_, fun fs hr => retOut X657 hx hret rfl (Or.inr (Or.inr (Or.inr (Or.inr ⟨rfl, rfl, rfl⟩)))) (own_k hby 53 (.areturn) 1) hr⟩
    show Q_lcp Z em ey [u] h0 n0 _ T657.heap _
    exact ⟨r1, rfl, N657, KK657, own_il1 ⟨El657, F0657, F1657⟩⟩
  · obtain ⟨Ex, Fm, Fe, Fs⟩ := HA
    obtain ⟨Ee, Ve, Ov⟩ := HE
    have S659 : Ga s₁ (mkF m 1 #[vR x, vU] [(.ref x)]) := nx S0 fun t kt => by
      refine xa X0.here hx hby 0 0 rfl ?_
      exact kt
    obtain ⟨T660, X660, e660, st660⟩ := instNo X0 hx hZ hown (own_h hw 124 rfl) e0 Ex (own_alNo hw (own_faceI (own_h hw 173 rfl)) (by decide) (by decide) (by decide) (by decide)) (g := (mkF m 1 #[vR x, vU] [(.ref x)])) rfl rfl (own_k hby 1 (.instanceof 10) 3)
    have S661 : Ga T660 (mkF m 8 #[vR x, vU] [(.ref x)]) := nx S659 fun t kt => st660 t (by
      show Sp p e below T660 (mkF m 4 #[vR x, vU] [(.int 0)]) _
      refine XS.ifNo X660.here hx rfl (own_k hby 4 (.ifCond .ne 22) 3) rfl ((if0 _ _).trans (teq (show (0 : Int32) = (0 : Int32) from (by decide))).2) ?_
      refine xa X660.here hx hby 7 0 rfl ?_
      exact kt)
    obtain ⟨T662, X662, e662, st662⟩ := instNo X660 hx hZ hown (own_h hw 129 rfl) e660 Ex (own_alNo hw (own_faceS (own_h hw 451 rfl)) (by decide) (by decide) (by decide) (by decide)) (g := (mkF m 8 #[vR x, vU] [(.ref x)])) rfl rfl (own_k hby 8 (.instanceof 12) 3)
    have S663 : Ga T662 (mkF m 32 #[vR x, vU] [(.ref x)]) := nx S661 fun t kt => st662 t (by
      show Sp p e below T662 (mkF m 11 #[vR x, vU] [(.int 0)]) _
      refine XS.ifYes X662.here hx rfl (pc0 := 11) (pc' := 31) rfl (own_k hby 11 (.ifCond .eq 20) 3) rfl ((if0 _ _).trans (teq (show (0 : Int32) = (0 : Int32) from (by decide))).1) (by decide) (by decide) ?_
      refine xa X662.here hx hby 31 0 rfl ?_
      exact kt)
    obtain ⟨cq664, kq664, q664a, q664b, q664c⟩ := isOf hZ e662 Ex
    obtain ⟨v664, T664, L664, X664, hQ664, st664⟩ := own_outV (X662.interfaceBack hx (xi := (⟨"java/util/Collection", "isEmpty", "()Z"⟩ : MethodName)) (y := y24) hown (own_t hZ hw 130 rfl) (own_t hZ hw 131 rfl) (own_t hZ hw 132 rfl) (own_t hZ hw 133 rfl) (own_t hZ hw 134 rfl) (own_t hZ hw 135 rfl) (own_t hZ hw 136 rfl) (own_t hZ hw 137 rfl) (by decide) (backOf (W := 0) (rm_ise2 hw x h0 n0 Z0 Fs) hZ (own_h hw 138 rfl) (own_h hw 33 rfl) (by decide) (by decide)) q664a q664b q664c (g := (mkF m 32 #[vR x, vU] [(.ref x)])) rfl (by rw [hml]; rfl) (Steps.refl _) (argsL := []) (rest := []) (lenOf pd___Z rfl) rfl (own_w rfl) (own_k hby 32 (.invokeinterface 20 1) 5) (fun _ _ => ⟨rfl, e662, (by decide : 0 + 0 ≤ _), (by decide : 0 + 0 ≤ _)⟩))
    obtain ⟨rfl, N664q, e664⟩ := hQ664
    have N664 := Fr.app N0 N664q
    have S665 : Ga T664 (mkF m 45 #[vR x, vU] [(.ref x)]) := nx S663 fun t kt => st664 t (by
      show Sp p e below T664 (mkF m 37 #[vR x, vU] [(.int 0)]) _
      refine XS.ifYes X664.here hx rfl (pc0 := 37) (pc' := 44) rfl (own_k hby 37 (.ifCond .eq 7) 3) rfl ((if0 _ _).trans (teq (show (0 : Int32) = (0 : Int32) from (by decide))).1) (by decide) (by decide) ?_
      refine xa X664.here hx hby 44 0 rfl ?_
      exact kt)
    obtain ⟨cq666, kq666, q666a, q666b, q666c⟩ := isOf hZ e664 Ex
    obtain ⟨v666, T666, L666, X666, hQ666, st666⟩ := own_outV (X664.interfaceBack hx (xi := (⟨"java/util/Collection", "toArray", "()[Ljava/lang/Object;"⟩ : MethodName)) (y := y25) hown (own_t hZ hw 139 rfl) (own_t hZ hw 140 rfl) (own_t hZ hw 141 rfl) (own_t hZ hw 142 rfl) (own_t hZ hw 143 rfl) (own_t hZ hw 144 rfl) (own_t hZ hw 145 rfl) (own_t hZ hw 137 rfl) (by decide) (backOf (W := 0) (rm_toa2 hw x mc ed ke u v' mir h0 n0 Z0 ⟨Ex, Fm, Fe, Fs⟩ ⟨Ee, Ve, Ov⟩ Eu Ev' M) hZ (own_h hw 146 rfl) (own_h hw 33 rfl) (by decide) (by decide)) q666a q666b q666c (g := (mkF m 45 #[vR x, vU] [(.ref x)])) rfl (by rw [hml]; rfl) (Steps.refl _) (argsL := []) (rest := []) (lenOf pd____Ljava_lang_Object_ rfl) rfl (own_w rfl) (own_k hby 45 (.invokeinterface 30 1) 5) (fun _ _ => ⟨rfl, e664, (by decide : 0 + 1 ≤ _), (by decide : 0 + 2 ≤ _)⟩))
    obtain ⟨ar, ka666, rfl, N666q, K666, sza666, V666⟩ := hQ666
    have N666 := Fr.app N664 N666q
    have KK666 : Keep h0 T666.heap [] := (Keep.refl h0 []).trans K666 all0
    have f667 := (O0.keep K666 all0)
    have z668 := (Nat.le_trans Z0 K666.1)
    obtain ⟨v669, T669, L669, X669, hQ669, st669⟩ := own_cS X666 hx hZ hw hown hml 169 170 171 118 rfl rfl rfl rfl (rm_lst2 hw no de em el ey ar ka666 u v' T666.heap n0 z668 SS hno f667 V666) rfl (W := 0) (g := (mkF m 50 #[vR x, vU] [(.ref ar)])) rfl (argsL := [(.ref ar)]) (rest := []) pd___Ljava_lang_Object__Ljava_util_List_ (own_k hby 50 (.invokestatic 34) 3)
    obtain ⟨r1, rfl, N669q, K669, szr669, ⟨El669, F0669, F1669⟩⟩ := hQ669
    have N669 := Fr.app N666 N669q
    have KK669 : Keep h0 T669.heap [] := KK666.trans K669 all0
    have S670 : Ga T669 (mkF m 53 #[vR x, vU] [(.ref r1)]) := nx S665 fun t kt => st666 t (st669 t kt)
    refine ⟨T669, _, some (.ref r1), _, _, _, X669, og S670, fun h => (nomatch hret.symm.trans h), by decide, by decide, ?_, fun fs hr => retOut X669 hx hret rfl (Or.inr (Or.inr (Or.inr (Or.inr ⟨rfl, rfl, rfl⟩)))) (own_k hby 53 (.areturn) 1) hr⟩
    show Q_lcp Z em ey [u, v'] h0 n0 _ T669.heap _
    exact ⟨r1, rfl, N669, KK669, own_il2 ⟨El669, F0669, F1669⟩⟩
abbrev R_cop : Room := { frames := 7, cells := 2, slots := 4, locals := 89 }
def Q_cop (Z : State) (em : Addr) (ey : Addr) (Ls : List Addr) (h0 : Heap) (n0 : Nat) (v : Option Value) (h : Heap) (L : List Loc) : Prop := ∃ r : Addr, v = some (.ref r) ∧ Fr n0 L ∧ Keep h0 h [] ∧ own_ILg Z h em ey r Ls
theorem rm_cop {l : Launch} {Z : State} {a0 : Array Value} (hw : own_W a0 Z) (no : Nat) (de : Addr) (em : Addr) (el : Addr) (ey : Addr)(x : Addr) (Ls : List Addr) (mir : Addr) (h0 : Heap) (n0 : Nat) (Z0 : n0 ≤ h0.size) (SS : own_St Z de em el ey) (hno : no ≤ n0) (O0 : Old Z no h0) (HG : own_ALg Z h0 de x Ls)(M : own_Mir Z mir) : own_Met l y22 jdk_40_method_48_code 1 (some (.object "java/util/List")) R_cop Z h0 #[(.ref x)] (Q_cop Z em ey Ls h0 n0) := by
  refine own_body (plainFor_of_name pn_lof) fun p e s m below meth c s₁ hlk hret hnm hx hby hml hown hZ X0 e0 => ?_
  have N0 := Fr.nil n0
  obtain ⟨Ga, Sa, nx, og⟩ := own_ga (p := p) (e := e) (below := below) s₁ (eF_2 m x)
  have S0 : Ga s₁ (mkF m 0 #[vR x] []) := nx Sa fun t k => castTop (ef_2 m x) k
  obtain ⟨⟨cz, S_cs, hcz⟩, -⟩ := id SS
  have S671 : Ga s₁ (mkF m 1 #[vR x] [(.ref x)]) := nx S0 fun t kt => by
    refine xa X0.here hx hby 0 0 rfl ?_
    exact kt
  obtain ⟨v672, T672, L672, X672, hQ672, st672⟩ := own_cS X0 hx hZ hw hown hml 120 121 123 122 rfl rfl rfl rfl (rm_lcp hw no de em el ey x Ls mir h0 n0 Z0 SS hno O0 HG M) e0 (W := 0) (g := (mkF m 1 #[vR x] [(.ref x)])) rfl (argsL := [(.ref x)]) (rest := []) pd__Ljava_util_Collection__Ljava_util_List_ (own_k hby 1 (.invokestatic 112) 3)
  obtain ⟨r1, rfl, N672q, K672, HI672⟩ := hQ672
  have N672 := Fr.app N0 N672q
  have KK672 : Keep h0 T672.heap [] := (Keep.refl h0 []).trans K672 all0
  have S673 : Ga T672 (mkF m 4 #[vR x] [(.ref r1)]) := nx S671 fun t kt => st672 t kt
  refine ⟨T672, _, some (.ref r1), _, _, _, X672, og S673, fun h => (nomatch hret.symm.trans h), by decide, by decide, ?_, fun fs hr => retOut X672 hx hret rfl (Or.inr (Or.inr (Or.inr (Or.inr ⟨rfl, rfl, rfl⟩)))) (own_k hby 4 (.areturn) 1) hr⟩
  show Q_cop Z em ey Ls h0 n0 _ T672.heap _
  exact ⟨r1, rfl, N672, KK672, HI672⟩
abbrev R_lii : Room := { frames := 1, cells := 0, slots := 0, locals := 12 }
theorem pn_lii : plainName "java/util/ImmutableCollections$ListItr" = true := by first | (simp [plainName, overriddenIn]; done) | decide +kernel
def Q_lii (Z : State) (x : Addr) (r : Addr) (sz : Int32) (h0 : Heap) (n0 : Nat) (v : Option Value) (h : Heap) (L : List Loc) : Prop := v = none ∧ Fr n0 L ∧ Keep h0 h [x] ∧ own_LI Z h x r sz (0 : Int32)
theorem rm_lii {l : Launch} {Z : State} {a0 : Array Value} (hw : own_W a0 Z) (x : Addr) (r : Addr) (sz : Int32) (h0 : Heap) (n0 : Nat) (Z0 : n0 ≤ h0.size) (E0 : Exa Z h0 x "java/util/ImmutableCollections$ListItr") (F0 : Fld Z h0 x "java/util/ImmutableCollections$ListItr" "list" "Ljava/util/List;" .null) (F1 : Fld Z h0 x "java/util/ImmutableCollections$ListItr" "size" "I" (.int 0)) (F2 : Fld Z h0 x "java/util/ImmutableCollections$ListItr" "cursor" "I" (.int 0)) (F3 : Fld Z h0 x "java/util/ImmutableCollections$ListItr" "isListIterator" "Z" (.int 0)) (g_x : n0 ≤ x) : own_Met l y54 jdk_53_method_1_code 3 none R_lii Z h0 #[(.ref x), (.ref r), (.int sz)] (Q_lii Z x r sz h0 n0) := by
  refine own_body (plainFor_of_name pn_lii) fun p e s m below meth c s₁ hlk hret hnm hx hby hml hown hZ X0 e0 => ?_
  have N0 := Fr.nil n0
  obtain ⟨Ga, Sa, nx, og⟩ := own_ga (p := p) (e := e) (below := below) s₁ (eF_4 m x r sz)
  have S0 : Ga s₁ (mkF m 0 #[vR x, vR r, vI sz] []) := nx Sa fun t k => castTop (ef_4 m x r sz) k
  have S674 : Ga s₁ (mkF m 1 #[vR x, vR r, vI sz] [(.ref x)]) := nx S0 fun t kt => by
    refine xa X0.here hx hby 0 0 rfl ?_
    exact kt
  obtain ⟨T675, X675, e675, st675⟩ := initO X0 hx hZ hown (own_h hw 334 rfl) (own_h hw 13 rfl) (own_h hw 14 rfl) e0 (g := (mkF m 1 #[vR x, vR r, vI sz] [(.ref x)])) rfl (by rw [hml]; rfl) rfl (own_k hby 1 (.invokespecial 1) 3) (by decide) (W := 0) (by show 2 * 0 + _ ≤ _; exact Nat.le_of_eq rfl) (by decide)
  have S676 : Ga T675 (mkF m 6 #[vR x, vR r, vI sz] [(.ref r), (.ref x)]) := nx S674 fun t kt => st675 t (by
    show Sp p e below T675 (mkF m 4 #[vR x, vR r, vI sz] []) _
    refine xa X675.here hx hby 4 0 rfl ?_
    refine xa X675.here hx hby 5 1 rfl ?_
    exact kt)
  obtain ⟨T677, h677, X677, e677, W677, st677⟩ := putF X675 hx hZ hown (host := "") (Or.inl (own_h hw 335 rfl)) Via.refl e675 F0 E0 (Or.inr ⟨(own_h hw 336 rfl), rfl, hnm⟩) (own_h hw 321 rfl) (ty := (.object "java/util/List")) (by decide) rfl rfl (g := (mkF m 6 #[vR x, vR r, vI sz] [(.ref r), (.ref x)])) rfl rfl (own_k hby 6 (.putfield 7) 3)
  have N677 := Fr.snoc X677 N0 g_x
  have K677 : Keep h0 h677 [x] := (Keep.refl h0 [x]).wr W677 (Or.inl (by simp))
  have Fw677 := F0.same W677
  have S678 : Ga T677 (mkF m 11 #[vR x, vR r, vI sz] [(.int sz), (.ref x)]) := nx S676 fun t kt => st677 t (by
    show Sp p e below T677 (mkF m 9 #[vR x, vR r, vI sz] []) _
    refine xa X677.here hx hby 9 0 rfl ?_
    refine xi X677.here hx hby 10 2 rfl ?_
    exact kt)
  have f679 := (F1.other W677 (Or.inr (ns16 hw)))
  have f680 := (E0.wr W677)
  obtain ⟨T681, h681, X681, e681, W681, st681⟩ := putF X677 hx hZ hown (host := "") (Or.inl (own_h hw 337 rfl)) Via.refl e677 f679 f680 (Or.inr ⟨(own_h hw 338 rfl), rfl, hnm⟩) (own_h hw 321 rfl) (ty := .int) (by decide) rfl rfl (g := (mkF m 11 #[vR x, vR r, vI sz] [(.int sz), (.ref x)])) rfl rfl (own_k hby 11 (.putfield 13) 3)
  have N681 := Fr.snoc X681 N677 g_x
  have K681 : Keep h0 h681 [x] := K677.wr W681 (Or.inl (by simp))
  have Fw681 := f679.same W681
  have S682 : Ga T681 (mkF m 16 #[vR x, vR r, vI sz] [(.int 0), (.ref x)]) := nx S678 fun t kt => st681 t (by
    show Sp p e below T681 (mkF m 14 #[vR x, vR r, vI sz] []) _
    refine xa X681.here hx hby 14 0 rfl ?_
    refine xc X681.here hx hby 15 0 ?_
    exact kt)
  have f683 := ((F2.other W677 (Or.inr (ns17 hw))).other W681 (Or.inr (ns18 hw)))
  have f684 := (f680.wr W681)
  obtain ⟨T685, h685, X685, e685, W685, st685⟩ := putF X681 hx hZ hown (host := "") (Or.inl (own_h hw 339 rfl)) Via.refl e681 f683 f684 (Or.inl (own_h hw 340 rfl)) (own_h hw 321 rfl) (ty := .int) (by decide) rfl rfl (g := (mkF m 16 #[vR x, vR r, vI sz] [(.int 0), (.ref x)])) rfl rfl (own_k hby 16 (.putfield 17) 3)
  have N685 := Fr.snoc X685 N681 g_x
  have K685 : Keep h0 h685 [x] := K681.wr W685 (Or.inl (by simp))
  have Fw685 := f683.same W685
  have S686 : Ga T685 (mkF m 21 #[vR x, vR r, vI sz] [(.int 0), (.ref x)]) := nx S682 fun t kt => st685 t (by
    show Sp p e below T685 (mkF m 19 #[vR x, vR r, vI sz] []) _
    refine xa X685.here hx hby 19 0 rfl ?_
    refine xc X685.here hx hby 20 0 ?_
    exact kt)
  have f687 := (((F3.other W677 (Or.inr (ns19 hw))).other W681 (Or.inr (ns20 hw))).other W685 (Or.inr (ns21 hw)))
  have f688 := (f684.wr W685)
  obtain ⟨T689, h689, X689, e689, W689, st689⟩ := putFN X685 hx hZ hown (own_h hw 341 rfl) Via.refl e685 f687 f688 (Or.inr ⟨(own_h hw 342 rfl), rfl, hnm⟩) (own_h hw 321 rfl) (ty := .boolean) (v' := .int ((0 : Int32) &&& 1)) (by decide) rfl (fits_nar_bool _) (g := (mkF m 21 #[vR x, vR r, vI sz] [(.int 0), (.ref x)])) rfl rfl (own_k hby 21 (.putfield 20) 3)
  rw [show ((0 : Int32) &&& 1) = (0 : Int32) from by decide] at W689
  have N689 := Fr.snoc X689 N685 g_x
  have K689 : Keep h0 h689 [x] := K685.wr W689 (Or.inl (by simp))
  have Fw689 := f687.same W689
  have f690 := (f688.wr W689)
  have f691 := (((Fw677.other W681 (Or.inr (ns22 hw))).other W685 (Or.inr (ns23 hw))).other W689 (Or.inr (ns24 hw)))
  have f692 := ((Fw681.other W685 (Or.inr (ns25 hw))).other W689 (Or.inr (ns26 hw)))
  have f693 := (Fw685.other W689 (Or.inr (ns27 hw)))
  have S694 : Ga T689 (mkF m 24 #[vR x, vR r, vI sz] []) := nx S686 fun t kt => st689 t kt
  refine ⟨T689, _, none, _, _, _, X689, og S694, fun _ => rfl, by decide, by decide, ?_, fun fs hr => X689.returnOut hx hret (own_k hby 24 (.return_) 1) hr⟩
  show Q_lii Z x r sz h0 n0 _ T689.heap _
  rw [e689]
  exact ⟨rfl, N689, K689, ⟨f690, f691, f692, f693⟩⟩
abbrev R_siz0 : Room := { frames := 0, cells := 0, slots := 0, locals := 0 }
theorem pn_siz0 : plainName "java/util/ImmutableCollections$ListN" = true := by first | (simp [plainName, overriddenIn]; done) | decide +kernel
def Q_siz0 (Z : State)  (h0 : Heap) (n0 : Nat) (v : Option Value) (h : Heap) (L : List Loc) : Prop := v = some (.int 0) ∧ Fr n0 L ∧ h = h0
theorem rm_siz0 {l : Launch} {Z : State} {a0 : Array Value} (hw : own_W a0 Z) (no : Nat) (de : Addr) (em : Addr) (el : Addr) (ey : Addr) (h0 : Heap) (n0 : Nat) (Z0 : n0 ≤ h0.size) (SS : own_St Z de em el ey) (hno : no ≤ n0) (O0 : Old Z no h0) : own_Met l y74 jdk_45_method_3_code 1 (some .int) R_siz0 Z h0 #[(.ref em)] (Q_siz0 Z  h0 n0) := by
  refine own_body (plainFor_of_name pn_siz0) fun p e s m below meth c s₁ hlk hret hnm hx hby hml hown hZ X0 e0 => ?_
  have N0 := Fr.nil n0
  obtain ⟨Ga, Sa, nx, og⟩ := own_ga (p := p) (e := e) (below := below) s₁ (eF_2 m em)
  have S0 : Ga s₁ (mkF m 0 #[vR em] []) := nx Sa fun t k => castTop (ef_2 m em) k
  obtain ⟨⟨cz, S_cs, hcz⟩, ⟨kde, S_de, E_de, V_de⟩, ⟨kel, S_em, E_em, F_em, V_el⟩, S_ey, E_ey⟩ := id SS
  have S695 : Ga s₁ (mkF m 1 #[vR em] [(.ref em)]) := nx S0 fun t kt => by
    refine xa X0.here hx hby 0 0 rfl ?_
    exact kt
  obtain ⟨T696, X696, e696, st696⟩ := getF X0 hx hZ hown (host := "") (Or.inl (own_h hw 455 rfl)) Via.refl e0 (F_em.ext O0.2) (g := (mkF m 1 #[vR em] [(.ref em)])) rfl rfl (own_k hby 1 (.getfield 7) 3)
  obtain ⟨co697, Ao697, qo697, So697, No697, Ho697, Go697⟩ := id (V_el.ext O0.2)
  have S698 : Ga T696 (mkF m 5 #[vR em] [(.int 0)]) := nx S695 fun t kt => st696 t (by
    show Sp p e below T696 (mkF m 4 #[vR em] [(.ref el)]) _
    refine X696.arraylength hx (by rw [e696]; exact Ao697.1) (State.isArrayOf_alike hZ.alike Ao697.2.1) (g := (mkF m 4 #[vR em] [(.ref el)])) rfl rfl (own_k hby 4 (.arraylength) 1) _ ?_
    rw [len_of So697 No697]
    show Sp p e below T696 (mkF m 5 #[vR em] [(.int 0)]) _
    exact kt)
  refine ⟨T696, _, some (.int 0), _, _, _, X696, og S698, fun h => (nomatch hret.symm.trans h), by decide, by decide, ?_, fun fs hr => retI X696 hx hret (own_k hby 5 (.ireturn) 1) hr⟩
  show Q_siz0 Z  h0 n0 _ T696.heap _
  rw [e696]
  exact ⟨rfl, N0, rfl⟩
abbrev R_siz1 : Room := { frames := 0, cells := 0, slots := 0, locals := 0 }
def Q_siz1 (Z : State)  (h0 : Heap) (n0 : Nat) (v : Option Value) (h : Heap) (L : List Loc) : Prop := v = some (.int 1) ∧ Fr n0 L ∧ h = h0
theorem rm_siz1 {l : Launch} {Z : State} {a0 : Array Value} (hw : own_W a0 Z) (no : Nat) (de : Addr) (em : Addr) (el : Addr) (ey : Addr) (r : Addr) (u : Addr) (h0 : Heap) (n0 : Nat) (Z0 : n0 ≤ h0.size) (SS : own_St Z de em el ey) (hno : no ≤ n0) (O0 : Old Z no h0) (HL : own_L Z h0 r (.ref u) (.ref ey)) : own_Met l y53 jdk_44_method_3_code 1 (some .int) R_siz1 Z h0 #[(.ref r)] (Q_siz1 Z  h0 n0) := by
  refine own_body (plainFor_of_name pn_l121) fun p e s m below meth c s₁ hlk hret hnm hx hby hml hown hZ X0 e0 => ?_
  have N0 := Fr.nil n0
  obtain ⟨Ga, Sa, nx, og⟩ := own_ga (p := p) (e := e) (below := below) s₁ (eF_2 m r)
  have S0 : Ga s₁ (mkF m 0 #[vR r] []) := nx Sa fun t k => castTop (ef_2 m r) k
  obtain ⟨⟨cz, S_cs, hcz⟩, ⟨kde, S_de, E_de, V_de⟩, ⟨kel, S_em, E_em, F_em, V_el⟩, S_ey, E_ey⟩ := id SS
  obtain ⟨El, F0, F1⟩ := HL
  have S699 : Ga s₁ (mkF m 1 #[vR r] [(.ref r)]) := nx S0 fun t kt => by
    refine xa X0.here hx hby 0 0 rfl ?_
    exact kt
  obtain ⟨T700, X700, e700, st700⟩ := getF X0 hx hZ hown (host := "") (Or.inl (own_h hw 199 rfl)) Via.refl e0 F1 (g := (mkF m 1 #[vR r] [(.ref r)])) rfl rfl (own_k hby 1 (.getfield 24) 3)
  obtain ⟨T701, X701, e701, st701⟩ := getS2 X700 hx hZ hown (Or.inr (own_h hw 329 rfl)) Via.refl e700 (S_ey.ext O0.2) (g := (mkF m 4 #[vR r] [(.ref ey)])) rfl (own_k hby 4 (.getstatic 19) 3)
  have S702 : Ga T701 (mkF m 15 #[vR r] [(.int 1)]) := nx S699 fun t kt => st700 t (st701 t (by
    show Sp p e below T701 (mkF m 7 #[vR r] [(.ref ey), (.ref ey)]) _
    refine Jvm.RoadKit.acmp (g := (mkF m 7 #[vR r] [(.ref ey), (.ref ey)])) X701 hx rfl rfl rfl (pc0 := 7) (pc' := 14) (same := true) rfl (own_k hby 7 (.if_acmp .eq 7) 3) rfl (decide_eq_true rfl) (by decide) (by decide) ?_
    refine xc X701.here hx hby 14 1 ?_
    exact kt))
  refine ⟨T701, _, some (.int 1), _, _, _, X701, og S702, fun h => (nomatch hret.symm.trans h), by decide, by decide, ?_, fun fs hr => retI X701 hx hret (own_k hby 15 (.ireturn) 1) hr⟩
  show Q_siz1 Z  h0 n0 _ T701.heap _
  rw [e701]
  exact ⟨rfl, N0, rfl⟩
abbrev R_siz2 : Room := { frames := 0, cells := 0, slots := 0, locals := 0 }
def Q_siz2 (Z : State)  (h0 : Heap) (n0 : Nat) (v : Option Value) (h : Heap) (L : List Loc) : Prop := v = some (.int 2) ∧ Fr n0 L ∧ h = h0
theorem rm_siz2 {l : Launch} {Z : State} {a0 : Array Value} (hw : own_W a0 Z) (no : Nat) (de : Addr) (em : Addr) (el : Addr) (ey : Addr) (r : Addr) (u : Addr) (v' : Addr) (h0 : Heap) (n0 : Nat) (Z0 : n0 ≤ h0.size) (SS : own_St Z de em el ey) (hno : no ≤ n0) (O0 : Old Z no h0) (HL : own_L Z h0 r (.ref u) (.ref v')) (Ev' : Exa Z h0 v' "java/lang/String") : own_Met l y53 jdk_44_method_3_code 1 (some .int) R_siz2 Z h0 #[(.ref r)] (Q_siz2 Z  h0 n0) := by
  refine own_body (plainFor_of_name pn_l121) fun p e s m below meth c s₁ hlk hret hnm hx hby hml hown hZ X0 e0 => ?_
  have N0 := Fr.nil n0
  obtain ⟨Ga, Sa, nx, og⟩ := own_ga (p := p) (e := e) (below := below) s₁ (eF_2 m r)
  have S0 : Ga s₁ (mkF m 0 #[vR r] []) := nx Sa fun t k => castTop (ef_2 m r) k
  obtain ⟨⟨cz, S_cs, hcz⟩, ⟨kde, S_de, E_de, V_de⟩, ⟨kel, S_em, E_em, F_em, V_el⟩, S_ey, E_ey⟩ := id SS
  obtain ⟨El, F0, F1⟩ := HL
  have S703 : Ga s₁ (mkF m 1 #[vR r] [(.ref r)]) := nx S0 fun t kt => by
    refine xa X0.here hx hby 0 0 rfl ?_
    exact kt
  obtain ⟨T704, X704, e704, st704⟩ := getF X0 hx hZ hown (host := "") (Or.inl (own_h hw 199 rfl)) Via.refl e0 F1 (g := (mkF m 1 #[vR r] [(.ref r)])) rfl rfl (own_k hby 1 (.getfield 24) 3)
  obtain ⟨T705, X705, e705, st705⟩ := getS2 X704 hx hZ hown (Or.inr (own_h hw 329 rfl)) Via.refl e704 (S_ey.ext O0.2) (g := (mkF m 4 #[vR r] [(.ref v')])) rfl (own_k hby 4 (.getstatic 19) 3)
  have ne706 : v' ≠ ey := Exa.ne Ev' (E_ey.ext O0.2) (by decide)
  have S707 : Ga T705 (mkF m 15 #[vR r] [(.int 2)]) := nx S703 fun t kt => st704 t (st705 t (by
    show Sp p e below T705 (mkF m 7 #[vR r] [(.ref ey), (.ref v')]) _
    refine Jvm.RoadKit.acmp (g := (mkF m 7 #[vR r] [(.ref ey), (.ref v')])) X705 hx rfl rfl rfl (pc0 := 7) (pc' := 10) (same := false) rfl (own_k hby 7 (.if_acmp .eq 7) 3) rfl (decide_eq_false fun q => ne706 (Value.ref.inj q)) (by decide) (by decide) ?_
    refine xc X705.here hx hby 10 2 ?_
    refine XS.goto X705.here hx rfl (pc0 := 11) (pc' := 15) rfl (own_k hby 11 (.goto 4) 3) (by decide) (by decide) ?_
    exact kt))
  refine ⟨T705, _, some (.int 2), _, _, _, X705, og S707, fun h => (nomatch hret.symm.trans h), by decide, by decide, ?_, fun fs hr => retI X705 hx hret (own_k hby 15 (.ireturn) 1) hr⟩
  show Q_siz2 Z  h0 n0 _ T705.heap _
  rw [e705]
  exact ⟨rfl, N0, rfl⟩
abbrev R_itr0 : Room := { frames := 2, cells := 1, slots := 4, locals := 27 }
def Q_itr0 (Z : State) (em : Addr) (h0 : Heap) (n0 : Nat) (v : Option Value) (h : Heap) (L : List Loc) : Prop := ∃ x : Addr, v = some (.ref x) ∧ Fr n0 L ∧ Keep h0 h [] ∧ h0.size ≤ x ∧ own_LI Z h x em (0 : Int32) (0 : Int32)
theorem rm_itr0 {l : Launch} {Z : State} {a0 : Array Value} (hw : own_W a0 Z) (no : Nat) (de : Addr) (em : Addr) (el : Addr) (ey : Addr) (h0 : Heap) (n0 : Nat) (Z0 : n0 ≤ h0.size) (SS : own_St Z de em el ey) (hno : no ≤ n0) (O0 : Old Z no h0) : own_Met l y52 jdk_46_method_10_code 1 (some (.object "java/util/Iterator")) R_itr0 Z h0 #[(.ref em)] (Q_itr0 Z em h0 n0) := by
  refine own_body (plainFor_of_name pn_ail) fun p e s m below meth c s₁ hlk hret hnm hx hby hml hown hZ X0 e0 => ?_
  have N0 := Fr.nil n0
  obtain ⟨Ga, Sa, nx, og⟩ := own_ga (p := p) (e := e) (below := below) s₁ (eF_2 m em)
  have S0 : Ga s₁ (mkF m 0 #[vR em] []) := nx Sa fun t k => castTop (ef_2 m em) k
  obtain ⟨⟨cz, S_cs, hcz⟩, ⟨kde, S_de, E_de, V_de⟩, ⟨kel, S_em, E_em, F_em, V_el⟩, S_ey, E_ey⟩ := id SS
  obtain ⟨T708, h708, X708, e708, E708, A708, D708, -, st708⟩ := newO X0 hx hZ hown (own_h hw 320 rfl) (own_h hw 321 rfl) (own_h hw 322 rfl) e0 (g := (mkF m 0 #[vR em] [])) rfl (own_k hby 0 (.new 61) 3) (by decide) (by decide)
  obtain ⟨it, g708⟩ : ∃ z, z = h0.size := ⟨_, rfl⟩
  rw [← g708] at A708 D708 st708
  have g_it : n0 ≤ it := Nat.le_trans Z0 (Nat.le_of_eq g708.symm)
  have sz_it : h0.size ≤ it := Nat.le_trans (Keep.refl h0 []).1 (Nat.le_of_eq g708.symm)
  have K708 : Keep h0 h708 [] := (Keep.refl h0 []).ext E708
  have F_list_it : Fld Z h708 it "java/util/ImmutableCollections$ListItr" "list" "Ljava/util/List;" .null := D708 (Or.inr (own_h hw 336 rfl)) (ty := (.object "java/util/List")) (by decide)
  have F_size_it : Fld Z h708 it "java/util/ImmutableCollections$ListItr" "size" "I" (.int 0) := D708 (Or.inr (own_h hw 338 rfl)) (ty := .int) (by decide)
  have F_cursor_it : Fld Z h708 it "java/util/ImmutableCollections$ListItr" "cursor" "I" (.int 0) := D708 (Or.inl (own_h hw 340 rfl)) (ty := .int) (by decide)
  have F_isListIterator_it : Fld Z h708 it "java/util/ImmutableCollections$ListItr" "isListIterator" "Z" (.int 0) := D708 (Or.inr (own_h hw 342 rfl)) (ty := .boolean) (by decide)
  have S709 : Ga T708 (mkF m 6 #[vR em] [(.ref em), (.ref em), (.ref it), (.ref it)]) := nx S0 fun t kt => st708 t (by
    show Sp p e below T708 (mkF m 3 #[vR em] [(.ref it)]) _
    refine XS.dup X708.here hx rfl (own_k hby 3 (.dup) 1) rfl rfl ?_
    refine xa X708.here hx hby 4 0 rfl ?_
    refine xa X708.here hx hby 5 0 rfl ?_
    exact kt)
  have f710 := (O0.ext E708)
  have z711 := (Nat.le_trans Z0 E708.1)
  obtain ⟨cq712, kq712, q712a, q712b, q712c⟩ := isOf hZ e708 (E_em.ext f710.2)
  obtain ⟨v712, T712, L712, X712, hQ712, st712⟩ := own_outV (X708.virtualBackUp hx (x := (⟨"java/util/ImmutableCollections$AbstractImmutableList", "size", "()I"⟩ : MethodName)) (y := y74) (owner := "java/util/AbstractCollection") hown (own_t hZ hw 323 rfl) (own_t hZ hw 324 rfl) (own_t hZ hw 325 rfl) (by decide) (own_t hZ hw 451 rfl) (own_t hZ hw 452 rfl) (backOf (W := 3) (rm_siz0 hw no de em el ey h708 n0 z711 SS hno f710 ) hZ (own_h hw 454 rfl) (own_h hw 453 rfl) (by decide) (by decide)) q712a q712c (g := (mkF m 6 #[vR em] [(.ref em), (.ref em), (.ref it), (.ref it)])) rfl (by rw [hml]; rfl) (Steps.refl _) (argsL := []) (rest := [(.ref em), (.ref it), (.ref it)]) (lenOf pd___I rfl) rfl (own_w rfl) (own_k hby 6 (.invokevirtual 13) 3) (fun _ _ => ⟨rfl, e708, (by decide : 1 + 0 ≤ _), (by decide : 4 + 0 ≤ _)⟩))
  obtain ⟨rfl, N712q, e712⟩ := hQ712
  have N712 := Fr.app N0 N712q
  obtain ⟨v713, T713, L713, X713, hQ713, st713⟩ := own_cI X712 hx hZ hw hown hml 330 331 333 322 rfl rfl rfl rfl rfl (a := it) (rm_lii hw it em (0 : Int32) h708 n0 z711 A708 F_list_it F_size_it F_cursor_it F_isListIterator_it g_it) e712 (W := 1) (g := (mkF m 9 #[vR em] [(.int 0), (.ref em), (.ref it), (.ref it)])) rfl (argsL := [(.ref em), (.int 0)]) (rest := [(.ref it)]) pd__Ljava_util_List_I_V (own_k hby 9 (.invokespecial 63) 3)
  obtain ⟨rfl, N713q, K713, ⟨Ei713, Fl713, Fz713, Fk713⟩⟩ := hQ713
  have N713 := Fr.app N712 N713q
  have KK713 : Keep h0 T713.heap [] := K708.trans K713 (allS (Or.inr sz_it) all0)
  have S714 : Ga T713 (mkF m 12 #[vR em] [(.ref it)]) := nx S709 fun t kt => st712 t (st713 t kt)
  refine ⟨T713, _, some (.ref it), _, _, _, X713, og S714, fun h => (nomatch hret.symm.trans h), by decide, by decide, ?_, fun fs hr => retOut X713 hx hret rfl (Or.inr (Or.inr (Or.inr (Or.inr ⟨rfl, rfl, rfl⟩)))) (own_k hby 12 (.areturn) 1) hr⟩
  show Q_itr0 Z em h0 n0 _ T713.heap _
  exact ⟨it, rfl, N713, KK713, sz_it, ⟨Ei713, Fl713, Fz713, Fk713⟩⟩
abbrev R_itr1 : Room := { frames := 2, cells := 1, slots := 4, locals := 27 }
def Q_itr1 (Z : State) (r : Addr) (h0 : Heap) (n0 : Nat) (v : Option Value) (h : Heap) (L : List Loc) : Prop := ∃ x : Addr, v = some (.ref x) ∧ Fr n0 L ∧ Keep h0 h [] ∧ h0.size ≤ x ∧ own_LI Z h x r (1 : Int32) (0 : Int32)
theorem rm_itr1 {l : Launch} {Z : State} {a0 : Array Value} (hw : own_W a0 Z) (no : Nat) (de : Addr) (em : Addr) (el : Addr) (ey : Addr) (r : Addr) (u : Addr) (h0 : Heap) (n0 : Nat) (Z0 : n0 ≤ h0.size) (SS : own_St Z de em el ey) (hno : no ≤ n0) (O0 : Old Z no h0) (HL : own_L Z h0 r (.ref u) (.ref ey)) : own_Met l y52 jdk_46_method_10_code 1 (some (.object "java/util/Iterator")) R_itr1 Z h0 #[(.ref r)] (Q_itr1 Z r h0 n0) := by
  refine own_body (plainFor_of_name pn_ail) fun p e s m below meth c s₁ hlk hret hnm hx hby hml hown hZ X0 e0 => ?_
  have N0 := Fr.nil n0
  obtain ⟨Ga, Sa, nx, og⟩ := own_ga (p := p) (e := e) (below := below) s₁ (eF_2 m r)
  have S0 : Ga s₁ (mkF m 0 #[vR r] []) := nx Sa fun t k => castTop (ef_2 m r) k
  obtain ⟨⟨cz, S_cs, hcz⟩, ⟨kde, S_de, E_de, V_de⟩, ⟨kel, S_em, E_em, F_em, V_el⟩, S_ey, E_ey⟩ := id SS
  obtain ⟨El, F0, F1⟩ := HL
  obtain ⟨T715, h715, X715, e715, E715, A715, D715, -, st715⟩ := newO X0 hx hZ hown (own_h hw 320 rfl) (own_h hw 321 rfl) (own_h hw 322 rfl) e0 (g := (mkF m 0 #[vR r] [])) rfl (own_k hby 0 (.new 61) 3) (by decide) (by decide)
  obtain ⟨it, g715⟩ : ∃ z, z = h0.size := ⟨_, rfl⟩
  rw [← g715] at A715 D715 st715
  have ne716 : r ≠ it := by rw [g715]; exact Nat.ne_of_lt El.lt
  have g_it : n0 ≤ it := Nat.le_trans Z0 (Nat.le_of_eq g715.symm)
  have sz_it : h0.size ≤ it := Nat.le_trans (Keep.refl h0 []).1 (Nat.le_of_eq g715.symm)
  have K715 : Keep h0 h715 [] := (Keep.refl h0 []).ext E715
  have F_list_it : Fld Z h715 it "java/util/ImmutableCollections$ListItr" "list" "Ljava/util/List;" .null := D715 (Or.inr (own_h hw 336 rfl)) (ty := (.object "java/util/List")) (by decide)
  have F_size_it : Fld Z h715 it "java/util/ImmutableCollections$ListItr" "size" "I" (.int 0) := D715 (Or.inr (own_h hw 338 rfl)) (ty := .int) (by decide)
  have F_cursor_it : Fld Z h715 it "java/util/ImmutableCollections$ListItr" "cursor" "I" (.int 0) := D715 (Or.inl (own_h hw 340 rfl)) (ty := .int) (by decide)
  have F_isListIterator_it : Fld Z h715 it "java/util/ImmutableCollections$ListItr" "isListIterator" "Z" (.int 0) := D715 (Or.inr (own_h hw 342 rfl)) (ty := .boolean) (by decide)
  have S717 : Ga T715 (mkF m 6 #[vR r] [(.ref r), (.ref r), (.ref it), (.ref it)]) := nx S0 fun t kt => st715 t (by
    show Sp p e below T715 (mkF m 3 #[vR r] [(.ref it)]) _
    refine XS.dup X715.here hx rfl (own_k hby 3 (.dup) 1) rfl rfl ?_
    refine xa X715.here hx hby 4 0 rfl ?_
    refine xa X715.here hx hby 5 0 rfl ?_
    exact kt)
  have f718 := (O0.ext E715)
  have f719 := (El.ext E715)
  have f720 := (F0.ext E715)
  have f721 := (F1.ext E715)
  have z722 := (Nat.le_trans Z0 E715.1)
  obtain ⟨cq723, kq723, q723a, q723b, q723c⟩ := isOf hZ e715 f719
  obtain ⟨v723, T723, L723, X723, hQ723, st723⟩ := own_outV (X715.virtualBackUp hx (x := (⟨"java/util/ImmutableCollections$AbstractImmutableList", "size", "()I"⟩ : MethodName)) (y := y53) (owner := "java/util/AbstractCollection") hown (own_t hZ hw 323 rfl) (own_t hZ hw 324 rfl) (own_t hZ hw 325 rfl) (by decide) (own_t hZ hw 326 rfl) (own_t hZ hw 327 rfl) (backOf (W := 3) (rm_siz1 hw no de em el ey r u h715 n0 z722 SS hno f718 ⟨f719, f720, f721⟩) hZ (own_h hw 328 rfl) (own_h hw 174 rfl) (by decide) (by decide)) q723a q723c (g := (mkF m 6 #[vR r] [(.ref r), (.ref r), (.ref it), (.ref it)])) rfl (by rw [hml]; rfl) (Steps.refl _) (argsL := []) (rest := [(.ref r), (.ref it), (.ref it)]) (lenOf pd___I rfl) rfl (own_w rfl) (own_k hby 6 (.invokevirtual 13) 3) (fun _ _ => ⟨rfl, e715, (by decide : 1 + 0 ≤ _), (by decide : 4 + 0 ≤ _)⟩))
  obtain ⟨rfl, N723q, e723⟩ := hQ723
  have N723 := Fr.app N0 N723q
  obtain ⟨v724, T724, L724, X724, hQ724, st724⟩ := own_cI X723 hx hZ hw hown hml 330 331 333 322 rfl rfl rfl rfl rfl (a := it) (rm_lii hw it r (1 : Int32) h715 n0 z722 A715 F_list_it F_size_it F_cursor_it F_isListIterator_it g_it) e723 (W := 1) (g := (mkF m 9 #[vR r] [(.int 1), (.ref r), (.ref it), (.ref it)])) rfl (argsL := [(.ref r), (.int 1)]) (rest := [(.ref it)]) pd__Ljava_util_List_I_V (own_k hby 9 (.invokespecial 63) 3)
  obtain ⟨rfl, N724q, K724, ⟨Ei724, Fl724, Fz724, Fk724⟩⟩ := hQ724
  have N724 := Fr.app N723 N724q
  have KK724 : Keep h0 T724.heap [] := K715.trans K724 (allS (Or.inr sz_it) all0)
  have S725 : Ga T724 (mkF m 12 #[vR r] [(.ref it)]) := nx S717 fun t kt => st723 t (st724 t kt)
  refine ⟨T724, _, some (.ref it), _, _, _, X724, og S725, fun h => (nomatch hret.symm.trans h), by decide, by decide, ?_, fun fs hr => retOut X724 hx hret rfl (Or.inr (Or.inr (Or.inr (Or.inr ⟨rfl, rfl, rfl⟩)))) (own_k hby 12 (.areturn) 1) hr⟩
  show Q_itr1 Z r h0 n0 _ T724.heap _
  exact ⟨it, rfl, N724, KK724, sz_it, ⟨Ei724, Fl724, Fz724, Fk724⟩⟩
abbrev R_itr2 : Room := { frames := 2, cells := 1, slots := 4, locals := 27 }
def Q_itr2 (Z : State) (r : Addr) (h0 : Heap) (n0 : Nat) (v : Option Value) (h : Heap) (L : List Loc) : Prop := ∃ x : Addr, v = some (.ref x) ∧ Fr n0 L ∧ Keep h0 h [] ∧ h0.size ≤ x ∧ own_LI Z h x r (2 : Int32) (0 : Int32)
theorem rm_itr2 {l : Launch} {Z : State} {a0 : Array Value} (hw : own_W a0 Z) (no : Nat) (de : Addr) (em : Addr) (el : Addr) (ey : Addr) (r : Addr) (u : Addr) (v' : Addr) (h0 : Heap) (n0 : Nat) (Z0 : n0 ≤ h0.size) (SS : own_St Z de em el ey) (hno : no ≤ n0) (O0 : Old Z no h0) (HL : own_L Z h0 r (.ref u) (.ref v')) (Ev' : Exa Z h0 v' "java/lang/String") : own_Met l y52 jdk_46_method_10_code 1 (some (.object "java/util/Iterator")) R_itr2 Z h0 #[(.ref r)] (Q_itr2 Z r h0 n0) := by
  refine own_body (plainFor_of_name pn_ail) fun p e s m below meth c s₁ hlk hret hnm hx hby hml hown hZ X0 e0 => ?_
  have N0 := Fr.nil n0
  obtain ⟨Ga, Sa, nx, og⟩ := own_ga (p := p) (e := e) (below := below) s₁ (eF_2 m r)
  have S0 : Ga s₁ (mkF m 0 #[vR r] []) := nx Sa fun t k => castTop (ef_2 m r) k
  obtain ⟨⟨cz, S_cs, hcz⟩, ⟨kde, S_de, E_de, V_de⟩, ⟨kel, S_em, E_em, F_em, V_el⟩, S_ey, E_ey⟩ := id SS
  obtain ⟨El, F0, F1⟩ := HL
  obtain ⟨T726, h726, X726, e726, E726, A726, D726, -, st726⟩ := newO X0 hx hZ hown (own_h hw 320 rfl) (own_h hw 321 rfl) (own_h hw 322 rfl) e0 (g := (mkF m 0 #[vR r] [])) rfl (own_k hby 0 (.new 61) 3) (by decide) (by decide)
  obtain ⟨it, g726⟩ : ∃ z, z = h0.size := ⟨_, rfl⟩
  rw [← g726] at A726 D726 st726
  have ne727 : r ≠ it := by rw [g726]; exact Nat.ne_of_lt El.lt
  have ne728 : v' ≠ it := by rw [g726]; exact Nat.ne_of_lt Ev'.lt
  have g_it : n0 ≤ it := Nat.le_trans Z0 (Nat.le_of_eq g726.symm)
  have sz_it : h0.size ≤ it := Nat.le_trans (Keep.refl h0 []).1 (Nat.le_of_eq g726.symm)
  have K726 : Keep h0 h726 [] := (Keep.refl h0 []).ext E726
  have F_list_it : Fld Z h726 it "java/util/ImmutableCollections$ListItr" "list" "Ljava/util/List;" .null := D726 (Or.inr (own_h hw 336 rfl)) (ty := (.object "java/util/List")) (by decide)
  have F_size_it : Fld Z h726 it "java/util/ImmutableCollections$ListItr" "size" "I" (.int 0) := D726 (Or.inr (own_h hw 338 rfl)) (ty := .int) (by decide)
  have F_cursor_it : Fld Z h726 it "java/util/ImmutableCollections$ListItr" "cursor" "I" (.int 0) := D726 (Or.inl (own_h hw 340 rfl)) (ty := .int) (by decide)
  have F_isListIterator_it : Fld Z h726 it "java/util/ImmutableCollections$ListItr" "isListIterator" "Z" (.int 0) := D726 (Or.inr (own_h hw 342 rfl)) (ty := .boolean) (by decide)
  have S729 : Ga T726 (mkF m 6 #[vR r] [(.ref r), (.ref r), (.ref it), (.ref it)]) := nx S0 fun t kt => st726 t (by
    show Sp p e below T726 (mkF m 3 #[vR r] [(.ref it)]) _
    refine XS.dup X726.here hx rfl (own_k hby 3 (.dup) 1) rfl rfl ?_
    refine xa X726.here hx hby 4 0 rfl ?_
    refine xa X726.here hx hby 5 0 rfl ?_
    exact kt)
  have f730 := (O0.ext E726)
  have f731 := (El.ext E726)
  have f732 := (F0.ext E726)
  have f733 := (F1.ext E726)
  have f734 := (Ev'.ext E726)
  have z735 := (Nat.le_trans Z0 E726.1)
  obtain ⟨cq736, kq736, q736a, q736b, q736c⟩ := isOf hZ e726 f731
  obtain ⟨v736, T736, L736, X736, hQ736, st736⟩ := own_outV (X726.virtualBackUp hx (x := (⟨"java/util/ImmutableCollections$AbstractImmutableList", "size", "()I"⟩ : MethodName)) (y := y53) (owner := "java/util/AbstractCollection") hown (own_t hZ hw 323 rfl) (own_t hZ hw 324 rfl) (own_t hZ hw 325 rfl) (by decide) (own_t hZ hw 326 rfl) (own_t hZ hw 327 rfl) (backOf (W := 3) (rm_siz2 hw no de em el ey r u v' h726 n0 z735 SS hno f730 ⟨f731, f732, f733⟩ f734) hZ (own_h hw 328 rfl) (own_h hw 174 rfl) (by decide) (by decide)) q736a q736c (g := (mkF m 6 #[vR r] [(.ref r), (.ref r), (.ref it), (.ref it)])) rfl (by rw [hml]; rfl) (Steps.refl _) (argsL := []) (rest := [(.ref r), (.ref it), (.ref it)]) (lenOf pd___I rfl) rfl (own_w rfl) (own_k hby 6 (.invokevirtual 13) 3) (fun _ _ => ⟨rfl, e726, (by decide : 1 + 0 ≤ _), (by decide : 4 + 0 ≤ _)⟩))
  obtain ⟨rfl, N736q, e736⟩ := hQ736
  have N736 := Fr.app N0 N736q
  obtain ⟨v737, T737, L737, X737, hQ737, st737⟩ := own_cI X736 hx hZ hw hown hml 330 331 333 322 rfl rfl rfl rfl rfl (a := it) (rm_lii hw it r (2 : Int32) h726 n0 z735 A726 F_list_it F_size_it F_cursor_it F_isListIterator_it g_it) e736 (W := 1) (g := (mkF m 9 #[vR r] [(.int 2), (.ref r), (.ref it), (.ref it)])) rfl (argsL := [(.ref r), (.int 2)]) (rest := [(.ref it)]) pd__Ljava_util_List_I_V (own_k hby 9 (.invokespecial 63) 3)
  obtain ⟨rfl, N737q, K737, ⟨Ei737, Fl737, Fz737, Fk737⟩⟩ := hQ737
  have N737 := Fr.app N736 N737q
  have KK737 : Keep h0 T737.heap [] := K726.trans K737 (allS (Or.inr sz_it) all0)
  have S738 : Ga T737 (mkF m 12 #[vR r] [(.ref it)]) := nx S729 fun t kt => st736 t (st737 t kt)
  refine ⟨T737, _, some (.ref it), _, _, _, X737, og S738, fun h => (nomatch hret.symm.trans h), by decide, by decide, ?_, fun fs hr => retOut X737 hx hret rfl (Or.inr (Or.inr (Or.inr (Or.inr ⟨rfl, rfl, rfl⟩)))) (own_k hby 12 (.areturn) 1) hr⟩
  show Q_itr2 Z r h0 n0 _ T737.heap _
  exact ⟨it, rfl, N737, KK737, sz_it, ⟨Ei737, Fl737, Fz737, Fk737⟩⟩
abbrev R_hnx : Room := { frames := 0, cells := 0, slots := 0, locals := 0 }
def Q_hnx (Z : State)  (h0 : Heap) (n0 : Nat) (v : Option Value) (h : Heap) (L : List Loc) : Prop := v = some (.int 1) ∧ Fr n0 L ∧ h = h0
theorem rm_hnx {l : Launch} {Z : State} {a0 : Array Value} (hw : own_W a0 Z) (x : Addr) (r : Addr) (sz : Int32) (c' : Int32) (h0 : Heap) (n0 : Nat) (Z0 : n0 ≤ h0.size) (HT : own_LI Z h0 x r sz c') (hcs : ¬ c' = sz) : own_Met l y55 jdk_53_method_3_code 1 (some .boolean) R_hnx Z h0 #[(.ref x)] (Q_hnx Z  h0 n0) := by
  refine own_body (plainFor_of_name pn_lii) fun p e s m below meth c s₁ hlk hret hnm hx hby hml hown hZ X0 e0 => ?_
  have N0 := Fr.nil n0
  obtain ⟨Ga, Sa, nx, og⟩ := own_ga (p := p) (e := e) (below := below) s₁ (eF_2 m x)
  have S0 : Ga s₁ (mkF m 0 #[vR x] []) := nx Sa fun t k => castTop (ef_2 m x) k
  obtain ⟨Ei, Fl, Fz, Fk⟩ := HT
  have S739 : Ga s₁ (mkF m 1 #[vR x] [(.ref x)]) := nx S0 fun t kt => by
    refine xa X0.here hx hby 0 0 rfl ?_
    exact kt
  obtain ⟨T740, X740, e740, st740⟩ := getF X0 hx hZ hown (host := "") (Or.inl (own_h hw 339 rfl)) Via.refl e0 Fk (g := (mkF m 1 #[vR x] [(.ref x)])) rfl rfl (own_k hby 1 (.getfield 17) 3)
  have S741 : Ga T740 (mkF m 5 #[vR x] [(.ref x), (.int c')]) := nx S739 fun t kt => st740 t (by
    show Sp p e below T740 (mkF m 4 #[vR x] [(.int c')]) _
    refine xa X740.here hx hby 4 0 rfl ?_
    exact kt)
  obtain ⟨T742, X742, e742, st742⟩ := getF X740 hx hZ hown (host := "") (Or.inl (own_h hw 337 rfl)) Via.refl e740 Fz (g := (mkF m 5 #[vR x] [(.ref x), (.int c')])) rfl rfl (own_k hby 5 (.getfield 13) 3)
  have S743 : Ga T742 (mkF m 16 #[vR x] [(.int 1)]) := nx S741 fun t kt => st742 t (by
    show Sp p e below T742 (mkF m 8 #[vR x] [(.int sz), (.int c')]) _
    refine XS.icmpNo X742.here hx rfl (own_k hby 8 (.if_icmp .eq 7) 3) rfl (feq (show ¬ (c' = sz) from hcs)).1 ?_
    refine xc X742.here hx hby 11 1 ?_
    refine XS.goto X742.here hx rfl (pc0 := 12) (pc' := 16) rfl (own_k hby 12 (.goto 4) 3) (by decide) (by decide) ?_
    exact kt)
  refine ⟨T742, _, some (.int 1), _, _, _, X742, og S743, fun h => (nomatch hret.symm.trans h), by decide, by decide, ?_, fun fs hr => retN X742 hx (t := .boolean) hret (by simp) (own_k hby 16 (.ireturn) 1) hr⟩
  show Q_hnx Z  h0 n0 _ T742.heap _
  rw [e742]
  exact ⟨rfl, N0, rfl⟩
abbrev R_hno : Room := { frames := 0, cells := 0, slots := 0, locals := 0 }
def Q_hno (Z : State)  (h0 : Heap) (n0 : Nat) (v : Option Value) (h : Heap) (L : List Loc) : Prop := v = some (.int 0) ∧ Fr n0 L ∧ h = h0
theorem rm_hno {l : Launch} {Z : State} {a0 : Array Value} (hw : own_W a0 Z) (x : Addr) (r : Addr) (sz : Int32) (c' : Int32) (h0 : Heap) (n0 : Nat) (Z0 : n0 ≤ h0.size) (HT : own_LI Z h0 x r sz c') (hcs : c' = sz) : own_Met l y55 jdk_53_method_3_code 1 (some .boolean) R_hno Z h0 #[(.ref x)] (Q_hno Z  h0 n0) := by
  refine own_body (plainFor_of_name pn_lii) fun p e s m below meth c s₁ hlk hret hnm hx hby hml hown hZ X0 e0 => ?_
  have N0 := Fr.nil n0
  obtain ⟨Ga, Sa, nx, og⟩ := own_ga (p := p) (e := e) (below := below) s₁ (eF_2 m x)
  have S0 : Ga s₁ (mkF m 0 #[vR x] []) := nx Sa fun t k => castTop (ef_2 m x) k
  obtain ⟨Ei, Fl, Fz, Fk⟩ := HT
  have S744 : Ga s₁ (mkF m 1 #[vR x] [(.ref x)]) := nx S0 fun t kt => by
    refine xa X0.here hx hby 0 0 rfl ?_
    exact kt
  obtain ⟨T745, X745, e745, st745⟩ := getF X0 hx hZ hown (host := "") (Or.inl (own_h hw 339 rfl)) Via.refl e0 Fk (g := (mkF m 1 #[vR x] [(.ref x)])) rfl rfl (own_k hby 1 (.getfield 17) 3)
  have S746 : Ga T745 (mkF m 5 #[vR x] [(.ref x), (.int c')]) := nx S744 fun t kt => st745 t (by
    show Sp p e below T745 (mkF m 4 #[vR x] [(.int c')]) _
    refine xa X745.here hx hby 4 0 rfl ?_
    exact kt)
  obtain ⟨T747, X747, e747, st747⟩ := getF X745 hx hZ hown (host := "") (Or.inl (own_h hw 337 rfl)) Via.refl e745 Fz (g := (mkF m 5 #[vR x] [(.ref x), (.int c')])) rfl rfl (own_k hby 5 (.getfield 13) 3)
  have S748 : Ga T747 (mkF m 16 #[vR x] [(.int 0)]) := nx S746 fun t kt => st747 t (by
    show Sp p e below T747 (mkF m 8 #[vR x] [(.int sz), (.int c')]) _
    refine XS.icmpYes X747.here hx rfl (pc0 := 8) (pc' := 15) rfl (own_k hby 8 (.if_icmp .eq 7) 3) rfl (teq (show c' = sz from hcs)).1 (by decide) (by decide) ?_
    refine xc X747.here hx hby 15 0 ?_
    exact kt)
  refine ⟨T747, _, some (.int 0), _, _, _, X747, og S748, fun h => (nomatch hret.symm.trans h), by decide, by decide, ?_, fun fs hr => retN X747 hx (t := .boolean) hret (by simp) (own_k hby 16 (.ireturn) 1) hr⟩
  show Q_hno Z  h0 n0 _ T747.heap _
  rw [e747]
  exact ⟨rfl, N0, rfl⟩
abbrev R_get0 : Room := { frames := 0, cells := 0, slots := 0, locals := 0 }
def Q_get0 (Z : State) (u : Addr) (h0 : Heap) (n0 : Nat) (v : Option Value) (h : Heap) (L : List Loc) : Prop := v = some (.ref u) ∧ Fr n0 L ∧ h = h0
theorem rm_get0 {l : Launch} {Z : State} {a0 : Array Value} (hw : own_W a0 Z) (no : Nat) (de : Addr) (em : Addr) (el : Addr) (ey : Addr) (r : Addr) (u : Addr) (e1 : Addr) (h0 : Heap) (n0 : Nat) (Z0 : n0 ≤ h0.size) (SS : own_St Z de em el ey) (hno : no ≤ n0) (O0 : Old Z no h0) (HL : own_L Z h0 r (.ref u) (.ref e1)) : own_Met l y60 jdk_44_method_5_code 2 (some (.object "java/lang/Object")) R_get0 Z h0 #[(.ref r), (.int 0)] (Q_get0 Z u h0 n0) := by
  refine own_body (plainFor_of_name pn_l121) fun p e s m below meth c s₁ hlk hret hnm hx hby hml hown hZ X0 e0 => ?_
  have N0 := Fr.nil n0
  obtain ⟨Ga, Sa, nx, og⟩ := own_ga (p := p) (e := e) (below := below) s₁ (eF_10 m r (0 : Int32))
  have S0 : Ga s₁ (mkF m 0 #[vR r, vI 0] []) := nx Sa fun t k => castTop (ef_10 m r (0 : Int32)) k
  obtain ⟨⟨cz, S_cs, hcz⟩, ⟨kde, S_de, E_de, V_de⟩, ⟨kel, S_em, E_em, F_em, V_el⟩, S_ey, E_ey⟩ := id SS
  obtain ⟨El, F0, F1⟩ := HL
  have S749 : Ga s₁ (mkF m 5 #[vR r, vI 0] [(.ref r)]) := nx S0 fun t kt => by
    refine xi X0.here hx hby 0 1 rfl ?_
    refine XS.ifNo X0.here hx rfl (own_k hby 1 (.ifCond .ne 8) 3) rfl ((if0 _ _).trans (teq (show (0 : Int32) = (0 : Int32) from (by decide))).2) ?_
    refine xa X0.here hx hby 4 0 rfl ?_
    exact kt
  obtain ⟨T750, X750, e750, st750⟩ := getF X0 hx hZ hown (host := "") (Or.inl (own_h hw 197 rfl)) Via.refl e0 F0 (g := (mkF m 5 #[vR r, vI 0] [(.ref r)])) rfl rfl (own_k hby 5 (.getfield 13) 3)
  have S751 : Ga T750 (mkF m 8 #[vR r, vI 0] [(.ref u)]) := nx S749 fun t kt => st750 t kt
  refine ⟨T750, _, some (.ref u), _, _, _, X750, og S751, fun h => (nomatch hret.symm.trans h), by decide, by decide, ?_, fun fs hr => retOut X750 hx hret rfl (Or.inr (Or.inr (Or.inr (Or.inr ⟨rfl, rfl, rfl⟩)))) (own_k hby 8 (.areturn) 1) hr⟩
  show Q_get0 Z u h0 n0 _ T750.heap _
  rw [e750]
  exact ⟨rfl, N0, rfl⟩
abbrev R_nxt0 : Room := { frames := 1, cells := 0, slots := 0, locals := 13 }
abbrev eF_21 (m : MethodId) (x0 : Addr) : JFrame := entryFrame m #[(.ref x0)] 3
theorem ef_21 (m : MethodId) (x0 : Addr) : entryFrame m #[(.ref x0)] 3 = mkF m 0 #[.val (.ref x0), .unset, .unset] [] := by first | (simp [entryFrame, mkF, argsToLocals, Value.category]; done) | rfl
def Q_nxt0 (Z : State) (x : Addr) (sz : Int32) (r : Addr) (u : Addr) (h0 : Heap) (n0 : Nat) (v : Option Value) (h : Heap) (L : List Loc) : Prop := v = some (.ref u) ∧ Fr n0 L ∧ Keep h0 h [x] ∧ own_LI Z h x r sz (1 : Int32)
theorem rm_nxt0 {l : Launch} {Z : State} {a0 : Array Value} (hw : own_W a0 Z) (no : Nat) (de : Addr) (em : Addr) (el : Addr) (ey : Addr) (x : Addr) (sz : Int32) (r : Addr) (u : Addr) (e1 : Addr) (h0 : Heap) (n0 : Nat) (Z0 : n0 ≤ h0.size) (SS : own_St Z de em el ey) (hno : no ≤ n0) (O0 : Old Z no h0) (HT : own_LI Z h0 x r sz (0 : Int32)) (g_x : n0 ≤ x) (HL : own_L Z h0 r (.ref u) (.ref e1)) :
    MetFree l y59 (head1 [Jvm.Cond.codeWith y59 jdk_53_method_4_code 3 (some (.object "java/lang/Object")) [(0, 24, 25, 30)]] R_nxt0) (fun aa U => aa = #[(.ref x)] ∧ Z.Warmed39 U.vm ∧ U.heap = h0) (fun _ _ _ _ _ => True) (fun _ U o U' => ∃ v L, o = .returned v ∧ Q_nxt0 Z x sz r u h0 n0 v U'.heap L ∧ FrameEnd U o U' L R_nxt0.cells R_nxt0.slots) := by
  refine MetFree.of_bodySF (plainFor_of_name pn_lii) hisWith ?_
  intro p e s m args below meth c s₁ Bd hml0 hP hK
  obtain ⟨rfl, hZ, hh⟩ := hP
  have hx := Bd.exec
  have hby := Bd.bytes
  have hml : c.maxLocals = 3 := hml0
  have hown : s.vm.findClass "java/util/ImmutableCollections$ListItr" = some m.cls := findClass_of_methodNamed Bd.named
  have hnm := (name_of_methodNamed Bd.named Bd.method).1
  have X0 : Stand p l e R_nxt0 s m #[(.ref x)] below meth c s₁ [] 0 0 := Stand.of_body Bd
  have e0 : s₁.heap = h0 := by rw [← hh, Bd.state]; rfl
  have N0 := Fr.nil n0
  obtain ⟨Ga, Sa, nx, og⟩ := own_ga (p := p) (e := e) (below := below) s₁ (eF_21 m x)
  have S0 : Ga s₁ (mkF m 0 #[vR x, vU, vU] []) := nx Sa fun t k => castTop (ef_21 m x) k
  obtain ⟨⟨cz, S_cs, hcz⟩, -⟩ := id SS
  obtain ⟨Ei, Fl, Fz, Fk⟩ := HT
  obtain ⟨El, F0, F1⟩ := HL
  have S752 : Ga s₁ (mkF m 1 #[vR x, vU, vU] [(.ref x)]) := nx S0 fun t kt => by
    refine xa X0.here hx hby 0 0 rfl ?_
    exact kt
  obtain ⟨T753, X753, e753, st753⟩ := getF X0 hx hZ hown (host := "") (Or.inl (own_h hw 339 rfl)) Via.refl e0 Fk (g := (mkF m 1 #[vR x, vU, vU] [(.ref x)])) rfl rfl (own_k hby 1 (.getfield 17) 3)
  have S754 : Ga T753 (mkF m 6 #[vR x, vI 0, vU] [(.ref x)]) := nx S752 fun t kt => st753 t (by
    show Sp p e below T753 (mkF m 4 #[vR x, vU, vU] [(.int 0)]) _
    refine XS.istoreN X753.here hx rfl (own_k hby 4 (.istore_n 1) 1) rfl (l' := #[vR x, vI 0, vU]) rfl ?_
    refine xa X753.here hx hby 5 0 rfl ?_
    exact kt)
  obtain ⟨T755, X755, e755, st755⟩ := getF X753 hx hZ hown (host := "") (Or.inl (own_h hw 335 rfl)) Via.refl e753 Fl (g := (mkF m 6 #[vR x, vI 0, vU] [(.ref x)])) rfl rfl (own_k hby 6 (.getfield 7) 3)
  have S756 : Ga T755 (mkF m 10 #[vR x, vI 0, vU] [(.int 0), (.ref r)]) := nx S754 fun t kt => st755 t (by
    show Sp p e below T755 (mkF m 9 #[vR x, vI 0, vU] [(.ref r)]) _
    refine xi X755.here hx hby 9 1 rfl ?_
    exact kt)
  obtain ⟨cq757, kq757, q757a, q757b, q757c⟩ := isOf hZ e755 El
  obtain ⟨v757, T757, L757, X757, hQ757, st757⟩ := own_outV (X755.interfaceBack hx (xi := (⟨"java/util/List", "get", "(I)Ljava/lang/Object;"⟩ : MethodName)) (y := y60) hown (own_t hZ hw 378 rfl) (own_t hZ hw 379 rfl) (own_t hZ hw 380 rfl) (own_t hZ hw 381 rfl) (own_t hZ hw 382 rfl) (own_t hZ hw 383 rfl) (own_t hZ hw 384 rfl) (own_t hZ hw 385 rfl) (by decide) (backOf (W := 0) (rm_get0 hw no de em el ey r u e1 h0 n0 Z0 SS hno O0 ⟨El, F0, F1⟩) hZ (own_h hw 386 rfl) (own_h hw 174 rfl) (by decide) (by decide)) q757a q757b q757c (g := (mkF m 10 #[vR x, vI 0, vU] [(.int 0), (.ref r)])) rfl (by rw [hml]; rfl) (Steps.refl _) (argsL := [(.int 0)]) (rest := []) (lenOf pd__I_Ljava_lang_Object_ rfl) rfl (own_w rfl) (own_k hby 10 (.invokeinterface 24 2) 5) (fun _ _ => ⟨rfl, e755, (by decide : 0 + 0 ≤ _), (by decide : 0 + 0 ≤ _)⟩))
  obtain ⟨rfl, N757q, e757⟩ := hQ757
  have N757 := Fr.app N0 N757q
  have S758 : Ga T757 (mkF m 20 #[vR x, vI 0, vR u] [(.int ((0 : Int32) + (1 : Int32))), (.ref x)]) := nx S756 fun t kt => st757 t (by
    show Sp p e below T757 (mkF m 15 #[vR x, vI 0, vU] [(.ref u)]) _
    refine XS.astoreN X757.here hx rfl (own_k hby 15 (.astore_n 2) 1) rfl rfl (l' := #[vR x, vI 0, vR u]) rfl ?_
    refine xa X757.here hx hby 16 0 rfl ?_
    refine xi X757.here hx hby 17 1 rfl ?_
    refine xc X757.here hx hby 18 1 ?_
    show Sp p e below T757 (mkF m 19 #[vR x, vI 0, vR u] [(.int 1), (.int 0), (.ref x)]) _
    refine XS.iadd X757.here hx rfl (own_k hby 19 (.iadd) 1) rfl ?_
    exact kt)
  have q760 : ((0 : Int32) + (1 : Int32)) = (1 : Int32) := by decide
  have S759 : Ga T757 (mkF m 20 #[vR x, vI 0, vR u] [(.int 1), (.ref x)]) := by have h := S758; rw [q760] at h; exact h
  clear S758
  obtain ⟨T761, h761, X761, e761, W761, st761⟩ := putF X757 hx hZ hown (host := "") (Or.inl (own_h hw 339 rfl)) Via.refl e757 Fk Ei (Or.inl (own_h hw 340 rfl)) (own_h hw 321 rfl) (ty := .int) (by decide) rfl rfl (g := (mkF m 20 #[vR x, vI 0, vR u] [(.int 1), (.ref x)])) rfl rfl (own_k hby 20 (.putfield 17) 3)
  have N761 := Fr.snoc X761 N757 g_x
  have K761 : Keep h0 h761 [x] := (Keep.refl h0 [x]).wr W761 (Or.inl (by simp))
  have Fw761 := Fk.same W761
  have S762 : Ga T761 (mkF m 24 #[vR x, vI 0, vR u] [(.ref u)]) := nx S759 fun t kt => st761 t (by
    show Sp p e below T761 (mkF m 23 #[vR x, vI 0, vR u] []) _
    refine xa X761.here hx hby 23 2 rfl ?_
    exact kt)
  have f763 := (Ei.wr W761)
  have f764 := (Fl.other W761 (Or.inr (ns23 hw)))
  have f765 := (Fz.other W761 (Or.inr (ns25 hw)))
  obtain ⟨fs, hr, hrun, hended, hW, hsame⟩ := X761.leave (v := some (.ref u)) (fun h => by first | rfl | (rw [Bd.returns] at h; cases h))
  refine ⟨_, _, (og S762) _ ?_, hrun, hended, _, _, rfl, ?_, ⟨_, rfl⟩, hW, hsame.mono (by decide) (by decide)⟩
  · exact retOut X761 hx Bd.returns rfl (Or.inr (Or.inr (Or.inr (Or.inr ⟨rfl, rfl, rfl⟩)))) (own_k hby 24 (.areturn) 1) hr
  · show Q_nxt0 Z x sz r u h0 n0 _ T761.heap _
    rw [e761]
    exact ⟨rfl, N761, K761, ⟨f763, f764, f765, Fw761⟩⟩
abbrev R_get1 : Room := { frames := 0, cells := 0, slots := 0, locals := 0 }
def Q_get1 (Z : State) (e1 : Addr) (h0 : Heap) (n0 : Nat) (v : Option Value) (h : Heap) (L : List Loc) : Prop := v = some (.ref e1) ∧ Fr n0 L ∧ h = h0
theorem rm_get1 {l : Launch} {Z : State} {a0 : Array Value} (hw : own_W a0 Z) (no : Nat) (de : Addr) (em : Addr) (el : Addr) (ey : Addr) (r : Addr) (u : Addr) (e1 : Addr) (h0 : Heap) (n0 : Nat) (Z0 : n0 ≤ h0.size) (SS : own_St Z de em el ey) (hno : no ≤ n0) (O0 : Old Z no h0) (HL : own_L Z h0 r (.ref u) (.ref e1)) (Ev : Exa Z h0 e1 "java/lang/String") : own_Met l y60 jdk_44_method_5_code 2 (some (.object "java/lang/Object")) R_get1 Z h0 #[(.ref r), (.int 1)] (Q_get1 Z e1 h0 n0) := by
  refine own_body (plainFor_of_name pn_l121) fun p e s m below meth c s₁ hlk hret hnm hx hby hml hown hZ X0 e0 => ?_
  have N0 := Fr.nil n0
  obtain ⟨Ga, Sa, nx, og⟩ := own_ga (p := p) (e := e) (below := below) s₁ (eF_10 m r (1 : Int32))
  have S0 : Ga s₁ (mkF m 0 #[vR r, vI 1] []) := nx Sa fun t k => castTop (ef_10 m r (1 : Int32)) k
  obtain ⟨⟨cz, S_cs, hcz⟩, ⟨kde, S_de, E_de, V_de⟩, ⟨kel, S_em, E_em, F_em, V_el⟩, S_ey, E_ey⟩ := id SS
  obtain ⟨El, F0, F1⟩ := HL
  have S766 : Ga s₁ (mkF m 15 #[vR r, vI 1] [(.ref r)]) := nx S0 fun t kt => by
    refine xi X0.here hx hby 0 1 rfl ?_
    refine XS.ifYes X0.here hx rfl (pc0 := 1) (pc' := 9) rfl (own_k hby 1 (.ifCond .ne 8) 3) rfl ((if0 _ _).trans (feq (show ¬ ((1 : Int32) = (0 : Int32)) from (by decide))).2) (by decide) (by decide) ?_
    refine xi X0.here hx hby 9 1 rfl ?_
    refine xc X0.here hx hby 10 1 ?_
    show Sp p e below s₁ (mkF m 11 #[vR r, vI 1] [(.int 1), (.int 1)]) _
    refine XS.icmpNo X0.here hx rfl (own_k hby 11 (.if_icmp .ne 18) 3) rfl (teq (show (1 : Int32) = (1 : Int32) from (by decide))).2 ?_
    refine xa X0.here hx hby 14 0 rfl ?_
    exact kt
  obtain ⟨T767, X767, e767, st767⟩ := getF X0 hx hZ hown (host := "") (Or.inl (own_h hw 199 rfl)) Via.refl e0 F1 (g := (mkF m 15 #[vR r, vI 1] [(.ref r)])) rfl rfl (own_k hby 15 (.getfield 24) 3)
  obtain ⟨T768, X768, e768, st768⟩ := getS2 X767 hx hZ hown (Or.inr (own_h hw 329 rfl)) Via.refl e767 (S_ey.ext O0.2) (g := (mkF m 18 #[vR r, vI 1] [(.ref e1)])) rfl (own_k hby 18 (.getstatic 19) 3)
  have ne769 : e1 ≠ ey := Exa.ne Ev (E_ey.ext O0.2) (by decide)
  have S770 : Ga T768 (mkF m 25 #[vR r, vI 1] [(.ref r)]) := nx S766 fun t kt => st767 t (st768 t (by
    show Sp p e below T768 (mkF m 21 #[vR r, vI 1] [(.ref ey), (.ref e1)]) _
    refine Jvm.RoadKit.acmp (g := (mkF m 21 #[vR r, vI 1] [(.ref ey), (.ref e1)])) X768 hx rfl rfl rfl (pc0 := 21) (pc' := 24) (same := false) rfl (own_k hby 21 (.if_acmp .eq 8) 3) rfl (decide_eq_false fun q => ne769 (Value.ref.inj q)) (by decide) (by decide) ?_
    refine xa X768.here hx hby 24 0 rfl ?_
    exact kt))
  obtain ⟨T771, X771, e771, st771⟩ := getF X768 hx hZ hown (host := "") (Or.inl (own_h hw 199 rfl)) Via.refl e768 F1 (g := (mkF m 25 #[vR r, vI 1] [(.ref r)])) rfl rfl (own_k hby 25 (.getfield 24) 3)
  have S772 : Ga T771 (mkF m 28 #[vR r, vI 1] [(.ref e1)]) := nx S770 fun t kt => st771 t kt
  refine ⟨T771, _, some (.ref e1), _, _, _, X771, og S772, fun h => (nomatch hret.symm.trans h), by decide, by decide, ?_, fun fs hr => retOut X771 hx hret rfl (Or.inr (Or.inr (Or.inr (Or.inr ⟨rfl, rfl, rfl⟩)))) (own_k hby 28 (.areturn) 1) hr⟩
  show Q_get1 Z e1 h0 n0 _ T771.heap _
  rw [e771]
  exact ⟨rfl, N0, rfl⟩
abbrev R_nxt1 : Room := { frames := 1, cells := 0, slots := 0, locals := 13 }
def Q_nxt1 (Z : State) (x : Addr) (sz : Int32) (r : Addr) (e1 : Addr) (h0 : Heap) (n0 : Nat) (v : Option Value) (h : Heap) (L : List Loc) : Prop := v = some (.ref e1) ∧ Fr n0 L ∧ Keep h0 h [x] ∧ own_LI Z h x r sz (2 : Int32)
theorem rm_nxt1 {l : Launch} {Z : State} {a0 : Array Value} (hw : own_W a0 Z) (no : Nat) (de : Addr) (em : Addr) (el : Addr) (ey : Addr) (x : Addr) (sz : Int32) (r : Addr) (u : Addr) (e1 : Addr) (h0 : Heap) (n0 : Nat) (Z0 : n0 ≤ h0.size) (SS : own_St Z de em el ey) (hno : no ≤ n0) (O0 : Old Z no h0) (HT : own_LI Z h0 x r sz (1 : Int32)) (g_x : n0 ≤ x) (HL : own_L Z h0 r (.ref u) (.ref e1)) (Ev : Exa Z h0 e1 "java/lang/String") :
    MetFree l y59 (head1 [Jvm.Cond.codeWith y59 jdk_53_method_4_code 3 (some (.object "java/lang/Object")) [(0, 24, 25, 30)]] R_nxt1) (fun aa U => aa = #[(.ref x)] ∧ Z.Warmed39 U.vm ∧ U.heap = h0) (fun _ _ _ _ _ => True) (fun _ U o U' => ∃ v L, o = .returned v ∧ Q_nxt1 Z x sz r e1 h0 n0 v U'.heap L ∧ FrameEnd U o U' L R_nxt1.cells R_nxt1.slots) := by
  refine MetFree.of_bodySF (plainFor_of_name pn_lii) hisWith ?_
  intro p e s m args below meth c s₁ Bd hml0 hP hK
  obtain ⟨rfl, hZ, hh⟩ := hP
  have hx := Bd.exec
  have hby := Bd.bytes
  have hml : c.maxLocals = 3 := hml0
  have hown : s.vm.findClass "java/util/ImmutableCollections$ListItr" = some m.cls := findClass_of_methodNamed Bd.named
  have hnm := (name_of_methodNamed Bd.named Bd.method).1
  have X0 : Stand p l e R_nxt1 s m #[(.ref x)] below meth c s₁ [] 0 0 := Stand.of_body Bd
  have e0 : s₁.heap = h0 := by rw [← hh, Bd.state]; rfl
  have N0 := Fr.nil n0
  obtain ⟨Ga, Sa, nx, og⟩ := own_ga (p := p) (e := e) (below := below) s₁ (eF_21 m x)
  have S0 : Ga s₁ (mkF m 0 #[vR x, vU, vU] []) := nx Sa fun t k => castTop (ef_21 m x) k
  obtain ⟨⟨cz, S_cs, hcz⟩, -⟩ := id SS
  obtain ⟨Ei, Fl, Fz, Fk⟩ := HT
  obtain ⟨El, F0, F1⟩ := HL
  have S773 : Ga s₁ (mkF m 1 #[vR x, vU, vU] [(.ref x)]) := nx S0 fun t kt => by
    refine xa X0.here hx hby 0 0 rfl ?_
    exact kt
  obtain ⟨T774, X774, e774, st774⟩ := getF X0 hx hZ hown (host := "") (Or.inl (own_h hw 339 rfl)) Via.refl e0 Fk (g := (mkF m 1 #[vR x, vU, vU] [(.ref x)])) rfl rfl (own_k hby 1 (.getfield 17) 3)
  have S775 : Ga T774 (mkF m 6 #[vR x, vI 1, vU] [(.ref x)]) := nx S773 fun t kt => st774 t (by
    show Sp p e below T774 (mkF m 4 #[vR x, vU, vU] [(.int 1)]) _
    refine XS.istoreN X774.here hx rfl (own_k hby 4 (.istore_n 1) 1) rfl (l' := #[vR x, vI 1, vU]) rfl ?_
    refine xa X774.here hx hby 5 0 rfl ?_
    exact kt)
  obtain ⟨T776, X776, e776, st776⟩ := getF X774 hx hZ hown (host := "") (Or.inl (own_h hw 335 rfl)) Via.refl e774 Fl (g := (mkF m 6 #[vR x, vI 1, vU] [(.ref x)])) rfl rfl (own_k hby 6 (.getfield 7) 3)
  have S777 : Ga T776 (mkF m 10 #[vR x, vI 1, vU] [(.int 1), (.ref r)]) := nx S775 fun t kt => st776 t (by
    show Sp p e below T776 (mkF m 9 #[vR x, vI 1, vU] [(.ref r)]) _
    refine xi X776.here hx hby 9 1 rfl ?_
    exact kt)
  obtain ⟨cq778, kq778, q778a, q778b, q778c⟩ := isOf hZ e776 El
  obtain ⟨v778, T778, L778, X778, hQ778, st778⟩ := own_outV (X776.interfaceBack hx (xi := (⟨"java/util/List", "get", "(I)Ljava/lang/Object;"⟩ : MethodName)) (y := y60) hown (own_t hZ hw 378 rfl) (own_t hZ hw 379 rfl) (own_t hZ hw 380 rfl) (own_t hZ hw 381 rfl) (own_t hZ hw 382 rfl) (own_t hZ hw 383 rfl) (own_t hZ hw 384 rfl) (own_t hZ hw 385 rfl) (by decide) (backOf (W := 0) (rm_get1 hw no de em el ey r u e1 h0 n0 Z0 SS hno O0 ⟨El, F0, F1⟩ Ev) hZ (own_h hw 386 rfl) (own_h hw 174 rfl) (by decide) (by decide)) q778a q778b q778c (g := (mkF m 10 #[vR x, vI 1, vU] [(.int 1), (.ref r)])) rfl (by rw [hml]; rfl) (Steps.refl _) (argsL := [(.int 1)]) (rest := []) (lenOf pd__I_Ljava_lang_Object_ rfl) rfl (own_w rfl) (own_k hby 10 (.invokeinterface 24 2) 5) (fun _ _ => ⟨rfl, e776, (by decide : 0 + 0 ≤ _), (by decide : 0 + 0 ≤ _)⟩))
  obtain ⟨rfl, N778q, e778⟩ := hQ778
  have N778 := Fr.app N0 N778q
  have S779 : Ga T778 (mkF m 20 #[vR x, vI 1, vR e1] [(.int ((1 : Int32) + (1 : Int32))), (.ref x)]) := nx S777 fun t kt => st778 t (by
    show Sp p e below T778 (mkF m 15 #[vR x, vI 1, vU] [(.ref e1)]) _
    refine XS.astoreN X778.here hx rfl (own_k hby 15 (.astore_n 2) 1) rfl rfl (l' := #[vR x, vI 1, vR e1]) rfl ?_
    refine xa X778.here hx hby 16 0 rfl ?_
    refine xi X778.here hx hby 17 1 rfl ?_
    refine xc X778.here hx hby 18 1 ?_
    show Sp p e below T778 (mkF m 19 #[vR x, vI 1, vR e1] [(.int 1), (.int 1), (.ref x)]) _
    refine XS.iadd X778.here hx rfl (own_k hby 19 (.iadd) 1) rfl ?_
    exact kt)
  have q781 : ((1 : Int32) + (1 : Int32)) = (2 : Int32) := by decide
  have S780 : Ga T778 (mkF m 20 #[vR x, vI 1, vR e1] [(.int 2), (.ref x)]) := by have h := S779; rw [q781] at h; exact h
  clear S779
  obtain ⟨T782, h782, X782, e782, W782, st782⟩ := putF X778 hx hZ hown (host := "") (Or.inl (own_h hw 339 rfl)) Via.refl e778 Fk Ei (Or.inl (own_h hw 340 rfl)) (own_h hw 321 rfl) (ty := .int) (by decide) rfl rfl (g := (mkF m 20 #[vR x, vI 1, vR e1] [(.int 2), (.ref x)])) rfl rfl (own_k hby 20 (.putfield 17) 3)
  have N782 := Fr.snoc X782 N778 g_x
  have K782 : Keep h0 h782 [x] := (Keep.refl h0 [x]).wr W782 (Or.inl (by simp))
  have Fw782 := Fk.same W782
  have S783 : Ga T782 (mkF m 24 #[vR x, vI 1, vR e1] [(.ref e1)]) := nx S780 fun t kt => st782 t (by
    show Sp p e below T782 (mkF m 23 #[vR x, vI 1, vR e1] []) _
    refine xa X782.here hx hby 23 2 rfl ?_
    exact kt)
  have f784 := (Ei.wr W782)
  have f785 := (Fl.other W782 (Or.inr (ns23 hw)))
  have f786 := (Fz.other W782 (Or.inr (ns25 hw)))
  obtain ⟨fs, hr, hrun, hended, hW, hsame⟩ := X782.leave (v := some (.ref e1)) (fun h => by first | rfl | (rw [Bd.returns] at h; cases h))
  refine ⟨_, _, (og S783) _ ?_, hrun, hended, _, _, rfl, ?_, ⟨_, rfl⟩, hW, hsame.mono (by decide) (by decide)⟩
  · exact retOut X782 hx Bd.returns rfl (Or.inr (Or.inr (Or.inr (Or.inr ⟨rfl, rfl, rfl⟩)))) (own_k hby 24 (.areturn) 1) hr
  · show Q_nxt1 Z x sz r e1 h0 n0 _ T782.heap _
    rw [e782]
    exact ⟨rfl, N782, K782, ⟨f784, f785, f786, Fw782⟩⟩
abbrev R_vobS : Room := { frames := 1, cells := 0, slots := 0, locals := 12 }
def Q_vobS (Z : State) (a : Addr) (h0 : Heap) (n0 : Nat) (v : Option Value) (h : Heap) (L : List Loc) : Prop := v = some (.ref a) ∧ Fr n0 L ∧ h = h0
theorem rm_vobS {l : Launch} {Z : State} {a0 : Array Value} (hw : own_W a0 Z) (a : Addr) (h0 : Heap) (n0 : Nat) (Z0 : n0 ≤ h0.size) (E : Exa Z h0 a "java/lang/String") : own_Met l y50 jdk_42_method_133_code 1 (some (.object "java/lang/String")) R_vobS Z h0 #[(.ref a)] (Q_vobS Z a h0 n0) := by
  refine own_body (plainFor_of_name pn_sts) fun p e s m below meth c s₁ hlk hret hnm hx hby hml hown hZ X0 e0 => ?_
  have N0 := Fr.nil n0
  obtain ⟨Ga, Sa, nx, og⟩ := own_ga (p := p) (e := e) (below := below) s₁ (eF_2 m a)
  have S0 : Ga s₁ (mkF m 0 #[vR a] []) := nx Sa fun t k => castTop (ef_2 m a) k
  have S787 : Ga s₁ (mkF m 11 #[vR a] [(.ref a)]) := nx S0 fun t kt => by
    refine xa X0.here hx hby 0 0 rfl ?_
    refine XS.ifnonnullYes X0.here hx rfl (pc0 := 1) (pc' := 10) rfl (own_k hby 1 (.ifnonnull 9) 3) rfl (by decide) (by decide) ?_
    refine xa X0.here hx hby 10 0 rfl ?_
    exact kt
  obtain ⟨v788, T788, L788, X788, hQ788, st788⟩ := own_cV X0 hx hZ hw hown hml 309 310 388 389 390 3 rfl rfl rfl rfl rfl rfl (own_nfO (args := #[]) (mv hZ (own_h hw 128 rfl))) E (rm_sts hw a h0 n0 Z0 ) e0 (W := 0) (g := (mkF m 11 #[vR a] [(.ref a)])) rfl (argsL := []) (rest := []) pd___Ljava_lang_String_ (own_k hby 11 (.invokevirtual 1007) 3)
  obtain ⟨rfl, N788q, e788⟩ := hQ788
  have N788 := Fr.app N0 N788q
  have S789 : Ga T788 (mkF m 14 #[vR a] [(.ref a)]) := nx S787 fun t kt => st788 t kt
  refine ⟨T788, _, some (.ref a), _, _, _, X788, og S789, fun h => (nomatch hret.symm.trans h), by decide, by decide, ?_, fun fs hr => retOut X788 hx hret rfl (Or.inr (Or.inr (Or.inr (Or.inr ⟨rfl, rfl, rfl⟩)))) (own_k hby 14 (.areturn) 1) hr⟩
  show Q_vobS Z a h0 n0 _ T788.heap _
  rw [e788]
  exact ⟨rfl, N788, rfl⟩
abbrev R_saoS : Room := { frames := 5, cells := 0, slots := 0, locals := 74 }
def Q_saoS (Z : State) (q : Addr) (bv : Addr) (k : ClassId) (cap : Nat) (vs : List Value) (c' : Nat) (n : Nat) (ws' : List Value) (h0 : Heap) (n0 : Nat) (v : Option Value) (h : Heap) (L : List Loc) : Prop := v = some (.ref q) ∧ Fr n0 L ∧ Keep h0 h [q, bv] ∧ own_SB Z h q bv k (Int32.ofNat cap) (vs.take c' ++ ws' ++ vs.drop (c' + n)) (Int32.ofNat (c' + n))
theorem rm_saoS {l : Launch} {Z : State} {a0 : Array Value} (hw : own_W a0 Z) (no : Nat) (de : Addr) (em : Addr) (el : Addr) (ey : Addr)(q : Addr) (bv : Addr) (k : ClassId) (cap : Nat) (vs : List Value) (c' : Nat)(a : Addr) (b : Addr) (ks : ClassId) (n : Nat) (ws' : List Value) (h0 : Heap) (n0 : Nat) (Z0 : n0 ≤ h0.size) (SS : own_St Z de em el ey) (hno : no ≤ n0) (O0 : Old Z no h0) (HB : own_SB Z h0 q bv k (Int32.ofNat cap) vs (Int32.ofNat c')) (HS : own_Str Z h0 a b ks (Int32.ofNat n) ws') (g_q : n0 ≤ q) (g_bv : n0 ≤ bv) (hcn : c' + n ≤ cap) (hcap : cap ≤ 100) (hvl : vs.length = cap) (hwl : ws'.length = n) : own_Met l y49 jdk_67_method_6_code 2 (some (.object "java/lang/StringBuilder")) R_saoS Z h0 #[(.ref q), (.ref a)] (Q_saoS Z q bv k cap vs c' n ws' h0 n0) := by
  refine own_body (plainFor_of_name pn_sba) fun p e s m below meth c s₁ hlk hret hnm hx hby hml hown hZ X0 e0 => ?_
  have N0 := Fr.nil n0
  obtain ⟨Ga, Sa, nx, og⟩ := own_ga (p := p) (e := e) (below := below) s₁ (eF_6 m q a)
  have S0 : Ga s₁ (mkF m 0 #[vR q, vR a] []) := nx Sa fun t k => castTop (ef_6 m q a) k
  obtain ⟨⟨cz, S_cs, hcz⟩, -⟩ := id SS
  obtain ⟨EQ, Fv, Fc, Fn, Eb, Vb⟩ := HB
  obtain ⟨E, F, G, V⟩ := HS
  have S790 : Ga s₁ (mkF m 2 #[vR q, vR a] [(.ref a), (.ref q)]) := nx S0 fun t kt => by
    refine xa X0.here hx hby 0 0 rfl ?_
    refine xa X0.here hx hby 1 1 rfl ?_
    exact kt
  obtain ⟨v791, T791, L791, X791, hQ791, st791⟩ := own_cS X0 hx hZ hw hown hml 306 307 308 3 rfl rfl rfl rfl (rm_vobS hw a h0 n0 Z0 E) e0 (W := 1) (g := (mkF m 2 #[vR q, vR a] [(.ref a), (.ref q)])) rfl (argsL := [(.ref a)]) (rest := [(.ref q)]) pd__Ljava_lang_Object__Ljava_lang_String_ (own_k hby 2 (.invokestatic 17) 3)
  obtain ⟨rfl, N791q, e791⟩ := hQ791
  have N791 := Fr.app N0 N791q
  obtain ⟨v792, T792, L792, X792, hQ792, st792⟩ := own_cV1 X791 hx hZ hw hown hml 391 242 244 243 245 222 rfl rfl rfl rfl rfl rfl EQ (rm_sba hw no de em el ey q bv k cap vs c' a b ks n ws' h0 n0 Z0 SS hno O0 ⟨EQ, Fv, Fc, Fn, Eb, Vb⟩ ⟨E, F, G, V⟩ g_q g_bv hcn hcap hvl hwl) e791 (W := 0) (g := (mkF m 5 #[vR q, vR a] [(.ref a), (.ref q)])) rfl (argsL := [(.ref a)]) (rest := []) pd__Ljava_lang_String__Ljava_lang_StringBuilder_ (own_k hby 5 (.invokevirtual 23) 3)
  obtain ⟨rfl, N792q, K792, EQ792, Fv792, Fc792, Fn792, Eb792, Vb792⟩ := hQ792
  have N792 := Fr.app N791 N792q
  have KK792 : Keep h0 T792.heap [q, bv] := (Keep.refl h0 [q, bv]).trans K792 (allS (Or.inl (by simp)) (allS (Or.inl (by simp)) all0))
  have S793 : Ga T792 (mkF m 8 #[vR q, vR a] [(.ref q)]) := nx S790 fun t kt => st791 t (st792 t kt)
  refine ⟨T792, _, some (.ref q), _, _, _, X792, og S793, fun h => (nomatch hret.symm.trans h), by decide, by decide, ?_, fun fs hr => retOut X792 hx hret rfl (Or.inr (Or.inr (Or.inr (Or.inr ⟨rfl, rfl, rfl⟩)))) (own_k hby 8 (.areturn) 1) hr⟩
  show Q_saoS Z q bv k cap vs c' n ws' h0 n0 _ T792.heap _
  exact ⟨rfl, N792, KK792, EQ792, Fv792, Fc792, Fn792, Eb792, Vb792⟩
abbrev R_acs1 : Room := { frames := 6, cells := 5, slots := 128, locals := 91 }
abbrev eF_22 (m : MethodId) (x0 : Addr) : JFrame := entryFrame m #[(.ref x0)] 4
theorem ef_22 (m : MethodId) (x0 : Addr) : entryFrame m #[(.ref x0)] 4 = mkF m 0 #[.val (.ref x0), .unset, .unset, .unset] [] := by first | (simp [entryFrame, mkF, argsToLocals, Value.category]; done) | rfl
def Q_acs1 (Z : State) (cu : Int32) (h0 : Heap) (n0 : Nat) (v : Option Value) (h : Heap) (L : List Loc) : Prop := ∃ (a b : Addr) (k' : ClassId), v = some (.ref a) ∧ Fr n0 L ∧ Keep h0 h [] ∧ h0.size ≤ a ∧ h0.size ≤ b ∧ own_Str Z h a b k' (3 : Int32) (own_vs [91, cu, 93])
theorem rm_acs1 {l : Launch} {Z : State} {a0 : Array Value} (hw : own_W a0 Z) (no : Nat) (de : Addr) (em : Addr) (el : Addr) (ey : Addr) (r : Addr) (u : Addr) (ub : Addr) (uk : ClassId) (cu : Int32) (h0 : Heap) (n0 : Nat) (Z0 : n0 ≤ h0.size) (SS : own_St Z de em el ey) (hno : no ≤ n0) (O0 : Old Z no h0) (HL : own_L Z h0 r (.ref u) (.ref ey)) (HSu : own_Str Z h0 u ub uk (1 : Int32) (own_vs [cu])) : own_Met l y51 jdk_22_method_16_code 4 (some (.object "java/lang/String")) R_acs1 Z h0 #[(.ref r)] (Q_acs1 Z cu h0 n0) := by
  refine own_body (plainFor_of_name pn_abi) fun p e s m below meth c s₁ hlk hret hnm hx hby hml hown hZ X0 e0 => ?_
  have N0 := Fr.nil n0
  obtain ⟨Ga, Sa, nx, og⟩ := own_ga (p := p) (e := e) (below := below) s₁ (eF_22 m r)
  have S0 : Ga s₁ (mkF m 0 #[vR r, vU, vU, vU] []) := nx Sa fun t k => castTop (ef_22 m r) k
  obtain ⟨⟨cz, S_cs, hcz⟩, ⟨kde, S_de, E_de, V_de⟩, ⟨kel, S_em, E_em, F_em, V_el⟩, S_ey, E_ey⟩ := id SS
  obtain ⟨El, F0, F1⟩ := HL
  obtain ⟨Eu, Fu, Gu, Vu⟩ := HSu
  have S794 : Ga s₁ (mkF m 1 #[vR r, vU, vU, vU] [(.ref r)]) := nx S0 fun t kt => by
    refine xa X0.here hx hby 0 0 rfl ?_
    exact kt
  obtain ⟨v795, T795, L795, X795, hQ795, st795⟩ := own_cV X0 hx hZ hw hown hml 315 316 317 318 319 183 rfl rfl rfl rfl rfl rfl (own_nfC (args := #[]) (mv hZ (own_h hw 127 rfl))) El (rm_itr1 hw no de em el ey r u h0 n0 Z0 SS hno O0 ⟨El, F0, F1⟩) e0 (W := 0) (g := (mkF m 1 #[vR r, vU, vU, vU] [(.ref r)])) rfl (argsL := []) (rest := []) pd___Ljava_util_Iterator_ (own_k hby 1 (.invokevirtual 13) 3)
  obtain ⟨it, rfl, N795q, K795, szi795, ⟨Ei795, Fl795, Fz795, Fk795⟩⟩ := hQ795
  have N795 := Fr.app N0 N795q
  have KK795 : Keep h0 T795.heap [] := (Keep.refl h0 []).trans K795 all0
  have sz_it : h0.size ≤ it := Nat.le_trans (Keep.refl h0 []).1 szi795
  have g_it : n0 ≤ it := Nat.le_trans Z0 szi795
  have S796 : Ga T795 (mkF m 6 #[vR r, vR it, vU, vU] [(.ref it)]) := nx S794 fun t kt => st795 t (by
    show Sp p e below T795 (mkF m 4 #[vR r, vU, vU, vU] [(.ref it)]) _
    refine XS.astoreN X795.here hx rfl (own_k hby 4 (.astore_n 1) 1) rfl rfl (l' := #[vR r, vR it, vU, vU]) rfl ?_
    refine xa X795.here hx hby 5 1 rfl ?_
    exact kt)
  have z797 := (Nat.le_trans Z0 K795.1)
  obtain ⟨cq798, kq798, q798a, q798b, q798c⟩ := isOf hZ rfl Ei795
  obtain ⟨v798, T798, L798, X798, hQ798, st798⟩ := own_outV (X795.interfaceBack hx (xi := (⟨"java/util/Iterator", "hasNext", "()Z"⟩ : MethodName)) (y := y55) hown (own_t hZ hw 343 rfl) (own_t hZ hw 344 rfl) (own_t hZ hw 345 rfl) (own_t hZ hw 346 rfl) (own_t hZ hw 347 rfl) (own_t hZ hw 348 rfl) (own_t hZ hw 349 rfl) (own_t hZ hw 350 rfl) (by decide) (backOf (W := 0) (rm_hnx hw it r (1 : Int32) (0 : Int32) T795.heap n0 z797 ⟨Ei795, Fl795, Fz795, Fk795⟩ (by decide)) hZ (own_h hw 351 rfl) (own_h hw 322 rfl) (by decide) (by decide)) q798a q798b q798c (g := (mkF m 6 #[vR r, vR it, vU, vU] [(.ref it)])) rfl (by rw [hml]; rfl) (Steps.refl _) (argsL := []) (rest := []) (lenOf pd___Z rfl) rfl (own_w rfl) (own_k hby 6 (.invokeinterface 17 1) 5) (fun _ _ => ⟨rfl, rfl, (by decide : 1 + 0 ≤ _), (by decide : 4 + 0 ≤ _)⟩))
  obtain ⟨rfl, N798q, e798⟩ := hQ798
  have N798 := Fr.app N795 N798q
  have S799 : Ga T798 (mkF m 17 #[vR r, vR it, vU, vU] []) := nx S796 fun t kt => st798 t (by
    show Sp p e below T798 (mkF m 11 #[vR r, vR it, vU, vU] [(.int 1)]) _
    refine XS.ifYes X798.here hx rfl (pc0 := 11) (pc' := 17) rfl (own_k hby 11 (.ifCond .ne 6) 3) rfl ((if0 _ _).trans (feq (show ¬ ((1 : Int32) = (0 : Int32)) from (by decide))).2) (by decide) (by decide) ?_
    exact kt)
  obtain ⟨T800, h800, X800, e800, E800, A800, D800, -, st800⟩ := newO X798 hx hZ hown (own_h hw 352 rfl) (own_h hw 221 rfl) (own_h hw 222 rfl) e798 (g := (mkF m 17 #[vR r, vR it, vU, vU] [])) rfl (own_k hby 17 (.new 94) 3) (by decide) (by decide)
  obtain ⟨q1, g800⟩ : ∃ z, z = T795.heap.size := ⟨_, rfl⟩
  rw [← g800] at A800 D800 st800
  have f801 := (El.keep K795)
  have ne802 : r ≠ q1 := by rw [g800]; exact Nat.ne_of_lt f801.lt
  have f803 := (Eu.keep K795)
  have ne804 : u ≠ q1 := by rw [g800]; exact Nat.ne_of_lt f803.lt
  have ne805 : it ≠ q1 := by rw [g800]; exact Nat.ne_of_lt Ei795.lt
  have f806 := (Vu.keep K795 nin0)
  have ne807 : ub ≠ q1 := by rw [g800]; exact Nat.ne_of_lt f806.lt
  have g_q1 : n0 ≤ q1 := Nat.le_trans z797 (Nat.le_of_eq g800.symm)
  have sz_q1 : h0.size ≤ q1 := Nat.le_trans KK795.1 (Nat.le_of_eq g800.symm)
  have K800 : Keep h0 h800 [] := KK795.ext E800
  have F_value_q1 : Fld Z h800 q1 "java/lang/AbstractStringBuilder" "value" "[B" .null := D800 (Or.inl (own_h hw 235 rfl)) (ty := (.array .byte)) (by decide)
  have F_coder_q1 : Fld Z h800 q1 "java/lang/AbstractStringBuilder" "coder" "B" (.int 0) := D800 (Or.inl (own_h hw 237 rfl)) (ty := .byte) (by decide)
  have F_count_q1 : Fld Z h800 q1 "java/lang/AbstractStringBuilder" "count" "I" (.int 0) := D800 (Or.inl (own_h hw 262 rfl)) (ty := .int) (by decide)
  have S808 : Ga T800 (mkF m 21 #[vR r, vR it, vU, vU] [(.ref q1), (.ref q1)]) := nx S799 fun t kt => st800 t (by
    show Sp p e below T800 (mkF m 20 #[vR r, vR it, vU, vU] [(.ref q1)]) _
    refine XS.dup X800.here hx rfl (own_k hby 20 (.dup) 1) rfl rfl ?_
    exact kt)
  have f809 := ((O0.keep K795 all0).ext E800)
  have z810 := (Nat.le_trans z797 E800.1)
  obtain ⟨v811, T811, L811, X811, hQ811, st811⟩ := own_cI X800 hx hZ hw hown hml 353 224 225 222 rfl rfl rfl rfl rfl (a := q1) (rm_sbi hw no de em el ey q1 h800 n0 z810 SS hno f809 A800 F_value_q1 F_coder_q1 F_count_q1 g_q1) e800 (W := 1) (g := (mkF m 21 #[vR r, vR it, vU, vU] [(.ref q1), (.ref q1)])) rfl (argsL := []) (rest := [(.ref q1)]) pd___V (own_k hby 21 (.invokespecial 96) 3)
  obtain ⟨bv1, kb811, rfl, N811q, K811, szb811, EQ811, Fv811, Fc811, Fn811, Eb811, Vb811⟩ := hQ811
  have N811 := Fr.app N798 N811q
  have KK811 : Keep h0 T811.heap [] := K800.trans K811 (allS (Or.inr sz_q1) all0)
  have sz_bv1 : h0.size ≤ bv1 := Nat.le_trans K800.1 szb811
  have g_bv1 : n0 ≤ bv1 := Nat.le_trans z810 szb811
  have S812 : Ga T811 (mkF m 28 #[vR r, vR it, vR q1, vU] [(.int 91), (.ref q1)]) := nx S808 fun t kt => st811 t (by
    show Sp p e below T811 (mkF m 24 #[vR r, vR it, vU, vU] [(.ref q1)]) _
    refine XS.astoreN X811.here hx rfl (own_k hby 24 (.astore_n 2) 1) rfl rfl (l' := #[vR r, vR it, vR q1, vU]) rfl ?_
    refine xa X811.here hx hby 25 2 rfl ?_
    refine xb X811.here hx hby 26 91 ?_
    exact kt)
  have f813 := (f809.keep K811 (allS (Nat.le_trans hno g_q1) all0))
  have z814 := (Nat.le_trans z810 K811.1)
  obtain ⟨v815, T815, L815, X815, hQ815, st815⟩ := own_cV1 X811 hx hZ hw hown hml 355 356 358 357 359 222 rfl rfl rfl rfl rfl rfl EQ811 (rm_sbc hw no de em el ey q1 bv1 kb811 16 (own_vs [0, 0, 0, 0, 0, 0, 0, 0, 0, 0, 0, 0, 0, 0, 0, 0]) 0 91 T811.heap n0 z814 SS hno f813 ⟨EQ811, Fv811, Fc811, Fn811, Eb811, Vb811⟩ g_q1 g_bv1 (by decide) (by decide) rfl (by decide)) rfl (W := 0) (g := (mkF m 28 #[vR r, vR it, vR q1, vU] [(.int 91), (.ref q1)])) rfl (argsL := [(.int 91)]) (rest := []) pd__C_Ljava_lang_StringBuilder_ (own_k hby 28 (.invokevirtual 97) 3)
  obtain ⟨rfl, N815q, K815, EQ815, Fv815, Fc815, Fn815, Eb815, Vb815⟩ := hQ815
  have N815 := Fr.app N811 N815q
  have KK815 : Keep h0 T815.heap [] := KK811.trans K815 (allS (Or.inr sz_q1) (allS (Or.inr sz_bv1) all0))
  have Vx815 : Arv Z T815.heap bv1 kb811 .byte 16 (own_vs [91, 0, 0, 0, 0, 0, 0, 0, 0, 0, 0, 0, 0, 0, 0, 0]) (.int 0) := Vb815
  have Fx815 : Fld Z T815.heap q1 "java/lang/AbstractStringBuilder" "count" "I" (.int 1) := Fn815
  have S816 : Ga T815 (mkF m 33 #[vR r, vR it, vR q1, vU] [(.ref it)]) := nx S812 fun t kt => st815 t (by
    show Sp p e below T815 (mkF m 31 #[vR r, vR it, vR q1, vU] [(.ref q1)]) _
    refine XS.pop X815.here hx rfl (own_k hby 31 (.pop) 1) rfl rfl ?_
    refine xa X815.here hx hby 32 1 rfl ?_
    exact kt)
  have f817 := (f813.keep K815 (allS (Nat.le_trans hno g_q1) (allS (Nat.le_trans hno g_bv1) all0)))
  have f818 := (((Ei795.ext E800).keep K811).keep K815)
  have ne819 : it ≠ bv1 := Nat.ne_of_lt (Nat.lt_of_lt_of_le ((Ei795.ext E800).lt) szb811)
  have f820 := (((Fl795.ext E800).keep K811 (ninS ne805 nin0)).keep K815 (ninS ne805 (ninS ne819 nin0)))
  have f821 := (((Fz795.ext E800).keep K811 (ninS ne805 nin0)).keep K815 (ninS ne805 (ninS ne819 nin0)))
  have f822 := (((Fk795.ext E800).keep K811 (ninS ne805 nin0)).keep K815 (ninS ne805 (ninS ne819 nin0)))
  have f823 := (((f801.ext E800).keep K811).keep K815)
  have ne824 : r ≠ bv1 := Nat.ne_of_lt (Nat.lt_of_lt_of_le ((f801.ext E800).lt) szb811)
  have f825 := ((((F0.keep K795 nin0).ext E800).keep K811 (ninS ne802 nin0)).keep K815 (ninS ne802 (ninS ne824 nin0)))
  have f826 := ((((F1.keep K795 nin0).ext E800).keep K811 (ninS ne802 nin0)).keep K815 (ninS ne802 (ninS ne824 nin0)))
  have z827 := (Nat.le_trans z814 K815.1)
  obtain ⟨cq828, kq828, q828a, q828b, q828c⟩ := isOf hZ rfl f818
  obtain ⟨v828, T828, L828, X828, hQ828, st828⟩ := own_outV (X815.interfaceBack hx (xi := (⟨"java/util/Iterator", "next", "()Ljava/lang/Object;"⟩ : MethodName)) (y := y59) hown (own_t hZ hw 370 rfl) (own_t hZ hw 371 rfl) (own_t hZ hw 372 rfl) (own_t hZ hw 373 rfl) (own_t hZ hw 374 rfl) (own_t hZ hw 375 rfl) (own_t hZ hw 376 rfl) (own_t hZ hw 350 rfl) (by decide) (backOfWith (W := 0) (rm_nxt0 hw no de em el ey it (1 : Int32) r u ey T815.heap n0 z827 SS hno f817 ⟨f818, f820, f821, f822⟩ g_it ⟨f823, f825, f826⟩) hZ (own_h hw 377 rfl) (own_h hw 322 rfl) (by decide) (by decide)) q828a q828b q828c (g := (mkF m 33 #[vR r, vR it, vR q1, vU] [(.ref it)])) rfl (by rw [hml]; rfl) (Steps.refl _) (argsL := []) (rest := []) (lenOf pd___Ljava_lang_Object_ rfl) rfl (own_w rfl) (own_k hby 33 (.invokeinterface 23 1) 5) (fun _ _ => ⟨rfl, rfl, (by decide : 3 + 0 ≤ _), (by decide : 24 + 0 ≤ _)⟩))
  obtain ⟨rfl, N828q, K828, ⟨Ei828, Fl828, Fz828, Fk828⟩⟩ := hQ828
  have N828 := Fr.app N815 N828q
  have KK828 : Keep h0 T828.heap [] := KK815.trans K828 (allS (Or.inr sz_it) all0)
  have ne829 : u ≠ r := Exa.ne Eu El (by decide)
  have S830 : Ga T828 (mkF m 51 #[vR r, vR it, vR q1, vR u] [(.ref u), (.ref q1)]) := nx S816 fun t kt => st828 t (by
    show Sp p e below T828 (mkF m 38 #[vR r, vR it, vR q1, vU] [(.ref u)]) _
    refine XS.astoreN X828.here hx rfl (own_k hby 38 (.astore_n 3) 1) rfl rfl (l' := #[vR r, vR it, vR q1, vR u]) rfl ?_
    refine xa X828.here hx hby 39 2 rfl ?_
    refine xa X828.here hx hby 40 3 rfl ?_
    refine xa X828.here hx hby 41 0 rfl ?_
    show Sp p e below T828 (mkF m 42 #[vR r, vR it, vR q1, vR u] [(.ref r), (.ref u), (.ref q1)]) _
    refine Jvm.RoadKit.acmp (g := (mkF m 42 #[vR r, vR it, vR q1, vR u] [(.ref r), (.ref u), (.ref q1)])) X828 hx rfl rfl rfl (pc0 := 42) (pc' := 50) (same := false) rfl (own_k hby 42 (.if_acmp .ne 8) 3) rfl (decide_eq_false fun q => ne829 (Value.ref.inj q)) (by decide) (by decide) ?_
    refine xa X828.here hx hby 50 3 rfl ?_
    exact kt)
  have f831 := (f817.keep K828 (allS (Nat.le_trans hno g_it) all0))
  have f832 := (EQ815.keep K828)
  have f833 := (Fv815.keep K828 (ninS (Ne.symm ne805) nin0))
  have f834 := (Fc815.keep K828 (ninS (Ne.symm ne805) nin0))
  have f835 := (Fx815.keep K828 (ninS (Ne.symm ne805) nin0))
  have f836 := (Eb815.keep K828)
  have f837 := (Vx815.keep K828 (ninS (Ne.symm ne819) nin0))
  have f838 := ((((f803.ext E800).keep K811).keep K815).keep K828)
  have ne839 : u ≠ bv1 := Nat.ne_of_lt (Nat.lt_of_lt_of_le ((f803.ext E800).lt) szb811)
  have ne840 : u ≠ it := Nat.ne_of_lt (Nat.lt_of_lt_of_le (Eu.lt) szi795)
  have f841 := (((((Fu.keep K795 nin0).ext E800).keep K811 (ninS ne804 nin0)).keep K815 (ninS ne804 (ninS ne839 nin0))).keep K828 (ninS ne840 nin0))
  have f842 := (((((Gu.keep K795 nin0).ext E800).keep K811 (ninS ne804 nin0)).keep K815 (ninS ne804 (ninS ne839 nin0))).keep K828 (ninS ne840 nin0))
  have ne843 : ub ≠ bv1 := Nat.ne_of_lt (Nat.lt_of_lt_of_le ((f806.ext E800).lt) szb811)
  have ne844 : ub ≠ it := Nat.ne_of_lt (Nat.lt_of_lt_of_le (Vu.lt) szi795)
  have f845 := ((((f806.ext E800).keep K811 (ninS ne807 nin0)).keep K815 (ninS ne807 (ninS ne843 nin0))).keep K828 (ninS ne844 nin0))
  have z846 := (Nat.le_trans z827 K828.1)
  obtain ⟨v847, T847, L847, X847, hQ847, st847⟩ := own_cV1 X828 hx hZ hw hown hml 387 302 304 303 305 222 rfl rfl rfl rfl rfl rfl f832 (rm_saoS hw no de em el ey q1 bv1 kb811 16 (own_vs [91, 0, 0, 0, 0, 0, 0, 0, 0, 0, 0, 0, 0, 0, 0, 0]) 1 u ub uk 1 (own_vs [cu]) T828.heap n0 z846 SS hno f831 ⟨f832, f833, f834, f835, f836, f837⟩ ⟨f838, f841, f842, f845⟩ g_q1 g_bv1 (by decide) (by decide) rfl rfl) rfl (W := 0) (g := (mkF m 51 #[vR r, vR it, vR q1, vR u] [(.ref u), (.ref q1)])) rfl (argsL := [(.ref u)]) (rest := []) pd__Ljava_lang_Object__Ljava_lang_StringBuilder_ (own_k hby 51 (.invokevirtual 103) 3)
  obtain ⟨rfl, N847q, K847, EQ847, Fv847, Fc847, Fn847, Eb847, Vb847⟩ := hQ847
  have N847 := Fr.app N828 N847q
  have KK847 : Keep h0 T847.heap [] := KK828.trans K847 (allS (Or.inr sz_q1) (allS (Or.inr sz_bv1) all0))
  have Vx847 : Arv Z T847.heap bv1 kb811 .byte 16 (own_vs [91, cu, 0, 0, 0, 0, 0, 0, 0, 0, 0, 0, 0, 0, 0, 0]) (.int 0) := Vb847
  have Fx847 : Fld Z T847.heap q1 "java/lang/AbstractStringBuilder" "count" "I" (.int 2) := Fn847
  have S848 : Ga T847 (mkF m 56 #[vR r, vR it, vR q1, vR u] [(.ref it)]) := nx S830 fun t kt => st847 t (by
    show Sp p e below T847 (mkF m 54 #[vR r, vR it, vR q1, vR u] [(.ref q1)]) _
    refine XS.pop X847.here hx rfl (own_k hby 54 (.pop) 1) rfl rfl ?_
    refine xa X847.here hx hby 55 1 rfl ?_
    exact kt)
  have f849 := (Ei828.keep K847)
  have f850 := (Fl828.keep K847 (ninS ne805 (ninS ne819 nin0)))
  have f851 := (Fz828.keep K847 (ninS ne805 (ninS ne819 nin0)))
  have f852 := (Fk828.keep K847 (ninS ne805 (ninS ne819 nin0)))
  have z853 := (Nat.le_trans z846 K847.1)
  obtain ⟨cq854, kq854, q854a, q854b, q854c⟩ := isOf hZ rfl f849
  obtain ⟨v854, T854, L854, X854, hQ854, st854⟩ := own_outV (X847.interfaceBack hx (xi := (⟨"java/util/Iterator", "hasNext", "()Z"⟩ : MethodName)) (y := y55) hown (own_t hZ hw 343 rfl) (own_t hZ hw 344 rfl) (own_t hZ hw 345 rfl) (own_t hZ hw 346 rfl) (own_t hZ hw 347 rfl) (own_t hZ hw 348 rfl) (own_t hZ hw 349 rfl) (own_t hZ hw 350 rfl) (by decide) (backOf (W := 0) (rm_hno hw it r (1 : Int32) (1 : Int32) T847.heap n0 z853 ⟨f849, f850, f851, f852⟩ rfl) hZ (own_h hw 351 rfl) (own_h hw 322 rfl) (by decide) (by decide)) q854a q854b q854c (g := (mkF m 56 #[vR r, vR it, vR q1, vR u] [(.ref it)])) rfl (by rw [hml]; rfl) (Steps.refl _) (argsL := []) (rest := []) (lenOf pd___Z rfl) rfl (own_w rfl) (own_k hby 56 (.invokeinterface 17 1) 5) (fun _ _ => ⟨rfl, rfl, (by decide : 3 + 0 ≤ _), (by decide : 24 + 0 ≤ _)⟩))
  obtain ⟨rfl, N854q, e854⟩ := hQ854
  have N854 := Fr.app N847 N854q
  have S855 : Ga T854 (mkF m 67 #[vR r, vR it, vR q1, vR u] [(.int 93), (.ref q1)]) := nx S848 fun t kt => st854 t (by
    show Sp p e below T854 (mkF m 61 #[vR r, vR it, vR q1, vR u] [(.int 0)]) _
    refine XS.ifNo X854.here hx rfl (own_k hby 61 (.ifCond .ne 13) 3) rfl ((if0 _ _).trans (teq (show (0 : Int32) = (0 : Int32) from (by decide))).2) ?_
    refine xa X854.here hx hby 64 2 rfl ?_
    refine xb X854.here hx hby 65 93 ?_
    exact kt)
  have f856 := (f831.keep K847 (allS (Nat.le_trans hno g_q1) (allS (Nat.le_trans hno g_bv1) all0)))
  obtain ⟨v857, T857, L857, X857, hQ857, st857⟩ := own_cV1 X854 hx hZ hw hown hml 355 356 358 357 359 222 rfl rfl rfl rfl rfl rfl EQ847 (rm_sbc hw no de em el ey q1 bv1 kb811 16 (own_vs [91, cu, 0, 0, 0, 0, 0, 0, 0, 0, 0, 0, 0, 0, 0, 0]) 2 93 T847.heap n0 z853 SS hno f856 ⟨EQ847, Fv847, Fc847, Fx847, Eb847, Vx847⟩ g_q1 g_bv1 (by decide) (by decide) rfl (by decide)) e854 (W := 0) (g := (mkF m 67 #[vR r, vR it, vR q1, vR u] [(.int 93), (.ref q1)])) rfl (argsL := [(.int 93)]) (rest := []) pd__C_Ljava_lang_StringBuilder_ (own_k hby 67 (.invokevirtual 97) 3)
  obtain ⟨rfl, N857q, K857, EQ857, Fv857, Fc857, Fn857, Eb857, Vb857⟩ := hQ857
  have N857 := Fr.app N854 N857q
  have KK857 : Keep h0 T857.heap [] := KK847.trans K857 (allS (Or.inr sz_q1) (allS (Or.inr sz_bv1) all0))
  have Vx857 : Arv Z T857.heap bv1 kb811 .byte 16 (own_vs [91, cu, 93, 0, 0, 0, 0, 0, 0, 0, 0, 0, 0, 0, 0, 0]) (.int 0) := Vb857
  have Fx857 : Fld Z T857.heap q1 "java/lang/AbstractStringBuilder" "count" "I" (.int 3) := Fn857
  have f858 := (f856.keep K857 (allS (Nat.le_trans hno g_q1) (allS (Nat.le_trans hno g_bv1) all0)))
  have z859 := (Nat.le_trans z853 K857.1)
  obtain ⟨v860, T860, L860, X860, hQ860, st860⟩ := own_cV1 X857 hx hZ hw hown hml 392 393 395 394 396 222 rfl rfl rfl rfl rfl rfl EQ857 (rm_sbt hw no de em el ey q1 bv1 kb811 16 (own_vs [91, cu, 93, 0, 0, 0, 0, 0, 0, 0, 0, 0, 0, 0, 0, 0]) 3 T857.heap n0 z859 SS hno f858 ⟨EQ857, Fv857, Fc857, Fx857, Eb857, Vx857⟩ (by decide) (by decide) rfl) rfl (W := 0) (g := (mkF m 70 #[vR r, vR it, vR q1, vR u] [(.ref q1)])) rfl (argsL := []) (rest := []) pd___Ljava_lang_String_ (own_k hby 70 (.invokevirtual 106) 3)
  obtain ⟨a1, b1, kb860, rfl, N860q, K860, sza1860, szb1860, E860, F860, G860, V860⟩ := hQ860
  have N860 := Fr.app N857 N860q
  have KK860 : Keep h0 T860.heap [] := KK857.trans K860 all0
  have sz_a1 : h0.size ≤ a1 := Nat.le_trans KK857.1 sza1860
  have sz_b1 : h0.size ≤ b1 := Nat.le_trans KK857.1 szb1860
  have Vx860 : Arv Z T860.heap b1 kb860 .byte 3 (own_vs [91, cu, 93]) (.int 0) := V860
  have S861 : Ga T860 (mkF m 73 #[vR r, vR it, vR q1, vR u] [(.ref a1)]) := nx S855 fun t kt => st857 t (st860 t kt)
  refine ⟨T860, _, some (.ref a1), _, _, _, X860, og S861, fun h => (nomatch hret.symm.trans h), by decide, by decide, ?_, fun fs hr => retOut X860 hx hret rfl (Or.inr (Or.inr (Or.inr (Or.inr ⟨rfl, rfl, rfl⟩)))) (own_k hby 73 (.areturn) 1) hr⟩
  show Q_acs1 Z cu h0 n0 _ T860.heap _
  exact ⟨a1, b1, kb860, rfl, N860, KK860, sz_a1, sz_b1, E860, F860, G860, Vx860⟩
abbrev R_acs2 : Room := { frames := 6, cells := 5, slots := 128, locals := 91 }
def Q_acs2 (Z : State) (cu : Int32) (cv : Int32) (h0 : Heap) (n0 : Nat) (v : Option Value) (h : Heap) (L : List Loc) : Prop := ∃ (a b : Addr) (k' : ClassId), v = some (.ref a) ∧ Fr n0 L ∧ Keep h0 h [] ∧ h0.size ≤ a ∧ h0.size ≤ b ∧ own_Str Z h a b k' (6 : Int32) (own_vs [91, cu, 44, 32, cv, 93])
theorem rm_acs2 {l : Launch} {Z : State} {a0 : Array Value} (hw : own_W a0 Z) (no : Nat) (de : Addr) (em : Addr) (el : Addr) (ey : Addr) (r : Addr) (u : Addr) (v' : Addr) (ub : Addr) (uk : ClassId) (cu : Int32) (vb : Addr) (vk : ClassId) (cv : Int32) (h0 : Heap) (n0 : Nat) (Z0 : n0 ≤ h0.size) (SS : own_St Z de em el ey) (hno : no ≤ n0) (O0 : Old Z no h0) (HL : own_L Z h0 r (.ref u) (.ref v')) (HSu : own_Str Z h0 u ub uk (1 : Int32) (own_vs [cu])) (HSv : own_Str Z h0 v' vb vk (1 : Int32) (own_vs [cv])) : own_Met l y51 jdk_22_method_16_code 4 (some (.object "java/lang/String")) R_acs2 Z h0 #[(.ref r)] (Q_acs2 Z cu cv h0 n0) := by
  refine own_body (plainFor_of_name pn_abi) fun p e s m below meth c s₁ hlk hret hnm hx hby hml hown hZ X0 e0 => ?_
  have N0 := Fr.nil n0
  obtain ⟨Ga, Sa, nx, og⟩ := own_ga (p := p) (e := e) (below := below) s₁ (eF_22 m r)
  have S0 : Ga s₁ (mkF m 0 #[vR r, vU, vU, vU] []) := nx Sa fun t k => castTop (ef_22 m r) k
  obtain ⟨⟨cz, S_cs, hcz⟩, ⟨kde, S_de, E_de, V_de⟩, ⟨kel, S_em, E_em, F_em, V_el⟩, S_ey, E_ey⟩ := id SS
  obtain ⟨El, F0, F1⟩ := HL
  obtain ⟨Eu, Fu, Gu, Vu⟩ := HSu
  obtain ⟨Ev', Fv', Gv', Vv'⟩ := HSv
  have S862 : Ga s₁ (mkF m 1 #[vR r, vU, vU, vU] [(.ref r)]) := nx S0 fun t kt => by
    refine xa X0.here hx hby 0 0 rfl ?_
    exact kt
  obtain ⟨v863, T863, L863, X863, hQ863, st863⟩ := own_cV X0 hx hZ hw hown hml 315 316 317 318 319 183 rfl rfl rfl rfl rfl rfl (own_nfC (args := #[]) (mv hZ (own_h hw 127 rfl))) El (rm_itr2 hw no de em el ey r u v' h0 n0 Z0 SS hno O0 ⟨El, F0, F1⟩ Ev') e0 (W := 0) (g := (mkF m 1 #[vR r, vU, vU, vU] [(.ref r)])) rfl (argsL := []) (rest := []) pd___Ljava_util_Iterator_ (own_k hby 1 (.invokevirtual 13) 3)
  obtain ⟨it, rfl, N863q, K863, szi863, ⟨Ei863, Fl863, Fz863, Fk863⟩⟩ := hQ863
  have N863 := Fr.app N0 N863q
  have KK863 : Keep h0 T863.heap [] := (Keep.refl h0 []).trans K863 all0
  have sz_it : h0.size ≤ it := Nat.le_trans (Keep.refl h0 []).1 szi863
  have g_it : n0 ≤ it := Nat.le_trans Z0 szi863
  have S864 : Ga T863 (mkF m 6 #[vR r, vR it, vU, vU] [(.ref it)]) := nx S862 fun t kt => st863 t (by
    show Sp p e below T863 (mkF m 4 #[vR r, vU, vU, vU] [(.ref it)]) _
    refine XS.astoreN X863.here hx rfl (own_k hby 4 (.astore_n 1) 1) rfl rfl (l' := #[vR r, vR it, vU, vU]) rfl ?_
    refine xa X863.here hx hby 5 1 rfl ?_
    exact kt)
  have z865 := (Nat.le_trans Z0 K863.1)
  obtain ⟨cq866, kq866, q866a, q866b, q866c⟩ := isOf hZ rfl Ei863
  obtain ⟨v866, T866, L866, X866, hQ866, st866⟩ := own_outV (X863.interfaceBack hx (xi := (⟨"java/util/Iterator", "hasNext", "()Z"⟩ : MethodName)) (y := y55) hown (own_t hZ hw 343 rfl) (own_t hZ hw 344 rfl) (own_t hZ hw 345 rfl) (own_t hZ hw 346 rfl) (own_t hZ hw 347 rfl) (own_t hZ hw 348 rfl) (own_t hZ hw 349 rfl) (own_t hZ hw 350 rfl) (by decide) (backOf (W := 0) (rm_hnx hw it r (2 : Int32) (0 : Int32) T863.heap n0 z865 ⟨Ei863, Fl863, Fz863, Fk863⟩ (by decide)) hZ (own_h hw 351 rfl) (own_h hw 322 rfl) (by decide) (by decide)) q866a q866b q866c (g := (mkF m 6 #[vR r, vR it, vU, vU] [(.ref it)])) rfl (by rw [hml]; rfl) (Steps.refl _) (argsL := []) (rest := []) (lenOf pd___Z rfl) rfl (own_w rfl) (own_k hby 6 (.invokeinterface 17 1) 5) (fun _ _ => ⟨rfl, rfl, (by decide : 1 + 0 ≤ _), (by decide : 4 + 0 ≤ _)⟩))
  obtain ⟨rfl, N866q, e866⟩ := hQ866
  have N866 := Fr.app N863 N866q
  have S867 : Ga T866 (mkF m 17 #[vR r, vR it, vU, vU] []) := nx S864 fun t kt => st866 t (by
    show Sp p e below T866 (mkF m 11 #[vR r, vR it, vU, vU] [(.int 1)]) _
    refine XS.ifYes X866.here hx rfl (pc0 := 11) (pc' := 17) rfl (own_k hby 11 (.ifCond .ne 6) 3) rfl ((if0 _ _).trans (feq (show ¬ ((1 : Int32) = (0 : Int32)) from (by decide))).2) (by decide) (by decide) ?_
    exact kt)
  obtain ⟨T868, h868, X868, e868, E868, A868, D868, -, st868⟩ := newO X866 hx hZ hown (own_h hw 352 rfl) (own_h hw 221 rfl) (own_h hw 222 rfl) e866 (g := (mkF m 17 #[vR r, vR it, vU, vU] [])) rfl (own_k hby 17 (.new 94) 3) (by decide) (by decide)
  obtain ⟨q1, g868⟩ : ∃ z, z = T863.heap.size := ⟨_, rfl⟩
  rw [← g868] at A868 D868 st868
  have f869 := (El.keep K863)
  have ne870 : r ≠ q1 := by rw [g868]; exact Nat.ne_of_lt f869.lt
  have f871 := (Eu.keep K863)
  have ne872 : u ≠ q1 := by rw [g868]; exact Nat.ne_of_lt f871.lt
  have f873 := (Ev'.keep K863)
  have ne874 : v' ≠ q1 := by rw [g868]; exact Nat.ne_of_lt f873.lt
  have ne875 : it ≠ q1 := by rw [g868]; exact Nat.ne_of_lt Ei863.lt
  have f876 := (Vu.keep K863 nin0)
  have ne877 : ub ≠ q1 := by rw [g868]; exact Nat.ne_of_lt f876.lt
  have f878 := (Vv'.keep K863 nin0)
  have ne879 : vb ≠ q1 := by rw [g868]; exact Nat.ne_of_lt f878.lt
  have g_q1 : n0 ≤ q1 := Nat.le_trans z865 (Nat.le_of_eq g868.symm)
  have sz_q1 : h0.size ≤ q1 := Nat.le_trans KK863.1 (Nat.le_of_eq g868.symm)
  have K868 : Keep h0 h868 [] := KK863.ext E868
  have F_value_q1 : Fld Z h868 q1 "java/lang/AbstractStringBuilder" "value" "[B" .null := D868 (Or.inl (own_h hw 235 rfl)) (ty := (.array .byte)) (by decide)
  have F_coder_q1 : Fld Z h868 q1 "java/lang/AbstractStringBuilder" "coder" "B" (.int 0) := D868 (Or.inl (own_h hw 237 rfl)) (ty := .byte) (by decide)
  have F_count_q1 : Fld Z h868 q1 "java/lang/AbstractStringBuilder" "count" "I" (.int 0) := D868 (Or.inl (own_h hw 262 rfl)) (ty := .int) (by decide)
  have S880 : Ga T868 (mkF m 21 #[vR r, vR it, vU, vU] [(.ref q1), (.ref q1)]) := nx S867 fun t kt => st868 t (by
    show Sp p e below T868 (mkF m 20 #[vR r, vR it, vU, vU] [(.ref q1)]) _
    refine XS.dup X868.here hx rfl (own_k hby 20 (.dup) 1) rfl rfl ?_
    exact kt)
  have f881 := ((O0.keep K863 all0).ext E868)
  have z882 := (Nat.le_trans z865 E868.1)
  obtain ⟨v883, T883, L883, X883, hQ883, st883⟩ := own_cI X868 hx hZ hw hown hml 353 224 225 222 rfl rfl rfl rfl rfl (a := q1) (rm_sbi hw no de em el ey q1 h868 n0 z882 SS hno f881 A868 F_value_q1 F_coder_q1 F_count_q1 g_q1) e868 (W := 1) (g := (mkF m 21 #[vR r, vR it, vU, vU] [(.ref q1), (.ref q1)])) rfl (argsL := []) (rest := [(.ref q1)]) pd___V (own_k hby 21 (.invokespecial 96) 3)
  obtain ⟨bv1, kb883, rfl, N883q, K883, szb883, EQ883, Fv883, Fc883, Fn883, Eb883, Vb883⟩ := hQ883
  have N883 := Fr.app N866 N883q
  have KK883 : Keep h0 T883.heap [] := K868.trans K883 (allS (Or.inr sz_q1) all0)
  have sz_bv1 : h0.size ≤ bv1 := Nat.le_trans K868.1 szb883
  have g_bv1 : n0 ≤ bv1 := Nat.le_trans z882 szb883
  have S884 : Ga T883 (mkF m 28 #[vR r, vR it, vR q1, vU] [(.int 91), (.ref q1)]) := nx S880 fun t kt => st883 t (by
    show Sp p e below T883 (mkF m 24 #[vR r, vR it, vU, vU] [(.ref q1)]) _
    refine XS.astoreN X883.here hx rfl (own_k hby 24 (.astore_n 2) 1) rfl rfl (l' := #[vR r, vR it, vR q1, vU]) rfl ?_
    refine xa X883.here hx hby 25 2 rfl ?_
    refine xb X883.here hx hby 26 91 ?_
    exact kt)
  have f885 := (f881.keep K883 (allS (Nat.le_trans hno g_q1) all0))
  have z886 := (Nat.le_trans z882 K883.1)
  obtain ⟨v887, T887, L887, X887, hQ887, st887⟩ := own_cV1 X883 hx hZ hw hown hml 355 356 358 357 359 222 rfl rfl rfl rfl rfl rfl EQ883 (rm_sbc hw no de em el ey q1 bv1 kb883 16 (own_vs [0, 0, 0, 0, 0, 0, 0, 0, 0, 0, 0, 0, 0, 0, 0, 0]) 0 91 T883.heap n0 z886 SS hno f885 ⟨EQ883, Fv883, Fc883, Fn883, Eb883, Vb883⟩ g_q1 g_bv1 (by decide) (by decide) rfl (by decide)) rfl (W := 0) (g := (mkF m 28 #[vR r, vR it, vR q1, vU] [(.int 91), (.ref q1)])) rfl (argsL := [(.int 91)]) (rest := []) pd__C_Ljava_lang_StringBuilder_ (own_k hby 28 (.invokevirtual 97) 3)
  obtain ⟨rfl, N887q, K887, EQ887, Fv887, Fc887, Fn887, Eb887, Vb887⟩ := hQ887
  have N887 := Fr.app N883 N887q
  have KK887 : Keep h0 T887.heap [] := KK883.trans K887 (allS (Or.inr sz_q1) (allS (Or.inr sz_bv1) all0))
  have Vx887 : Arv Z T887.heap bv1 kb883 .byte 16 (own_vs [91, 0, 0, 0, 0, 0, 0, 0, 0, 0, 0, 0, 0, 0, 0, 0]) (.int 0) := Vb887
  have Fx887 : Fld Z T887.heap q1 "java/lang/AbstractStringBuilder" "count" "I" (.int 1) := Fn887
  have S888 : Ga T887 (mkF m 33 #[vR r, vR it, vR q1, vU] [(.ref it)]) := nx S884 fun t kt => st887 t (by
    show Sp p e below T887 (mkF m 31 #[vR r, vR it, vR q1, vU] [(.ref q1)]) _
    refine XS.pop X887.here hx rfl (own_k hby 31 (.pop) 1) rfl rfl ?_
    refine xa X887.here hx hby 32 1 rfl ?_
    exact kt)
  have f889 := (f885.keep K887 (allS (Nat.le_trans hno g_q1) (allS (Nat.le_trans hno g_bv1) all0)))
  have f890 := (((Ei863.ext E868).keep K883).keep K887)
  have ne891 : it ≠ bv1 := Nat.ne_of_lt (Nat.lt_of_lt_of_le ((Ei863.ext E868).lt) szb883)
  have f892 := (((Fl863.ext E868).keep K883 (ninS ne875 nin0)).keep K887 (ninS ne875 (ninS ne891 nin0)))
  have f893 := (((Fz863.ext E868).keep K883 (ninS ne875 nin0)).keep K887 (ninS ne875 (ninS ne891 nin0)))
  have f894 := (((Fk863.ext E868).keep K883 (ninS ne875 nin0)).keep K887 (ninS ne875 (ninS ne891 nin0)))
  have f895 := (((f869.ext E868).keep K883).keep K887)
  have ne896 : r ≠ bv1 := Nat.ne_of_lt (Nat.lt_of_lt_of_le ((f869.ext E868).lt) szb883)
  have f897 := ((((F0.keep K863 nin0).ext E868).keep K883 (ninS ne870 nin0)).keep K887 (ninS ne870 (ninS ne896 nin0)))
  have f898 := ((((F1.keep K863 nin0).ext E868).keep K883 (ninS ne870 nin0)).keep K887 (ninS ne870 (ninS ne896 nin0)))
  have z899 := (Nat.le_trans z886 K887.1)
  obtain ⟨cq900, kq900, q900a, q900b, q900c⟩ := isOf hZ rfl f890
  obtain ⟨v900, T900, L900, X900, hQ900, st900⟩ := own_outV (X887.interfaceBack hx (xi := (⟨"java/util/Iterator", "next", "()Ljava/lang/Object;"⟩ : MethodName)) (y := y59) hown (own_t hZ hw 370 rfl) (own_t hZ hw 371 rfl) (own_t hZ hw 372 rfl) (own_t hZ hw 373 rfl) (own_t hZ hw 374 rfl) (own_t hZ hw 375 rfl) (own_t hZ hw 376 rfl) (own_t hZ hw 350 rfl) (by decide) (backOfWith (W := 0) (rm_nxt0 hw no de em el ey it (2 : Int32) r u v' T887.heap n0 z899 SS hno f889 ⟨f890, f892, f893, f894⟩ g_it ⟨f895, f897, f898⟩) hZ (own_h hw 377 rfl) (own_h hw 322 rfl) (by decide) (by decide)) q900a q900b q900c (g := (mkF m 33 #[vR r, vR it, vR q1, vU] [(.ref it)])) rfl (by rw [hml]; rfl) (Steps.refl _) (argsL := []) (rest := []) (lenOf pd___Ljava_lang_Object_ rfl) rfl (own_w rfl) (own_k hby 33 (.invokeinterface 23 1) 5) (fun _ _ => ⟨rfl, rfl, (by decide : 3 + 0 ≤ _), (by decide : 24 + 0 ≤ _)⟩))
  obtain ⟨rfl, N900q, K900, ⟨Ei900, Fl900, Fz900, Fk900⟩⟩ := hQ900
  have N900 := Fr.app N887 N900q
  have KK900 : Keep h0 T900.heap [] := KK887.trans K900 (allS (Or.inr sz_it) all0)
  have ne901 : u ≠ r := Exa.ne Eu El (by decide)
  have S902 : Ga T900 (mkF m 51 #[vR r, vR it, vR q1, vR u] [(.ref u), (.ref q1)]) := nx S888 fun t kt => st900 t (by
    show Sp p e below T900 (mkF m 38 #[vR r, vR it, vR q1, vU] [(.ref u)]) _
    refine XS.astoreN X900.here hx rfl (own_k hby 38 (.astore_n 3) 1) rfl rfl (l' := #[vR r, vR it, vR q1, vR u]) rfl ?_
    refine xa X900.here hx hby 39 2 rfl ?_
    refine xa X900.here hx hby 40 3 rfl ?_
    refine xa X900.here hx hby 41 0 rfl ?_
    show Sp p e below T900 (mkF m 42 #[vR r, vR it, vR q1, vR u] [(.ref r), (.ref u), (.ref q1)]) _
    refine Jvm.RoadKit.acmp (g := (mkF m 42 #[vR r, vR it, vR q1, vR u] [(.ref r), (.ref u), (.ref q1)])) X900 hx rfl rfl rfl (pc0 := 42) (pc' := 50) (same := false) rfl (own_k hby 42 (.if_acmp .ne 8) 3) rfl (decide_eq_false fun q => ne901 (Value.ref.inj q)) (by decide) (by decide) ?_
    refine xa X900.here hx hby 50 3 rfl ?_
    exact kt)
  have f903 := (f889.keep K900 (allS (Nat.le_trans hno g_it) all0))
  have f904 := (EQ887.keep K900)
  have f905 := (Fv887.keep K900 (ninS (Ne.symm ne875) nin0))
  have f906 := (Fc887.keep K900 (ninS (Ne.symm ne875) nin0))
  have f907 := (Fx887.keep K900 (ninS (Ne.symm ne875) nin0))
  have f908 := (Eb887.keep K900)
  have f909 := (Vx887.keep K900 (ninS (Ne.symm ne891) nin0))
  have f910 := ((((f871.ext E868).keep K883).keep K887).keep K900)
  have ne911 : u ≠ bv1 := Nat.ne_of_lt (Nat.lt_of_lt_of_le ((f871.ext E868).lt) szb883)
  have ne912 : u ≠ it := Nat.ne_of_lt (Nat.lt_of_lt_of_le (Eu.lt) szi863)
  have f913 := (((((Fu.keep K863 nin0).ext E868).keep K883 (ninS ne872 nin0)).keep K887 (ninS ne872 (ninS ne911 nin0))).keep K900 (ninS ne912 nin0))
  have f914 := (((((Gu.keep K863 nin0).ext E868).keep K883 (ninS ne872 nin0)).keep K887 (ninS ne872 (ninS ne911 nin0))).keep K900 (ninS ne912 nin0))
  have ne915 : ub ≠ bv1 := Nat.ne_of_lt (Nat.lt_of_lt_of_le ((f876.ext E868).lt) szb883)
  have ne916 : ub ≠ it := Nat.ne_of_lt (Nat.lt_of_lt_of_le (Vu.lt) szi863)
  have f917 := ((((f876.ext E868).keep K883 (ninS ne877 nin0)).keep K887 (ninS ne877 (ninS ne915 nin0))).keep K900 (ninS ne916 nin0))
  have z918 := (Nat.le_trans z899 K900.1)
  obtain ⟨v919, T919, L919, X919, hQ919, st919⟩ := own_cV1 X900 hx hZ hw hown hml 387 302 304 303 305 222 rfl rfl rfl rfl rfl rfl f904 (rm_saoS hw no de em el ey q1 bv1 kb883 16 (own_vs [91, 0, 0, 0, 0, 0, 0, 0, 0, 0, 0, 0, 0, 0, 0, 0]) 1 u ub uk 1 (own_vs [cu]) T900.heap n0 z918 SS hno f903 ⟨f904, f905, f906, f907, f908, f909⟩ ⟨f910, f913, f914, f917⟩ g_q1 g_bv1 (by decide) (by decide) rfl rfl) rfl (W := 0) (g := (mkF m 51 #[vR r, vR it, vR q1, vR u] [(.ref u), (.ref q1)])) rfl (argsL := [(.ref u)]) (rest := []) pd__Ljava_lang_Object__Ljava_lang_StringBuilder_ (own_k hby 51 (.invokevirtual 103) 3)
  obtain ⟨rfl, N919q, K919, EQ919, Fv919, Fc919, Fn919, Eb919, Vb919⟩ := hQ919
  have N919 := Fr.app N900 N919q
  have KK919 : Keep h0 T919.heap [] := KK900.trans K919 (allS (Or.inr sz_q1) (allS (Or.inr sz_bv1) all0))
  have Vx919 : Arv Z T919.heap bv1 kb883 .byte 16 (own_vs [91, cu, 0, 0, 0, 0, 0, 0, 0, 0, 0, 0, 0, 0, 0, 0]) (.int 0) := Vb919
  have Fx919 : Fld Z T919.heap q1 "java/lang/AbstractStringBuilder" "count" "I" (.int 2) := Fn919
  have S920 : Ga T919 (mkF m 56 #[vR r, vR it, vR q1, vR u] [(.ref it)]) := nx S902 fun t kt => st919 t (by
    show Sp p e below T919 (mkF m 54 #[vR r, vR it, vR q1, vR u] [(.ref q1)]) _
    refine XS.pop X919.here hx rfl (own_k hby 54 (.pop) 1) rfl rfl ?_
    refine xa X919.here hx hby 55 1 rfl ?_
    exact kt)
  have f921 := (Ei900.keep K919)
  have f922 := (Fl900.keep K919 (ninS ne875 (ninS ne891 nin0)))
  have f923 := (Fz900.keep K919 (ninS ne875 (ninS ne891 nin0)))
  have f924 := (Fk900.keep K919 (ninS ne875 (ninS ne891 nin0)))
  have z925 := (Nat.le_trans z918 K919.1)
  obtain ⟨cq926, kq926, q926a, q926b, q926c⟩ := isOf hZ rfl f921
  obtain ⟨v926, T926, L926, X926, hQ926, st926⟩ := own_outV (X919.interfaceBack hx (xi := (⟨"java/util/Iterator", "hasNext", "()Z"⟩ : MethodName)) (y := y55) hown (own_t hZ hw 343 rfl) (own_t hZ hw 344 rfl) (own_t hZ hw 345 rfl) (own_t hZ hw 346 rfl) (own_t hZ hw 347 rfl) (own_t hZ hw 348 rfl) (own_t hZ hw 349 rfl) (own_t hZ hw 350 rfl) (by decide) (backOf (W := 0) (rm_hnx hw it r (2 : Int32) (1 : Int32) T919.heap n0 z925 ⟨f921, f922, f923, f924⟩ (by decide)) hZ (own_h hw 351 rfl) (own_h hw 322 rfl) (by decide) (by decide)) q926a q926b q926c (g := (mkF m 56 #[vR r, vR it, vR q1, vR u] [(.ref it)])) rfl (by rw [hml]; rfl) (Steps.refl _) (argsL := []) (rest := []) (lenOf pd___Z rfl) rfl (own_w rfl) (own_k hby 56 (.invokeinterface 17 1) 5) (fun _ _ => ⟨rfl, rfl, (by decide : 3 + 0 ≤ _), (by decide : 24 + 0 ≤ _)⟩))
  obtain ⟨rfl, N926q, e926⟩ := hQ926
  have N926 := Fr.app N919 N926q
  have S927 : Ga T926 (mkF m 77 #[vR r, vR it, vR q1, vR u] [(.int 44), (.ref q1)]) := nx S920 fun t kt => st926 t (by
    show Sp p e below T926 (mkF m 61 #[vR r, vR it, vR q1, vR u] [(.int 1)]) _
    refine XS.ifYes X926.here hx rfl (pc0 := 61) (pc' := 74) rfl (own_k hby 61 (.ifCond .ne 13) 3) rfl ((if0 _ _).trans (feq (show ¬ ((1 : Int32) = (0 : Int32)) from (by decide))).2) (by decide) (by decide) ?_
    refine xa X926.here hx hby 74 2 rfl ?_
    refine xb X926.here hx hby 75 44 ?_
    exact kt)
  have f928 := (f903.keep K919 (allS (Nat.le_trans hno g_q1) (allS (Nat.le_trans hno g_bv1) all0)))
  obtain ⟨v929, T929, L929, X929, hQ929, st929⟩ := own_cV1 X926 hx hZ hw hown hml 355 356 358 357 359 222 rfl rfl rfl rfl rfl rfl EQ919 (rm_sbc hw no de em el ey q1 bv1 kb883 16 (own_vs [91, cu, 0, 0, 0, 0, 0, 0, 0, 0, 0, 0, 0, 0, 0, 0]) 2 44 T919.heap n0 z925 SS hno f928 ⟨EQ919, Fv919, Fc919, Fx919, Eb919, Vx919⟩ g_q1 g_bv1 (by decide) (by decide) rfl (by decide)) e926 (W := 0) (g := (mkF m 77 #[vR r, vR it, vR q1, vR u] [(.int 44), (.ref q1)])) rfl (argsL := [(.int 44)]) (rest := []) pd__C_Ljava_lang_StringBuilder_ (own_k hby 77 (.invokevirtual 97) 3)
  obtain ⟨rfl, N929q, K929, EQ929, Fv929, Fc929, Fn929, Eb929, Vb929⟩ := hQ929
  have N929 := Fr.app N926 N929q
  have KK929 : Keep h0 T929.heap [] := KK919.trans K929 (allS (Or.inr sz_q1) (allS (Or.inr sz_bv1) all0))
  have Vx929 : Arv Z T929.heap bv1 kb883 .byte 16 (own_vs [91, cu, 44, 0, 0, 0, 0, 0, 0, 0, 0, 0, 0, 0, 0, 0]) (.int 0) := Vb929
  have Fx929 : Fld Z T929.heap q1 "java/lang/AbstractStringBuilder" "count" "I" (.int 3) := Fn929
  have S930 : Ga T929 (mkF m 82 #[vR r, vR it, vR q1, vR u] [(.int 32), (.ref q1)]) := nx S927 fun t kt => st929 t (by
    show Sp p e below T929 (mkF m 80 #[vR r, vR it, vR q1, vR u] [(.ref q1)]) _
    refine xb X929.here hx hby 80 32 ?_
    exact kt)
  have f931 := (f928.keep K929 (allS (Nat.le_trans hno g_q1) (allS (Nat.le_trans hno g_bv1) all0)))
  have z932 := (Nat.le_trans z925 K929.1)
  obtain ⟨v933, T933, L933, X933, hQ933, st933⟩ := own_cV1 X929 hx hZ hw hown hml 355 356 358 357 359 222 rfl rfl rfl rfl rfl rfl EQ929 (rm_sbc hw no de em el ey q1 bv1 kb883 16 (own_vs [91, cu, 44, 0, 0, 0, 0, 0, 0, 0, 0, 0, 0, 0, 0, 0]) 3 32 T929.heap n0 z932 SS hno f931 ⟨EQ929, Fv929, Fc929, Fx929, Eb929, Vx929⟩ g_q1 g_bv1 (by decide) (by decide) rfl (by decide)) rfl (W := 0) (g := (mkF m 82 #[vR r, vR it, vR q1, vR u] [(.int 32), (.ref q1)])) rfl (argsL := [(.int 32)]) (rest := []) pd__C_Ljava_lang_StringBuilder_ (own_k hby 82 (.invokevirtual 97) 3)
  obtain ⟨rfl, N933q, K933, EQ933, Fv933, Fc933, Fn933, Eb933, Vb933⟩ := hQ933
  have N933 := Fr.app N929 N933q
  have KK933 : Keep h0 T933.heap [] := KK929.trans K933 (allS (Or.inr sz_q1) (allS (Or.inr sz_bv1) all0))
  have Vx933 : Arv Z T933.heap bv1 kb883 .byte 16 (own_vs [91, cu, 44, 32, 0, 0, 0, 0, 0, 0, 0, 0, 0, 0, 0, 0]) (.int 0) := Vb933
  have Fx933 : Fld Z T933.heap q1 "java/lang/AbstractStringBuilder" "count" "I" (.int 4) := Fn933
  have S934 : Ga T933 (mkF m 32 #[vR r, vR it, vR q1, vR u] []) := nx S930 fun t kt => st933 t (by
    show Sp p e below T933 (mkF m 85 #[vR r, vR it, vR q1, vR u] [(.ref q1)]) _
    refine XS.pop X933.here hx rfl (own_k hby 85 (.pop) 1) rfl rfl ?_
    refine XS.goto X933.here hx rfl (pc0 := 86) (pc' := 32) rfl (own_k hby 86 (.goto (-54)) 3) (by decide) (by decide) ?_
    exact kt)
  have S935 : Ga T933 (mkF m 33 #[vR r, vR it, vR q1, vR u] [(.ref it)]) := nx S934 fun t kt => by
    refine xa X933.here hx hby 32 1 rfl ?_
    exact kt
  have f936 := (f931.keep K933 (allS (Nat.le_trans hno g_q1) (allS (Nat.le_trans hno g_bv1) all0)))
  have f937 := ((f921.keep K929).keep K933)
  have f938 := ((f922.keep K929 (ninS ne875 (ninS ne891 nin0))).keep K933 (ninS ne875 (ninS ne891 nin0)))
  have f939 := ((f923.keep K929 (ninS ne875 (ninS ne891 nin0))).keep K933 (ninS ne875 (ninS ne891 nin0)))
  have f940 := ((f924.keep K929 (ninS ne875 (ninS ne891 nin0))).keep K933 (ninS ne875 (ninS ne891 nin0)))
  have f941 := ((((f895.keep K900).keep K919).keep K929).keep K933)
  have ne942 : r ≠ it := Nat.ne_of_lt (Nat.lt_of_lt_of_le (El.lt) szi863)
  have f943 := ((((f897.keep K900 (ninS ne942 nin0)).keep K919 (ninS ne870 (ninS ne896 nin0))).keep K929 (ninS ne870 (ninS ne896 nin0))).keep K933 (ninS ne870 (ninS ne896 nin0)))
  have f944 := ((((f898.keep K900 (ninS ne942 nin0)).keep K919 (ninS ne870 (ninS ne896 nin0))).keep K929 (ninS ne870 (ninS ne896 nin0))).keep K933 (ninS ne870 (ninS ne896 nin0)))
  have f945 := (((((((f873.ext E868).keep K883).keep K887).keep K900).keep K919).keep K929).keep K933)
  have z946 := (Nat.le_trans z932 K933.1)
  obtain ⟨cq947, kq947, q947a, q947b, q947c⟩ := isOf hZ rfl f937
  obtain ⟨v947, T947, L947, X947, hQ947, st947⟩ := own_outV (X933.interfaceBack hx (xi := (⟨"java/util/Iterator", "next", "()Ljava/lang/Object;"⟩ : MethodName)) (y := y59) hown (own_t hZ hw 370 rfl) (own_t hZ hw 371 rfl) (own_t hZ hw 372 rfl) (own_t hZ hw 373 rfl) (own_t hZ hw 374 rfl) (own_t hZ hw 375 rfl) (own_t hZ hw 376 rfl) (own_t hZ hw 350 rfl) (by decide) (backOfWith (W := 0) (rm_nxt1 hw no de em el ey it (2 : Int32) r u v' T933.heap n0 z946 SS hno f936 ⟨f937, f938, f939, f940⟩ g_it ⟨f941, f943, f944⟩ f945) hZ (own_h hw 377 rfl) (own_h hw 322 rfl) (by decide) (by decide)) q947a q947b q947c (g := (mkF m 33 #[vR r, vR it, vR q1, vR u] [(.ref it)])) rfl (by rw [hml]; rfl) (Steps.refl _) (argsL := []) (rest := []) (lenOf pd___Ljava_lang_Object_ rfl) rfl (own_w rfl) (own_k hby 33 (.invokeinterface 23 1) 5) (fun _ _ => ⟨rfl, rfl, (by decide : 3 + 0 ≤ _), (by decide : 24 + 0 ≤ _)⟩))
  obtain ⟨rfl, N947q, K947, ⟨Ei947, Fl947, Fz947, Fk947⟩⟩ := hQ947
  have N947 := Fr.app N933 N947q
  have KK947 : Keep h0 T947.heap [] := KK933.trans K947 (allS (Or.inr sz_it) all0)
  have ne948 : v' ≠ r := Exa.ne Ev' El (by decide)
  have S949 : Ga T947 (mkF m 51 #[vR r, vR it, vR q1, vR v'] [(.ref v'), (.ref q1)]) := nx S935 fun t kt => st947 t (by
    show Sp p e below T947 (mkF m 38 #[vR r, vR it, vR q1, vR u] [(.ref v')]) _
    refine XS.astoreN X947.here hx rfl (own_k hby 38 (.astore_n 3) 1) rfl rfl (l' := #[vR r, vR it, vR q1, vR v']) rfl ?_
    refine xa X947.here hx hby 39 2 rfl ?_
    refine xa X947.here hx hby 40 3 rfl ?_
    refine xa X947.here hx hby 41 0 rfl ?_
    show Sp p e below T947 (mkF m 42 #[vR r, vR it, vR q1, vR v'] [(.ref r), (.ref v'), (.ref q1)]) _
    refine Jvm.RoadKit.acmp (g := (mkF m 42 #[vR r, vR it, vR q1, vR v'] [(.ref r), (.ref v'), (.ref q1)])) X947 hx rfl rfl rfl (pc0 := 42) (pc' := 50) (same := false) rfl (own_k hby 42 (.if_acmp .ne 8) 3) rfl (decide_eq_false fun q => ne948 (Value.ref.inj q)) (by decide) (by decide) ?_
    refine xa X947.here hx hby 50 3 rfl ?_
    exact kt)
  have f950 := (f936.keep K947 (allS (Nat.le_trans hno g_it) all0))
  have f951 := (EQ933.keep K947)
  have f952 := (Fv933.keep K947 (ninS (Ne.symm ne875) nin0))
  have f953 := (Fc933.keep K947 (ninS (Ne.symm ne875) nin0))
  have f954 := (Fx933.keep K947 (ninS (Ne.symm ne875) nin0))
  have f955 := (Eb933.keep K947)
  have f956 := (Vx933.keep K947 (ninS (Ne.symm ne891) nin0))
  have f957 := (f945.keep K947)
  have ne958 : v' ≠ bv1 := Nat.ne_of_lt (Nat.lt_of_lt_of_le ((f873.ext E868).lt) szb883)
  have ne959 : v' ≠ it := Nat.ne_of_lt (Nat.lt_of_lt_of_le (Ev'.lt) szi863)
  have f960 := (((((((((Fv'.keep K863 nin0).ext E868).keep K883 (ninS ne874 nin0)).keep K887 (ninS ne874 (ninS ne958 nin0))).keep K900 (ninS ne959 nin0)).keep K919 (ninS ne874 (ninS ne958 nin0))).keep K929 (ninS ne874 (ninS ne958 nin0))).keep K933 (ninS ne874 (ninS ne958 nin0))).keep K947 (ninS ne959 nin0))
  have f961 := (((((((((Gv'.keep K863 nin0).ext E868).keep K883 (ninS ne874 nin0)).keep K887 (ninS ne874 (ninS ne958 nin0))).keep K900 (ninS ne959 nin0)).keep K919 (ninS ne874 (ninS ne958 nin0))).keep K929 (ninS ne874 (ninS ne958 nin0))).keep K933 (ninS ne874 (ninS ne958 nin0))).keep K947 (ninS ne959 nin0))
  have ne962 : vb ≠ bv1 := Nat.ne_of_lt (Nat.lt_of_lt_of_le ((f878.ext E868).lt) szb883)
  have ne963 : vb ≠ it := Nat.ne_of_lt (Nat.lt_of_lt_of_le (Vv'.lt) szi863)
  have f964 := ((((((((f878.ext E868).keep K883 (ninS ne879 nin0)).keep K887 (ninS ne879 (ninS ne962 nin0))).keep K900 (ninS ne963 nin0)).keep K919 (ninS ne879 (ninS ne962 nin0))).keep K929 (ninS ne879 (ninS ne962 nin0))).keep K933 (ninS ne879 (ninS ne962 nin0))).keep K947 (ninS ne963 nin0))
  have z965 := (Nat.le_trans z946 K947.1)
  obtain ⟨v966, T966, L966, X966, hQ966, st966⟩ := own_cV1 X947 hx hZ hw hown hml 387 302 304 303 305 222 rfl rfl rfl rfl rfl rfl f951 (rm_saoS hw no de em el ey q1 bv1 kb883 16 (own_vs [91, cu, 44, 32, 0, 0, 0, 0, 0, 0, 0, 0, 0, 0, 0, 0]) 4 v' vb vk 1 (own_vs [cv]) T947.heap n0 z965 SS hno f950 ⟨f951, f952, f953, f954, f955, f956⟩ ⟨f957, f960, f961, f964⟩ g_q1 g_bv1 (by decide) (by decide) rfl rfl) rfl (W := 0) (g := (mkF m 51 #[vR r, vR it, vR q1, vR v'] [(.ref v'), (.ref q1)])) rfl (argsL := [(.ref v')]) (rest := []) pd__Ljava_lang_Object__Ljava_lang_StringBuilder_ (own_k hby 51 (.invokevirtual 103) 3)
  obtain ⟨rfl, N966q, K966, EQ966, Fv966, Fc966, Fn966, Eb966, Vb966⟩ := hQ966
  have N966 := Fr.app N947 N966q
  have KK966 : Keep h0 T966.heap [] := KK947.trans K966 (allS (Or.inr sz_q1) (allS (Or.inr sz_bv1) all0))
  have Vx966 : Arv Z T966.heap bv1 kb883 .byte 16 (own_vs [91, cu, 44, 32, cv, 0, 0, 0, 0, 0, 0, 0, 0, 0, 0, 0]) (.int 0) := Vb966
  have Fx966 : Fld Z T966.heap q1 "java/lang/AbstractStringBuilder" "count" "I" (.int 5) := Fn966
  have S967 : Ga T966 (mkF m 56 #[vR r, vR it, vR q1, vR v'] [(.ref it)]) := nx S949 fun t kt => st966 t (by
    show Sp p e below T966 (mkF m 54 #[vR r, vR it, vR q1, vR v'] [(.ref q1)]) _
    refine XS.pop X966.here hx rfl (own_k hby 54 (.pop) 1) rfl rfl ?_
    refine xa X966.here hx hby 55 1 rfl ?_
    exact kt)
  have f968 := (Ei947.keep K966)
  have f969 := (Fl947.keep K966 (ninS ne875 (ninS ne891 nin0)))
  have f970 := (Fz947.keep K966 (ninS ne875 (ninS ne891 nin0)))
  have f971 := (Fk947.keep K966 (ninS ne875 (ninS ne891 nin0)))
  have z972 := (Nat.le_trans z965 K966.1)
  obtain ⟨cq973, kq973, q973a, q973b, q973c⟩ := isOf hZ rfl f968
  obtain ⟨v973, T973, L973, X973, hQ973, st973⟩ := own_outV (X966.interfaceBack hx (xi := (⟨"java/util/Iterator", "hasNext", "()Z"⟩ : MethodName)) (y := y55) hown (own_t hZ hw 343 rfl) (own_t hZ hw 344 rfl) (own_t hZ hw 345 rfl) (own_t hZ hw 346 rfl) (own_t hZ hw 347 rfl) (own_t hZ hw 348 rfl) (own_t hZ hw 349 rfl) (own_t hZ hw 350 rfl) (by decide) (backOf (W := 0) (rm_hno hw it r (2 : Int32) (2 : Int32) T966.heap n0 z972 ⟨f968, f969, f970, f971⟩ rfl) hZ (own_h hw 351 rfl) (own_h hw 322 rfl) (by decide) (by decide)) q973a q973b q973c (g := (mkF m 56 #[vR r, vR it, vR q1, vR v'] [(.ref it)])) rfl (by rw [hml]; rfl) (Steps.refl _) (argsL := []) (rest := []) (lenOf pd___Z rfl) rfl (own_w rfl) (own_k hby 56 (.invokeinterface 17 1) 5) (fun _ _ => ⟨rfl, rfl, (by decide : 3 + 0 ≤ _), (by decide : 24 + 0 ≤ _)⟩))
  obtain ⟨rfl, N973q, e973⟩ := hQ973
  have N973 := Fr.app N966 N973q
  have S974 : Ga T973 (mkF m 67 #[vR r, vR it, vR q1, vR v'] [(.int 93), (.ref q1)]) := nx S967 fun t kt => st973 t (by
    show Sp p e below T973 (mkF m 61 #[vR r, vR it, vR q1, vR v'] [(.int 0)]) _
    refine XS.ifNo X973.here hx rfl (own_k hby 61 (.ifCond .ne 13) 3) rfl ((if0 _ _).trans (teq (show (0 : Int32) = (0 : Int32) from (by decide))).2) ?_
    refine xa X973.here hx hby 64 2 rfl ?_
    refine xb X973.here hx hby 65 93 ?_
    exact kt)
  have f975 := (f950.keep K966 (allS (Nat.le_trans hno g_q1) (allS (Nat.le_trans hno g_bv1) all0)))
  obtain ⟨v976, T976, L976, X976, hQ976, st976⟩ := own_cV1 X973 hx hZ hw hown hml 355 356 358 357 359 222 rfl rfl rfl rfl rfl rfl EQ966 (rm_sbc hw no de em el ey q1 bv1 kb883 16 (own_vs [91, cu, 44, 32, cv, 0, 0, 0, 0, 0, 0, 0, 0, 0, 0, 0]) 5 93 T966.heap n0 z972 SS hno f975 ⟨EQ966, Fv966, Fc966, Fx966, Eb966, Vx966⟩ g_q1 g_bv1 (by decide) (by decide) rfl (by decide)) e973 (W := 0) (g := (mkF m 67 #[vR r, vR it, vR q1, vR v'] [(.int 93), (.ref q1)])) rfl (argsL := [(.int 93)]) (rest := []) pd__C_Ljava_lang_StringBuilder_ (own_k hby 67 (.invokevirtual 97) 3)
  obtain ⟨rfl, N976q, K976, EQ976, Fv976, Fc976, Fn976, Eb976, Vb976⟩ := hQ976
  have N976 := Fr.app N973 N976q
  have KK976 : Keep h0 T976.heap [] := KK966.trans K976 (allS (Or.inr sz_q1) (allS (Or.inr sz_bv1) all0))
  have Vx976 : Arv Z T976.heap bv1 kb883 .byte 16 (own_vs [91, cu, 44, 32, cv, 93, 0, 0, 0, 0, 0, 0, 0, 0, 0, 0]) (.int 0) := Vb976
  have Fx976 : Fld Z T976.heap q1 "java/lang/AbstractStringBuilder" "count" "I" (.int 6) := Fn976
  have f977 := (f975.keep K976 (allS (Nat.le_trans hno g_q1) (allS (Nat.le_trans hno g_bv1) all0)))
  have z978 := (Nat.le_trans z972 K976.1)
  obtain ⟨v979, T979, L979, X979, hQ979, st979⟩ := own_cV1 X976 hx hZ hw hown hml 392 393 395 394 396 222 rfl rfl rfl rfl rfl rfl EQ976 (rm_sbt hw no de em el ey q1 bv1 kb883 16 (own_vs [91, cu, 44, 32, cv, 93, 0, 0, 0, 0, 0, 0, 0, 0, 0, 0]) 6 T976.heap n0 z978 SS hno f977 ⟨EQ976, Fv976, Fc976, Fx976, Eb976, Vx976⟩ (by decide) (by decide) rfl) rfl (W := 0) (g := (mkF m 70 #[vR r, vR it, vR q1, vR v'] [(.ref q1)])) rfl (argsL := []) (rest := []) pd___Ljava_lang_String_ (own_k hby 70 (.invokevirtual 106) 3)
  obtain ⟨a1, b1, kb979, rfl, N979q, K979, sza1979, szb1979, E979, F979, G979, V979⟩ := hQ979
  have N979 := Fr.app N976 N979q
  have KK979 : Keep h0 T979.heap [] := KK976.trans K979 all0
  have sz_a1 : h0.size ≤ a1 := Nat.le_trans KK976.1 sza1979
  have sz_b1 : h0.size ≤ b1 := Nat.le_trans KK976.1 szb1979
  have Vx979 : Arv Z T979.heap b1 kb979 .byte 6 (own_vs [91, cu, 44, 32, cv, 93]) (.int 0) := V979
  have S980 : Ga T979 (mkF m 73 #[vR r, vR it, vR q1, vR v'] [(.ref a1)]) := nx S974 fun t kt => st976 t (st979 t kt)
  refine ⟨T979, _, some (.ref a1), _, _, _, X979, og S980, fun h => (nomatch hret.symm.trans h), by decide, by decide, ?_, fun fs hr => retOut X979 hx hret rfl (Or.inr (Or.inr (Or.inr (Or.inr ⟨rfl, rfl, rfl⟩)))) (own_k hby 73 (.areturn) 1) hr⟩
  show Q_acs2 Z cu cv h0 n0 _ T979.heap _
  exact ⟨a1, b1, kb979, rfl, N979, KK979, sz_a1, sz_b1, E979, F979, G979, Vx979⟩
abbrev R_vob1 : Room := { frames := 7, cells := 5, slots := 128, locals := 106 }
def Q_vob1 (Z : State) (cu : Int32) (h0 : Heap) (n0 : Nat) (v : Option Value) (h : Heap) (L : List Loc) : Prop := ∃ (a b : Addr) (k' : ClassId), v = some (.ref a) ∧ Fr n0 L ∧ Keep h0 h [] ∧ h0.size ≤ a ∧ h0.size ≤ b ∧ own_Str Z h a b k' (3 : Int32) (own_vs [91, cu, 93])
theorem rm_vob1 {l : Launch} {Z : State} {a0 : Array Value} (hw : own_W a0 Z) (no : Nat) (de : Addr) (em : Addr) (el : Addr) (ey : Addr) (r : Addr) (u : Addr) (ub : Addr) (uk : ClassId) (cu : Int32) (h0 : Heap) (n0 : Nat) (Z0 : n0 ≤ h0.size) (SS : own_St Z de em el ey) (hno : no ≤ n0) (O0 : Old Z no h0) (HL : own_L Z h0 r (.ref u) (.ref ey)) (HSu : own_Str Z h0 u ub uk (1 : Int32) (own_vs [cu])) : own_Met l y50 jdk_42_method_133_code 1 (some (.object "java/lang/String")) R_vob1 Z h0 #[(.ref r)] (Q_vob1 Z cu h0 n0) := by
  refine own_body (plainFor_of_name pn_sts) fun p e s m below meth c s₁ hlk hret hnm hx hby hml hown hZ X0 e0 => ?_
  have N0 := Fr.nil n0
  obtain ⟨Ga, Sa, nx, og⟩ := own_ga (p := p) (e := e) (below := below) s₁ (eF_2 m r)
  have S0 : Ga s₁ (mkF m 0 #[vR r] []) := nx Sa fun t k => castTop (ef_2 m r) k
  obtain ⟨⟨cz, S_cs, hcz⟩, -⟩ := id SS
  obtain ⟨El, F0, F1⟩ := HL
  obtain ⟨Eu, Fu, Gu, Vu⟩ := HSu
  have S981 : Ga s₁ (mkF m 11 #[vR r] [(.ref r)]) := nx S0 fun t kt => by
    refine xa X0.here hx hby 0 0 rfl ?_
    refine XS.ifnonnullYes X0.here hx rfl (pc0 := 1) (pc' := 10) rfl (own_k hby 1 (.ifnonnull 9) 3) rfl (by decide) (by decide) ?_
    refine xa X0.here hx hby 10 0 rfl ?_
    exact kt
  obtain ⟨v982, T982, L982, X982, hQ982, st982⟩ := own_cV X0 hx hZ hw hown hml 309 310 312 313 314 47 rfl rfl rfl rfl rfl rfl (own_nfO (args := #[]) (mv hZ (own_h hw 128 rfl))) El (rm_acs1 hw no de em el ey r u ub uk cu h0 n0 Z0 SS hno O0 ⟨El, F0, F1⟩ ⟨Eu, Fu, Gu, Vu⟩) e0 (W := 0) (g := (mkF m 11 #[vR r] [(.ref r)])) rfl (argsL := []) (rest := []) pd___Ljava_lang_String_ (own_k hby 11 (.invokevirtual 1007) 3)
  obtain ⟨a1, b1, kb982, rfl, N982q, K982, sz_a1, sz_b1, E982, F982, G982, V982⟩ := hQ982
  have N982 := Fr.app N0 N982q
  have KK982 : Keep h0 T982.heap [] := (Keep.refl h0 []).trans K982 all0
  have S983 : Ga T982 (mkF m 14 #[vR r] [(.ref a1)]) := nx S981 fun t kt => st982 t kt
  refine ⟨T982, _, some (.ref a1), _, _, _, X982, og S983, fun h => (nomatch hret.symm.trans h), by decide, by decide, ?_, fun fs hr => retOut X982 hx hret rfl (Or.inr (Or.inr (Or.inr (Or.inr ⟨rfl, rfl, rfl⟩)))) (own_k hby 14 (.areturn) 1) hr⟩
  show Q_vob1 Z cu h0 n0 _ T982.heap _
  exact ⟨a1, b1, kb982, rfl, N982, KK982, sz_a1, sz_b1, E982, F982, G982, V982⟩
abbrev R_sao1 : Room := { frames := 8, cells := 5, slots := 128, locals := 119 }
def Q_sao1 (Z : State) (q : Addr) (bv : Addr) (k : ClassId) (vs : List Value)(cu : Int32) (h0 : Heap) (n0 : Nat) (v : Option Value) (h : Heap) (L : List Loc) : Prop := v = some (.ref q) ∧ Fr n0 L ∧ Keep h0 h [q, bv] ∧ own_SB Z h q bv k (34 : Int32) (vs.take 27 ++ (own_vs [91, cu, 93]) ++ vs.drop (27 + 3)) (30 : Int32)
theorem rm_sao1 {l : Launch} {Z : State} {a0 : Array Value} (hw : own_W a0 Z) (no : Nat) (de : Addr) (em : Addr) (el : Addr) (ey : Addr)(q : Addr) (bv : Addr) (k : ClassId) (vs : List Value) (r : Addr) (u : Addr) (ub : Addr) (uk : ClassId) (cu : Int32) (h0 : Heap) (n0 : Nat) (Z0 : n0 ≤ h0.size) (SS : own_St Z de em el ey) (hno : no ≤ n0) (O0 : Old Z no h0) (HB : own_SB Z h0 q bv k (34 : Int32) vs (27 : Int32)) (HL : own_L Z h0 r (.ref u) (.ref ey)) (HSu : own_Str Z h0 u ub uk (1 : Int32) (own_vs [cu])) (g_q : n0 ≤ q) (g_bv : n0 ≤ bv) (hvl : vs.length = 34) : own_Met l y49 jdk_67_method_6_code 2 (some (.object "java/lang/StringBuilder")) R_sao1 Z h0 #[(.ref q), (.ref r)] (Q_sao1 Z q bv k vs cu h0 n0) := by
  refine own_body (plainFor_of_name pn_sba) fun p e s m below meth c s₁ hlk hret hnm hx hby hml hown hZ X0 e0 => ?_
  have N0 := Fr.nil n0
  obtain ⟨Ga, Sa, nx, og⟩ := own_ga (p := p) (e := e) (below := below) s₁ (eF_6 m q r)
  have S0 : Ga s₁ (mkF m 0 #[vR q, vR r] []) := nx Sa fun t k => castTop (ef_6 m q r) k
  obtain ⟨⟨cz, S_cs, hcz⟩, -⟩ := id SS
  obtain ⟨EQ, Fv, Fc, Fn, Eb, Vb⟩ := HB
  obtain ⟨El, F0, F1⟩ := HL
  obtain ⟨Eu, Fu, Gu, Vu⟩ := HSu
  have S984 : Ga s₁ (mkF m 2 #[vR q, vR r] [(.ref r), (.ref q)]) := nx S0 fun t kt => by
    refine xa X0.here hx hby 0 0 rfl ?_
    refine xa X0.here hx hby 1 1 rfl ?_
    exact kt
  obtain ⟨v985, T985, L985, X985, hQ985, st985⟩ := own_cS X0 hx hZ hw hown hml 306 307 308 3 rfl rfl rfl rfl (rm_vob1 hw no de em el ey r u ub uk cu h0 n0 Z0 SS hno O0 ⟨El, F0, F1⟩ ⟨Eu, Fu, Gu, Vu⟩) e0 (W := 1) (g := (mkF m 2 #[vR q, vR r] [(.ref r), (.ref q)])) rfl (argsL := [(.ref r)]) (rest := [(.ref q)]) pd__Ljava_lang_Object__Ljava_lang_String_ (own_k hby 2 (.invokestatic 17) 3)
  obtain ⟨a1, b1, kb985, rfl, N985q, K985, sz_a1, sz_b1, E985, F985, G985, V985⟩ := hQ985
  have N985 := Fr.app N0 N985q
  have KK985 : Keep h0 T985.heap [q, bv] := (Keep.refl h0 [q, bv]).trans K985 all0
  have f986 := (O0.keep K985 all0)
  have f987 := (EQ.keep K985)
  have f988 := (Fv.keep K985 nin0)
  have f989 := (Fc.keep K985 nin0)
  have f990 := (Fn.keep K985 nin0)
  have f991 := (Eb.keep K985)
  have f992 := (Vb.keep K985 nin0)
  have z993 := (Nat.le_trans Z0 K985.1)
  obtain ⟨v994, T994, L994, X994, hQ994, st994⟩ := own_cV1 X985 hx hZ hw hown hml 391 242 244 243 245 222 rfl rfl rfl rfl rfl rfl f987 (rm_sba hw no de em el ey q bv k 34 vs 27 a1 b1 kb985 3 (own_vs [91, cu, 93]) T985.heap n0 z993 SS hno f986 ⟨f987, f988, f989, f990, f991, f992⟩ ⟨E985, F985, G985, V985⟩ g_q g_bv (by decide) (by decide) hvl rfl) rfl (W := 0) (g := (mkF m 5 #[vR q, vR r] [(.ref a1), (.ref q)])) rfl (argsL := [(.ref a1)]) (rest := []) pd__Ljava_lang_String__Ljava_lang_StringBuilder_ (own_k hby 5 (.invokevirtual 23) 3)
  obtain ⟨rfl, N994q, K994, EQ994, Fv994, Fc994, Fn994, Eb994, Vb994⟩ := hQ994
  have N994 := Fr.app N985 N994q
  have KK994 : Keep h0 T994.heap [q, bv] := KK985.trans K994 (allS (Or.inl (by simp)) (allS (Or.inl (by simp)) all0))
  have S995 : Ga T994 (mkF m 8 #[vR q, vR r] [(.ref q)]) := nx S984 fun t kt => st985 t (st994 t kt)
  refine ⟨T994, _, some (.ref q), _, _, _, X994, og S995, fun h => (nomatch hret.symm.trans h), by decide, by decide, ?_, fun fs hr => retOut X994 hx hret rfl (Or.inr (Or.inr (Or.inr (Or.inr ⟨rfl, rfl, rfl⟩)))) (own_k hby 8 (.areturn) 1) hr⟩
  show Q_sao1 Z q bv k vs cu h0 n0 _ T994.heap _
  exact ⟨rfl, N994, KK994, EQ994, Fv994, Fc994, Fn994, Eb994, Vb994⟩
abbrev R_vob2 : Room := { frames := 7, cells := 5, slots := 128, locals := 106 }
def Q_vob2 (Z : State) (cu : Int32) (cv : Int32) (h0 : Heap) (n0 : Nat) (v : Option Value) (h : Heap) (L : List Loc) : Prop := ∃ (a b : Addr) (k' : ClassId), v = some (.ref a) ∧ Fr n0 L ∧ Keep h0 h [] ∧ h0.size ≤ a ∧ h0.size ≤ b ∧ own_Str Z h a b k' (6 : Int32) (own_vs [91, cu, 44, 32, cv, 93])
theorem rm_vob2 {l : Launch} {Z : State} {a0 : Array Value} (hw : own_W a0 Z) (no : Nat) (de : Addr) (em : Addr) (el : Addr) (ey : Addr) (r : Addr) (u : Addr) (v' : Addr) (ub : Addr) (uk : ClassId) (cu : Int32) (vb : Addr) (vk : ClassId) (cv : Int32) (h0 : Heap) (n0 : Nat) (Z0 : n0 ≤ h0.size) (SS : own_St Z de em el ey) (hno : no ≤ n0) (O0 : Old Z no h0) (HL : own_L Z h0 r (.ref u) (.ref v')) (HSu : own_Str Z h0 u ub uk (1 : Int32) (own_vs [cu])) (HSv : own_Str Z h0 v' vb vk (1 : Int32) (own_vs [cv])) : own_Met l y50 jdk_42_method_133_code 1 (some (.object "java/lang/String")) R_vob2 Z h0 #[(.ref r)] (Q_vob2 Z cu cv h0 n0) := by
  refine own_body (plainFor_of_name pn_sts) fun p e s m below meth c s₁ hlk hret hnm hx hby hml hown hZ X0 e0 => ?_
  have N0 := Fr.nil n0
  obtain ⟨Ga, Sa, nx, og⟩ := own_ga (p := p) (e := e) (below := below) s₁ (eF_2 m r)
  have S0 : Ga s₁ (mkF m 0 #[vR r] []) := nx Sa fun t k => castTop (ef_2 m r) k
  obtain ⟨⟨cz, S_cs, hcz⟩, -⟩ := id SS
  obtain ⟨El, F0, F1⟩ := HL
  obtain ⟨Eu, Fu, Gu, Vu⟩ := HSu
  obtain ⟨Ev', Fv', Gv', Vv'⟩ := HSv
  have S996 : Ga s₁ (mkF m 11 #[vR r] [(.ref r)]) := nx S0 fun t kt => by
    refine xa X0.here hx hby 0 0 rfl ?_
    refine XS.ifnonnullYes X0.here hx rfl (pc0 := 1) (pc' := 10) rfl (own_k hby 1 (.ifnonnull 9) 3) rfl (by decide) (by decide) ?_
    refine xa X0.here hx hby 10 0 rfl ?_
    exact kt
  obtain ⟨v997, T997, L997, X997, hQ997, st997⟩ := own_cV X0 hx hZ hw hown hml 309 310 312 313 314 47 rfl rfl rfl rfl rfl rfl (own_nfO (args := #[]) (mv hZ (own_h hw 128 rfl))) El (rm_acs2 hw no de em el ey r u v' ub uk cu vb vk cv h0 n0 Z0 SS hno O0 ⟨El, F0, F1⟩ ⟨Eu, Fu, Gu, Vu⟩ ⟨Ev', Fv', Gv', Vv'⟩) e0 (W := 0) (g := (mkF m 11 #[vR r] [(.ref r)])) rfl (argsL := []) (rest := []) pd___Ljava_lang_String_ (own_k hby 11 (.invokevirtual 1007) 3)
  obtain ⟨a1, b1, kb997, rfl, N997q, K997, sz_a1, sz_b1, E997, F997, G997, V997⟩ := hQ997
  have N997 := Fr.app N0 N997q
  have KK997 : Keep h0 T997.heap [] := (Keep.refl h0 []).trans K997 all0
  have S998 : Ga T997 (mkF m 14 #[vR r] [(.ref a1)]) := nx S996 fun t kt => st997 t kt
  refine ⟨T997, _, some (.ref a1), _, _, _, X997, og S998, fun h => (nomatch hret.symm.trans h), by decide, by decide, ?_, fun fs hr => retOut X997 hx hret rfl (Or.inr (Or.inr (Or.inr (Or.inr ⟨rfl, rfl, rfl⟩)))) (own_k hby 14 (.areturn) 1) hr⟩
  show Q_vob2 Z cu cv h0 n0 _ T997.heap _
  exact ⟨a1, b1, kb997, rfl, N997, KK997, sz_a1, sz_b1, E997, F997, G997, V997⟩
abbrev R_sao2 : Room := { frames := 8, cells := 5, slots := 128, locals := 119 }
def Q_sao2 (Z : State) (q : Addr) (bv : Addr) (k : ClassId) (vs : List Value)(cu : Int32) (cv : Int32) (h0 : Heap) (n0 : Nat) (v : Option Value) (h : Heap) (L : List Loc) : Prop := v = some (.ref q) ∧ Fr n0 L ∧ Keep h0 h [q, bv] ∧ own_SB Z h q bv k (34 : Int32) (vs.take 27 ++ (own_vs [91, cu, 44, 32, cv, 93]) ++ vs.drop (27 + 6)) (33 : Int32)
theorem rm_sao2 {l : Launch} {Z : State} {a0 : Array Value} (hw : own_W a0 Z) (no : Nat) (de : Addr) (em : Addr) (el : Addr) (ey : Addr)(q : Addr) (bv : Addr) (k : ClassId) (vs : List Value) (r : Addr) (u : Addr) (v' : Addr) (ub : Addr) (uk : ClassId) (cu : Int32) (vb : Addr) (vk : ClassId) (cv : Int32) (h0 : Heap) (n0 : Nat) (Z0 : n0 ≤ h0.size) (SS : own_St Z de em el ey) (hno : no ≤ n0) (O0 : Old Z no h0) (HB : own_SB Z h0 q bv k (34 : Int32) vs (27 : Int32)) (HL : own_L Z h0 r (.ref u) (.ref v')) (HSu : own_Str Z h0 u ub uk (1 : Int32) (own_vs [cu])) (HSv : own_Str Z h0 v' vb vk (1 : Int32) (own_vs [cv])) (g_q : n0 ≤ q) (g_bv : n0 ≤ bv) (hvl : vs.length = 34) : own_Met l y49 jdk_67_method_6_code 2 (some (.object "java/lang/StringBuilder")) R_sao2 Z h0 #[(.ref q), (.ref r)] (Q_sao2 Z q bv k vs cu cv h0 n0) := by
  refine own_body (plainFor_of_name pn_sba) fun p e s m below meth c s₁ hlk hret hnm hx hby hml hown hZ X0 e0 => ?_
  have N0 := Fr.nil n0
  obtain ⟨Ga, Sa, nx, og⟩ := own_ga (p := p) (e := e) (below := below) s₁ (eF_6 m q r)
  have S0 : Ga s₁ (mkF m 0 #[vR q, vR r] []) := nx Sa fun t k => castTop (ef_6 m q r) k
  obtain ⟨⟨cz, S_cs, hcz⟩, -⟩ := id SS
  obtain ⟨EQ, Fv, Fc, Fn, Eb, Vb⟩ := HB
  obtain ⟨El, F0, F1⟩ := HL
  obtain ⟨Eu, Fu, Gu, Vu⟩ := HSu
  obtain ⟨Ev', Fv', Gv', Vv'⟩ := HSv
  have S999 : Ga s₁ (mkF m 2 #[vR q, vR r] [(.ref r), (.ref q)]) := nx S0 fun t kt => by
    refine xa X0.here hx hby 0 0 rfl ?_
    refine xa X0.here hx hby 1 1 rfl ?_
    exact kt
  obtain ⟨v1000, T1000, L1000, X1000, hQ1000, st1000⟩ := own_cS X0 hx hZ hw hown hml 306 307 308 3 rfl rfl rfl rfl (rm_vob2 hw no de em el ey r u v' ub uk cu vb vk cv h0 n0 Z0 SS hno O0 ⟨El, F0, F1⟩ ⟨Eu, Fu, Gu, Vu⟩ ⟨Ev', Fv', Gv', Vv'⟩) e0 (W := 1) (g := (mkF m 2 #[vR q, vR r] [(.ref r), (.ref q)])) rfl (argsL := [(.ref r)]) (rest := [(.ref q)]) pd__Ljava_lang_Object__Ljava_lang_String_ (own_k hby 2 (.invokestatic 17) 3)
  obtain ⟨a1, b1, kb1000, rfl, N1000q, K1000, sz_a1, sz_b1, E1000, F1000, G1000, V1000⟩ := hQ1000
  have N1000 := Fr.app N0 N1000q
  have KK1000 : Keep h0 T1000.heap [q, bv] := (Keep.refl h0 [q, bv]).trans K1000 all0
  have f1001 := (O0.keep K1000 all0)
  have f1002 := (EQ.keep K1000)
  have f1003 := (Fv.keep K1000 nin0)
  have f1004 := (Fc.keep K1000 nin0)
  have f1005 := (Fn.keep K1000 nin0)
  have f1006 := (Eb.keep K1000)
  have f1007 := (Vb.keep K1000 nin0)
  have z1008 := (Nat.le_trans Z0 K1000.1)
  obtain ⟨v1009, T1009, L1009, X1009, hQ1009, st1009⟩ := own_cV1 X1000 hx hZ hw hown hml 391 242 244 243 245 222 rfl rfl rfl rfl rfl rfl f1002 (rm_sba hw no de em el ey q bv k 34 vs 27 a1 b1 kb1000 6 (own_vs [91, cu, 44, 32, cv, 93]) T1000.heap n0 z1008 SS hno f1001 ⟨f1002, f1003, f1004, f1005, f1006, f1007⟩ ⟨E1000, F1000, G1000, V1000⟩ g_q g_bv (by decide) (by decide) hvl rfl) rfl (W := 0) (g := (mkF m 5 #[vR q, vR r] [(.ref a1), (.ref q)])) rfl (argsL := [(.ref a1)]) (rest := []) pd__Ljava_lang_String__Ljava_lang_StringBuilder_ (own_k hby 5 (.invokevirtual 23) 3)
  obtain ⟨rfl, N1009q, K1009, EQ1009, Fv1009, Fc1009, Fn1009, Eb1009, Vb1009⟩ := hQ1009
  have N1009 := Fr.app N1000 N1009q
  have KK1009 : Keep h0 T1009.heap [q, bv] := KK1000.trans K1009 (allS (Or.inl (by simp)) (allS (Or.inl (by simp)) all0))
  have S1010 : Ga T1009 (mkF m 8 #[vR q, vR r] [(.ref q)]) := nx S999 fun t kt => st1000 t (st1009 t kt)
  refine ⟨T1009, _, some (.ref q), _, _, _, X1009, og S1010, fun h => (nomatch hret.symm.trans h), by decide, by decide, ?_, fun fs hr => retOut X1009 hx hret rfl (Or.inr (Or.inr (Or.inr (Or.inr ⟨rfl, rfl, rfl⟩)))) (own_k hby 8 (.areturn) 1) hr⟩
  show Q_sao2 Z q bv k vs cu cv h0 n0 _ T1009.heap _
  exact ⟨rfl, N1009, KK1009, EQ1009, Fv1009, Fc1009, Fn1009, Eb1009, Vb1009⟩
abbrev R_acs0 : Room := { frames := 3, cells := 3, slots := 16, locals := 39 }
def Q_acs0 (Z : State) (Ts : List String) (h0 : Heap) (n0 : Nat) (v : Option Value) (vm : Vm) (h : Heap) (L : List Loc) : Prop := ∃ (a b : Addr) (k' : ClassId), v = some (.ref a) ∧ Fr n0 L ∧ Keep h0 h [] ∧ IB Z vm ("[]" :: Ts) ∧ own_Str Z h a b k' (2 : Int32) (own_vs [91, 93])
theorem rm_acs0 {l : Launch} {Z : State} {a0 : Array Value} (hw : own_W a0 Z) (no : Nat) (de : Addr) (em : Addr) (el : Addr) (ey : Addr)(Ts : List String) (h0 : Heap) (n0 : Nat) (Z0 : n0 ≤ h0.size) (SS : own_St Z de em el ey) (hno : no ≤ n0) (O0 : Old Z no h0) (hc0 : Jvm.Lit.constHeld Z "java/util/AbstractCollection" 92) (hcw : Jvm.Lit.compactW.before a0 Z = true) (hnot : "[]" ∉ Ts) (hn0 : n0 = h0.size) :
    MetFree l y51 (head1 [Jvm.Cond.code y51 jdk_22_method_16_code 4 (some (.object "java/lang/String"))] R_acs0) (fun aa U => aa = #[(.ref em)] ∧ Z.Warmed39 U.vm ∧ U.heap = h0 ∧ IB Z U.vm Ts) (fun _ _ _ _ _ => True) (fun _ U o U' => ∃ v L, o = .returned v ∧ Q_acs0 Z Ts h0 n0 v U'.vm U'.heap L ∧ ReturnedEndW U o U' L R_acs0.cells R_acs0.slots) := by
  refine MetFree.of_bodySF (plainFor_of_name pn_abi) hisR ?_
  intro p e s m args below meth c s₁ Bd hml0 hP hK
  obtain ⟨rfl, hZ, hh, hPv⟩ := hP
  have hx := Bd.exec
  have hby := Bd.bytes
  have hml : c.maxLocals = 4 := hml0
  have hown : s.vm.findClass "java/util/AbstractCollection" = some m.cls := findClass_of_methodNamed Bd.named
  have hnm := (name_of_methodNamed Bd.named Bd.method).1
  have X0 : Stand p l e R_acs0 (s.setVm s.vm) m #[(.ref em)] below meth c s₁ [] 0 0 := Stand.of_body Bd
  have e0 : s₁.heap = h0 := by rw [← hh, Bd.state]; rfl
  have N0 := Fr.nil n0
  obtain ⟨Ga, Sa, nx, og⟩ := own_ga (p := p) (e := e) (below := below) s₁ (eF_22 m em)
  have S0 : Ga s₁ (mkF m 0 #[vR em, vU, vU, vU] []) := nx Sa fun t k => castTop (ef_22 m em) k
  have hZ : Z.Warmed39 (s.setVm s.vm).vm := hZ
  have hown : (s.setVm s.vm).vm.findClass "java/util/AbstractCollection" = some m.cls := hown
  have hS : s.Since s.vm 0 := (State.WarmedH.refl s).since 0
  have hki0 := Nat.zero_le h0.size
  obtain ⟨⟨cz, S_cs, hcz⟩, ⟨kde, S_de, E_de, V_de⟩, ⟨kel, S_em, E_em, F_em, V_el⟩, S_ey, E_ey⟩ := id SS
  have S1011 : Ga s₁ (mkF m 1 #[vR em, vU, vU, vU] [(.ref em)]) := nx S0 fun t kt => by
    refine xa X0.here hx hby 0 0 rfl ?_
    exact kt
  obtain ⟨v1012, T1012, L1012, X1012, hQ1012, st1012⟩ := own_cV X0 hx hZ hw hown hml 315 316 450 318 319 183 rfl rfl rfl rfl rfl rfl (own_nfC (args := #[]) (mv hZ (own_h hw 127 rfl))) (E_em.ext O0.2) (rm_itr0 hw no de em el ey h0 n0 Z0 SS hno O0) e0 (W := 0) (g := (mkF m 1 #[vR em, vU, vU, vU] [(.ref em)])) rfl (argsL := []) (rest := []) pd___Ljava_util_Iterator_ (own_k hby 1 (.invokevirtual 13) 3)
  obtain ⟨it, rfl, N1012q, K1012, szi1012, ⟨Ei1012, Fl1012, Fz1012, Fk1012⟩⟩ := hQ1012
  have N1012 := Fr.app N0 N1012q
  have KK1012 : Keep h0 T1012.heap [] := (Keep.refl h0 []).trans K1012 all0
  have sz_it : h0.size ≤ it := Nat.le_trans (Keep.refl h0 []).1 szi1012
  have S1013 : Ga T1012 (mkF m 6 #[vR em, vR it, vU, vU] [(.ref it)]) := nx S1011 fun t kt => st1012 t (by
    show Sp p e below T1012 (mkF m 4 #[vR em, vU, vU, vU] [(.ref it)]) _
    refine XS.astoreN X1012.here hx rfl (own_k hby 4 (.astore_n 1) 1) rfl rfl (l' := #[vR em, vR it, vU, vU]) rfl ?_
    refine xa X1012.here hx hby 5 1 rfl ?_
    exact kt)
  have z1014 := (Nat.le_trans Z0 K1012.1)
  obtain ⟨cq1015, kq1015, q1015a, q1015b, q1015c⟩ := isOf hZ rfl Ei1012
  obtain ⟨v1015, T1015, L1015, X1015, hQ1015, st1015⟩ := own_outV (X1012.interfaceBack hx (xi := (⟨"java/util/Iterator", "hasNext", "()Z"⟩ : MethodName)) (y := y55) hown (own_t hZ hw 343 rfl) (own_t hZ hw 344 rfl) (own_t hZ hw 345 rfl) (own_t hZ hw 346 rfl) (own_t hZ hw 347 rfl) (own_t hZ hw 348 rfl) (own_t hZ hw 349 rfl) (own_t hZ hw 350 rfl) (by decide) (backOf (W := 0) (rm_hno hw it em (0 : Int32) (0 : Int32) T1012.heap n0 z1014 ⟨Ei1012, Fl1012, Fz1012, Fk1012⟩ rfl) hZ (own_h hw 351 rfl) (own_h hw 322 rfl) (by decide) (by decide)) q1015a q1015b q1015c (g := (mkF m 6 #[vR em, vR it, vU, vU] [(.ref it)])) rfl (by rw [hml]; rfl) (Steps.refl _) (argsL := []) (rest := []) (lenOf pd___Z rfl) rfl (own_w rfl) (own_k hby 6 (.invokeinterface 17 1) 5) (fun _ _ => ⟨rfl, rfl, (by decide : 1 + 0 ≤ _), (by decide : 4 + 0 ≤ _)⟩))
  obtain ⟨rfl, N1015q, e1015⟩ := hQ1015
  have N1015 := Fr.app N1012 N1015q
  have S1016 : Ga T1015 (mkF m 14 #[vR em, vR it, vU, vU] []) := nx S1013 fun t kt => st1015 t (by
    show Sp p e below T1015 (mkF m 11 #[vR em, vR it, vU, vU] [(.int 0)]) _
    refine XS.ifNo X1015.here hx rfl (own_k hby 11 (.ifCond .ne 6) 3) rfl ((if0 _ _).trans (teq (show (0 : Int32) = (0 : Int32) from (by decide))).2) ?_
    exact kt)
  obtain ⟨l0, T1017, h1017, ki1017, lb0, kb1017, X1017, e1017, E1017, hS, hki1017, hZ, hown, Es1017, Fs1017, Gs1017, Vs1017, -, -, hIB, hLit1017, st1017⟩ := ldcSVL X1015 hx hZ hown (own_h hw 457 rfl) (fun d hd => hw d (own_wS d hd)) e1015 hS (Nat.le_trans hki0 K1012.1) (by rw [hh, ← hn0]; exact N1015) (fun b cl q => by rw [hh]; exact O0.2.2 b cl q) hPv hnot hc0 hcw (vs := (own_vs [91, 93])) (z := (2 : Int32)) own_ht0 (by decide) rfl (g := (mkF m 14 #[vR em, vR it, vU, vU] [])) rfl (own_k hby 14 (.ldc 92) 2) (n := 8) (by decide +kernel) (by decide) (by decide) (by decide)
  have K1017 : Keep h0 h1017 [] := KK1012.ext E1017
  have S1018 : Ga T1017 (mkF m 16 #[vR em, vR it, vU, vU] [(.ref l0)]) := nx S1016 fun t kt => st1017 t kt
  obtain ⟨fs, hr, hrun, hended, hRE⟩ := X1017.leaveW hS (n := _) (by rw [e1017]; exact hki1017) (v := some (.ref l0)) (fun h => by first | rfl | (rw [Bd.returns] at h; cases h))
  refine ⟨_, _, (og S1018) _ ?_, hrun, hended, _, _, rfl, ?_, hRE.1, hRE.2.1, hRE.2.2.1, hRE.2.2.2.mono (by decide) (by decide)⟩
  · exact retOut X1017 hx Bd.returns rfl (Or.inr (Or.inr (Or.inr (Or.inr ⟨rfl, rfl, rfl⟩)))) (own_k hby 16 (.areturn) 1) hr
  · show Q_acs0 Z Ts h0 n0 _ T1017.vm T1017.heap _
    rw [e1017]
    exact ⟨l0, lb0, kb1017, rfl, N1015, K1017, own_ib2 hIB X1017, Es1017, Fs1017, Gs1017, Vs1017⟩
abbrev R_vob0 : Room := { frames := 4, cells := 3, slots := 16, locals := 54 }
def Q_vob0 (Z : State) (Ts : List String) (h0 : Heap) (n0 : Nat) (v : Option Value) (vm : Vm) (h : Heap) (L : List Loc) : Prop := ∃ (a b : Addr) (k' : ClassId), v = some (.ref a) ∧ Fr n0 L ∧ Keep h0 h [] ∧ IB Z vm ("[]" :: Ts) ∧ own_Str Z h a b k' (2 : Int32) (own_vs [91, 93])
theorem rm_vob0 {l : Launch} {Z : State} {a0 : Array Value} (hw : own_W a0 Z) (no : Nat) (de : Addr) (em : Addr) (el : Addr) (ey : Addr)(Ts : List String) (h0 : Heap) (n0 : Nat) (Z0 : n0 ≤ h0.size) (SS : own_St Z de em el ey) (hno : no ≤ n0) (O0 : Old Z no h0) (hc0 : Jvm.Lit.constHeld Z "java/util/AbstractCollection" 92) (hcw : Jvm.Lit.compactW.before a0 Z = true) (hnot : "[]" ∉ Ts) :
    MetFree l y50 (head1 [Jvm.Cond.code y50 jdk_42_method_133_code 1 (some (.object "java/lang/String"))] R_vob0) (fun aa U => aa = #[(.ref em)] ∧ Z.Warmed39 U.vm ∧ U.heap = h0 ∧ IB Z U.vm Ts) (fun _ _ _ _ _ => True) (fun _ U o U' => ∃ v L, o = .returned v ∧ Q_vob0 Z Ts h0 n0 v U'.vm U'.heap L ∧ ReturnedEndW U o U' L R_vob0.cells R_vob0.slots) := by
  refine MetFree.of_bodySF (plainFor_of_name pn_sts) hisR ?_
  intro p e s m args below meth c s₁ Bd hml0 hP hK
  obtain ⟨rfl, hZ, hh, hPv⟩ := hP
  have hx := Bd.exec
  have hby := Bd.bytes
  have hml : c.maxLocals = 1 := hml0
  have hown : s.vm.findClass "java/lang/String" = some m.cls := findClass_of_methodNamed Bd.named
  have hnm := (name_of_methodNamed Bd.named Bd.method).1
  have X0 : Stand p l e R_vob0 (s.setVm s.vm) m #[(.ref em)] below meth c s₁ [] 0 0 := Stand.of_body Bd
  have e0 : s₁.heap = h0 := by rw [← hh, Bd.state]; rfl
  have N0 := Fr.nil n0
  obtain ⟨Ga, Sa, nx, og⟩ := own_ga (p := p) (e := e) (below := below) s₁ (eF_2 m em)
  have S0 : Ga s₁ (mkF m 0 #[vR em] []) := nx Sa fun t k => castTop (ef_2 m em) k
  have hZ : Z.Warmed39 (s.setVm s.vm).vm := hZ
  have hown : (s.setVm s.vm).vm.findClass "java/lang/String" = some m.cls := hown
  have hS : s.Since s.vm 0 := (State.WarmedH.refl s).since 0
  have hki0 := Nat.zero_le h0.size
  obtain ⟨⟨cz, S_cs, hcz⟩, ⟨kde, S_de, E_de, V_de⟩, ⟨kel, S_em, E_em, F_em, V_el⟩, S_ey, E_ey⟩ := id SS
  have S1019 : Ga s₁ (mkF m 11 #[vR em] [(.ref em)]) := nx S0 fun t kt => by
    refine xa X0.here hx hby 0 0 rfl ?_
    refine XS.ifnonnullYes X0.here hx rfl (pc0 := 1) (pc' := 10) rfl (own_k hby 1 (.ifnonnull 9) 3) rfl (by decide) (by decide) ?_
    refine xa X0.here hx hby 10 0 rfl ?_
    exact kt
  obtain ⟨cq1020, kq1020, q1020a, q1020b, q1020c⟩ := isOf hZ e0 (E_em.ext O0.2)
  obtain ⟨v1020, T1020, L1020, X1020, hQ1020, hS, hgr1020, hZ, hown, st1020⟩ := own_outSS hS (by rw [e0]; exact hki0) hZ hown (X0.virtualBackS hx (y := (⟨"java/lang/Object", "toString", "()Ljava/lang/String;"⟩ : MethodName)) (z := y51) hown (own_t hZ hw 309 rfl) (own_t hZ hw 310 rfl) (own_nfO (args := #[]) (mv hZ (own_h hw 128 rfl))) (own_t hZ hw 449 rfl) (own_t hZ hw 313 rfl) (by decide) (own_backS (W := 0) (Pv := fun U => IB Z U.vm Ts) (rm_acs0 hw no de em el ey Ts h0 h0.size (Nat.le_refl _) SS (Nat.le_trans hno Z0) O0 hc0 hcw hnot rfl) hZ (own_h hw 314 rfl) (own_h hw 47 rfl) (by decide) (by decide) (own_ibU hPv)) q1020a q1020c (g := (mkF m 11 #[vR em] [(.ref em)])) rfl (by rw [hml]; rfl) (Steps.refl _) (argsL := []) (rest := []) (lenOf pd___Ljava_lang_String_ rfl) rfl (own_w rfl) (own_k hby 11 (.invokevirtual 1007) 3) (fun _ _ => ⟨rfl, e0, (by decide : 0 + 3 ≤ _), (by decide : 0 + 16 ≤ _)⟩))
  obtain ⟨a1, b1, kb1020, rfl, N1020q, K1020, hIB, E1020, F1020, G1020, V1020⟩ := hQ1020
  have N1020 := Fr.app N0 (own_frm Z0 N1020q)
  have KK1020 : Keep h0 T1020.heap [] := (Keep.refl h0 []).trans K1020 all0
  have hki1020 := Nat.le_refl T1020.heap.size
  have S1021 : Ga T1020 (mkF m 14 #[vR em] [(.ref a1)]) := nx S1019 fun t kt => st1020 t kt
  obtain ⟨fs, hr, hrun, hended, hRE⟩ := X1020.leaveW hS (n := _) hki1020 (v := some (.ref a1)) (fun h => by first | rfl | (rw [Bd.returns] at h; cases h))
  refine ⟨_, _, (og S1021) _ ?_, hrun, hended, _, _, rfl, ?_, hRE.1, hRE.2.1, hRE.2.2.1, hRE.2.2.2.mono (by decide) (by decide)⟩
  · exact retOut X1020 hx Bd.returns rfl (Or.inr (Or.inr (Or.inr (Or.inr ⟨rfl, rfl, rfl⟩)))) (own_k hby 14 (.areturn) 1) hr
  · show Q_vob0 Z Ts h0 n0 _ T1020.vm T1020.heap _
    exact ⟨a1, b1, kb1020, rfl, N1020, KK1020, own_ib2 hIB X1020, E1020, F1020, G1020, V1020⟩
abbrev R_sao0 : Room := { frames := 5, cells := 3, slots := 16, locals := 74 }
def Q_sao0 (Z : State) (q : Addr) (bv : Addr) (k : ClassId) (vs : List Value)(Ts : List String) (h0 : Heap) (n0 : Nat) (v : Option Value) (vm : Vm) (h : Heap) (L : List Loc) : Prop := v = some (.ref q) ∧ Fr n0 L ∧ Keep h0 h [q, bv] ∧ IB Z vm ("[]" :: Ts) ∧ own_SB Z h q bv k (34 : Int32) (vs.take 27 ++ (own_vs [91, 93]) ++ vs.drop (27 + 2)) (29 : Int32)
theorem rm_sao0 {l : Launch} {Z : State} {a0 : Array Value} (hw : own_W a0 Z) (no : Nat) (de : Addr) (em : Addr) (el : Addr) (ey : Addr)(q : Addr) (bv : Addr) (k : ClassId) (vs : List Value)(Ts : List String) (h0 : Heap) (n0 : Nat) (Z0 : n0 ≤ h0.size) (SS : own_St Z de em el ey) (hno : no ≤ n0) (O0 : Old Z no h0) (HB : own_SB Z h0 q bv k (34 : Int32) vs (27 : Int32)) (g_q : n0 ≤ q) (g_bv : n0 ≤ bv) (hvl : vs.length = 34) (hc0 : Jvm.Lit.constHeld Z "java/util/AbstractCollection" 92) (hcw : Jvm.Lit.compactW.before a0 Z = true) (hnot : "[]" ∉ Ts) :
    MetFree l y49 (head1 [Jvm.Cond.code y49 jdk_67_method_6_code 2 (some (.object "java/lang/StringBuilder"))] R_sao0) (fun aa U => aa = #[(.ref q), (.ref em)] ∧ Z.Warmed39 U.vm ∧ U.heap = h0 ∧ IB Z U.vm Ts) (fun _ _ _ _ _ => True) (fun _ U o U' => ∃ v L, o = .returned v ∧ Q_sao0 Z q bv k vs Ts h0 n0 v U'.vm U'.heap L ∧ ReturnedEndW U o U' L R_sao0.cells R_sao0.slots) := by
  refine MetFree.of_bodySF (plainFor_of_name pn_sba) hisR ?_
  intro p e s m args below meth c s₁ Bd hml0 hP hK
  obtain ⟨rfl, hZ, hh, hPv⟩ := hP
  have hx := Bd.exec
  have hby := Bd.bytes
  have hml : c.maxLocals = 2 := hml0
  have hown : s.vm.findClass "java/lang/StringBuilder" = some m.cls := findClass_of_methodNamed Bd.named
  have hnm := (name_of_methodNamed Bd.named Bd.method).1
  have X0 : Stand p l e R_sao0 (s.setVm s.vm) m #[(.ref q), (.ref em)] below meth c s₁ [] 0 0 := Stand.of_body Bd
  have e0 : s₁.heap = h0 := by rw [← hh, Bd.state]; rfl
  have N0 := Fr.nil n0
  obtain ⟨Ga, Sa, nx, og⟩ := own_ga (p := p) (e := e) (below := below) s₁ (eF_6 m q em)
  have S0 : Ga s₁ (mkF m 0 #[vR q, vR em] []) := nx Sa fun t k => castTop (ef_6 m q em) k
  have hZ : Z.Warmed39 (s.setVm s.vm).vm := hZ
  have hown : (s.setVm s.vm).vm.findClass "java/lang/StringBuilder" = some m.cls := hown
  have hS : s.Since s.vm 0 := (State.WarmedH.refl s).since 0
  have hki0 := Nat.zero_le h0.size
  obtain ⟨⟨cz, S_cs, hcz⟩, ⟨kde, S_de, E_de, V_de⟩, ⟨kel, S_em, E_em, F_em, V_el⟩, S_ey, E_ey⟩ := id SS
  obtain ⟨EQ, Fv, Fc, Fn, Eb, Vb⟩ := HB
  have S1022 : Ga s₁ (mkF m 2 #[vR q, vR em] [(.ref em), (.ref q)]) := nx S0 fun t kt => by
    refine xa X0.here hx hby 0 0 rfl ?_
    refine xa X0.here hx hby 1 1 rfl ?_
    exact kt
  obtain ⟨v1023, T1023, L1023, X1023, hQ1023, hS, hgr1023, hZ, hown, st1023⟩ := own_outSS hS (by rw [e0]; exact hki0) hZ hown (Jvm.RoadKit.callSS X0 hx (y := y50) hown (own_t hZ hw 306 rfl) (own_t hZ hw 307 rfl) (own_t hZ hw 3 rfl) (own_t hZ hw 308 rfl) (by decide) (own_backS (W := 1) (Pv := fun U => IB Z U.vm Ts) (rm_vob0 hw no de em el ey Ts h0 n0 Z0 SS hno O0 hc0 hcw hnot) hZ (own_h hw 308 rfl) (own_h hw 3 rfl) (by decide) (by decide) (own_ibU hPv)) (g := (mkF m 2 #[vR q, vR em] [(.ref em), (.ref q)])) rfl (by rw [hml]; rfl) (argsL := [(.ref em)]) (rest := [(.ref q)]) (lenOf pd__Ljava_lang_Object__Ljava_lang_String_ rfl) rfl (own_w rfl) (own_k hby 2 (.invokestatic 17) 3) (fun _ _ => ⟨rfl, e0, (by decide : 0 + 3 ≤ _), (by decide : 0 + 16 ≤ _)⟩))
  obtain ⟨a1, b1, kb1023, rfl, N1023q, K1023, hIB, E1023, F1023, G1023, V1023⟩ := hQ1023
  have N1023 := Fr.app N0 N1023q
  have KK1023 : Keep h0 T1023.heap [q, bv] := (Keep.refl h0 [q, bv]).trans K1023 all0
  have hki1023 := Nat.le_refl T1023.heap.size
  have f1024 := (O0.keep K1023 all0)
  have f1025 := (EQ.keep K1023)
  have f1026 := (Fv.keep K1023 nin0)
  have f1027 := (Fc.keep K1023 nin0)
  have f1028 := (Fn.keep K1023 nin0)
  have f1029 := (Eb.keep K1023)
  have f1030 := (Vb.keep K1023 nin0)
  have z1031 := (Nat.le_trans Z0 K1023.1)
  obtain ⟨v1032, T1032, L1032, X1032, hQ1032, st1032⟩ := own_cV1 X1023 hx hZ hw hown hml 391 242 244 243 245 222 rfl rfl rfl rfl rfl rfl f1025 (rm_sba hw no de em el ey q bv k 34 vs 27 a1 b1 kb1023 2 (own_vs [91, 93]) T1023.heap n0 z1031 SS hno f1024 ⟨f1025, f1026, f1027, f1028, f1029, f1030⟩ ⟨E1023, F1023, G1023, V1023⟩ g_q g_bv (by decide) (by decide) hvl rfl) rfl (W := 0) (g := (mkF m 5 #[vR q, vR em] [(.ref a1), (.ref q)])) rfl (argsL := [(.ref a1)]) (rest := []) pd__Ljava_lang_String__Ljava_lang_StringBuilder_ (own_k hby 5 (.invokevirtual 23) 3)
  obtain ⟨rfl, N1032q, K1032, EQ1032, Fv1032, Fc1032, Fn1032, Eb1032, Vb1032⟩ := hQ1032
  have N1032 := Fr.app N1023 N1032q
  have KK1032 : Keep h0 T1032.heap [q, bv] := KK1023.trans K1032 (allS (Or.inl (by simp)) (allS (Or.inl (by simp)) all0))
  have S1033 : Ga T1032 (mkF m 8 #[vR q, vR em] [(.ref q)]) := nx S1022 fun t kt => st1023 t (st1032 t kt)
  obtain ⟨fs, hr, hrun, hended, hRE⟩ := X1032.leaveW hS (n := _) (Nat.le_trans hki1023 K1032.1) (v := some (.ref q)) (fun h => by first | rfl | (rw [Bd.returns] at h; cases h))
  refine ⟨_, _, (og S1033) _ ?_, hrun, hended, _, _, rfl, ?_, hRE.1, hRE.2.1, hRE.2.2.1, hRE.2.2.2.mono (by decide) (by decide)⟩
  · exact retOut X1032 hx Bd.returns rfl (Or.inr (Or.inr (Or.inr (Or.inr ⟨rfl, rfl, rfl⟩)))) (own_k hby 8 (.areturn) 1) hr
  · show Q_sao0 Z q bv k vs Ts h0 n0 _ T1032.vm T1032.heap _
    exact ⟨rfl, N1032, KK1032, own_ib2 hIB X1032, EQ1032, Fv1032, Fc1032, Fn1032, Eb1032, Vb1032⟩
abbrev R_cts0 : Room := { frames := 6, cells := 14, slots := 290, locals := 91 }
theorem pn_cts0 : plainName "com/example/passlane/passlane/oidc/Client" = true := by first | (simp [plainName, overriddenIn]; done) | decide +kernel
def Q_cts0 (Z : State) (ca : Int32) (cb : Int32) (h0 : Heap) (n0 : Nat) (v : Option Value) (vm : Vm) (h : Heap) (L : List Loc) : Prop := ∃ (a b : Addr) (k' : ClassId), v = some (.ref a) ∧ Fr n0 L ∧ Keep h0 h [] ∧ h0.size ≤ a ∧ h0.size ≤ b ∧ own_Str Z h a b k' (30 : Int32) (own_vs [67, 108, 105, 101, 110, 116, 91, 105, 100, 61, ca, cb, 44, 32, 114, 101, 100, 105, 114, 101, 99, 116, 85, 114, 105, 115, 61, 91, 93, 93])
theorem rm_cts0 {l : Launch} {Z : State} {a0 : Array Value} (hw : own_W a0 Z) (no : Nat) (de : Addr) (em : Addr) (el : Addr) (ey : Addr) (x : Addr) (a : Addr) (ab : Addr) (ak : ClassId) (ca : Int32) (cb : Int32) (h0 : Heap) (n0 : Nat) (Z0 : n0 ≤ h0.size) (SS : own_St Z de em el ey) (hno : no ≤ n0) (O0 : Old Z no h0) (Fi : Fld Z h0 x "com/example/passlane/passlane/oidc/Client" "id" "Ljava/lang/String;" (.ref a)) (Fr_ : Fld Z h0 x "com/example/passlane/passlane/oidc/Client" "redirectUris" "Ljava/util/List;" (.ref em)) (HS : own_Str Z h0 a ab ak (2 : Int32) (own_vs [ca, cb])) (hc1 : Jvm.Lit.constHeld Z "com/example/passlane/passlane/oidc/Client" 59) (hc2 : Jvm.Lit.constHeld Z "com/example/passlane/passlane/oidc/Client" 65) (hc3 : Jvm.Lit.constHeld Z "com/example/passlane/passlane/oidc/Client" 70) (hc0 : Jvm.Lit.constHeld Z "java/util/AbstractCollection" 92) (hcw : Jvm.Lit.compactW.before a0 Z = true) (hn0 : n0 = h0.size) :
    MetFree l y35 (head1 [Jvm.Cond.code y35 prog_8_method_3_code 1 (some (.object "java/lang/String"))] R_cts0) (fun aa U => aa = #[(.ref x)] ∧ Z.Warmed39 U.vm ∧ U.heap = h0 ∧ IB Z U.vm []) (fun _ _ _ _ _ => True) (fun _ U o U' => ∃ v L, o = .returned v ∧ Q_cts0 Z ca cb h0 n0 v U'.vm U'.heap L ∧ ReturnedEndW U o U' L R_cts0.cells R_cts0.slots) := by
  refine MetFree.of_bodySF (plainFor_of_name pn_cts0) hisR ?_
  intro p e s m args below meth c s₁ Bd hml0 hP hK
  obtain ⟨rfl, hZ, hh, hPv⟩ := hP
  have hx := Bd.exec
  have hby := Bd.bytes
  have hml : c.maxLocals = 1 := hml0
  have hown : s.vm.findClass "com/example/passlane/passlane/oidc/Client" = some m.cls := findClass_of_methodNamed Bd.named
  have hnm := (name_of_methodNamed Bd.named Bd.method).1
  have X0 : Stand p l e R_cts0 (s.setVm s.vm) m #[(.ref x)] below meth c s₁ [] 0 0 := Stand.of_body Bd
  have e0 : s₁.heap = h0 := by rw [← hh, Bd.state]; rfl
  have N0 := Fr.nil n0
  obtain ⟨Ga, Sa, nx, og⟩ := own_ga (p := p) (e := e) (below := below) s₁ (eF_2 m x)
  have S0 : Ga s₁ (mkF m 0 #[vR x] []) := nx Sa fun t k => castTop (ef_2 m x) k
  have hZ : Z.Warmed39 (s.setVm s.vm).vm := hZ
  have hown : (s.setVm s.vm).vm.findClass "com/example/passlane/passlane/oidc/Client" = some m.cls := hown
  have hS : s.Since s.vm 0 := (State.WarmedH.refl s).since 0
  have hki0 := Nat.zero_le h0.size
  obtain ⟨⟨cz, S_cs, hcz⟩, ⟨kde, S_de, E_de, V_de⟩, ⟨kel, S_em, E_em, F_em, V_el⟩, S_ey, E_ey⟩ := id SS
  obtain ⟨E, F, G, V⟩ := HS
  obtain ⟨T1034, h1034, X1034, e1034, E1034, A1034, D1034, -, st1034⟩ := newO X0 hx hZ hown (own_h hw 220 rfl) (own_h hw 221 rfl) (own_h hw 222 rfl) e0 (g := (mkF m 0 #[vR x] [])) rfl (own_k hby 0 (.new 56) 3) (by decide) (by decide)
  obtain ⟨q1, g1034⟩ : ∃ z, z = h0.size := ⟨_, rfl⟩
  rw [← g1034] at A1034 D1034 st1034
  have ne1035 : a ≠ q1 := by rw [g1034]; exact Nat.ne_of_lt E.lt
  have ne1036 : ab ≠ q1 := by rw [g1034]; exact Nat.ne_of_lt V.lt
  have ne1037 : x ≠ q1 := by rw [g1034]; exact Nat.ne_of_lt Fi.lt
  have g_q1 : n0 ≤ q1 := Nat.le_trans Z0 (Nat.le_of_eq g1034.symm)
  have sz_q1 : h0.size ≤ q1 := Nat.le_trans (Keep.refl h0 []).1 (Nat.le_of_eq g1034.symm)
  have K1034 : Keep h0 h1034 [] := (Keep.refl h0 []).ext E1034
  have F_value_q1 : Fld Z h1034 q1 "java/lang/AbstractStringBuilder" "value" "[B" .null := D1034 (Or.inl (own_h hw 235 rfl)) (ty := (.array .byte)) (by decide)
  have F_coder_q1 : Fld Z h1034 q1 "java/lang/AbstractStringBuilder" "coder" "B" (.int 0) := D1034 (Or.inl (own_h hw 237 rfl)) (ty := .byte) (by decide)
  have F_count_q1 : Fld Z h1034 q1 "java/lang/AbstractStringBuilder" "count" "I" (.int 0) := D1034 (Or.inl (own_h hw 262 rfl)) (ty := .int) (by decide)
  have S1038 : Ga T1034 (mkF m 4 #[vR x] [(.ref q1), (.ref q1)]) := nx S0 fun t kt => st1034 t (by
    show Sp p e below T1034 (mkF m 3 #[vR x] [(.ref q1)]) _
    refine XS.dup X1034.here hx rfl (own_k hby 3 (.dup) 1) rfl rfl ?_
    exact kt)
  have f1039 := (O0.ext E1034)
  have z1040 := (Nat.le_trans Z0 E1034.1)
  obtain ⟨v1041, T1041, L1041, X1041, hQ1041, st1041⟩ := own_cI X1034 hx hZ hw hown hml 223 224 225 222 rfl rfl rfl rfl rfl (a := q1) (rm_sbi hw no de em el ey q1 h1034 n0 z1040 SS hno f1039 A1034 F_value_q1 F_coder_q1 F_count_q1 g_q1) e1034 (W := 1) (g := (mkF m 4 #[vR x] [(.ref q1), (.ref q1)])) rfl (argsL := []) (rest := [(.ref q1)]) pd___V (own_k hby 4 (.invokespecial 58) 3)
  obtain ⟨bv1, kb1041, rfl, N1041q, K1041, szb1041, EQ1041, Fv1041, Fc1041, Fn1041, Eb1041, Vb1041⟩ := hQ1041
  have N1041 := Fr.app N0 N1041q
  have KK1041 : Keep h0 T1041.heap [] := K1034.trans K1041 (allS (Or.inr sz_q1) all0)
  have sz_bv1 : h0.size ≤ bv1 := Nat.le_trans K1034.1 szb1041
  have g_bv1 : n0 ≤ bv1 := Nat.le_trans z1040 szb1041
  obtain ⟨l1, T1042, h1042, ki1042, lb1, kb1042, X1042, e1042, E1042, hS, hki1042, hZ, hown, Es1042, Fs1042, Gs1042, Vs1042, -, -, hIB, hLit1042, st1042⟩ := ldcSVL X1041 hx hZ hown (own_h hw 238 rfl) (fun d hd => hw d (own_wS d hd)) rfl hS (Nat.le_trans (Nat.le_trans hki0 E1034.1) K1041.1) (by rw [hh, ← hn0]; exact N1041) (fun b cl q => by rw [hh]; exact O0.2.2 b cl q) hPv (own_not _) hc1 hcw (vs := (own_vs [67, 108, 105, 101, 110, 116, 91, 105, 100, 61])) (z := (10 : Int32)) own_ht1 (by decide) rfl (g := (mkF m 7 #[vR x] [(.ref q1)])) rfl (own_k hby 7 (.ldc 59) 2) (n := 40) (by decide +kernel) (by decide) (by decide) (by decide)
  have K1042 : Keep h0 h1042 [] := KK1041.ext E1042
  have f1043 := ((f1039.keep K1041 (allS (Nat.le_trans hno g_q1) all0)).ext E1042)
  have f1044 := (EQ1041.ext E1042)
  have f1045 := (Fv1041.ext E1042)
  have f1046 := (Fc1041.ext E1042)
  have f1047 := (Fn1041.ext E1042)
  have f1048 := (Eb1041.ext E1042)
  have f1049 := (Vb1041.ext E1042)
  have z1050 := (Nat.le_trans (Nat.le_trans z1040 K1041.1) E1042.1)
  obtain ⟨v1051, T1051, L1051, X1051, hQ1051, st1051⟩ := own_cV1 X1042 hx hZ hw hown hml 241 242 244 243 245 222 rfl rfl rfl rfl rfl rfl f1044 (rm_sba hw no de em el ey q1 bv1 kb1041 16 (own_vs [0, 0, 0, 0, 0, 0, 0, 0, 0, 0, 0, 0, 0, 0, 0, 0]) 0 l1 lb1 kb1042 10 (own_vs [67, 108, 105, 101, 110, 116, 91, 105, 100, 61]) h1042 n0 z1050 SS hno f1043 ⟨f1044, f1045, f1046, f1047, f1048, f1049⟩ ⟨Es1042, Fs1042, Gs1042, Vs1042⟩ g_q1 g_bv1 (by decide) (by decide) rfl rfl) e1042 (W := 0) (g := (mkF m 9 #[vR x] [(.ref l1), (.ref q1)])) rfl (argsL := [(.ref l1)]) (rest := []) pd__Ljava_lang_String__Ljava_lang_StringBuilder_ (own_k hby 9 (.invokevirtual 61) 3)
  obtain ⟨rfl, N1051q, K1051, EQ1051, Fv1051, Fc1051, Fn1051, Eb1051, Vb1051⟩ := hQ1051
  have N1051 := Fr.app N1041 N1051q
  have KK1051 : Keep h0 T1051.heap [] := K1042.trans K1051 (allS (Or.inr sz_q1) (allS (Or.inr sz_bv1) all0))
  have Vx1051 : Arv Z T1051.heap bv1 kb1041 .byte 16 (own_vs [67, 108, 105, 101, 110, 116, 91, 105, 100, 61, 0, 0, 0, 0, 0, 0]) (.int 0) := Vb1051
  have Fx1051 : Fld Z T1051.heap q1 "java/lang/AbstractStringBuilder" "count" "I" (.int 10) := Fn1051
  have S1052 : Ga T1051 (mkF m 13 #[vR x] [(.ref x), (.ref q1)]) := nx S1038 fun t kt => st1041 t (st1042 t (st1051 t (by
    show Sp p e below T1051 (mkF m 12 #[vR x] [(.ref q1)]) _
    refine xa X1051.here hx hby 12 0 rfl ?_
    exact kt)))
  have ne1053 : x ≠ bv1 := Nat.ne_of_lt (Nat.lt_of_lt_of_le ((Fi.ext E1034).lt) szb1041)
  have f1054 := ((((Fi.ext E1034).keep K1041 (ninS ne1037 nin0)).ext E1042).keep K1051 (ninS ne1037 (ninS ne1053 nin0)))
  obtain ⟨T1055, X1055, e1055, st1055⟩ := getF X1051 hx hZ hown (host := "") (Or.inl (own_h hw 205 rfl)) Via.refl rfl f1054 (g := (mkF m 13 #[vR x] [(.ref x), (.ref q1)])) rfl rfl (own_k hby 13 (.getfield 13) 3)
  have f1056 := (f1043.keep K1051 (allS (Nat.le_trans hno g_q1) (allS (Nat.le_trans hno g_bv1) all0)))
  have f1057 := ((((E.ext E1034).keep K1041).ext E1042).keep K1051)
  have ne1058 : a ≠ bv1 := Nat.ne_of_lt (Nat.lt_of_lt_of_le ((E.ext E1034).lt) szb1041)
  have f1059 := ((((F.ext E1034).keep K1041 (ninS ne1035 nin0)).ext E1042).keep K1051 (ninS ne1035 (ninS ne1058 nin0)))
  have f1060 := ((((G.ext E1034).keep K1041 (ninS ne1035 nin0)).ext E1042).keep K1051 (ninS ne1035 (ninS ne1058 nin0)))
  have ne1061 : ab ≠ bv1 := Nat.ne_of_lt (Nat.lt_of_lt_of_le ((V.ext E1034).lt) szb1041)
  have f1062 := ((((V.ext E1034).keep K1041 (ninS ne1036 nin0)).ext E1042).keep K1051 (ninS ne1036 (ninS ne1061 nin0)))
  have z1063 := (Nat.le_trans z1050 K1051.1)
  obtain ⟨v1064, T1064, L1064, X1064, hQ1064, st1064⟩ := own_cV1 X1055 hx hZ hw hown hml 241 242 244 243 245 222 rfl rfl rfl rfl rfl rfl EQ1051 (rm_sba hw no de em el ey q1 bv1 kb1041 16 (own_vs [67, 108, 105, 101, 110, 116, 91, 105, 100, 61, 0, 0, 0, 0, 0, 0]) 10 a ab ak 2 (own_vs [ca, cb]) T1051.heap n0 z1063 SS hno f1056 ⟨EQ1051, Fv1051, Fc1051, Fx1051, Eb1051, Vx1051⟩ ⟨f1057, f1059, f1060, f1062⟩ g_q1 g_bv1 (by decide) (by decide) rfl rfl) e1055 (W := 0) (g := (mkF m 16 #[vR x] [(.ref a), (.ref q1)])) rfl (argsL := [(.ref a)]) (rest := []) pd__Ljava_lang_String__Ljava_lang_StringBuilder_ (own_k hby 16 (.invokevirtual 61) 3)
  obtain ⟨rfl, N1064q, K1064, EQ1064, Fv1064, Fc1064, Fn1064, Eb1064, Vb1064⟩ := hQ1064
  have N1064 := Fr.app N1051 N1064q
  have KK1064 : Keep h0 T1064.heap [] := KK1051.trans K1064 (allS (Or.inr sz_q1) (allS (Or.inr sz_bv1) all0))
  have Vx1064 : Arv Z T1064.heap bv1 kb1041 .byte 16 (own_vs [67, 108, 105, 101, 110, 116, 91, 105, 100, 61, ca, cb, 0, 0, 0, 0]) (.int 0) := Vb1064
  have Fx1064 : Fld Z T1064.heap q1 "java/lang/AbstractStringBuilder" "count" "I" (.int 12) := Fn1064
  obtain ⟨l2, T1065, h1065, ki1065, lb2, kb1065, X1065, e1065, E1065, hS, hki1065, hZ, hown, Es1065, Fs1065, Gs1065, Vs1065, -, -, hIB, hLit1065, st1065⟩ := ldcSVL X1064 hx hZ hown (own_h hw 285 rfl) (fun d hd => hw d (own_wS d hd)) rfl hS (Nat.le_trans (Nat.le_trans hki1042 K1051.1) K1064.1) (by rw [hh, ← hn0]; exact N1064) (fun b cl q => by rw [hh]; exact O0.2.2 b cl q) hIB (by decide) hc2 hcw (vs := (own_vs [44, 32, 114, 101, 100, 105, 114, 101, 99, 116, 85, 114, 105, 115, 61])) (z := (15 : Int32)) own_ht2 (by decide) rfl (g := (mkF m 19 #[vR x] [(.ref q1)])) rfl (own_k hby 19 (.ldc 65) 2) (n := 60) (by decide +kernel) (by decide) (by decide) (by decide)
  have K1065 : Keep h0 h1065 [] := KK1064.ext E1065
  have f1066 := ((f1056.keep K1064 (allS (Nat.le_trans hno g_q1) (allS (Nat.le_trans hno g_bv1) all0))).ext E1065)
  have f1067 := (EQ1064.ext E1065)
  have f1068 := (Fv1064.ext E1065)
  have f1069 := (Fc1064.ext E1065)
  have f1070 := (Fx1064.ext E1065)
  have f1071 := (Eb1064.ext E1065)
  have f1072 := (Vx1064.ext E1065)
  have z1073 := (Nat.le_trans (Nat.le_trans z1063 K1064.1) E1065.1)
  obtain ⟨v1074, T1074, L1074, X1074, hQ1074, st1074⟩ := own_cV1 X1065 hx hZ hw hown hml 241 242 244 243 245 222 rfl rfl rfl rfl rfl rfl f1067 (rm_sbx hw no de em el ey q1 bv1 kb1041 (own_vs [67, 108, 105, 101, 110, 116, 91, 105, 100, 61, ca, cb, 0, 0, 0, 0]) l2 lb2 kb1065 (own_vs [44, 32, 114, 101, 100, 105, 114, 101, 99, 116, 85, 114, 105, 115, 61]) h1065 n0 z1073 SS hno f1066 ⟨f1067, f1068, f1069, f1070, f1071, f1072⟩ ⟨Es1065, Fs1065, Gs1065, Vs1065⟩ g_q1 rfl rfl) e1065 (W := 0) (g := (mkF m 21 #[vR x] [(.ref l2), (.ref q1)])) rfl (argsL := [(.ref l2)]) (rest := []) pd__Ljava_lang_String__Ljava_lang_StringBuilder_ (own_k hby 21 (.invokevirtual 61) 3)
  obtain ⟨bw, kb1074, rfl, N1074q, K1074, szb1074, EQ1074, Fv1074, Fc1074, Fn1074, Eb1074, Vb1074⟩ := hQ1074
  have N1074 := Fr.app N1064 N1074q
  have KK1074 : Keep h0 T1074.heap [] := K1065.trans K1074 (allS (Or.inr sz_q1) all0)
  have sz_bw : h0.size ≤ bw := Nat.le_trans K1065.1 szb1074
  have g_bw : n0 ≤ bw := Nat.le_trans z1073 szb1074
  have Vx1074 : Arv Z T1074.heap bw kb1074 .byte 34 (own_vs [67, 108, 105, 101, 110, 116, 91, 105, 100, 61, ca, cb, 44, 32, 114, 101, 100, 105, 114, 101, 99, 116, 85, 114, 105, 115, 61, 0, 0, 0, 0, 0, 0, 0]) (.int 0) := Vb1074
  have Fx1074 : Fld Z T1074.heap q1 "java/lang/AbstractStringBuilder" "count" "I" (.int 27) := Fn1074
  have S1075 : Ga T1074 (mkF m 25 #[vR x] [(.ref x), (.ref q1)]) := nx S1052 fun t kt => st1055 t (st1064 t (st1065 t (st1074 t (by
    show Sp p e below T1074 (mkF m 24 #[vR x] [(.ref q1)]) _
    refine xa X1074.here hx hby 24 0 rfl ?_
    exact kt))))
  have f1076 := (((((((Fr_.ext E1034).keep K1041 (ninS ne1037 nin0)).ext E1042).keep K1051 (ninS ne1037 (ninS ne1053 nin0))).keep K1064 (ninS ne1037 (ninS ne1053 nin0))).ext E1065).keep K1074 (ninS ne1037 nin0))
  obtain ⟨T1077, X1077, e1077, st1077⟩ := getF X1074 hx hZ hown (host := "") (Or.inl (own_h hw 209 rfl)) Via.refl rfl f1076 (g := (mkF m 25 #[vR x] [(.ref x), (.ref q1)])) rfl rfl (own_k hby 25 (.getfield 22) 3)
  have f1078 := (f1066.keep K1074 (allS (Nat.le_trans hno g_q1) all0))
  have z1079 := (Nat.le_trans z1073 K1074.1)
  obtain ⟨cq1080, kq1080, q1080a, q1080b, q1080c⟩ := isOf hZ e1077 EQ1074
  obtain ⟨v1080, T1080, L1080, X1080, hQ1080, hS, hgr1080, hZ, hown, st1080⟩ := own_outSS hS (by rw [e1077]; exact (Nat.le_trans hki1065 K1074.1)) hZ hown (X1077.virtualBackS hx (y := y49) (z := y49) hown (own_t hZ hw 301 rfl) (own_t hZ hw 302 rfl) (notFace_of_selects (args := #[]) (own_t hZ hw 304 rfl)) (own_t hZ hw 304 rfl) (own_t hZ hw 303 rfl) (by decide) (own_backS (W := 0) (Pv := fun U => IB Z U.vm [", redirectUris=", "Client[id="]) (rm_sao0 hw no de em el ey q1 bw kb1074 (own_vs [67, 108, 105, 101, 110, 116, 91, 105, 100, 61, ca, cb, 44, 32, 114, 101, 100, 105, 114, 101, 99, 116, 85, 114, 105, 115, 61, 0, 0, 0, 0, 0, 0, 0]) [", redirectUris=", "Client[id="] T1074.heap n0 z1079 SS hno f1078 ⟨EQ1074, Fv1074, Fc1074, Fx1074, Eb1074, Vx1074⟩ g_q1 g_bw rfl hc0 hcw (by decide)) hZ (own_h hw 305 rfl) (own_h hw 222 rfl) (by decide) (by decide) (own_ibU hIB)) q1080a q1080c (g := (mkF m 28 #[vR x] [(.ref em), (.ref q1)])) rfl (by rw [hml]; rfl) (Steps.refl _) (argsL := [(.ref em)]) (rest := []) (lenOf pd__Ljava_lang_Object__Ljava_lang_StringBuilder_ rfl) rfl (own_w rfl) (own_k hby 28 (.invokevirtual 67) 3) (fun _ _ => ⟨rfl, e1077, (by decide : 7 + 3 ≤ _), (by decide : 162 + 16 ≤ _)⟩))
  obtain ⟨rfl, N1080q, K1080, hIB, EQ1080, Fv1080, Fc1080, Fn1080, Eb1080, Vb1080⟩ := hQ1080
  have N1080 := Fr.app N1074 N1080q
  have KK1080 : Keep h0 T1080.heap [] := KK1074.trans K1080 (allS (Or.inr sz_q1) (allS (Or.inr sz_bw) all0))
  have Vx1080 : Arv Z T1080.heap bw kb1074 .byte 34 (own_vs [67, 108, 105, 101, 110, 116, 91, 105, 100, 61, ca, cb, 44, 32, 114, 101, 100, 105, 114, 101, 99, 116, 85, 114, 105, 115, 61, 91, 93, 0, 0, 0, 0, 0]) (.int 0) := Vb1080
  have Fx1080 : Fld Z T1080.heap q1 "java/lang/AbstractStringBuilder" "count" "I" (.int 29) := Fn1080
  have hki1080 := Nat.le_refl T1080.heap.size
  obtain ⟨l3, T1081, h1081, ki1081, lb3, kb1081, X1081, e1081, E1081, hS, hki1081, hZ, hown, Es1081, Fs1081, Gs1081, Vs1081, -, -, hIB, hLit1081, st1081⟩ := ldcSVL X1080 hx hZ hown (own_h hw 427 rfl) (fun d hd => hw d (own_wS d hd)) rfl hS hki1080 (by rw [hh, ← hn0]; exact N1080) (fun b cl q => by rw [hh]; exact O0.2.2 b cl q) hIB (by decide) hc3 hcw (vs := (own_vs [93])) (z := (1 : Int32)) own_ht3 (by decide) rfl (g := (mkF m 31 #[vR x] [(.ref q1)])) rfl (own_k hby 31 (.ldc 70) 2) (n := 4) (by decide +kernel) (by decide) (by decide) (by decide)
  have K1081 : Keep h0 h1081 [] := KK1080.ext E1081
  have f1082 := ((f1078.keep K1080 (allS (Nat.le_trans hno g_q1) (allS (Nat.le_trans hno g_bw) all0))).ext E1081)
  have f1083 := (EQ1080.ext E1081)
  have f1084 := (Fv1080.ext E1081)
  have f1085 := (Fc1080.ext E1081)
  have f1086 := (Fx1080.ext E1081)
  have f1087 := (Eb1080.ext E1081)
  have f1088 := (Vx1080.ext E1081)
  have z1089 := (Nat.le_trans (Nat.le_trans z1079 K1080.1) E1081.1)
  obtain ⟨v1090, T1090, L1090, X1090, hQ1090, st1090⟩ := own_cV1 X1081 hx hZ hw hown hml 241 242 244 243 245 222 rfl rfl rfl rfl rfl rfl f1083 (rm_sba hw no de em el ey q1 bw kb1074 34 (own_vs [67, 108, 105, 101, 110, 116, 91, 105, 100, 61, ca, cb, 44, 32, 114, 101, 100, 105, 114, 101, 99, 116, 85, 114, 105, 115, 61, 91, 93, 0, 0, 0, 0, 0]) 29 l3 lb3 kb1081 1 (own_vs [93]) h1081 n0 z1089 SS hno f1082 ⟨f1083, f1084, f1085, f1086, f1087, f1088⟩ ⟨Es1081, Fs1081, Gs1081, Vs1081⟩ g_q1 g_bw (by decide) (by decide) rfl rfl) e1081 (W := 0) (g := (mkF m 33 #[vR x] [(.ref l3), (.ref q1)])) rfl (argsL := [(.ref l3)]) (rest := []) pd__Ljava_lang_String__Ljava_lang_StringBuilder_ (own_k hby 33 (.invokevirtual 61) 3)
  obtain ⟨rfl, N1090q, K1090, EQ1090, Fv1090, Fc1090, Fn1090, Eb1090, Vb1090⟩ := hQ1090
  have N1090 := Fr.app N1080 N1090q
  have KK1090 : Keep h0 T1090.heap [] := K1081.trans K1090 (allS (Or.inr sz_q1) (allS (Or.inr sz_bw) all0))
  have Vx1090 : Arv Z T1090.heap bw kb1074 .byte 34 (own_vs [67, 108, 105, 101, 110, 116, 91, 105, 100, 61, ca, cb, 44, 32, 114, 101, 100, 105, 114, 101, 99, 116, 85, 114, 105, 115, 61, 91, 93, 93, 0, 0, 0, 0]) (.int 0) := Vb1090
  have Fx1090 : Fld Z T1090.heap q1 "java/lang/AbstractStringBuilder" "count" "I" (.int 30) := Fn1090
  have f1091 := (f1082.keep K1090 (allS (Nat.le_trans hno g_q1) (allS (Nat.le_trans hno g_bw) all0)))
  have z1092 := (Nat.le_trans z1089 K1090.1)
  obtain ⟨v1093, T1093, L1093, X1093, hQ1093, st1093⟩ := own_cV1 X1090 hx hZ hw hown hml 428 393 395 394 396 222 rfl rfl rfl rfl rfl rfl EQ1090 (rm_sbt hw no de em el ey q1 bw kb1074 34 (own_vs [67, 108, 105, 101, 110, 116, 91, 105, 100, 61, ca, cb, 44, 32, 114, 101, 100, 105, 114, 101, 99, 116, 85, 114, 105, 115, 61, 91, 93, 93, 0, 0, 0, 0]) 30 T1090.heap n0 z1092 SS hno f1091 ⟨EQ1090, Fv1090, Fc1090, Fx1090, Eb1090, Vx1090⟩ (by decide) (by decide) rfl) rfl (W := 0) (g := (mkF m 36 #[vR x] [(.ref q1)])) rfl (argsL := []) (rest := []) pd___Ljava_lang_String_ (own_k hby 36 (.invokevirtual 72) 3)
  obtain ⟨a1, b1, kb1093, rfl, N1093q, K1093, sza11093, szb11093, E1093, F1093, G1093, V1093⟩ := hQ1093
  have N1093 := Fr.app N1090 N1093q
  have KK1093 : Keep h0 T1093.heap [] := KK1090.trans K1093 all0
  have sz_a1 : h0.size ≤ a1 := Nat.le_trans KK1090.1 sza11093
  have sz_b1 : h0.size ≤ b1 := Nat.le_trans KK1090.1 szb11093
  have Vx1093 : Arv Z T1093.heap b1 kb1093 .byte 30 (own_vs [67, 108, 105, 101, 110, 116, 91, 105, 100, 61, ca, cb, 44, 32, 114, 101, 100, 105, 114, 101, 99, 116, 85, 114, 105, 115, 61, 91, 93, 93]) (.int 0) := V1093
  have S1094 : Ga T1093 (mkF m 39 #[vR x] [(.ref a1)]) := nx S1075 fun t kt => st1077 t (st1080 t (st1081 t (st1090 t (st1093 t kt))))
  obtain ⟨fs, hr, hrun, hended, hRE⟩ := X1093.leaveW hS (n := _) (Nat.le_trans (Nat.le_trans hki1081 K1090.1) K1093.1) (v := some (.ref a1)) (fun h => by first | rfl | (rw [Bd.returns] at h; cases h))
  refine ⟨_, _, (og S1094) _ ?_, hrun, hended, _, _, rfl, ?_, hRE.1, hRE.2.1, hRE.2.2.1, hRE.2.2.2.mono (by decide) (by decide)⟩
  · exact retOut X1093 hx Bd.returns rfl (Or.inr (Or.inr (Or.inr (Or.inr ⟨rfl, rfl, rfl⟩)))) (own_k hby 39 (.areturn) 1) hr
  · show Q_cts0 Z ca cb h0 n0 _ T1093.vm T1093.heap _
    exact ⟨a1, b1, kb1093, rfl, N1093, KK1093, sz_a1, sz_b1, E1093, F1093, G1093, Vx1093⟩
abbrev R_cts1 : Room := { frames := 9, cells := 16, slots := 402, locals := 132 }
def Q_cts1 (Z : State) (ca : Int32) (cb : Int32)(cu : Int32) (h0 : Heap) (n0 : Nat) (v : Option Value) (vm : Vm) (h : Heap) (L : List Loc) : Prop := ∃ (a b : Addr) (k' : ClassId), v = some (.ref a) ∧ Fr n0 L ∧ Keep h0 h [] ∧ h0.size ≤ a ∧ h0.size ≤ b ∧ own_Str Z h a b k' (31 : Int32) (own_vs [67, 108, 105, 101, 110, 116, 91, 105, 100, 61, ca, cb, 44, 32, 114, 101, 100, 105, 114, 101, 99, 116, 85, 114, 105, 115, 61, 91, cu, 93, 93])
theorem rm_cts1 {l : Launch} {Z : State} {a0 : Array Value} (hw : own_W a0 Z) (no : Nat) (de : Addr) (em : Addr) (el : Addr) (ey : Addr) (x : Addr) (a : Addr) (ab : Addr) (ak : ClassId) (ca : Int32) (cb : Int32) (r : Addr) (u : Addr) (ub : Addr) (uk : ClassId) (cu : Int32) (h0 : Heap) (n0 : Nat) (Z0 : n0 ≤ h0.size) (SS : own_St Z de em el ey) (hno : no ≤ n0) (O0 : Old Z no h0) (Fi : Fld Z h0 x "com/example/passlane/passlane/oidc/Client" "id" "Ljava/lang/String;" (.ref a)) (Fr_ : Fld Z h0 x "com/example/passlane/passlane/oidc/Client" "redirectUris" "Ljava/util/List;" (.ref r)) (HS : own_Str Z h0 a ab ak (2 : Int32) (own_vs [ca, cb])) (HL : own_L Z h0 r (.ref u) (.ref ey)) (HSu : own_Str Z h0 u ub uk (1 : Int32) (own_vs [cu])) (hc1 : Jvm.Lit.constHeld Z "com/example/passlane/passlane/oidc/Client" 59) (hc2 : Jvm.Lit.constHeld Z "com/example/passlane/passlane/oidc/Client" 65) (hc3 : Jvm.Lit.constHeld Z "com/example/passlane/passlane/oidc/Client" 70) (hc0 : Jvm.Lit.constHeld Z "java/util/AbstractCollection" 92) (hcw : Jvm.Lit.compactW.before a0 Z = true) (hn0 : n0 = h0.size) :
    MetFree l y35 (head1 [Jvm.Cond.code y35 prog_8_method_3_code 1 (some (.object "java/lang/String"))] R_cts1) (fun aa U => aa = #[(.ref x)] ∧ Z.Warmed39 U.vm ∧ U.heap = h0 ∧ IB Z U.vm []) (fun _ _ _ _ _ => True) (fun _ U o U' => ∃ v L, o = .returned v ∧ Q_cts1 Z ca cb cu h0 n0 v U'.vm U'.heap L ∧ ReturnedEndW U o U' L R_cts1.cells R_cts1.slots) := by
  refine MetFree.of_bodySF (plainFor_of_name pn_cts0) hisR ?_
  intro p e s m args below meth c s₁ Bd hml0 hP hK
  obtain ⟨rfl, hZ, hh, hPv⟩ := hP
  have hx := Bd.exec
  have hby := Bd.bytes
  have hml : c.maxLocals = 1 := hml0
  have hown : s.vm.findClass "com/example/passlane/passlane/oidc/Client" = some m.cls := findClass_of_methodNamed Bd.named
  have hnm := (name_of_methodNamed Bd.named Bd.method).1
  have X0 : Stand p l e R_cts1 (s.setVm s.vm) m #[(.ref x)] below meth c s₁ [] 0 0 := Stand.of_body Bd
  have e0 : s₁.heap = h0 := by rw [← hh, Bd.state]; rfl
  have N0 := Fr.nil n0
  obtain ⟨Ga, Sa, nx, og⟩ := own_ga (p := p) (e := e) (below := below) s₁ (eF_2 m x)
  have S0 : Ga s₁ (mkF m 0 #[vR x] []) := nx Sa fun t k => castTop (ef_2 m x) k
  have hZ : Z.Warmed39 (s.setVm s.vm).vm := hZ
  have hown : (s.setVm s.vm).vm.findClass "com/example/passlane/passlane/oidc/Client" = some m.cls := hown
  have hS : s.Since s.vm 0 := (State.WarmedH.refl s).since 0
  have hki0 := Nat.zero_le h0.size
  obtain ⟨⟨cz, S_cs, hcz⟩, ⟨kde, S_de, E_de, V_de⟩, ⟨kel, S_em, E_em, F_em, V_el⟩, S_ey, E_ey⟩ := id SS
  obtain ⟨E, F, G, V⟩ := HS
  obtain ⟨El, F0, F1⟩ := HL
  obtain ⟨Eu, Fu, Gu, Vu⟩ := HSu
  obtain ⟨T1095, h1095, X1095, e1095, E1095, A1095, D1095, -, st1095⟩ := newO X0 hx hZ hown (own_h hw 220 rfl) (own_h hw 221 rfl) (own_h hw 222 rfl) e0 (g := (mkF m 0 #[vR x] [])) rfl (own_k hby 0 (.new 56) 3) (by decide) (by decide)
  obtain ⟨q1, g1095⟩ : ∃ z, z = h0.size := ⟨_, rfl⟩
  rw [← g1095] at A1095 D1095 st1095
  have ne1096 : a ≠ q1 := by rw [g1095]; exact Nat.ne_of_lt E.lt
  have ne1097 : r ≠ q1 := by rw [g1095]; exact Nat.ne_of_lt El.lt
  have ne1098 : u ≠ q1 := by rw [g1095]; exact Nat.ne_of_lt Eu.lt
  have ne1099 : ab ≠ q1 := by rw [g1095]; exact Nat.ne_of_lt V.lt
  have ne1100 : ub ≠ q1 := by rw [g1095]; exact Nat.ne_of_lt Vu.lt
  have ne1101 : x ≠ q1 := by rw [g1095]; exact Nat.ne_of_lt Fi.lt
  have g_q1 : n0 ≤ q1 := Nat.le_trans Z0 (Nat.le_of_eq g1095.symm)
  have sz_q1 : h0.size ≤ q1 := Nat.le_trans (Keep.refl h0 []).1 (Nat.le_of_eq g1095.symm)
  have K1095 : Keep h0 h1095 [] := (Keep.refl h0 []).ext E1095
  have F_value_q1 : Fld Z h1095 q1 "java/lang/AbstractStringBuilder" "value" "[B" .null := D1095 (Or.inl (own_h hw 235 rfl)) (ty := (.array .byte)) (by decide)
  have F_coder_q1 : Fld Z h1095 q1 "java/lang/AbstractStringBuilder" "coder" "B" (.int 0) := D1095 (Or.inl (own_h hw 237 rfl)) (ty := .byte) (by decide)
  have F_count_q1 : Fld Z h1095 q1 "java/lang/AbstractStringBuilder" "count" "I" (.int 0) := D1095 (Or.inl (own_h hw 262 rfl)) (ty := .int) (by decide)
  have S1102 : Ga T1095 (mkF m 4 #[vR x] [(.ref q1), (.ref q1)]) := nx S0 fun t kt => st1095 t (by
    show Sp p e below T1095 (mkF m 3 #[vR x] [(.ref q1)]) _
    refine XS.dup X1095.here hx rfl (own_k hby 3 (.dup) 1) rfl rfl ?_
    exact kt)
  have f1103 := (O0.ext E1095)
  have z1104 := (Nat.le_trans Z0 E1095.1)
  obtain ⟨v1105, T1105, L1105, X1105, hQ1105, st1105⟩ := own_cI X1095 hx hZ hw hown hml 223 224 225 222 rfl rfl rfl rfl rfl (a := q1) (rm_sbi hw no de em el ey q1 h1095 n0 z1104 SS hno f1103 A1095 F_value_q1 F_coder_q1 F_count_q1 g_q1) e1095 (W := 1) (g := (mkF m 4 #[vR x] [(.ref q1), (.ref q1)])) rfl (argsL := []) (rest := [(.ref q1)]) pd___V (own_k hby 4 (.invokespecial 58) 3)
  obtain ⟨bv1, kb1105, rfl, N1105q, K1105, szb1105, EQ1105, Fv1105, Fc1105, Fn1105, Eb1105, Vb1105⟩ := hQ1105
  have N1105 := Fr.app N0 N1105q
  have KK1105 : Keep h0 T1105.heap [] := K1095.trans K1105 (allS (Or.inr sz_q1) all0)
  have sz_bv1 : h0.size ≤ bv1 := Nat.le_trans K1095.1 szb1105
  have g_bv1 : n0 ≤ bv1 := Nat.le_trans z1104 szb1105
  obtain ⟨l1, T1106, h1106, ki1106, lb1, kb1106, X1106, e1106, E1106, hS, hki1106, hZ, hown, Es1106, Fs1106, Gs1106, Vs1106, -, -, hIB, hLit1106, st1106⟩ := ldcSVL X1105 hx hZ hown (own_h hw 238 rfl) (fun d hd => hw d (own_wS d hd)) rfl hS (Nat.le_trans (Nat.le_trans hki0 E1095.1) K1105.1) (by rw [hh, ← hn0]; exact N1105) (fun b cl q => by rw [hh]; exact O0.2.2 b cl q) hPv (own_not _) hc1 hcw (vs := (own_vs [67, 108, 105, 101, 110, 116, 91, 105, 100, 61])) (z := (10 : Int32)) own_ht1 (by decide) rfl (g := (mkF m 7 #[vR x] [(.ref q1)])) rfl (own_k hby 7 (.ldc 59) 2) (n := 40) (by decide +kernel) (by decide) (by decide) (by decide)
  have K1106 : Keep h0 h1106 [] := KK1105.ext E1106
  have f1107 := ((f1103.keep K1105 (allS (Nat.le_trans hno g_q1) all0)).ext E1106)
  have f1108 := (EQ1105.ext E1106)
  have f1109 := (Fv1105.ext E1106)
  have f1110 := (Fc1105.ext E1106)
  have f1111 := (Fn1105.ext E1106)
  have f1112 := (Eb1105.ext E1106)
  have f1113 := (Vb1105.ext E1106)
  have z1114 := (Nat.le_trans (Nat.le_trans z1104 K1105.1) E1106.1)
  obtain ⟨v1115, T1115, L1115, X1115, hQ1115, st1115⟩ := own_cV1 X1106 hx hZ hw hown hml 241 242 244 243 245 222 rfl rfl rfl rfl rfl rfl f1108 (rm_sba hw no de em el ey q1 bv1 kb1105 16 (own_vs [0, 0, 0, 0, 0, 0, 0, 0, 0, 0, 0, 0, 0, 0, 0, 0]) 0 l1 lb1 kb1106 10 (own_vs [67, 108, 105, 101, 110, 116, 91, 105, 100, 61]) h1106 n0 z1114 SS hno f1107 ⟨f1108, f1109, f1110, f1111, f1112, f1113⟩ ⟨Es1106, Fs1106, Gs1106, Vs1106⟩ g_q1 g_bv1 (by decide) (by decide) rfl rfl) e1106 (W := 0) (g := (mkF m 9 #[vR x] [(.ref l1), (.ref q1)])) rfl (argsL := [(.ref l1)]) (rest := []) pd__Ljava_lang_String__Ljava_lang_StringBuilder_ (own_k hby 9 (.invokevirtual 61) 3)
  obtain ⟨rfl, N1115q, K1115, EQ1115, Fv1115, Fc1115, Fn1115, Eb1115, Vb1115⟩ := hQ1115
  have N1115 := Fr.app N1105 N1115q
  have KK1115 : Keep h0 T1115.heap [] := K1106.trans K1115 (allS (Or.inr sz_q1) (allS (Or.inr sz_bv1) all0))
  have Vx1115 : Arv Z T1115.heap bv1 kb1105 .byte 16 (own_vs [67, 108, 105, 101, 110, 116, 91, 105, 100, 61, 0, 0, 0, 0, 0, 0]) (.int 0) := Vb1115
  have Fx1115 : Fld Z T1115.heap q1 "java/lang/AbstractStringBuilder" "count" "I" (.int 10) := Fn1115
  have S1116 : Ga T1115 (mkF m 13 #[vR x] [(.ref x), (.ref q1)]) := nx S1102 fun t kt => st1105 t (st1106 t (st1115 t (by
    show Sp p e below T1115 (mkF m 12 #[vR x] [(.ref q1)]) _
    refine xa X1115.here hx hby 12 0 rfl ?_
    exact kt)))
  have ne1117 : x ≠ bv1 := Nat.ne_of_lt (Nat.lt_of_lt_of_le ((Fi.ext E1095).lt) szb1105)
  have f1118 := ((((Fi.ext E1095).keep K1105 (ninS ne1101 nin0)).ext E1106).keep K1115 (ninS ne1101 (ninS ne1117 nin0)))
  obtain ⟨T1119, X1119, e1119, st1119⟩ := getF X1115 hx hZ hown (host := "") (Or.inl (own_h hw 205 rfl)) Via.refl rfl f1118 (g := (mkF m 13 #[vR x] [(.ref x), (.ref q1)])) rfl rfl (own_k hby 13 (.getfield 13) 3)
  have f1120 := (f1107.keep K1115 (allS (Nat.le_trans hno g_q1) (allS (Nat.le_trans hno g_bv1) all0)))
  have f1121 := ((((E.ext E1095).keep K1105).ext E1106).keep K1115)
  have ne1122 : a ≠ bv1 := Nat.ne_of_lt (Nat.lt_of_lt_of_le ((E.ext E1095).lt) szb1105)
  have f1123 := ((((F.ext E1095).keep K1105 (ninS ne1096 nin0)).ext E1106).keep K1115 (ninS ne1096 (ninS ne1122 nin0)))
  have f1124 := ((((G.ext E1095).keep K1105 (ninS ne1096 nin0)).ext E1106).keep K1115 (ninS ne1096 (ninS ne1122 nin0)))
  have ne1125 : ab ≠ bv1 := Nat.ne_of_lt (Nat.lt_of_lt_of_le ((V.ext E1095).lt) szb1105)
  have f1126 := ((((V.ext E1095).keep K1105 (ninS ne1099 nin0)).ext E1106).keep K1115 (ninS ne1099 (ninS ne1125 nin0)))
  have z1127 := (Nat.le_trans z1114 K1115.1)
  obtain ⟨v1128, T1128, L1128, X1128, hQ1128, st1128⟩ := own_cV1 X1119 hx hZ hw hown hml 241 242 244 243 245 222 rfl rfl rfl rfl rfl rfl EQ1115 (rm_sba hw no de em el ey q1 bv1 kb1105 16 (own_vs [67, 108, 105, 101, 110, 116, 91, 105, 100, 61, 0, 0, 0, 0, 0, 0]) 10 a ab ak 2 (own_vs [ca, cb]) T1115.heap n0 z1127 SS hno f1120 ⟨EQ1115, Fv1115, Fc1115, Fx1115, Eb1115, Vx1115⟩ ⟨f1121, f1123, f1124, f1126⟩ g_q1 g_bv1 (by decide) (by decide) rfl rfl) e1119 (W := 0) (g := (mkF m 16 #[vR x] [(.ref a), (.ref q1)])) rfl (argsL := [(.ref a)]) (rest := []) pd__Ljava_lang_String__Ljava_lang_StringBuilder_ (own_k hby 16 (.invokevirtual 61) 3)
  obtain ⟨rfl, N1128q, K1128, EQ1128, Fv1128, Fc1128, Fn1128, Eb1128, Vb1128⟩ := hQ1128
  have N1128 := Fr.app N1115 N1128q
  have KK1128 : Keep h0 T1128.heap [] := KK1115.trans K1128 (allS (Or.inr sz_q1) (allS (Or.inr sz_bv1) all0))
  have Vx1128 : Arv Z T1128.heap bv1 kb1105 .byte 16 (own_vs [67, 108, 105, 101, 110, 116, 91, 105, 100, 61, ca, cb, 0, 0, 0, 0]) (.int 0) := Vb1128
  have Fx1128 : Fld Z T1128.heap q1 "java/lang/AbstractStringBuilder" "count" "I" (.int 12) := Fn1128
  obtain ⟨l2, T1129, h1129, ki1129, lb2, kb1129, X1129, e1129, E1129, hS, hki1129, hZ, hown, Es1129, Fs1129, Gs1129, Vs1129, -, -, hIB, hLit1129, st1129⟩ := ldcSVL X1128 hx hZ hown (own_h hw 285 rfl) (fun d hd => hw d (own_wS d hd)) rfl hS (Nat.le_trans (Nat.le_trans hki1106 K1115.1) K1128.1) (by rw [hh, ← hn0]; exact N1128) (fun b cl q => by rw [hh]; exact O0.2.2 b cl q) hIB (by decide) hc2 hcw (vs := (own_vs [44, 32, 114, 101, 100, 105, 114, 101, 99, 116, 85, 114, 105, 115, 61])) (z := (15 : Int32)) own_ht2 (by decide) rfl (g := (mkF m 19 #[vR x] [(.ref q1)])) rfl (own_k hby 19 (.ldc 65) 2) (n := 60) (by decide +kernel) (by decide) (by decide) (by decide)
  have K1129 : Keep h0 h1129 [] := KK1128.ext E1129
  have f1130 := ((f1120.keep K1128 (allS (Nat.le_trans hno g_q1) (allS (Nat.le_trans hno g_bv1) all0))).ext E1129)
  have f1131 := (EQ1128.ext E1129)
  have f1132 := (Fv1128.ext E1129)
  have f1133 := (Fc1128.ext E1129)
  have f1134 := (Fx1128.ext E1129)
  have f1135 := (Eb1128.ext E1129)
  have f1136 := (Vx1128.ext E1129)
  have z1137 := (Nat.le_trans (Nat.le_trans z1127 K1128.1) E1129.1)
  obtain ⟨v1138, T1138, L1138, X1138, hQ1138, st1138⟩ := own_cV1 X1129 hx hZ hw hown hml 241 242 244 243 245 222 rfl rfl rfl rfl rfl rfl f1131 (rm_sbx hw no de em el ey q1 bv1 kb1105 (own_vs [67, 108, 105, 101, 110, 116, 91, 105, 100, 61, ca, cb, 0, 0, 0, 0]) l2 lb2 kb1129 (own_vs [44, 32, 114, 101, 100, 105, 114, 101, 99, 116, 85, 114, 105, 115, 61]) h1129 n0 z1137 SS hno f1130 ⟨f1131, f1132, f1133, f1134, f1135, f1136⟩ ⟨Es1129, Fs1129, Gs1129, Vs1129⟩ g_q1 rfl rfl) e1129 (W := 0) (g := (mkF m 21 #[vR x] [(.ref l2), (.ref q1)])) rfl (argsL := [(.ref l2)]) (rest := []) pd__Ljava_lang_String__Ljava_lang_StringBuilder_ (own_k hby 21 (.invokevirtual 61) 3)
  obtain ⟨bw, kb1138, rfl, N1138q, K1138, szb1138, EQ1138, Fv1138, Fc1138, Fn1138, Eb1138, Vb1138⟩ := hQ1138
  have N1138 := Fr.app N1128 N1138q
  have KK1138 : Keep h0 T1138.heap [] := K1129.trans K1138 (allS (Or.inr sz_q1) all0)
  have sz_bw : h0.size ≤ bw := Nat.le_trans K1129.1 szb1138
  have g_bw : n0 ≤ bw := Nat.le_trans z1137 szb1138
  have Vx1138 : Arv Z T1138.heap bw kb1138 .byte 34 (own_vs [67, 108, 105, 101, 110, 116, 91, 105, 100, 61, ca, cb, 44, 32, 114, 101, 100, 105, 114, 101, 99, 116, 85, 114, 105, 115, 61, 0, 0, 0, 0, 0, 0, 0]) (.int 0) := Vb1138
  have Fx1138 : Fld Z T1138.heap q1 "java/lang/AbstractStringBuilder" "count" "I" (.int 27) := Fn1138
  have S1139 : Ga T1138 (mkF m 25 #[vR x] [(.ref x), (.ref q1)]) := nx S1116 fun t kt => st1119 t (st1128 t (st1129 t (st1138 t (by
    show Sp p e below T1138 (mkF m 24 #[vR x] [(.ref q1)]) _
    refine xa X1138.here hx hby 24 0 rfl ?_
    exact kt))))
  have f1140 := (((((((Fr_.ext E1095).keep K1105 (ninS ne1101 nin0)).ext E1106).keep K1115 (ninS ne1101 (ninS ne1117 nin0))).keep K1128 (ninS ne1101 (ninS ne1117 nin0))).ext E1129).keep K1138 (ninS ne1101 nin0))
  obtain ⟨T1141, X1141, e1141, st1141⟩ := getF X1138 hx hZ hown (host := "") (Or.inl (own_h hw 209 rfl)) Via.refl rfl f1140 (g := (mkF m 25 #[vR x] [(.ref x), (.ref q1)])) rfl rfl (own_k hby 25 (.getfield 22) 3)
  have f1142 := (f1130.keep K1138 (allS (Nat.le_trans hno g_q1) all0))
  have f1143 := (((((((El.ext E1095).keep K1105).ext E1106).keep K1115).keep K1128).ext E1129).keep K1138)
  have ne1144 : r ≠ bv1 := Nat.ne_of_lt (Nat.lt_of_lt_of_le ((El.ext E1095).lt) szb1105)
  have f1145 := (((((((F0.ext E1095).keep K1105 (ninS ne1097 nin0)).ext E1106).keep K1115 (ninS ne1097 (ninS ne1144 nin0))).keep K1128 (ninS ne1097 (ninS ne1144 nin0))).ext E1129).keep K1138 (ninS ne1097 nin0))
  have f1146 := (((((((F1.ext E1095).keep K1105 (ninS ne1097 nin0)).ext E1106).keep K1115 (ninS ne1097 (ninS ne1144 nin0))).keep K1128 (ninS ne1097 (ninS ne1144 nin0))).ext E1129).keep K1138 (ninS ne1097 nin0))
  have f1147 := (((((((Eu.ext E1095).keep K1105).ext E1106).keep K1115).keep K1128).ext E1129).keep K1138)
  have ne1148 : u ≠ bv1 := Nat.ne_of_lt (Nat.lt_of_lt_of_le ((Eu.ext E1095).lt) szb1105)
  have f1149 := (((((((Fu.ext E1095).keep K1105 (ninS ne1098 nin0)).ext E1106).keep K1115 (ninS ne1098 (ninS ne1148 nin0))).keep K1128 (ninS ne1098 (ninS ne1148 nin0))).ext E1129).keep K1138 (ninS ne1098 nin0))
  have f1150 := (((((((Gu.ext E1095).keep K1105 (ninS ne1098 nin0)).ext E1106).keep K1115 (ninS ne1098 (ninS ne1148 nin0))).keep K1128 (ninS ne1098 (ninS ne1148 nin0))).ext E1129).keep K1138 (ninS ne1098 nin0))
  have ne1151 : ub ≠ bv1 := Nat.ne_of_lt (Nat.lt_of_lt_of_le ((Vu.ext E1095).lt) szb1105)
  have f1152 := (((((((Vu.ext E1095).keep K1105 (ninS ne1100 nin0)).ext E1106).keep K1115 (ninS ne1100 (ninS ne1151 nin0))).keep K1128 (ninS ne1100 (ninS ne1151 nin0))).ext E1129).keep K1138 (ninS ne1100 nin0))
  have z1153 := (Nat.le_trans z1137 K1138.1)
  obtain ⟨v1154, T1154, L1154, X1154, hQ1154, st1154⟩ := own_cV1 X1141 hx hZ hw hown hml 301 302 304 303 305 222 rfl rfl rfl rfl rfl rfl EQ1138 (rm_sao1 hw no de em el ey q1 bw kb1138 (own_vs [67, 108, 105, 101, 110, 116, 91, 105, 100, 61, ca, cb, 44, 32, 114, 101, 100, 105, 114, 101, 99, 116, 85, 114, 105, 115, 61, 0, 0, 0, 0, 0, 0, 0]) r u ub uk cu T1138.heap n0 z1153 SS hno f1142 ⟨EQ1138, Fv1138, Fc1138, Fx1138, Eb1138, Vx1138⟩ ⟨f1143, f1145, f1146⟩ ⟨f1147, f1149, f1150, f1152⟩ g_q1 g_bw rfl) e1141 (W := 0) (g := (mkF m 28 #[vR x] [(.ref r), (.ref q1)])) rfl (argsL := [(.ref r)]) (rest := []) pd__Ljava_lang_Object__Ljava_lang_StringBuilder_ (own_k hby 28 (.invokevirtual 67) 3)
  obtain ⟨rfl, N1154q, K1154, EQ1154, Fv1154, Fc1154, Fn1154, Eb1154, Vb1154⟩ := hQ1154
  have N1154 := Fr.app N1138 N1154q
  have KK1154 : Keep h0 T1154.heap [] := KK1138.trans K1154 (allS (Or.inr sz_q1) (allS (Or.inr sz_bw) all0))
  have Vx1154 : Arv Z T1154.heap bw kb1138 .byte 34 (own_vs [67, 108, 105, 101, 110, 116, 91, 105, 100, 61, ca, cb, 44, 32, 114, 101, 100, 105, 114, 101, 99, 116, 85, 114, 105, 115, 61, 91, cu, 93, 0, 0, 0, 0]) (.int 0) := Vb1154
  have Fx1154 : Fld Z T1154.heap q1 "java/lang/AbstractStringBuilder" "count" "I" (.int 30) := Fn1154
  obtain ⟨l3, T1155, h1155, ki1155, lb3, kb1155, X1155, e1155, E1155, hS, hki1155, hZ, hown, Es1155, Fs1155, Gs1155, Vs1155, -, -, hIB, hLit1155, st1155⟩ := ldcSVL X1154 hx hZ hown (own_h hw 427 rfl) (fun d hd => hw d (own_wS d hd)) rfl hS (Nat.le_trans (Nat.le_trans hki1129 K1138.1) K1154.1) (by rw [hh, ← hn0]; exact N1154) (fun b cl q => by rw [hh]; exact O0.2.2 b cl q) hIB (by decide) hc3 hcw (vs := (own_vs [93])) (z := (1 : Int32)) own_ht3 (by decide) rfl (g := (mkF m 31 #[vR x] [(.ref q1)])) rfl (own_k hby 31 (.ldc 70) 2) (n := 4) (by decide +kernel) (by decide) (by decide) (by decide)
  have K1155 : Keep h0 h1155 [] := KK1154.ext E1155
  have f1156 := ((f1142.keep K1154 (allS (Nat.le_trans hno g_q1) (allS (Nat.le_trans hno g_bw) all0))).ext E1155)
  have f1157 := (EQ1154.ext E1155)
  have f1158 := (Fv1154.ext E1155)
  have f1159 := (Fc1154.ext E1155)
  have f1160 := (Fx1154.ext E1155)
  have f1161 := (Eb1154.ext E1155)
  have f1162 := (Vx1154.ext E1155)
  have z1163 := (Nat.le_trans (Nat.le_trans z1153 K1154.1) E1155.1)
  obtain ⟨v1164, T1164, L1164, X1164, hQ1164, st1164⟩ := own_cV1 X1155 hx hZ hw hown hml 241 242 244 243 245 222 rfl rfl rfl rfl rfl rfl f1157 (rm_sba hw no de em el ey q1 bw kb1138 34 (own_vs [67, 108, 105, 101, 110, 116, 91, 105, 100, 61, ca, cb, 44, 32, 114, 101, 100, 105, 114, 101, 99, 116, 85, 114, 105, 115, 61, 91, cu, 93, 0, 0, 0, 0]) 30 l3 lb3 kb1155 1 (own_vs [93]) h1155 n0 z1163 SS hno f1156 ⟨f1157, f1158, f1159, f1160, f1161, f1162⟩ ⟨Es1155, Fs1155, Gs1155, Vs1155⟩ g_q1 g_bw (by decide) (by decide) rfl rfl) e1155 (W := 0) (g := (mkF m 33 #[vR x] [(.ref l3), (.ref q1)])) rfl (argsL := [(.ref l3)]) (rest := []) pd__Ljava_lang_String__Ljava_lang_StringBuilder_ (own_k hby 33 (.invokevirtual 61) 3)
  obtain ⟨rfl, N1164q, K1164, EQ1164, Fv1164, Fc1164, Fn1164, Eb1164, Vb1164⟩ := hQ1164
  have N1164 := Fr.app N1154 N1164q
  have KK1164 : Keep h0 T1164.heap [] := K1155.trans K1164 (allS (Or.inr sz_q1) (allS (Or.inr sz_bw) all0))
  have Vx1164 : Arv Z T1164.heap bw kb1138 .byte 34 (own_vs [67, 108, 105, 101, 110, 116, 91, 105, 100, 61, ca, cb, 44, 32, 114, 101, 100, 105, 114, 101, 99, 116, 85, 114, 105, 115, 61, 91, cu, 93, 93, 0, 0, 0]) (.int 0) := Vb1164
  have Fx1164 : Fld Z T1164.heap q1 "java/lang/AbstractStringBuilder" "count" "I" (.int 31) := Fn1164
  have f1165 := (f1156.keep K1164 (allS (Nat.le_trans hno g_q1) (allS (Nat.le_trans hno g_bw) all0)))
  have z1166 := (Nat.le_trans z1163 K1164.1)
  obtain ⟨v1167, T1167, L1167, X1167, hQ1167, st1167⟩ := own_cV1 X1164 hx hZ hw hown hml 428 393 395 394 396 222 rfl rfl rfl rfl rfl rfl EQ1164 (rm_sbt hw no de em el ey q1 bw kb1138 34 (own_vs [67, 108, 105, 101, 110, 116, 91, 105, 100, 61, ca, cb, 44, 32, 114, 101, 100, 105, 114, 101, 99, 116, 85, 114, 105, 115, 61, 91, cu, 93, 93, 0, 0, 0]) 31 T1164.heap n0 z1166 SS hno f1165 ⟨EQ1164, Fv1164, Fc1164, Fx1164, Eb1164, Vx1164⟩ (by decide) (by decide) rfl) rfl (W := 0) (g := (mkF m 36 #[vR x] [(.ref q1)])) rfl (argsL := []) (rest := []) pd___Ljava_lang_String_ (own_k hby 36 (.invokevirtual 72) 3)
  obtain ⟨a1, b1, kb1167, rfl, N1167q, K1167, sza11167, szb11167, E1167, F1167, G1167, V1167⟩ := hQ1167
  have N1167 := Fr.app N1164 N1167q
  have KK1167 : Keep h0 T1167.heap [] := KK1164.trans K1167 all0
  have sz_a1 : h0.size ≤ a1 := Nat.le_trans KK1164.1 sza11167
  have sz_b1 : h0.size ≤ b1 := Nat.le_trans KK1164.1 szb11167
  have Vx1167 : Arv Z T1167.heap b1 kb1167 .byte 31 (own_vs [67, 108, 105, 101, 110, 116, 91, 105, 100, 61, ca, cb, 44, 32, 114, 101, 100, 105, 114, 101, 99, 116, 85, 114, 105, 115, 61, 91, cu, 93, 93]) (.int 0) := V1167
  have S1168 : Ga T1167 (mkF m 39 #[vR x] [(.ref a1)]) := nx S1139 fun t kt => st1141 t (st1154 t (st1155 t (st1164 t (st1167 t kt))))
  obtain ⟨fs, hr, hrun, hended, hRE⟩ := X1167.leaveW hS (n := _) (Nat.le_trans (Nat.le_trans hki1155 K1164.1) K1167.1) (v := some (.ref a1)) (fun h => by first | rfl | (rw [Bd.returns] at h; cases h))
  refine ⟨_, _, (og S1168) _ ?_, hrun, hended, _, _, rfl, ?_, hRE.1, hRE.2.1, hRE.2.2.1, hRE.2.2.2.mono (by decide) (by decide)⟩
  · exact retOut X1167 hx Bd.returns rfl (Or.inr (Or.inr (Or.inr (Or.inr ⟨rfl, rfl, rfl⟩)))) (own_k hby 39 (.areturn) 1) hr
  · show Q_cts1 Z ca cb cu h0 n0 _ T1167.vm T1167.heap _
    exact ⟨a1, b1, kb1167, rfl, N1167, KK1167, sz_a1, sz_b1, E1167, F1167, G1167, Vx1167⟩
abbrev R_cts2 : Room := { frames := 9, cells := 16, slots := 402, locals := 132 }
def Q_cts2 (Z : State) (ca : Int32) (cb : Int32)(cu : Int32) (cv : Int32) (h0 : Heap) (n0 : Nat) (v : Option Value) (vm : Vm) (h : Heap) (L : List Loc) : Prop := ∃ (a b : Addr) (k' : ClassId), v = some (.ref a) ∧ Fr n0 L ∧ Keep h0 h [] ∧ h0.size ≤ a ∧ h0.size ≤ b ∧ own_Str Z h a b k' (34 : Int32) (own_vs [67, 108, 105, 101, 110, 116, 91, 105, 100, 61, ca, cb, 44, 32, 114, 101, 100, 105, 114, 101, 99, 116, 85, 114, 105, 115, 61, 91, cu, 44, 32, cv, 93, 93])
theorem rm_cts2 {l : Launch} {Z : State} {a0 : Array Value} (hw : own_W a0 Z) (no : Nat) (de : Addr) (em : Addr) (el : Addr) (ey : Addr) (x : Addr) (a : Addr) (ab : Addr) (ak : ClassId) (ca : Int32) (cb : Int32) (r : Addr) (u : Addr) (v' : Addr) (ub : Addr) (uk : ClassId) (cu : Int32) (vb : Addr) (vk : ClassId) (cv : Int32) (h0 : Heap) (n0 : Nat) (Z0 : n0 ≤ h0.size) (SS : own_St Z de em el ey) (hno : no ≤ n0) (O0 : Old Z no h0) (Fi : Fld Z h0 x "com/example/passlane/passlane/oidc/Client" "id" "Ljava/lang/String;" (.ref a)) (Fr_ : Fld Z h0 x "com/example/passlane/passlane/oidc/Client" "redirectUris" "Ljava/util/List;" (.ref r)) (HS : own_Str Z h0 a ab ak (2 : Int32) (own_vs [ca, cb])) (HL : own_L Z h0 r (.ref u) (.ref v')) (HSu : own_Str Z h0 u ub uk (1 : Int32) (own_vs [cu])) (HSv : own_Str Z h0 v' vb vk (1 : Int32) (own_vs [cv])) (hc1 : Jvm.Lit.constHeld Z "com/example/passlane/passlane/oidc/Client" 59) (hc2 : Jvm.Lit.constHeld Z "com/example/passlane/passlane/oidc/Client" 65) (hc3 : Jvm.Lit.constHeld Z "com/example/passlane/passlane/oidc/Client" 70) (hc0 : Jvm.Lit.constHeld Z "java/util/AbstractCollection" 92) (hcw : Jvm.Lit.compactW.before a0 Z = true) (hn0 : n0 = h0.size) :
    MetFree l y35 (head1 [Jvm.Cond.code y35 prog_8_method_3_code 1 (some (.object "java/lang/String"))] R_cts2) (fun aa U => aa = #[(.ref x)] ∧ Z.Warmed39 U.vm ∧ U.heap = h0 ∧ IB Z U.vm []) (fun _ _ _ _ _ => True) (fun _ U o U' => ∃ v L, o = .returned v ∧ Q_cts2 Z ca cb cu cv h0 n0 v U'.vm U'.heap L ∧ ReturnedEndW U o U' L R_cts2.cells R_cts2.slots) := by
  refine MetFree.of_bodySF (plainFor_of_name pn_cts0) hisR ?_
  intro p e s m args below meth c s₁ Bd hml0 hP hK
  obtain ⟨rfl, hZ, hh, hPv⟩ := hP
  have hx := Bd.exec
  have hby := Bd.bytes
  have hml : c.maxLocals = 1 := hml0
  have hown : s.vm.findClass "com/example/passlane/passlane/oidc/Client" = some m.cls := findClass_of_methodNamed Bd.named
  have hnm := (name_of_methodNamed Bd.named Bd.method).1
  have X0 : Stand p l e R_cts2 (s.setVm s.vm) m #[(.ref x)] below meth c s₁ [] 0 0 := Stand.of_body Bd
  have e0 : s₁.heap = h0 := by rw [← hh, Bd.state]; rfl
  have N0 := Fr.nil n0
  obtain ⟨Ga, Sa, nx, og⟩ := own_ga (p := p) (e := e) (below := below) s₁ (eF_2 m x)
  have S0 : Ga s₁ (mkF m 0 #[vR x] []) := nx Sa fun t k => castTop (ef_2 m x) k
  have hZ : Z.Warmed39 (s.setVm s.vm).vm := hZ
  have hown : (s.setVm s.vm).vm.findClass "com/example/passlane/passlane/oidc/Client" = some m.cls := hown
  have hS : s.Since s.vm 0 := (State.WarmedH.refl s).since 0
  have hki0 := Nat.zero_le h0.size
  obtain ⟨⟨cz, S_cs, hcz⟩, ⟨kde, S_de, E_de, V_de⟩, ⟨kel, S_em, E_em, F_em, V_el⟩, S_ey, E_ey⟩ := id SS
  obtain ⟨E, F, G, V⟩ := HS
  obtain ⟨El, F0, F1⟩ := HL
  obtain ⟨Eu, Fu, Gu, Vu⟩ := HSu
  obtain ⟨Ev', Fv', Gv', Vv'⟩ := HSv
  obtain ⟨T1169, h1169, X1169, e1169, E1169, A1169, D1169, -, st1169⟩ := newO X0 hx hZ hown (own_h hw 220 rfl) (own_h hw 221 rfl) (own_h hw 222 rfl) e0 (g := (mkF m 0 #[vR x] [])) rfl (own_k hby 0 (.new 56) 3) (by decide) (by decide)
  obtain ⟨q1, g1169⟩ : ∃ z, z = h0.size := ⟨_, rfl⟩
  rw [← g1169] at A1169 D1169 st1169
  have ne1170 : a ≠ q1 := by rw [g1169]; exact Nat.ne_of_lt E.lt
  have ne1171 : r ≠ q1 := by rw [g1169]; exact Nat.ne_of_lt El.lt
  have ne1172 : u ≠ q1 := by rw [g1169]; exact Nat.ne_of_lt Eu.lt
  have ne1173 : v' ≠ q1 := by rw [g1169]; exact Nat.ne_of_lt Ev'.lt
  have ne1174 : ab ≠ q1 := by rw [g1169]; exact Nat.ne_of_lt V.lt
  have ne1175 : ub ≠ q1 := by rw [g1169]; exact Nat.ne_of_lt Vu.lt
  have ne1176 : vb ≠ q1 := by rw [g1169]; exact Nat.ne_of_lt Vv'.lt
  have ne1177 : x ≠ q1 := by rw [g1169]; exact Nat.ne_of_lt Fi.lt
  have g_q1 : n0 ≤ q1 := Nat.le_trans Z0 (Nat.le_of_eq g1169.symm)
  have sz_q1 : h0.size ≤ q1 := Nat.le_trans (Keep.refl h0 []).1 (Nat.le_of_eq g1169.symm)
  have K1169 : Keep h0 h1169 [] := (Keep.refl h0 []).ext E1169
  have F_value_q1 : Fld Z h1169 q1 "java/lang/AbstractStringBuilder" "value" "[B" .null := D1169 (Or.inl (own_h hw 235 rfl)) (ty := (.array .byte)) (by decide)
  have F_coder_q1 : Fld Z h1169 q1 "java/lang/AbstractStringBuilder" "coder" "B" (.int 0) := D1169 (Or.inl (own_h hw 237 rfl)) (ty := .byte) (by decide)
  have F_count_q1 : Fld Z h1169 q1 "java/lang/AbstractStringBuilder" "count" "I" (.int 0) := D1169 (Or.inl (own_h hw 262 rfl)) (ty := .int) (by decide)
  have S1178 : Ga T1169 (mkF m 4 #[vR x] [(.ref q1), (.ref q1)]) := nx S0 fun t kt => st1169 t (by
    show Sp p e below T1169 (mkF m 3 #[vR x] [(.ref q1)]) _
    refine XS.dup X1169.here hx rfl (own_k hby 3 (.dup) 1) rfl rfl ?_
    exact kt)
  have f1179 := (O0.ext E1169)
  have z1180 := (Nat.le_trans Z0 E1169.1)
  obtain ⟨v1181, T1181, L1181, X1181, hQ1181, st1181⟩ := own_cI X1169 hx hZ hw hown hml 223 224 225 222 rfl rfl rfl rfl rfl (a := q1) (rm_sbi hw no de em el ey q1 h1169 n0 z1180 SS hno f1179 A1169 F_value_q1 F_coder_q1 F_count_q1 g_q1) e1169 (W := 1) (g := (mkF m 4 #[vR x] [(.ref q1), (.ref q1)])) rfl (argsL := []) (rest := [(.ref q1)]) pd___V (own_k hby 4 (.invokespecial 58) 3)
  obtain ⟨bv1, kb1181, rfl, N1181q, K1181, szb1181, EQ1181, Fv1181, Fc1181, Fn1181, Eb1181, Vb1181⟩ := hQ1181
  have N1181 := Fr.app N0 N1181q
  have KK1181 : Keep h0 T1181.heap [] := K1169.trans K1181 (allS (Or.inr sz_q1) all0)
  have sz_bv1 : h0.size ≤ bv1 := Nat.le_trans K1169.1 szb1181
  have g_bv1 : n0 ≤ bv1 := Nat.le_trans z1180 szb1181
  obtain ⟨l1, T1182, h1182, ki1182, lb1, kb1182, X1182, e1182, E1182, hS, hki1182, hZ, hown, Es1182, Fs1182, Gs1182, Vs1182, -, -, hIB, hLit1182, st1182⟩ := ldcSVL X1181 hx hZ hown (own_h hw 238 rfl) (fun d hd => hw d (own_wS d hd)) rfl hS (Nat.le_trans (Nat.le_trans hki0 E1169.1) K1181.1) (by rw [hh, ← hn0]; exact N1181) (fun b cl q => by rw [hh]; exact O0.2.2 b cl q) hPv (own_not _) hc1 hcw (vs := (own_vs [67, 108, 105, 101, 110, 116, 91, 105, 100, 61])) (z := (10 : Int32)) own_ht1 (by decide) rfl (g := (mkF m 7 #[vR x] [(.ref q1)])) rfl (own_k hby 7 (.ldc 59) 2) (n := 40) (by decide +kernel) (by decide) (by decide) (by decide)
  have K1182 : Keep h0 h1182 [] := KK1181.ext E1182
  have f1183 := ((f1179.keep K1181 (allS (Nat.le_trans hno g_q1) all0)).ext E1182)
  have f1184 := (EQ1181.ext E1182)
  have f1185 := (Fv1181.ext E1182)
  have f1186 := (Fc1181.ext E1182)
  have f1187 := (Fn1181.ext E1182)
  have f1188 := (Eb1181.ext E1182)
  have f1189 := (Vb1181.ext E1182)
  have z1190 := (Nat.le_trans (Nat.le_trans z1180 K1181.1) E1182.1)
  obtain ⟨v1191, T1191, L1191, X1191, hQ1191, st1191⟩ := own_cV1 X1182 hx hZ hw hown hml 241 242 244 243 245 222 rfl rfl rfl rfl rfl rfl f1184 (rm_sba hw no de em el ey q1 bv1 kb1181 16 (own_vs [0, 0, 0, 0, 0, 0, 0, 0, 0, 0, 0, 0, 0, 0, 0, 0]) 0 l1 lb1 kb1182 10 (own_vs [67, 108, 105, 101, 110, 116, 91, 105, 100, 61]) h1182 n0 z1190 SS hno f1183 ⟨f1184, f1185, f1186, f1187, f1188, f1189⟩ ⟨Es1182, Fs1182, Gs1182, Vs1182⟩ g_q1 g_bv1 (by decide) (by decide) rfl rfl) e1182 (W := 0) (g := (mkF m 9 #[vR x] [(.ref l1), (.ref q1)])) rfl (argsL := [(.ref l1)]) (rest := []) pd__Ljava_lang_String__Ljava_lang_StringBuilder_ (own_k hby 9 (.invokevirtual 61) 3)
  obtain ⟨rfl, N1191q, K1191, EQ1191, Fv1191, Fc1191, Fn1191, Eb1191, Vb1191⟩ := hQ1191
  have N1191 := Fr.app N1181 N1191q
  have KK1191 : Keep h0 T1191.heap [] := K1182.trans K1191 (allS (Or.inr sz_q1) (allS (Or.inr sz_bv1) all0))
  have Vx1191 : Arv Z T1191.heap bv1 kb1181 .byte 16 (own_vs [67, 108, 105, 101, 110, 116, 91, 105, 100, 61, 0, 0, 0, 0, 0, 0]) (.int 0) := Vb1191
  have Fx1191 : Fld Z T1191.heap q1 "java/lang/AbstractStringBuilder" "count" "I" (.int 10) := Fn1191
  have S1192 : Ga T1191 (mkF m 13 #[vR x] [(.ref x), (.ref q1)]) := nx S1178 fun t kt => st1181 t (st1182 t (st1191 t (by
    show Sp p e below T1191 (mkF m 12 #[vR x] [(.ref q1)]) _
    refine xa X1191.here hx hby 12 0 rfl ?_
    exact kt)))
  have ne1193 : x ≠ bv1 := Nat.ne_of_lt (Nat.lt_of_lt_of_le ((Fi.ext E1169).lt) szb1181)
  have f1194 := ((((Fi.ext E1169).keep K1181 (ninS ne1177 nin0)).ext E1182).keep K1191 (ninS ne1177 (ninS ne1193 nin0)))
  obtain ⟨T1195, X1195, e1195, st1195⟩ := getF X1191 hx hZ hown (host := "") (Or.inl (own_h hw 205 rfl)) Via.refl rfl f1194 (g := (mkF m 13 #[vR x] [(.ref x), (.ref q1)])) rfl rfl (own_k hby 13 (.getfield 13) 3)
  have f1196 := (f1183.keep K1191 (allS (Nat.le_trans hno g_q1) (allS (Nat.le_trans hno g_bv1) all0)))
  have f1197 := ((((E.ext E1169).keep K1181).ext E1182).keep K1191)
  have ne1198 : a ≠ bv1 := Nat.ne_of_lt (Nat.lt_of_lt_of_le ((E.ext E1169).lt) szb1181)
  have f1199 := ((((F.ext E1169).keep K1181 (ninS ne1170 nin0)).ext E1182).keep K1191 (ninS ne1170 (ninS ne1198 nin0)))
  have f1200 := ((((G.ext E1169).keep K1181 (ninS ne1170 nin0)).ext E1182).keep K1191 (ninS ne1170 (ninS ne1198 nin0)))
  have ne1201 : ab ≠ bv1 := Nat.ne_of_lt (Nat.lt_of_lt_of_le ((V.ext E1169).lt) szb1181)
  have f1202 := ((((V.ext E1169).keep K1181 (ninS ne1174 nin0)).ext E1182).keep K1191 (ninS ne1174 (ninS ne1201 nin0)))
  have z1203 := (Nat.le_trans z1190 K1191.1)
  obtain ⟨v1204, T1204, L1204, X1204, hQ1204, st1204⟩ := own_cV1 X1195 hx hZ hw hown hml 241 242 244 243 245 222 rfl rfl rfl rfl rfl rfl EQ1191 (rm_sba hw no de em el ey q1 bv1 kb1181 16 (own_vs [67, 108, 105, 101, 110, 116, 91, 105, 100, 61, 0, 0, 0, 0, 0, 0]) 10 a ab ak 2 (own_vs [ca, cb]) T1191.heap n0 z1203 SS hno f1196 ⟨EQ1191, Fv1191, Fc1191, Fx1191, Eb1191, Vx1191⟩ ⟨f1197, f1199, f1200, f1202⟩ g_q1 g_bv1 (by decide) (by decide) rfl rfl) e1195 (W := 0) (g := (mkF m 16 #[vR x] [(.ref a), (.ref q1)])) rfl (argsL := [(.ref a)]) (rest := []) pd__Ljava_lang_String__Ljava_lang_StringBuilder_ (own_k hby 16 (.invokevirtual 61) 3)
  obtain ⟨rfl, N1204q, K1204, EQ1204, Fv1204, Fc1204, Fn1204, Eb1204, Vb1204⟩ := hQ1204
  have N1204 := Fr.app N1191 N1204q
  have KK1204 : Keep h0 T1204.heap [] := KK1191.trans K1204 (allS (Or.inr sz_q1) (allS (Or.inr sz_bv1) all0))
  have Vx1204 : Arv Z T1204.heap bv1 kb1181 .byte 16 (own_vs [67, 108, 105, 101, 110, 116, 91, 105, 100, 61, ca, cb, 0, 0, 0, 0]) (.int 0) := Vb1204
  have Fx1204 : Fld Z T1204.heap q1 "java/lang/AbstractStringBuilder" "count" "I" (.int 12) := Fn1204
  obtain ⟨l2, T1205, h1205, ki1205, lb2, kb1205, X1205, e1205, E1205, hS, hki1205, hZ, hown, Es1205, Fs1205, Gs1205, Vs1205, -, -, hIB, hLit1205, st1205⟩ := ldcSVL X1204 hx hZ hown (own_h hw 285 rfl) (fun d hd => hw d (own_wS d hd)) rfl hS (Nat.le_trans (Nat.le_trans hki1182 K1191.1) K1204.1) (by rw [hh, ← hn0]; exact N1204) (fun b cl q => by rw [hh]; exact O0.2.2 b cl q) hIB (by decide) hc2 hcw (vs := (own_vs [44, 32, 114, 101, 100, 105, 114, 101, 99, 116, 85, 114, 105, 115, 61])) (z := (15 : Int32)) own_ht2 (by decide) rfl (g := (mkF m 19 #[vR x] [(.ref q1)])) rfl (own_k hby 19 (.ldc 65) 2) (n := 60) (by decide +kernel) (by decide) (by decide) (by decide)
  have K1205 : Keep h0 h1205 [] := KK1204.ext E1205
  have f1206 := ((f1196.keep K1204 (allS (Nat.le_trans hno g_q1) (allS (Nat.le_trans hno g_bv1) all0))).ext E1205)
  have f1207 := (EQ1204.ext E1205)
  have f1208 := (Fv1204.ext E1205)
  have f1209 := (Fc1204.ext E1205)
  have f1210 := (Fx1204.ext E1205)
  have f1211 := (Eb1204.ext E1205)
  have f1212 := (Vx1204.ext E1205)
  have z1213 := (Nat.le_trans (Nat.le_trans z1203 K1204.1) E1205.1)
  obtain ⟨v1214, T1214, L1214, X1214, hQ1214, st1214⟩ := own_cV1 X1205 hx hZ hw hown hml 241 242 244 243 245 222 rfl rfl rfl rfl rfl rfl f1207 (rm_sbx hw no de em el ey q1 bv1 kb1181 (own_vs [67, 108, 105, 101, 110, 116, 91, 105, 100, 61, ca, cb, 0, 0, 0, 0]) l2 lb2 kb1205 (own_vs [44, 32, 114, 101, 100, 105, 114, 101, 99, 116, 85, 114, 105, 115, 61]) h1205 n0 z1213 SS hno f1206 ⟨f1207, f1208, f1209, f1210, f1211, f1212⟩ ⟨Es1205, Fs1205, Gs1205, Vs1205⟩ g_q1 rfl rfl) e1205 (W := 0) (g := (mkF m 21 #[vR x] [(.ref l2), (.ref q1)])) rfl (argsL := [(.ref l2)]) (rest := []) pd__Ljava_lang_String__Ljava_lang_StringBuilder_ (own_k hby 21 (.invokevirtual 61) 3)
  obtain ⟨bw, kb1214, rfl, N1214q, K1214, szb1214, EQ1214, Fv1214, Fc1214, Fn1214, Eb1214, Vb1214⟩ := hQ1214
  have N1214 := Fr.app N1204 N1214q
  have KK1214 : Keep h0 T1214.heap [] := K1205.trans K1214 (allS (Or.inr sz_q1) all0)
  have sz_bw : h0.size ≤ bw := Nat.le_trans K1205.1 szb1214
  have g_bw : n0 ≤ bw := Nat.le_trans z1213 szb1214
  have Vx1214 : Arv Z T1214.heap bw kb1214 .byte 34 (own_vs [67, 108, 105, 101, 110, 116, 91, 105, 100, 61, ca, cb, 44, 32, 114, 101, 100, 105, 114, 101, 99, 116, 85, 114, 105, 115, 61, 0, 0, 0, 0, 0, 0, 0]) (.int 0) := Vb1214
  have Fx1214 : Fld Z T1214.heap q1 "java/lang/AbstractStringBuilder" "count" "I" (.int 27) := Fn1214
  have S1215 : Ga T1214 (mkF m 25 #[vR x] [(.ref x), (.ref q1)]) := nx S1192 fun t kt => st1195 t (st1204 t (st1205 t (st1214 t (by
    show Sp p e below T1214 (mkF m 24 #[vR x] [(.ref q1)]) _
    refine xa X1214.here hx hby 24 0 rfl ?_
    exact kt))))
  have f1216 := (((((((Fr_.ext E1169).keep K1181 (ninS ne1177 nin0)).ext E1182).keep K1191 (ninS ne1177 (ninS ne1193 nin0))).keep K1204 (ninS ne1177 (ninS ne1193 nin0))).ext E1205).keep K1214 (ninS ne1177 nin0))
  obtain ⟨T1217, X1217, e1217, st1217⟩ := getF X1214 hx hZ hown (host := "") (Or.inl (own_h hw 209 rfl)) Via.refl rfl f1216 (g := (mkF m 25 #[vR x] [(.ref x), (.ref q1)])) rfl rfl (own_k hby 25 (.getfield 22) 3)
  have f1218 := (f1206.keep K1214 (allS (Nat.le_trans hno g_q1) all0))
  have f1219 := (((((((El.ext E1169).keep K1181).ext E1182).keep K1191).keep K1204).ext E1205).keep K1214)
  have ne1220 : r ≠ bv1 := Nat.ne_of_lt (Nat.lt_of_lt_of_le ((El.ext E1169).lt) szb1181)
  have f1221 := (((((((F0.ext E1169).keep K1181 (ninS ne1171 nin0)).ext E1182).keep K1191 (ninS ne1171 (ninS ne1220 nin0))).keep K1204 (ninS ne1171 (ninS ne1220 nin0))).ext E1205).keep K1214 (ninS ne1171 nin0))
  have f1222 := (((((((F1.ext E1169).keep K1181 (ninS ne1171 nin0)).ext E1182).keep K1191 (ninS ne1171 (ninS ne1220 nin0))).keep K1204 (ninS ne1171 (ninS ne1220 nin0))).ext E1205).keep K1214 (ninS ne1171 nin0))
  have f1223 := (((((((Eu.ext E1169).keep K1181).ext E1182).keep K1191).keep K1204).ext E1205).keep K1214)
  have ne1224 : u ≠ bv1 := Nat.ne_of_lt (Nat.lt_of_lt_of_le ((Eu.ext E1169).lt) szb1181)
  have f1225 := (((((((Fu.ext E1169).keep K1181 (ninS ne1172 nin0)).ext E1182).keep K1191 (ninS ne1172 (ninS ne1224 nin0))).keep K1204 (ninS ne1172 (ninS ne1224 nin0))).ext E1205).keep K1214 (ninS ne1172 nin0))
  have f1226 := (((((((Gu.ext E1169).keep K1181 (ninS ne1172 nin0)).ext E1182).keep K1191 (ninS ne1172 (ninS ne1224 nin0))).keep K1204 (ninS ne1172 (ninS ne1224 nin0))).ext E1205).keep K1214 (ninS ne1172 nin0))
  have ne1227 : ub ≠ bv1 := Nat.ne_of_lt (Nat.lt_of_lt_of_le ((Vu.ext E1169).lt) szb1181)
  have f1228 := (((((((Vu.ext E1169).keep K1181 (ninS ne1175 nin0)).ext E1182).keep K1191 (ninS ne1175 (ninS ne1227 nin0))).keep K1204 (ninS ne1175 (ninS ne1227 nin0))).ext E1205).keep K1214 (ninS ne1175 nin0))
  have f1229 := (((((((Ev'.ext E1169).keep K1181).ext E1182).keep K1191).keep K1204).ext E1205).keep K1214)
  have ne1230 : v' ≠ bv1 := Nat.ne_of_lt (Nat.lt_of_lt_of_le ((Ev'.ext E1169).lt) szb1181)
  have f1231 := (((((((Fv'.ext E1169).keep K1181 (ninS ne1173 nin0)).ext E1182).keep K1191 (ninS ne1173 (ninS ne1230 nin0))).keep K1204 (ninS ne1173 (ninS ne1230 nin0))).ext E1205).keep K1214 (ninS ne1173 nin0))
  have f1232 := (((((((Gv'.ext E1169).keep K1181 (ninS ne1173 nin0)).ext E1182).keep K1191 (ninS ne1173 (ninS ne1230 nin0))).keep K1204 (ninS ne1173 (ninS ne1230 nin0))).ext E1205).keep K1214 (ninS ne1173 nin0))
  have ne1233 : vb ≠ bv1 := Nat.ne_of_lt (Nat.lt_of_lt_of_le ((Vv'.ext E1169).lt) szb1181)
  have f1234 := (((((((Vv'.ext E1169).keep K1181 (ninS ne1176 nin0)).ext E1182).keep K1191 (ninS ne1176 (ninS ne1233 nin0))).keep K1204 (ninS ne1176 (ninS ne1233 nin0))).ext E1205).keep K1214 (ninS ne1176 nin0))
  have z1235 := (Nat.le_trans z1213 K1214.1)
  obtain ⟨v1236, T1236, L1236, X1236, hQ1236, st1236⟩ := own_cV1 X1217 hx hZ hw hown hml 301 302 304 303 305 222 rfl rfl rfl rfl rfl rfl EQ1214 (rm_sao2 hw no de em el ey q1 bw kb1214 (own_vs [67, 108, 105, 101, 110, 116, 91, 105, 100, 61, ca, cb, 44, 32, 114, 101, 100, 105, 114, 101, 99, 116, 85, 114, 105, 115, 61, 0, 0, 0, 0, 0, 0, 0]) r u v' ub uk cu vb vk cv T1214.heap n0 z1235 SS hno f1218 ⟨EQ1214, Fv1214, Fc1214, Fx1214, Eb1214, Vx1214⟩ ⟨f1219, f1221, f1222⟩ ⟨f1223, f1225, f1226, f1228⟩ ⟨f1229, f1231, f1232, f1234⟩ g_q1 g_bw rfl) e1217 (W := 0) (g := (mkF m 28 #[vR x] [(.ref r), (.ref q1)])) rfl (argsL := [(.ref r)]) (rest := []) pd__Ljava_lang_Object__Ljava_lang_StringBuilder_ (own_k hby 28 (.invokevirtual 67) 3)
  obtain ⟨rfl, N1236q, K1236, EQ1236, Fv1236, Fc1236, Fn1236, Eb1236, Vb1236⟩ := hQ1236
  have N1236 := Fr.app N1214 N1236q
  have KK1236 : Keep h0 T1236.heap [] := KK1214.trans K1236 (allS (Or.inr sz_q1) (allS (Or.inr sz_bw) all0))
  have Vx1236 : Arv Z T1236.heap bw kb1214 .byte 34 (own_vs [67, 108, 105, 101, 110, 116, 91, 105, 100, 61, ca, cb, 44, 32, 114, 101, 100, 105, 114, 101, 99, 116, 85, 114, 105, 115, 61, 91, cu, 44, 32, cv, 93, 0]) (.int 0) := Vb1236
  have Fx1236 : Fld Z T1236.heap q1 "java/lang/AbstractStringBuilder" "count" "I" (.int 33) := Fn1236
  obtain ⟨l3, T1237, h1237, ki1237, lb3, kb1237, X1237, e1237, E1237, hS, hki1237, hZ, hown, Es1237, Fs1237, Gs1237, Vs1237, -, -, hIB, hLit1237, st1237⟩ := ldcSVL X1236 hx hZ hown (own_h hw 427 rfl) (fun d hd => hw d (own_wS d hd)) rfl hS (Nat.le_trans (Nat.le_trans hki1205 K1214.1) K1236.1) (by rw [hh, ← hn0]; exact N1236) (fun b cl q => by rw [hh]; exact O0.2.2 b cl q) hIB (by decide) hc3 hcw (vs := (own_vs [93])) (z := (1 : Int32)) own_ht3 (by decide) rfl (g := (mkF m 31 #[vR x] [(.ref q1)])) rfl (own_k hby 31 (.ldc 70) 2) (n := 4) (by decide +kernel) (by decide) (by decide) (by decide)
  have K1237 : Keep h0 h1237 [] := KK1236.ext E1237
  have f1238 := ((f1218.keep K1236 (allS (Nat.le_trans hno g_q1) (allS (Nat.le_trans hno g_bw) all0))).ext E1237)
  have f1239 := (EQ1236.ext E1237)
  have f1240 := (Fv1236.ext E1237)
  have f1241 := (Fc1236.ext E1237)
  have f1242 := (Fx1236.ext E1237)
  have f1243 := (Eb1236.ext E1237)
  have f1244 := (Vx1236.ext E1237)
  have z1245 := (Nat.le_trans (Nat.le_trans z1235 K1236.1) E1237.1)
  obtain ⟨v1246, T1246, L1246, X1246, hQ1246, st1246⟩ := own_cV1 X1237 hx hZ hw hown hml 241 242 244 243 245 222 rfl rfl rfl rfl rfl rfl f1239 (rm_sba hw no de em el ey q1 bw kb1214 34 (own_vs [67, 108, 105, 101, 110, 116, 91, 105, 100, 61, ca, cb, 44, 32, 114, 101, 100, 105, 114, 101, 99, 116, 85, 114, 105, 115, 61, 91, cu, 44, 32, cv, 93, 0]) 33 l3 lb3 kb1237 1 (own_vs [93]) h1237 n0 z1245 SS hno f1238 ⟨f1239, f1240, f1241, f1242, f1243, f1244⟩ ⟨Es1237, Fs1237, Gs1237, Vs1237⟩ g_q1 g_bw (by decide) (by decide) rfl rfl) e1237 (W := 0) (g := (mkF m 33 #[vR x] [(.ref l3), (.ref q1)])) rfl (argsL := [(.ref l3)]) (rest := []) pd__Ljava_lang_String__Ljava_lang_StringBuilder_ (own_k hby 33 (.invokevirtual 61) 3)
  obtain ⟨rfl, N1246q, K1246, EQ1246, Fv1246, Fc1246, Fn1246, Eb1246, Vb1246⟩ := hQ1246
  have N1246 := Fr.app N1236 N1246q
  have KK1246 : Keep h0 T1246.heap [] := K1237.trans K1246 (allS (Or.inr sz_q1) (allS (Or.inr sz_bw) all0))
  have Vx1246 : Arv Z T1246.heap bw kb1214 .byte 34 (own_vs [67, 108, 105, 101, 110, 116, 91, 105, 100, 61, ca, cb, 44, 32, 114, 101, 100, 105, 114, 101, 99, 116, 85, 114, 105, 115, 61, 91, cu, 44, 32, cv, 93, 93]) (.int 0) := Vb1246
  have Fx1246 : Fld Z T1246.heap q1 "java/lang/AbstractStringBuilder" "count" "I" (.int 34) := Fn1246
  have f1247 := (f1238.keep K1246 (allS (Nat.le_trans hno g_q1) (allS (Nat.le_trans hno g_bw) all0)))
  have z1248 := (Nat.le_trans z1245 K1246.1)
  obtain ⟨v1249, T1249, L1249, X1249, hQ1249, st1249⟩ := own_cV1 X1246 hx hZ hw hown hml 428 393 395 394 396 222 rfl rfl rfl rfl rfl rfl EQ1246 (rm_sbt hw no de em el ey q1 bw kb1214 34 (own_vs [67, 108, 105, 101, 110, 116, 91, 105, 100, 61, ca, cb, 44, 32, 114, 101, 100, 105, 114, 101, 99, 116, 85, 114, 105, 115, 61, 91, cu, 44, 32, cv, 93, 93]) 34 T1246.heap n0 z1248 SS hno f1247 ⟨EQ1246, Fv1246, Fc1246, Fx1246, Eb1246, Vx1246⟩ (by decide) (by decide) rfl) rfl (W := 0) (g := (mkF m 36 #[vR x] [(.ref q1)])) rfl (argsL := []) (rest := []) pd___Ljava_lang_String_ (own_k hby 36 (.invokevirtual 72) 3)
  obtain ⟨a1, b1, kb1249, rfl, N1249q, K1249, sza11249, szb11249, E1249, F1249, G1249, V1249⟩ := hQ1249
  have N1249 := Fr.app N1246 N1249q
  have KK1249 : Keep h0 T1249.heap [] := KK1246.trans K1249 all0
  have sz_a1 : h0.size ≤ a1 := Nat.le_trans KK1246.1 sza11249
  have sz_b1 : h0.size ≤ b1 := Nat.le_trans KK1246.1 szb11249
  have Vx1249 : Arv Z T1249.heap b1 kb1249 .byte 34 (own_vs [67, 108, 105, 101, 110, 116, 91, 105, 100, 61, ca, cb, 44, 32, 114, 101, 100, 105, 114, 101, 99, 116, 85, 114, 105, 115, 61, 91, cu, 44, 32, cv, 93, 93]) (.int 0) := V1249
  have S1250 : Ga T1249 (mkF m 39 #[vR x] [(.ref a1)]) := nx S1215 fun t kt => st1217 t (st1236 t (st1237 t (st1246 t (st1249 t kt))))
  obtain ⟨fs, hr, hrun, hended, hRE⟩ := X1249.leaveW hS (n := _) (Nat.le_trans (Nat.le_trans hki1237 K1246.1) K1249.1) (v := some (.ref a1)) (fun h => by first | rfl | (rw [Bd.returns] at h; cases h))
  refine ⟨_, _, (og S1250) _ ?_, hrun, hended, _, _, rfl, ?_, hRE.1, hRE.2.1, hRE.2.2.1, hRE.2.2.2.mono (by decide) (by decide)⟩
  · exact retOut X1249 hx Bd.returns rfl (Or.inr (Or.inr (Or.inr (Or.inr ⟨rfl, rfl, rfl⟩)))) (own_k hby 39 (.areturn) 1) hr
  · show Q_cts2 Z ca cb cu cv h0 n0 _ T1249.vm T1249.heap _
    exact ⟨a1, b1, kb1249, rfl, N1249, KK1249, sz_a1, sz_b1, E1249, F1249, G1249, Vx1249⟩
abbrev R_cin0 : Room := { frames := 8, cells := 4, slots := 8, locals := 101 }
abbrev eF_23 (m : MethodId) (x0 : Addr) (x1 : Addr) (x2 : Addr) (x3 : Addr) (x4 : Addr) : JFrame := entryFrame m #[(.ref x0), (.ref x1), (.ref x2), (.ref x3), (.ref x4), .null] 6
theorem ef_23 (m : MethodId) (x0 : Addr) (x1 : Addr) (x2 : Addr) (x3 : Addr) (x4 : Addr) : entryFrame m #[(.ref x0), (.ref x1), (.ref x2), (.ref x3), (.ref x4), .null] 6 = mkF m 0 #[.val (.ref x0), .val (.ref x1), .val (.ref x2), .val (.ref x3), .val (.ref x4), .val .null] [] := by first | (simp [entryFrame, mkF, argsToLocals, Value.category]; done) | rfl
def Q_cin0 (Z : State) (em : Addr) (ey : Addr) (x : Addr) (a : Addr) (L1 : List Addr) (h0 : Heap) (n0 : Nat) (v : Option Value) (h : Heap) (L : List Loc) : Prop := ∃ r : Addr, v = none ∧ Fr n0 L ∧ Keep h0 h [x] ∧ Fld Z h x "com/example/passlane/passlane/oidc/Client" "id" "Ljava/lang/String;" (.ref a) ∧ Fld Z h x "com/example/passlane/passlane/oidc/Client" "redirectUris" "Ljava/util/List;" (.ref r) ∧ own_ILg Z h em ey r L1
theorem rm_cin0 {l : Launch} {Z : State} {a0 : Array Value} (hw : own_W a0 Z) (no : Nat) (de : Addr) (em : Addr) (el : Addr) (ey : Addr)(x : Addr) (a : Addr) (sx : Addr) (r1 : Addr) (r2 : Addr) (L1 : List Addr) (L2 : List Addr) (mir : Addr) (h0 : Heap) (n0 : Nat) (Z0 : n0 ≤ h0.size) (SS : own_St Z de em el ey) (hno : no ≤ n0) (O0 : Old Z no h0) (E0 : Exa Z h0 x "com/example/passlane/passlane/oidc/Client") (F0 : Fld Z h0 x "com/example/passlane/passlane/oidc/Client" "id" "Ljava/lang/String;" .null) (F1 : Fld Z h0 x "com/example/passlane/passlane/oidc/Client" "secret" "Ljava/lang/String;" .null) (F2 : Fld Z h0 x "com/example/passlane/passlane/oidc/Client" "redirectUris" "Ljava/util/List;" .null) (F3 : Fld Z h0 x "com/example/passlane/passlane/oidc/Client" "postLogoutRedirectUris" "Ljava/util/List;" .null) (F4 : Fld Z h0 x "com/example/passlane/passlane/oidc/Client" "backChannelLogoutUri" "Ljava/lang/String;" .null) (g_x : n0 ≤ x) (HG1 : own_ALg Z h0 de r1 L1) (HG2 : own_ALg Z h0 de r2 L2)(M : own_Mir Z mir) : own_Met l y20 prog_8_method_1_code 6 none R_cin0 Z h0 #[(.ref x), (.ref a), (.ref sx), (.ref r1), (.ref r2), .null] (Q_cin0 Z em ey x a L1 h0 n0) := by
  refine own_body (plainFor_of_name pn_cts0) fun p e s m below meth c s₁ hlk hret hnm hx hby hml hown hZ X0 e0 => ?_
  have N0 := Fr.nil n0
  obtain ⟨Ga, Sa, nx, og⟩ := own_ga (p := p) (e := e) (below := below) s₁ (eF_23 m x a sx r1 r2)
  have S0 : Ga s₁ (mkF m 0 #[vR x, vR a, vR sx, vR r1, vR r2, .val .null] []) := nx Sa fun t k => castTop (ef_23 m x a sx r1 r2) k
  obtain ⟨⟨cz, S_cs, hcz⟩, -⟩ := id SS
  have S1251 : Ga s₁ (mkF m 1 #[vR x, vR a, vR sx, vR r1, vR r2, .val .null] [(.ref x)]) := nx S0 fun t kt => by
    refine xa X0.here hx hby 0 0 rfl ?_
    exact kt
  obtain ⟨v1252, T1252, L1252, X1252, hQ1252, st1252⟩ := own_cI X0 hx hZ hw hown hml 110 111 114 113 rfl rfl rfl rfl rfl (a := x) (rm_rci hw x h0 n0 Z0 ) e0 (W := 0) (g := (mkF m 1 #[vR x, vR a, vR sx, vR r1, vR r2, .val .null] [(.ref x)])) rfl (argsL := []) (rest := []) pd___V (own_k hby 1 (.invokespecial 1) 3)
  obtain ⟨rfl, N1252q, e1252⟩ := hQ1252
  have N1252 := Fr.app N0 N1252q
  have S1253 : Ga T1252 (mkF m 5 #[vR x, vR a, vR sx, vR r1, vR r2, .val .null] [(.ref r1)]) := nx S1251 fun t kt => st1252 t (by
    show Sp p e below T1252 (mkF m 4 #[vR x, vR a, vR sx, vR r1, vR r2, .val .null] []) _
    refine xa X1252.here hx hby 4 3 rfl ?_
    exact kt)
  obtain ⟨v1254, T1254, L1254, X1254, hQ1254, st1254⟩ := own_cS X1252 hx hZ hw hown hml 116 117 119 118 rfl rfl rfl rfl (rm_cop hw no de em el ey r1 L1 mir h0 n0 Z0 SS hno O0 HG1 M) e1252 (W := 0) (g := (mkF m 5 #[vR x, vR a, vR sx, vR r1, vR r2, .val .null] [(.ref r1)])) rfl (argsL := [(.ref r1)]) (rest := []) pd__Ljava_util_Collection__Ljava_util_List_ (own_k hby 5 (.invokestatic 7) 3)
  obtain ⟨s1, rfl, N1254q, K1254, HI1254⟩ := hQ1254
  have N1254 := Fr.app N1252 N1254q
  have KK1254 : Keep h0 T1254.heap [x] := (Keep.refl h0 [x]).trans K1254 all0
  have HG2' := own_ALg.keep K1254 HG2
  have S1255 : Ga T1254 (mkF m 11 #[vR x, vR a, vR sx, vR s1, vR r2, .val .null] [(.ref r2)]) := nx S1253 fun t kt => st1254 t (by
    show Sp p e below T1254 (mkF m 8 #[vR x, vR a, vR sx, vR r1, vR r2, .val .null] [(.ref s1)]) _
    refine XS.astoreN X1254.here hx rfl (own_k hby 8 (.astore_n 3) 1) rfl rfl (l' := #[vR x, vR a, vR sx, vR s1, vR r2, .val .null]) rfl ?_
    refine XS.aload X1254.here hx rfl (own_k hby 9 (.aload 4) 2) rfl rfl ?_
    exact kt)
  have f1256 := (O0.keep K1254 all0)
  have z1257 := (Nat.le_trans Z0 K1254.1)
  obtain ⟨v1258, T1258, L1258, X1258, hQ1258, st1258⟩ := own_cS X1254 hx hZ hw hown hml 116 117 119 118 rfl rfl rfl rfl (rm_cop hw no de em el ey r2 L2 mir T1254.heap n0 z1257 SS hno f1256 HG2' M) rfl (W := 0) (g := (mkF m 11 #[vR x, vR a, vR sx, vR s1, vR r2, .val .null] [(.ref r2)])) rfl (argsL := [(.ref r2)]) (rest := []) pd__Ljava_util_Collection__Ljava_util_List_ (own_k hby 11 (.invokestatic 7) 3)
  obtain ⟨s2, rfl, N1258q, K1258, HJ1258⟩ := hQ1258
  have N1258 := Fr.app N1254 N1258q
  have KK1258 : Keep h0 T1258.heap [x] := KK1254.trans K1258 all0
  have I0 := own_ILg.keep K1258 HI1254
  have S1259 : Ga T1258 (mkF m 18 #[vR x, vR a, vR sx, vR s1, vR s2, .val .null] [(.ref a), (.ref x)]) := nx S1255 fun t kt => st1258 t (by
    show Sp p e below T1258 (mkF m 14 #[vR x, vR a, vR sx, vR s1, vR r2, .val .null] [(.ref s2)]) _
    refine XS.astore X1258.here hx rfl (own_k hby 14 (.astore 4) 2) rfl rfl (l' := #[vR x, vR a, vR sx, vR s1, vR s2, .val .null]) rfl ?_
    refine xa X1258.here hx hby 16 0 rfl ?_
    refine xa X1258.here hx hby 17 1 rfl ?_
    exact kt)
  have f1260 := ((E0.keep K1254).keep K1258)
  have f1261 := ((F0.keep K1254 nin0).keep K1258 nin0)
  obtain ⟨T1262, h1262, X1262, e1262, W1262, st1262⟩ := putF X1258 hx hZ hown (host := "") (Or.inl (own_h hw 205 rfl)) Via.refl rfl f1261 f1260 (Or.inr ⟨(own_h hw 206 rfl), rfl, hnm⟩) (own_h hw 105 rfl) (ty := (.object "java/lang/String")) (by decide) rfl rfl (g := (mkF m 18 #[vR x, vR a, vR sx, vR s1, vR s2, .val .null] [(.ref a), (.ref x)])) rfl rfl (own_k hby 18 (.putfield 13) 3)
  have N1262 := Fr.snoc X1262 N1258 g_x
  have K1262 : Keep h0 h1262 [x] := KK1258.wr W1262 (Or.inl (by simp))
  have Fw1262 := f1261.same W1262
  have I1 := own_ILg.wr W1262 f1260 I0
  have S1263 : Ga T1262 (mkF m 23 #[vR x, vR a, vR sx, vR s1, vR s2, .val .null] [(.ref sx), (.ref x)]) := nx S1259 fun t kt => st1262 t (by
    show Sp p e below T1262 (mkF m 21 #[vR x, vR a, vR sx, vR s1, vR s2, .val .null] []) _
    refine xa X1262.here hx hby 21 0 rfl ?_
    refine xa X1262.here hx hby 22 2 rfl ?_
    exact kt)
  have f1264 := (f1260.wr W1262)
  have f1265 := (((F1.keep K1254 nin0).keep K1258 nin0).other W1262 (Or.inr (ns28 hw)))
  obtain ⟨T1266, h1266, X1266, e1266, W1266, st1266⟩ := putF X1262 hx hZ hown (host := "") (Or.inl (own_h hw 207 rfl)) Via.refl e1262 f1265 f1264 (Or.inr ⟨(own_h hw 208 rfl), rfl, hnm⟩) (own_h hw 105 rfl) (ty := (.object "java/lang/String")) (by decide) rfl rfl (g := (mkF m 23 #[vR x, vR a, vR sx, vR s1, vR s2, .val .null] [(.ref sx), (.ref x)])) rfl rfl (own_k hby 23 (.putfield 19) 3)
  have N1266 := Fr.snoc X1266 N1262 g_x
  have K1266 : Keep h0 h1266 [x] := K1262.wr W1266 (Or.inl (by simp))
  have Fw1266 := f1265.same W1266
  have I2 := own_ILg.wr W1266 f1264 I1
  have S1267 : Ga T1266 (mkF m 28 #[vR x, vR a, vR sx, vR s1, vR s2, .val .null] [(.ref s1), (.ref x)]) := nx S1263 fun t kt => st1266 t (by
    show Sp p e below T1266 (mkF m 26 #[vR x, vR a, vR sx, vR s1, vR s2, .val .null] []) _
    refine xa X1266.here hx hby 26 0 rfl ?_
    refine xa X1266.here hx hby 27 3 rfl ?_
    exact kt)
  have f1268 := (f1264.wr W1266)
  have f1269 := ((((F2.keep K1254 nin0).keep K1258 nin0).other W1262 (Or.inr (ns29 hw))).other W1266 (Or.inr (ns30 hw)))
  obtain ⟨T1270, h1270, X1270, e1270, W1270, st1270⟩ := putF X1266 hx hZ hown (host := "") (Or.inl (own_h hw 209 rfl)) Via.refl e1266 f1269 f1268 (Or.inr ⟨(own_h hw 210 rfl), rfl, hnm⟩) (own_h hw 105 rfl) (ty := (.object "java/util/List")) (by decide) rfl rfl (g := (mkF m 28 #[vR x, vR a, vR sx, vR s1, vR s2, .val .null] [(.ref s1), (.ref x)])) rfl rfl (own_k hby 28 (.putfield 22) 3)
  have N1270 := Fr.snoc X1270 N1266 g_x
  have K1270 : Keep h0 h1270 [x] := K1266.wr W1270 (Or.inl (by simp))
  have Fw1270 := f1269.same W1270
  have I3 := own_ILg.wr W1270 f1268 I2
  have S1271 : Ga T1270 (mkF m 34 #[vR x, vR a, vR sx, vR s1, vR s2, .val .null] [(.ref s2), (.ref x)]) := nx S1267 fun t kt => st1270 t (by
    show Sp p e below T1270 (mkF m 31 #[vR x, vR a, vR sx, vR s1, vR s2, .val .null] []) _
    refine xa X1270.here hx hby 31 0 rfl ?_
    refine XS.aload X1270.here hx rfl (own_k hby 32 (.aload 4) 2) rfl rfl ?_
    exact kt)
  have f1272 := (f1268.wr W1270)
  have f1273 := (((((F3.keep K1254 nin0).keep K1258 nin0).other W1262 (Or.inr (ns31 hw))).other W1266 (Or.inr (ns32 hw))).other W1270 (Or.inr (ns33 hw)))
  obtain ⟨T1274, h1274, X1274, e1274, W1274, st1274⟩ := putF X1270 hx hZ hown (host := "") (Or.inl (own_h hw 211 rfl)) Via.refl e1270 f1273 f1272 (Or.inr ⟨(own_h hw 212 rfl), rfl, hnm⟩) (own_h hw 105 rfl) (ty := (.object "java/util/List")) (by decide) rfl rfl (g := (mkF m 34 #[vR x, vR a, vR sx, vR s1, vR s2, .val .null] [(.ref s2), (.ref x)])) rfl rfl (own_k hby 34 (.putfield 26) 3)
  have N1274 := Fr.snoc X1274 N1270 g_x
  have K1274 : Keep h0 h1274 [x] := K1270.wr W1274 (Or.inl (by simp))
  have Fw1274 := f1273.same W1274
  have I4 := own_ILg.wr W1274 f1272 I3
  have S1275 : Ga T1274 (mkF m 40 #[vR x, vR a, vR sx, vR s1, vR s2, .val .null] [.null, (.ref x)]) := nx S1271 fun t kt => st1274 t (by
    show Sp p e below T1274 (mkF m 37 #[vR x, vR a, vR sx, vR s1, vR s2, .val .null] []) _
    refine xa X1274.here hx hby 37 0 rfl ?_
    refine XS.aload X1274.here hx rfl (own_k hby 38 (.aload 5) 2) rfl rfl ?_
    exact kt)
  have f1276 := (f1272.wr W1274)
  have f1277 := ((((((F4.keep K1254 nin0).keep K1258 nin0).other W1262 (Or.inr (ns34 hw))).other W1266 (Or.inr (ns35 hw))).other W1270 (Or.inr (ns36 hw))).other W1274 (Or.inr (ns37 hw)))
  obtain ⟨T1278, h1278, X1278, e1278, W1278, st1278⟩ := putF X1274 hx hZ hown (host := "") (Or.inl (own_h hw 213 rfl)) Via.refl e1274 f1277 f1276 (Or.inr ⟨(own_h hw 214 rfl), rfl, hnm⟩) (own_h hw 105 rfl) (ty := (.object "java/lang/String")) (by decide) rfl rfl (g := (mkF m 40 #[vR x, vR a, vR sx, vR s1, vR s2, .val .null] [.null, (.ref x)])) rfl rfl (own_k hby 40 (.putfield 29) 3)
  have N1278 := Fr.snoc X1278 N1274 g_x
  have K1278 : Keep h0 h1278 [x] := K1274.wr W1278 (Or.inl (by simp))
  have Fw1278 := f1277.same W1278
  have I5 := own_ILg.wr W1278 f1276 I4
  have f1279 := ((((Fw1262.other W1266 (Or.inr (ns38 hw))).other W1270 (Or.inr (ns39 hw))).other W1274 (Or.inr (ns40 hw))).other W1278 (Or.inr (ns41 hw)))
  have f1280 := ((Fw1270.other W1274 (Or.inr (ns42 hw))).other W1278 (Or.inr (ns43 hw)))
  have S1281 : Ga T1278 (mkF m 43 #[vR x, vR a, vR sx, vR s1, vR s2, .val .null] []) := nx S1275 fun t kt => st1278 t kt
  refine ⟨T1278, _, none, _, _, _, X1278, og S1281, fun _ => rfl, by decide, by decide, ?_, fun fs hr => X1278.returnOut hx hret (own_k hby 43 (.return_) 1) hr⟩
  show Q_cin0 Z em ey x a L1 h0 n0 _ T1278.heap _
  rw [e1278]
  exact ⟨s1, rfl, N1278, K1278, f1279, f1280, I5⟩
abbrev R_cin1 : Room := { frames := 8, cells := 4, slots := 8, locals := 101 }
abbrev eF_24 (m : MethodId) (x0 : Addr) (x1 : Addr) (x2 : Addr) (x3 : Addr) (x4 : Addr) (x5 : Addr) : JFrame := entryFrame m #[(.ref x0), (.ref x1), (.ref x2), (.ref x3), (.ref x4), (.ref x5)] 6
theorem ef_24 (m : MethodId) (x0 : Addr) (x1 : Addr) (x2 : Addr) (x3 : Addr) (x4 : Addr) (x5 : Addr) : entryFrame m #[(.ref x0), (.ref x1), (.ref x2), (.ref x3), (.ref x4), (.ref x5)] 6 = mkF m 0 #[.val (.ref x0), .val (.ref x1), .val (.ref x2), .val (.ref x3), .val (.ref x4), .val (.ref x5)] [] := by first | (simp [entryFrame, mkF, argsToLocals, Value.category]; done) | rfl
def Q_cin1 (Z : State) (em : Addr) (ey : Addr) (x : Addr) (a : Addr) (L1 : List Addr) (h0 : Heap) (n0 : Nat) (v : Option Value) (h : Heap) (L : List Loc) : Prop := ∃ r : Addr, v = none ∧ Fr n0 L ∧ Keep h0 h [x] ∧ Fld Z h x "com/example/passlane/passlane/oidc/Client" "id" "Ljava/lang/String;" (.ref a) ∧ Fld Z h x "com/example/passlane/passlane/oidc/Client" "redirectUris" "Ljava/util/List;" (.ref r) ∧ own_ILg Z h em ey r L1
theorem rm_cin1 {l : Launch} {Z : State} {a0 : Array Value} (hw : own_W a0 Z) (no : Nat) (de : Addr) (em : Addr) (el : Addr) (ey : Addr)(x : Addr) (a : Addr) (sx : Addr) (r1 : Addr) (r2 : Addr) (bc : Addr) (L1 : List Addr) (L2 : List Addr) (mir : Addr) (h0 : Heap) (n0 : Nat) (Z0 : n0 ≤ h0.size) (SS : own_St Z de em el ey) (hno : no ≤ n0) (O0 : Old Z no h0) (E0 : Exa Z h0 x "com/example/passlane/passlane/oidc/Client") (F0 : Fld Z h0 x "com/example/passlane/passlane/oidc/Client" "id" "Ljava/lang/String;" .null) (F1 : Fld Z h0 x "com/example/passlane/passlane/oidc/Client" "secret" "Ljava/lang/String;" .null) (F2 : Fld Z h0 x "com/example/passlane/passlane/oidc/Client" "redirectUris" "Ljava/util/List;" .null) (F3 : Fld Z h0 x "com/example/passlane/passlane/oidc/Client" "postLogoutRedirectUris" "Ljava/util/List;" .null) (F4 : Fld Z h0 x "com/example/passlane/passlane/oidc/Client" "backChannelLogoutUri" "Ljava/lang/String;" .null) (g_x : n0 ≤ x) (HG1 : own_ALg Z h0 de r1 L1) (HG2 : own_ALg Z h0 de r2 L2)(M : own_Mir Z mir) : own_Met l y20 prog_8_method_1_code 6 none R_cin1 Z h0 #[(.ref x), (.ref a), (.ref sx), (.ref r1), (.ref r2), (.ref bc)] (Q_cin1 Z em ey x a L1 h0 n0) := by
  refine own_body (plainFor_of_name pn_cts0) fun p e s m below meth c s₁ hlk hret hnm hx hby hml hown hZ X0 e0 => ?_
  have N0 := Fr.nil n0
  obtain ⟨Ga, Sa, nx, og⟩ := own_ga (p := p) (e := e) (below := below) s₁ (eF_24 m x a sx r1 r2 bc)
  have S0 : Ga s₁ (mkF m 0 #[vR x, vR a, vR sx, vR r1, vR r2, vR bc] []) := nx Sa fun t k => castTop (ef_24 m x a sx r1 r2 bc) k
  obtain ⟨⟨cz, S_cs, hcz⟩, -⟩ := id SS
  have S1282 : Ga s₁ (mkF m 1 #[vR x, vR a, vR sx, vR r1, vR r2, vR bc] [(.ref x)]) := nx S0 fun t kt => by
    refine xa X0.here hx hby 0 0 rfl ?_
    exact kt
  obtain ⟨v1283, T1283, L1283, X1283, hQ1283, st1283⟩ := own_cI X0 hx hZ hw hown hml 110 111 114 113 rfl rfl rfl rfl rfl (a := x) (rm_rci hw x h0 n0 Z0 ) e0 (W := 0) (g := (mkF m 1 #[vR x, vR a, vR sx, vR r1, vR r2, vR bc] [(.ref x)])) rfl (argsL := []) (rest := []) pd___V (own_k hby 1 (.invokespecial 1) 3)
  obtain ⟨rfl, N1283q, e1283⟩ := hQ1283
  have N1283 := Fr.app N0 N1283q
  have S1284 : Ga T1283 (mkF m 5 #[vR x, vR a, vR sx, vR r1, vR r2, vR bc] [(.ref r1)]) := nx S1282 fun t kt => st1283 t (by
    show Sp p e below T1283 (mkF m 4 #[vR x, vR a, vR sx, vR r1, vR r2, vR bc] []) _
    refine xa X1283.here hx hby 4 3 rfl ?_
    exact kt)
  obtain ⟨v1285, T1285, L1285, X1285, hQ1285, st1285⟩ := own_cS X1283 hx hZ hw hown hml 116 117 119 118 rfl rfl rfl rfl (rm_cop hw no de em el ey r1 L1 mir h0 n0 Z0 SS hno O0 HG1 M) e1283 (W := 0) (g := (mkF m 5 #[vR x, vR a, vR sx, vR r1, vR r2, vR bc] [(.ref r1)])) rfl (argsL := [(.ref r1)]) (rest := []) pd__Ljava_util_Collection__Ljava_util_List_ (own_k hby 5 (.invokestatic 7) 3)
  obtain ⟨s1, rfl, N1285q, K1285, HI1285⟩ := hQ1285
  have N1285 := Fr.app N1283 N1285q
  have KK1285 : Keep h0 T1285.heap [x] := (Keep.refl h0 [x]).trans K1285 all0
  have HG2' := own_ALg.keep K1285 HG2
  have S1286 : Ga T1285 (mkF m 11 #[vR x, vR a, vR sx, vR s1, vR r2, vR bc] [(.ref r2)]) := nx S1284 fun t kt => st1285 t (by
    show Sp p e below T1285 (mkF m 8 #[vR x, vR a, vR sx, vR r1, vR r2, vR bc] [(.ref s1)]) _
    refine XS.astoreN X1285.here hx rfl (own_k hby 8 (.astore_n 3) 1) rfl rfl (l' := #[vR x, vR a, vR sx, vR s1, vR r2, vR bc]) rfl ?_
    refine XS.aload X1285.here hx rfl (own_k hby 9 (.aload 4) 2) rfl rfl ?_
    exact kt)
  have f1287 := (O0.keep K1285 all0)
  have z1288 := (Nat.le_trans Z0 K1285.1)
  obtain ⟨v1289, T1289, L1289, X1289, hQ1289, st1289⟩ := own_cS X1285 hx hZ hw hown hml 116 117 119 118 rfl rfl rfl rfl (rm_cop hw no de em el ey r2 L2 mir T1285.heap n0 z1288 SS hno f1287 HG2' M) rfl (W := 0) (g := (mkF m 11 #[vR x, vR a, vR sx, vR s1, vR r2, vR bc] [(.ref r2)])) rfl (argsL := [(.ref r2)]) (rest := []) pd__Ljava_util_Collection__Ljava_util_List_ (own_k hby 11 (.invokestatic 7) 3)
  obtain ⟨s2, rfl, N1289q, K1289, HJ1289⟩ := hQ1289
  have N1289 := Fr.app N1285 N1289q
  have KK1289 : Keep h0 T1289.heap [x] := KK1285.trans K1289 all0
  have I0 := own_ILg.keep K1289 HI1285
  have S1290 : Ga T1289 (mkF m 18 #[vR x, vR a, vR sx, vR s1, vR s2, vR bc] [(.ref a), (.ref x)]) := nx S1286 fun t kt => st1289 t (by
    show Sp p e below T1289 (mkF m 14 #[vR x, vR a, vR sx, vR s1, vR r2, vR bc] [(.ref s2)]) _
    refine XS.astore X1289.here hx rfl (own_k hby 14 (.astore 4) 2) rfl rfl (l' := #[vR x, vR a, vR sx, vR s1, vR s2, vR bc]) rfl ?_
    refine xa X1289.here hx hby 16 0 rfl ?_
    refine xa X1289.here hx hby 17 1 rfl ?_
    exact kt)
  have f1291 := ((E0.keep K1285).keep K1289)
  have f1292 := ((F0.keep K1285 nin0).keep K1289 nin0)
  obtain ⟨T1293, h1293, X1293, e1293, W1293, st1293⟩ := putF X1289 hx hZ hown (host := "") (Or.inl (own_h hw 205 rfl)) Via.refl rfl f1292 f1291 (Or.inr ⟨(own_h hw 206 rfl), rfl, hnm⟩) (own_h hw 105 rfl) (ty := (.object "java/lang/String")) (by decide) rfl rfl (g := (mkF m 18 #[vR x, vR a, vR sx, vR s1, vR s2, vR bc] [(.ref a), (.ref x)])) rfl rfl (own_k hby 18 (.putfield 13) 3)
  have N1293 := Fr.snoc X1293 N1289 g_x
  have K1293 : Keep h0 h1293 [x] := KK1289.wr W1293 (Or.inl (by simp))
  have Fw1293 := f1292.same W1293
  have I1 := own_ILg.wr W1293 f1291 I0
  have S1294 : Ga T1293 (mkF m 23 #[vR x, vR a, vR sx, vR s1, vR s2, vR bc] [(.ref sx), (.ref x)]) := nx S1290 fun t kt => st1293 t (by
    show Sp p e below T1293 (mkF m 21 #[vR x, vR a, vR sx, vR s1, vR s2, vR bc] []) _
    refine xa X1293.here hx hby 21 0 rfl ?_
    refine xa X1293.here hx hby 22 2 rfl ?_
    exact kt)
  have f1295 := (f1291.wr W1293)
  have f1296 := (((F1.keep K1285 nin0).keep K1289 nin0).other W1293 (Or.inr (ns28 hw)))
  obtain ⟨T1297, h1297, X1297, e1297, W1297, st1297⟩ := putF X1293 hx hZ hown (host := "") (Or.inl (own_h hw 207 rfl)) Via.refl e1293 f1296 f1295 (Or.inr ⟨(own_h hw 208 rfl), rfl, hnm⟩) (own_h hw 105 rfl) (ty := (.object "java/lang/String")) (by decide) rfl rfl (g := (mkF m 23 #[vR x, vR a, vR sx, vR s1, vR s2, vR bc] [(.ref sx), (.ref x)])) rfl rfl (own_k hby 23 (.putfield 19) 3)
  have N1297 := Fr.snoc X1297 N1293 g_x
  have K1297 : Keep h0 h1297 [x] := K1293.wr W1297 (Or.inl (by simp))
  have Fw1297 := f1296.same W1297
  have I2 := own_ILg.wr W1297 f1295 I1
  have S1298 : Ga T1297 (mkF m 28 #[vR x, vR a, vR sx, vR s1, vR s2, vR bc] [(.ref s1), (.ref x)]) := nx S1294 fun t kt => st1297 t (by
    show Sp p e below T1297 (mkF m 26 #[vR x, vR a, vR sx, vR s1, vR s2, vR bc] []) _
    refine xa X1297.here hx hby 26 0 rfl ?_
    refine xa X1297.here hx hby 27 3 rfl ?_
    exact kt)
  have f1299 := (f1295.wr W1297)
  have f1300 := ((((F2.keep K1285 nin0).keep K1289 nin0).other W1293 (Or.inr (ns29 hw))).other W1297 (Or.inr (ns30 hw)))
  obtain ⟨T1301, h1301, X1301, e1301, W1301, st1301⟩ := putF X1297 hx hZ hown (host := "") (Or.inl (own_h hw 209 rfl)) Via.refl e1297 f1300 f1299 (Or.inr ⟨(own_h hw 210 rfl), rfl, hnm⟩) (own_h hw 105 rfl) (ty := (.object "java/util/List")) (by decide) rfl rfl (g := (mkF m 28 #[vR x, vR a, vR sx, vR s1, vR s2, vR bc] [(.ref s1), (.ref x)])) rfl rfl (own_k hby 28 (.putfield 22) 3)
  have N1301 := Fr.snoc X1301 N1297 g_x
  have K1301 : Keep h0 h1301 [x] := K1297.wr W1301 (Or.inl (by simp))
  have Fw1301 := f1300.same W1301
  have I3 := own_ILg.wr W1301 f1299 I2
  have S1302 : Ga T1301 (mkF m 34 #[vR x, vR a, vR sx, vR s1, vR s2, vR bc] [(.ref s2), (.ref x)]) := nx S1298 fun t kt => st1301 t (by
    show Sp p e below T1301 (mkF m 31 #[vR x, vR a, vR sx, vR s1, vR s2, vR bc] []) _
    refine xa X1301.here hx hby 31 0 rfl ?_
    refine XS.aload X1301.here hx rfl (own_k hby 32 (.aload 4) 2) rfl rfl ?_
    exact kt)
  have f1303 := (f1299.wr W1301)
  have f1304 := (((((F3.keep K1285 nin0).keep K1289 nin0).other W1293 (Or.inr (ns31 hw))).other W1297 (Or.inr (ns32 hw))).other W1301 (Or.inr (ns33 hw)))
  obtain ⟨T1305, h1305, X1305, e1305, W1305, st1305⟩ := putF X1301 hx hZ hown (host := "") (Or.inl (own_h hw 211 rfl)) Via.refl e1301 f1304 f1303 (Or.inr ⟨(own_h hw 212 rfl), rfl, hnm⟩) (own_h hw 105 rfl) (ty := (.object "java/util/List")) (by decide) rfl rfl (g := (mkF m 34 #[vR x, vR a, vR sx, vR s1, vR s2, vR bc] [(.ref s2), (.ref x)])) rfl rfl (own_k hby 34 (.putfield 26) 3)
  have N1305 := Fr.snoc X1305 N1301 g_x
  have K1305 : Keep h0 h1305 [x] := K1301.wr W1305 (Or.inl (by simp))
  have Fw1305 := f1304.same W1305
  have I4 := own_ILg.wr W1305 f1303 I3
  have S1306 : Ga T1305 (mkF m 40 #[vR x, vR a, vR sx, vR s1, vR s2, vR bc] [(.ref bc), (.ref x)]) := nx S1302 fun t kt => st1305 t (by
    show Sp p e below T1305 (mkF m 37 #[vR x, vR a, vR sx, vR s1, vR s2, vR bc] []) _
    refine xa X1305.here hx hby 37 0 rfl ?_
    refine XS.aload X1305.here hx rfl (own_k hby 38 (.aload 5) 2) rfl rfl ?_
    exact kt)
  have f1307 := (f1303.wr W1305)
  have f1308 := ((((((F4.keep K1285 nin0).keep K1289 nin0).other W1293 (Or.inr (ns34 hw))).other W1297 (Or.inr (ns35 hw))).other W1301 (Or.inr (ns36 hw))).other W1305 (Or.inr (ns37 hw)))
  obtain ⟨T1309, h1309, X1309, e1309, W1309, st1309⟩ := putF X1305 hx hZ hown (host := "") (Or.inl (own_h hw 213 rfl)) Via.refl e1305 f1308 f1307 (Or.inr ⟨(own_h hw 214 rfl), rfl, hnm⟩) (own_h hw 105 rfl) (ty := (.object "java/lang/String")) (by decide) rfl rfl (g := (mkF m 40 #[vR x, vR a, vR sx, vR s1, vR s2, vR bc] [(.ref bc), (.ref x)])) rfl rfl (own_k hby 40 (.putfield 29) 3)
  have N1309 := Fr.snoc X1309 N1305 g_x
  have K1309 : Keep h0 h1309 [x] := K1305.wr W1309 (Or.inl (by simp))
  have Fw1309 := f1308.same W1309
  have I5 := own_ILg.wr W1309 f1307 I4
  have f1310 := ((((Fw1293.other W1297 (Or.inr (ns38 hw))).other W1301 (Or.inr (ns39 hw))).other W1305 (Or.inr (ns40 hw))).other W1309 (Or.inr (ns41 hw)))
  have f1311 := ((Fw1301.other W1305 (Or.inr (ns42 hw))).other W1309 (Or.inr (ns43 hw)))
  have S1312 : Ga T1309 (mkF m 43 #[vR x, vR a, vR sx, vR s1, vR s2, vR bc] []) := nx S1306 fun t kt => st1309 t kt
  refine ⟨T1309, _, none, _, _, _, X1309, og S1312, fun _ => rfl, by decide, by decide, ?_, fun fs hr => X1309.returnOut hx hret (own_k hby 43 (.return_) 1) hr⟩
  show Q_cin1 Z em ey x a L1 h0 n0 _ T1309.heap _
  rw [e1309]
  exact ⟨s1, rfl, N1309, K1309, f1310, f1311, I5⟩
theorem sg_exp {p : Program} {l : Launch} {e : Env} {R : Room} {s : State} {m : MethodId} {args : Array Value} {below : List Frame} {meth : Method} {c : Code} {T : State} {locs : List Loc} {cells slots : Nat} (Z : State) (a b nn u v : Int32) (ex : Addr) (kx : ClassId) (tl : List Int32) (N : Nat) (h0 : Heap) (n0 : Nat) (ha : own_c a) (hb_ : own_c b) (hN1 : 28 < N) (hN2 : N < 100) (g_ex : n0 ≤ ex) (V0 : Arv Z h0 ex kx .char (Int32.ofNat N) (own_fl (own_px a b ++ tl) 0 N) (.int 0)) (hx : p.tables.exec = Jvm.exec) (hZ : Z.Warmed39 s.vm) (hby : c.code = method_3_code) (X0 : Stand p l e R s m args below meth c T locs cells slots) (e0 : T.heap = h0) (N0 : Fr n0 locs) :
    ∃ (T' : State) (h' : Heap) (locs' : List Loc), Stand p l e R s m args below meth c T' locs' cells slots ∧ T'.heap = h' ∧ Fr n0 locs' ∧ Keep h0 h' [ex] ∧ Arv Z h' ex kx .char (Int32.ofNat N) (own_fl (own_px a b ++ tl) 28 N) (.int 0) ∧ Go p e below T (mkF m 25 #[vI a, vI b, vI nn, vI u, vI v, vR ex] []) T' (mkF m 213 #[vI a, vI b, vI nn, vI u, vI v, vR ex] []) := by
  obtain ⟨Ga, S0, nx, og⟩ := own_ga (p := p) (e := e) (below := below) T (mkF m 25 #[vI a, vI b, vI nn, vI u, vI v, vR ex] [])
  have S1313 : Ga T (mkF m 30 #[vI a, vI b, vI nn, vI u, vI v, vR ex] [(.int 67), (.int 0), (.ref ex)]) := nx S0 fun t kt => by
    refine XS.aload X0.here hx rfl (own_k hby 25 (.aload 5) 2) rfl rfl ?_
    refine xc X0.here hx hby 27 0 ?_
    refine xb X0.here hx hby 28 67 ?_
    exact kt
  obtain ⟨T1314, h1314, L1314, X1314, e1314, N1314, K1314, V1314, st1314⟩ := own_stp 0 X0 hx hZ e0 V0 (cc := 67) (by decide) rfl (by omega) (by omega) N0 g_ex (Keep.refl h0 [ex]) (Or.inl (by simp)) rfl (g := (mkF m 30 #[vI a, vI b, vI nn, vI u, vI v, vR ex] [(.int 67), (.int 0), (.ref ex)])) rfl rfl (own_k hby 30 (.castore) 1)
  have S1315 : Ga T1314 (mkF m 36 #[vI a, vI b, vI nn, vI u, vI v, vR ex] [(.int 108), (.int 1), (.ref ex)]) := nx S1313 fun t kt => st1314 t (by
    show Sp p e below T1314 (mkF m 31 #[vI a, vI b, vI nn, vI u, vI v, vR ex] []) _
    refine XS.aload X1314.here hx rfl (own_k hby 31 (.aload 5) 2) rfl rfl ?_
    refine xc X1314.here hx hby 33 1 ?_
    refine xb X1314.here hx hby 34 108 ?_
    exact kt)
  obtain ⟨T1316, h1316, L1316, X1316, e1316, N1316, K1316, V1316, st1316⟩ := own_stp 1 X1314 hx hZ e1314 V1314 (cc := 108) (by decide) rfl (by omega) (by omega) N1314 g_ex K1314 (Or.inl (by simp)) rfl (g := (mkF m 36 #[vI a, vI b, vI nn, vI u, vI v, vR ex] [(.int 108), (.int 1), (.ref ex)])) rfl rfl (own_k hby 36 (.castore) 1)
  have S1317 : Ga T1316 (mkF m 42 #[vI a, vI b, vI nn, vI u, vI v, vR ex] [(.int 105), (.int 2), (.ref ex)]) := nx S1315 fun t kt => st1316 t (by
    show Sp p e below T1316 (mkF m 37 #[vI a, vI b, vI nn, vI u, vI v, vR ex] []) _
    refine XS.aload X1316.here hx rfl (own_k hby 37 (.aload 5) 2) rfl rfl ?_
    refine xc X1316.here hx hby 39 2 ?_
    refine xb X1316.here hx hby 40 105 ?_
    exact kt)
  obtain ⟨T1318, h1318, L1318, X1318, e1318, N1318, K1318, V1318, st1318⟩ := own_stp 2 X1316 hx hZ e1316 V1316 (cc := 105) (by decide) rfl (by omega) (by omega) N1316 g_ex K1316 (Or.inl (by simp)) rfl (g := (mkF m 42 #[vI a, vI b, vI nn, vI u, vI v, vR ex] [(.int 105), (.int 2), (.ref ex)])) rfl rfl (own_k hby 42 (.castore) 1)
  have S1319 : Ga T1318 (mkF m 48 #[vI a, vI b, vI nn, vI u, vI v, vR ex] [(.int 101), (.int 3), (.ref ex)]) := nx S1317 fun t kt => st1318 t (by
    show Sp p e below T1318 (mkF m 43 #[vI a, vI b, vI nn, vI u, vI v, vR ex] []) _
    refine XS.aload X1318.here hx rfl (own_k hby 43 (.aload 5) 2) rfl rfl ?_
    refine xc X1318.here hx hby 45 3 ?_
    refine xb X1318.here hx hby 46 101 ?_
    exact kt)
  obtain ⟨T1320, h1320, L1320, X1320, e1320, N1320, K1320, V1320, st1320⟩ := own_stp 3 X1318 hx hZ e1318 V1318 (cc := 101) (by decide) rfl (by omega) (by omega) N1318 g_ex K1318 (Or.inl (by simp)) rfl (g := (mkF m 48 #[vI a, vI b, vI nn, vI u, vI v, vR ex] [(.int 101), (.int 3), (.ref ex)])) rfl rfl (own_k hby 48 (.castore) 1)
  have S1321 : Ga T1320 (mkF m 54 #[vI a, vI b, vI nn, vI u, vI v, vR ex] [(.int 110), (.int 4), (.ref ex)]) := nx S1319 fun t kt => st1320 t (by
    show Sp p e below T1320 (mkF m 49 #[vI a, vI b, vI nn, vI u, vI v, vR ex] []) _
    refine XS.aload X1320.here hx rfl (own_k hby 49 (.aload 5) 2) rfl rfl ?_
    refine xc X1320.here hx hby 51 4 ?_
    refine xb X1320.here hx hby 52 110 ?_
    exact kt)
  obtain ⟨T1322, h1322, L1322, X1322, e1322, N1322, K1322, V1322, st1322⟩ := own_stp 4 X1320 hx hZ e1320 V1320 (cc := 110) (by decide) rfl (by omega) (by omega) N1320 g_ex K1320 (Or.inl (by simp)) rfl (g := (mkF m 54 #[vI a, vI b, vI nn, vI u, vI v, vR ex] [(.int 110), (.int 4), (.ref ex)])) rfl rfl (own_k hby 54 (.castore) 1)
  have S1323 : Ga T1322 (mkF m 60 #[vI a, vI b, vI nn, vI u, vI v, vR ex] [(.int 116), (.int 5), (.ref ex)]) := nx S1321 fun t kt => st1322 t (by
    show Sp p e below T1322 (mkF m 55 #[vI a, vI b, vI nn, vI u, vI v, vR ex] []) _
    refine XS.aload X1322.here hx rfl (own_k hby 55 (.aload 5) 2) rfl rfl ?_
    refine xc X1322.here hx hby 57 5 ?_
    refine xb X1322.here hx hby 58 116 ?_
    exact kt)
  obtain ⟨T1324, h1324, L1324, X1324, e1324, N1324, K1324, V1324, st1324⟩ := own_stp 5 X1322 hx hZ e1322 V1322 (cc := 116) (by decide) rfl (by omega) (by omega) N1322 g_ex K1322 (Or.inl (by simp)) rfl (g := (mkF m 60 #[vI a, vI b, vI nn, vI u, vI v, vR ex] [(.int 116), (.int 5), (.ref ex)])) rfl rfl (own_k hby 60 (.castore) 1)
  have S1325 : Ga T1324 (mkF m 67 #[vI a, vI b, vI nn, vI u, vI v, vR ex] [(.int 91), (.int 6), (.ref ex)]) := nx S1323 fun t kt => st1324 t (by
    show Sp p e below T1324 (mkF m 61 #[vI a, vI b, vI nn, vI u, vI v, vR ex] []) _
    refine XS.aload X1324.here hx rfl (own_k hby 61 (.aload 5) 2) rfl rfl ?_
    refine xb X1324.here hx hby 63 6 ?_
    refine xb X1324.here hx hby 65 91 ?_
    exact kt)
  obtain ⟨T1326, h1326, L1326, X1326, e1326, N1326, K1326, V1326, st1326⟩ := own_stp 6 X1324 hx hZ e1324 V1324 (cc := 91) (by decide) rfl (by omega) (by omega) N1324 g_ex K1324 (Or.inl (by simp)) rfl (g := (mkF m 67 #[vI a, vI b, vI nn, vI u, vI v, vR ex] [(.int 91), (.int 6), (.ref ex)])) rfl rfl (own_k hby 67 (.castore) 1)
  have S1327 : Ga T1326 (mkF m 74 #[vI a, vI b, vI nn, vI u, vI v, vR ex] [(.int 105), (.int 7), (.ref ex)]) := nx S1325 fun t kt => st1326 t (by
    show Sp p e below T1326 (mkF m 68 #[vI a, vI b, vI nn, vI u, vI v, vR ex] []) _
    refine XS.aload X1326.here hx rfl (own_k hby 68 (.aload 5) 2) rfl rfl ?_
    refine xb X1326.here hx hby 70 7 ?_
    refine xb X1326.here hx hby 72 105 ?_
    exact kt)
  obtain ⟨T1328, h1328, L1328, X1328, e1328, N1328, K1328, V1328, st1328⟩ := own_stp 7 X1326 hx hZ e1326 V1326 (cc := 105) (by decide) rfl (by omega) (by omega) N1326 g_ex K1326 (Or.inl (by simp)) rfl (g := (mkF m 74 #[vI a, vI b, vI nn, vI u, vI v, vR ex] [(.int 105), (.int 7), (.ref ex)])) rfl rfl (own_k hby 74 (.castore) 1)
  have S1329 : Ga T1328 (mkF m 81 #[vI a, vI b, vI nn, vI u, vI v, vR ex] [(.int 100), (.int 8), (.ref ex)]) := nx S1327 fun t kt => st1328 t (by
    show Sp p e below T1328 (mkF m 75 #[vI a, vI b, vI nn, vI u, vI v, vR ex] []) _
    refine XS.aload X1328.here hx rfl (own_k hby 75 (.aload 5) 2) rfl rfl ?_
    refine xb X1328.here hx hby 77 8 ?_
    refine xb X1328.here hx hby 79 100 ?_
    exact kt)
  obtain ⟨T1330, h1330, L1330, X1330, e1330, N1330, K1330, V1330, st1330⟩ := own_stp 8 X1328 hx hZ e1328 V1328 (cc := 100) (by decide) rfl (by omega) (by omega) N1328 g_ex K1328 (Or.inl (by simp)) rfl (g := (mkF m 81 #[vI a, vI b, vI nn, vI u, vI v, vR ex] [(.int 100), (.int 8), (.ref ex)])) rfl rfl (own_k hby 81 (.castore) 1)
  have S1331 : Ga T1330 (mkF m 88 #[vI a, vI b, vI nn, vI u, vI v, vR ex] [(.int 61), (.int 9), (.ref ex)]) := nx S1329 fun t kt => st1330 t (by
    show Sp p e below T1330 (mkF m 82 #[vI a, vI b, vI nn, vI u, vI v, vR ex] []) _
    refine XS.aload X1330.here hx rfl (own_k hby 82 (.aload 5) 2) rfl rfl ?_
    refine xb X1330.here hx hby 84 9 ?_
    refine xb X1330.here hx hby 86 61 ?_
    exact kt)
  obtain ⟨T1332, h1332, L1332, X1332, e1332, N1332, K1332, V1332, st1332⟩ := own_stp 9 X1330 hx hZ e1330 V1330 (cc := 61) (by decide) rfl (by omega) (by omega) N1330 g_ex K1330 (Or.inl (by simp)) rfl (g := (mkF m 88 #[vI a, vI b, vI nn, vI u, vI v, vR ex] [(.int 61), (.int 9), (.ref ex)])) rfl rfl (own_k hby 88 (.castore) 1)
  have S1333 : Ga T1332 (mkF m 94 #[vI a, vI b, vI nn, vI u, vI v, vR ex] [(.int a), (.int 10), (.ref ex)]) := nx S1331 fun t kt => st1332 t (by
    show Sp p e below T1332 (mkF m 89 #[vI a, vI b, vI nn, vI u, vI v, vR ex] []) _
    refine XS.aload X1332.here hx rfl (own_k hby 89 (.aload 5) 2) rfl rfl ?_
    refine xb X1332.here hx hby 91 10 ?_
    refine xi X1332.here hx hby 93 0 rfl ?_
    exact kt)
  obtain ⟨T1334, h1334, L1334, X1334, e1334, N1334, K1334, V1334, st1334⟩ := own_stp 10 X1332 hx hZ e1332 V1332 (cc := a) (own_nc2 ha) rfl (by omega) (by omega) N1332 g_ex K1332 (Or.inl (by simp)) rfl (g := (mkF m 94 #[vI a, vI b, vI nn, vI u, vI v, vR ex] [(.int a), (.int 10), (.ref ex)])) rfl rfl (own_k hby 94 (.castore) 1)
  have S1335 : Ga T1334 (mkF m 100 #[vI a, vI b, vI nn, vI u, vI v, vR ex] [(.int b), (.int 11), (.ref ex)]) := nx S1333 fun t kt => st1334 t (by
    show Sp p e below T1334 (mkF m 95 #[vI a, vI b, vI nn, vI u, vI v, vR ex] []) _
    refine XS.aload X1334.here hx rfl (own_k hby 95 (.aload 5) 2) rfl rfl ?_
    refine xb X1334.here hx hby 97 11 ?_
    refine xi X1334.here hx hby 99 1 rfl ?_
    exact kt)
  obtain ⟨T1336, h1336, L1336, X1336, e1336, N1336, K1336, V1336, st1336⟩ := own_stp 11 X1334 hx hZ e1334 V1334 (cc := b) (own_nc2 hb_) rfl (by omega) (by omega) N1334 g_ex K1334 (Or.inl (by simp)) rfl (g := (mkF m 100 #[vI a, vI b, vI nn, vI u, vI v, vR ex] [(.int b), (.int 11), (.ref ex)])) rfl rfl (own_k hby 100 (.castore) 1)
  have S1337 : Ga T1336 (mkF m 107 #[vI a, vI b, vI nn, vI u, vI v, vR ex] [(.int 44), (.int 12), (.ref ex)]) := nx S1335 fun t kt => st1336 t (by
    show Sp p e below T1336 (mkF m 101 #[vI a, vI b, vI nn, vI u, vI v, vR ex] []) _
    refine XS.aload X1336.here hx rfl (own_k hby 101 (.aload 5) 2) rfl rfl ?_
    refine xb X1336.here hx hby 103 12 ?_
    refine xb X1336.here hx hby 105 44 ?_
    exact kt)
  obtain ⟨T1338, h1338, L1338, X1338, e1338, N1338, K1338, V1338, st1338⟩ := own_stp 12 X1336 hx hZ e1336 V1336 (cc := 44) (by decide) rfl (by omega) (by omega) N1336 g_ex K1336 (Or.inl (by simp)) rfl (g := (mkF m 107 #[vI a, vI b, vI nn, vI u, vI v, vR ex] [(.int 44), (.int 12), (.ref ex)])) rfl rfl (own_k hby 107 (.castore) 1)
  have S1339 : Ga T1338 (mkF m 114 #[vI a, vI b, vI nn, vI u, vI v, vR ex] [(.int 32), (.int 13), (.ref ex)]) := nx S1337 fun t kt => st1338 t (by
    show Sp p e below T1338 (mkF m 108 #[vI a, vI b, vI nn, vI u, vI v, vR ex] []) _
    refine XS.aload X1338.here hx rfl (own_k hby 108 (.aload 5) 2) rfl rfl ?_
    refine xb X1338.here hx hby 110 13 ?_
    refine xb X1338.here hx hby 112 32 ?_
    exact kt)
  obtain ⟨T1340, h1340, L1340, X1340, e1340, N1340, K1340, V1340, st1340⟩ := own_stp 13 X1338 hx hZ e1338 V1338 (cc := 32) (by decide) rfl (by omega) (by omega) N1338 g_ex K1338 (Or.inl (by simp)) rfl (g := (mkF m 114 #[vI a, vI b, vI nn, vI u, vI v, vR ex] [(.int 32), (.int 13), (.ref ex)])) rfl rfl (own_k hby 114 (.castore) 1)
  have S1341 : Ga T1340 (mkF m 121 #[vI a, vI b, vI nn, vI u, vI v, vR ex] [(.int 114), (.int 14), (.ref ex)]) := nx S1339 fun t kt => st1340 t (by
    show Sp p e below T1340 (mkF m 115 #[vI a, vI b, vI nn, vI u, vI v, vR ex] []) _
    refine XS.aload X1340.here hx rfl (own_k hby 115 (.aload 5) 2) rfl rfl ?_
    refine xb X1340.here hx hby 117 14 ?_
    refine xb X1340.here hx hby 119 114 ?_
    exact kt)
  obtain ⟨T1342, h1342, L1342, X1342, e1342, N1342, K1342, V1342, st1342⟩ := own_stp 14 X1340 hx hZ e1340 V1340 (cc := 114) (by decide) rfl (by omega) (by omega) N1340 g_ex K1340 (Or.inl (by simp)) rfl (g := (mkF m 121 #[vI a, vI b, vI nn, vI u, vI v, vR ex] [(.int 114), (.int 14), (.ref ex)])) rfl rfl (own_k hby 121 (.castore) 1)
  have S1343 : Ga T1342 (mkF m 128 #[vI a, vI b, vI nn, vI u, vI v, vR ex] [(.int 101), (.int 15), (.ref ex)]) := nx S1341 fun t kt => st1342 t (by
    show Sp p e below T1342 (mkF m 122 #[vI a, vI b, vI nn, vI u, vI v, vR ex] []) _
    refine XS.aload X1342.here hx rfl (own_k hby 122 (.aload 5) 2) rfl rfl ?_
    refine xb X1342.here hx hby 124 15 ?_
    refine xb X1342.here hx hby 126 101 ?_
    exact kt)
  obtain ⟨T1344, h1344, L1344, X1344, e1344, N1344, K1344, V1344, st1344⟩ := own_stp 15 X1342 hx hZ e1342 V1342 (cc := 101) (by decide) rfl (by omega) (by omega) N1342 g_ex K1342 (Or.inl (by simp)) rfl (g := (mkF m 128 #[vI a, vI b, vI nn, vI u, vI v, vR ex] [(.int 101), (.int 15), (.ref ex)])) rfl rfl (own_k hby 128 (.castore) 1)
  have S1345 : Ga T1344 (mkF m 135 #[vI a, vI b, vI nn, vI u, vI v, vR ex] [(.int 100), (.int 16), (.ref ex)]) := nx S1343 fun t kt => st1344 t (by
    show Sp p e below T1344 (mkF m 129 #[vI a, vI b, vI nn, vI u, vI v, vR ex] []) _
    refine XS.aload X1344.here hx rfl (own_k hby 129 (.aload 5) 2) rfl rfl ?_
    refine xb X1344.here hx hby 131 16 ?_
    refine xb X1344.here hx hby 133 100 ?_
    exact kt)
  obtain ⟨T1346, h1346, L1346, X1346, e1346, N1346, K1346, V1346, st1346⟩ := own_stp 16 X1344 hx hZ e1344 V1344 (cc := 100) (by decide) rfl (by omega) (by omega) N1344 g_ex K1344 (Or.inl (by simp)) rfl (g := (mkF m 135 #[vI a, vI b, vI nn, vI u, vI v, vR ex] [(.int 100), (.int 16), (.ref ex)])) rfl rfl (own_k hby 135 (.castore) 1)
  have S1347 : Ga T1346 (mkF m 142 #[vI a, vI b, vI nn, vI u, vI v, vR ex] [(.int 105), (.int 17), (.ref ex)]) := nx S1345 fun t kt => st1346 t (by
    show Sp p e below T1346 (mkF m 136 #[vI a, vI b, vI nn, vI u, vI v, vR ex] []) _
    refine XS.aload X1346.here hx rfl (own_k hby 136 (.aload 5) 2) rfl rfl ?_
    refine xb X1346.here hx hby 138 17 ?_
    refine xb X1346.here hx hby 140 105 ?_
    exact kt)
  obtain ⟨T1348, h1348, L1348, X1348, e1348, N1348, K1348, V1348, st1348⟩ := own_stp 17 X1346 hx hZ e1346 V1346 (cc := 105) (by decide) rfl (by omega) (by omega) N1346 g_ex K1346 (Or.inl (by simp)) rfl (g := (mkF m 142 #[vI a, vI b, vI nn, vI u, vI v, vR ex] [(.int 105), (.int 17), (.ref ex)])) rfl rfl (own_k hby 142 (.castore) 1)
  have S1349 : Ga T1348 (mkF m 149 #[vI a, vI b, vI nn, vI u, vI v, vR ex] [(.int 114), (.int 18), (.ref ex)]) := nx S1347 fun t kt => st1348 t (by
    show Sp p e below T1348 (mkF m 143 #[vI a, vI b, vI nn, vI u, vI v, vR ex] []) _
    refine XS.aload X1348.here hx rfl (own_k hby 143 (.aload 5) 2) rfl rfl ?_
    refine xb X1348.here hx hby 145 18 ?_
    refine xb X1348.here hx hby 147 114 ?_
    exact kt)
  obtain ⟨T1350, h1350, L1350, X1350, e1350, N1350, K1350, V1350, st1350⟩ := own_stp 18 X1348 hx hZ e1348 V1348 (cc := 114) (by decide) rfl (by omega) (by omega) N1348 g_ex K1348 (Or.inl (by simp)) rfl (g := (mkF m 149 #[vI a, vI b, vI nn, vI u, vI v, vR ex] [(.int 114), (.int 18), (.ref ex)])) rfl rfl (own_k hby 149 (.castore) 1)
  have S1351 : Ga T1350 (mkF m 156 #[vI a, vI b, vI nn, vI u, vI v, vR ex] [(.int 101), (.int 19), (.ref ex)]) := nx S1349 fun t kt => st1350 t (by
    show Sp p e below T1350 (mkF m 150 #[vI a, vI b, vI nn, vI u, vI v, vR ex] []) _
    refine XS.aload X1350.here hx rfl (own_k hby 150 (.aload 5) 2) rfl rfl ?_
    refine xb X1350.here hx hby 152 19 ?_
    refine xb X1350.here hx hby 154 101 ?_
    exact kt)
  obtain ⟨T1352, h1352, L1352, X1352, e1352, N1352, K1352, V1352, st1352⟩ := own_stp 19 X1350 hx hZ e1350 V1350 (cc := 101) (by decide) rfl (by omega) (by omega) N1350 g_ex K1350 (Or.inl (by simp)) rfl (g := (mkF m 156 #[vI a, vI b, vI nn, vI u, vI v, vR ex] [(.int 101), (.int 19), (.ref ex)])) rfl rfl (own_k hby 156 (.castore) 1)
  have S1353 : Ga T1352 (mkF m 163 #[vI a, vI b, vI nn, vI u, vI v, vR ex] [(.int 99), (.int 20), (.ref ex)]) := nx S1351 fun t kt => st1352 t (by
    show Sp p e below T1352 (mkF m 157 #[vI a, vI b, vI nn, vI u, vI v, vR ex] []) _
    refine XS.aload X1352.here hx rfl (own_k hby 157 (.aload 5) 2) rfl rfl ?_
    refine xb X1352.here hx hby 159 20 ?_
    refine xb X1352.here hx hby 161 99 ?_
    exact kt)
  obtain ⟨T1354, h1354, L1354, X1354, e1354, N1354, K1354, V1354, st1354⟩ := own_stp 20 X1352 hx hZ e1352 V1352 (cc := 99) (by decide) rfl (by omega) (by omega) N1352 g_ex K1352 (Or.inl (by simp)) rfl (g := (mkF m 163 #[vI a, vI b, vI nn, vI u, vI v, vR ex] [(.int 99), (.int 20), (.ref ex)])) rfl rfl (own_k hby 163 (.castore) 1)
  have S1355 : Ga T1354 (mkF m 170 #[vI a, vI b, vI nn, vI u, vI v, vR ex] [(.int 116), (.int 21), (.ref ex)]) := nx S1353 fun t kt => st1354 t (by
    show Sp p e below T1354 (mkF m 164 #[vI a, vI b, vI nn, vI u, vI v, vR ex] []) _
    refine XS.aload X1354.here hx rfl (own_k hby 164 (.aload 5) 2) rfl rfl ?_
    refine xb X1354.here hx hby 166 21 ?_
    refine xb X1354.here hx hby 168 116 ?_
    exact kt)
  obtain ⟨T1356, h1356, L1356, X1356, e1356, N1356, K1356, V1356, st1356⟩ := own_stp 21 X1354 hx hZ e1354 V1354 (cc := 116) (by decide) rfl (by omega) (by omega) N1354 g_ex K1354 (Or.inl (by simp)) rfl (g := (mkF m 170 #[vI a, vI b, vI nn, vI u, vI v, vR ex] [(.int 116), (.int 21), (.ref ex)])) rfl rfl (own_k hby 170 (.castore) 1)
  have S1357 : Ga T1356 (mkF m 177 #[vI a, vI b, vI nn, vI u, vI v, vR ex] [(.int 85), (.int 22), (.ref ex)]) := nx S1355 fun t kt => st1356 t (by
    show Sp p e below T1356 (mkF m 171 #[vI a, vI b, vI nn, vI u, vI v, vR ex] []) _
    refine XS.aload X1356.here hx rfl (own_k hby 171 (.aload 5) 2) rfl rfl ?_
    refine xb X1356.here hx hby 173 22 ?_
    refine xb X1356.here hx hby 175 85 ?_
    exact kt)
  obtain ⟨T1358, h1358, L1358, X1358, e1358, N1358, K1358, V1358, st1358⟩ := own_stp 22 X1356 hx hZ e1356 V1356 (cc := 85) (by decide) rfl (by omega) (by omega) N1356 g_ex K1356 (Or.inl (by simp)) rfl (g := (mkF m 177 #[vI a, vI b, vI nn, vI u, vI v, vR ex] [(.int 85), (.int 22), (.ref ex)])) rfl rfl (own_k hby 177 (.castore) 1)
  have S1359 : Ga T1358 (mkF m 184 #[vI a, vI b, vI nn, vI u, vI v, vR ex] [(.int 114), (.int 23), (.ref ex)]) := nx S1357 fun t kt => st1358 t (by
    show Sp p e below T1358 (mkF m 178 #[vI a, vI b, vI nn, vI u, vI v, vR ex] []) _
    refine XS.aload X1358.here hx rfl (own_k hby 178 (.aload 5) 2) rfl rfl ?_
    refine xb X1358.here hx hby 180 23 ?_
    refine xb X1358.here hx hby 182 114 ?_
    exact kt)
  obtain ⟨T1360, h1360, L1360, X1360, e1360, N1360, K1360, V1360, st1360⟩ := own_stp 23 X1358 hx hZ e1358 V1358 (cc := 114) (by decide) rfl (by omega) (by omega) N1358 g_ex K1358 (Or.inl (by simp)) rfl (g := (mkF m 184 #[vI a, vI b, vI nn, vI u, vI v, vR ex] [(.int 114), (.int 23), (.ref ex)])) rfl rfl (own_k hby 184 (.castore) 1)
  have S1361 : Ga T1360 (mkF m 191 #[vI a, vI b, vI nn, vI u, vI v, vR ex] [(.int 105), (.int 24), (.ref ex)]) := nx S1359 fun t kt => st1360 t (by
    show Sp p e below T1360 (mkF m 185 #[vI a, vI b, vI nn, vI u, vI v, vR ex] []) _
    refine XS.aload X1360.here hx rfl (own_k hby 185 (.aload 5) 2) rfl rfl ?_
    refine xb X1360.here hx hby 187 24 ?_
    refine xb X1360.here hx hby 189 105 ?_
    exact kt)
  obtain ⟨T1362, h1362, L1362, X1362, e1362, N1362, K1362, V1362, st1362⟩ := own_stp 24 X1360 hx hZ e1360 V1360 (cc := 105) (by decide) rfl (by omega) (by omega) N1360 g_ex K1360 (Or.inl (by simp)) rfl (g := (mkF m 191 #[vI a, vI b, vI nn, vI u, vI v, vR ex] [(.int 105), (.int 24), (.ref ex)])) rfl rfl (own_k hby 191 (.castore) 1)
  have S1363 : Ga T1362 (mkF m 198 #[vI a, vI b, vI nn, vI u, vI v, vR ex] [(.int 115), (.int 25), (.ref ex)]) := nx S1361 fun t kt => st1362 t (by
    show Sp p e below T1362 (mkF m 192 #[vI a, vI b, vI nn, vI u, vI v, vR ex] []) _
    refine XS.aload X1362.here hx rfl (own_k hby 192 (.aload 5) 2) rfl rfl ?_
    refine xb X1362.here hx hby 194 25 ?_
    refine xb X1362.here hx hby 196 115 ?_
    exact kt)
  obtain ⟨T1364, h1364, L1364, X1364, e1364, N1364, K1364, V1364, st1364⟩ := own_stp 25 X1362 hx hZ e1362 V1362 (cc := 115) (by decide) rfl (by omega) (by omega) N1362 g_ex K1362 (Or.inl (by simp)) rfl (g := (mkF m 198 #[vI a, vI b, vI nn, vI u, vI v, vR ex] [(.int 115), (.int 25), (.ref ex)])) rfl rfl (own_k hby 198 (.castore) 1)
  have S1365 : Ga T1364 (mkF m 205 #[vI a, vI b, vI nn, vI u, vI v, vR ex] [(.int 61), (.int 26), (.ref ex)]) := nx S1363 fun t kt => st1364 t (by
    show Sp p e below T1364 (mkF m 199 #[vI a, vI b, vI nn, vI u, vI v, vR ex] []) _
    refine XS.aload X1364.here hx rfl (own_k hby 199 (.aload 5) 2) rfl rfl ?_
    refine xb X1364.here hx hby 201 26 ?_
    refine xb X1364.here hx hby 203 61 ?_
    exact kt)
  obtain ⟨T1366, h1366, L1366, X1366, e1366, N1366, K1366, V1366, st1366⟩ := own_stp 26 X1364 hx hZ e1364 V1364 (cc := 61) (by decide) rfl (by omega) (by omega) N1364 g_ex K1364 (Or.inl (by simp)) rfl (g := (mkF m 205 #[vI a, vI b, vI nn, vI u, vI v, vR ex] [(.int 61), (.int 26), (.ref ex)])) rfl rfl (own_k hby 205 (.castore) 1)
  have S1367 : Ga T1366 (mkF m 212 #[vI a, vI b, vI nn, vI u, vI v, vR ex] [(.int 91), (.int 27), (.ref ex)]) := nx S1365 fun t kt => st1366 t (by
    show Sp p e below T1366 (mkF m 206 #[vI a, vI b, vI nn, vI u, vI v, vR ex] []) _
    refine XS.aload X1366.here hx rfl (own_k hby 206 (.aload 5) 2) rfl rfl ?_
    refine xb X1366.here hx hby 208 27 ?_
    refine xb X1366.here hx hby 210 91 ?_
    exact kt)
  obtain ⟨T1368, h1368, L1368, X1368, e1368, N1368, K1368, V1368, st1368⟩ := own_stp 27 X1366 hx hZ e1366 V1366 (cc := 91) (by decide) rfl (by omega) (by omega) N1366 g_ex K1366 (Or.inl (by simp)) rfl (g := (mkF m 212 #[vI a, vI b, vI nn, vI u, vI v, vR ex] [(.int 91), (.int 27), (.ref ex)])) rfl rfl (own_k hby 212 (.castore) 1)
  have S1369 : Ga T1368 (mkF m 213 #[vI a, vI b, vI nn, vI u, vI v, vR ex] []) := nx S1367 fun t kt => st1368 t kt
  exact ⟨T1368, _, _, X1368, e1368, N1368, K1368, V1368, og S1369⟩
abbrev R_exp : Room := { frames := 0, cells := 1, slots := 34, locals := 0 }
abbrev eF_25 (m : MethodId) (x0 : Int32) (x1 : Int32) (x2 : Int32) (x3 : Int32) (x4 : Int32) : JFrame := entryFrame m #[(.int x0), (.int x1), (.int x2), (.int x3), (.int x4)] 6
theorem ef_25 (m : MethodId) (x0 : Int32) (x1 : Int32) (x2 : Int32) (x3 : Int32) (x4 : Int32) : entryFrame m #[(.int x0), (.int x1), (.int x2), (.int x3), (.int x4)] 6 = mkF m 0 #[.val (.int x0), .val (.int x1), .val (.int x2), .val (.int x3), .val (.int x4), .unset] [] := by first | (simp [entryFrame, mkF, argsToLocals, Value.category]; done) | rfl
theorem pn_exp : plainName "com/example/passlane/passlane/oidc/ClientToStringPinLaw" = true := by first | (simp [plainName, overriddenIn]; done) | decide +kernel
def Q_exp (Z : State) (a : Int32) (b : Int32) (jn : Nat) (u : Int32) (v : Int32) (h0 : Heap) (n0 : Nat) (v' : Option Value) (h : Heap) (L : List Loc) : Prop := ∃ (ex : Addr) (kx : ClassId), v' = some (.ref ex) ∧ Fr n0 L ∧ Keep h0 h [] ∧ h0.size ≤ ex ∧ Arv Z h ex kx .char (own_N jn) ((own_px a b ++ own_tl u v jn).map Value.int) (.int 0)
theorem rm_exp {l : Launch} {Z : State} {a0 : Array Value} (hw : own_W a0 Z) (a : Int32) (b : Int32) (jn : Nat) (u : Int32) (v : Int32) (h0 : Heap) (n0 : Nat) (Z0 : n0 ≤ h0.size) (ha : own_c a) (hb_ : own_c b) (hu : own_c u) (hv : own_c v) (hj3 : jn < 3) : own_Met l y19 method_3_code 6 (some (.array .char)) R_exp Z h0 #[(.int a), (.int b), (.int (Int32.ofNat jn)), (.int u), (.int v)] (Q_exp Z a b jn u v h0 n0) := by
  refine own_body (plainFor_of_name pn_exp) fun p e s m below meth c s₁ hlk hret hnm hx hby hml hown hZ X0 e0 => ?_
  have N0 := Fr.nil n0
  obtain ⟨Ga, Sa, nx, og⟩ := own_ga (p := p) (e := e) (below := below) s₁ (eF_25 m a b (Int32.ofNat jn) u v)
  have S0 : Ga s₁ (mkF m 0 #[vI a, vI b, vI (Int32.ofNat jn), vI u, vI v, vU] []) := nx Sa fun t k => castTop (ef_25 m a b (Int32.ofNat jn) u v) k
  obtain rfl | rfl | rfl : jn = 0 ∨ jn = 1 ∨ jn = 2 := by omega
  · have q1371 : (Int32.ofNat 0) = (0 : Int32) := rfl
    have S1370 : Ga s₁ (mkF m 0 #[vI a, vI b, vI 0, vI u, vI v, vU] []) := by have h := S0; rw [q1371] at h; exact h
    clear S0
    have S1372 : Ga s₁ (mkF m 21 #[vI a, vI b, vI 0, vI u, vI v, vU] [(.int 30)]) := nx S1370 fun t kt => by
      refine xi X0.here hx hby 0 2 rfl ?_
      refine XS.ifNo X0.here hx rfl (own_k hby 1 (.ifCond .ne 8) 3) rfl ((if0 _ _).trans (teq (show (0 : Int32) = (0 : Int32) from (by decide))).2) ?_
      refine xb X0.here hx hby 4 30 ?_
      refine XS.goto X0.here hx rfl (pc0 := 6) (pc' := 21) rfl (own_k hby 6 (.goto 15) 3) (by decide) (by decide) ?_
      show Sp p e below s₁ (mkF m 21 #[vI a, vI b, vI 0, vI u, vI v, vU] [(.int 30)]) _
      exact kt
    obtain ⟨T1373, h1373, k1373, X1373, e1373, E1373, A1373, st1373⟩ := newP X0 hx hZ (own_h hw 4 rfl) e0 (g := (mkF m 21 #[vI a, vI b, vI 0, vI u, vI v, vU] [(.int 30)])) rfl (own_k hby 21 (.newarray .char) 2) rfl (by decide) (cap := 30) (by decide) (by decide) (by decide) (by decide)
    obtain ⟨ex, g1373⟩ : ∃ z, z = h0.size := ⟨_, rfl⟩
    rw [← g1373] at A1373 st1373
    have g_ex : n0 ≤ ex := Nat.le_trans Z0 (Nat.le_of_eq g1373.symm)
    have sz_ex : h0.size ≤ ex := Nat.le_trans (Keep.refl h0 []).1 (Nat.le_of_eq g1373.symm)
    have K1373 : Keep h0 h1373 [] := (Keep.refl h0 []).ext E1373
    have V1373 : Arv Z h1373 ex k1373 .char 30 [(.int 0), (.int 0), (.int 0), (.int 0), (.int 0), (.int 0), (.int 0), (.int 0), (.int 0), (.int 0), (.int 0), (.int 0), (.int 0), (.int 0), (.int 0), (.int 0), (.int 0), (.int 0), (.int 0), (.int 0), (.int 0), (.int 0), (.int 0), (.int 0), (.int 0), (.int 0), (.int 0), (.int 0), (.int 0), (.int 0)] (.int 0) := (Arv.new A1373 (by decide)).pad (pad_rep [] _ 30)
    have S1374 : Ga T1373 (mkF m 25 #[vI a, vI b, vI 0, vI u, vI v, vR ex] []) := nx S1372 fun t kt => st1373 t (by
      show Sp p e below T1373 (mkF m 23 #[vI a, vI b, vI 0, vI u, vI v, vU] [(.ref ex)]) _
      refine XS.astore X1373.here hx rfl (own_k hby 23 (.astore 5) 2) rfl rfl (l' := #[vI a, vI b, vI 0, vI u, vI v, vR ex]) rfl ?_
      exact kt)
    have V0 : Arv Z h1373 ex k1373 .char (Int32.ofNat 30) (own_fl (own_px a b ++ [93, 93]) 0 30) (.int 0) := V1373
    obtain ⟨T1375, h1375, L1375, X1375, e1375, N1375, K1375, V1375, G1375⟩ := sg_exp Z a b (0 : Int32) u v ex k1373 [93, 93] 30 h1373 n0 ha hb_ (by decide) (by decide) g_ex V0 hx hZ hby X1373 e1373 N0
    have SG1375 := nx S1374 G1375
    have KK1375 : Keep h0 h1375 [] := K1373.trans K1375 (allS (Or.inr sz_ex) all0)
    have S1376 : Ga T1375 (mkF m 223 #[vI a, vI b, vI 0, vI u, vI v, vR ex] [(.int 93), (.int 28), (.ref ex)]) := nx SG1375 fun t kt => by
      refine xi X1375.here hx hby 213 2 rfl ?_
      refine XS.ifNo X1375.here hx rfl (own_k hby 214 (.ifCond .ne 20) 3) rfl ((if0 _ _).trans (teq (show (0 : Int32) = (0 : Int32) from (by decide))).2) ?_
      refine XS.aload X1375.here hx rfl (own_k hby 217 (.aload 5) 2) rfl rfl ?_
      refine xb X1375.here hx hby 219 28 ?_
      show Sp p e below T1375 (mkF m 221 #[vI a, vI b, vI 0, vI u, vI v, vR ex] [(.int 28), (.ref ex)]) _
      refine xb X1375.here hx hby 221 93 ?_
      exact kt
    obtain ⟨T1377, h1377, L1377, X1377, e1377, N1377, K1377, V1377, st1377⟩ := own_stp 28 X1375 hx hZ e1375 V1375 (cc := 93) (by decide) rfl (by omega) (by omega) N1375 g_ex KK1375 (Or.inr sz_ex) rfl (g := (mkF m 223 #[vI a, vI b, vI 0, vI u, vI v, vR ex] [(.int 93), (.int 28), (.ref ex)])) rfl rfl (own_k hby 223 (.castore) 1)
    have S1378 : Ga T1377 (mkF m 230 #[vI a, vI b, vI 0, vI u, vI v, vR ex] [(.int 93), (.int 29), (.ref ex)]) := nx S1376 fun t kt => st1377 t (by
      show Sp p e below T1377 (mkF m 224 #[vI a, vI b, vI 0, vI u, vI v, vR ex] []) _
      refine XS.aload X1377.here hx rfl (own_k hby 224 (.aload 5) 2) rfl rfl ?_
      refine xb X1377.here hx hby 226 29 ?_
      refine xb X1377.here hx hby 228 93 ?_
      exact kt)
    obtain ⟨T1379, h1379, L1379, X1379, e1379, N1379, K1379, V1379, st1379⟩ := own_stp 29 X1377 hx hZ e1377 V1377 (cc := 93) (by decide) rfl (by omega) (by omega) N1377 g_ex K1377 (Or.inr sz_ex) rfl (g := (mkF m 230 #[vI a, vI b, vI 0, vI u, vI v, vR ex] [(.int 93), (.int 29), (.ref ex)])) rfl rfl (own_k hby 230 (.castore) 1)
    have S1380 : Ga T1379 (mkF m 305 #[vI a, vI b, vI 0, vI u, vI v, vR ex] [(.ref ex)]) := nx S1378 fun t kt => st1379 t (by
      show Sp p e below T1379 (mkF m 231 #[vI a, vI b, vI 0, vI u, vI v, vR ex] []) _
      refine XS.goto X1379.here hx rfl (pc0 := 231) (pc' := 303) rfl (own_k hby 231 (.goto 72) 3) (by decide) (by decide) ?_
      refine XS.aload X1379.here hx rfl (own_k hby 303 (.aload 5) 2) rfl rfl ?_
      exact kt)
    refine ⟨T1379, _, some (.ref ex), _, _, _, X1379, og S1380, fun h => (nomatch hret.symm.trans h), by decide, by decide, ?_, fun fs hr => retOut X1379 hx hret rfl (Or.inr (Or.inr (Or.inr (Or.inr ⟨rfl, rfl, rfl⟩)))) (own_k hby 305 (.areturn) 1) hr⟩
    show Q_exp Z a b 0 u v h0 n0 _ T1379.heap _
    rw [e1379]
    exact ⟨ex, k1373, rfl, N1379, K1379, sz_ex, own_flA V1379 rfl rfl⟩
  · have q1382 : (Int32.ofNat 1) = (1 : Int32) := rfl
    have S1381 : Ga s₁ (mkF m 0 #[vI a, vI b, vI 1, vI u, vI v, vU] []) := by have h := S0; rw [q1382] at h; exact h
    clear S0
    have S1383 : Ga s₁ (mkF m 21 #[vI a, vI b, vI 1, vI u, vI v, vU] [(.int 31)]) := nx S1381 fun t kt => by
      refine xi X0.here hx hby 0 2 rfl ?_
      refine XS.ifYes X0.here hx rfl (pc0 := 1) (pc' := 9) rfl (own_k hby 1 (.ifCond .ne 8) 3) rfl ((if0 _ _).trans (feq (show ¬ ((1 : Int32) = (0 : Int32)) from (by decide))).2) (by decide) (by decide) ?_
      refine xi X0.here hx hby 9 2 rfl ?_
      refine xc X0.here hx hby 10 1 ?_
      show Sp p e below s₁ (mkF m 11 #[vI a, vI b, vI 1, vI u, vI v, vU] [(.int 1), (.int 1)]) _
      refine XS.icmpNo X0.here hx rfl (own_k hby 11 (.if_icmp .ne 8) 3) rfl (teq (show (1 : Int32) = (1 : Int32) from (by decide))).2 ?_
      refine xb X0.here hx hby 14 31 ?_
      refine XS.goto X0.here hx rfl (pc0 := 16) (pc' := 21) rfl (own_k hby 16 (.goto 5) 3) (by decide) (by decide) ?_
      exact kt
    obtain ⟨T1384, h1384, k1384, X1384, e1384, E1384, A1384, st1384⟩ := newP X0 hx hZ (own_h hw 4 rfl) e0 (g := (mkF m 21 #[vI a, vI b, vI 1, vI u, vI v, vU] [(.int 31)])) rfl (own_k hby 21 (.newarray .char) 2) rfl (by decide) (cap := 31) (by decide) (by decide) (by decide) (by decide)
    obtain ⟨ex, g1384⟩ : ∃ z, z = h0.size := ⟨_, rfl⟩
    rw [← g1384] at A1384 st1384
    have g_ex : n0 ≤ ex := Nat.le_trans Z0 (Nat.le_of_eq g1384.symm)
    have sz_ex : h0.size ≤ ex := Nat.le_trans (Keep.refl h0 []).1 (Nat.le_of_eq g1384.symm)
    have K1384 : Keep h0 h1384 [] := (Keep.refl h0 []).ext E1384
    have V1384 : Arv Z h1384 ex k1384 .char 31 [(.int 0), (.int 0), (.int 0), (.int 0), (.int 0), (.int 0), (.int 0), (.int 0), (.int 0), (.int 0), (.int 0), (.int 0), (.int 0), (.int 0), (.int 0), (.int 0), (.int 0), (.int 0), (.int 0), (.int 0), (.int 0), (.int 0), (.int 0), (.int 0), (.int 0), (.int 0), (.int 0), (.int 0), (.int 0), (.int 0), (.int 0)] (.int 0) := (Arv.new A1384 (by decide)).pad (pad_rep [] _ 31)
    have S1385 : Ga T1384 (mkF m 25 #[vI a, vI b, vI 1, vI u, vI v, vR ex] []) := nx S1383 fun t kt => st1384 t (by
      show Sp p e below T1384 (mkF m 23 #[vI a, vI b, vI 1, vI u, vI v, vU] [(.ref ex)]) _
      refine XS.astore X1384.here hx rfl (own_k hby 23 (.astore 5) 2) rfl rfl (l' := #[vI a, vI b, vI 1, vI u, vI v, vR ex]) rfl ?_
      exact kt)
    have V0 : Arv Z h1384 ex k1384 .char (Int32.ofNat 31) (own_fl (own_px a b ++ [u, 93, 93]) 0 31) (.int 0) := V1384
    obtain ⟨T1386, h1386, L1386, X1386, e1386, N1386, K1386, V1386, G1386⟩ := sg_exp Z a b (1 : Int32) u v ex k1384 [u, 93, 93] 31 h1384 n0 ha hb_ (by decide) (by decide) g_ex V0 hx hZ hby X1384 e1384 N0
    have SG1386 := nx S1385 G1386
    have KK1386 : Keep h0 h1386 [] := K1384.trans K1386 (allS (Or.inr sz_ex) all0)
    have S1387 : Ga T1386 (mkF m 244 #[vI a, vI b, vI 1, vI u, vI v, vR ex] [(.int u), (.int 28), (.ref ex)]) := nx SG1386 fun t kt => by
      refine xi X1386.here hx hby 213 2 rfl ?_
      refine XS.ifYes X1386.here hx rfl (pc0 := 214) (pc' := 234) rfl (own_k hby 214 (.ifCond .ne 20) 3) rfl ((if0 _ _).trans (feq (show ¬ ((1 : Int32) = (0 : Int32)) from (by decide))).2) (by decide) (by decide) ?_
      refine xi X1386.here hx hby 234 2 rfl ?_
      refine xc X1386.here hx hby 235 1 ?_
      show Sp p e below T1386 (mkF m 236 #[vI a, vI b, vI 1, vI u, vI v, vR ex] [(.int 1), (.int 1)]) _
      refine XS.icmpNo X1386.here hx rfl (own_k hby 236 (.if_icmp .ne 26) 3) rfl (teq (show (1 : Int32) = (1 : Int32) from (by decide))).2 ?_
      refine XS.aload X1386.here hx rfl (own_k hby 239 (.aload 5) 2) rfl rfl ?_
      refine xb X1386.here hx hby 241 28 ?_
      refine xi X1386.here hx hby 243 3 rfl ?_
      show Sp p e below T1386 (mkF m 244 #[vI a, vI b, vI 1, vI u, vI v, vR ex] [(.int u), (.int 28), (.ref ex)]) _
      exact kt
    obtain ⟨T1388, h1388, L1388, X1388, e1388, N1388, K1388, V1388, st1388⟩ := own_stp 28 X1386 hx hZ e1386 V1386 (cc := u) (own_nc2 hu) rfl (by omega) (by omega) N1386 g_ex KK1386 (Or.inr sz_ex) rfl (g := (mkF m 244 #[vI a, vI b, vI 1, vI u, vI v, vR ex] [(.int u), (.int 28), (.ref ex)])) rfl rfl (own_k hby 244 (.castore) 1)
    have S1389 : Ga T1388 (mkF m 251 #[vI a, vI b, vI 1, vI u, vI v, vR ex] [(.int 93), (.int 29), (.ref ex)]) := nx S1387 fun t kt => st1388 t (by
      show Sp p e below T1388 (mkF m 245 #[vI a, vI b, vI 1, vI u, vI v, vR ex] []) _
      refine XS.aload X1388.here hx rfl (own_k hby 245 (.aload 5) 2) rfl rfl ?_
      refine xb X1388.here hx hby 247 29 ?_
      refine xb X1388.here hx hby 249 93 ?_
      exact kt)
    obtain ⟨T1390, h1390, L1390, X1390, e1390, N1390, K1390, V1390, st1390⟩ := own_stp 29 X1388 hx hZ e1388 V1388 (cc := 93) (by decide) rfl (by omega) (by omega) N1388 g_ex K1388 (Or.inr sz_ex) rfl (g := (mkF m 251 #[vI a, vI b, vI 1, vI u, vI v, vR ex] [(.int 93), (.int 29), (.ref ex)])) rfl rfl (own_k hby 251 (.castore) 1)
    have S1391 : Ga T1390 (mkF m 258 #[vI a, vI b, vI 1, vI u, vI v, vR ex] [(.int 93), (.int 30), (.ref ex)]) := nx S1389 fun t kt => st1390 t (by
      show Sp p e below T1390 (mkF m 252 #[vI a, vI b, vI 1, vI u, vI v, vR ex] []) _
      refine XS.aload X1390.here hx rfl (own_k hby 252 (.aload 5) 2) rfl rfl ?_
      refine xb X1390.here hx hby 254 30 ?_
      refine xb X1390.here hx hby 256 93 ?_
      exact kt)
    obtain ⟨T1392, h1392, L1392, X1392, e1392, N1392, K1392, V1392, st1392⟩ := own_stp 30 X1390 hx hZ e1390 V1390 (cc := 93) (by decide) rfl (by omega) (by omega) N1390 g_ex K1390 (Or.inr sz_ex) rfl (g := (mkF m 258 #[vI a, vI b, vI 1, vI u, vI v, vR ex] [(.int 93), (.int 30), (.ref ex)])) rfl rfl (own_k hby 258 (.castore) 1)
    have S1393 : Ga T1392 (mkF m 305 #[vI a, vI b, vI 1, vI u, vI v, vR ex] [(.ref ex)]) := nx S1391 fun t kt => st1392 t (by
      show Sp p e below T1392 (mkF m 259 #[vI a, vI b, vI 1, vI u, vI v, vR ex] []) _
      refine XS.goto X1392.here hx rfl (pc0 := 259) (pc' := 303) rfl (own_k hby 259 (.goto 44) 3) (by decide) (by decide) ?_
      refine XS.aload X1392.here hx rfl (own_k hby 303 (.aload 5) 2) rfl rfl ?_
      exact kt)
    refine ⟨T1392, _, some (.ref ex), _, _, _, X1392, og S1393, fun h => (nomatch hret.symm.trans h), by decide, by decide, ?_, fun fs hr => retOut X1392 hx hret rfl (Or.inr (Or.inr (Or.inr (Or.inr ⟨rfl, rfl, rfl⟩)))) (own_k hby 305 (.areturn) 1) hr⟩
    show Q_exp Z a b 1 u v h0 n0 _ T1392.heap _
    rw [e1392]
    exact ⟨ex, k1384, rfl, N1392, K1392, sz_ex, own_flA V1392 rfl rfl⟩
  · have q1395 : (Int32.ofNat 2) = (2 : Int32) := rfl
    have S1394 : Ga s₁ (mkF m 0 #[vI a, vI b, vI 2, vI u, vI v, vU] []) := by have h := S0; rw [q1395] at h; exact h
    clear S0
    have S1396 : Ga s₁ (mkF m 21 #[vI a, vI b, vI 2, vI u, vI v, vU] [(.int 34)]) := nx S1394 fun t kt => by
      refine xi X0.here hx hby 0 2 rfl ?_
      refine XS.ifYes X0.here hx rfl (pc0 := 1) (pc' := 9) rfl (own_k hby 1 (.ifCond .ne 8) 3) rfl ((if0 _ _).trans (feq (show ¬ ((2 : Int32) = (0 : Int32)) from (by decide))).2) (by decide) (by decide) ?_
      refine xi X0.here hx hby 9 2 rfl ?_
      refine xc X0.here hx hby 10 1 ?_
      show Sp p e below s₁ (mkF m 11 #[vI a, vI b, vI 2, vI u, vI v, vU] [(.int 1), (.int 2)]) _
      refine XS.icmpYes X0.here hx rfl (pc0 := 11) (pc' := 19) rfl (own_k hby 11 (.if_icmp .ne 8) 3) rfl (feq (show ¬ ((2 : Int32) = (1 : Int32)) from (by decide))).2 (by decide) (by decide) ?_
      refine xb X0.here hx hby 19 34 ?_
      exact kt
    obtain ⟨T1397, h1397, k1397, X1397, e1397, E1397, A1397, st1397⟩ := newP X0 hx hZ (own_h hw 4 rfl) e0 (g := (mkF m 21 #[vI a, vI b, vI 2, vI u, vI v, vU] [(.int 34)])) rfl (own_k hby 21 (.newarray .char) 2) rfl (by decide) (cap := 34) (by decide) (by decide) (by decide) (by decide)
    obtain ⟨ex, g1397⟩ : ∃ z, z = h0.size := ⟨_, rfl⟩
    rw [← g1397] at A1397 st1397
    have g_ex : n0 ≤ ex := Nat.le_trans Z0 (Nat.le_of_eq g1397.symm)
    have sz_ex : h0.size ≤ ex := Nat.le_trans (Keep.refl h0 []).1 (Nat.le_of_eq g1397.symm)
    have K1397 : Keep h0 h1397 [] := (Keep.refl h0 []).ext E1397
    have V1397 : Arv Z h1397 ex k1397 .char 34 [(.int 0), (.int 0), (.int 0), (.int 0), (.int 0), (.int 0), (.int 0), (.int 0), (.int 0), (.int 0), (.int 0), (.int 0), (.int 0), (.int 0), (.int 0), (.int 0), (.int 0), (.int 0), (.int 0), (.int 0), (.int 0), (.int 0), (.int 0), (.int 0), (.int 0), (.int 0), (.int 0), (.int 0), (.int 0), (.int 0), (.int 0), (.int 0), (.int 0), (.int 0)] (.int 0) := (Arv.new A1397 (by decide)).pad (pad_rep [] _ 34)
    have S1398 : Ga T1397 (mkF m 25 #[vI a, vI b, vI 2, vI u, vI v, vR ex] []) := nx S1396 fun t kt => st1397 t (by
      show Sp p e below T1397 (mkF m 23 #[vI a, vI b, vI 2, vI u, vI v, vU] [(.ref ex)]) _
      refine XS.astore X1397.here hx rfl (own_k hby 23 (.astore 5) 2) rfl rfl (l' := #[vI a, vI b, vI 2, vI u, vI v, vR ex]) rfl ?_
      exact kt)
    have V0 : Arv Z h1397 ex k1397 .char (Int32.ofNat 34) (own_fl (own_px a b ++ [u, 44, 32, v, 93, 93]) 0 34) (.int 0) := V1397
    obtain ⟨T1399, h1399, L1399, X1399, e1399, N1399, K1399, V1399, G1399⟩ := sg_exp Z a b (2 : Int32) u v ex k1397 [u, 44, 32, v, 93, 93] 34 h1397 n0 ha hb_ (by decide) (by decide) g_ex V0 hx hZ hby X1397 e1397 N0
    have SG1399 := nx S1398 G1399
    have KK1399 : Keep h0 h1399 [] := K1397.trans K1399 (allS (Or.inr sz_ex) all0)
    have S1400 : Ga T1399 (mkF m 267 #[vI a, vI b, vI 2, vI u, vI v, vR ex] [(.int u), (.int 28), (.ref ex)]) := nx SG1399 fun t kt => by
      refine xi X1399.here hx hby 213 2 rfl ?_
      refine XS.ifYes X1399.here hx rfl (pc0 := 214) (pc' := 234) rfl (own_k hby 214 (.ifCond .ne 20) 3) rfl ((if0 _ _).trans (feq (show ¬ ((2 : Int32) = (0 : Int32)) from (by decide))).2) (by decide) (by decide) ?_
      refine xi X1399.here hx hby 234 2 rfl ?_
      refine xc X1399.here hx hby 235 1 ?_
      show Sp p e below T1399 (mkF m 236 #[vI a, vI b, vI 2, vI u, vI v, vR ex] [(.int 1), (.int 2)]) _
      refine XS.icmpYes X1399.here hx rfl (pc0 := 236) (pc' := 262) rfl (own_k hby 236 (.if_icmp .ne 26) 3) rfl (feq (show ¬ ((2 : Int32) = (1 : Int32)) from (by decide))).2 (by decide) (by decide) ?_
      refine XS.aload X1399.here hx rfl (own_k hby 262 (.aload 5) 2) rfl rfl ?_
      refine xb X1399.here hx hby 264 28 ?_
      refine xi X1399.here hx hby 266 3 rfl ?_
      show Sp p e below T1399 (mkF m 267 #[vI a, vI b, vI 2, vI u, vI v, vR ex] [(.int u), (.int 28), (.ref ex)]) _
      exact kt
    obtain ⟨T1401, h1401, L1401, X1401, e1401, N1401, K1401, V1401, st1401⟩ := own_stp 28 X1399 hx hZ e1399 V1399 (cc := u) (own_nc2 hu) rfl (by omega) (by omega) N1399 g_ex KK1399 (Or.inr sz_ex) rfl (g := (mkF m 267 #[vI a, vI b, vI 2, vI u, vI v, vR ex] [(.int u), (.int 28), (.ref ex)])) rfl rfl (own_k hby 267 (.castore) 1)
    have S1402 : Ga T1401 (mkF m 274 #[vI a, vI b, vI 2, vI u, vI v, vR ex] [(.int 44), (.int 29), (.ref ex)]) := nx S1400 fun t kt => st1401 t (by
      show Sp p e below T1401 (mkF m 268 #[vI a, vI b, vI 2, vI u, vI v, vR ex] []) _
      refine XS.aload X1401.here hx rfl (own_k hby 268 (.aload 5) 2) rfl rfl ?_
      refine xb X1401.here hx hby 270 29 ?_
      refine xb X1401.here hx hby 272 44 ?_
      exact kt)
    obtain ⟨T1403, h1403, L1403, X1403, e1403, N1403, K1403, V1403, st1403⟩ := own_stp 29 X1401 hx hZ e1401 V1401 (cc := 44) (by decide) rfl (by omega) (by omega) N1401 g_ex K1401 (Or.inr sz_ex) rfl (g := (mkF m 274 #[vI a, vI b, vI 2, vI u, vI v, vR ex] [(.int 44), (.int 29), (.ref ex)])) rfl rfl (own_k hby 274 (.castore) 1)
    have S1404 : Ga T1403 (mkF m 281 #[vI a, vI b, vI 2, vI u, vI v, vR ex] [(.int 32), (.int 30), (.ref ex)]) := nx S1402 fun t kt => st1403 t (by
      show Sp p e below T1403 (mkF m 275 #[vI a, vI b, vI 2, vI u, vI v, vR ex] []) _
      refine XS.aload X1403.here hx rfl (own_k hby 275 (.aload 5) 2) rfl rfl ?_
      refine xb X1403.here hx hby 277 30 ?_
      refine xb X1403.here hx hby 279 32 ?_
      exact kt)
    obtain ⟨T1405, h1405, L1405, X1405, e1405, N1405, K1405, V1405, st1405⟩ := own_stp 30 X1403 hx hZ e1403 V1403 (cc := 32) (by decide) rfl (by omega) (by omega) N1403 g_ex K1403 (Or.inr sz_ex) rfl (g := (mkF m 281 #[vI a, vI b, vI 2, vI u, vI v, vR ex] [(.int 32), (.int 30), (.ref ex)])) rfl rfl (own_k hby 281 (.castore) 1)
    have S1406 : Ga T1405 (mkF m 288 #[vI a, vI b, vI 2, vI u, vI v, vR ex] [(.int v), (.int 31), (.ref ex)]) := nx S1404 fun t kt => st1405 t (by
      show Sp p e below T1405 (mkF m 282 #[vI a, vI b, vI 2, vI u, vI v, vR ex] []) _
      refine XS.aload X1405.here hx rfl (own_k hby 282 (.aload 5) 2) rfl rfl ?_
      refine xb X1405.here hx hby 284 31 ?_
      refine XS.iload X1405.here hx rfl (own_k hby 286 (.iload 4) 2) rfl ?_
      exact kt)
    obtain ⟨T1407, h1407, L1407, X1407, e1407, N1407, K1407, V1407, st1407⟩ := own_stp 31 X1405 hx hZ e1405 V1405 (cc := v) (own_nc2 hv) rfl (by omega) (by omega) N1405 g_ex K1405 (Or.inr sz_ex) rfl (g := (mkF m 288 #[vI a, vI b, vI 2, vI u, vI v, vR ex] [(.int v), (.int 31), (.ref ex)])) rfl rfl (own_k hby 288 (.castore) 1)
    have S1408 : Ga T1407 (mkF m 295 #[vI a, vI b, vI 2, vI u, vI v, vR ex] [(.int 93), (.int 32), (.ref ex)]) := nx S1406 fun t kt => st1407 t (by
      show Sp p e below T1407 (mkF m 289 #[vI a, vI b, vI 2, vI u, vI v, vR ex] []) _
      refine XS.aload X1407.here hx rfl (own_k hby 289 (.aload 5) 2) rfl rfl ?_
      refine xb X1407.here hx hby 291 32 ?_
      refine xb X1407.here hx hby 293 93 ?_
      exact kt)
    obtain ⟨T1409, h1409, L1409, X1409, e1409, N1409, K1409, V1409, st1409⟩ := own_stp 32 X1407 hx hZ e1407 V1407 (cc := 93) (by decide) rfl (by omega) (by omega) N1407 g_ex K1407 (Or.inr sz_ex) rfl (g := (mkF m 295 #[vI a, vI b, vI 2, vI u, vI v, vR ex] [(.int 93), (.int 32), (.ref ex)])) rfl rfl (own_k hby 295 (.castore) 1)
    have S1410 : Ga T1409 (mkF m 302 #[vI a, vI b, vI 2, vI u, vI v, vR ex] [(.int 93), (.int 33), (.ref ex)]) := nx S1408 fun t kt => st1409 t (by
      show Sp p e below T1409 (mkF m 296 #[vI a, vI b, vI 2, vI u, vI v, vR ex] []) _
      refine XS.aload X1409.here hx rfl (own_k hby 296 (.aload 5) 2) rfl rfl ?_
      refine xb X1409.here hx hby 298 33 ?_
      refine xb X1409.here hx hby 300 93 ?_
      exact kt)
    obtain ⟨T1411, h1411, L1411, X1411, e1411, N1411, K1411, V1411, st1411⟩ := own_stp 33 X1409 hx hZ e1409 V1409 (cc := 93) (by decide) rfl (by omega) (by omega) N1409 g_ex K1409 (Or.inr sz_ex) rfl (g := (mkF m 302 #[vI a, vI b, vI 2, vI u, vI v, vR ex] [(.int 93), (.int 33), (.ref ex)])) rfl rfl (own_k hby 302 (.castore) 1)
    have S1412 : Ga T1411 (mkF m 305 #[vI a, vI b, vI 2, vI u, vI v, vR ex] [(.ref ex)]) := nx S1410 fun t kt => st1411 t (by
      show Sp p e below T1411 (mkF m 303 #[vI a, vI b, vI 2, vI u, vI v, vR ex] []) _
      refine XS.aload X1411.here hx rfl (own_k hby 303 (.aload 5) 2) rfl rfl ?_
      exact kt)
    refine ⟨T1411, _, some (.ref ex), _, _, _, X1411, og S1412, fun h => (nomatch hret.symm.trans h), by decide, by decide, ?_, fun fs hr => retOut X1411 hx hret rfl (Or.inr (Or.inr (Or.inr (Or.inr ⟨rfl, rfl, rfl⟩)))) (own_k hby 305 (.areturn) 1) hr⟩
    show Q_exp Z a b 2 u v h0 n0 _ T1411.heap _
    rw [e1411]
    exact ⟨ex, k1397, rfl, N1411, K1411, sz_ex, own_flA V1411 rfl rfl⟩
theorem lp_cmp {p : Program} {l : Launch} {e : Env} {R : Room} {s : State} {m : MethodId} {args : Array Value} {below : List Frame} {meth : Method} {c : Code} {cells slots : Nat} (Z : State) (ar : Addr) (ka : ClassId) (bb : Addr) (kb : ClassId) (cs : List Int32) (h0 : Heap) (n0 : Nat) (g_bb : n0 ≤ bb) (hok : ∀ z ∈ cs, own_c z) (hl : cs.length ≤ 100) (hx : p.tables.exec = Jvm.exec) (hZ : Z.Warmed39 s.vm) (hby : c.code = jdk_52_method_21_code) :
    ∀ (r j : Nat) (T : State) (h : Heap) (locs : List Loc) (sl : Slot), j + r = cs.length → (sl = vU ∨ ∃ z : Int32, sl = vI z) → Stand p l e R s m args below meth c T locs cells slots → T.heap = h → Fr n0 locs → Keep h0 h [bb] → Arv Z h ar ka .char (Int32.ofNat cs.length) (cs.map Value.int) (.int 0) → Arv Z h bb kb .byte (Int32.ofNat cs.length) (own_fb cs j) (.int 0) → ∃ (T' : State) (h' : Heap) (locs' : List Loc) (sl' : Slot), Stand p l e R s m args below meth c T' locs' cells slots ∧ T'.heap = h' ∧ Fr n0 locs' ∧ Keep h0 h' [bb] ∧ Arv Z h' bb kb .byte (Int32.ofNat cs.length) (own_vs cs) (.int 0) ∧ Go p e below T (mkF m 3 #[vR ar, vI (Int32.ofNat j), vR bb, vI (Int32.ofNat j), vI (Int32.ofNat cs.length), vI (Int32.ofNat j), sl] []) T' (mkF m 46 #[vR ar, vI (Int32.ofNat cs.length), vR bb, vI (Int32.ofNat cs.length), vI (Int32.ofNat cs.length), vI (Int32.ofNat cs.length), sl'] [(.int (Int32.ofNat cs.length))]) := by
  intro r
  induction r with
  | zero =>
    intro j T h locs sl hj0 hsl X0 e0 N0 K0 Va Vb
    obtain rfl : j = cs.length := by omega
    obtain ⟨Ga, S0, nx, og⟩ := own_ga (p := p) (e := e) (below := below) T (mkF m 3 #[vR ar, vI (Int32.ofNat cs.length), vR bb, vI (Int32.ofNat cs.length), vI (Int32.ofNat cs.length), vI (Int32.ofNat cs.length), sl] [])
    have S1413 : Ga T (mkF m 7 #[vR ar, vI (Int32.ofNat cs.length), vR bb, vI (Int32.ofNat cs.length), vI (Int32.ofNat cs.length), vI (Int32.ofNat cs.length), sl] [(.int (Int32.ofNat cs.length)), (.int (Int32.ofNat cs.length))]) := nx S0 fun t kt => by
      refine XS.iload X0.here hx rfl (own_k hby 3 (.iload 5) 2) rfl ?_
      refine XS.iload X0.here hx rfl (own_k hby 5 (.iload 4) 2) rfl ?_
      exact kt
    have S1414 : Ga T (mkF m 46 #[vR ar, vI (Int32.ofNat cs.length), vR bb, vI (Int32.ofNat cs.length), vI (Int32.ofNat cs.length), vI (Int32.ofNat cs.length), sl] [(.int (Int32.ofNat cs.length))]) := nx S1413 fun t kt => by
      refine XS.icmpYes X0.here hx rfl (pc0 := 7) (pc' := 44) rfl (own_k hby 7 (.if_icmp .ge 37) 3) rfl (flt (show ¬ ((Int32.ofNat cs.length) < (Int32.ofNat cs.length)) from (fun q => absurd ((own_ltn (by omega) (by omega)).mp q) (by omega)))).2.1 (by decide) (by decide) ?_
      refine XS.iload X0.here hx rfl (own_k hby 44 (.iload 4) 2) rfl ?_
      exact kt
    exact ⟨T, h, _, sl, X0, e0, N0, K0, by rw [← own_fbN]; exact Vb, og S1414⟩
  | succ r ih =>
    intro j T h locs sl hj0 hsl X0 e0 N0 K0 Va Vb
    have hj : j < cs.length := by omega
    obtain ⟨Ga, S0, nx, og⟩ := own_ga (p := p) (e := e) (below := below) T (mkF m 3 #[vR ar, vI (Int32.ofNat j), vR bb, vI (Int32.ofNat j), vI (Int32.ofNat cs.length), vI (Int32.ofNat j), sl] [])
    have S1415 : Ga T (mkF m 7 #[vR ar, vI (Int32.ofNat j), vR bb, vI (Int32.ofNat j), vI (Int32.ofNat cs.length), vI (Int32.ofNat j), sl] [(.int (Int32.ofNat cs.length)), (.int (Int32.ofNat j))]) := nx S0 fun t kt => by
      refine XS.iload X0.here hx rfl (own_k hby 3 (.iload 5) 2) rfl ?_
      refine XS.iload X0.here hx rfl (own_k hby 5 (.iload 4) 2) rfl ?_
      exact kt
    have S1416 : Ga T (mkF m 12 #[vR ar, vI (Int32.ofNat j), vR bb, vI (Int32.ofNat j), vI (Int32.ofNat cs.length), vI (Int32.ofNat j), sl] [(.int (Int32.ofNat j)), (.ref ar)]) := nx S1415 fun t kt => by
      refine XS.icmpNo X0.here hx rfl (own_k hby 7 (.if_icmp .ge 37) 3) rfl (tlt (show (Int32.ofNat j) < (Int32.ofNat cs.length) from ((own_ltn (by omega) (by omega)).mpr hj))).2.1 ?_
      refine xa X0.here hx hby 10 0 rfl ?_
      refine xi X0.here hx hby 11 1 rfl ?_
      exact kt
    obtain ⟨co1417, Ao1417, qo1417, So1417, No1417, Ho1417, Go1417⟩ := id Va
    have hino1417 : ¬ ((Int32.ofNat j) < 0 ∨ co1417.slots.size ≤ ((Int32.ofNat j)).toNatClampNeg) := inb_of So1417 ⟨own_nn (by omega), (own_ltn (by omega) (by omega)).mpr hj⟩
    have hato1417 : co1417.slots[((Int32.ofNat j)).toNatClampNeg]? = some (.int (cs.getD j 0)) := Has.at Ho1417 hino1417 (own_chAt (by omega) hj)
    have S1418 : Ga T (mkF m 20 #[vR ar, vI (Int32.ofNat j), vR bb, vI (Int32.ofNat j), vI (Int32.ofNat cs.length), vI (Int32.ofNat j), vI (cs.getD j 0)] [(.int 255), (.int (cs.getD j 0))]) := nx S1416 fun t kt => by
      refine X0.caload hx (j := (Int32.ofNat j)) (v := (.int (cs.getD j 0))) (by rw [e0]; exact Ao1417.1) (State.isArrayOf_alike hZ.alike Ao1417.2.1) Ao1417.2.2 hino1417 hato1417 (g := (mkF m 12 #[vR ar, vI (Int32.ofNat j), vR bb, vI (Int32.ofNat j), vI (Int32.ofNat cs.length), vI (Int32.ofNat j), sl] [(.int (Int32.ofNat j)), (.ref ar)])) rfl rfl (own_k hby 12 (.caload) 1) _ ?_
      show Sp p e below T (mkF m 13 #[vR ar, vI (Int32.ofNat j), vR bb, vI (Int32.ofNat j), vI (Int32.ofNat cs.length), vI (Int32.ofNat j), sl] [(.int (cs.getD j 0))]) _
      refine XS.istore X0.here hx rfl (own_k hby 13 (.istore 6) 2) rfl (l' := #[vR ar, vI (Int32.ofNat j), vR bb, vI (Int32.ofNat j), vI (Int32.ofNat cs.length), vI (Int32.ofNat j), vI (cs.getD j 0)]) (by rcases hsl with rfl | ⟨z, rfl⟩ <;> rfl) ?_
      refine XS.iload X0.here hx rfl (own_k hby 15 (.iload 6) 2) rfl ?_
      refine XS.sipush X0.here hx rfl (own_k hby 17 (.sipush 255) 3) ?_
      show Sp p e below T (mkF m 20 #[vR ar, vI (Int32.ofNat j), vR bb, vI (Int32.ofNat j), vI (Int32.ofNat cs.length), vI (Int32.ofNat j), vI (cs.getD j 0)] [(.int 255), (.int (cs.getD j 0))]) _
      exact kt
    have S1419 : Ga T (mkF m 31 #[vR ar, vI (Int32.ofNat j), vR bb, vI (Int32.ofNat j), vI (Int32.ofNat cs.length), vI (Int32.ofNat j), vI (cs.getD j 0)] [(.int ((cs.getD j 0).toInt8.toInt32)), (.int (Int32.ofNat j)), (.ref bb)]) := nx S1418 fun t kt => by
      refine XS.icmpYes X0.here hx rfl (pc0 := 20) (pc' := 26) rfl (own_k hby 20 (.if_icmp .le 6) 3) rfl (flt (show ¬ ((255 : Int32) < (cs.getD j 0)) from (own_rng (own_cAt hok hj)).2)).2.2.2 (by decide) (by decide) ?_
      refine xa X0.here hx hby 26 2 rfl ?_
      refine xi X0.here hx hby 27 3 rfl ?_
      refine XS.iload X0.here hx rfl (own_k hby 28 (.iload 6) 2) rfl ?_
      show Sp p e below T (mkF m 30 #[vR ar, vI (Int32.ofNat j), vR bb, vI (Int32.ofNat j), vI (Int32.ofNat cs.length), vI (Int32.ofNat j), vI (cs.getD j 0)] [(.int (cs.getD j 0)), (.int (Int32.ofNat j)), (.ref bb)]) _
      refine XS.i2b X0.here hx rfl (own_k hby 30 (.i2b) 1) rfl ?_
      exact kt
    obtain ⟨co1420, Ao1420, qo1420, So1420, No1420, Ho1420, Go1420⟩ := id Vb
    have hino1420 : ¬ ((Int32.ofNat j) < 0 ∨ co1420.slots.size ≤ ((Int32.ofNat j)).toNatClampNeg) := inb_of So1420 ⟨own_nn (by omega), (own_ltn (by omega) (by omega)).mpr hj⟩
    obtain ⟨T1421, h1421, X1421, e1421, W1421, st1421⟩ := stB X0 hx hZ e0 Ao1420 (j := (Int32.ofNat j)) hino1420 (g := (mkF m 31 #[vR ar, vI (Int32.ofNat j), vR bb, vI (Int32.ofNat j), vI (Int32.ofNat cs.length), vI (Int32.ofNat j), vI (cs.getD j 0)] [(.int ((cs.getD j 0).toInt8.toInt32)), (.int (Int32.ofNat j)), (.ref bb)])) rfl rfl (own_k hby 31 (.bastore) 1)
    have N1421 := Fr.snoc X1421 N0 g_bb
    have K1421 : Keep h0 h1421 [bb] := K0.wr W1421 (Or.inl (by simp))
    have V1421 : Arv Z h1421 bb kb .byte (Int32.ofNat cs.length) (own_fb cs (j + 1)) (.int 0) := by rw [← (own_fbs hj)]; exact Arv.set Ao1420 qo1420 So1420 No1420 Ho1420 Go1420 (fits_nar_byte _) W1421 j (own_toN (by omega)) (by rw [own_fbl (by omega)]; omega)
    have S1422 : Ga T1421 (mkF m 3 #[vR ar, vI ((Int32.ofNat j) + (1 : Int32)), vR bb, vI ((Int32.ofNat j) + (1 : Int32)), vI (Int32.ofNat cs.length), vI ((Int32.ofNat j) + (1 : Int32)), vI (cs.getD j 0)] []) := nx S1419 fun t kt => st1421 t (by
      show Sp p e below T1421 (mkF m 32 #[vR ar, vI (Int32.ofNat j), vR bb, vI (Int32.ofNat j), vI (Int32.ofNat cs.length), vI (Int32.ofNat j), vI (cs.getD j 0)] []) _
      refine XS.iinc X1421.here hx rfl (own_k hby 32 (.iinc 1 1) 3) rfl (l' := #[vR ar, vI ((Int32.ofNat j) + (1 : Int32)), vR bb, vI (Int32.ofNat j), vI (Int32.ofNat cs.length), vI (Int32.ofNat j), vI (cs.getD j 0)]) rfl ?_
      refine XS.iinc X1421.here hx rfl (own_k hby 35 (.iinc 3 1) 3) rfl (l' := #[vR ar, vI ((Int32.ofNat j) + (1 : Int32)), vR bb, vI ((Int32.ofNat j) + (1 : Int32)), vI (Int32.ofNat cs.length), vI (Int32.ofNat j), vI (cs.getD j 0)]) rfl ?_
      refine XS.iinc X1421.here hx rfl (own_k hby 38 (.iinc 5 1) 3) rfl (l' := #[vR ar, vI ((Int32.ofNat j) + (1 : Int32)), vR bb, vI ((Int32.ofNat j) + (1 : Int32)), vI (Int32.ofNat cs.length), vI ((Int32.ofNat j) + (1 : Int32)), vI (cs.getD j 0)]) rfl ?_
      refine XS.goto X1421.here hx rfl (pc0 := 41) (pc' := 3) rfl (own_k hby 41 (.goto (-38)) 3) (by decide) (by decide) ?_
      show Sp p e below T1421 (mkF m 3 #[vR ar, vI ((Int32.ofNat j) + (1 : Int32)), vR bb, vI ((Int32.ofNat j) + (1 : Int32)), vI (Int32.ofNat cs.length), vI ((Int32.ofNat j) + (1 : Int32)), vI (cs.getD j 0)] []) _
      exact kt)
    have q1424 : ((Int32.ofNat j) + (1 : Int32)) = (Int32.ofNat (j + 1)) := own_inc j
    have S1423 : Ga T1421 (mkF m 3 #[vR ar, vI (Int32.ofNat (j + 1)), vR bb, vI (Int32.ofNat (j + 1)), vI (Int32.ofNat cs.length), vI (Int32.ofNat (j + 1)), vI (cs.getD j 0)] []) := by have h := S1422; rw [q1424] at h; exact h
    clear S1422
    have ne1425 : ar ≠ bb := own_neArr Va Vb (by decide)
    have f1426 := (Va.other W1421 ne1425)
    obtain ⟨T', h', locs', sl', X', e', N', K', V', G'⟩ := ih (j + 1) T1421 h1421 _ (vI (cs.getD j 0)) (by omega) (Or.inr ⟨_, rfl⟩) X1421 e1421 N1421 K1421 f1426 V1421
    exact ⟨T', h', locs', sl', X', e', N', K', V', og (nx S1423 G')⟩
abbrev R_cm5 : Room := { frames := 0, cells := 0, slots := 0, locals := 0 }
abbrev eF_26 (m : MethodId) (x0 : Addr) (x1 : Int32) (x2 : Addr) (x3 : Int32) (x4 : Int32) : JFrame := entryFrame m #[(.ref x0), (.int x1), (.ref x2), (.int x3), (.int x4)] 7
theorem ef_26 (m : MethodId) (x0 : Addr) (x1 : Int32) (x2 : Addr) (x3 : Int32) (x4 : Int32) : entryFrame m #[(.ref x0), (.int x1), (.ref x2), (.int x3), (.int x4)] 7 = mkF m 0 #[.val (.ref x0), .val (.int x1), .val (.ref x2), .val (.int x3), .val (.int x4), .unset, .unset] [] := by first | (simp [entryFrame, mkF, argsToLocals, Value.category]; done) | rfl
theorem pn_cm5 : plainName "java/lang/StringUTF16" = true := by first | (simp [plainName, overriddenIn]; done) | decide +kernel
def Q_cm5 (Z : State) (bb : Addr) (kb : ClassId) (cs : List Int32) (h0 : Heap) (n0 : Nat) (v : Option Value) (h : Heap) (L : List Loc) : Prop := v = some (.int (Int32.ofNat cs.length)) ∧ Fr n0 L ∧ Keep h0 h [bb] ∧ Arv Z h bb kb .byte (Int32.ofNat cs.length) (own_vs cs) (.int 0)
theorem rm_cm5 {l : Launch} {Z : State} {a0 : Array Value} (hw : own_W a0 Z) (ar : Addr) (ka : ClassId) (bb : Addr) (kb : ClassId) (cs : List Int32) (h0 : Heap) (n0 : Nat) (Z0 : n0 ≤ h0.size) (Va : Arv Z h0 ar ka .char (Int32.ofNat cs.length) (cs.map Value.int) (.int 0)) (Vb : Arv Z h0 bb kb .byte (Int32.ofNat cs.length) (List.replicate cs.length (.int 0)) (.int 0)) (g_bb : n0 ≤ bb) (hok : ∀ z ∈ cs, own_c z) (hl : cs.length ≤ 100) : own_Met l y5 jdk_52_method_21_code 7 (some .int) R_cm5 Z h0 #[(.ref ar), (.int 0), (.ref bb), (.int 0), (.int (Int32.ofNat cs.length))] (Q_cm5 Z bb kb cs h0 n0) := by
  refine own_body (plainFor_of_name pn_cm5) fun p e s m below meth c s₁ hlk hret hnm hx hby hml hown hZ X0 e0 => ?_
  have N0 := Fr.nil n0
  obtain ⟨Ga, Sa, nx, og⟩ := own_ga (p := p) (e := e) (below := below) s₁ (eF_26 m ar (0 : Int32) bb (0 : Int32) (Int32.ofNat cs.length))
  have S0 : Ga s₁ (mkF m 0 #[vR ar, vI 0, vR bb, vI 0, vI (Int32.ofNat cs.length), vU, vU] []) := nx Sa fun t k => castTop (ef_26 m ar (0 : Int32) bb (0 : Int32) (Int32.ofNat cs.length)) k
  have S1427 : Ga s₁ (mkF m 3 #[vR ar, vI 0, vR bb, vI 0, vI (Int32.ofNat cs.length), vI 0, vU] []) := nx S0 fun t kt => by
    refine xc X0.here hx hby 0 0 ?_
    refine XS.istore X0.here hx rfl (own_k hby 1 (.istore 5) 2) rfl (l' := #[vR ar, vI 0, vR bb, vI 0, vI (Int32.ofNat cs.length), vI 0, vU]) rfl ?_
    exact kt
  have q1429 : (0 : Int32) = (Int32.ofNat 0) := rfl
  have S1428 : Ga s₁ (mkF m 3 #[vR ar, vI (Int32.ofNat 0), vR bb, vI (Int32.ofNat 0), vI (Int32.ofNat cs.length), vI (Int32.ofNat 0), vU] []) := by have h := S1427; rw [q1429] at h; exact h
  clear S1427
  rw [← own_fb0] at Vb
  obtain ⟨T1430, h1430, L1430, sl, X1430, e1430, N1430, K1430, V1430, G1430⟩ := lp_cmp Z ar ka bb kb cs h0 n0 g_bb hok hl hx hZ hby cs.length 0 s₁ h0 _ vU (by omega) (Or.inl rfl) X0 e0 N0 (Keep.refl h0 [bb]) Va Vb
  have SL : Ga T1430 (mkF m 46 #[vR ar, vI (Int32.ofNat cs.length), vR bb, vI (Int32.ofNat cs.length), vI (Int32.ofNat cs.length), vI (Int32.ofNat cs.length), sl] [(.int (Int32.ofNat cs.length))]) := nx S1428 G1430
  refine ⟨T1430, _, some (.int (Int32.ofNat cs.length)), _, _, _, X1430, og SL, fun h => (nomatch hret.symm.trans h), by decide, by decide, ?_, fun fs hr => retI X1430 hx hret (own_k hby 46 (.ireturn) 1) hr⟩
  show Q_cm5 Z bb kb cs h0 n0 _ T1430.heap _
  rw [e1430]
  exact ⟨rfl, N1430, K1430, V1430⟩
abbrev R_cm3 : Room := { frames := 1, cells := 1, slots := 100, locals := 18 }
abbrev eF_27 (m : MethodId) (x0 : Addr) (x1 : Int32) (x2 : Int32) : JFrame := entryFrame m #[(.ref x0), (.int x1), (.int x2)] 6
theorem ef_27 (m : MethodId) (x0 : Addr) (x1 : Int32) (x2 : Int32) : entryFrame m #[(.ref x0), (.int x1), (.int x2)] 6 = mkF m 0 #[.val (.ref x0), .val (.int x1), .val (.int x2), .unset, .unset, .unset] [] := by first | (simp [entryFrame, mkF, argsToLocals, Value.category]; done) | rfl
def Q_cm3 (Z : State) (cs : List Int32) (h0 : Heap) (n0 : Nat) (v : Option Value) (h : Heap) (L : List Loc) : Prop := ∃ (b : Addr) (k' : ClassId), v = some (.ref b) ∧ Fr n0 L ∧ Keep h0 h [] ∧ h0.size ≤ b ∧ Arv Z h b k' .byte (Int32.ofNat cs.length) (own_vs cs) (.int 0)
theorem rm_cm3 {l : Launch} {Z : State} {a0 : Array Value} (hw : own_W a0 Z) (ar : Addr) (ka : ClassId) (cs : List Int32) (h0 : Heap) (n0 : Nat) (Z0 : n0 ≤ h0.size) (Va : Arv Z h0 ar ka .char (Int32.ofNat cs.length) (cs.map Value.int) (.int 0)) (hok : ∀ z ∈ cs, own_c z) (hl : cs.length ≤ 100) : own_Met l y4 jdk_52_method_16_code 6 (some (.array .byte)) R_cm3 Z h0 #[(.ref ar), (.int 0), (.int (Int32.ofNat cs.length))] (Q_cm3 Z cs h0 n0) := by
  refine own_body (plainFor_of_name pn_cm5) fun p e s m below meth c s₁ hlk hret hnm hx hby hml hown hZ X0 e0 => ?_
  have N0 := Fr.nil n0
  obtain ⟨Ga, Sa, nx, og⟩ := own_ga (p := p) (e := e) (below := below) s₁ (eF_27 m ar (0 : Int32) (Int32.ofNat cs.length))
  have S0 : Ga s₁ (mkF m 0 #[vR ar, vI 0, vI (Int32.ofNat cs.length), vU, vU, vU] []) := nx Sa fun t k => castTop (ef_27 m ar (0 : Int32) (Int32.ofNat cs.length)) k
  have S1431 : Ga s₁ (mkF m 1 #[vR ar, vI 0, vI (Int32.ofNat cs.length), vU, vU, vU] [(.int (Int32.ofNat cs.length))]) := nx S0 fun t kt => by
    refine xi X0.here hx hby 0 2 rfl ?_
    exact kt
  obtain ⟨T1432, h1432, k1432, X1432, e1432, E1432, A1432, st1432⟩ := newP X0 hx hZ (own_h hw 20 rfl) e0 (g := (mkF m 1 #[vR ar, vI 0, vI (Int32.ofNat cs.length), vU, vU, vU] [(.int (Int32.ofNat cs.length))])) rfl (own_k hby 1 (.newarray .byte) 2) rfl (own_nn (by omega)) (cap := 100) (by rw [own_toN (by omega)]; omega) (by decide) (by decide) (by decide)
  obtain ⟨bb, g1432⟩ : ∃ z, z = h0.size := ⟨_, rfl⟩
  rw [← g1432] at A1432 st1432
  have ne1433 : ar ≠ bb := by rw [g1432]; exact Nat.ne_of_lt Va.lt
  have g_bb : n0 ≤ bb := Nat.le_trans Z0 (Nat.le_of_eq g1432.symm)
  have sz_bb : h0.size ≤ bb := Nat.le_trans (Keep.refl h0 []).1 (Nat.le_of_eq g1432.symm)
  have K1432 : Keep h0 h1432 [] := (Keep.refl h0 []).ext E1432
  have V1432 : Arv Z h1432 bb k1432 .byte (Int32.ofNat cs.length) (List.replicate cs.length (.int 0)) (.int 0) := (Arv.new A1432 (own_nn (by omega))).pad (pad_rep [] _ cs.length)
  have S1434 : Ga T1432 (mkF m 9 #[vR ar, vI 0, vI (Int32.ofNat cs.length), vR bb, vU, vU] [(.int (Int32.ofNat cs.length)), (.int 0), (.ref bb), (.int 0), (.ref ar)]) := nx S1431 fun t kt => st1432 t (by
    show Sp p e below T1432 (mkF m 3 #[vR ar, vI 0, vI (Int32.ofNat cs.length), vU, vU, vU] [(.ref bb)]) _
    refine XS.astoreN X1432.here hx rfl (own_k hby 3 (.astore_n 3) 1) rfl rfl (l' := #[vR ar, vI 0, vI (Int32.ofNat cs.length), vR bb, vU, vU]) rfl ?_
    refine xa X1432.here hx hby 4 0 rfl ?_
    refine xi X1432.here hx hby 5 1 rfl ?_
    refine xa X1432.here hx hby 6 3 rfl ?_
    show Sp p e below T1432 (mkF m 7 #[vR ar, vI 0, vI (Int32.ofNat cs.length), vR bb, vU, vU] [(.ref bb), (.int 0), (.ref ar)]) _
    refine xc X1432.here hx hby 7 0 ?_
    refine xi X1432.here hx hby 8 2 rfl ?_
    exact kt)
  have f1435 := (Va.ext E1432)
  have z1436 := (Nat.le_trans Z0 E1432.1)
  obtain ⟨v1437, T1437, L1437, X1437, hQ1437, st1437⟩ := own_cS X1432 hx hZ hw hown hml 21 22 23 18 rfl rfl rfl rfl (rm_cm5 hw ar ka bb k1432 cs h1432 n0 z1436 f1435 V1432 g_bb hok hl) e1432 (W := 0) (g := (mkF m 9 #[vR ar, vI 0, vI (Int32.ofNat cs.length), vR bb, vU, vU] [(.int (Int32.ofNat cs.length)), (.int 0), (.ref bb), (.int 0), (.ref ar)])) rfl (argsL := [(.ref ar), (.int 0), (.ref bb), (.int 0), (.int (Int32.ofNat cs.length))]) (rest := []) pd___CI_BII_I (own_k hby 9 (.invokestatic 115) 3)
  obtain ⟨rfl, N1437q, K1437, V1437⟩ := hQ1437
  have N1437 := Fr.app N0 N1437q
  have KK1437 : Keep h0 T1437.heap [] := K1432.trans K1437 (allS (Or.inr sz_bb) all0)
  have S1438 : Ga T1437 (mkF m 58 #[vR ar, vI 0, vI (Int32.ofNat cs.length), vR bb, vI (Int32.ofNat cs.length), vU] [(.ref bb)]) := nx S1434 fun t kt => st1437 t (by
    show Sp p e below T1437 (mkF m 12 #[vR ar, vI 0, vI (Int32.ofNat cs.length), vR bb, vU, vU] [(.int (Int32.ofNat cs.length))]) _
    refine XS.istore X1437.here hx rfl (own_k hby 12 (.istore 4) 2) rfl (l' := #[vR ar, vI 0, vI (Int32.ofNat cs.length), vR bb, vI (Int32.ofNat cs.length), vU]) rfl ?_
    refine XS.iload X1437.here hx rfl (own_k hby 14 (.iload 4) 2) rfl ?_
    refine xi X1437.here hx hby 16 2 rfl ?_
    refine XS.icmpYes X1437.here hx rfl (pc0 := 17) (pc' := 57) rfl (own_k hby 17 (.if_icmp .eq 40) 3) rfl (teq (show (Int32.ofNat cs.length) = (Int32.ofNat cs.length) from rfl)).1 (by decide) (by decide) ?_
    show Sp p e below T1437 (mkF m 57 #[vR ar, vI 0, vI (Int32.ofNat cs.length), vR bb, vI (Int32.ofNat cs.length), vU] []) _
    refine xa X1437.here hx hby 57 3 rfl ?_
    exact kt)
  refine ⟨T1437, _, some (.ref bb), _, _, _, X1437, og S1438, fun h => (nomatch hret.symm.trans h), by decide, by decide, ?_, fun fs hr => retOut X1437 hx hret rfl (Or.inr (Or.inr (Or.inr (Or.inr ⟨rfl, rfl, rfl⟩)))) (own_k hby 58 (.areturn) 1) hr⟩
  show Q_cm3 Z cs h0 n0 _ T1437.heap _
  exact ⟨bb, k1432, rfl, N1437, KK1437, sz_bb, V1437⟩
abbrev R_cfl : Room := { frames := 0, cells := 0, slots := 0, locals := 0 }
def Q_cfl (Z : State)  (h0 : Heap) (n0 : Nat) (v : Option Value) (h : Heap) (L : List Loc) : Prop := v = some (.int 0) ∧ Fr n0 L ∧ h = h0
theorem rm_cfl {l : Launch} {Z : State} {a0 : Array Value} (hw : own_W a0 Z) (bb : Addr) (kb : ClassId) (cs : List Int32) (h0 : Heap) (n0 : Nat) (Z0 : n0 ≤ h0.size) (Vb : Arv Z h0 bb kb .byte (Int32.ofNat cs.length) (own_vs cs) (.int 0)) : own_Met l y6 jdk_52_method_15_code 2 (some .byte) R_cfl Z h0 #[(.ref bb), (.int (Int32.ofNat cs.length))] (Q_cfl Z  h0 n0) := by
  refine own_body (plainFor_of_name pn_cm5) fun p e s m below meth c s₁ hlk hret hnm hx hby hml hown hZ X0 e0 => ?_
  have N0 := Fr.nil n0
  obtain ⟨Ga, Sa, nx, og⟩ := own_ga (p := p) (e := e) (below := below) s₁ (eF_10 m bb (Int32.ofNat cs.length))
  have S0 : Ga s₁ (mkF m 0 #[vR bb, vI (Int32.ofNat cs.length)] []) := nx Sa fun t k => castTop (ef_10 m bb (Int32.ofNat cs.length)) k
  have S1439 : Ga s₁ (mkF m 2 #[vR bb, vI (Int32.ofNat cs.length)] [(.ref bb), (.int (Int32.ofNat cs.length))]) := nx S0 fun t kt => by
    refine xi X0.here hx hby 0 1 rfl ?_
    refine xa X0.here hx hby 1 0 rfl ?_
    exact kt
  obtain ⟨co1440, Ao1440, qo1440, So1440, No1440, Ho1440, Go1440⟩ := id Vb
  have S1441 : Ga s₁ (mkF m 8 #[vR bb, vI (Int32.ofNat cs.length)] [(.int (((((Int32.ofNat cs.length) - (Int32.ofNat cs.length)).toUInt32 >>> ((31 : Int32) &&& 31).toUInt32).toInt32).toInt8.toInt32))]) := nx S1439 fun t kt => by
    refine X0.arraylength hx (by rw [e0]; exact Ao1440.1) (State.isArrayOf_alike hZ.alike Ao1440.2.1) (g := (mkF m 2 #[vR bb, vI (Int32.ofNat cs.length)] [(.ref bb), (.int (Int32.ofNat cs.length))])) rfl rfl (own_k hby 2 (.arraylength) 1) _ ?_
    rw [len_of So1440 No1440]
    show Sp p e below s₁ (mkF m 3 #[vR bb, vI (Int32.ofNat cs.length)] [(.int (Int32.ofNat cs.length)), (.int (Int32.ofNat cs.length))]) _
    refine XS.isub X0.here hx rfl (own_k hby 3 (.isub) 1) rfl ?_
    refine xb X0.here hx hby 4 31 ?_
    refine XS.iushr X0.here hx rfl (own_k hby 6 (.iushr) 1) rfl ?_
    show Sp p e below s₁ (mkF m 7 #[vR bb, vI (Int32.ofNat cs.length)] [(.int ((((Int32.ofNat cs.length) - (Int32.ofNat cs.length)).toUInt32 >>> ((31 : Int32) &&& 31).toUInt32).toInt32))]) _
    refine XS.i2b X0.here hx rfl (own_k hby 7 (.i2b) 1) rfl ?_
    exact kt
  have q1443 : (((((Int32.ofNat cs.length) - (Int32.ofNat cs.length)).toUInt32 >>> ((31 : Int32) &&& 31).toUInt32).toInt32).toInt8.toInt32) = (0 : Int32) := own_cfl _
  have S1442 : Ga s₁ (mkF m 8 #[vR bb, vI (Int32.ofNat cs.length)] [(.int 0)]) := by have h := S1441; rw [q1443] at h; exact h
  clear S1441
  refine ⟨s₁, _, some (.int (nar .byte 0)), _, _, _, X0, og S1442, fun h => (nomatch hret.symm.trans h), by decide, by decide, ?_, fun fs hr => retN X0 hx (t := .byte) hret (by simp) (own_k hby 8 (.ireturn) 1) hr⟩
  show Q_cfl Z  h0 n0 _ s₁.heap _
  rw [e0]
  exact ⟨(by decide), N0, rfl⟩
abbrev R_si4 : Room := { frames := 2, cells := 1, slots := 100, locals := 35 }
abbrev eF_28 (m : MethodId) (x0 : Addr) (x1 : Addr) (x2 : Int32) (x3 : Int32) : JFrame := entryFrame m #[(.ref x0), (.ref x1), (.int x2), (.int x3), .null] 6
theorem ef_28 (m : MethodId) (x0 : Addr) (x1 : Addr) (x2 : Int32) (x3 : Int32) : entryFrame m #[(.ref x0), (.ref x1), (.int x2), (.int x3), .null] 6 = mkF m 0 #[.val (.ref x0), .val (.ref x1), .val (.int x2), .val (.int x3), .val .null, .unset] [] := by first | (simp [entryFrame, mkF, argsToLocals, Value.category]; done) | rfl
def Q_si4 (Z : State) (x : Addr) (cs : List Int32) (h0 : Heap) (n0 : Nat) (v : Option Value) (h : Heap) (L : List Loc) : Prop := ∃ (b : Addr) (k' : ClassId), v = none ∧ Fr n0 L ∧ Keep h0 h [x] ∧ h0.size ≤ b ∧ own_Str Z h x b k' (Int32.ofNat cs.length) (own_vs cs)
theorem rm_si4 {l : Launch} {Z : State} {a0 : Array Value} (hw : own_W a0 Z) (no : Nat) (de : Addr) (em : Addr) (el : Addr) (ey : Addr)(x : Addr) (ar : Addr) (ka : ClassId) (cs : List Int32) (h0 : Heap) (n0 : Nat) (Z0 : n0 ≤ h0.size) (SS : own_St Z de em el ey) (hno : no ≤ n0) (O0 : Old Z no h0) (E0 : Exa Z h0 x "java/lang/String") (F0 : Fld Z h0 x "java/lang/String" "value" "[B" .null) (G0 : Fld Z h0 x "java/lang/String" "coder" "B" (.int 0)) (g_x : n0 ≤ x)(Va : Arv Z h0 ar ka .char (Int32.ofNat cs.length) (cs.map Value.int) (.int 0)) (hok : ∀ z ∈ cs, own_c z) (hl : cs.length ≤ 100) (hz : 0 < cs.length) : own_Met l y2 jdk_42_method_149_code 6 none R_si4 Z h0 #[(.ref x), (.ref ar), (.int 0), (.int (Int32.ofNat cs.length)), .null] (Q_si4 Z x cs h0 n0) := by
  refine own_body (plainFor_of_name pn_sts) fun p e s m below meth c s₁ hlk hret hnm hx hby hml hown hZ X0 e0 => ?_
  have N0 := Fr.nil n0
  obtain ⟨Ga, Sa, nx, og⟩ := own_ga (p := p) (e := e) (below := below) s₁ (eF_28 m x ar (0 : Int32) (Int32.ofNat cs.length))
  have S0 : Ga s₁ (mkF m 0 #[vR x, vR ar, vI 0, vI (Int32.ofNat cs.length), .val .null, vU] []) := nx Sa fun t k => castTop (ef_28 m x ar (0 : Int32) (Int32.ofNat cs.length)) k
  obtain ⟨⟨cz, S_cs, hcz⟩, -⟩ := id SS
  have S1444 : Ga s₁ (mkF m 1 #[vR x, vR ar, vI 0, vI (Int32.ofNat cs.length), .val .null, vU] [(.ref x)]) := nx S0 fun t kt => by
    refine xa X0.here hx hby 0 0 rfl ?_
    exact kt
  obtain ⟨T1445, X1445, e1445, st1445⟩ := initO X0 hx hZ hown (own_h hw 12 rfl) (own_h hw 13 rfl) (own_h hw 14 rfl) e0 (g := (mkF m 1 #[vR x, vR ar, vI 0, vI (Int32.ofNat cs.length), .val .null, vU] [(.ref x)])) rfl (by rw [hml]; rfl) rfl (own_k hby 1 (.invokespecial 1) 3) (by decide) (W := 0) (by show 2 * 0 + _ ≤ _; exact Nat.le_of_eq rfl) (by decide)
  have S1446 : Ga T1445 (mkF m 5 #[vR x, vR ar, vI 0, vI (Int32.ofNat cs.length), .val .null, vU] [(.int (Int32.ofNat cs.length))]) := nx S1444 fun t kt => st1445 t (by
    show Sp p e below T1445 (mkF m 4 #[vR x, vR ar, vI 0, vI (Int32.ofNat cs.length), .val .null, vU] []) _
    refine xi X1445.here hx hby 4 3 rfl ?_
    exact kt)
  have S1447 : Ga T1445 (mkF m 27 #[vR x, vR ar, vI 0, vI (Int32.ofNat cs.length), .val .null, vU] []) := nx S1446 fun t kt => by
    refine XS.ifYes X1445.here hx rfl (pc0 := 5) (pc' := 27) rfl (own_k hby 5 (.ifCond .ne 22) 3) rfl ((if0 _ _).trans (feq (show ¬ ((Int32.ofNat cs.length) = (0 : Int32)) from (fun q => absurd ((own_eqn (j := 0) (by omega) (by omega)).mp q) (by omega)))).2) (by decide) (by decide) ?_
    exact kt
  obtain ⟨T1448, X1448, e1448, st1448⟩ := getS2 X1445 hx hZ hown (host := "") (Or.inl (own_h hw 15 rfl)) Via.refl e1445 (S_cs.ext O0.2) (g := (mkF m 27 #[vR x, vR ar, vI 0, vI (Int32.ofNat cs.length), .val .null, vU] [])) rfl (own_k hby 27 (.getstatic 38) 3)
  have S1449 : Ga T1448 (mkF m 36 #[vR x, vR ar, vI 0, vI (Int32.ofNat cs.length), .val .null, vU] [(.int (Int32.ofNat cs.length)), (.int 0), (.ref ar)]) := nx S1447 fun t kt => st1448 t (by
    show Sp p e below T1448 (mkF m 30 #[vR x, vR ar, vI 0, vI (Int32.ofNat cs.length), .val .null, vU] [(.int cz)]) _
    refine XS.ifNo X1448.here hx rfl (own_k hby 30 (.ifCond .eq 28) 3) rfl ((if0 _ _).trans (feq (show ¬ (cz = (0 : Int32)) from hcz)).1) ?_
    refine xa X1448.here hx hby 33 1 rfl ?_
    refine xi X1448.here hx hby 34 2 rfl ?_
    refine xi X1448.here hx hby 35 3 rfl ?_
    show Sp p e below T1448 (mkF m 36 #[vR x, vR ar, vI 0, vI (Int32.ofNat cs.length), .val .null, vU] [(.int (Int32.ofNat cs.length)), (.int 0), (.ref ar)]) _
    exact kt)
  obtain ⟨v1450, T1450, L1450, X1450, hQ1450, st1450⟩ := own_cS X1448 hx hZ hw hown hml 16 17 19 18 rfl rfl rfl rfl (rm_cm3 hw ar ka cs h0 n0 Z0 Va hok hl) e1448 (W := 0) (g := (mkF m 36 #[vR x, vR ar, vI 0, vI (Int32.ofNat cs.length), .val .null, vU] [(.int (Int32.ofNat cs.length)), (.int 0), (.ref ar)])) rfl (argsL := [(.ref ar), (.int 0), (.int (Int32.ofNat cs.length))]) (rest := []) pd___CII__B (own_k hby 36 (.invokestatic 177) 3)
  obtain ⟨b1, kb1450, rfl, N1450q, K1450, szb1450, V1450⟩ := hQ1450
  have N1450 := Fr.app N0 N1450q
  have KK1450 : Keep h0 T1450.heap [x] := (Keep.refl h0 [x]).trans K1450 all0
  have sz_b1 : h0.size ≤ b1 := Nat.le_trans (Keep.refl h0 [x]).1 szb1450
  have S1451 : Ga T1450 (mkF m 45 #[vR x, vR ar, vI 0, vI (Int32.ofNat cs.length), .val .null, vR b1] [(.int (Int32.ofNat cs.length)), (.ref b1), (.ref x)]) := nx S1449 fun t kt => st1450 t (by
    show Sp p e below T1450 (mkF m 39 #[vR x, vR ar, vI 0, vI (Int32.ofNat cs.length), .val .null, vU] [(.ref b1)]) _
    refine XS.astore X1450.here hx rfl (own_k hby 39 (.astore 5) 2) rfl rfl (l' := #[vR x, vR ar, vI 0, vI (Int32.ofNat cs.length), .val .null, vR b1]) rfl ?_
    refine xa X1450.here hx hby 41 0 rfl ?_
    refine XS.aload X1450.here hx rfl (own_k hby 42 (.aload 5) 2) rfl rfl ?_
    refine xi X1450.here hx hby 44 3 rfl ?_
    show Sp p e below T1450 (mkF m 45 #[vR x, vR ar, vI 0, vI (Int32.ofNat cs.length), .val .null, vR b1] [(.int (Int32.ofNat cs.length)), (.ref b1), (.ref x)]) _
    exact kt)
  have z1452 := (Nat.le_trans Z0 K1450.1)
  obtain ⟨v1453, T1453, L1453, X1453, hQ1453, st1453⟩ := own_cS X1450 hx hZ hw hown hml 24 25 26 18 rfl rfl rfl rfl (rm_cfl hw b1 kb1450 cs T1450.heap n0 z1452 V1450) rfl (W := 1) (g := (mkF m 45 #[vR x, vR ar, vI 0, vI (Int32.ofNat cs.length), .val .null, vR b1] [(.int (Int32.ofNat cs.length)), (.ref b1), (.ref x)])) rfl (argsL := [(.ref b1), (.int (Int32.ofNat cs.length))]) (rest := [(.ref x)]) pd___BI_B (own_k hby 45 (.invokestatic 47) 3)
  obtain ⟨rfl, N1453q, e1453⟩ := hQ1453
  have N1453 := Fr.app N1450 N1453q
  have f1454 := (G0.keep K1450 nin0)
  have f1455 := (E0.keep K1450)
  obtain ⟨T1456, h1456, X1456, e1456, W1456, st1456⟩ := putFN X1453 hx hZ hown (own_h hw 27 rfl) Via.refl e1453 f1454 f1455 (Or.inr ⟨(own_h hw 28 rfl), rfl, hnm⟩) (own_h hw 2 rfl) (ty := .byte) (v' := .int ((0 : Int32).toInt8.toInt32)) (by decide) rfl (fits_nar_byte _) (g := (mkF m 48 #[vR x, vR ar, vI 0, vI (Int32.ofNat cs.length), .val .null, vR b1] [(.int 0), (.ref x)])) rfl rfl (own_k hby 48 (.putfield 15) 3)
  rw [show ((0 : Int32).toInt8.toInt32) = (0 : Int32) from by decide] at W1456
  have N1456 := Fr.snoc X1456 N1453 g_x
  have K1456 : Keep h0 h1456 [x] := KK1450.wr W1456 (Or.inl (by simp))
  have Fw1456 := f1454.same W1456
  have S1457 : Ga T1456 (mkF m 54 #[vR x, vR ar, vI 0, vI (Int32.ofNat cs.length), .val .null, vR b1] [(.ref b1), (.ref x)]) := nx S1451 fun t kt => st1453 t (st1456 t (by
    show Sp p e below T1456 (mkF m 51 #[vR x, vR ar, vI 0, vI (Int32.ofNat cs.length), .val .null, vR b1] []) _
    refine xa X1456.here hx hby 51 0 rfl ?_
    refine XS.aload X1456.here hx rfl (own_k hby 52 (.aload 5) 2) rfl rfl ?_
    exact kt))
  have f1458 := ((F0.keep K1450 nin0).other W1456 (Or.inr (ns1 hw)))
  have f1459 := (f1455.wr W1456)
  obtain ⟨T1460, h1460, X1460, e1460, W1460, st1460⟩ := putF X1456 hx hZ hown (host := "") (Or.inl (own_h hw 29 rfl)) Via.refl e1456 f1458 f1459 (Or.inr ⟨(own_h hw 30 rfl), rfl, hnm⟩) (own_h hw 2 rfl) (ty := (.array .byte)) (by decide) rfl rfl (g := (mkF m 54 #[vR x, vR ar, vI 0, vI (Int32.ofNat cs.length), .val .null, vR b1] [(.ref b1), (.ref x)])) rfl rfl (own_k hby 54 (.putfield 9) 3)
  have N1460 := Fr.snoc X1460 N1456 g_x
  have K1460 : Keep h0 h1460 [x] := K1456.wr W1460 (Or.inl (by simp))
  have Fw1460 := f1458.same W1460
  have f1461 := (f1459.wr W1460)
  have f1462 := (Fw1456.other W1460 (Or.inr (ns0 hw)))
  have ne1463 : x ≠ b1 := Nat.ne_of_lt (Nat.lt_of_lt_of_le (E0.lt) szb1450)
  have f1464 := ((V1450.other W1456 (Ne.symm ne1463)).other W1460 (Ne.symm ne1463))
  have S1465 : Ga T1460 (mkF m 57 #[vR x, vR ar, vI 0, vI (Int32.ofNat cs.length), .val .null, vR b1] []) := nx S1457 fun t kt => st1460 t kt
  refine ⟨T1460, _, none, _, _, _, X1460, og S1465, fun _ => rfl, by decide, by decide, ?_, fun fs hr => X1460.returnOut hx hret (own_k hby 57 (.return_) 1) hr⟩
  show Q_si4 Z x cs h0 n0 _ T1460.heap _
  rw [e1460]
  exact ⟨b1, kb1450, rfl, N1460, K1460, sz_b1, f1461, f1462, Fw1460, f1464⟩
abbrev R_si1 : Room := { frames := 3, cells := 1, slots := 100, locals := 52 }
def Q_si1 (Z : State) (x : Addr) (cs : List Int32) (h0 : Heap) (n0 : Nat) (v : Option Value) (h : Heap) (L : List Loc) : Prop := ∃ (b : Addr) (k' : ClassId), v = none ∧ Fr n0 L ∧ Keep h0 h [x] ∧ h0.size ≤ b ∧ own_Str Z h x b k' (Int32.ofNat cs.length) (own_vs cs)
theorem rm_si1 {l : Launch} {Z : State} {a0 : Array Value} (hw : own_W a0 Z) (no : Nat) (de : Addr) (em : Addr) (el : Addr) (ey : Addr)(x : Addr) (ar : Addr) (ka : ClassId) (cs : List Int32) (h0 : Heap) (n0 : Nat) (Z0 : n0 ≤ h0.size) (SS : own_St Z de em el ey) (hno : no ≤ n0) (O0 : Old Z no h0) (E0 : Exa Z h0 x "java/lang/String") (F0 : Fld Z h0 x "java/lang/String" "value" "[B" .null) (G0 : Fld Z h0 x "java/lang/String" "coder" "B" (.int 0)) (g_x : n0 ≤ x)(Va : Arv Z h0 ar ka .char (Int32.ofNat cs.length) (cs.map Value.int) (.int 0)) (hok : ∀ z ∈ cs, own_c z) (hl : cs.length ≤ 100) (hz : 0 < cs.length) : own_Met l y1 jdk_42_method_3_code 2 none R_si1 Z h0 #[(.ref x), (.ref ar)] (Q_si1 Z x cs h0 n0) := by
  refine own_body (plainFor_of_name pn_sts) fun p e s m below meth c s₁ hlk hret hnm hx hby hml hown hZ X0 e0 => ?_
  have N0 := Fr.nil n0
  obtain ⟨Ga, Sa, nx, og⟩ := own_ga (p := p) (e := e) (below := below) s₁ (eF_6 m x ar)
  have S0 : Ga s₁ (mkF m 0 #[vR x, vR ar] []) := nx Sa fun t k => castTop (ef_6 m x ar) k
  obtain ⟨⟨cz, S_cs, hcz⟩, -⟩ := id SS
  have S1466 : Ga s₁ (mkF m 4 #[vR x, vR ar] [(.ref ar), (.int 0), (.ref ar), (.ref x)]) := nx S0 fun t kt => by
    refine xa X0.here hx hby 0 0 rfl ?_
    refine xa X0.here hx hby 1 1 rfl ?_
    refine xc X0.here hx hby 2 0 ?_
    refine xa X0.here hx hby 3 1 rfl ?_
    show Sp p e below s₁ (mkF m 4 #[vR x, vR ar] [(.ref ar), (.int 0), (.ref ar), (.ref x)]) _
    exact kt
  obtain ⟨co1467, Ao1467, qo1467, So1467, No1467, Ho1467, Go1467⟩ := id Va
  have S1468 : Ga s₁ (mkF m 6 #[vR x, vR ar] [.null, (.int (Int32.ofNat cs.length)), (.int 0), (.ref ar), (.ref x)]) := nx S1466 fun t kt => by
    refine X0.arraylength hx (by rw [e0]; exact Ao1467.1) (State.isArrayOf_alike hZ.alike Ao1467.2.1) (g := (mkF m 4 #[vR x, vR ar] [(.ref ar), (.int 0), (.ref ar), (.ref x)])) rfl rfl (own_k hby 4 (.arraylength) 1) _ ?_
    rw [len_of So1467 No1467]
    show Sp p e below s₁ (mkF m 5 #[vR x, vR ar] [(.int (Int32.ofNat cs.length)), (.int 0), (.ref ar), (.ref x)]) _
    refine XS.aconstNull X0.here hx rfl (own_k hby 5 (.aconst_null) 1) ?_
    exact kt
  obtain ⟨v1469, T1469, L1469, X1469, hQ1469, st1469⟩ := own_cI X0 hx hZ hw hown hml 8 9 11 3 rfl rfl rfl rfl rfl (a := x) (rm_si4 hw no de em el ey x ar ka cs h0 n0 Z0 SS hno O0 E0 F0 G0 g_x Va hok hl hz) e0 (W := 0) (g := (mkF m 6 #[vR x, vR ar] [.null, (.int (Int32.ofNat cs.length)), (.int 0), (.ref ar), (.ref x)])) rfl (argsL := [(.ref ar), (.int 0), (.int (Int32.ofNat cs.length)), .null]) (rest := []) pd___CIILjava_lang_Void__V (own_k hby 6 (.invokespecial 27) 3)
  obtain ⟨b1, kb1469, rfl, N1469q, K1469, sz_b1, E1469, F1469, G1469, V1469⟩ := hQ1469
  have N1469 := Fr.app N0 N1469q
  have KK1469 : Keep h0 T1469.heap [x] := (Keep.refl h0 [x]).trans K1469 (allS (Or.inl (by simp)) all0)
  have S1470 : Ga T1469 (mkF m 9 #[vR x, vR ar] []) := nx S1468 fun t kt => st1469 t kt
  refine ⟨T1469, _, none, _, _, _, X1469, og S1470, fun _ => rfl, by decide, by decide, ?_, fun fs hr => X1469.returnOut hx hret (own_k hby 9 (.return_) 1) hr⟩
  show Q_si1 Z x cs h0 n0 _ T1469.heap _
  exact ⟨b1, kb1469, rfl, N1469, KK1469, sz_b1, E1469, F1469, G1469, V1469⟩
theorem lp_leq {p : Program} {l : Launch} {e : Env} {R : Room} {s : State} {m : MethodId} {args : Array Value} {below : List Frame} {meth : Method} {c : Code} {T : State} {locs : List Loc} {cells slots : Nat} (Z : State) (b : Addr) (k : ClassId) (b' : Addr) (k' : ClassId) (cs : List Int32) (h0 : Heap) (V : Arv Z h0 b k .byte (Int32.ofNat cs.length) (own_vs cs) (.int 0)) (V' : Arv Z h0 b' k' .byte (Int32.ofNat cs.length) (own_vs cs) (.int 0)) (hl : cs.length ≤ 100) (hx : p.tables.exec = Jvm.exec) (hZ : Z.Warmed39 s.vm) (hby : c.code = jdk_43_method_13_code) (X0 : Stand p l e R s m args below meth c T locs cells slots) (e0 : T.heap = h0) :
    ∀ r j : Nat, j + r = cs.length → Go p e below T (mkF m 9 #[vR b, vR b', vI (Int32.ofNat j)] []) T (mkF m 33 #[vR b, vR b', vI (Int32.ofNat cs.length)] [(.int 1)]) := by
  intro r
  induction r with
  | zero =>
    intro j hj0
    obtain rfl : j = cs.length := by omega
    obtain ⟨Ga, S0, nx, og⟩ := own_ga (p := p) (e := e) (below := below) T (mkF m 9 #[vR b, vR b', vI (Int32.ofNat cs.length)] [])
    have S1471 : Ga T (mkF m 11 #[vR b, vR b', vI (Int32.ofNat cs.length)] [(.ref b), (.int (Int32.ofNat cs.length))]) := nx S0 fun t kt => by
      refine xi X0.here hx hby 9 2 rfl ?_
      refine xa X0.here hx hby 10 0 rfl ?_
      exact kt
    obtain ⟨co1472, Ao1472, qo1472, So1472, No1472, Ho1472, Go1472⟩ := id V
    have S1473 : Ga T (mkF m 12 #[vR b, vR b', vI (Int32.ofNat cs.length)] [(.int (Int32.ofNat cs.length)), (.int (Int32.ofNat cs.length))]) := nx S1471 fun t kt => by
      refine X0.arraylength hx (by rw [e0]; exact Ao1472.1) (State.isArrayOf_alike hZ.alike Ao1472.2.1) (g := (mkF m 11 #[vR b, vR b', vI (Int32.ofNat cs.length)] [(.ref b), (.int (Int32.ofNat cs.length))])) rfl rfl (own_k hby 11 (.arraylength) 1) _ ?_
      rw [len_of So1472 No1472]
      show Sp p e below T (mkF m 12 #[vR b, vR b', vI (Int32.ofNat cs.length)] [(.int (Int32.ofNat cs.length)), (.int (Int32.ofNat cs.length))]) _
      exact kt
    have S1474 : Ga T (mkF m 33 #[vR b, vR b', vI (Int32.ofNat cs.length)] [(.int 1)]) := nx S1473 fun t kt => by
      refine XS.icmpYes X0.here hx rfl (pc0 := 12) (pc' := 32) rfl (own_k hby 12 (.if_icmp .ge 20) 3) rfl (flt (show ¬ ((Int32.ofNat cs.length) < (Int32.ofNat cs.length)) from (fun q => absurd ((own_ltn (by omega) (by omega)).mp q) (by omega)))).2.1 (by decide) (by decide) ?_
      refine xc X0.here hx hby 32 1 ?_
      exact kt
    exact og S1474
  | succ r ih =>
    intro j hj0
    have hj : j < cs.length := by omega
    obtain ⟨Ga, S0, nx, og⟩ := own_ga (p := p) (e := e) (below := below) T (mkF m 9 #[vR b, vR b', vI (Int32.ofNat j)] [])
    have S1475 : Ga T (mkF m 11 #[vR b, vR b', vI (Int32.ofNat j)] [(.ref b), (.int (Int32.ofNat j))]) := nx S0 fun t kt => by
      refine xi X0.here hx hby 9 2 rfl ?_
      refine xa X0.here hx hby 10 0 rfl ?_
      exact kt
    obtain ⟨co1476, Ao1476, qo1476, So1476, No1476, Ho1476, Go1476⟩ := id V
    have S1477 : Ga T (mkF m 12 #[vR b, vR b', vI (Int32.ofNat j)] [(.int (Int32.ofNat cs.length)), (.int (Int32.ofNat j))]) := nx S1475 fun t kt => by
      refine X0.arraylength hx (by rw [e0]; exact Ao1476.1) (State.isArrayOf_alike hZ.alike Ao1476.2.1) (g := (mkF m 11 #[vR b, vR b', vI (Int32.ofNat j)] [(.ref b), (.int (Int32.ofNat j))])) rfl rfl (own_k hby 11 (.arraylength) 1) _ ?_
      rw [len_of So1476 No1476]
      show Sp p e below T (mkF m 12 #[vR b, vR b', vI (Int32.ofNat j)] [(.int (Int32.ofNat cs.length)), (.int (Int32.ofNat j))]) _
      exact kt
    have S1478 : Ga T (mkF m 17 #[vR b, vR b', vI (Int32.ofNat j)] [(.int (Int32.ofNat j)), (.ref b)]) := nx S1477 fun t kt => by
      refine XS.icmpNo X0.here hx rfl (own_k hby 12 (.if_icmp .ge 20) 3) rfl (tlt (show (Int32.ofNat j) < (Int32.ofNat cs.length) from ((own_ltn (by omega) (by omega)).mpr hj))).2.1 ?_
      refine xa X0.here hx hby 15 0 rfl ?_
      refine xi X0.here hx hby 16 2 rfl ?_
      exact kt
    obtain ⟨co1479, Ao1479, qo1479, So1479, No1479, Ho1479, Go1479⟩ := id V
    have hino1479 : ¬ ((Int32.ofNat j) < 0 ∨ co1479.slots.size ≤ ((Int32.ofNat j)).toNatClampNeg) := inb_of So1479 ⟨own_nn (by omega), (own_ltn (by omega) (by omega)).mpr hj⟩
    have hato1479 : co1479.slots[((Int32.ofNat j)).toNatClampNeg]? = some (.int (StrChars.lo8 (cs.getD j 0))) := Has.at Ho1479 hino1479 (own_vsAt (by omega) hj)
    have S1480 : Ga T (mkF m 20 #[vR b, vR b', vI (Int32.ofNat j)] [(.int (Int32.ofNat j)), (.ref b'), (.int (StrChars.lo8 (cs.getD j 0)))]) := nx S1478 fun t kt => by
      refine X0.baloadBytes hx (j := (Int32.ofNat j)) (v := (.int (StrChars.lo8 (cs.getD j 0)))) (by rw [e0]; exact Ao1479.1) (State.isArrayOf_alike hZ.alike Ao1479.2.1) Ao1479.2.2 hino1479 hato1479 (g := (mkF m 17 #[vR b, vR b', vI (Int32.ofNat j)] [(.int (Int32.ofNat j)), (.ref b)])) rfl rfl (own_k hby 17 (.baload) 1) _ ?_
      show Sp p e below T (mkF m 18 #[vR b, vR b', vI (Int32.ofNat j)] [(.int (StrChars.lo8 (cs.getD j 0)))]) _
      refine xa X0.here hx hby 18 1 rfl ?_
      refine xi X0.here hx hby 19 2 rfl ?_
      exact kt
    obtain ⟨co1481, Ao1481, qo1481, So1481, No1481, Ho1481, Go1481⟩ := id V'
    have hino1481 : ¬ ((Int32.ofNat j) < 0 ∨ co1481.slots.size ≤ ((Int32.ofNat j)).toNatClampNeg) := inb_of So1481 ⟨own_nn (by omega), (own_ltn (by omega) (by omega)).mpr hj⟩
    have hato1481 : co1481.slots[((Int32.ofNat j)).toNatClampNeg]? = some (.int (StrChars.lo8 (cs.getD j 0))) := Has.at Ho1481 hino1481 (own_vsAt (by omega) hj)
    have S1482 : Ga T (mkF m 9 #[vR b, vR b', vI ((Int32.ofNat j) + (1 : Int32))] []) := nx S1480 fun t kt => by
      refine X0.baloadBytes hx (j := (Int32.ofNat j)) (v := (.int (StrChars.lo8 (cs.getD j 0)))) (by rw [e0]; exact Ao1481.1) (State.isArrayOf_alike hZ.alike Ao1481.2.1) Ao1481.2.2 hino1481 hato1481 (g := (mkF m 20 #[vR b, vR b', vI (Int32.ofNat j)] [(.int (Int32.ofNat j)), (.ref b'), (.int (StrChars.lo8 (cs.getD j 0)))])) rfl rfl (own_k hby 20 (.baload) 1) _ ?_
      show Sp p e below T (mkF m 21 #[vR b, vR b', vI (Int32.ofNat j)] [(.int (StrChars.lo8 (cs.getD j 0))), (.int (StrChars.lo8 (cs.getD j 0)))]) _
      refine XS.icmpYes X0.here hx rfl (pc0 := 21) (pc' := 26) rfl (own_k hby 21 (.if_icmp .eq 5) 3) rfl (teq (show (StrChars.lo8 (cs.getD j 0)) = (StrChars.lo8 (cs.getD j 0)) from rfl)).1 (by decide) (by decide) ?_
      refine XS.iinc X0.here hx rfl (own_k hby 26 (.iinc 2 1) 3) rfl (l' := #[vR b, vR b', vI ((Int32.ofNat j) + (1 : Int32))]) rfl ?_
      refine XS.goto X0.here hx rfl (pc0 := 29) (pc' := 9) rfl (own_k hby 29 (.goto (-20)) 3) (by decide) (by decide) ?_
      show Sp p e below T (mkF m 9 #[vR b, vR b', vI ((Int32.ofNat j) + (1 : Int32))] []) _
      exact kt
    have q1484 : ((Int32.ofNat j) + (1 : Int32)) = (Int32.ofNat (j + 1)) := own_inc j
    have S1483 : Ga T (mkF m 9 #[vR b, vR b', vI (Int32.ofNat (j + 1))] []) := by have h := S1482; rw [q1484] at h; exact h
    clear S1482
    exact og (nx S1483 (ih (j + 1) (by omega)))
abbrev R_leq : Room := { frames := 0, cells := 0, slots := 0, locals := 0 }
def Q_leq (Z : State)  (h0 : Heap) (n0 : Nat) (v : Option Value) (h : Heap) (L : List Loc) : Prop := v = some (.int 1) ∧ Fr n0 L ∧ h = h0
theorem rm_leq {l : Launch} {Z : State} {a0 : Array Value} (hw : own_W a0 Z) (b : Addr) (k : ClassId) (b' : Addr) (k' : ClassId) (cs : List Int32) (h0 : Heap) (n0 : Nat) (Z0 : n0 ≤ h0.size) (V : Arv Z h0 b k .byte (Int32.ofNat cs.length) (own_vs cs) (.int 0)) (V' : Arv Z h0 b' k' .byte (Int32.ofNat cs.length) (own_vs cs) (.int 0)) (hl : cs.length ≤ 100) : own_Met l y72 jdk_43_method_13_code 3 (some .boolean) R_leq Z h0 #[(.ref b), (.ref b')] (Q_leq Z  h0 n0) := by
  refine own_body (plainFor_of_name pn_cen) fun p e s m below meth c s₁ hlk hret hnm hx hby hml hown hZ X0 e0 => ?_
  have N0 := Fr.nil n0
  obtain ⟨Ga, Sa, nx, og⟩ := own_ga (p := p) (e := e) (below := below) s₁ (eF_9 m b b')
  have S0 : Ga s₁ (mkF m 0 #[vR b, vR b', vU] []) := nx Sa fun t k => castTop (ef_9 m b b') k
  have S1485 : Ga s₁ (mkF m 1 #[vR b, vR b', vU] [(.ref b)]) := nx S0 fun t kt => by
    refine xa X0.here hx hby 0 0 rfl ?_
    exact kt
  obtain ⟨co1486, Ao1486, qo1486, So1486, No1486, Ho1486, Go1486⟩ := id V
  have S1487 : Ga s₁ (mkF m 3 #[vR b, vR b', vU] [(.ref b'), (.int (Int32.ofNat cs.length))]) := nx S1485 fun t kt => by
    refine X0.arraylength hx (by rw [e0]; exact Ao1486.1) (State.isArrayOf_alike hZ.alike Ao1486.2.1) (g := (mkF m 1 #[vR b, vR b', vU] [(.ref b)])) rfl rfl (own_k hby 1 (.arraylength) 1) _ ?_
    rw [len_of So1486 No1486]
    show Sp p e below s₁ (mkF m 2 #[vR b, vR b', vU] [(.int (Int32.ofNat cs.length))]) _
    refine xa X0.here hx hby 2 1 rfl ?_
    exact kt
  obtain ⟨co1488, Ao1488, qo1488, So1488, No1488, Ho1488, Go1488⟩ := id V'
  have S1489 : Ga s₁ (mkF m 9 #[vR b, vR b', vI 0] []) := nx S1487 fun t kt => by
    refine X0.arraylength hx (by rw [e0]; exact Ao1488.1) (State.isArrayOf_alike hZ.alike Ao1488.2.1) (g := (mkF m 3 #[vR b, vR b', vU] [(.ref b'), (.int (Int32.ofNat cs.length))])) rfl rfl (own_k hby 3 (.arraylength) 1) _ ?_
    rw [len_of So1488 No1488]
    show Sp p e below s₁ (mkF m 4 #[vR b, vR b', vU] [(.int (Int32.ofNat cs.length)), (.int (Int32.ofNat cs.length))]) _
    refine XS.icmpNo X0.here hx rfl (own_k hby 4 (.if_icmp .ne 30) 3) rfl (teq (show (Int32.ofNat cs.length) = (Int32.ofNat cs.length) from rfl)).2 ?_
    refine xc X0.here hx hby 7 0 ?_
    refine XS.istoreN X0.here hx rfl (own_k hby 8 (.istore_n 2) 1) rfl (l' := #[vR b, vR b', vI 0]) rfl ?_
    show Sp p e below s₁ (mkF m 9 #[vR b, vR b', vI 0] []) _
    exact kt
  have q1491 : (0 : Int32) = (Int32.ofNat 0) := rfl
  have S1490 : Ga s₁ (mkF m 9 #[vR b, vR b', vI (Int32.ofNat 0)] []) := by have h := S1489; rw [q1491] at h; exact h
  clear S1489
  have SL : Ga s₁ (mkF m 33 #[vR b, vR b', vI (Int32.ofNat cs.length)] [(.int 1)]) := nx S1490 (lp_leq Z b k b' k' cs h0 V V' hl hx hZ hby X0 e0 cs.length 0 (by omega))
  refine ⟨s₁, _, some (.int 1), _, _, _, X0, og SL, fun h => (nomatch hret.symm.trans h), by decide, by decide, ?_, fun fs hr => retN X0 hx (t := .boolean) hret (by simp) (own_k hby 33 (.ireturn) 1) hr⟩
  show Q_leq Z  h0 n0 _ s₁.heap _
  rw [e0]
  exact ⟨rfl, N0, rfl⟩
abbrev R_seq : Room := { frames := 1, cells := 0, slots := 0, locals := 14 }
def Q_seq (Z : State)  (h0 : Heap) (n0 : Nat) (v : Option Value) (h : Heap) (L : List Loc) : Prop := v = some (.int 1) ∧ Fr n0 L ∧ h = h0
theorem rm_seq {l : Launch} {Z : State} {a0 : Array Value} (hw : own_W a0 Z) (no : Nat) (de : Addr) (em : Addr) (el : Addr) (ey : Addr)(a : Addr) (b : Addr) (k : ClassId) (a' : Addr) (b' : Addr) (k' : ClassId) (cs : List Int32) (h0 : Heap) (n0 : Nat) (Z0 : n0 ≤ h0.size) (SS : own_St Z de em el ey) (hno : no ≤ n0) (O0 : Old Z no h0) (HS : own_Str Z h0 a b k (Int32.ofNat cs.length) (own_vs cs)) (HS' : own_Str Z h0 a' b' k' (Int32.ofNat cs.length) (own_vs cs)) (hne : a ≠ a') (hl : cs.length ≤ 100) : own_Met l y71 jdk_42_method_66_code 3 (some .boolean) R_seq Z h0 #[(.ref a), (.ref a')] (Q_seq Z  h0 n0) := by
  refine own_body (plainFor_of_name pn_sts) fun p e s m below meth c s₁ hlk hret hnm hx hby hml hown hZ X0 e0 => ?_
  have N0 := Fr.nil n0
  obtain ⟨Ga, Sa, nx, og⟩ := own_ga (p := p) (e := e) (below := below) s₁ (eF_9 m a a')
  have S0 : Ga s₁ (mkF m 0 #[vR a, vR a', vU] []) := nx Sa fun t k => castTop (ef_9 m a a') k
  obtain ⟨⟨cz, S_cs, hcz⟩, -⟩ := id SS
  obtain ⟨E, F, G, V⟩ := HS
  obtain ⟨E', F', G', V'⟩ := HS'
  have S1492 : Ga s₁ (mkF m 8 #[vR a, vR a', vU] [(.ref a')]) := nx S0 fun t kt => by
    refine xa X0.here hx hby 0 0 rfl ?_
    refine xa X0.here hx hby 1 1 rfl ?_
    refine Jvm.RoadKit.acmp (g := (mkF m 2 #[vR a, vR a', vU] [(.ref a'), (.ref a)])) X0 hx rfl rfl rfl (pc0 := 2) (pc' := 7) (same := false) rfl (own_k hby 2 (.if_acmp .ne 5) 3) rfl (decide_eq_false fun q => hne (Value.ref.inj q)) (by decide) (by decide) ?_
    refine xa X0.here hx hby 7 1 rfl ?_
    show Sp p e below s₁ (mkF m 8 #[vR a, vR a', vU] [(.ref a')]) _
    exact kt
  obtain ⟨T1493, X1493, e1493, st1493⟩ := instY X0 hx hZ hown (own_h hw 62 rfl) e0 (Ins.self E') (g := (mkF m 8 #[vR a, vR a', vU] [(.ref a')])) rfl rfl (own_k hby 8 (.instanceof 10) 3)
  have S1494 : Ga T1493 (mkF m 15 #[vR a, vR a', vU] [(.ref a')]) := nx S1492 fun t kt => st1493 t (by
    show Sp p e below T1493 (mkF m 11 #[vR a, vR a', vU] [(.int 1)]) _
    refine XS.ifNo X1493.here hx rfl (own_k hby 11 (.ifCond .eq 43) 3) rfl ((if0 _ _).trans (feq (show ¬ ((1 : Int32) = (0 : Int32)) from (by decide))).1) ?_
    refine xa X1493.here hx hby 14 1 rfl ?_
    exact kt)
  obtain ⟨T1495, X1495, e1495, st1495⟩ := castY X1493 hx hZ hown (own_h hw 62 rfl) e1493 (Ins.self E') (g := (mkF m 15 #[vR a, vR a', vU] [(.ref a')])) rfl rfl (own_k hby 15 (.checkcast 10) 3)
  have S1496 : Ga T1495 (mkF m 19 #[vR a, vR a', vR a'] []) := nx S1494 fun t kt => st1495 t (by
    show Sp p e below T1495 (mkF m 18 #[vR a, vR a', vU] [(.ref a')]) _
    refine XS.astoreN X1495.here hx rfl (own_k hby 18 (.astore_n 2) 1) rfl rfl (l' := #[vR a, vR a', vR a']) rfl ?_
    exact kt)
  obtain ⟨T1497, X1497, e1497, st1497⟩ := getS2 X1495 hx hZ hown (host := "") (Or.inl (own_h hw 15 rfl)) Via.refl e1495 (S_cs.ext O0.2) (g := (mkF m 19 #[vR a, vR a', vR a'] [])) rfl (own_k hby 19 (.getstatic 38) 3)
  have S1498 : Ga T1497 (mkF m 26 #[vR a, vR a', vR a'] [(.ref a)]) := nx S1496 fun t kt => st1497 t (by
    show Sp p e below T1497 (mkF m 22 #[vR a, vR a', vR a'] [(.int cz)]) _
    refine XS.ifNo X1497.here hx rfl (own_k hby 22 (.ifCond .eq 14) 3) rfl ((if0 _ _).trans (feq (show ¬ (cz = (0 : Int32)) from hcz)).1) ?_
    refine xa X1497.here hx hby 25 0 rfl ?_
    exact kt)
  obtain ⟨T1499, X1499, e1499, st1499⟩ := getF X1497 hx hZ hown (host := "") (Or.inl (own_h hw 27 rfl)) Via.refl e1497 F (g := (mkF m 26 #[vR a, vR a', vR a'] [(.ref a)])) rfl rfl (own_k hby 26 (.getfield 15) 3)
  have S1500 : Ga T1499 (mkF m 30 #[vR a, vR a', vR a'] [(.ref a'), (.int 0)]) := nx S1498 fun t kt => st1499 t (by
    show Sp p e below T1499 (mkF m 29 #[vR a, vR a', vR a'] [(.int 0)]) _
    refine xa X1499.here hx hby 29 2 rfl ?_
    exact kt)
  obtain ⟨T1501, X1501, e1501, st1501⟩ := getF X1499 hx hZ hown (host := "") (Or.inl (own_h hw 27 rfl)) Via.refl e1499 F' (g := (mkF m 30 #[vR a, vR a', vR a'] [(.ref a'), (.int 0)])) rfl rfl (own_k hby 30 (.getfield 15) 3)
  have S1502 : Ga T1501 (mkF m 37 #[vR a, vR a', vR a'] [(.ref a)]) := nx S1500 fun t kt => st1501 t (by
    show Sp p e below T1501 (mkF m 33 #[vR a, vR a', vR a'] [(.int 0), (.int 0)]) _
    refine XS.icmpNo X1501.here hx rfl (own_k hby 33 (.if_icmp .ne 21) 3) rfl (teq (show (0 : Int32) = (0 : Int32) from (by decide))).2 ?_
    refine xa X1501.here hx hby 36 0 rfl ?_
    exact kt)
  obtain ⟨T1503, X1503, e1503, st1503⟩ := getF X1501 hx hZ hown (host := "") (Or.inl (own_h hw 29 rfl)) Via.refl e1501 G (g := (mkF m 37 #[vR a, vR a', vR a'] [(.ref a)])) rfl rfl (own_k hby 37 (.getfield 9) 3)
  have S1504 : Ga T1503 (mkF m 41 #[vR a, vR a', vR a'] [(.ref a'), (.ref b)]) := nx S1502 fun t kt => st1503 t (by
    show Sp p e below T1503 (mkF m 40 #[vR a, vR a', vR a'] [(.ref b)]) _
    refine xa X1503.here hx hby 40 2 rfl ?_
    exact kt)
  obtain ⟨T1505, X1505, e1505, st1505⟩ := getF X1503 hx hZ hown (host := "") (Or.inl (own_h hw 29 rfl)) Via.refl e1503 G' (g := (mkF m 41 #[vR a, vR a', vR a'] [(.ref a'), (.ref b)])) rfl rfl (own_k hby 41 (.getfield 9) 3)
  obtain ⟨v1506, T1506, L1506, X1506, hQ1506, st1506⟩ := own_cS X1505 hx hZ hw hown hml 443 444 445 60 rfl rfl rfl rfl (rm_leq hw b k b' k' cs h0 n0 Z0 V V' hl) e1505 (W := 0) (g := (mkF m 44 #[vR a, vR a', vR a'] [(.ref b'), (.ref b)])) rfl (argsL := [(.ref b), (.ref b')]) (rest := []) pd___B_B_Z (own_k hby 44 (.invokestatic 541) 3)
  obtain ⟨rfl, N1506q, e1506⟩ := hQ1506
  have N1506 := Fr.app N0 N1506q
  have S1507 : Ga T1506 (mkF m 55 #[vR a, vR a', vR a'] [(.int 1)]) := nx S1504 fun t kt => st1505 t (st1506 t (by
    show Sp p e below T1506 (mkF m 47 #[vR a, vR a', vR a'] [(.int 1)]) _
    refine XS.ifNo X1506.here hx rfl (own_k hby 47 (.ifCond .eq 7) 3) rfl ((if0 _ _).trans (feq (show ¬ ((1 : Int32) = (0 : Int32)) from (by decide))).1) ?_
    refine xc X1506.here hx hby 50 1 ?_
    refine XS.goto X1506.here hx rfl (pc0 := 51) (pc' := 55) rfl (own_k hby 51 (.goto 4) 3) (by decide) (by decide) ?_
    exact kt))
  refine ⟨T1506, _, some (.int 1), _, _, _, X1506, og S1507, fun h => (nomatch hret.symm.trans h), by decide, by decide, ?_, fun fs hr => retN X1506 hx (t := .boolean) hret (by simp) (own_k hby 55 (.ireturn) 1) hr⟩
  show Q_seq Z  h0 n0 _ T1506.heap _
  rw [e1506]
  exact ⟨rfl, N1506, rfl⟩
abbrev eF_29 (m : MethodId) (x0 : Int32) (x1 : Int32) (x2 : Int32) (x3 : Int32) : JFrame := entryFrame m #[(.int x0), (.int x1), (.int x2), (.int x3)] maxLocals
theorem ef_29 (m : MethodId) (x0 : Int32) (x1 : Int32) (x2 : Int32) (x3 : Int32) : entryFrame m #[(.int x0), (.int x1), (.int x2), (.int x3)] maxLocals = mkF m 0 #[.val (.int x0), .val (.int x1), .val (.int x2), .val (.int x3), .unset, .unset, .unset, .unset, .unset, .unset, .unset, .unset, .unset, .unset, .unset, .unset, .unset, .unset, .unset] [] := by first | (simp [entryFrame, mkF, argsToLocals, Value.category, maxLocals]; done) | rfl
def Q_law (Z : State)  (h0 : Heap) (n0 : Nat) (v : Option Value) (h : Heap) (L : List Loc) : Prop := v = some (.int 1) ∧ Fr n0 L
theorem rm_law (l : Launch) (Z : State) (a0 : Array Value) (hw : own_W a0 Z) (ws : List Jvm.Cond) (ia : Int32) (iu : Int32) (ic : Int32) (iz : Int32) (h0 : Heap) (n0 : Nat) (Z0 : n0 ≤ h0.size) (no : Nat) (de : Addr) (em : Addr) (el : Addr) (ey : Addr) (mir : Addr)(SS : own_St Z de em el ey) (hno : no ≤ n0) (O0 : Old Z no h0)(M : own_Mir Z mir) (hc0 : Jvm.Lit.constHeld Z "java/util/AbstractCollection" 92) (hc1 : Jvm.Lit.constHeld Z "com/example/passlane/passlane/oidc/Client" 59) (hc2 : Jvm.Lit.constHeld Z "com/example/passlane/passlane/oidc/Client" 65) (hc3 : Jvm.Lit.constHeld Z "com/example/passlane/passlane/oidc/Client" 70) (hcw : Jvm.Lit.compactW.before a0 Z = true) :
    MetFree l x (head1 (Jvm.Cond.code x code maxLocals ret :: ws) room_1) (fun aa U => aa = #[(.int ia), (.int iu), (.int ic), (.int iz)] ∧ Z.Warmed39 U.vm ∧ U.heap = h0 ∧ IB Z U.vm []) (fun _ _ _ _ _ => True) (fun _ U o U' => ∃ v L, o = .returned v ∧ Q_law Z  h0 n0 v U'.heap L ∧ ReturnedEndW U o U' L 41 710) := by
  refine MetFree.of_bodySF (plainFor_of_name pn_exp) hisR ?_
  intro p e s m args below meth c s₁ Bd hml0 hP hK
  obtain ⟨rfl, hZ, hh, hPv⟩ := hP
  have hx := Bd.exec
  have hby := Bd.bytes
  have hml : c.maxLocals = 19 := hml0
  have hown : s.vm.findClass "com/example/passlane/passlane/oidc/ClientToStringPinLaw" = some m.cls := findClass_of_methodNamed Bd.named
  have hnm := (name_of_methodNamed Bd.named Bd.method).1
  have X0 : Stand p l e room_1 (s.setVm s.vm) m #[(.int ia), (.int iu), (.int ic), (.int iz)] below meth c s₁ [] 0 0 := Stand.of_body Bd
  have e0 : s₁.heap = h0 := by rw [← hh, Bd.state]; rfl
  have N0 := Fr.nil n0
  obtain ⟨Ga, Sa, nx, og⟩ := own_ga (p := p) (e := e) (below := below) s₁ (eF_29 m ia iu ic iz)
  have S0 : Ga s₁ (mkF m 0 #[vI ia, vI iu, vI ic, vI iz, vU, vU, vU, vU, vU, vU, vU, vU, vU, vU, vU, vU, vU, vU, vU] []) := nx Sa fun t k => castTop (ef_29 m ia iu ic iz) k
  have hZ : Z.Warmed39 (s.setVm s.vm).vm := hZ
  have hown : (s.setVm s.vm).vm.findClass "com/example/passlane/passlane/oidc/ClientToStringPinLaw" = some m.cls := hown
  have hS : s.Since s.vm 0 := (State.WarmedH.refl s).since 0
  have hki0 := Nat.zero_le h0.size
  obtain ⟨⟨cz, S_cs, hcz⟩, ⟨kde, S_de, E_de, V_de⟩, ⟨kel, S_em, E_em, F_em, V_el⟩, S_ey, E_ey⟩ := id SS
  have S1508 : Ga s₁ (mkF m 8 #[vI ia, vI iu, vI ic, vI iz, vI ((ia &&& (255 : Int32)).toUInt32.toUInt16.toUInt32.toInt32), vU, vU, vU, vU, vU, vU, vU, vU, vU, vU, vU, vU, vU, vU] []) := nx S0 fun t kt => by
    refine XS.iloadN X0.here hx rfl (hb hby at_0) rfl ?_
    refine XS.sipush X0.here hx rfl (hb hby at_1) ?_
    refine XS.iand X0.here hx rfl (hb hby at_4) rfl ?_
    refine XS.i2c X0.here hx rfl (hb hby at_5) rfl ?_
    show Sp p e below s₁ (mkF m 6 #[vI ia, vI iu, vI ic, vI iz, vU, vU, vU, vU, vU, vU, vU, vU, vU, vU, vU, vU, vU, vU, vU] [(.int ((ia &&& (255 : Int32)).toUInt32.toUInt16.toUInt32.toInt32))]) _
    refine XS.istore X0.here hx rfl (hb hby at_6) rfl (l' := #[vI ia, vI iu, vI ic, vI iz, vI ((ia &&& (255 : Int32)).toUInt32.toUInt16.toUInt32.toInt32), vU, vU, vU, vU, vU, vU, vU, vU, vU, vU, vU, vU, vU, vU]) rfl ?_
    exact kt
  obtain ⟨ca, q_ca⟩ : ∃ z : Int32, z = ((ia &&& (255 : Int32)).toUInt32.toUInt16.toUInt32.toInt32) := ⟨_, rfl⟩
  have S1509 : Ga s₁ (mkF m 8 #[vI ia, vI iu, vI ic, vI iz, vI ca, vU, vU, vU, vU, vU, vU, vU, vU, vU, vU, vU, vU, vU, vU] []) := by subst q_ca; exact S1508
  clear S1508
  have hca : own_c ca := by rw [q_ca, own_m8]; exact own_cand _
  clear q_ca
  have S1510 : Ga s₁ (mkF m 19 #[vI ia, vI iu, vI ic, vI iz, vI ca, vI ((((ia.toUInt32 >>> ((8 : Int32) &&& 31).toUInt32).toInt32) &&& (255 : Int32)).toUInt32.toUInt16.toUInt32.toInt32), vU, vU, vU, vU, vU, vU, vU, vU, vU, vU, vU, vU, vU] []) := nx S1509 fun t kt => by
    refine XS.iloadN X0.here hx rfl (hb hby at_8) rfl ?_
    refine XS.bipush X0.here hx rfl (hb hby at_9) ?_
    refine XS.iushr X0.here hx rfl (hb hby at_11) rfl ?_
    refine XS.sipush X0.here hx rfl (hb hby at_12) ?_
    show Sp p e below s₁ (mkF m 15 #[vI ia, vI iu, vI ic, vI iz, vI ca, vU, vU, vU, vU, vU, vU, vU, vU, vU, vU, vU, vU, vU, vU] [(.int 255), (.int ((ia.toUInt32 >>> ((8 : Int32) &&& 31).toUInt32).toInt32))]) _
    refine XS.iand X0.here hx rfl (hb hby at_15) rfl ?_
    refine XS.i2c X0.here hx rfl (hb hby at_16) rfl ?_
    refine XS.istore X0.here hx rfl (hb hby at_17) rfl (l' := #[vI ia, vI iu, vI ic, vI iz, vI ca, vI ((((ia.toUInt32 >>> ((8 : Int32) &&& 31).toUInt32).toInt32) &&& (255 : Int32)).toUInt32.toUInt16.toUInt32.toInt32), vU, vU, vU, vU, vU, vU, vU, vU, vU, vU, vU, vU, vU]) rfl ?_
    exact kt
  obtain ⟨cb, q_cb⟩ : ∃ z : Int32, z = ((((ia.toUInt32 >>> ((8 : Int32) &&& 31).toUInt32).toInt32) &&& (255 : Int32)).toUInt32.toUInt16.toUInt32.toInt32) := ⟨_, rfl⟩
  have S1511 : Ga s₁ (mkF m 19 #[vI ia, vI iu, vI ic, vI iz, vI ca, vI cb, vU, vU, vU, vU, vU, vU, vU, vU, vU, vU, vU, vU, vU] []) := by subst q_cb; exact S1510
  clear S1510
  have hcb : own_c cb := by rw [q_cb, own_m8]; exact own_cand _
  clear q_cb
  have S1512 : Ga s₁ (mkF m 27 #[vI ia, vI iu, vI ic, vI iz, vI ca, vI cb, vI ((iu &&& (255 : Int32)).toUInt32.toUInt16.toUInt32.toInt32), vU, vU, vU, vU, vU, vU, vU, vU, vU, vU, vU, vU] []) := nx S1511 fun t kt => by
    refine XS.iloadN X0.here hx rfl (hb hby at_19) rfl ?_
    refine XS.sipush X0.here hx rfl (hb hby at_20) ?_
    refine XS.iand X0.here hx rfl (hb hby at_23) rfl ?_
    refine XS.i2c X0.here hx rfl (hb hby at_24) rfl ?_
    show Sp p e below s₁ (mkF m 25 #[vI ia, vI iu, vI ic, vI iz, vI ca, vI cb, vU, vU, vU, vU, vU, vU, vU, vU, vU, vU, vU, vU, vU] [(.int ((iu &&& (255 : Int32)).toUInt32.toUInt16.toUInt32.toInt32))]) _
    refine XS.istore X0.here hx rfl (hb hby at_25) rfl (l' := #[vI ia, vI iu, vI ic, vI iz, vI ca, vI cb, vI ((iu &&& (255 : Int32)).toUInt32.toUInt16.toUInt32.toInt32), vU, vU, vU, vU, vU, vU, vU, vU, vU, vU, vU, vU]) rfl ?_
    exact kt
  obtain ⟨cu, q_cu⟩ : ∃ z : Int32, z = ((iu &&& (255 : Int32)).toUInt32.toUInt16.toUInt32.toInt32) := ⟨_, rfl⟩
  have S1513 : Ga s₁ (mkF m 27 #[vI ia, vI iu, vI ic, vI iz, vI ca, vI cb, vI cu, vU, vU, vU, vU, vU, vU, vU, vU, vU, vU, vU, vU] []) := by subst q_cu; exact S1512
  clear S1512
  have hcu : own_c cu := by rw [q_cu, own_m8]; exact own_cand _
  clear q_cu
  have S1514 : Ga s₁ (mkF m 38 #[vI ia, vI iu, vI ic, vI iz, vI ca, vI cb, vI cu, vI ((((iu.toUInt32 >>> ((8 : Int32) &&& 31).toUInt32).toInt32) &&& (255 : Int32)).toUInt32.toUInt16.toUInt32.toInt32), vU, vU, vU, vU, vU, vU, vU, vU, vU, vU, vU] []) := nx S1513 fun t kt => by
    refine XS.iloadN X0.here hx rfl (hb hby at_27) rfl ?_
    refine XS.bipush X0.here hx rfl (hb hby at_28) ?_
    refine XS.iushr X0.here hx rfl (hb hby at_30) rfl ?_
    refine XS.sipush X0.here hx rfl (hb hby at_31) ?_
    show Sp p e below s₁ (mkF m 34 #[vI ia, vI iu, vI ic, vI iz, vI ca, vI cb, vI cu, vU, vU, vU, vU, vU, vU, vU, vU, vU, vU, vU, vU] [(.int 255), (.int ((iu.toUInt32 >>> ((8 : Int32) &&& 31).toUInt32).toInt32))]) _
    refine XS.iand X0.here hx rfl (hb hby at_34) rfl ?_
    refine XS.i2c X0.here hx rfl (hb hby at_35) rfl ?_
    refine XS.istore X0.here hx rfl (hb hby at_36) rfl (l' := #[vI ia, vI iu, vI ic, vI iz, vI ca, vI cb, vI cu, vI ((((iu.toUInt32 >>> ((8 : Int32) &&& 31).toUInt32).toInt32) &&& (255 : Int32)).toUInt32.toUInt16.toUInt32.toInt32), vU, vU, vU, vU, vU, vU, vU, vU, vU, vU, vU]) rfl ?_
    exact kt
  obtain ⟨cv, q_cv⟩ : ∃ z : Int32, z = ((((iu.toUInt32 >>> ((8 : Int32) &&& 31).toUInt32).toInt32) &&& (255 : Int32)).toUInt32.toUInt16.toUInt32.toInt32) := ⟨_, rfl⟩
  have S1515 : Ga s₁ (mkF m 38 #[vI ia, vI iu, vI ic, vI iz, vI ca, vI cb, vI cu, vI cv, vU, vU, vU, vU, vU, vU, vU, vU, vU, vU, vU] []) := by subst q_cv; exact S1514
  clear S1514
  have hcv : own_c cv := by rw [q_cv, own_m8]; exact own_cand _
  clear q_cv
  have S1516 : Ga s₁ (mkF m 46 #[vI ia, vI iu, vI ic, vI iz, vI ca, vI cb, vI cu, vI cv, vI ((ic &&& (2147483647 : Int32)) % (3 : Int32)), vU, vU, vU, vU, vU, vU, vU, vU, vU, vU] []) := nx S1515 fun t kt => by
    refine XS.iloadN X0.here hx rfl (hb hby at_38) rfl ?_
    refine X0.ldcInt hx hown (own_t hZ hw 0 rfl) (g := (mkF m 39 #[vI ia, vI iu, vI ic, vI iz, vI ca, vI cb, vI cu, vI cv, vU, vU, vU, vU, vU, vU, vU, vU, vU, vU, vU] [(.int ic)])) rfl (hb hby at_39) _ ?_
    refine XS.iand X0.here hx rfl (hb hby at_41) rfl ?_
    refine XS.iconst X0.here hx rfl (hb hby at_42) ?_
    show Sp p e below s₁ (mkF m 43 #[vI ia, vI iu, vI ic, vI iz, vI ca, vI cb, vI cu, vI cv, vU, vU, vU, vU, vU, vU, vU, vU, vU, vU, vU] [(.int 3), (.int (ic &&& (2147483647 : Int32)))]) _
    refine iremM X0 hx rfl (hb hby at_43) rfl (by decide) ?_
    refine XS.istore X0.here hx rfl (hb hby at_44) rfl (l' := #[vI ia, vI iu, vI ic, vI iz, vI ca, vI cb, vI cu, vI cv, vI ((ic &&& (2147483647 : Int32)) % (3 : Int32)), vU, vU, vU, vU, vU, vU, vU, vU, vU, vU]) rfl ?_
    exact kt
  obtain ⟨jn, hj3, hjn⟩ := own_mod ic (k := 3) 3 rfl (by decide) (by decide)
  have q1518 : ((ic &&& (2147483647 : Int32)) % (3 : Int32)) = (Int32.ofNat jn) := hjn
  have S1517 : Ga s₁ (mkF m 46 #[vI ia, vI iu, vI ic, vI iz, vI ca, vI cb, vI cu, vI cv, vI (Int32.ofNat jn), vU, vU, vU, vU, vU, vU, vU, vU, vU, vU] []) := by have h := S1516; rw [q1518] at h; exact h
  clear S1516
  have S1519 : Ga s₁ (mkF m 54 #[vI ia, vI iu, vI ic, vI iz, vI ca, vI cb, vI cu, vI cv, vI (Int32.ofNat jn), vI ((iz &&& (255 : Int32)).toUInt32.toUInt16.toUInt32.toInt32), vU, vU, vU, vU, vU, vU, vU, vU, vU] []) := nx S1517 fun t kt => by
    refine XS.iloadN X0.here hx rfl (hb hby at_46) rfl ?_
    refine XS.sipush X0.here hx rfl (hb hby at_47) ?_
    refine XS.iand X0.here hx rfl (hb hby at_50) rfl ?_
    refine XS.i2c X0.here hx rfl (hb hby at_51) rfl ?_
    show Sp p e below s₁ (mkF m 52 #[vI ia, vI iu, vI ic, vI iz, vI ca, vI cb, vI cu, vI cv, vI (Int32.ofNat jn), vU, vU, vU, vU, vU, vU, vU, vU, vU, vU] [(.int ((iz &&& (255 : Int32)).toUInt32.toUInt16.toUInt32.toInt32))]) _
    refine XS.istore X0.here hx rfl (hb hby at_52) rfl (l' := #[vI ia, vI iu, vI ic, vI iz, vI ca, vI cb, vI cu, vI cv, vI (Int32.ofNat jn), vI ((iz &&& (255 : Int32)).toUInt32.toUInt16.toUInt32.toInt32), vU, vU, vU, vU, vU, vU, vU, vU, vU]) rfl ?_
    exact kt
  obtain ⟨cz_, q_cz_⟩ : ∃ z : Int32, z = ((iz &&& (255 : Int32)).toUInt32.toUInt16.toUInt32.toInt32) := ⟨_, rfl⟩
  have S1520 : Ga s₁ (mkF m 54 #[vI ia, vI iu, vI ic, vI iz, vI ca, vI cb, vI cu, vI cv, vI (Int32.ofNat jn), vI cz_, vU, vU, vU, vU, vU, vU, vU, vU, vU] []) := by subst q_cz_; exact S1519
  clear S1519
  have hcz_ : own_c cz_ := by rw [q_cz_, own_m8]; exact own_cand _
  clear q_cz_
  have S1521 : Ga s₁ (mkF m 60 #[vI ia, vI iu, vI ic, vI iz, vI ca, vI cb, vI cu, vI cv, vI (Int32.ofNat jn), vI cz_, vU, vU, vU, vU, vU, vU, vU, vU, vU] [(.int (((iz.toUInt32 >>> ((8 : Int32) &&& 31).toUInt32).toInt32) &&& (1 : Int32)))]) := nx S1520 fun t kt => by
    refine XS.iloadN X0.here hx rfl (hb hby at_54) rfl ?_
    refine XS.bipush X0.here hx rfl (hb hby at_55) ?_
    refine XS.iushr X0.here hx rfl (hb hby at_57) rfl ?_
    refine XS.iconst X0.here hx rfl (hb hby at_58) ?_
    show Sp p e below s₁ (mkF m 59 #[vI ia, vI iu, vI ic, vI iz, vI ca, vI cb, vI cu, vI cv, vI (Int32.ofNat jn), vI cz_, vU, vU, vU, vU, vU, vU, vU, vU, vU] [(.int 1), (.int ((iz.toUInt32 >>> ((8 : Int32) &&& 31).toUInt32).toInt32))]) _
    refine XS.iand X0.here hx rfl (hb hby at_59) rfl ?_
    exact kt
  obtain ⟨f1, h_f1, S1524⟩ : ∃ f1 : Int32, (True) ∧ Ga s₁ (mkF m 68 #[vI ia, vI iu, vI ic, vI iz, vI ca, vI cb, vI cu, vI cv, vI (Int32.ofNat jn), vI cz_, vU, vU, vU, vU, vU, vU, vU, vU, vU] [(.int f1)]) := by
    by_cases hf1 : (((iz.toUInt32 >>> ((8 : Int32) &&& 31).toUInt32).toInt32) &&& (1 : Int32)) = (0 : Int32)
    · have S1522 : Ga s₁ (mkF m 68 #[vI ia, vI iu, vI ic, vI iz, vI ca, vI cb, vI cu, vI cv, vI (Int32.ofNat jn), vI cz_, vU, vU, vU, vU, vU, vU, vU, vU, vU] [(.int 0)]) := nx S1521 fun t kt => by
        refine XS.ifYes X0.here hx rfl (pc0 := 60) (pc' := 67) rfl (hb hby at_60) rfl ((if0 _ _).trans (teq (show (((iz.toUInt32 >>> ((8 : Int32) &&& 31).toUInt32).toInt32) &&& (1 : Int32)) = (0 : Int32) from hf1)).1) (by decide) (by decide) ?_
        refine XS.iconst X0.here hx rfl (hb hby at_67) ?_
        exact kt
      exact ⟨(0 : Int32), trivial, S1522⟩
    · have S1523 : Ga s₁ (mkF m 68 #[vI ia, vI iu, vI ic, vI iz, vI ca, vI cb, vI cu, vI cv, vI (Int32.ofNat jn), vI cz_, vU, vU, vU, vU, vU, vU, vU, vU, vU] [(.int 1)]) := nx S1521 fun t kt => by
        refine XS.ifNo X0.here hx rfl (hb hby at_60) rfl ((if0 _ _).trans (feq (show ¬ ((((iz.toUInt32 >>> ((8 : Int32) &&& 31).toUInt32).toInt32) &&& (1 : Int32)) = (0 : Int32)) from hf1)).1) ?_
        refine XS.iconst X0.here hx rfl (hb hby at_63) ?_
        refine XS.goto X0.here hx rfl (pc0 := 64) (pc' := 68) rfl (hb hby at_64) (by decide) (by decide) ?_
        exact kt
      exact ⟨(1 : Int32), trivial, S1523⟩
  have S1525 : Ga s₁ (mkF m 76 #[vI ia, vI iu, vI ic, vI iz, vI ca, vI cb, vI cu, vI cv, vI (Int32.ofNat jn), vI cz_, vI f1, vU, vU, vU, vU, vU, vU, vU, vU] [(.int (((iz.toUInt32 >>> ((9 : Int32) &&& 31).toUInt32).toInt32) &&& (1 : Int32)))]) := nx S1524 fun t kt => by
    refine XS.istore X0.here hx rfl (hb hby at_68) rfl (l' := #[vI ia, vI iu, vI ic, vI iz, vI ca, vI cb, vI cu, vI cv, vI (Int32.ofNat jn), vI cz_, vI f1, vU, vU, vU, vU, vU, vU, vU, vU]) rfl ?_
    refine XS.iloadN X0.here hx rfl (hb hby at_70) rfl ?_
    refine XS.bipush X0.here hx rfl (hb hby at_71) ?_
    refine XS.iushr X0.here hx rfl (hb hby at_73) rfl ?_
    show Sp p e below s₁ (mkF m 74 #[vI ia, vI iu, vI ic, vI iz, vI ca, vI cb, vI cu, vI cv, vI (Int32.ofNat jn), vI cz_, vI f1, vU, vU, vU, vU, vU, vU, vU, vU] [(.int ((iz.toUInt32 >>> ((9 : Int32) &&& 31).toUInt32).toInt32))]) _
    refine XS.iconst X0.here hx rfl (hb hby at_74) ?_
    refine XS.iand X0.here hx rfl (hb hby at_75) rfl ?_
    exact kt
  obtain ⟨f2, h_f2, S1528⟩ : ∃ f2 : Int32, (True) ∧ Ga s₁ (mkF m 84 #[vI ia, vI iu, vI ic, vI iz, vI ca, vI cb, vI cu, vI cv, vI (Int32.ofNat jn), vI cz_, vI f1, vU, vU, vU, vU, vU, vU, vU, vU] [(.int f2)]) := by
    by_cases hf2 : (((iz.toUInt32 >>> ((9 : Int32) &&& 31).toUInt32).toInt32) &&& (1 : Int32)) = (0 : Int32)
    · have S1526 : Ga s₁ (mkF m 84 #[vI ia, vI iu, vI ic, vI iz, vI ca, vI cb, vI cu, vI cv, vI (Int32.ofNat jn), vI cz_, vI f1, vU, vU, vU, vU, vU, vU, vU, vU] [(.int 0)]) := nx S1525 fun t kt => by
        refine XS.ifYes X0.here hx rfl (pc0 := 76) (pc' := 83) rfl (hb hby at_76) rfl ((if0 _ _).trans (teq (show (((iz.toUInt32 >>> ((9 : Int32) &&& 31).toUInt32).toInt32) &&& (1 : Int32)) = (0 : Int32) from hf2)).1) (by decide) (by decide) ?_
        refine XS.iconst X0.here hx rfl (hb hby at_83) ?_
        exact kt
      exact ⟨(0 : Int32), trivial, S1526⟩
    · have S1527 : Ga s₁ (mkF m 84 #[vI ia, vI iu, vI ic, vI iz, vI ca, vI cb, vI cu, vI cv, vI (Int32.ofNat jn), vI cz_, vI f1, vU, vU, vU, vU, vU, vU, vU, vU] [(.int 1)]) := nx S1525 fun t kt => by
        refine XS.ifNo X0.here hx rfl (hb hby at_76) rfl ((if0 _ _).trans (feq (show ¬ ((((iz.toUInt32 >>> ((9 : Int32) &&& 31).toUInt32).toInt32) &&& (1 : Int32)) = (0 : Int32)) from hf2)).1) ?_
        refine XS.iconst X0.here hx rfl (hb hby at_79) ?_
        refine XS.goto X0.here hx rfl (pc0 := 80) (pc' := 84) rfl (hb hby at_80) (by decide) (by decide) ?_
        exact kt
      exact ⟨(1 : Int32), trivial, S1527⟩
  have S1529 : Ga s₁ (mkF m 86 #[vI ia, vI iu, vI ic, vI iz, vI ca, vI cb, vI cu, vI cv, vI (Int32.ofNat jn), vI cz_, vI f1, vI f2, vU, vU, vU, vU, vU, vU, vU] []) := nx S1528 fun t kt => by
    refine XS.istore X0.here hx rfl (hb hby at_84) rfl (l' := #[vI ia, vI iu, vI ic, vI iz, vI ca, vI cb, vI cu, vI cv, vI (Int32.ofNat jn), vI cz_, vI f1, vI f2, vU, vU, vU, vU, vU, vU, vU]) rfl ?_
    exact kt
  obtain ⟨T1530, h1530, X1530, e1530, E1530, A1530, D1530, -, st1530⟩ := newO X0 hx hZ hown (own_h hw 1 rfl) (own_h hw 2 rfl) (own_h hw 3 rfl) e0 (g := (mkF m 86 #[vI ia, vI iu, vI ic, vI iz, vI ca, vI cb, vI cu, vI cv, vI (Int32.ofNat jn), vI cz_, vI f1, vI f2, vU, vU, vU, vU, vU, vU, vU] [])) rfl (hb hby at_86) (by decide) (by decide)
  obtain ⟨sid, g1530⟩ : ∃ z, z = h0.size := ⟨_, rfl⟩
  rw [← g1530] at A1530 D1530 st1530
  have g_sid : n0 ≤ sid := Nat.le_trans Z0 (Nat.le_of_eq g1530.symm)
  have F_coder_sid : Fld Z h1530 sid "java/lang/String" "coder" "B" (.int 0) := D1530 (Or.inr (own_h hw 28 rfl)) (ty := .byte) (by decide)
  have F_value_sid : Fld Z h1530 sid "java/lang/String" "value" "[B" .null := D1530 (Or.inr (own_h hw 30 rfl)) (ty := (.array .byte)) (by decide)
  have S1531 : Ga T1530 (mkF m 91 #[vI ia, vI iu, vI ic, vI iz, vI ca, vI cb, vI cu, vI cv, vI (Int32.ofNat jn), vI cz_, vI f1, vI f2, vU, vU, vU, vU, vU, vU, vU] [(.int 2), (.ref sid), (.ref sid)]) := nx S1529 fun t kt => st1530 t (by
    show Sp p e below T1530 (mkF m 89 #[vI ia, vI iu, vI ic, vI iz, vI ca, vI cb, vI cu, vI cv, vI (Int32.ofNat jn), vI cz_, vI f1, vI f2, vU, vU, vU, vU, vU, vU, vU] [(.ref sid)]) _
    refine XS.dup X1530.here hx rfl (hb hby at_89) rfl rfl ?_
    refine XS.iconst X1530.here hx rfl (hb hby at_90) ?_
    exact kt)
  obtain ⟨T1532, h1532, k1532, X1532, e1532, E1532, A1532, st1532⟩ := newP X1530 hx hZ (own_h hw 4 rfl) e1530 (g := (mkF m 91 #[vI ia, vI iu, vI ic, vI iz, vI ca, vI cb, vI cu, vI cv, vI (Int32.ofNat jn), vI cz_, vI f1, vI f2, vU, vU, vU, vU, vU, vU, vU] [(.int 2), (.ref sid), (.ref sid)])) rfl (hb hby at_91) rfl (by decide) (cap := 2) (by decide) (by decide) (by decide) (by decide)
  obtain ⟨ar2, g1532⟩ : ∃ z, z = h1530.size := ⟨_, rfl⟩
  rw [← g1532] at A1532 st1532
  have ne1533 : sid ≠ ar2 := by rw [g1532]; exact Nat.ne_of_lt A1530.lt
  have z1534 := (Nat.le_trans Z0 E1530.1)
  have g_ar2 : n0 ≤ ar2 := Nat.le_trans z1534 (Nat.le_of_eq g1532.symm)
  have V1532 : Arv Z h1532 ar2 k1532 .char 2 [(.int 0), (.int 0)] (.int 0) := (Arv.new A1532 (by decide)).pad (pad_rep [] _ 2)
  have S1535 : Ga T1532 (mkF m 97 #[vI ia, vI iu, vI ic, vI iz, vI ca, vI cb, vI cu, vI cv, vI (Int32.ofNat jn), vI cz_, vI f1, vI f2, vU, vU, vU, vU, vU, vU, vU] [(.int ca), (.int 0), (.ref ar2), (.ref ar2), (.ref sid), (.ref sid)]) := nx S1531 fun t kt => st1532 t (by
    show Sp p e below T1532 (mkF m 93 #[vI ia, vI iu, vI ic, vI iz, vI ca, vI cb, vI cu, vI cv, vI (Int32.ofNat jn), vI cz_, vI f1, vI f2, vU, vU, vU, vU, vU, vU, vU] [(.ref ar2), (.ref sid), (.ref sid)]) _
    refine XS.dup X1532.here hx rfl (hb hby at_93) rfl rfl ?_
    refine XS.iconst X1532.here hx rfl (hb hby at_94) ?_
    refine XS.iload X1532.here hx rfl (hb hby at_95) rfl ?_
    exact kt)
  obtain ⟨co1536, Ao1536, qo1536, So1536, No1536, Ho1536, Go1536⟩ := id V1532
  have hino1536 : ¬ ((0 : Int32) < 0 ∨ co1536.slots.size ≤ ((0 : Int32)).toNatClampNeg) := inb_of So1536 ⟨by decide, by decide⟩
  obtain ⟨T1537, h1537, X1537, e1537, W1537, st1537⟩ := stC X1532 hx hZ e1532 Ao1536 (j := (0 : Int32)) hino1536 (g := (mkF m 97 #[vI ia, vI iu, vI ic, vI iz, vI ca, vI cb, vI cu, vI cv, vI (Int32.ofNat jn), vI cz_, vI f1, vI f2, vU, vU, vU, vU, vU, vU, vU] [(.int ca), (.int 0), (.ref ar2), (.ref ar2), (.ref sid), (.ref sid)])) rfl rfl (hb hby at_97)
  have N1537 := Fr.snoc X1537 N0 g_ar2
  have V1537 : Arv Z h1537 ar2 k1532 .char 2 [(.int (ca.toUInt32.toUInt16.toUInt32.toInt32)), (.int 0)] (.int 0) := Arv.set Ao1536 qo1536 So1536 No1536 Ho1536 Go1536 (fits_nar_char _) W1537 0 rfl (Nat.le_of_ble_eq_true rfl)
  rw [own_nc2 hca] at V1537
  have S1538 : Ga T1537 (mkF m 102 #[vI ia, vI iu, vI ic, vI iz, vI ca, vI cb, vI cu, vI cv, vI (Int32.ofNat jn), vI cz_, vI f1, vI f2, vU, vU, vU, vU, vU, vU, vU] [(.int cb), (.int 1), (.ref ar2), (.ref ar2), (.ref sid), (.ref sid)]) := nx S1535 fun t kt => st1537 t (by
    show Sp p e below T1537 (mkF m 98 #[vI ia, vI iu, vI ic, vI iz, vI ca, vI cb, vI cu, vI cv, vI (Int32.ofNat jn), vI cz_, vI f1, vI f2, vU, vU, vU, vU, vU, vU, vU] [(.ref ar2), (.ref sid), (.ref sid)]) _
    refine XS.dup X1537.here hx rfl (hb hby at_98) rfl rfl ?_
    refine XS.iconst X1537.here hx rfl (hb hby at_99) ?_
    refine XS.iload X1537.here hx rfl (hb hby at_100) rfl ?_
    exact kt)
  obtain ⟨co1539, Ao1539, qo1539, So1539, No1539, Ho1539, Go1539⟩ := id V1537
  have hino1539 : ¬ ((1 : Int32) < 0 ∨ co1539.slots.size ≤ ((1 : Int32)).toNatClampNeg) := inb_of So1539 ⟨by decide, by decide⟩
  obtain ⟨T1540, h1540, X1540, e1540, W1540, st1540⟩ := stC X1537 hx hZ e1537 Ao1539 (j := (1 : Int32)) hino1539 (g := (mkF m 102 #[vI ia, vI iu, vI ic, vI iz, vI ca, vI cb, vI cu, vI cv, vI (Int32.ofNat jn), vI cz_, vI f1, vI f2, vU, vU, vU, vU, vU, vU, vU] [(.int cb), (.int 1), (.ref ar2), (.ref ar2), (.ref sid), (.ref sid)])) rfl rfl (hb hby at_102)
  have N1540 := Fr.snoc X1540 N1537 g_ar2
  have V1540 : Arv Z h1540 ar2 k1532 .char 2 [(.int ca), (.int (cb.toUInt32.toUInt16.toUInt32.toInt32))] (.int 0) := Arv.set Ao1539 qo1539 So1539 No1539 Ho1539 Go1539 (fits_nar_char _) W1540 1 rfl (Nat.le_of_ble_eq_true rfl)
  rw [own_nc2 hcb] at V1540
  have hid : ∀ z ∈ ([ca, cb] : List Int32), own_c z := fun z hz => by simp only [List.mem_cons, List.not_mem_nil, or_false] at hz; rcases hz with rfl | rfl <;> assumption
  have f1541 := ((((O0.ext E1530).ext E1532).wr W1537 (Nat.le_trans hno g_ar2)).wr W1540 (Nat.le_trans hno g_ar2))
  have f1542 := (((A1530.ext E1532).wr W1537).wr W1540)
  have f1543 := (((F_value_sid.ext E1532).other W1537 (Or.inl ne1533)).other W1540 (Or.inl ne1533))
  have f1544 := (((F_coder_sid.ext E1532).other W1537 (Or.inl ne1533)).other W1540 (Or.inl ne1533))
  have z1545 := (Nat.le_trans (Nat.le_trans (Nat.le_trans z1534 E1532.1) (Keep.of_wr W1537).1) (Keep.of_wr W1540).1)
  obtain ⟨v1546, T1546, L1546, X1546, hQ1546, st1546⟩ := own_cI X1540 hx hZ hw hown hml 5 6 7 3 rfl rfl rfl rfl rfl (a := sid) (rm_si1 hw no de em el ey sid ar2 k1532 ([ca, cb] : List Int32) h1540 n0 z1545 SS hno f1541 f1542 f1543 f1544 g_sid V1540 hid (Nat.le_of_ble_eq_true rfl) (Nat.le_of_ble_eq_true rfl)) e1540 (W := 1) (g := (mkF m 103 #[vI ia, vI iu, vI ic, vI iz, vI ca, vI cb, vI cu, vI cv, vI (Int32.ofNat jn), vI cz_, vI f1, vI f2, vU, vU, vU, vU, vU, vU, vU] [(.ref ar2), (.ref sid), (.ref sid)])) rfl (argsL := [(.ref ar2)]) (rest := [(.ref sid)]) pd___C_V (hb hby at_103)
  obtain ⟨tid, kb1546, rfl, N1546q, K1546, sz1546, E1546, F1546, G1546, V1546⟩ := hQ1546
  have N1546 := Fr.app N1540 N1546q
  have V1546' : Arv Z T1546.heap tid kb1546 .byte 2 (own_vs [ca, cb]) (.int 0) := V1546
  have S1547 : Ga T1546 (mkF m 108 #[vI ia, vI iu, vI ic, vI iz, vI ca, vI cb, vI cu, vI cv, vI (Int32.ofNat jn), vI cz_, vI f1, vI f2, vR sid, vU, vU, vU, vU, vU, vU] []) := nx S1538 fun t kt => st1540 t (st1546 t (by
    show Sp p e below T1546 (mkF m 106 #[vI ia, vI iu, vI ic, vI iz, vI ca, vI cb, vI cu, vI cv, vI (Int32.ofNat jn), vI cz_, vI f1, vI f2, vU, vU, vU, vU, vU, vU, vU] [(.ref sid)]) _
    refine XS.astore X1546.here hx rfl (hb hby at_106) rfl rfl (l' := #[vI ia, vI iu, vI ic, vI iz, vI ca, vI cb, vI cu, vI cv, vI (Int32.ofNat jn), vI cz_, vI f1, vI f2, vR sid, vU, vU, vU, vU, vU, vU]) rfl ?_
    exact kt))
  obtain ⟨T1548, h1548, X1548, e1548, E1548, A1548, D1548, -, st1548⟩ := newO X1546 hx hZ hown (own_h hw 31 rfl) (own_h hw 32 rfl) (own_h hw 33 rfl) rfl (g := (mkF m 108 #[vI ia, vI iu, vI ic, vI iz, vI ca, vI cb, vI cu, vI cv, vI (Int32.ofNat jn), vI cz_, vI f1, vI f2, vR sid, vU, vU, vU, vU, vU, vU] [])) rfl (hb hby at_108) (by decide) (by decide)
  obtain ⟨rl, g1548⟩ : ∃ z, z = T1546.heap.size := ⟨_, rfl⟩
  rw [← g1548] at A1548 D1548 st1548
  have ne1549 : sid ≠ rl := by rw [g1548]; exact Nat.ne_of_lt E1546.lt
  have f1550 := (V1540.keep K1546 (ninS (Ne.symm ne1533) nin0))
  have ne1551 : ar2 ≠ rl := by rw [g1548]; exact Nat.ne_of_lt f1550.lt
  have ne1552 : tid ≠ rl := by rw [g1548]; exact Nat.ne_of_lt V1546'.lt
  have z1553 := (Nat.le_trans z1545 K1546.1)
  have g_rl : n0 ≤ rl := Nat.le_trans z1553 (Nat.le_of_eq g1548.symm)
  have F_modCount_rl : Fld Z h1548 rl "java/util/AbstractList" "modCount" "I" (.int 0) := D1548 (Or.inl (own_h hw 51 rfl)) (ty := .int) (by decide)
  have F_elementData_rl : Fld Z h1548 rl "java/util/ArrayList" "elementData" "[Ljava/lang/Object;" .null := D1548 (Or.inl (own_h hw 54 rfl)) (ty := (.array (.object "java/lang/Object"))) (by decide)
  have F_size_rl : Fld Z h1548 rl "java/util/ArrayList" "size" "I" (.int 0) := D1548 (Or.inl (own_h hw 77 rfl)) (ty := .int) (by decide)
  have S1554 : Ga T1548 (mkF m 112 #[vI ia, vI iu, vI ic, vI iz, vI ca, vI cb, vI cu, vI cv, vI (Int32.ofNat jn), vI cz_, vI f1, vI f2, vR sid, vU, vU, vU, vU, vU, vU] [(.ref rl), (.ref rl)]) := nx S1547 fun t kt => st1548 t (by
    show Sp p e below T1548 (mkF m 111 #[vI ia, vI iu, vI ic, vI iz, vI ca, vI cb, vI cu, vI cv, vI (Int32.ofNat jn), vI cz_, vI f1, vI f2, vR sid, vU, vU, vU, vU, vU, vU] [(.ref rl)]) _
    refine XS.dup X1548.here hx rfl (hb hby at_111) rfl rfl ?_
    exact kt)
  have f1555 := ((f1541.keep K1546 (allS (Nat.le_trans hno g_sid) all0)).ext E1548)
  have z1556 := (Nat.le_trans z1553 E1548.1)
  obtain ⟨v1557, T1557, L1557, X1557, hQ1557, st1557⟩ := own_cI X1548 hx hZ hw hown hml 34 35 36 33 rfl rfl rfl rfl rfl (a := rl) (rm_ali hw no de em el ey rl h1548 n0 z1556 SS hno f1555 ⟨A1548, F_modCount_rl, F_elementData_rl, F_size_rl⟩ g_rl) e1548 (W := 1) (g := (mkF m 112 #[vI ia, vI iu, vI ic, vI iz, vI ca, vI cb, vI cu, vI cv, vI (Int32.ofNat jn), vI cz_, vI f1, vI f2, vR sid, vU, vU, vU, vU, vU, vU] [(.ref rl), (.ref rl)])) rfl (argsL := []) (rest := [(.ref rl)]) pd___V (hb hby at_112)
  obtain ⟨rfl, N1557q, K1557, ⟨Ex1557, Fm1557, Fe1557, Fs1557⟩⟩ := hQ1557
  have N1557 := Fr.app N1546 N1557q
  have S1558 : Ga T1557 (mkF m 117 #[vI ia, vI iu, vI ic, vI iz, vI ca, vI cb, vI cu, vI cv, vI (Int32.ofNat jn), vI cz_, vI f1, vI f2, vR sid, vR rl, vU, vU, vU, vU, vU] []) := nx S1554 fun t kt => st1557 t (by
    show Sp p e below T1557 (mkF m 115 #[vI ia, vI iu, vI ic, vI iz, vI ca, vI cb, vI cu, vI cv, vI (Int32.ofNat jn), vI cz_, vI f1, vI f2, vR sid, vU, vU, vU, vU, vU, vU] [(.ref rl)]) _
    refine XS.astore X1557.here hx rfl (hb hby at_115) rfl rfl (l' := #[vI ia, vI iu, vI ic, vI iz, vI ca, vI cb, vI cu, vI cv, vI (Int32.ofNat jn), vI cz_, vI f1, vI f2, vR sid, vR rl, vU, vU, vU, vU, vU]) rfl ?_
    exact kt)
  obtain ⟨T1602, L1602, L1, X1602, N1602, K1602, ⟨HR, HEl⟩, S1602⟩ : ∃ (T' : State) (locs' : List Loc) (L1 : List Addr), Stand p l e room_1 (s.setVm s.vm) m #[(.int ia), (.int iu), (.int ic), (.int iz)] below meth c T' locs' 9 129 ∧ Fr n0 locs' ∧ Keep T1557.heap T'.heap [rl] ∧ (own_ALg Z T'.heap de rl L1 ∧ own_Els Z T'.heap cu cv jn L1) ∧ Ga T' (mkF m 151 #[vI ia, vI iu, vI ic, vI iz, vI ca, vI cb, vI cu, vI cv, vI (Int32.ofNat jn), vI cz_, vI f1, vI f2, vR sid, vR rl, vU, vU, vU, vU, vU] []) := by
    obtain rfl | rfl | rfl : jn = 0 ∨ jn = 1 ∨ jn = 2 := by omega
    · have q1560 : (Int32.ofNat 0) = (0 : Int32) := rfl
      have S1559 : Ga T1557 (mkF m 117 #[vI ia, vI iu, vI ic, vI iz, vI ca, vI cb, vI cu, vI cv, vI 0, vI cz_, vI f1, vI f2, vR sid, vR rl, vU, vU, vU, vU, vU] []) := by have h := S1558; rw [q1560] at h; exact h
      clear S1558
      have S1561 : Ga T1557 (mkF m 151 #[vI ia, vI iu, vI ic, vI iz, vI ca, vI cb, vI cu, vI cv, vI 0, vI cz_, vI f1, vI f2, vR sid, vR rl, vU, vU, vU, vU, vU] []) := nx S1559 fun t kt => by
        refine XS.iload X1557.here hx rfl (hb hby at_117) rfl ?_
        refine XS.iconst X1557.here hx rfl (hb hby at_119) ?_
        refine XS.icmpYes X1557.here hx rfl (pc0 := 120) (pc' := 134) rfl (hb hby at_120) rfl (tlt (show (0 : Int32) < (1 : Int32) from (by decide))).1 (by decide) (by decide) ?_
        refine XS.iload X1557.here hx rfl (hb hby at_134) rfl ?_
        show Sp p e below T1557 (mkF m 136 #[vI ia, vI iu, vI ic, vI iz, vI ca, vI cb, vI cu, vI cv, vI 0, vI cz_, vI f1, vI f2, vR sid, vR rl, vU, vU, vU, vU, vU] [(.int 0)]) _
        refine XS.iconst X1557.here hx rfl (hb hby at_136) ?_
        refine XS.icmpYes X1557.here hx rfl (pc0 := 137) (pc' := 151) rfl (hb hby at_137) rfl (tlt (show (0 : Int32) < (2 : Int32) from (by decide))).1 (by decide) (by decide) ?_
        exact kt
      exact ⟨T1557, _, [], X1557.mono (by decide) (by decide), N1557, (Keep.refl T1557.heap [rl]), ⟨own_al0 ⟨Ex1557, Fm1557, Fe1557, Fs1557⟩, own_e0⟩, S1561⟩
    · have q1563 : (Int32.ofNat 1) = (1 : Int32) := rfl
      have S1562 : Ga T1557 (mkF m 117 #[vI ia, vI iu, vI ic, vI iz, vI ca, vI cb, vI cu, vI cv, vI 1, vI cz_, vI f1, vI f2, vR sid, vR rl, vU, vU, vU, vU, vU] []) := by have h := S1558; rw [q1563] at h; exact h
      clear S1558
      have S1564 : Ga T1557 (mkF m 127 #[vI ia, vI iu, vI ic, vI iz, vI ca, vI cb, vI cu, vI cv, vI 1, vI cz_, vI f1, vI f2, vR sid, vR rl, vU, vU, vU, vU, vU] [(.int cu), (.ref rl)]) := nx S1562 fun t kt => by
        refine XS.iload X1557.here hx rfl (hb hby at_117) rfl ?_
        refine XS.iconst X1557.here hx rfl (hb hby at_119) ?_
        refine XS.icmpNo X1557.here hx rfl (hb hby at_120) rfl (flt (show ¬ ((1 : Int32) < (1 : Int32)) from (by decide))).1 ?_
        refine XS.aload X1557.here hx rfl (hb hby at_123) rfl rfl ?_
        show Sp p e below T1557 (mkF m 125 #[vI ia, vI iu, vI ic, vI iz, vI ca, vI cb, vI cu, vI cv, vI 1, vI cz_, vI f1, vI f2, vR sid, vR rl, vU, vU, vU, vU, vU] [(.ref rl)]) _
        refine XS.iload X1557.here hx rfl (hb hby at_125) rfl ?_
        exact kt
      have f1565 := (f1555.keep K1557 (allS (Nat.le_trans hno g_rl) all0))
      have z1566 := (Nat.le_trans z1556 K1557.1)
      obtain ⟨v1567, T1567, L1567, X1567, hQ1567, st1567⟩ := own_cS X1557 hx hZ hw hown hml 55 56 57 3 rfl rfl rfl rfl (rm_vof hw no de em el ey cu T1557.heap n0 z1566 SS hno f1565 hcu) rfl (W := 1) (g := (mkF m 127 #[vI ia, vI iu, vI ic, vI iz, vI ca, vI cb, vI cu, vI cv, vI 1, vI cz_, vI f1, vI f2, vR sid, vR rl, vU, vU, vU, vU, vU] [(.int cu), (.ref rl)])) rfl (argsL := [(.int cu)]) (rest := [(.ref rl)]) pd__C_Ljava_lang_String_ (hb hby at_127)
      obtain ⟨u, ub, kb1567, rfl, N1567q, K1567, szu1567, szub1567, E1567, F1567, G1567, V1567⟩ := hQ1567
      have N1567 := Fr.app N1557 N1567q
      have KK1567 : Keep T1557.heap T1567.heap [rl] := (Keep.refl T1557.heap [rl]).trans K1567 all0
      have sz_u : T1557.heap.size ≤ u := Nat.le_trans (Keep.refl T1557.heap [rl]).1 szu1567
      have sz_ub : T1557.heap.size ≤ ub := Nat.le_trans (Keep.refl T1557.heap [rl]).1 szub1567
      have f1568 := (f1565.keep K1567 all0)
      have f1569 := (Ex1557.keep K1567)
      have f1570 := (Fm1557.keep K1567 nin0)
      have f1571 := (Fe1557.keep K1567 nin0)
      have f1572 := (Fs1557.keep K1567 nin0)
      have z1573 := (Nat.le_trans z1566 K1567.1)
      obtain ⟨v1574, T1574, L1574, X1574, hQ1574, st1574⟩ := own_cV1 X1567 hx hZ hw hown hml 69 70 72 71 73 33 rfl rfl rfl rfl rfl rfl f1569 (rm_add0 hw no de em el ey rl u T1567.heap n0 z1573 SS hno f1568 ⟨f1569, f1570, f1571, f1572⟩ g_rl E1567) rfl (W := 0) (g := (mkF m 130 #[vI ia, vI iu, vI ic, vI iz, vI ca, vI cb, vI cu, vI cv, vI 1, vI cz_, vI f1, vI f2, vR sid, vR rl, vU, vU, vU, vU, vU] [(.ref u), (.ref rl)])) rfl (argsL := [(.ref u)]) (rest := []) pd__Ljava_lang_Object__Z (hb hby at_130)
      obtain ⟨ed, ke1574, rfl, N1574q, K1574, sze1574, ⟨Ex1574, Fm1574, Fe1574, Fs1574⟩, ⟨Ee1574, Ve1574, Ov1574⟩⟩ := hQ1574
      have N1574 := Fr.app N1567 N1574q
      have KK1574 : Keep T1557.heap T1574.heap [rl] := KK1567.trans K1574 (allS (Or.inl (by simp)) all0)
      have sz_ed : T1557.heap.size ≤ ed := Nat.le_trans KK1567.1 sze1574
      have g_ed : n0 ≤ ed := Nat.le_trans z1573 sze1574
      have S1575 : Ga T1574 (mkF m 151 #[vI ia, vI iu, vI ic, vI iz, vI ca, vI cb, vI cu, vI cv, vI 1, vI cz_, vI f1, vI f2, vR sid, vR rl, vU, vU, vU, vU, vU] []) := nx S1564 fun t kt => st1567 t (st1574 t (by
        show Sp p e below T1574 (mkF m 133 #[vI ia, vI iu, vI ic, vI iz, vI ca, vI cb, vI cu, vI cv, vI 1, vI cz_, vI f1, vI f2, vR sid, vR rl, vU, vU, vU, vU, vU] [(.int 1)]) _
        refine XS.pop X1574.here hx rfl (hb hby at_133) rfl rfl ?_
        refine XS.iload X1574.here hx rfl (hb hby at_134) rfl ?_
        refine XS.iconst X1574.here hx rfl (hb hby at_136) ?_
        refine XS.icmpYes X1574.here hx rfl (pc0 := 137) (pc' := 151) rfl (hb hby at_137) rfl (tlt (show (1 : Int32) < (2 : Int32) from (by decide))).1 (by decide) (by decide) ?_
        show Sp p e below T1574 (mkF m 151 #[vI ia, vI iu, vI ic, vI iz, vI ca, vI cb, vI cu, vI cv, vI 1, vI cz_, vI f1, vI f2, vR sid, vR rl, vU, vU, vU, vU, vU] []) _
        exact kt))
      have f1603 := (E1567.keep K1574)
      have ne1604 : rl ≠ u := Nat.ne_of_lt (Nat.lt_of_lt_of_le (Ex1557.lt) szu1567)
      have f1605 := (F1567.keep K1574 (ninS (Ne.symm ne1604) nin0))
      have f1606 := (G1567.keep K1574 (ninS (Ne.symm ne1604) nin0))
      have ne1607 : rl ≠ ub := Nat.ne_of_lt (Nat.lt_of_lt_of_le (Ex1557.lt) szub1567)
      have f1608 := (V1567.keep K1574 (ninS (Ne.symm ne1607) nin0))
      exact ⟨T1574, _, [u], X1574.mono (by decide) (by decide), N1574, KK1574, ⟨own_al1 ⟨Ex1574, Fm1574, Fe1574, Fs1574⟩ ⟨Ee1574, Ve1574, Ov1574⟩ f1603, own_e1 ⟨f1603, f1605, f1606, f1608⟩⟩, S1575⟩
    · have q1577 : (Int32.ofNat 2) = (2 : Int32) := rfl
      have S1576 : Ga T1557 (mkF m 117 #[vI ia, vI iu, vI ic, vI iz, vI ca, vI cb, vI cu, vI cv, vI 2, vI cz_, vI f1, vI f2, vR sid, vR rl, vU, vU, vU, vU, vU] []) := by have h := S1558; rw [q1577] at h; exact h
      clear S1558
      have S1578 : Ga T1557 (mkF m 127 #[vI ia, vI iu, vI ic, vI iz, vI ca, vI cb, vI cu, vI cv, vI 2, vI cz_, vI f1, vI f2, vR sid, vR rl, vU, vU, vU, vU, vU] [(.int cu), (.ref rl)]) := nx S1576 fun t kt => by
        refine XS.iload X1557.here hx rfl (hb hby at_117) rfl ?_
        refine XS.iconst X1557.here hx rfl (hb hby at_119) ?_
        refine XS.icmpNo X1557.here hx rfl (hb hby at_120) rfl (flt (show ¬ ((2 : Int32) < (1 : Int32)) from (by decide))).1 ?_
        refine XS.aload X1557.here hx rfl (hb hby at_123) rfl rfl ?_
        show Sp p e below T1557 (mkF m 125 #[vI ia, vI iu, vI ic, vI iz, vI ca, vI cb, vI cu, vI cv, vI 2, vI cz_, vI f1, vI f2, vR sid, vR rl, vU, vU, vU, vU, vU] [(.ref rl)]) _
        refine XS.iload X1557.here hx rfl (hb hby at_125) rfl ?_
        exact kt
      have f1579 := (f1555.keep K1557 (allS (Nat.le_trans hno g_rl) all0))
      have z1580 := (Nat.le_trans z1556 K1557.1)
      obtain ⟨v1581, T1581, L1581, X1581, hQ1581, st1581⟩ := own_cS X1557 hx hZ hw hown hml 55 56 57 3 rfl rfl rfl rfl (rm_vof hw no de em el ey cu T1557.heap n0 z1580 SS hno f1579 hcu) rfl (W := 1) (g := (mkF m 127 #[vI ia, vI iu, vI ic, vI iz, vI ca, vI cb, vI cu, vI cv, vI 2, vI cz_, vI f1, vI f2, vR sid, vR rl, vU, vU, vU, vU, vU] [(.int cu), (.ref rl)])) rfl (argsL := [(.int cu)]) (rest := [(.ref rl)]) pd__C_Ljava_lang_String_ (hb hby at_127)
      obtain ⟨u, ub, kb1581, rfl, N1581q, K1581, szu1581, szub1581, E1581, F1581, G1581, V1581⟩ := hQ1581
      have N1581 := Fr.app N1557 N1581q
      have KK1581 : Keep T1557.heap T1581.heap [rl] := (Keep.refl T1557.heap [rl]).trans K1581 all0
      have sz_u : T1557.heap.size ≤ u := Nat.le_trans (Keep.refl T1557.heap [rl]).1 szu1581
      have sz_ub : T1557.heap.size ≤ ub := Nat.le_trans (Keep.refl T1557.heap [rl]).1 szub1581
      have f1582 := (f1579.keep K1581 all0)
      have f1583 := (Ex1557.keep K1581)
      have f1584 := (Fm1557.keep K1581 nin0)
      have f1585 := (Fe1557.keep K1581 nin0)
      have f1586 := (Fs1557.keep K1581 nin0)
      have z1587 := (Nat.le_trans z1580 K1581.1)
      obtain ⟨v1588, T1588, L1588, X1588, hQ1588, st1588⟩ := own_cV1 X1581 hx hZ hw hown hml 69 70 72 71 73 33 rfl rfl rfl rfl rfl rfl f1583 (rm_add0 hw no de em el ey rl u T1581.heap n0 z1587 SS hno f1582 ⟨f1583, f1584, f1585, f1586⟩ g_rl E1581) rfl (W := 0) (g := (mkF m 130 #[vI ia, vI iu, vI ic, vI iz, vI ca, vI cb, vI cu, vI cv, vI 2, vI cz_, vI f1, vI f2, vR sid, vR rl, vU, vU, vU, vU, vU] [(.ref u), (.ref rl)])) rfl (argsL := [(.ref u)]) (rest := []) pd__Ljava_lang_Object__Z (hb hby at_130)
      obtain ⟨ed, ke1588, rfl, N1588q, K1588, sze1588, ⟨Ex1588, Fm1588, Fe1588, Fs1588⟩, ⟨Ee1588, Ve1588, Ov1588⟩⟩ := hQ1588
      have N1588 := Fr.app N1581 N1588q
      have KK1588 : Keep T1557.heap T1588.heap [rl] := KK1581.trans K1588 (allS (Or.inl (by simp)) all0)
      have sz_ed : T1557.heap.size ≤ ed := Nat.le_trans KK1581.1 sze1588
      have g_ed : n0 ≤ ed := Nat.le_trans z1587 sze1588
      have S1589 : Ga T1588 (mkF m 144 #[vI ia, vI iu, vI ic, vI iz, vI ca, vI cb, vI cu, vI cv, vI 2, vI cz_, vI f1, vI f2, vR sid, vR rl, vU, vU, vU, vU, vU] [(.int cv), (.ref rl)]) := nx S1578 fun t kt => st1581 t (st1588 t (by
        show Sp p e below T1588 (mkF m 133 #[vI ia, vI iu, vI ic, vI iz, vI ca, vI cb, vI cu, vI cv, vI 2, vI cz_, vI f1, vI f2, vR sid, vR rl, vU, vU, vU, vU, vU] [(.int 1)]) _
        refine XS.pop X1588.here hx rfl (hb hby at_133) rfl rfl ?_
        refine XS.iload X1588.here hx rfl (hb hby at_134) rfl ?_
        refine XS.iconst X1588.here hx rfl (hb hby at_136) ?_
        refine XS.icmpNo X1588.here hx rfl (hb hby at_137) rfl (flt (show ¬ ((2 : Int32) < (2 : Int32)) from (by decide))).1 ?_
        show Sp p e below T1588 (mkF m 140 #[vI ia, vI iu, vI ic, vI iz, vI ca, vI cb, vI cu, vI cv, vI 2, vI cz_, vI f1, vI f2, vR sid, vR rl, vU, vU, vU, vU, vU] []) _
        refine XS.aload X1588.here hx rfl (hb hby at_140) rfl rfl ?_
        refine XS.iload X1588.here hx rfl (hb hby at_142) rfl ?_
        exact kt))
      have f1590 := (f1582.keep K1588 (allS (Nat.le_trans hno g_rl) all0))
      have z1591 := (Nat.le_trans z1587 K1588.1)
      obtain ⟨v1592, T1592, L1592, X1592, hQ1592, st1592⟩ := own_cS X1588 hx hZ hw hown hml 55 56 57 3 rfl rfl rfl rfl (rm_vof hw no de em el ey cv T1588.heap n0 z1591 SS hno f1590 hcv) rfl (W := 1) (g := (mkF m 144 #[vI ia, vI iu, vI ic, vI iz, vI ca, vI cb, vI cu, vI cv, vI 2, vI cz_, vI f1, vI f2, vR sid, vR rl, vU, vU, vU, vU, vU] [(.int cv), (.ref rl)])) rfl (argsL := [(.int cv)]) (rest := [(.ref rl)]) pd__C_Ljava_lang_String_ (hb hby at_144)
      obtain ⟨v', vb, kb1592, rfl, N1592q, K1592, szv'1592, szvb1592, E1592, F1592, G1592, V1592⟩ := hQ1592
      have N1592 := Fr.app N1588 N1592q
      have KK1592 : Keep T1557.heap T1592.heap [rl] := KK1588.trans K1592 all0
      have sz_v' : T1557.heap.size ≤ v' := Nat.le_trans KK1588.1 szv'1592
      have sz_vb : T1557.heap.size ≤ vb := Nat.le_trans KK1588.1 szvb1592
      have f1593 := (Ex1588.keep K1592)
      have f1594 := (Fm1588.keep K1592 nin0)
      have f1595 := (Fe1588.keep K1592 nin0)
      have f1596 := (Fs1588.keep K1592 nin0)
      have f1597 := (Ee1588.keep K1592)
      have f1598 := (Ve1588.keep K1592 nin0)
      have z1599 := (Nat.le_trans z1591 K1592.1)
      obtain ⟨v1600, T1600, L1600, X1600, hQ1600, st1600⟩ := own_cV1 X1592 hx hZ hw hown hml 69 70 72 71 73 33 rfl rfl rfl rfl rfl rfl f1593 (rm_add1 hw rl ed ke1588 u v' T1592.heap n0 z1599 ⟨f1593, f1594, f1595, f1596⟩ g_rl g_ed ⟨f1597, f1598, Ov1588⟩ E1592) rfl (W := 0) (g := (mkF m 147 #[vI ia, vI iu, vI ic, vI iz, vI ca, vI cb, vI cu, vI cv, vI 2, vI cz_, vI f1, vI f2, vR sid, vR rl, vU, vU, vU, vU, vU] [(.ref v'), (.ref rl)])) rfl (argsL := [(.ref v')]) (rest := []) pd__Ljava_lang_Object__Z (hb hby at_147)
      obtain ⟨rfl, N1600q, K1600, ⟨Ex1600, Fm1600, Fe1600, Fs1600⟩, ⟨Ee1600, Ve1600, Ov1600⟩⟩ := hQ1600
      have N1600 := Fr.app N1592 N1600q
      have KK1600 : Keep T1557.heap T1600.heap [rl] := KK1592.trans K1600 (allS (Or.inl (by simp)) (allS (Or.inr sz_ed) all0))
      have S1601 : Ga T1600 (mkF m 151 #[vI ia, vI iu, vI ic, vI iz, vI ca, vI cb, vI cu, vI cv, vI 2, vI cz_, vI f1, vI f2, vR sid, vR rl, vU, vU, vU, vU, vU] []) := nx S1589 fun t kt => st1592 t (st1600 t (by
        show Sp p e below T1600 (mkF m 150 #[vI ia, vI iu, vI ic, vI iz, vI ca, vI cb, vI cu, vI cv, vI 2, vI cz_, vI f1, vI f2, vR sid, vR rl, vU, vU, vU, vU, vU] [(.int 1)]) _
        refine XS.pop X1600.here hx rfl (hb hby at_150) rfl rfl ?_
        exact kt))
      have f1609 := (((E1581.keep K1588).keep K1592).keep K1600)
      have f1610 := (E1592.keep K1600)
      have ne1611 : rl ≠ u := Nat.ne_of_lt (Nat.lt_of_lt_of_le (Ex1557.lt) szu1581)
      have ne1612 : u ≠ ed := Nat.ne_of_lt (Nat.lt_of_lt_of_le (E1581.lt) sze1588)
      have f1613 := (((F1581.keep K1588 (ninS (Ne.symm ne1611) nin0)).keep K1592 nin0).keep K1600 (ninS (Ne.symm ne1611) (ninS ne1612 nin0)))
      have f1614 := (((G1581.keep K1588 (ninS (Ne.symm ne1611) nin0)).keep K1592 nin0).keep K1600 (ninS (Ne.symm ne1611) (ninS ne1612 nin0)))
      have ne1615 : rl ≠ ub := Nat.ne_of_lt (Nat.lt_of_lt_of_le (Ex1557.lt) szub1581)
      have ne1616 : ub ≠ ed := Nat.ne_of_lt (Nat.lt_of_lt_of_le (V1581.lt) sze1588)
      have f1617 := (((V1581.keep K1588 (ninS (Ne.symm ne1615) nin0)).keep K1592 nin0).keep K1600 (ninS (Ne.symm ne1615) (ninS ne1616 nin0)))
      have ne1618 : ed ≠ v' := Nat.ne_of_lt (Nat.lt_of_lt_of_le (Ee1588.lt) szv'1592)
      have ne1619 : rl ≠ v' := Nat.ne_of_lt (Nat.lt_of_lt_of_le (Ex1588.lt) szv'1592)
      have f1620 := (F1592.keep K1600 (ninS (Ne.symm ne1619) (ninS (Ne.symm ne1618) nin0)))
      have f1621 := (G1592.keep K1600 (ninS (Ne.symm ne1619) (ninS (Ne.symm ne1618) nin0)))
      have ne1622 : ed ≠ vb := Nat.ne_of_lt (Nat.lt_of_lt_of_le (Ee1588.lt) szvb1592)
      have ne1623 : rl ≠ vb := Nat.ne_of_lt (Nat.lt_of_lt_of_le (Ex1588.lt) szvb1592)
      have f1624 := (V1592.keep K1600 (ninS (Ne.symm ne1623) (ninS (Ne.symm ne1622) nin0)))
      exact ⟨T1600, _, [u, v'], X1600.mono (by decide) (by decide), N1600, KK1600, ⟨own_al2 ⟨Ex1600, Fm1600, Fe1600, Fs1600⟩ ⟨Ee1600, Ve1600, Ov1600⟩ f1609 f1610, own_e2 ⟨f1609, f1613, f1614, f1617⟩ ⟨f1610, f1620, f1621, f1624⟩⟩, S1601⟩
  obtain ⟨T1625, h1625, X1625, e1625, E1625, A1625, D1625, -, st1625⟩ := newO X1602 hx hZ hown (own_h hw 31 rfl) (own_h hw 32 rfl) (own_h hw 33 rfl) rfl (g := (mkF m 151 #[vI ia, vI iu, vI ic, vI iz, vI ca, vI cb, vI cu, vI cv, vI (Int32.ofNat jn), vI cz_, vI f1, vI f2, vR sid, vR rl, vU, vU, vU, vU, vU] [])) rfl (hb hby at_151) (by decide) (by decide)
  obtain ⟨pl, g1625⟩ : ∃ z, z = T1602.heap.size := ⟨_, rfl⟩
  rw [← g1625] at A1625 D1625 st1625
  have f1626 := (((E1546.ext E1548).keep K1557).keep K1602)
  have ne1627 : sid ≠ pl := by rw [g1625]; exact Nat.ne_of_lt f1626.lt
  have f1628 := (Ex1557.keep K1602)
  have ne1629 : rl ≠ pl := by rw [g1625]; exact Nat.ne_of_lt f1628.lt
  have f1630 := (((f1550.ext E1548).keep K1557 (ninS ne1551 nin0)).keep K1602 (ninS ne1551 nin0))
  have ne1631 : ar2 ≠ pl := by rw [g1625]; exact Nat.ne_of_lt f1630.lt
  have f1632 := (((V1546'.ext E1548).keep K1557 (ninS ne1552 nin0)).keep K1602 (ninS ne1552 nin0))
  have ne1633 : tid ≠ pl := by rw [g1625]; exact Nat.ne_of_lt f1632.lt
  have z1634 := (Nat.le_trans (Nat.le_trans z1556 K1557.1) K1602.1)
  have g_pl : n0 ≤ pl := Nat.le_trans z1634 (Nat.le_of_eq g1625.symm)
  have sz_pl : T1602.heap.size ≤ pl := Nat.le_trans (Keep.refl T1602.heap []).1 (Nat.le_of_eq g1625.symm)
  have K1625 : Keep T1602.heap h1625 [] := (Keep.refl T1602.heap []).ext E1625
  have F_modCount_pl : Fld Z h1625 pl "java/util/AbstractList" "modCount" "I" (.int 0) := D1625 (Or.inl (own_h hw 51 rfl)) (ty := .int) (by decide)
  have F_elementData_pl : Fld Z h1625 pl "java/util/ArrayList" "elementData" "[Ljava/lang/Object;" .null := D1625 (Or.inl (own_h hw 54 rfl)) (ty := (.array (.object "java/lang/Object"))) (by decide)
  have F_size_pl : Fld Z h1625 pl "java/util/ArrayList" "size" "I" (.int 0) := D1625 (Or.inl (own_h hw 77 rfl)) (ty := .int) (by decide)
  have S1635 : Ga T1625 (mkF m 155 #[vI ia, vI iu, vI ic, vI iz, vI ca, vI cb, vI cu, vI cv, vI (Int32.ofNat jn), vI cz_, vI f1, vI f2, vR sid, vR rl, vU, vU, vU, vU, vU] [(.ref pl), (.ref pl)]) := nx S1602 fun t kt => st1625 t (by
    show Sp p e below T1625 (mkF m 154 #[vI ia, vI iu, vI ic, vI iz, vI ca, vI cb, vI cu, vI cv, vI (Int32.ofNat jn), vI cz_, vI f1, vI f2, vR sid, vR rl, vU, vU, vU, vU, vU] [(.ref pl)]) _
    refine XS.dup X1625.here hx rfl (hb hby at_154) rfl rfl ?_
    exact kt)
  have f1636 := (((f1555.keep K1557 (allS (Nat.le_trans hno g_rl) all0)).keep K1602 (allS (Nat.le_trans hno g_rl) all0)).ext E1625)
  have z1637 := (Nat.le_trans z1634 E1625.1)
  obtain ⟨v1638, T1638, L1638, X1638, hQ1638, st1638⟩ := own_cI X1625 hx hZ hw hown hml 34 35 36 33 rfl rfl rfl rfl rfl (a := pl) (rm_ali hw no de em el ey pl h1625 n0 z1637 SS hno f1636 ⟨A1625, F_modCount_pl, F_elementData_pl, F_size_pl⟩ g_pl) e1625 (W := 1) (g := (mkF m 155 #[vI ia, vI iu, vI ic, vI iz, vI ca, vI cb, vI cu, vI cv, vI (Int32.ofNat jn), vI cz_, vI f1, vI f2, vR sid, vR rl, vU, vU, vU, vU, vU] [(.ref pl), (.ref pl)])) rfl (argsL := []) (rest := [(.ref pl)]) pd___V (hb hby at_155)
  obtain ⟨rfl, N1638q, K1638, ⟨Ex1638, Fm1638, Fe1638, Fs1638⟩⟩ := hQ1638
  have N1638 := Fr.app N1602 N1638q
  have KK1638 : Keep T1602.heap T1638.heap [] := K1625.trans K1638 (allS (Or.inr sz_pl) all0)
  have S1639 : Ga T1638 (mkF m 162 #[vI ia, vI iu, vI ic, vI iz, vI ca, vI cb, vI cu, vI cv, vI (Int32.ofNat jn), vI cz_, vI f1, vI f2, vR sid, vR rl, vR pl, vU, vU, vU, vU] [(.int f2)]) := nx S1635 fun t kt => st1638 t (by
    show Sp p e below T1638 (mkF m 158 #[vI ia, vI iu, vI ic, vI iz, vI ca, vI cb, vI cu, vI cv, vI (Int32.ofNat jn), vI cz_, vI f1, vI f2, vR sid, vR rl, vU, vU, vU, vU, vU] [(.ref pl)]) _
    refine XS.astore X1638.here hx rfl (hb hby at_158) rfl rfl (l' := #[vI ia, vI iu, vI ic, vI iz, vI ca, vI cb, vI cu, vI cv, vI (Int32.ofNat jn), vI cz_, vI f1, vI f2, vR sid, vR rl, vR pl, vU, vU, vU, vU]) rfl ?_
    refine XS.iload X1638.here hx rfl (hb hby at_160) rfl ?_
    exact kt)
  obtain ⟨T1653, L1653, L2, X1653, N1653, K1653, HP1653, S1653⟩ : ∃ (T' : State) (locs' : List Loc) (L2 : List Addr), Stand p l e room_1 (s.setVm s.vm) m #[(.int ia), (.int iu), (.int ic), (.int iz)] below meth c T' locs' 13 147 ∧ Fr n0 locs' ∧ Keep T1638.heap T'.heap [pl] ∧ own_ALg Z T'.heap de pl L2 ∧ Ga T' (mkF m 176 #[vI ia, vI iu, vI ic, vI iz, vI ca, vI cb, vI cu, vI cv, vI (Int32.ofNat jn), vI cz_, vI f1, vI f2, vR sid, vR rl, vR pl, vU, vU, vU, vU] []) := by
    by_cases hf2 : f2 = (0 : Int32)
    · have S1640 : Ga T1638 (mkF m 176 #[vI ia, vI iu, vI ic, vI iz, vI ca, vI cb, vI cu, vI cv, vI (Int32.ofNat jn), vI cz_, vI f1, vI f2, vR sid, vR rl, vR pl, vU, vU, vU, vU] []) := nx S1639 fun t kt => by
        refine XS.ifYes X1638.here hx rfl (pc0 := 162) (pc' := 176) rfl (hb hby at_162) rfl ((if0 _ _).trans (teq (show f2 = (0 : Int32) from hf2)).1) (by decide) (by decide) ?_
        exact kt
      exact ⟨T1638, _, [], X1638.mono (by decide) (by decide), N1638, (Keep.refl T1638.heap [pl]), (own_al0 ⟨Ex1638, Fm1638, Fe1638, Fs1638⟩), S1640⟩
    · have S1641 : Ga T1638 (mkF m 169 #[vI ia, vI iu, vI ic, vI iz, vI ca, vI cb, vI cu, vI cv, vI (Int32.ofNat jn), vI cz_, vI f1, vI f2, vR sid, vR rl, vR pl, vU, vU, vU, vU] [(.int cz_), (.ref pl)]) := nx S1639 fun t kt => by
        refine XS.ifNo X1638.here hx rfl (hb hby at_162) rfl ((if0 _ _).trans (feq (show ¬ (f2 = (0 : Int32)) from hf2)).1) ?_
        refine XS.aload X1638.here hx rfl (hb hby at_165) rfl rfl ?_
        refine XS.iload X1638.here hx rfl (hb hby at_167) rfl ?_
        exact kt
      have f1642 := (f1636.keep K1638 (allS (Nat.le_trans hno g_pl) all0))
      have z1643 := (Nat.le_trans z1637 K1638.1)
      obtain ⟨v1644, T1644, L1644, X1644, hQ1644, st1644⟩ := own_cS X1638 hx hZ hw hown hml 55 56 57 3 rfl rfl rfl rfl (rm_vof hw no de em el ey cz_ T1638.heap n0 z1643 SS hno f1642 hcz_) rfl (W := 1) (g := (mkF m 169 #[vI ia, vI iu, vI ic, vI iz, vI ca, vI cb, vI cu, vI cv, vI (Int32.ofNat jn), vI cz_, vI f1, vI f2, vR sid, vR rl, vR pl, vU, vU, vU, vU] [(.int cz_), (.ref pl)])) rfl (argsL := [(.int cz_)]) (rest := [(.ref pl)]) pd__C_Ljava_lang_String_ (hb hby at_169)
      obtain ⟨s1, s1b, kb1644, rfl, N1644q, K1644, szs11644, szs1b1644, E1644, F1644, G1644, V1644⟩ := hQ1644
      have N1644 := Fr.app N1638 N1644q
      have KK1644 : Keep T1638.heap T1644.heap [pl] := (Keep.refl T1638.heap [pl]).trans K1644 all0
      have sz_s1 : T1638.heap.size ≤ s1 := Nat.le_trans (Keep.refl T1638.heap [pl]).1 szs11644
      have sz_s1b : T1638.heap.size ≤ s1b := Nat.le_trans (Keep.refl T1638.heap [pl]).1 szs1b1644
      have f1645 := (f1642.keep K1644 all0)
      have f1646 := (Ex1638.keep K1644)
      have f1647 := (Fm1638.keep K1644 nin0)
      have f1648 := (Fe1638.keep K1644 nin0)
      have f1649 := (Fs1638.keep K1644 nin0)
      have z1650 := (Nat.le_trans z1643 K1644.1)
      obtain ⟨v1651, T1651, L1651, X1651, hQ1651, st1651⟩ := own_cV1 X1644 hx hZ hw hown hml 69 70 72 71 73 33 rfl rfl rfl rfl rfl rfl f1646 (rm_add0 hw no de em el ey pl s1 T1644.heap n0 z1650 SS hno f1645 ⟨f1646, f1647, f1648, f1649⟩ g_pl E1644) rfl (W := 0) (g := (mkF m 172 #[vI ia, vI iu, vI ic, vI iz, vI ca, vI cb, vI cu, vI cv, vI (Int32.ofNat jn), vI cz_, vI f1, vI f2, vR sid, vR rl, vR pl, vU, vU, vU, vU] [(.ref s1), (.ref pl)])) rfl (argsL := [(.ref s1)]) (rest := []) pd__Ljava_lang_Object__Z (hb hby at_172)
      obtain ⟨ed2, ke1651, rfl, N1651q, K1651, sze1651, ⟨Ex1651, Fm1651, Fe1651, Fs1651⟩, ⟨Ee1651, Ve1651, Ov1651⟩⟩ := hQ1651
      have N1651 := Fr.app N1644 N1651q
      have KK1651 : Keep T1638.heap T1651.heap [pl] := KK1644.trans K1651 (allS (Or.inl (by simp)) all0)
      have sz_ed2 : T1638.heap.size ≤ ed2 := Nat.le_trans KK1644.1 sze1651
      have g_ed2 : n0 ≤ ed2 := Nat.le_trans z1650 sze1651
      have S1652 : Ga T1651 (mkF m 176 #[vI ia, vI iu, vI ic, vI iz, vI ca, vI cb, vI cu, vI cv, vI (Int32.ofNat jn), vI cz_, vI f1, vI f2, vR sid, vR rl, vR pl, vU, vU, vU, vU] []) := nx S1641 fun t kt => st1644 t (st1651 t (by
        show Sp p e below T1651 (mkF m 175 #[vI ia, vI iu, vI ic, vI iz, vI ca, vI cb, vI cu, vI cv, vI (Int32.ofNat jn), vI cz_, vI f1, vI f2, vR sid, vR rl, vR pl, vU, vU, vU, vU] [(.int 1)]) _
        refine XS.pop X1651.here hx rfl (hb hby at_175) rfl rfl ?_
        exact kt))
      have f1654 := (E1644.keep K1651)
      exact ⟨T1651, _, [s1], X1651.mono (by decide) (by decide), N1651, KK1651, (own_al1 ⟨Ex1651, Fm1651, Fe1651, Fs1651⟩ ⟨Ee1651, Ve1651, Ov1651⟩ f1654), S1652⟩
  have KK1653 : Keep T1602.heap T1653.heap [] := KK1638.trans K1653 (allS (Or.inr sz_pl) all0)
  have S1655 : Ga T1653 (mkF m 178 #[vI ia, vI iu, vI ic, vI iz, vI ca, vI cb, vI cu, vI cv, vI (Int32.ofNat jn), vI cz_, vI f1, vI f2, vR sid, vR rl, vR pl, vU, vU, vU, vU] [(.int f1)]) := nx S1653 fun t kt => by
    refine XS.iload X1653.here hx rfl (hb hby at_176) rfl ?_
    exact kt
  obtain ⟨T1728, L1728, sl, ex, kx, cl, r1, X1728, N1728, K1728, Vx1728, Ec_1728, Fi1728, Fr1728, HI1728, S1728⟩ : ∃ (T' : State) (locs' : List Loc) (sl : Slot) (ex : Addr) (kx : ClassId) (cl : Addr) (r1 : Addr), Stand p l e room_1 (s.setVm s.vm) m #[(.int ia), (.int iu), (.int ic), (.int iz)] below meth c T' locs' 23 204 ∧ Fr n0 locs' ∧ Keep T1653.heap T'.heap [] ∧ Arv Z T'.heap ex kx .char (own_N jn) ((own_px ca cb ++ own_tl cu cv jn).map Value.int) (.int 0) ∧ Exa Z T'.heap cl "com/example/passlane/passlane/oidc/Client" ∧ Fld Z T'.heap cl "com/example/passlane/passlane/oidc/Client" "id" "Ljava/lang/String;" (.ref sid) ∧ Fld Z T'.heap cl "com/example/passlane/passlane/oidc/Client" "redirectUris" "Ljava/util/List;" (.ref r1) ∧ own_ILg Z T'.heap em ey r1 L1 ∧ Ga T' (mkF m 229 #[vI ia, vI iu, vI ic, vI iz, vI ca, vI cb, vI cu, vI cv, vI (Int32.ofNat jn), vI cz_, vI f1, vI f2, vR sid, vR rl, vR pl, sl, vR ex, vR cl, vU] []) := by
    by_cases hf1 : f1 = (0 : Int32)
    · have S1656 : Ga T1653 (mkF m 202 #[vI ia, vI iu, vI ic, vI iz, vI ca, vI cb, vI cu, vI cv, vI (Int32.ofNat jn), vI cz_, vI f1, vI f2, vR sid, vR rl, vR pl, .val .null, vU, vU, vU] [(.int cv), (.int cu), (.int (Int32.ofNat jn)), (.int cb), (.int ca)]) := nx S1655 fun t kt => by
        refine XS.ifYes X1653.here hx rfl (pc0 := 178) (pc' := 189) rfl (hb hby at_178) rfl ((if0 _ _).trans (teq (show f1 = (0 : Int32) from hf1)).1) (by decide) (by decide) ?_
        refine XS.aconstNull X1653.here hx rfl (hb hby at_189) ?_
        refine XS.astore X1653.here hx rfl (hb hby at_190) rfl rfl (l' := #[vI ia, vI iu, vI ic, vI iz, vI ca, vI cb, vI cu, vI cv, vI (Int32.ofNat jn), vI cz_, vI f1, vI f2, vR sid, vR rl, vR pl, .val .null, vU, vU, vU]) rfl ?_
        refine XS.iload X1653.here hx rfl (hb hby at_192) rfl ?_
        show Sp p e below T1653 (mkF m 194 #[vI ia, vI iu, vI ic, vI iz, vI ca, vI cb, vI cu, vI cv, vI (Int32.ofNat jn), vI cz_, vI f1, vI f2, vR sid, vR rl, vR pl, .val .null, vU, vU, vU] [(.int ca)]) _
        refine XS.iload X1653.here hx rfl (hb hby at_194) rfl ?_
        refine XS.iload X1653.here hx rfl (hb hby at_196) rfl ?_
        refine XS.iload X1653.here hx rfl (hb hby at_198) rfl ?_
        refine XS.iload X1653.here hx rfl (hb hby at_200) rfl ?_
        show Sp p e below T1653 (mkF m 202 #[vI ia, vI iu, vI ic, vI iz, vI ca, vI cb, vI cu, vI cv, vI (Int32.ofNat jn), vI cz_, vI f1, vI f2, vR sid, vR rl, vR pl, .val .null, vU, vU, vU] [(.int cv), (.int cu), (.int (Int32.ofNat jn)), (.int cb), (.int ca)]) _
        exact kt
      have z1657 := (Nat.le_trans (Nat.le_trans z1637 K1638.1) K1653.1)
      obtain ⟨v1658, T1658, L1658, X1658, hQ1658, st1658⟩ := own_cS X1653 hx hZ hw hown hml 100 101 103 102 rfl rfl rfl rfl (rm_exp hw ca cb jn cu cv T1653.heap n0 z1657 hca hcb hcu hcv hj3) rfl (W := 0) (g := (mkF m 202 #[vI ia, vI iu, vI ic, vI iz, vI ca, vI cb, vI cu, vI cv, vI (Int32.ofNat jn), vI cz_, vI f1, vI f2, vR sid, vR rl, vR pl, .val .null, vU, vU, vU] [(.int cv), (.int cu), (.int (Int32.ofNat jn)), (.int cb), (.int ca)])) rfl (argsL := [(.int ca), (.int cb), (.int (Int32.ofNat jn)), (.int cu), (.int cv)]) (rest := []) pd__CCICC__C (hb hby at_202)
      obtain ⟨ex, kx1658, rfl, N1658q, K1658, szx1658, V1658⟩ := hQ1658
      have N1658 := Fr.app N1653 N1658q
      have KK1658 : Keep T1653.heap T1658.heap [] := (Keep.refl T1653.heap []).trans K1658 all0
      have sz_ex : T1653.heap.size ≤ ex := Nat.le_trans (Keep.refl T1653.heap []).1 szx1658
      have S1659 : Ga T1658 (mkF m 207 #[vI ia, vI iu, vI ic, vI iz, vI ca, vI cb, vI cu, vI cv, vI (Int32.ofNat jn), vI cz_, vI f1, vI f2, vR sid, vR rl, vR pl, .val .null, vR ex, vU, vU] []) := nx S1656 fun t kt => st1658 t (by
        show Sp p e below T1658 (mkF m 205 #[vI ia, vI iu, vI ic, vI iz, vI ca, vI cb, vI cu, vI cv, vI (Int32.ofNat jn), vI cz_, vI f1, vI f2, vR sid, vR rl, vR pl, .val .null, vU, vU, vU] [(.ref ex)]) _
        refine XS.astore X1658.here hx rfl (hb hby at_205) rfl rfl (l' := #[vI ia, vI iu, vI ic, vI iz, vI ca, vI cb, vI cu, vI cv, vI (Int32.ofNat jn), vI cz_, vI f1, vI f2, vR sid, vR rl, vR pl, .val .null, vR ex, vU, vU]) rfl ?_
        exact kt)
      obtain ⟨T1660, h1660, X1660, e1660, E1660, A1660, D1660, -, st1660⟩ := newO X1658 hx hZ hown (own_h hw 104 rfl) (own_h hw 105 rfl) (own_h hw 106 rfl) rfl (g := (mkF m 207 #[vI ia, vI iu, vI ic, vI iz, vI ca, vI cb, vI cu, vI cv, vI (Int32.ofNat jn), vI cz_, vI f1, vI f2, vR sid, vR rl, vR pl, .val .null, vR ex, vU, vU] [])) rfl (hb hby at_207) (by decide) (by decide)
      obtain ⟨cl, g1660⟩ : ∃ z, z = T1658.heap.size := ⟨_, rfl⟩
      rw [← g1660] at A1660 D1660 st1660
      have f1661 := ((((f1626.ext E1625).keep K1638).keep K1653).keep K1658)
      have ne1662 : sid ≠ cl := by rw [g1660]; exact Nat.ne_of_lt f1661.lt
      have f1663 := ((((f1628.ext E1625).keep K1638).keep K1653).keep K1658)
      have ne1664 : rl ≠ cl := by rw [g1660]; exact Nat.ne_of_lt f1663.lt
      have f1665 := ((Ex1638.keep K1653).keep K1658)
      have ne1666 : pl ≠ cl := by rw [g1660]; exact Nat.ne_of_lt f1665.lt
      have f1667 := ((((f1630.ext E1625).keep K1638 (ninS ne1631 nin0)).keep K1653 (ninS ne1631 nin0)).keep K1658 nin0)
      have ne1668 : ar2 ≠ cl := by rw [g1660]; exact Nat.ne_of_lt f1667.lt
      have f1669 := ((((f1632.ext E1625).keep K1638 (ninS ne1633 nin0)).keep K1653 (ninS ne1633 nin0)).keep K1658 nin0)
      have ne1670 : tid ≠ cl := by rw [g1660]; exact Nat.ne_of_lt f1669.lt
      have ne1671 : ex ≠ cl := by rw [g1660]; exact Nat.ne_of_lt V1658.lt
      have z1672 := (Nat.le_trans z1657 K1658.1)
      have g_cl : n0 ≤ cl := Nat.le_trans z1672 (Nat.le_of_eq g1660.symm)
      have sz_cl : T1653.heap.size ≤ cl := Nat.le_trans KK1658.1 (Nat.le_of_eq g1660.symm)
      have K1660 : Keep T1653.heap h1660 [] := KK1658.ext E1660
      have F_id_cl : Fld Z h1660 cl "com/example/passlane/passlane/oidc/Client" "id" "Ljava/lang/String;" .null := D1660 (Or.inr (own_h hw 206 rfl)) (ty := (.object "java/lang/String")) (by decide)
      have F_secret_cl : Fld Z h1660 cl "com/example/passlane/passlane/oidc/Client" "secret" "Ljava/lang/String;" .null := D1660 (Or.inr (own_h hw 208 rfl)) (ty := (.object "java/lang/String")) (by decide)
      have F_redirectUris_cl : Fld Z h1660 cl "com/example/passlane/passlane/oidc/Client" "redirectUris" "Ljava/util/List;" .null := D1660 (Or.inr (own_h hw 210 rfl)) (ty := (.object "java/util/List")) (by decide)
      have F_postLogoutRedirectUris_cl : Fld Z h1660 cl "com/example/passlane/passlane/oidc/Client" "postLogoutRedirectUris" "Ljava/util/List;" .null := D1660 (Or.inr (own_h hw 212 rfl)) (ty := (.object "java/util/List")) (by decide)
      have F_backChannelLogoutUri_cl : Fld Z h1660 cl "com/example/passlane/passlane/oidc/Client" "backChannelLogoutUri" "Ljava/lang/String;" .null := D1660 (Or.inr (own_h hw 214 rfl)) (ty := (.object "java/lang/String")) (by decide)
      have S1673 : Ga T1660 (mkF m 215 #[vI ia, vI iu, vI ic, vI iz, vI ca, vI cb, vI cu, vI cv, vI (Int32.ofNat jn), vI cz_, vI f1, vI f2, vR sid, vR rl, vR pl, .val .null, vR ex, vU, vU] [(.int cz_), (.ref sid), (.ref cl), (.ref cl)]) := nx S1659 fun t kt => st1660 t (by
        show Sp p e below T1660 (mkF m 210 #[vI ia, vI iu, vI ic, vI iz, vI ca, vI cb, vI cu, vI cv, vI (Int32.ofNat jn), vI cz_, vI f1, vI f2, vR sid, vR rl, vR pl, .val .null, vR ex, vU, vU] [(.ref cl)]) _
        refine XS.dup X1660.here hx rfl (hb hby at_210) rfl rfl ?_
        refine XS.aload X1660.here hx rfl (hb hby at_211) rfl rfl ?_
        refine XS.iload X1660.here hx rfl (hb hby at_213) rfl ?_
        exact kt)
      have f1674 := ((((f1636.keep K1638 (allS (Nat.le_trans hno g_pl) all0)).keep K1653 (allS (Nat.le_trans hno g_pl) all0)).keep K1658 all0).ext E1660)
      have z1675 := (Nat.le_trans z1672 E1660.1)
      obtain ⟨v1676, T1676, L1676, X1676, hQ1676, st1676⟩ := own_cS X1660 hx hZ hw hown hml 55 56 57 3 rfl rfl rfl rfl (rm_vof hw no de em el ey cz_ h1660 n0 z1675 SS hno f1674 hcz_) e1660 (W := 3) (g := (mkF m 215 #[vI ia, vI iu, vI ic, vI iz, vI ca, vI cb, vI cu, vI cv, vI (Int32.ofNat jn), vI cz_, vI f1, vI f2, vR sid, vR rl, vR pl, .val .null, vR ex, vU, vU] [(.int cz_), (.ref sid), (.ref cl), (.ref cl)])) rfl (argsL := [(.int cz_)]) (rest := [(.ref sid), (.ref cl), (.ref cl)]) pd__C_Ljava_lang_String_ (hb hby at_215)
      obtain ⟨sx, sxb, kb1676, rfl, N1676q, K1676, szsx1676, szsxb1676, E1676, F1676, G1676, V1676⟩ := hQ1676
      have N1676 := Fr.app N1658 N1676q
      have KK1676 : Keep T1653.heap T1676.heap [] := K1660.trans K1676 all0
      have sz_sx : T1653.heap.size ≤ sx := Nat.le_trans K1660.1 szsx1676
      have sz_sxb : T1653.heap.size ≤ sxb := Nat.le_trans K1660.1 szsxb1676
      have S1677 : Ga T1676 (mkF m 224 #[vI ia, vI iu, vI ic, vI iz, vI ca, vI cb, vI cu, vI cv, vI (Int32.ofNat jn), vI cz_, vI f1, vI f2, vR sid, vR rl, vR pl, .val .null, vR ex, vU, vU] [.null, (.ref pl), (.ref rl), (.ref sx), (.ref sid), (.ref cl), (.ref cl)]) := nx S1673 fun t kt => st1676 t (by
        show Sp p e below T1676 (mkF m 218 #[vI ia, vI iu, vI ic, vI iz, vI ca, vI cb, vI cu, vI cv, vI (Int32.ofNat jn), vI cz_, vI f1, vI f2, vR sid, vR rl, vR pl, .val .null, vR ex, vU, vU] [(.ref sx), (.ref sid), (.ref cl), (.ref cl)]) _
        refine XS.aload X1676.here hx rfl (hb hby at_218) rfl rfl ?_
        refine XS.aload X1676.here hx rfl (hb hby at_220) rfl rfl ?_
        refine XS.aload X1676.here hx rfl (hb hby at_222) rfl rfl ?_
        exact kt)
      have f1678 := (f1674.keep K1676 all0)
      have f1679 := (A1660.keep K1676)
      have f1680 := (F_id_cl.keep K1676 nin0)
      have f1681 := (F_secret_cl.keep K1676 nin0)
      have f1682 := (F_redirectUris_cl.keep K1676 nin0)
      have f1683 := (F_postLogoutRedirectUris_cl.keep K1676 nin0)
      have f1684 := (F_backChannelLogoutUri_cl.keep K1676 nin0)
      have z1685 := (Nat.le_trans z1675 K1676.1)
      obtain ⟨v1686, T1686, L1686, X1686, hQ1686, st1686⟩ := own_cI X1676 hx hZ hw hown hml 107 108 109 106 rfl rfl rfl rfl rfl (a := cl) (rm_cin0 hw no de em el ey cl sid sx rl pl L1 L2 mir T1676.heap n0 z1685 SS hno f1678 f1679 f1680 f1681 f1682 f1683 f1684 g_cl (own_ALg.keep (KK1653.trans KK1676 all0) HR) (own_ALg.keep KK1676 HP1653) M) rfl (W := 1) (g := (mkF m 224 #[vI ia, vI iu, vI ic, vI iz, vI ca, vI cb, vI cu, vI cv, vI (Int32.ofNat jn), vI cz_, vI f1, vI f2, vR sid, vR rl, vR pl, .val .null, vR ex, vU, vU] [.null, (.ref pl), (.ref rl), (.ref sx), (.ref sid), (.ref cl), (.ref cl)])) rfl (argsL := [(.ref sid), (.ref sx), (.ref rl), (.ref pl), .null]) (rest := [(.ref cl)]) pd__Ljava_lang_String_Ljava_lang_String_Ljava_util_List_Ljava_util_List_Ljava_lang_String__V (hb hby at_224)
      obtain ⟨r1, rfl, N1686q, K1686, Fi1686, Fr1686, HI1686⟩ := hQ1686
      have N1686 := Fr.app N1676 N1686q
      have KK1686 : Keep T1653.heap T1686.heap [] := KK1676.trans K1686 (allS (Or.inr sz_cl) all0)
      have S1687 : Ga T1686 (mkF m 229 #[vI ia, vI iu, vI ic, vI iz, vI ca, vI cb, vI cu, vI cv, vI (Int32.ofNat jn), vI cz_, vI f1, vI f2, vR sid, vR rl, vR pl, .val .null, vR ex, vR cl, vU] []) := nx S1677 fun t kt => st1686 t (by
        show Sp p e below T1686 (mkF m 227 #[vI ia, vI iu, vI ic, vI iz, vI ca, vI cb, vI cu, vI cv, vI (Int32.ofNat jn), vI cz_, vI f1, vI f2, vR sid, vR rl, vR pl, .val .null, vR ex, vU, vU] [(.ref cl)]) _
        refine XS.astore X1686.here hx rfl (hb hby at_227) rfl rfl (l' := #[vI ia, vI iu, vI ic, vI iz, vI ca, vI cb, vI cu, vI cv, vI (Int32.ofNat jn), vI cz_, vI f1, vI f2, vR sid, vR rl, vR pl, .val .null, vR ex, vR cl, vU]) rfl ?_
        exact kt)
      have f1729 := (((V1658.ext E1660).keep K1676 nin0).keep K1686 (ninS ne1671 nin0))
      have f1730 := (f1679.keep K1686)
      exact ⟨T1686, _, (.val .null), ex, kx1658, cl, r1, X1686.mono (by decide) (by decide), N1686, KK1686, f1729, f1730, Fi1686, Fr1686, HI1686, S1687⟩
    · have S1688 : Ga T1653 (mkF m 183 #[vI ia, vI iu, vI ic, vI iz, vI ca, vI cb, vI cu, vI cv, vI (Int32.ofNat jn), vI cz_, vI f1, vI f2, vR sid, vR rl, vR pl, vU, vU, vU, vU] [(.int cz_)]) := nx S1655 fun t kt => by
        refine XS.ifNo X1653.here hx rfl (hb hby at_178) rfl ((if0 _ _).trans (feq (show ¬ (f1 = (0 : Int32)) from hf1)).1) ?_
        refine XS.iload X1653.here hx rfl (hb hby at_181) rfl ?_
        exact kt
      have f1689 := ((f1636.keep K1638 (allS (Nat.le_trans hno g_pl) all0)).keep K1653 (allS (Nat.le_trans hno g_pl) all0))
      have z1690 := (Nat.le_trans (Nat.le_trans z1637 K1638.1) K1653.1)
      obtain ⟨v1691, T1691, L1691, X1691, hQ1691, st1691⟩ := own_cS X1653 hx hZ hw hown hml 55 56 57 3 rfl rfl rfl rfl (rm_vof hw no de em el ey cz_ T1653.heap n0 z1690 SS hno f1689 hcz_) rfl (W := 0) (g := (mkF m 183 #[vI ia, vI iu, vI ic, vI iz, vI ca, vI cb, vI cu, vI cv, vI (Int32.ofNat jn), vI cz_, vI f1, vI f2, vR sid, vR rl, vR pl, vU, vU, vU, vU] [(.int cz_)])) rfl (argsL := [(.int cz_)]) (rest := []) pd__C_Ljava_lang_String_ (hb hby at_183)
      obtain ⟨bc, bcb, kb1691, rfl, N1691q, K1691, szbc1691, szbcb1691, E1691, F1691, G1691, V1691⟩ := hQ1691
      have N1691 := Fr.app N1653 N1691q
      have KK1691 : Keep T1653.heap T1691.heap [] := (Keep.refl T1653.heap []).trans K1691 all0
      have sz_bc : T1653.heap.size ≤ bc := Nat.le_trans (Keep.refl T1653.heap []).1 szbc1691
      have sz_bcb : T1653.heap.size ≤ bcb := Nat.le_trans (Keep.refl T1653.heap []).1 szbcb1691
      have S1692 : Ga T1691 (mkF m 202 #[vI ia, vI iu, vI ic, vI iz, vI ca, vI cb, vI cu, vI cv, vI (Int32.ofNat jn), vI cz_, vI f1, vI f2, vR sid, vR rl, vR pl, vR bc, vU, vU, vU] [(.int cv), (.int cu), (.int (Int32.ofNat jn)), (.int cb), (.int ca)]) := nx S1688 fun t kt => st1691 t (by
        show Sp p e below T1691 (mkF m 186 #[vI ia, vI iu, vI ic, vI iz, vI ca, vI cb, vI cu, vI cv, vI (Int32.ofNat jn), vI cz_, vI f1, vI f2, vR sid, vR rl, vR pl, vU, vU, vU, vU] [(.ref bc)]) _
        refine XS.goto X1691.here hx rfl (pc0 := 186) (pc' := 190) rfl (hb hby at_186) (by decide) (by decide) ?_
        refine XS.astore X1691.here hx rfl (hb hby at_190) rfl rfl (l' := #[vI ia, vI iu, vI ic, vI iz, vI ca, vI cb, vI cu, vI cv, vI (Int32.ofNat jn), vI cz_, vI f1, vI f2, vR sid, vR rl, vR pl, vR bc, vU, vU, vU]) rfl ?_
        refine XS.iload X1691.here hx rfl (hb hby at_192) rfl ?_
        refine XS.iload X1691.here hx rfl (hb hby at_194) rfl ?_
        show Sp p e below T1691 (mkF m 196 #[vI ia, vI iu, vI ic, vI iz, vI ca, vI cb, vI cu, vI cv, vI (Int32.ofNat jn), vI cz_, vI f1, vI f2, vR sid, vR rl, vR pl, vR bc, vU, vU, vU] [(.int cb), (.int ca)]) _
        refine XS.iload X1691.here hx rfl (hb hby at_196) rfl ?_
        refine XS.iload X1691.here hx rfl (hb hby at_198) rfl ?_
        refine XS.iload X1691.here hx rfl (hb hby at_200) rfl ?_
        exact kt)
      have z1693 := (Nat.le_trans z1690 K1691.1)
      obtain ⟨v1694, T1694, L1694, X1694, hQ1694, st1694⟩ := own_cS X1691 hx hZ hw hown hml 100 101 103 102 rfl rfl rfl rfl (rm_exp hw ca cb jn cu cv T1691.heap n0 z1693 hca hcb hcu hcv hj3) rfl (W := 0) (g := (mkF m 202 #[vI ia, vI iu, vI ic, vI iz, vI ca, vI cb, vI cu, vI cv, vI (Int32.ofNat jn), vI cz_, vI f1, vI f2, vR sid, vR rl, vR pl, vR bc, vU, vU, vU] [(.int cv), (.int cu), (.int (Int32.ofNat jn)), (.int cb), (.int ca)])) rfl (argsL := [(.int ca), (.int cb), (.int (Int32.ofNat jn)), (.int cu), (.int cv)]) (rest := []) pd__CCICC__C (hb hby at_202)
      obtain ⟨ex, kx1694, rfl, N1694q, K1694, szx1694, V1694⟩ := hQ1694
      have N1694 := Fr.app N1691 N1694q
      have KK1694 : Keep T1653.heap T1694.heap [] := KK1691.trans K1694 all0
      have sz_ex : T1653.heap.size ≤ ex := Nat.le_trans KK1691.1 szx1694
      have S1695 : Ga T1694 (mkF m 207 #[vI ia, vI iu, vI ic, vI iz, vI ca, vI cb, vI cu, vI cv, vI (Int32.ofNat jn), vI cz_, vI f1, vI f2, vR sid, vR rl, vR pl, vR bc, vR ex, vU, vU] []) := nx S1692 fun t kt => st1694 t (by
        show Sp p e below T1694 (mkF m 205 #[vI ia, vI iu, vI ic, vI iz, vI ca, vI cb, vI cu, vI cv, vI (Int32.ofNat jn), vI cz_, vI f1, vI f2, vR sid, vR rl, vR pl, vR bc, vU, vU, vU] [(.ref ex)]) _
        refine XS.astore X1694.here hx rfl (hb hby at_205) rfl rfl (l' := #[vI ia, vI iu, vI ic, vI iz, vI ca, vI cb, vI cu, vI cv, vI (Int32.ofNat jn), vI cz_, vI f1, vI f2, vR sid, vR rl, vR pl, vR bc, vR ex, vU, vU]) rfl ?_
        exact kt)
      obtain ⟨T1696, h1696, X1696, e1696, E1696, A1696, D1696, -, st1696⟩ := newO X1694 hx hZ hown (own_h hw 104 rfl) (own_h hw 105 rfl) (own_h hw 106 rfl) rfl (g := (mkF m 207 #[vI ia, vI iu, vI ic, vI iz, vI ca, vI cb, vI cu, vI cv, vI (Int32.ofNat jn), vI cz_, vI f1, vI f2, vR sid, vR rl, vR pl, vR bc, vR ex, vU, vU] [])) rfl (hb hby at_207) (by decide) (by decide)
      obtain ⟨cl, g1696⟩ : ∃ z, z = T1694.heap.size := ⟨_, rfl⟩
      rw [← g1696] at A1696 D1696 st1696
      have f1697 := (((((f1626.ext E1625).keep K1638).keep K1653).keep K1691).keep K1694)
      have ne1698 : sid ≠ cl := by rw [g1696]; exact Nat.ne_of_lt f1697.lt
      have f1699 := (((((f1628.ext E1625).keep K1638).keep K1653).keep K1691).keep K1694)
      have ne1700 : rl ≠ cl := by rw [g1696]; exact Nat.ne_of_lt f1699.lt
      have f1701 := (((Ex1638.keep K1653).keep K1691).keep K1694)
      have ne1702 : pl ≠ cl := by rw [g1696]; exact Nat.ne_of_lt f1701.lt
      have f1703 := (E1691.keep K1694)
      have ne1704 : bc ≠ cl := by rw [g1696]; exact Nat.ne_of_lt f1703.lt
      have f1705 := (((((f1630.ext E1625).keep K1638 (ninS ne1631 nin0)).keep K1653 (ninS ne1631 nin0)).keep K1691 nin0).keep K1694 nin0)
      have ne1706 : ar2 ≠ cl := by rw [g1696]; exact Nat.ne_of_lt f1705.lt
      have f1707 := (((((f1632.ext E1625).keep K1638 (ninS ne1633 nin0)).keep K1653 (ninS ne1633 nin0)).keep K1691 nin0).keep K1694 nin0)
      have ne1708 : tid ≠ cl := by rw [g1696]; exact Nat.ne_of_lt f1707.lt
      have f1709 := (V1691.keep K1694 nin0)
      have ne1710 : bcb ≠ cl := by rw [g1696]; exact Nat.ne_of_lt f1709.lt
      have ne1711 : ex ≠ cl := by rw [g1696]; exact Nat.ne_of_lt V1694.lt
      have z1712 := (Nat.le_trans z1693 K1694.1)
      have g_cl : n0 ≤ cl := Nat.le_trans z1712 (Nat.le_of_eq g1696.symm)
      have sz_cl : T1653.heap.size ≤ cl := Nat.le_trans KK1694.1 (Nat.le_of_eq g1696.symm)
      have K1696 : Keep T1653.heap h1696 [] := KK1694.ext E1696
      have F_id_cl : Fld Z h1696 cl "com/example/passlane/passlane/oidc/Client" "id" "Ljava/lang/String;" .null := D1696 (Or.inr (own_h hw 206 rfl)) (ty := (.object "java/lang/String")) (by decide)
      have F_secret_cl : Fld Z h1696 cl "com/example/passlane/passlane/oidc/Client" "secret" "Ljava/lang/String;" .null := D1696 (Or.inr (own_h hw 208 rfl)) (ty := (.object "java/lang/String")) (by decide)
      have F_redirectUris_cl : Fld Z h1696 cl "com/example/passlane/passlane/oidc/Client" "redirectUris" "Ljava/util/List;" .null := D1696 (Or.inr (own_h hw 210 rfl)) (ty := (.object "java/util/List")) (by decide)
      have F_postLogoutRedirectUris_cl : Fld Z h1696 cl "com/example/passlane/passlane/oidc/Client" "postLogoutRedirectUris" "Ljava/util/List;" .null := D1696 (Or.inr (own_h hw 212 rfl)) (ty := (.object "java/util/List")) (by decide)
      have F_backChannelLogoutUri_cl : Fld Z h1696 cl "com/example/passlane/passlane/oidc/Client" "backChannelLogoutUri" "Ljava/lang/String;" .null := D1696 (Or.inr (own_h hw 214 rfl)) (ty := (.object "java/lang/String")) (by decide)
      have S1713 : Ga T1696 (mkF m 215 #[vI ia, vI iu, vI ic, vI iz, vI ca, vI cb, vI cu, vI cv, vI (Int32.ofNat jn), vI cz_, vI f1, vI f2, vR sid, vR rl, vR pl, vR bc, vR ex, vU, vU] [(.int cz_), (.ref sid), (.ref cl), (.ref cl)]) := nx S1695 fun t kt => st1696 t (by
        show Sp p e below T1696 (mkF m 210 #[vI ia, vI iu, vI ic, vI iz, vI ca, vI cb, vI cu, vI cv, vI (Int32.ofNat jn), vI cz_, vI f1, vI f2, vR sid, vR rl, vR pl, vR bc, vR ex, vU, vU] [(.ref cl)]) _
        refine XS.dup X1696.here hx rfl (hb hby at_210) rfl rfl ?_
        refine XS.aload X1696.here hx rfl (hb hby at_211) rfl rfl ?_
        refine XS.iload X1696.here hx rfl (hb hby at_213) rfl ?_
        exact kt)
      have f1714 := (((f1689.keep K1691 all0).keep K1694 all0).ext E1696)
      have z1715 := (Nat.le_trans z1712 E1696.1)
      obtain ⟨v1716, T1716, L1716, X1716, hQ1716, st1716⟩ := own_cS X1696 hx hZ hw hown hml 55 56 57 3 rfl rfl rfl rfl (rm_vof hw no de em el ey cz_ h1696 n0 z1715 SS hno f1714 hcz_) e1696 (W := 3) (g := (mkF m 215 #[vI ia, vI iu, vI ic, vI iz, vI ca, vI cb, vI cu, vI cv, vI (Int32.ofNat jn), vI cz_, vI f1, vI f2, vR sid, vR rl, vR pl, vR bc, vR ex, vU, vU] [(.int cz_), (.ref sid), (.ref cl), (.ref cl)])) rfl (argsL := [(.int cz_)]) (rest := [(.ref sid), (.ref cl), (.ref cl)]) pd__C_Ljava_lang_String_ (hb hby at_215)
      obtain ⟨sx, sxb, kb1716, rfl, N1716q, K1716, szsx1716, szsxb1716, E1716, F1716, G1716, V1716⟩ := hQ1716
      have N1716 := Fr.app N1694 N1716q
      have KK1716 : Keep T1653.heap T1716.heap [] := K1696.trans K1716 all0
      have sz_sx : T1653.heap.size ≤ sx := Nat.le_trans K1696.1 szsx1716
      have sz_sxb : T1653.heap.size ≤ sxb := Nat.le_trans K1696.1 szsxb1716
      have S1717 : Ga T1716 (mkF m 224 #[vI ia, vI iu, vI ic, vI iz, vI ca, vI cb, vI cu, vI cv, vI (Int32.ofNat jn), vI cz_, vI f1, vI f2, vR sid, vR rl, vR pl, vR bc, vR ex, vU, vU] [(.ref bc), (.ref pl), (.ref rl), (.ref sx), (.ref sid), (.ref cl), (.ref cl)]) := nx S1713 fun t kt => st1716 t (by
        show Sp p e below T1716 (mkF m 218 #[vI ia, vI iu, vI ic, vI iz, vI ca, vI cb, vI cu, vI cv, vI (Int32.ofNat jn), vI cz_, vI f1, vI f2, vR sid, vR rl, vR pl, vR bc, vR ex, vU, vU] [(.ref sx), (.ref sid), (.ref cl), (.ref cl)]) _
        refine XS.aload X1716.here hx rfl (hb hby at_218) rfl rfl ?_
        refine XS.aload X1716.here hx rfl (hb hby at_220) rfl rfl ?_
        refine XS.aload X1716.here hx rfl (hb hby at_222) rfl rfl ?_
        exact kt)
      have f1718 := (f1714.keep K1716 all0)
      have f1719 := (A1696.keep K1716)
      have f1720 := (F_id_cl.keep K1716 nin0)
      have f1721 := (F_secret_cl.keep K1716 nin0)
      have f1722 := (F_redirectUris_cl.keep K1716 nin0)
      have f1723 := (F_postLogoutRedirectUris_cl.keep K1716 nin0)
      have f1724 := (F_backChannelLogoutUri_cl.keep K1716 nin0)
      have z1725 := (Nat.le_trans z1715 K1716.1)
      obtain ⟨v1726, T1726, L1726, X1726, hQ1726, st1726⟩ := own_cI X1716 hx hZ hw hown hml 107 108 109 106 rfl rfl rfl rfl rfl (a := cl) (rm_cin1 hw no de em el ey cl sid sx rl pl bc L1 L2 mir T1716.heap n0 z1725 SS hno f1718 f1719 f1720 f1721 f1722 f1723 f1724 g_cl (own_ALg.keep (KK1653.trans KK1716 all0) HR) (own_ALg.keep KK1716 HP1653) M) rfl (W := 1) (g := (mkF m 224 #[vI ia, vI iu, vI ic, vI iz, vI ca, vI cb, vI cu, vI cv, vI (Int32.ofNat jn), vI cz_, vI f1, vI f2, vR sid, vR rl, vR pl, vR bc, vR ex, vU, vU] [(.ref bc), (.ref pl), (.ref rl), (.ref sx), (.ref sid), (.ref cl), (.ref cl)])) rfl (argsL := [(.ref sid), (.ref sx), (.ref rl), (.ref pl), (.ref bc)]) (rest := [(.ref cl)]) pd__Ljava_lang_String_Ljava_lang_String_Ljava_util_List_Ljava_util_List_Ljava_lang_String__V (hb hby at_224)
      obtain ⟨r1, rfl, N1726q, K1726, Fi1726, Fr1726, HI1726⟩ := hQ1726
      have N1726 := Fr.app N1716 N1726q
      have KK1726 : Keep T1653.heap T1726.heap [] := KK1716.trans K1726 (allS (Or.inr sz_cl) all0)
      have S1727 : Ga T1726 (mkF m 229 #[vI ia, vI iu, vI ic, vI iz, vI ca, vI cb, vI cu, vI cv, vI (Int32.ofNat jn), vI cz_, vI f1, vI f2, vR sid, vR rl, vR pl, vR bc, vR ex, vR cl, vU] []) := nx S1717 fun t kt => st1726 t (by
        show Sp p e below T1726 (mkF m 227 #[vI ia, vI iu, vI ic, vI iz, vI ca, vI cb, vI cu, vI cv, vI (Int32.ofNat jn), vI cz_, vI f1, vI f2, vR sid, vR rl, vR pl, vR bc, vR ex, vU, vU] [(.ref cl)]) _
        refine XS.astore X1726.here hx rfl (hb hby at_227) rfl rfl (l' := #[vI ia, vI iu, vI ic, vI iz, vI ca, vI cb, vI cu, vI cv, vI (Int32.ofNat jn), vI cz_, vI f1, vI f2, vR sid, vR rl, vR pl, vR bc, vR ex, vR cl, vU]) rfl ?_
        exact kt)
      have f1731 := (((V1694.ext E1696).keep K1716 nin0).keep K1726 (ninS ne1711 nin0))
      have f1732 := (f1719.keep K1726)
      exact ⟨T1726, _, (.val (.ref bc)), ex, kx1694, cl, r1, X1726.mono (by decide) (by decide), N1726, KK1726, f1731, f1732, Fi1726, Fr1726, HI1726, S1727⟩
  have KK1728 : Keep T1602.heap T1728.heap [] := KK1653.trans K1728 all0
  have HEe := own_Els.keep hj3 KK1728 HEl
  obtain rfl | rfl | rfl : jn = 0 ∨ jn = 1 ∨ jn = 2 := by omega
  · obtain rfl := HEe.c0
    have VxJ : Arv Z T1728.heap ex kx .char 30 ((own_px ca cb ++ [93, 93]).map Value.int) (.int 0) := Vx1728
    have S1733 : Ga T1728 (mkF m 231 #[vI ia, vI iu, vI ic, vI iz, vI ca, vI cb, vI cu, vI cv, vI (Int32.ofNat 0), vI cz_, vI f1, vI f2, vR sid, vR rl, vR pl, sl, vR ex, vR cl, vU] [(.ref cl)]) := nx S1728 fun t kt => by
      refine XS.aload X1728.here hx rfl (hb hby at_229) rfl rfl ?_
      exact kt
    have Fre : Fld Z T1728.heap cl "com/example/passlane/passlane/oidc/Client" "redirectUris" "Ljava/util/List;" (.ref em) := by have q := Fr1728; rw [show r1 = em from HI1728] at q; exact q
    have z1734 := (Nat.le_trans (Nat.le_trans (Nat.le_trans z1637 K1638.1) K1653.1) K1728.1)
    have f1735 := (((f1636.keep K1638 (allS (Nat.le_trans hno g_pl) all0)).keep K1653 (allS (Nat.le_trans hno g_pl) all0)).keep K1728 all0)
    have f1736 := ((((f1626.ext E1625).keep K1638).keep K1653).keep K1728)
    have f1737 := (((((((F1546.ext E1548).keep K1557 (ninS ne1549 nin0)).keep K1602 (ninS ne1549 nin0)).ext E1625).keep K1638 (ninS ne1627 nin0)).keep K1653 (ninS ne1627 nin0)).keep K1728 nin0)
    have f1738 := (((((((G1546.ext E1548).keep K1557 (ninS ne1549 nin0)).keep K1602 (ninS ne1549 nin0)).ext E1625).keep K1638 (ninS ne1627 nin0)).keep K1653 (ninS ne1627 nin0)).keep K1728 nin0)
    have f1739 := ((((f1632.ext E1625).keep K1638 (ninS ne1633 nin0)).keep K1653 (ninS ne1633 nin0)).keep K1728 nin0)
    obtain ⟨cq1740, kq1740, q1740a, q1740b, q1740c⟩ := isOf hZ rfl Ec_1728
    obtain ⟨v1740, T1740, L1740, X1740, hQ1740, hS, hgr1740, hZ, hown, st1740⟩ := own_outSS hS (Nat.le_trans (Nat.le_trans (Nat.le_trans (Nat.le_trans (Nat.le_trans (Nat.le_trans (Nat.le_trans (Nat.le_trans (Nat.le_trans (Nat.le_trans (Nat.le_trans (Nat.le_trans hki0 E1530.1) E1532.1) (Keep.of_wr W1537).1) (Keep.of_wr W1540).1) K1546.1) E1548.1) K1557.1) K1602.1) E1625.1) K1638.1) K1653.1) K1728.1) hZ hown (X1728.virtualBackS hx (y := y35) (z := y35) hown (own_t hZ hw 215 rfl) (own_t hZ hw 216 rfl) (notFace_of_selects (args := #[]) (own_t hZ hw 218 rfl)) (own_t hZ hw 218 rfl) (own_t hZ hw 217 rfl) (by decide) (own_backS (W := 0) (Pv := fun U => IB Z U.vm []) (rm_cts0 hw no de em el ey cl sid tid kb1546 ca cb T1728.heap T1728.heap.size (Nat.le_refl _) SS (Nat.le_trans hno z1734) f1735 Fi1728 Fre ⟨f1736, f1737, f1738, f1739⟩ hc1 hc2 hc3 hc0 hcw rfl) hZ (own_h hw 219 rfl) (own_h hw 106 rfl) (by decide) (by decide) (own_ibU hPv)) q1740a q1740c (g := (mkF m 231 #[vI ia, vI iu, vI ic, vI iz, vI ca, vI cb, vI cu, vI cv, vI (Int32.ofNat 0), vI cz_, vI f1, vI f2, vR sid, vR rl, vR pl, sl, vR ex, vR cl, vU] [(.ref cl)])) rfl (by rw [hml]; rfl) (Steps.refl _) (argsL := []) (rest := []) (lenOf pd___Ljava_lang_String_ rfl) rfl (own_w rfl) (hb hby at_231) (fun _ _ => ⟨rfl, rfl, (by decide : 23 + 14 ≤ _), (by decide : 204 + 290 ≤ _)⟩))
    obtain ⟨ra, rb, kb1740, rfl, N1740q, K1740, szr1740, szq1740, E1740, F1740, G1740, V1740⟩ := hQ1740
    have N1740 := Fr.app N1728 (own_frm z1734 N1740q)
    have KK1740 : Keep T1602.heap T1740.heap [] := KK1728.trans K1740 all0
    have hki1740 := Nat.le_refl T1740.heap.size
    have S1741 : Ga T1740 (mkF m 243 #[vI ia, vI iu, vI ic, vI iz, vI ca, vI cb, vI cu, vI cv, vI (Int32.ofNat 0), vI cz_, vI f1, vI f2, vR sid, vR rl, vR pl, sl, vR ex, vR cl, vR ra] [(.ref ra)]) := nx S1733 fun t kt => st1740 t (by
      show Sp p e below T1740 (mkF m 234 #[vI ia, vI iu, vI ic, vI iz, vI ca, vI cb, vI cu, vI cv, vI (Int32.ofNat 0), vI cz_, vI f1, vI f2, vR sid, vR rl, vR pl, sl, vR ex, vR cl, vU] [(.ref ra)]) _
      refine XS.astore X1740.here hx rfl (hb hby at_234) rfl rfl (l' := #[vI ia, vI iu, vI ic, vI iz, vI ca, vI cb, vI cu, vI cv, vI (Int32.ofNat 0), vI cz_, vI f1, vI f2, vR sid, vR rl, vR pl, sl, vR ex, vR cl, vR ra]) rfl ?_
      refine XS.aload X1740.here hx rfl (hb hby at_236) rfl rfl ?_
      refine XS.ifnullNo X1740.here hx rfl (hb hby at_238) rfl ?_
      refine XS.aload X1740.here hx rfl (hb hby at_241) rfl rfl ?_
      show Sp p e below T1740 (mkF m 243 #[vI ia, vI iu, vI ic, vI iz, vI ca, vI cb, vI cu, vI cv, vI (Int32.ofNat 0), vI cz_, vI f1, vI f2, vR sid, vR rl, vR pl, sl, vR ex, vR cl, vR ra] [(.ref ra)]) _
      exact kt)
    obtain ⟨T1742, h1742, X1742, e1742, E1742, A1742, D1742, -, st1742⟩ := newO X1740 hx hZ hown (own_h hw 1 rfl) (own_h hw 2 rfl) (own_h hw 3 rfl) rfl (g := (mkF m 243 #[vI ia, vI iu, vI ic, vI iz, vI ca, vI cb, vI cu, vI cv, vI (Int32.ofNat 0), vI cz_, vI f1, vI f2, vR sid, vR rl, vR pl, sl, vR ex, vR cl, vR ra] [(.ref ra)])) rfl (hb hby at_243) (by decide) (by decide)
    obtain ⟨sn, g1742⟩ : ∃ z, z = T1740.heap.size := ⟨_, rfl⟩
    rw [← g1742] at A1742 D1742 st1742
    have f1743 := (f1736.keep K1740)
    have ne1744 : sid ≠ sn := by rw [g1742]; exact Nat.ne_of_lt f1743.lt
    have f1745 := (((((f1628.ext E1625).keep K1638).keep K1653).keep K1728).keep K1740)
    have ne1746 : rl ≠ sn := by rw [g1742]; exact Nat.ne_of_lt f1745.lt
    have f1747 := (((Ex1638.keep K1653).keep K1728).keep K1740)
    have ne1748 : pl ≠ sn := by rw [g1742]; exact Nat.ne_of_lt f1747.lt
    have f1749 := (Ec_1728.keep K1740)
    have ne1750 : cl ≠ sn := by rw [g1742]; exact Nat.ne_of_lt f1749.lt
    have ne1751 : ra ≠ sn := by rw [g1742]; exact Nat.ne_of_lt E1740.lt
    have f1752 := (((((f1630.ext E1625).keep K1638 (ninS ne1631 nin0)).keep K1653 (ninS ne1631 nin0)).keep K1728 nin0).keep K1740 nin0)
    have ne1753 : ar2 ≠ sn := by rw [g1742]; exact Nat.ne_of_lt f1752.lt
    have f1754 := (f1739.keep K1740 nin0)
    have ne1755 : tid ≠ sn := by rw [g1742]; exact Nat.ne_of_lt f1754.lt
    have f1756 := (VxJ.keep K1740 nin0)
    have ne1757 : ex ≠ sn := by rw [g1742]; exact Nat.ne_of_lt f1756.lt
    have ne1758 : rb ≠ sn := by rw [g1742]; exact Nat.ne_of_lt V1740.lt
    have z1759 := (Nat.le_trans z1734 K1740.1)
    have g_sn : n0 ≤ sn := Nat.le_trans z1759 (Nat.le_of_eq g1742.symm)
    have sz_sn : T1602.heap.size ≤ sn := Nat.le_trans KK1740.1 (Nat.le_of_eq g1742.symm)
    have K1742 : Keep T1602.heap h1742 [] := KK1740.ext E1742
    have F_coder_sn : Fld Z h1742 sn "java/lang/String" "coder" "B" (.int 0) := D1742 (Or.inr (own_h hw 28 rfl)) (ty := .byte) (by decide)
    have F_value_sn : Fld Z h1742 sn "java/lang/String" "value" "[B" .null := D1742 (Or.inr (own_h hw 30 rfl)) (ty := (.array .byte)) (by decide)
    have S1760 : Ga T1742 (mkF m 249 #[vI ia, vI iu, vI ic, vI iz, vI ca, vI cb, vI cu, vI cv, vI (Int32.ofNat 0), vI cz_, vI f1, vI f2, vR sid, vR rl, vR pl, sl, vR ex, vR cl, vR ra] [(.ref ex), (.ref sn), (.ref sn), (.ref ra)]) := nx S1741 fun t kt => st1742 t (by
      show Sp p e below T1742 (mkF m 246 #[vI ia, vI iu, vI ic, vI iz, vI ca, vI cb, vI cu, vI cv, vI (Int32.ofNat 0), vI cz_, vI f1, vI f2, vR sid, vR rl, vR pl, sl, vR ex, vR cl, vR ra] [(.ref sn), (.ref ra)]) _
      refine XS.dup X1742.here hx rfl (hb hby at_246) rfl rfl ?_
      refine XS.aload X1742.here hx rfl (hb hby at_247) rfl rfl ?_
      exact kt)
    have hok : ∀ z ∈ ([67, 108, 105, 101, 110, 116, 91, 105, 100, 61, ca, cb, 44, 32, 114, 101, 100, 105, 114, 101, 99, 116, 85, 114, 105, 115, 61, 91, 93, 93] : List Int32), own_c z := fun z hz => by simp only [List.mem_cons, List.not_mem_nil, or_false] at hz; rcases hz with rfl | rfl | rfl | rfl | rfl | rfl | rfl | rfl | rfl | rfl | rfl | rfl | rfl | rfl | rfl | rfl | rfl | rfl | rfl | rfl | rfl | rfl | rfl | rfl | rfl | rfl | rfl | rfl | rfl | rfl <;> first | assumption | decide
    have f1761 := ((f1735.keep K1740 all0).ext E1742)
    have f1762 := (f1756.ext E1742)
    have z1763 := (Nat.le_trans z1759 E1742.1)
    obtain ⟨v1764, T1764, L1764, X1764, hQ1764, st1764⟩ := own_cI X1742 hx hZ hw hown hml 5 6 7 3 rfl rfl rfl rfl rfl (a := sn) (rm_si1 hw no de em el ey sn ex kx ([67, 108, 105, 101, 110, 116, 91, 105, 100, 61, ca, cb, 44, 32, 114, 101, 100, 105, 114, 101, 99, 116, 85, 114, 105, 115, 61, 91, 93, 93] : List Int32) h1742 n0 z1763 SS hno f1761 A1742 F_value_sn F_coder_sn g_sn f1762 hok (Nat.le_of_ble_eq_true rfl) (Nat.le_of_ble_eq_true rfl)) e1742 (W := 2) (g := (mkF m 249 #[vI ia, vI iu, vI ic, vI iz, vI ca, vI cb, vI cu, vI cv, vI (Int32.ofNat 0), vI cz_, vI f1, vI f2, vR sid, vR rl, vR pl, sl, vR ex, vR cl, vR ra] [(.ref ex), (.ref sn), (.ref sn), (.ref ra)])) rfl (argsL := [(.ref ex)]) (rest := [(.ref sn), (.ref ra)]) pd___C_V (hb hby at_249)
    obtain ⟨tn, kb1764, rfl, N1764q, K1764, sz1764, E1764, F1764, G1764, V1764⟩ := hQ1764
    have N1764 := Fr.app N1740 N1764q
    have KK1764 : Keep T1602.heap T1764.heap [] := K1742.trans K1764 (allS (Or.inr sz_sn) all0)
    have V1764' : Arv Z T1764.heap tn kb1764 .byte 30 (own_vs [67, 108, 105, 101, 110, 116, 91, 105, 100, 61, ca, cb, 44, 32, 114, 101, 100, 105, 114, 101, 99, 116, 85, 114, 105, 115, 61, 91, 93, 93]) (.int 0) := V1764
    have f1765 := (f1761.keep K1764 (allS (Nat.le_trans hno g_sn) all0))
    have f1766 := ((E1740.ext E1742).keep K1764)
    have f1767 := ((F1740.ext E1742).keep K1764 (ninS ne1751 nin0))
    have f1768 := ((G1740.ext E1742).keep K1764 (ninS ne1751 nin0))
    have f1769 := ((V1740.ext E1742).keep K1764 (ninS ne1758 nin0))
    have z1770 := (Nat.le_trans z1763 K1764.1)
    obtain ⟨v1771, T1771, L1771, X1771, hQ1771, st1771⟩ := own_cV1 X1764 hx hZ hw hown hml 438 439 441 440 442 3 rfl rfl rfl rfl rfl rfl f1766 (rm_seq hw no de em el ey ra rb kb1740 sn tn kb1764 ([67, 108, 105, 101, 110, 116, 91, 105, 100, 61, ca, cb, 44, 32, 114, 101, 100, 105, 114, 101, 99, 116, 85, 114, 105, 115, 61, 91, 93, 93] : List Int32) T1764.heap n0 z1770 SS hno f1765 ⟨f1766, f1767, f1768, f1769⟩ ⟨E1764, F1764, G1764, V1764'⟩ ne1751 (Nat.le_of_ble_eq_true rfl)) rfl (W := 0) (g := (mkF m 252 #[vI ia, vI iu, vI ic, vI iz, vI ca, vI cb, vI cu, vI cv, vI (Int32.ofNat 0), vI cz_, vI f1, vI f2, vR sid, vR rl, vR pl, sl, vR ex, vR cl, vR ra] [(.ref sn), (.ref ra)])) rfl (argsL := [(.ref sn)]) (rest := []) pd__Ljava_lang_Object__Z (hb hby at_252)
    obtain ⟨rfl, N1771q, e1771⟩ := hQ1771
    have N1771 := Fr.app N1764 N1771q
    have S1772 : Ga T1771 (mkF m 263 #[vI ia, vI iu, vI ic, vI iz, vI ca, vI cb, vI cu, vI cv, vI (Int32.ofNat 0), vI cz_, vI f1, vI f2, vR sid, vR rl, vR pl, sl, vR ex, vR cl, vR ra] [(.int 1)]) := nx S1760 fun t kt => st1764 t (st1771 t (by
      show Sp p e below T1771 (mkF m 255 #[vI ia, vI iu, vI ic, vI iz, vI ca, vI cb, vI cu, vI cv, vI (Int32.ofNat 0), vI cz_, vI f1, vI f2, vR sid, vR rl, vR pl, sl, vR ex, vR cl, vR ra] [(.int 1)]) _
      refine XS.ifNo X1771.here hx rfl (hb hby at_255) rfl ((if0 _ _).trans (feq (show ¬ ((1 : Int32) = (0 : Int32)) from (by decide))).1) ?_
      refine XS.iconst X1771.here hx rfl (hb hby at_258) ?_
      refine XS.goto X1771.here hx rfl (pc0 := 259) (pc' := 263) rfl (hb hby at_259) (by decide) (by decide) ?_
      exact kt))
    obtain ⟨fs, hr, hrun, hended, hRE⟩ := X1771.leaveW hS (n := _) (by rw [e1771]; exact (Nat.le_trans (Nat.le_trans hki1740 E1742.1) K1764.1)) (v := some (.int 1)) (fun h => by first | rfl | (rw [Bd.returns] at h; cases h))
    refine ⟨_, _, (og S1772) _ ?_, hrun, hended, _, _, rfl, ?_, hRE.1, hRE.2.1, hRE.2.2.1, hRE.2.2.2.mono (by decide) (by decide)⟩
    · exact retN X1771 hx (t := .boolean) Bd.returns (by simp) (hb hby at_263) hr
    · show Q_law Z  h0 n0 _ T1771.heap _
      rw [e1771]
      exact ⟨rfl, N1771⟩
  · obtain ⟨u, rfl, ub, uk, HSu⟩ := HEe.c1
    have VxJ : Arv Z T1728.heap ex kx .char 31 ((own_px ca cb ++ [cu, 93, 93]).map Value.int) (.int 0) := Vx1728
    obtain ⟨Eu, Fu, Gu, Vu⟩ := HSu
    have S1773 : Ga T1728 (mkF m 231 #[vI ia, vI iu, vI ic, vI iz, vI ca, vI cb, vI cu, vI cv, vI (Int32.ofNat 1), vI cz_, vI f1, vI f2, vR sid, vR rl, vR pl, sl, vR ex, vR cl, vU] [(.ref cl)]) := nx S1728 fun t kt => by
      refine XS.aload X1728.here hx rfl (hb hby at_229) rfl rfl ?_
      exact kt
    have z1774 := (Nat.le_trans (Nat.le_trans (Nat.le_trans z1637 K1638.1) K1653.1) K1728.1)
    have f1775 := (((f1636.keep K1638 (allS (Nat.le_trans hno g_pl) all0)).keep K1653 (allS (Nat.le_trans hno g_pl) all0)).keep K1728 all0)
    have f1776 := ((((f1626.ext E1625).keep K1638).keep K1653).keep K1728)
    have f1777 := (((((((F1546.ext E1548).keep K1557 (ninS ne1549 nin0)).keep K1602 (ninS ne1549 nin0)).ext E1625).keep K1638 (ninS ne1627 nin0)).keep K1653 (ninS ne1627 nin0)).keep K1728 nin0)
    have f1778 := (((((((G1546.ext E1548).keep K1557 (ninS ne1549 nin0)).keep K1602 (ninS ne1549 nin0)).ext E1625).keep K1638 (ninS ne1627 nin0)).keep K1653 (ninS ne1627 nin0)).keep K1728 nin0)
    have f1779 := ((((f1632.ext E1625).keep K1638 (ninS ne1633 nin0)).keep K1653 (ninS ne1633 nin0)).keep K1728 nin0)
    obtain ⟨cq1780, kq1780, q1780a, q1780b, q1780c⟩ := isOf hZ rfl Ec_1728
    obtain ⟨v1780, T1780, L1780, X1780, hQ1780, hS, hgr1780, hZ, hown, st1780⟩ := own_outSS hS (Nat.le_trans (Nat.le_trans (Nat.le_trans (Nat.le_trans (Nat.le_trans (Nat.le_trans (Nat.le_trans (Nat.le_trans (Nat.le_trans (Nat.le_trans (Nat.le_trans (Nat.le_trans hki0 E1530.1) E1532.1) (Keep.of_wr W1537).1) (Keep.of_wr W1540).1) K1546.1) E1548.1) K1557.1) K1602.1) E1625.1) K1638.1) K1653.1) K1728.1) hZ hown (X1728.virtualBackS hx (y := y35) (z := y35) hown (own_t hZ hw 215 rfl) (own_t hZ hw 216 rfl) (notFace_of_selects (args := #[]) (own_t hZ hw 218 rfl)) (own_t hZ hw 218 rfl) (own_t hZ hw 217 rfl) (by decide) (own_backS (W := 0) (Pv := fun U => IB Z U.vm []) (rm_cts1 hw no de em el ey cl sid tid kb1546 ca cb r1 u ub uk cu T1728.heap T1728.heap.size (Nat.le_refl _) SS (Nat.le_trans hno z1774) f1775 Fi1728 Fr1728 ⟨f1776, f1777, f1778, f1779⟩ (show own_L Z T1728.heap r1 (.ref u) (.ref ey) from HI1728) ⟨Eu, Fu, Gu, Vu⟩ hc1 hc2 hc3 hc0 hcw rfl) hZ (own_h hw 219 rfl) (own_h hw 106 rfl) (by decide) (by decide) (own_ibU hPv)) q1780a q1780c (g := (mkF m 231 #[vI ia, vI iu, vI ic, vI iz, vI ca, vI cb, vI cu, vI cv, vI (Int32.ofNat 1), vI cz_, vI f1, vI f2, vR sid, vR rl, vR pl, sl, vR ex, vR cl, vU] [(.ref cl)])) rfl (by rw [hml]; rfl) (Steps.refl _) (argsL := []) (rest := []) (lenOf pd___Ljava_lang_String_ rfl) rfl (own_w rfl) (hb hby at_231) (fun _ _ => ⟨rfl, rfl, (by decide : 23 + 16 ≤ _), (by decide : 204 + 402 ≤ _)⟩))
    obtain ⟨ra, rb, kb1780, rfl, N1780q, K1780, szr1780, szq1780, E1780, F1780, G1780, V1780⟩ := hQ1780
    have N1780 := Fr.app N1728 (own_frm z1774 N1780q)
    have KK1780 : Keep T1602.heap T1780.heap [] := KK1728.trans K1780 all0
    have hki1780 := Nat.le_refl T1780.heap.size
    have S1781 : Ga T1780 (mkF m 243 #[vI ia, vI iu, vI ic, vI iz, vI ca, vI cb, vI cu, vI cv, vI (Int32.ofNat 1), vI cz_, vI f1, vI f2, vR sid, vR rl, vR pl, sl, vR ex, vR cl, vR ra] [(.ref ra)]) := nx S1773 fun t kt => st1780 t (by
      show Sp p e below T1780 (mkF m 234 #[vI ia, vI iu, vI ic, vI iz, vI ca, vI cb, vI cu, vI cv, vI (Int32.ofNat 1), vI cz_, vI f1, vI f2, vR sid, vR rl, vR pl, sl, vR ex, vR cl, vU] [(.ref ra)]) _
      refine XS.astore X1780.here hx rfl (hb hby at_234) rfl rfl (l' := #[vI ia, vI iu, vI ic, vI iz, vI ca, vI cb, vI cu, vI cv, vI (Int32.ofNat 1), vI cz_, vI f1, vI f2, vR sid, vR rl, vR pl, sl, vR ex, vR cl, vR ra]) rfl ?_
      refine XS.aload X1780.here hx rfl (hb hby at_236) rfl rfl ?_
      refine XS.ifnullNo X1780.here hx rfl (hb hby at_238) rfl ?_
      refine XS.aload X1780.here hx rfl (hb hby at_241) rfl rfl ?_
      show Sp p e below T1780 (mkF m 243 #[vI ia, vI iu, vI ic, vI iz, vI ca, vI cb, vI cu, vI cv, vI (Int32.ofNat 1), vI cz_, vI f1, vI f2, vR sid, vR rl, vR pl, sl, vR ex, vR cl, vR ra] [(.ref ra)]) _
      exact kt)
    obtain ⟨T1782, h1782, X1782, e1782, E1782, A1782, D1782, -, st1782⟩ := newO X1780 hx hZ hown (own_h hw 1 rfl) (own_h hw 2 rfl) (own_h hw 3 rfl) rfl (g := (mkF m 243 #[vI ia, vI iu, vI ic, vI iz, vI ca, vI cb, vI cu, vI cv, vI (Int32.ofNat 1), vI cz_, vI f1, vI f2, vR sid, vR rl, vR pl, sl, vR ex, vR cl, vR ra] [(.ref ra)])) rfl (hb hby at_243) (by decide) (by decide)
    obtain ⟨sn, g1782⟩ : ∃ z, z = T1780.heap.size := ⟨_, rfl⟩
    rw [← g1782] at A1782 D1782 st1782
    have f1783 := (f1776.keep K1780)
    have ne1784 : sid ≠ sn := by rw [g1782]; exact Nat.ne_of_lt f1783.lt
    have f1785 := (((((f1628.ext E1625).keep K1638).keep K1653).keep K1728).keep K1780)
    have ne1786 : rl ≠ sn := by rw [g1782]; exact Nat.ne_of_lt f1785.lt
    have f1787 := (((Ex1638.keep K1653).keep K1728).keep K1780)
    have ne1788 : pl ≠ sn := by rw [g1782]; exact Nat.ne_of_lt f1787.lt
    have f1789 := (Ec_1728.keep K1780)
    have ne1790 : cl ≠ sn := by rw [g1782]; exact Nat.ne_of_lt f1789.lt
    have f1791 := (Eu.keep K1780)
    have ne1792 : u ≠ sn := by rw [g1782]; exact Nat.ne_of_lt f1791.lt
    have ne1793 : ra ≠ sn := by rw [g1782]; exact Nat.ne_of_lt E1780.lt
    have f1794 := (((((f1630.ext E1625).keep K1638 (ninS ne1631 nin0)).keep K1653 (ninS ne1631 nin0)).keep K1728 nin0).keep K1780 nin0)
    have ne1795 : ar2 ≠ sn := by rw [g1782]; exact Nat.ne_of_lt f1794.lt
    have f1796 := (f1779.keep K1780 nin0)
    have ne1797 : tid ≠ sn := by rw [g1782]; exact Nat.ne_of_lt f1796.lt
    have f1798 := (VxJ.keep K1780 nin0)
    have ne1799 : ex ≠ sn := by rw [g1782]; exact Nat.ne_of_lt f1798.lt
    have f1800 := (Vu.keep K1780 nin0)
    have ne1801 : ub ≠ sn := by rw [g1782]; exact Nat.ne_of_lt f1800.lt
    have ne1802 : rb ≠ sn := by rw [g1782]; exact Nat.ne_of_lt V1780.lt
    have z1803 := (Nat.le_trans z1774 K1780.1)
    have g_sn : n0 ≤ sn := Nat.le_trans z1803 (Nat.le_of_eq g1782.symm)
    have sz_sn : T1602.heap.size ≤ sn := Nat.le_trans KK1780.1 (Nat.le_of_eq g1782.symm)
    have K1782 : Keep T1602.heap h1782 [] := KK1780.ext E1782
    have F_coder_sn : Fld Z h1782 sn "java/lang/String" "coder" "B" (.int 0) := D1782 (Or.inr (own_h hw 28 rfl)) (ty := .byte) (by decide)
    have F_value_sn : Fld Z h1782 sn "java/lang/String" "value" "[B" .null := D1782 (Or.inr (own_h hw 30 rfl)) (ty := (.array .byte)) (by decide)
    have S1804 : Ga T1782 (mkF m 249 #[vI ia, vI iu, vI ic, vI iz, vI ca, vI cb, vI cu, vI cv, vI (Int32.ofNat 1), vI cz_, vI f1, vI f2, vR sid, vR rl, vR pl, sl, vR ex, vR cl, vR ra] [(.ref ex), (.ref sn), (.ref sn), (.ref ra)]) := nx S1781 fun t kt => st1782 t (by
      show Sp p e below T1782 (mkF m 246 #[vI ia, vI iu, vI ic, vI iz, vI ca, vI cb, vI cu, vI cv, vI (Int32.ofNat 1), vI cz_, vI f1, vI f2, vR sid, vR rl, vR pl, sl, vR ex, vR cl, vR ra] [(.ref sn), (.ref ra)]) _
      refine XS.dup X1782.here hx rfl (hb hby at_246) rfl rfl ?_
      refine XS.aload X1782.here hx rfl (hb hby at_247) rfl rfl ?_
      exact kt)
    have hok : ∀ z ∈ ([67, 108, 105, 101, 110, 116, 91, 105, 100, 61, ca, cb, 44, 32, 114, 101, 100, 105, 114, 101, 99, 116, 85, 114, 105, 115, 61, 91, cu, 93, 93] : List Int32), own_c z := fun z hz => by simp only [List.mem_cons, List.not_mem_nil, or_false] at hz; rcases hz with rfl | rfl | rfl | rfl | rfl | rfl | rfl | rfl | rfl | rfl | rfl | rfl | rfl | rfl | rfl | rfl | rfl | rfl | rfl | rfl | rfl | rfl | rfl | rfl | rfl | rfl | rfl | rfl | rfl | rfl | rfl <;> first | assumption | decide
    have f1805 := ((f1775.keep K1780 all0).ext E1782)
    have f1806 := (f1798.ext E1782)
    have z1807 := (Nat.le_trans z1803 E1782.1)
    obtain ⟨v1808, T1808, L1808, X1808, hQ1808, st1808⟩ := own_cI X1782 hx hZ hw hown hml 5 6 7 3 rfl rfl rfl rfl rfl (a := sn) (rm_si1 hw no de em el ey sn ex kx ([67, 108, 105, 101, 110, 116, 91, 105, 100, 61, ca, cb, 44, 32, 114, 101, 100, 105, 114, 101, 99, 116, 85, 114, 105, 115, 61, 91, cu, 93, 93] : List Int32) h1782 n0 z1807 SS hno f1805 A1782 F_value_sn F_coder_sn g_sn f1806 hok (Nat.le_of_ble_eq_true rfl) (Nat.le_of_ble_eq_true rfl)) e1782 (W := 2) (g := (mkF m 249 #[vI ia, vI iu, vI ic, vI iz, vI ca, vI cb, vI cu, vI cv, vI (Int32.ofNat 1), vI cz_, vI f1, vI f2, vR sid, vR rl, vR pl, sl, vR ex, vR cl, vR ra] [(.ref ex), (.ref sn), (.ref sn), (.ref ra)])) rfl (argsL := [(.ref ex)]) (rest := [(.ref sn), (.ref ra)]) pd___C_V (hb hby at_249)
    obtain ⟨tn, kb1808, rfl, N1808q, K1808, sz1808, E1808, F1808, G1808, V1808⟩ := hQ1808
    have N1808 := Fr.app N1780 N1808q
    have KK1808 : Keep T1602.heap T1808.heap [] := K1782.trans K1808 (allS (Or.inr sz_sn) all0)
    have V1808' : Arv Z T1808.heap tn kb1808 .byte 31 (own_vs [67, 108, 105, 101, 110, 116, 91, 105, 100, 61, ca, cb, 44, 32, 114, 101, 100, 105, 114, 101, 99, 116, 85, 114, 105, 115, 61, 91, cu, 93, 93]) (.int 0) := V1808
    have f1809 := (f1805.keep K1808 (allS (Nat.le_trans hno g_sn) all0))
    have f1810 := ((E1780.ext E1782).keep K1808)
    have f1811 := ((F1780.ext E1782).keep K1808 (ninS ne1793 nin0))
    have f1812 := ((G1780.ext E1782).keep K1808 (ninS ne1793 nin0))
    have f1813 := ((V1780.ext E1782).keep K1808 (ninS ne1802 nin0))
    have z1814 := (Nat.le_trans z1807 K1808.1)
    obtain ⟨v1815, T1815, L1815, X1815, hQ1815, st1815⟩ := own_cV1 X1808 hx hZ hw hown hml 438 439 441 440 442 3 rfl rfl rfl rfl rfl rfl f1810 (rm_seq hw no de em el ey ra rb kb1780 sn tn kb1808 ([67, 108, 105, 101, 110, 116, 91, 105, 100, 61, ca, cb, 44, 32, 114, 101, 100, 105, 114, 101, 99, 116, 85, 114, 105, 115, 61, 91, cu, 93, 93] : List Int32) T1808.heap n0 z1814 SS hno f1809 ⟨f1810, f1811, f1812, f1813⟩ ⟨E1808, F1808, G1808, V1808'⟩ ne1793 (Nat.le_of_ble_eq_true rfl)) rfl (W := 0) (g := (mkF m 252 #[vI ia, vI iu, vI ic, vI iz, vI ca, vI cb, vI cu, vI cv, vI (Int32.ofNat 1), vI cz_, vI f1, vI f2, vR sid, vR rl, vR pl, sl, vR ex, vR cl, vR ra] [(.ref sn), (.ref ra)])) rfl (argsL := [(.ref sn)]) (rest := []) pd__Ljava_lang_Object__Z (hb hby at_252)
    obtain ⟨rfl, N1815q, e1815⟩ := hQ1815
    have N1815 := Fr.app N1808 N1815q
    have S1816 : Ga T1815 (mkF m 263 #[vI ia, vI iu, vI ic, vI iz, vI ca, vI cb, vI cu, vI cv, vI (Int32.ofNat 1), vI cz_, vI f1, vI f2, vR sid, vR rl, vR pl, sl, vR ex, vR cl, vR ra] [(.int 1)]) := nx S1804 fun t kt => st1808 t (st1815 t (by
      show Sp p e below T1815 (mkF m 255 #[vI ia, vI iu, vI ic, vI iz, vI ca, vI cb, vI cu, vI cv, vI (Int32.ofNat 1), vI cz_, vI f1, vI f2, vR sid, vR rl, vR pl, sl, vR ex, vR cl, vR ra] [(.int 1)]) _
      refine XS.ifNo X1815.here hx rfl (hb hby at_255) rfl ((if0 _ _).trans (feq (show ¬ ((1 : Int32) = (0 : Int32)) from (by decide))).1) ?_
      refine XS.iconst X1815.here hx rfl (hb hby at_258) ?_
      refine XS.goto X1815.here hx rfl (pc0 := 259) (pc' := 263) rfl (hb hby at_259) (by decide) (by decide) ?_
      exact kt))
    obtain ⟨fs, hr, hrun, hended, hRE⟩ := X1815.leaveW hS (n := _) (by rw [e1815]; exact (Nat.le_trans (Nat.le_trans hki1780 E1782.1) K1808.1)) (v := some (.int 1)) (fun h => by first | rfl | (rw [Bd.returns] at h; cases h))
    refine ⟨_, _, (og S1816) _ ?_, hrun, hended, _, _, rfl, ?_, hRE.1, hRE.2.1, hRE.2.2.1, hRE.2.2.2.mono (by decide) (by decide)⟩
    · exact retN X1815 hx (t := .boolean) Bd.returns (by simp) (hb hby at_263) hr
    · show Q_law Z  h0 n0 _ T1815.heap _
      rw [e1815]
      exact ⟨rfl, N1815⟩
  · obtain ⟨u, v', rfl, ⟨ub, uk, HSu⟩, vb, vk, HSv⟩ := HEe.c2
    have VxJ : Arv Z T1728.heap ex kx .char 34 ((own_px ca cb ++ [cu, 44, 32, cv, 93, 93]).map Value.int) (.int 0) := Vx1728
    obtain ⟨Eu, Fu, Gu, Vu⟩ := HSu
    obtain ⟨Ev', Fv', Gv', Vv'⟩ := HSv
    have S1817 : Ga T1728 (mkF m 231 #[vI ia, vI iu, vI ic, vI iz, vI ca, vI cb, vI cu, vI cv, vI (Int32.ofNat 2), vI cz_, vI f1, vI f2, vR sid, vR rl, vR pl, sl, vR ex, vR cl, vU] [(.ref cl)]) := nx S1728 fun t kt => by
      refine XS.aload X1728.here hx rfl (hb hby at_229) rfl rfl ?_
      exact kt
    have z1818 := (Nat.le_trans (Nat.le_trans (Nat.le_trans z1637 K1638.1) K1653.1) K1728.1)
    have f1819 := (((f1636.keep K1638 (allS (Nat.le_trans hno g_pl) all0)).keep K1653 (allS (Nat.le_trans hno g_pl) all0)).keep K1728 all0)
    have f1820 := ((((f1626.ext E1625).keep K1638).keep K1653).keep K1728)
    have f1821 := (((((((F1546.ext E1548).keep K1557 (ninS ne1549 nin0)).keep K1602 (ninS ne1549 nin0)).ext E1625).keep K1638 (ninS ne1627 nin0)).keep K1653 (ninS ne1627 nin0)).keep K1728 nin0)
    have f1822 := (((((((G1546.ext E1548).keep K1557 (ninS ne1549 nin0)).keep K1602 (ninS ne1549 nin0)).ext E1625).keep K1638 (ninS ne1627 nin0)).keep K1653 (ninS ne1627 nin0)).keep K1728 nin0)
    have f1823 := ((((f1632.ext E1625).keep K1638 (ninS ne1633 nin0)).keep K1653 (ninS ne1633 nin0)).keep K1728 nin0)
    obtain ⟨cq1824, kq1824, q1824a, q1824b, q1824c⟩ := isOf hZ rfl Ec_1728
    obtain ⟨v1824, T1824, L1824, X1824, hQ1824, hS, hgr1824, hZ, hown, st1824⟩ := own_outSS hS (Nat.le_trans (Nat.le_trans (Nat.le_trans (Nat.le_trans (Nat.le_trans (Nat.le_trans (Nat.le_trans (Nat.le_trans (Nat.le_trans (Nat.le_trans (Nat.le_trans (Nat.le_trans hki0 E1530.1) E1532.1) (Keep.of_wr W1537).1) (Keep.of_wr W1540).1) K1546.1) E1548.1) K1557.1) K1602.1) E1625.1) K1638.1) K1653.1) K1728.1) hZ hown (X1728.virtualBackS hx (y := y35) (z := y35) hown (own_t hZ hw 215 rfl) (own_t hZ hw 216 rfl) (notFace_of_selects (args := #[]) (own_t hZ hw 218 rfl)) (own_t hZ hw 218 rfl) (own_t hZ hw 217 rfl) (by decide) (own_backS (W := 0) (Pv := fun U => IB Z U.vm []) (rm_cts2 hw no de em el ey cl sid tid kb1546 ca cb r1 u v' ub uk cu vb vk cv T1728.heap T1728.heap.size (Nat.le_refl _) SS (Nat.le_trans hno z1818) f1819 Fi1728 Fr1728 ⟨f1820, f1821, f1822, f1823⟩ (show own_L Z T1728.heap r1 (.ref u) (.ref v') from HI1728) ⟨Eu, Fu, Gu, Vu⟩ ⟨Ev', Fv', Gv', Vv'⟩ hc1 hc2 hc3 hc0 hcw rfl) hZ (own_h hw 219 rfl) (own_h hw 106 rfl) (by decide) (by decide) (own_ibU hPv)) q1824a q1824c (g := (mkF m 231 #[vI ia, vI iu, vI ic, vI iz, vI ca, vI cb, vI cu, vI cv, vI (Int32.ofNat 2), vI cz_, vI f1, vI f2, vR sid, vR rl, vR pl, sl, vR ex, vR cl, vU] [(.ref cl)])) rfl (by rw [hml]; rfl) (Steps.refl _) (argsL := []) (rest := []) (lenOf pd___Ljava_lang_String_ rfl) rfl (own_w rfl) (hb hby at_231) (fun _ _ => ⟨rfl, rfl, (by decide : 23 + 16 ≤ _), (by decide : 204 + 402 ≤ _)⟩))
    obtain ⟨ra, rb, kb1824, rfl, N1824q, K1824, szr1824, szq1824, E1824, F1824, G1824, V1824⟩ := hQ1824
    have N1824 := Fr.app N1728 (own_frm z1818 N1824q)
    have KK1824 : Keep T1602.heap T1824.heap [] := KK1728.trans K1824 all0
    have hki1824 := Nat.le_refl T1824.heap.size
    have S1825 : Ga T1824 (mkF m 243 #[vI ia, vI iu, vI ic, vI iz, vI ca, vI cb, vI cu, vI cv, vI (Int32.ofNat 2), vI cz_, vI f1, vI f2, vR sid, vR rl, vR pl, sl, vR ex, vR cl, vR ra] [(.ref ra)]) := nx S1817 fun t kt => st1824 t (by
      show Sp p e below T1824 (mkF m 234 #[vI ia, vI iu, vI ic, vI iz, vI ca, vI cb, vI cu, vI cv, vI (Int32.ofNat 2), vI cz_, vI f1, vI f2, vR sid, vR rl, vR pl, sl, vR ex, vR cl, vU] [(.ref ra)]) _
      refine XS.astore X1824.here hx rfl (hb hby at_234) rfl rfl (l' := #[vI ia, vI iu, vI ic, vI iz, vI ca, vI cb, vI cu, vI cv, vI (Int32.ofNat 2), vI cz_, vI f1, vI f2, vR sid, vR rl, vR pl, sl, vR ex, vR cl, vR ra]) rfl ?_
      refine XS.aload X1824.here hx rfl (hb hby at_236) rfl rfl ?_
      refine XS.ifnullNo X1824.here hx rfl (hb hby at_238) rfl ?_
      refine XS.aload X1824.here hx rfl (hb hby at_241) rfl rfl ?_
      show Sp p e below T1824 (mkF m 243 #[vI ia, vI iu, vI ic, vI iz, vI ca, vI cb, vI cu, vI cv, vI (Int32.ofNat 2), vI cz_, vI f1, vI f2, vR sid, vR rl, vR pl, sl, vR ex, vR cl, vR ra] [(.ref ra)]) _
      exact kt)
    obtain ⟨T1826, h1826, X1826, e1826, E1826, A1826, D1826, -, st1826⟩ := newO X1824 hx hZ hown (own_h hw 1 rfl) (own_h hw 2 rfl) (own_h hw 3 rfl) rfl (g := (mkF m 243 #[vI ia, vI iu, vI ic, vI iz, vI ca, vI cb, vI cu, vI cv, vI (Int32.ofNat 2), vI cz_, vI f1, vI f2, vR sid, vR rl, vR pl, sl, vR ex, vR cl, vR ra] [(.ref ra)])) rfl (hb hby at_243) (by decide) (by decide)
    obtain ⟨sn, g1826⟩ : ∃ z, z = T1824.heap.size := ⟨_, rfl⟩
    rw [← g1826] at A1826 D1826 st1826
    have f1827 := (f1820.keep K1824)
    have ne1828 : sid ≠ sn := by rw [g1826]; exact Nat.ne_of_lt f1827.lt
    have f1829 := (((((f1628.ext E1625).keep K1638).keep K1653).keep K1728).keep K1824)
    have ne1830 : rl ≠ sn := by rw [g1826]; exact Nat.ne_of_lt f1829.lt
    have f1831 := (((Ex1638.keep K1653).keep K1728).keep K1824)
    have ne1832 : pl ≠ sn := by rw [g1826]; exact Nat.ne_of_lt f1831.lt
    have f1833 := (Ec_1728.keep K1824)
    have ne1834 : cl ≠ sn := by rw [g1826]; exact Nat.ne_of_lt f1833.lt
    have f1835 := (Eu.keep K1824)
    have ne1836 : u ≠ sn := by rw [g1826]; exact Nat.ne_of_lt f1835.lt
    have f1837 := (Ev'.keep K1824)
    have ne1838 : v' ≠ sn := by rw [g1826]; exact Nat.ne_of_lt f1837.lt
    have ne1839 : ra ≠ sn := by rw [g1826]; exact Nat.ne_of_lt E1824.lt
    have f1840 := (((((f1630.ext E1625).keep K1638 (ninS ne1631 nin0)).keep K1653 (ninS ne1631 nin0)).keep K1728 nin0).keep K1824 nin0)
    have ne1841 : ar2 ≠ sn := by rw [g1826]; exact Nat.ne_of_lt f1840.lt
    have f1842 := (f1823.keep K1824 nin0)
    have ne1843 : tid ≠ sn := by rw [g1826]; exact Nat.ne_of_lt f1842.lt
    have f1844 := (VxJ.keep K1824 nin0)
    have ne1845 : ex ≠ sn := by rw [g1826]; exact Nat.ne_of_lt f1844.lt
    have f1846 := (Vu.keep K1824 nin0)
    have ne1847 : ub ≠ sn := by rw [g1826]; exact Nat.ne_of_lt f1846.lt
    have f1848 := (Vv'.keep K1824 nin0)
    have ne1849 : vb ≠ sn := by rw [g1826]; exact Nat.ne_of_lt f1848.lt
    have ne1850 : rb ≠ sn := by rw [g1826]; exact Nat.ne_of_lt V1824.lt
    have z1851 := (Nat.le_trans z1818 K1824.1)
    have g_sn : n0 ≤ sn := Nat.le_trans z1851 (Nat.le_of_eq g1826.symm)
    have sz_sn : T1602.heap.size ≤ sn := Nat.le_trans KK1824.1 (Nat.le_of_eq g1826.symm)
    have K1826 : Keep T1602.heap h1826 [] := KK1824.ext E1826
    have F_coder_sn : Fld Z h1826 sn "java/lang/String" "coder" "B" (.int 0) := D1826 (Or.inr (own_h hw 28 rfl)) (ty := .byte) (by decide)
    have F_value_sn : Fld Z h1826 sn "java/lang/String" "value" "[B" .null := D1826 (Or.inr (own_h hw 30 rfl)) (ty := (.array .byte)) (by decide)
    have S1852 : Ga T1826 (mkF m 249 #[vI ia, vI iu, vI ic, vI iz, vI ca, vI cb, vI cu, vI cv, vI (Int32.ofNat 2), vI cz_, vI f1, vI f2, vR sid, vR rl, vR pl, sl, vR ex, vR cl, vR ra] [(.ref ex), (.ref sn), (.ref sn), (.ref ra)]) := nx S1825 fun t kt => st1826 t (by
      show Sp p e below T1826 (mkF m 246 #[vI ia, vI iu, vI ic, vI iz, vI ca, vI cb, vI cu, vI cv, vI (Int32.ofNat 2), vI cz_, vI f1, vI f2, vR sid, vR rl, vR pl, sl, vR ex, vR cl, vR ra] [(.ref sn), (.ref ra)]) _
      refine XS.dup X1826.here hx rfl (hb hby at_246) rfl rfl ?_
      refine XS.aload X1826.here hx rfl (hb hby at_247) rfl rfl ?_
      exact kt)
    have hok : ∀ z ∈ ([67, 108, 105, 101, 110, 116, 91, 105, 100, 61, ca, cb, 44, 32, 114, 101, 100, 105, 114, 101, 99, 116, 85, 114, 105, 115, 61, 91, cu, 44, 32, cv, 93, 93] : List Int32), own_c z := fun z hz => by simp only [List.mem_cons, List.not_mem_nil, or_false] at hz; rcases hz with rfl | rfl | rfl | rfl | rfl | rfl | rfl | rfl | rfl | rfl | rfl | rfl | rfl | rfl | rfl | rfl | rfl | rfl | rfl | rfl | rfl | rfl | rfl | rfl | rfl | rfl | rfl | rfl | rfl | rfl | rfl | rfl | rfl | rfl <;> first | assumption | decide
    have f1853 := ((f1819.keep K1824 all0).ext E1826)
    have f1854 := (f1844.ext E1826)
    have z1855 := (Nat.le_trans z1851 E1826.1)
    obtain ⟨v1856, T1856, L1856, X1856, hQ1856, st1856⟩ := own_cI X1826 hx hZ hw hown hml 5 6 7 3 rfl rfl rfl rfl rfl (a := sn) (rm_si1 hw no de em el ey sn ex kx ([67, 108, 105, 101, 110, 116, 91, 105, 100, 61, ca, cb, 44, 32, 114, 101, 100, 105, 114, 101, 99, 116, 85, 114, 105, 115, 61, 91, cu, 44, 32, cv, 93, 93] : List Int32) h1826 n0 z1855 SS hno f1853 A1826 F_value_sn F_coder_sn g_sn f1854 hok (Nat.le_of_ble_eq_true rfl) (Nat.le_of_ble_eq_true rfl)) e1826 (W := 2) (g := (mkF m 249 #[vI ia, vI iu, vI ic, vI iz, vI ca, vI cb, vI cu, vI cv, vI (Int32.ofNat 2), vI cz_, vI f1, vI f2, vR sid, vR rl, vR pl, sl, vR ex, vR cl, vR ra] [(.ref ex), (.ref sn), (.ref sn), (.ref ra)])) rfl (argsL := [(.ref ex)]) (rest := [(.ref sn), (.ref ra)]) pd___C_V (hb hby at_249)
    obtain ⟨tn, kb1856, rfl, N1856q, K1856, sz1856, E1856, F1856, G1856, V1856⟩ := hQ1856
    have N1856 := Fr.app N1824 N1856q
    have KK1856 : Keep T1602.heap T1856.heap [] := K1826.trans K1856 (allS (Or.inr sz_sn) all0)
    have V1856' : Arv Z T1856.heap tn kb1856 .byte 34 (own_vs [67, 108, 105, 101, 110, 116, 91, 105, 100, 61, ca, cb, 44, 32, 114, 101, 100, 105, 114, 101, 99, 116, 85, 114, 105, 115, 61, 91, cu, 44, 32, cv, 93, 93]) (.int 0) := V1856
    have f1857 := (f1853.keep K1856 (allS (Nat.le_trans hno g_sn) all0))
    have f1858 := ((E1824.ext E1826).keep K1856)
    have f1859 := ((F1824.ext E1826).keep K1856 (ninS ne1839 nin0))
    have f1860 := ((G1824.ext E1826).keep K1856 (ninS ne1839 nin0))
    have f1861 := ((V1824.ext E1826).keep K1856 (ninS ne1850 nin0))
    have z1862 := (Nat.le_trans z1855 K1856.1)
    obtain ⟨v1863, T1863, L1863, X1863, hQ1863, st1863⟩ := own_cV1 X1856 hx hZ hw hown hml 438 439 441 440 442 3 rfl rfl rfl rfl rfl rfl f1858 (rm_seq hw no de em el ey ra rb kb1824 sn tn kb1856 ([67, 108, 105, 101, 110, 116, 91, 105, 100, 61, ca, cb, 44, 32, 114, 101, 100, 105, 114, 101, 99, 116, 85, 114, 105, 115, 61, 91, cu, 44, 32, cv, 93, 93] : List Int32) T1856.heap n0 z1862 SS hno f1857 ⟨f1858, f1859, f1860, f1861⟩ ⟨E1856, F1856, G1856, V1856'⟩ ne1839 (Nat.le_of_ble_eq_true rfl)) rfl (W := 0) (g := (mkF m 252 #[vI ia, vI iu, vI ic, vI iz, vI ca, vI cb, vI cu, vI cv, vI (Int32.ofNat 2), vI cz_, vI f1, vI f2, vR sid, vR rl, vR pl, sl, vR ex, vR cl, vR ra] [(.ref sn), (.ref ra)])) rfl (argsL := [(.ref sn)]) (rest := []) pd__Ljava_lang_Object__Z (hb hby at_252)
    obtain ⟨rfl, N1863q, e1863⟩ := hQ1863
    have N1863 := Fr.app N1856 N1863q
    have S1864 : Ga T1863 (mkF m 263 #[vI ia, vI iu, vI ic, vI iz, vI ca, vI cb, vI cu, vI cv, vI (Int32.ofNat 2), vI cz_, vI f1, vI f2, vR sid, vR rl, vR pl, sl, vR ex, vR cl, vR ra] [(.int 1)]) := nx S1852 fun t kt => st1856 t (st1863 t (by
      show Sp p e below T1863 (mkF m 255 #[vI ia, vI iu, vI ic, vI iz, vI ca, vI cb, vI cu, vI cv, vI (Int32.ofNat 2), vI cz_, vI f1, vI f2, vR sid, vR rl, vR pl, sl, vR ex, vR cl, vR ra] [(.int 1)]) _
      refine XS.ifNo X1863.here hx rfl (hb hby at_255) rfl ((if0 _ _).trans (feq (show ¬ ((1 : Int32) = (0 : Int32)) from (by decide))).1) ?_
      refine XS.iconst X1863.here hx rfl (hb hby at_258) ?_
      refine XS.goto X1863.here hx rfl (pc0 := 259) (pc' := 263) rfl (hb hby at_259) (by decide) (by decide) ?_
      exact kt))
    obtain ⟨fs, hr, hrun, hended, hRE⟩ := X1863.leaveW hS (n := _) (by rw [e1863]; exact (Nat.le_trans (Nat.le_trans hki1824 E1826.1) K1856.1)) (v := some (.int 1)) (fun h => by first | rfl | (rw [Bd.returns] at h; cases h))
    refine ⟨_, _, (og S1864) _ ?_, hrun, hended, _, _, rfl, ?_, hRE.1, hRE.2.1, hRE.2.2.1, hRE.2.2.2.mono (by decide) (by decide)⟩
    · exact retN X1863 hx (t := .boolean) Bd.returns (by simp) (hb hby at_263) hr
    · show Q_law Z  h0 n0 _ T1863.heap _
      rw [e1863]
      exact ⟨rfl, N1863⟩
theorem comes_1 {Post : Tables → Env → Array Value → State → Outcome → State → Prop} (hpost : ∀ tb e args s v u, (limb_1_1.after args s (.returned v) u = true ∧ limb_1_2.after args s (.returned v) u = true ∧ True) → ReturnedEndW s (.returned v) u (Jvm.fieldLocs frame_1_writes args s ++ Jvm.arrayLocs frame_1_arrays args s ++ Jvm.staticLocs frame_1_statics s) 88 4736 → Post tb e args s (.returned v) u) :
    ArmFor flags0 classFile x code maxLocals ret World_1 tables_1 room_1 Calls_1 rest_1 Pre_1 Post := by
  intro l hfl _ _ p e ha hc hk s m args below hf hA hF happ hP
  obtain ⟨hcalls, hrest, hpre⟩ := hP
  obtain ⟨-, -, -, hnamed, -, -, -, hat⟩ := (Spec.applies_iff hf).mp happ
  obtain ⟨hg, hn⟩ := and_e (Cond.before_iff.mp (show (Jvm.Cond.and given_1 narrow_1).before args s = true from hpre))
  obtain ⟨hcount, r0⟩ := and_e hg
  obtain ⟨v0, r1⟩ := and_e r0
  obtain ⟨v1, r2⟩ := and_e r1
  obtain ⟨v2, r3⟩ := and_e r2
  obtain ⟨w0, w1, w2, w3, rfl⟩ : ∃ w0 w1 w2 w3 : Value, args = #[w0, w1, w2, w3] := by
    have hs : args.size = 4 := by simpa [Cond.value, given_1] using hcount
    obtain ⟨L⟩ := args
    match L, hs with
    | [w0, w1, w2, w3], _ => exact ⟨w0, w1, w2, w3, rfl⟩
  have hw := fun d (hd : d ∈ tables_1) => atoms_spec (ws := Jvm.Cond.code x code maxLocals ret :: tables_1) hat d (List.mem_cons_of_mem _ hd)
  have hfit : Fit s := fun {y c} hc i hi => by
    obtain ⟨ha, rfl⟩ := Array.getElem?_eq_some_iff.mp hc
    have q := List.all_eq_true.mp ((Array.all_eq_true_iff_forall_mem.mp hF) _ (Array.getElem_mem ha)) i (List.mem_range.mpr hi)
    simpa [Array.getElem?_eq_getElem hi] using q
  obtain ⟨hsets, hown0⟩ := atoms_of _ (rest_1_c_eq ▸ (show rest_1_c.before _ s = true from hrest))
  have hr0 := Cond.before_iff.mp hown0
  obtain ⟨i0, ei0⟩ := is_v v0
  obtain rfl : w0 = (.int i0) := Option.some.inj ei0
  obtain ⟨i1, ei1⟩ := is_v v1
  obtain rfl : w1 = (.int i1) := Option.some.inj ei1
  obtain ⟨i2, ei2⟩ := is_v v2
  obtain rfl : w2 = (.int i2) := Option.some.inj ei2
  obtain ⟨i3, ei3⟩ := is_v r3
  obtain rfl : w3 = (.int i3) := Option.some.inj ei3
  obtain ⟨de, em, el, ey, SS⟩ := own_ss hsets hw hfit
  obtain ⟨cM, kM, mir, hm1, hm2, hm3⟩ := hcalls.1
  obtain ⟨n, o, h1, h2, h3, _, L, rfl, ⟨rfl, N⟩, hq⟩ := rm_law l s _ hw tables_1 i0 i1 i2 i3 s.heap s.heap.size (Nat.le_refl _) s.heap.size de em el ey mir SS (Nat.le_refl _) (Old.start s) ⟨cM, kM, hm1, hm2, hm3.1⟩ (hcalls.2.1 ("java/util/AbstractCollection", 92) (by simp [consts_1])) (hcalls.2.1 ("com/example/passlane/passlane/oidc/Client", 59) (by simp [consts_1])) (hcalls.2.1 ("com/example/passlane/passlane/oidc/Client", 65) (by simp [consts_1])) (hcalls.2.1 ("com/example/passlane/passlane/oidc/Client", 70) (by simp [consts_1])) (hsets _ (List.mem_of_getElem? (i := 2) rfl)) p e ha hc hk s m _ below hf ((Spec.applies_iff_loose hf).mp happ).1 ⟨rfl, State.Warmed39.refl s, rfl, IB.start⟩ trivial
  refine ⟨n, _, h1, h2, h3, hpost _ _ _ _ _ _ ⟨Cond.after_iff.mpr rfl, Cond.after_iff.mpr (eq_i res_at (Term.int_eval (1)) rfl), trivial⟩ ⟨hq.1, hq.2.1, hq.2.2.1, (hq.2.2.2.sift fun y hy => Or.inr (N y hy)).mono (by decide) (by decide)⟩⟩
theorem main_1_1 : Claimed_1_1 := comes_1 fun _ _ _ _ _ _ h hF => ⟨h.1, hF⟩
theorem main_1_2 : Claimed_1_2 := comes_1 fun _ _ _ _ _ _ h hF => ⟨h.2.1, hF⟩
end Jvm.Pilot.@@N@@
namespace Jvm.Pilot.@@N@@
open Jvm Jvm.ClassFile Sem Op Lib Jvm.Free Jvm.Stand Jvm.Pilot.@@N@@.Jvm.D
/-! MADE BY PROGRAM (witnessworld.py) out of the Statement's table words and the real class files: 46 classes; the members and pool entries that the words name. The judged class is class 1, her method 1. -/
namespace start1
open Jvm.ClassFile
def u (s : String) : CpInfo := .utf8 (stringToUtf16 s)
/-- a pool by its gaps: so many unusable entries, then the entry; so many at the end -/
def gap : Nat → List CpInfo → List CpInfo
  | 0, r => r
  | n + 1, r => .unusable :: gap n r
def poolList (es : List (Nat × CpInfo)) (last : Nat) : List CpInfo := es.foldr (fun e r => gap e.1 (e.2 :: r)) (gap last [])
def pool (es : List (Nat × CpInfo)) (last : Nat) : Array CpInfo := ⟨poolList es last⟩
def fileOf (pool : Array CpInfo) (this : Nat) (attrs : Array Attribute := #[]) (ms : Array MethodInfo := #[]) (fl : Nat := 33) (sup : Nat := 0) (ifs : Array Nat := #[]) (fds : Array FieldInfo := #[]) : ClassFile where
  minorVersion := 0
  majorVersion := 65
  constantPool := pool
  accessFlags := fl
  thisClass := this
  superClass := sup
  interfaces := ifs
  fields := fds
  methods := ms
  attributes := attrs
def plain (name : String) (sup : Option ClassId) : Class where
  name := name
  kind := .ordinary
  loader := none
  accessFlags := 33
  super := sup
  interfaces := #[]
  cf := none
  fields := #[]
  methods := #[]
  instanceTypes := #[]
  staticTypes := #[]
  resolved := #[]
  callSites := []
  init := .initialized
  statics := none
  mirror := none

def pool0 : Array CpInfo := pool [(5, u "<init>"), (0, u "()V"), (1, .class_ 10), (1, u "java/lang/Object"), (0, u "getClass"), (0, u "()Ljava/lang/Class;"), (5, u "()Ljava/lang/String;"), (18, u "toString"), (58, u "clone"), (0, u "()Ljava/lang/Object;")] 26

def k0c0 : Code := { maxStack := 0, maxLocals := 1, code := object_method_1_code, exceptionTable := #[], attributes := #[] }
def k0m0 : Method := { name := "<init>", desc := "()V", sig := { parameters := [], returnType := none }, accessFlags := 1, code := some k0c0 }
def k0m1 : Method := { name := "getClass", desc := "()Ljava/lang/Class;", sig := { parameters := [], returnType := some (.object "java/lang/Class") }, accessFlags := 273, code := none }
def k0m2 : Method := { name := "clone", desc := "()Ljava/lang/Object;", sig := { parameters := [], returnType := some (.object "java/lang/Object") }, accessFlags := 260, code := none }
def k0m3 : Method := { name := "toString", desc := "()Ljava/lang/String;", sig := { parameters := [], returnType := some (.object "java/lang/String") }, accessFlags := 1, code := none }
/-- java/lang/Object -/
def k0 : Class := { plain "java/lang/Object" none with
  accessFlags := 33
  interfaces := #[]
  cf := some (fileOf pool0 8 #[] #[{ accessFlags := 1, nameIndex := 5, descriptorIndex := 6, attributes := #[] }, { accessFlags := 273, nameIndex := 11, descriptorIndex := 12, attributes := #[] }, { accessFlags := 260, nameIndex := 96, descriptorIndex := 97, attributes := #[] }, { accessFlags := 1, nameIndex := 37, descriptorIndex := 18, attributes := #[] }] 33 0 #[] #[])
  fields := #[]
  methods := #[k0m0, k0m1, k0m2, k0m3]
  instanceTypes := #[]
  staticTypes := #[]
  resolved := Array.replicate 124 none
  statics := none }

def pool1 : Array CpInfo := pool [(2, .class_ 4), (0, .nameAndType 5 6), (0, u "java/lang/Object"), (0, u "<init>"), (0, u "()V"), (0, .integer 2147483647), (0, .class_ 9), (0, u "java/lang/String"), (0, .methodref 8 11), (0, .nameAndType 5 12), (0, u "([C)V"), (0, .class_ 14), (0, u "java/util/ArrayList"), (0, .methodref 13 3), (0, .methodref 8 17), (0, .nameAndType 18 19), (0, u "valueOf"), (0, u "(C)Ljava/lang/String;"), (0, .methodref 13 21), (0, .nameAndType 22 23), (0, u "add"), (0, u "(Ljava/lang/Object;)Z"), (0, .methodref 25 26), (0, .class_ 27), (0, .nameAndType 28 29), (0, u "com/example/passlane/passlane/oidc/ClientToStringPinLaw"), (0, u "expected"), (0, u "(CCICC)[C"), (0, .class_ 31), (0, u "com/example/passlane/passlane/oidc/Client"), (0, .methodref 30 33), (0, .nameAndType 5 34), (0, u "(Ljava/lang/String;Ljava/lang/String;Ljava/util/List;Ljava/util/List;Ljava/lang/String;)V"), (0, .methodref 30 36), (0, .nameAndType 37 38), (0, u "toString"), (0, u "()Ljava/lang/String;"), (0, .methodref 8 40), (0, .nameAndType 41 23), (0, u "equals"), (2, u "law"), (0, u "(IIII)Z")] 5

def k1m0 : Method := { name := "<init>", desc := "()V", sig := { parameters := [], returnType := none }, accessFlags := 1, code := none }
def k1c1 : Code := { maxStack := 7, maxLocals := 19, code := code, exceptionTable := #[], attributes := #[] }
def k1m1 : Method := { name := "law", desc := "(IIII)Z", sig := { parameters := [.int, .int, .int, .int], returnType := some .boolean }, accessFlags := 9, code := some k1c1 }
def k1c2 : Code := { maxStack := 3, maxLocals := 6, code := method_3_code, exceptionTable := #[], attributes := #[] }
def k1m2 : Method := { name := "expected", desc := "(CCICC)[C", sig := { parameters := [.char, .char, .int, .char, .char], returnType := some (.array .char) }, accessFlags := 10, code := some k1c2 }
/-- com/example/passlane/passlane/oidc/ClientToStringPinLaw -/
def k1 : Class := { plain "com/example/passlane/passlane/oidc/ClientToStringPinLaw" (some 0) with
  accessFlags := 49
  interfaces := #[]
  cf := some (fileOf pool1 25 #[] #[{ accessFlags := 1, nameIndex := 5, descriptorIndex := 6, attributes := #[] }, { accessFlags := 9, nameIndex := 44, descriptorIndex := 45, attributes := #[] }, { accessFlags := 10, nameIndex := 28, descriptorIndex := 29, attributes := #[] }] 49 2 #[] #[])
  fields := #[]
  methods := #[k1m0, k1m1, k1m2]
  instanceTypes := #[]
  staticTypes := #[]
  resolved := Array.replicate 51 none
  statics := none }

def pool2 : Array CpInfo := pool [(1, .class_ 2), (0, u "java/io/Serializable"), (0, .class_ 4), (0, u "java/lang/Object")] 2

/-- java/io/Serializable -/
def k2 : Class := { plain "java/io/Serializable" (some 0) with
  accessFlags := 1537
  interfaces := #[]
  cf := some (fileOf pool2 1 #[] #[] 1537 3 #[] #[])
  fields := #[]
  methods := #[]
  instanceTypes := #[]
  staticTypes := #[]
  resolved := Array.replicate 7 none
  statics := none }

def pool3 : Array CpInfo := pool [(1, .class_ 2), (0, u "java/lang/Comparable"), (0, .class_ 4), (0, u "java/lang/Object")] 7

/-- java/lang/Comparable -/
def k3 : Class := { plain "java/lang/Comparable" (some 0) with
  accessFlags := 1537
  interfaces := #[]
  cf := some (fileOf pool3 1 #[] #[] 1537 3 #[] #[])
  fields := #[]
  methods := #[]
  instanceTypes := #[]
  staticTypes := #[]
  resolved := Array.replicate 12 none
  statics := none }

def pool4 : Array CpInfo := pool [(2, .class_ 4), (1, u "java/lang/CharSequence"), (42, .class_ 48), (0, u "java/lang/CharSequence$1CodePointIterator"), (10, .class_ 60), (0, u "java/lang/CharSequence$1CharIterator"), (5, .class_ 67), (0, u "java/lang/Object")] 63

/-- java/lang/CharSequence -/
def k4 : Class := { plain "java/lang/CharSequence" (some 0) with
  accessFlags := 1537
  interfaces := #[]
  cf := some (fileOf pool4 2 #[.nestMembers #[47, 59]] #[] 1537 66 #[] #[])
  fields := #[]
  methods := #[]
  instanceTypes := #[]
  staticTypes := #[]
  resolved := Array.replicate 131 none
  statics := none }

def pool5 : Array CpInfo := pool [(1, .class_ 2), (0, u "java/lang/constant/Constable"), (0, .class_ 4), (0, u "java/lang/Object")] 6

/-- java/lang/constant/Constable -/
def k5 : Class := { plain "java/lang/constant/Constable" (some 0) with
  accessFlags := 1537
  interfaces := #[]
  cf := some (fileOf pool5 1 #[] #[] 1537 3 #[] #[])
  fields := #[]
  methods := #[]
  instanceTypes := #[]
  staticTypes := #[]
  resolved := Array.replicate 11 none
  statics := none }

def pool6 : Array CpInfo := pool [(1, .class_ 2), (0, u "java/lang/constant/ConstantDesc"), (0, .class_ 4), (0, u "java/lang/Object")] 32

/-- java/lang/constant/ConstantDesc -/
def k6 : Class := { plain "java/lang/constant/ConstantDesc" (some 0) with
  accessFlags := 1537
  interfaces := #[]
  cf := some (fileOf pool6 1 #[] #[] 1537 3 #[] #[])
  fields := #[]
  methods := #[]
  instanceTypes := #[]
  staticTypes := #[]
  resolved := Array.replicate 37 none
  statics := none }

def pool7 : Array CpInfo := pool [(1, .methodref 2 3), (0, .class_ 4), (0, .nameAndType 5 6), (0, u "java/lang/Object"), (0, u "<init>"), (0, u "()V"), (2, .fieldref 10 11), (0, .class_ 12), (0, .nameAndType 13 14), (0, u "java/lang/String"), (0, u "value"), (0, u "[B"), (0, .fieldref 10 16), (0, .nameAndType 17 18), (0, u "coder"), (0, u "B"), (2, u "hash"), (0, u "I"), (2, u "hashIsZero"), (0, u "Z"), (0, .methodref 10 28), (0, .nameAndType 5 29), (0, u "([CIILjava/lang/Void;)V"), (8, .fieldref 10 39), (0, .nameAndType 40 26), (0, u "COMPACT_STRINGS"), (1, .class_ 44), (1, u "java/lang/StringUTF16"), (0, u "compress"), (1, .methodref 42 48), (0, .nameAndType 49 50), (0, u "coderFromArrayLen"), (0, u "([BI)B"), (2, u "toBytes"), (0, .methodref 55 56), (0, .class_ 57), (0, .nameAndType 58 59), (0, u "java/util/Arrays"), (0, u "copyOfRange"), (0, u "([BII)[B"), (47, .class_ 109), (1, u "java/lang/StringLatin1"), (32, u "()Z"), (34, .methodref 42 178), (0, .nameAndType 45 179), (0, u "([CII)[B"), (13, .class_ 195), (1, u "java/lang/System"), (13, .methodref 10 210), (0, .nameAndType 5 211), (0, u "([BB)V"), (0, .methodref 193 213), (0, .nameAndType 214 215), (0, u "arraycopy"), (0, u "(Ljava/lang/Object;ILjava/lang/Object;II)V"), (118, u "()I"), (0, .methodref 10 336), (0, .nameAndType 17 337), (0, u "()B"), (2, u "()[B"), (28, u "(C)Z"), (92, .nameAndType 463 464), (0, u "toString"), (0, u "()Ljava/lang/String;"), (24, .methodref 10 490), (0, .nameAndType 5 491), (0, u "(Ljava/lang/AbstractStringBuilder;Ljava/lang/Void;)V"), (1, .nameAndType 494 142), (0, u "isLatin1"), (11, .nameAndType 507 334), (0, u "length"), (24, u "getBytes"), (8, .methodref 107 542), (0, .nameAndType 543 544), (0, u "equals"), (0, u "([B[B)Z"), (4, .methodref 550 506), (0, .class_ 551), (0, u "java/lang/AbstractStringBuilder"), (0, .methodref 550 553), (0, .nameAndType 554 340), (0, u "getValue"), (18, u "(Ljava/lang/Object;)Z"), (1, .class_ 576), (0, u "java/lang/CharSequence"), (22, u "CASE_INSENSITIVE_ORDER"), (0, u "Ljava/util/Comparator;"), (181, u "valueOf"), (0, u "(C)Ljava/lang/String;"), (24, u "(Ljava/lang/Object;)Ljava/lang/String;"), (12, u "([BIB)V"), (185, .methodref 2 462), (2, u "([C)V"), (4, .methodref 107 1016), (0, .nameAndType 1017 369), (0, u "canEncode"), (0, .methodref 107 1019), (0, .nameAndType 53 1020), (0, u "(C)[B"), (26, .methodref 550 493), (53, u "serialPersistentFields"), (0, u "[Ljava/io/ObjectStreamField;"), (0, .class_ 1104), (0, u "java/lang/String$CaseInsensitiveComparator"), (1, .class_ 1107), (0, u "java/io/Serializable"), (0, .class_ 1109), (0, u "java/lang/Comparable"), (0, .class_ 1111), (0, u "java/lang/constant/Constable"), (0, .class_ 1113), (0, u "java/lang/constant/ConstantDesc"), (2, u "serialVersionUID"), (0, u "J"), (3, u "REPL"), (0, u "C"), (2, u "LATIN1"), (1, u "UTF16"), (105, u "(Ljava/lang/StringBuilder;)V")] 217

def k7m0 : Method := { name := "<init>", desc := "()V", sig := { parameters := [], returnType := none }, accessFlags := 1, code := none }
def k7c1 : Code := { maxStack := 5, maxLocals := 2, code := jdk_42_method_3_code, exceptionTable := #[], attributes := #[] }
def k7m1 : Method := { name := "<init>", desc := "([C)V", sig := { parameters := [(.array .char)], returnType := none }, accessFlags := 1, code := some k7c1 }
def k7c2 : Code := { maxStack := 3, maxLocals := 2, code := jdk_42_method_53_code, exceptionTable := #[], attributes := #[] }
def k7m2 : Method := { name := "<init>", desc := "(Ljava/lang/StringBuilder;)V", sig := { parameters := [(.object "java/lang/StringBuilder")], returnType := none }, accessFlags := 1, code := some k7c2 }
def k7c3 : Code := { maxStack := 2, maxLocals := 1, code := jdk_42_method_54_code, exceptionTable := #[], attributes := #[] }
def k7m3 : Method := { name := "length", desc := "()I", sig := { parameters := [], returnType := some .int }, accessFlags := 1, code := some k7c3 }
def k7c4 : Code := { maxStack := 2, maxLocals := 3, code := jdk_42_method_66_code, exceptionTable := #[], attributes := #[] }
def k7m4 : Method := { name := "equals", desc := "(Ljava/lang/Object;)Z", sig := { parameters := [(.object "java/lang/Object")], returnType := some .boolean }, accessFlags := 1, code := some k7c4 }
def k7c5 : Code := { maxStack := 1, maxLocals := 1, code := jdk_42_method_126_code, exceptionTable := #[], attributes := #[] }
def k7m5 : Method := { name := "toString", desc := "()Ljava/lang/String;", sig := { parameters := [], returnType := some (.object "java/lang/String") }, accessFlags := 1, code := some k7c5 }
def k7c6 : Code := { maxStack := 1, maxLocals := 1, code := jdk_42_method_133_code, exceptionTable := #[], attributes := #[] }
def k7m6 : Method := { name := "valueOf", desc := "(Ljava/lang/Object;)Ljava/lang/String;", sig := { parameters := [(.object "java/lang/Object")], returnType := some (.object "java/lang/String") }, accessFlags := 9, code := some k7c6 }
def k7c7 : Code := { maxStack := 4, maxLocals := 1, code := jdk_42_method_139_code, exceptionTable := #[], attributes := #[] }
def k7m7 : Method := { name := "valueOf", desc := "(C)Ljava/lang/String;", sig := { parameters := [.char], returnType := some (.object "java/lang/String") }, accessFlags := 9, code := some k7c7 }
def k7c8 : Code := { maxStack := 5, maxLocals := 4, code := jdk_42_method_147_code, exceptionTable := #[], attributes := #[] }
def k7m8 : Method := { name := "getBytes", desc := "([BIB)V", sig := { parameters := [(.array .byte), .int, .byte], returnType := none }, accessFlags := 0, code := some k7c8 }
def k7c9 : Code := { maxStack := 4, maxLocals := 6, code := jdk_42_method_149_code, exceptionTable := #[], attributes := #[] }
def k7m9 : Method := { name := "<init>", desc := "([CIILjava/lang/Void;)V", sig := { parameters := [(.array .char), .int, .int, (.object "java/lang/Void")], returnType := none }, accessFlags := 2, code := some k7c9 }
def k7c10 : Code := { maxStack := 5, maxLocals := 5, code := jdk_42_method_150_code, exceptionTable := #[], attributes := #[] }
def k7m10 : Method := { name := "<init>", desc := "(Ljava/lang/AbstractStringBuilder;Ljava/lang/Void;)V", sig := { parameters := [(.object "java/lang/AbstractStringBuilder"), (.object "java/lang/Void")], returnType := none }, accessFlags := 0, code := some k7c10 }
def k7c11 : Code := { maxStack := 2, maxLocals := 3, code := jdk_42_method_151_code, exceptionTable := #[], attributes := #[] }
def k7m11 : Method := { name := "<init>", desc := "([BB)V", sig := { parameters := [(.array .byte), .byte], returnType := none }, accessFlags := 0, code := some k7c11 }
def k7c12 : Code := { maxStack := 1, maxLocals := 1, code := jdk_42_method_152_code, exceptionTable := #[], attributes := #[] }
def k7m12 : Method := { name := "coder", desc := "()B", sig := { parameters := [], returnType := some .byte }, accessFlags := 0, code := some k7c12 }
/-- java/lang/String -/
def k7 : Class := { plain "java/lang/String" (some 0) with
  accessFlags := 49
  interfaces := #[2, 3, 4, 5, 6]
  cf := some (fileOf pool7 10 #[.nestMembers #[1103]] #[{ accessFlags := 1, nameIndex := 5, descriptorIndex := 6, attributes := #[] }, { accessFlags := 1, nameIndex := 5, descriptorIndex := 1010, attributes := #[] }, { accessFlags := 1, nameIndex := 5, descriptorIndex := 1233, attributes := #[] }, { accessFlags := 1, nameIndex := 507, descriptorIndex := 334, attributes := #[] }, { accessFlags := 1, nameIndex := 543, descriptorIndex := 573, attributes := #[] }, { accessFlags := 1, nameIndex := 463, descriptorIndex := 464, attributes := #[] }, { accessFlags := 9, nameIndex := 782, descriptorIndex := 808, attributes := #[] }, { accessFlags := 9, nameIndex := 782, descriptorIndex := 783, attributes := #[] }, { accessFlags := 0, nameIndex := 532, descriptorIndex := 821, attributes := #[] }, { accessFlags := 2, nameIndex := 5, descriptorIndex := 29, attributes := #[] }, { accessFlags := 0, nameIndex := 5, descriptorIndex := 491, attributes := #[] }, { accessFlags := 0, nameIndex := 5, descriptorIndex := 211, attributes := #[] }, { accessFlags := 0, nameIndex := 17, descriptorIndex := 337, attributes := #[] }] 49 2 #[1106, 1108, 575, 1110, 1112] #[{ accessFlags := 18, nameIndex := 13, descriptorIndex := 14, attributes := #[] }, { accessFlags := 18, nameIndex := 17, descriptorIndex := 18, attributes := #[] }, { accessFlags := 2, nameIndex := 21, descriptorIndex := 22, attributes := #[] }, { accessFlags := 2, nameIndex := 25, descriptorIndex := 26, attributes := #[] }, { accessFlags := 26, nameIndex := 1116, descriptorIndex := 1117, attributes := #[] }, { accessFlags := 24, nameIndex := 40, descriptorIndex := 26, attributes := #[] }, { accessFlags := 26, nameIndex := 1101, descriptorIndex := 1102, attributes := #[] }, { accessFlags := 26, nameIndex := 1121, descriptorIndex := 1122, attributes := #[] }, { accessFlags := 25, nameIndex := 599, descriptorIndex := 600, attributes := #[] }, { accessFlags := 24, nameIndex := 1125, descriptorIndex := 18, attributes := #[] }, { accessFlags := 24, nameIndex := 1127, descriptorIndex := 18, attributes := #[] }])
  fields := #[{ name := "value", type := (.array .byte), accessFlags := 18, slot := 0, constantValue := 0 }, { name := "coder", type := .byte, accessFlags := 18, slot := 1, constantValue := 0 }, { name := "hash", type := .int, accessFlags := 2, slot := 2, constantValue := 0 }, { name := "hashIsZero", type := .boolean, accessFlags := 2, slot := 3, constantValue := 0 }, { name := "serialVersionUID", type := .long, accessFlags := 26, slot := 0, constantValue := 0 }, { name := "COMPACT_STRINGS", type := .boolean, accessFlags := 24, slot := 1, constantValue := 0 }, { name := "serialPersistentFields", type := (.array (.object "java/io/ObjectStreamField")), accessFlags := 26, slot := 2, constantValue := 0 }, { name := "REPL", type := .char, accessFlags := 26, slot := 3, constantValue := 0 }, { name := "CASE_INSENSITIVE_ORDER", type := (.object "java/util/Comparator"), accessFlags := 25, slot := 4, constantValue := 0 }, { name := "LATIN1", type := .byte, accessFlags := 24, slot := 5, constantValue := 0 }, { name := "UTF16", type := .byte, accessFlags := 24, slot := 6, constantValue := 0 }]
  methods := #[k7m0, k7m1, k7m2, k7m3, k7m4, k7m5, k7m6, k7m7, k7m8, k7m9, k7m10, k7m11, k7m12]
  instanceTypes := #[(.array .byte), .byte, .int, .boolean]
  staticTypes := #[.long, .boolean, (.array (.object "java/io/ObjectStreamField")), .char, (.object "java/util/Comparator"), .byte, .byte]
  resolved := Array.replicate 1451 none
  statics := some 0 }

def pool8 : Array CpInfo := pool [(6, .class_ 8), (1, u "java/lang/Object"), (0, u "<init>"), (0, u "()V"), (1, .class_ 14), (1, u "java/lang/StringUTF16"), (31, u "$assertionsDisabled"), (0, u "Z"), (13, u "HI_BYTE_SHIFT"), (0, u "I"), (2, u "LO_BYTE_SHIFT"), (49, .methodref 12 116), (0, .nameAndType 117 118), (0, u "compress"), (0, u "([CI[BII)I"), (3, u "([CII)[B"), (138, u "coderFromArrayLen"), (0, u "([BI)B"), (106, .class_ 371), (1, u "java/lang/StringUTF16$LinesSpliterator"), (58, u "MAX_LENGTH"), (196, .class_ 628), (0, u "java/lang/StringUTF16$CodePointsSpliterator"), (0, .class_ 630), (0, u "java/lang/StringUTF16$CharsSpliterator")] 4

def k8m0 : Method := { name := "<init>", desc := "()V", sig := { parameters := [], returnType := none }, accessFlags := 0, code := none }
def k8c1 : Code := { maxStack := 2, maxLocals := 2, code := jdk_52_method_15_code, exceptionTable := #[], attributes := #[] }
def k8m1 : Method := { name := "coderFromArrayLen", desc := "([BI)B", sig := { parameters := [(.array .byte), .int], returnType := some .byte }, accessFlags := 8, code := some k8c1 }
def k8c2 : Code := { maxStack := 5, maxLocals := 6, code := jdk_52_method_16_code, exceptionTable := #[], attributes := #[] }
def k8m2 : Method := { name := "compress", desc := "([CII)[B", sig := { parameters := [(.array .char), .int, .int], returnType := some (.array .byte) }, accessFlags := 9, code := some k8c2 }
def k8c3 : Code := { maxStack := 3, maxLocals := 7, code := jdk_52_method_21_code, exceptionTable := #[], attributes := #[] }
def k8m3 : Method := { name := "compress", desc := "([CI[BII)I", sig := { parameters := [(.array .char), .int, (.array .byte), .int, .int], returnType := some .int }, accessFlags := 9, code := some k8c3 }
/-- java/lang/StringUTF16 -/
def k8 : Class := { plain "java/lang/StringUTF16" (some 0) with
  accessFlags := 48
  interfaces := #[]
  cf := some (fileOf pool8 12 #[.nestMembers #[627, 629, 369]] #[{ accessFlags := 0, nameIndex := 9, descriptorIndex := 10, attributes := #[] }, { accessFlags := 8, nameIndex := 261, descriptorIndex := 262, attributes := #[] }, { accessFlags := 9, nameIndex := 117, descriptorIndex := 122, attributes := #[] }, { accessFlags := 9, nameIndex := 117, descriptorIndex := 118, attributes := #[] }] 48 6 #[] #[{ accessFlags := 26, nameIndex := 61, descriptorIndex := 62, attributes := #[] }, { accessFlags := 26, nameIndex := 65, descriptorIndex := 62, attributes := #[] }, { accessFlags := 24, nameIndex := 430, descriptorIndex := 62, attributes := #[] }, { accessFlags := 4120, nameIndex := 46, descriptorIndex := 47, attributes := #[] }])
  fields := #[{ name := "HI_BYTE_SHIFT", type := .int, accessFlags := 26, slot := 0, constantValue := 0 }, { name := "LO_BYTE_SHIFT", type := .int, accessFlags := 26, slot := 1, constantValue := 0 }, { name := "MAX_LENGTH", type := .int, accessFlags := 24, slot := 2, constantValue := 0 }, { name := "$assertionsDisabled", type := .boolean, accessFlags := 4120, slot := 3, constantValue := 0 }]
  methods := #[k8m0, k8m1, k8m2, k8m3]
  instanceTypes := #[]
  staticTypes := #[.int, .int, .int, .boolean]
  resolved := Array.replicate 635 none
  statics := none }

def pool9 : Array CpInfo := pool [(8, .class_ 10), (1, u "java/lang/Iterable"), (24, .class_ 36), (0, u "java/lang/Object")] 25

/-- java/lang/Iterable -/
def k9 : Class := { plain "java/lang/Iterable" (some 0) with
  accessFlags := 1537
  interfaces := #[]
  cf := some (fileOf pool9 8 #[] #[] 1537 35 #[] #[])
  fields := #[]
  methods := #[]
  instanceTypes := #[]
  staticTypes := #[]
  resolved := Array.replicate 62 none
  statics := none }

def pool10 : Array CpInfo := pool [(10, .class_ 12), (1, u "java/util/Collection"), (0, u "toArray"), (16, u "()Z"), (29, .class_ 61), (0, u "java/lang/Object"), (0, .class_ 63), (0, u "java/lang/Iterable"), (2, u "isEmpty"), (3, u "()[Ljava/lang/Object;")] 44

def k10m0 : Method := { name := "isEmpty", desc := "()Z", sig := { parameters := [], returnType := some .boolean }, accessFlags := 1025, code := none }
def k10m1 : Method := { name := "toArray", desc := "()[Ljava/lang/Object;", sig := { parameters := [], returnType := some (.array (.object "java/lang/Object")) }, accessFlags := 1025, code := none }
/-- java/util/Collection -/
def k10 : Class := { plain "java/util/Collection" (some 0) with
  accessFlags := 1537
  interfaces := #[9]
  cf := some (fileOf pool10 10 #[] #[{ accessFlags := 1025, nameIndex := 66, descriptorIndex := 30, attributes := #[] }, { accessFlags := 1025, nameIndex := 13, descriptorIndex := 70, attributes := #[] }] 1537 60 #[62] #[])
  fields := #[]
  methods := #[k10m0, k10m1]
  instanceTypes := #[]
  staticTypes := #[]
  resolved := Array.replicate 115 none
  statics := none }

def pool11 : Array CpInfo := pool [(1, .methodref 2 3), (0, .class_ 4), (0, .nameAndType 5 6), (0, u "java/lang/Object"), (0, u "<init>"), (0, u "()V"), (1, .class_ 10), (1, u "java/util/AbstractCollection"), (0, u "size"), (0, u "()I"), (0, .methodref 8 14), (0, .nameAndType 15 16), (0, u "iterator"), (0, u "()Ljava/util/Iterator;"), (0, .interfaceMethodref 18 19), (0, .class_ 20), (0, .nameAndType 21 22), (0, u "java/util/Iterator"), (0, u "hasNext"), (0, u "()Z"), (0, .interfaceMethodref 18 24), (0, .nameAndType 25 26), (0, u "next"), (0, u "()Ljava/lang/Object;"), (50, .class_ 78), (0, u "java/util/Collection"), (13, .string 93), (0, u "[]"), (0, .class_ 95), (0, u "java/lang/StringBuilder"), (0, .methodref 94 3), (0, .methodref 94 98), (0, .nameAndType 99 100), (0, u "append"), (0, u "(C)Ljava/lang/StringBuilder;"), (2, .methodref 94 104), (0, .nameAndType 99 105), (0, u "(Ljava/lang/Object;)Ljava/lang/StringBuilder;"), (0, .methodref 94 107), (0, .nameAndType 108 109), (0, u "toString"), (0, u "()Ljava/lang/String;")] 50

def k11c0 : Code := { maxStack := 1, maxLocals := 1, code := jdk_22_method_1_code, exceptionTable := #[], attributes := #[] }
def k11m0 : Method := { name := "<init>", desc := "()V", sig := { parameters := [], returnType := none }, accessFlags := 4, code := some k11c0 }
def k11m1 : Method := { name := "iterator", desc := "()Ljava/util/Iterator;", sig := { parameters := [], returnType := some (.object "java/util/Iterator") }, accessFlags := 1025, code := none }
def k11m2 : Method := { name := "size", desc := "()I", sig := { parameters := [], returnType := some .int }, accessFlags := 1025, code := none }
def k11c3 : Code := { maxStack := 3, maxLocals := 4, code := jdk_22_method_16_code, exceptionTable := #[], attributes := #[] }
def k11m3 : Method := { name := "toString", desc := "()Ljava/lang/String;", sig := { parameters := [], returnType := some (.object "java/lang/String") }, accessFlags := 1, code := some k11c3 }
/-- java/util/AbstractCollection -/
def k11 : Class := { plain "java/util/AbstractCollection" (some 0) with
  accessFlags := 1057
  interfaces := #[10]
  cf := some (fileOf pool11 8 #[] #[{ accessFlags := 4, nameIndex := 5, descriptorIndex := 6, attributes := #[] }, { accessFlags := 1025, nameIndex := 15, descriptorIndex := 16, attributes := #[] }, { accessFlags := 1025, nameIndex := 11, descriptorIndex := 12, attributes := #[] }, { accessFlags := 1, nameIndex := 108, descriptorIndex := 109, attributes := #[] }] 1057 2 #[77] #[])
  fields := #[]
  methods := #[k11m0, k11m1, k11m2, k11m3]
  instanceTypes := #[]
  staticTypes := #[]
  resolved := Array.replicate 160 none
  statics := none }

def pool12 : Array CpInfo := pool [(8, .class_ 10), (1, u "java/util/SequencedCollection"), (15, .class_ 27), (0, u "java/lang/Object"), (0, .class_ 29), (0, u "java/util/Collection")] 27

/-- java/util/SequencedCollection -/
def k12 : Class := { plain "java/util/SequencedCollection" (some 0) with
  accessFlags := 1537
  interfaces := #[10]
  cf := some (fileOf pool12 8 #[] #[] 1537 26 #[28] #[])
  fields := #[]
  methods := #[]
  instanceTypes := #[]
  staticTypes := #[]
  resolved := Array.replicate 57 none
  statics := none }

def pool13 : Array CpInfo := pool [(8, .class_ 10), (1, u "java/util/List"), (20, u "(Ljava/lang/Object;)V"), (16, u "<init>"), (26, u "get"), (0, u "(I)Ljava/lang/Object;"), (11, u "of"), (1, .fieldref 91 92), (0, .class_ 93), (0, .nameAndType 94 95), (0, u "java/util/ImmutableCollections"), (0, u "EMPTY_LIST"), (0, u "Ljava/util/ImmutableCollections$ListN;"), (0, .class_ 97), (0, u "java/util/ImmutableCollections$List12"), (0, .methodref 96 99), (0, .nameAndType 48 31), (0, .methodref 96 101), (0, .nameAndType 48 102), (0, u "(Ljava/lang/Object;Ljava/lang/Object;)V"), (0, .class_ 104), (0, u "java/lang/Object"), (3, u "([Ljava/lang/Object;)Ljava/util/List;"), (3, .methodref 91 113), (0, .nameAndType 114 115), (0, u "listCopy"), (0, u "(Ljava/util/Collection;)Ljava/util/List;"), (3, u "()Ljava/util/List;"), (0, .class_ 121), (0, u "java/util/SequencedCollection"), (112, u "copyOf")] 16

def k13m0 : Method := { name := "get", desc := "(I)Ljava/lang/Object;", sig := { parameters := [.int], returnType := some (.object "java/lang/Object") }, accessFlags := 1025, code := none }
def k13c1 : Code := { maxStack := 1, maxLocals := 0, code := jdk_40_method_36_code, exceptionTable := #[], attributes := #[] }
def k13m1 : Method := { name := "of", desc := "()Ljava/util/List;", sig := { parameters := [], returnType := some (.object "java/util/List") }, accessFlags := 9, code := some k13c1 }
def k13c2 : Code := { maxStack := 5, maxLocals := 2, code := jdk_40_method_47_code, exceptionTable := #[], attributes := #[] }
def k13m2 : Method := { name := "of", desc := "([Ljava/lang/Object;)Ljava/util/List;", sig := { parameters := [(.array (.object "java/lang/Object"))], returnType := some (.object "java/util/List") }, accessFlags := 137, code := some k13c2 }
def k13c3 : Code := { maxStack := 1, maxLocals := 1, code := jdk_40_method_48_code, exceptionTable := #[], attributes := #[] }
def k13m3 : Method := { name := "copyOf", desc := "(Ljava/util/Collection;)Ljava/util/List;", sig := { parameters := [(.object "java/util/Collection")], returnType := some (.object "java/util/List") }, accessFlags := 9, code := some k13c3 }
/-- java/util/List -/
def k13 : Class := { plain "java/util/List" (some 0) with
  accessFlags := 1537
  interfaces := #[12]
  cf := some (fileOf pool13 8 #[] #[{ accessFlags := 1025, nameIndex := 75, descriptorIndex := 76, attributes := #[] }, { accessFlags := 9, nameIndex := 88, descriptorIndex := 119, attributes := #[] }, { accessFlags := 137, nameIndex := 88, descriptorIndex := 108, attributes := #[] }, { accessFlags := 9, nameIndex := 234, descriptorIndex := 115, attributes := #[] }] 1537 103 #[120] #[])
  fields := #[]
  methods := #[k13m0, k13m1, k13m2, k13m3]
  instanceTypes := #[]
  staticTypes := #[]
  resolved := Array.replicate 251 none
  statics := none }

def pool14 : Array CpInfo := pool [(1, .methodref 2 3), (0, .class_ 4), (0, .nameAndType 5 6), (0, u "java/util/AbstractCollection"), (0, u "<init>"), (0, u "()V"), (0, .fieldref 8 9), (0, .class_ 10), (0, .nameAndType 11 12), (0, u "java/util/AbstractList"), (0, u "modCount"), (0, u "I"), (64, .class_ 78), (0, u "java/util/AbstractList$Itr"), (3, .class_ 83), (0, u "java/util/AbstractList$ListItr"), (9, .class_ 94), (0, u "java/util/AbstractList$RandomAccessSubList"), (3, .class_ 99), (0, u "java/util/AbstractList$SubList"), (33, .class_ 134), (0, u "java/util/List"), (73, .class_ 209), (0, u "java/util/AbstractList$SubList$1"), (0, .class_ 211), (0, u "java/util/AbstractList$RandomAccessSpliterator")] 6

def k14c0 : Code := { maxStack := 2, maxLocals := 1, code := jdk_39_method_1_code, exceptionTable := #[], attributes := #[] }
def k14m0 : Method := { name := "<init>", desc := "()V", sig := { parameters := [], returnType := none }, accessFlags := 4, code := some k14c0 }
/-- java/util/AbstractList -/
def k14 : Class := { plain "java/util/AbstractList" (some 11) with
  accessFlags := 1057
  interfaces := #[13]
  cf := some (fileOf pool14 8 #[.nestMembers #[93, 98, 208, 210, 82, 77]] #[{ accessFlags := 4, nameIndex := 5, descriptorIndex := 6, attributes := #[] }] 1057 2 #[133] #[{ accessFlags := 132, nameIndex := 11, descriptorIndex := 12, attributes := #[] }])
  fields := #[{ name := "modCount", type := .int, accessFlags := 132, slot := 0, constantValue := 0 }]
  methods := #[k14m0]
  instanceTypes := #[.int]
  staticTypes := #[]
  resolved := Array.replicate 218 none
  statics := none }

def pool15 : Array CpInfo := pool [(1, .class_ 2), (0, u "java/util/RandomAccess"), (0, .class_ 4), (0, u "java/lang/Object")] 2

/-- java/util/RandomAccess -/
def k15 : Class := { plain "java/util/RandomAccess" (some 0) with
  accessFlags := 1537
  interfaces := #[]
  cf := some (fileOf pool15 1 #[] #[] 1537 3 #[] #[])
  fields := #[]
  methods := #[]
  instanceTypes := #[]
  staticTypes := #[]
  resolved := Array.replicate 7 none
  statics := none }

def pool16 : Array CpInfo := pool [(1, .class_ 2), (0, u "java/lang/Cloneable"), (0, .class_ 4), (0, u "java/lang/Object")] 2

/-- java/lang/Cloneable -/
def k16 : Class := { plain "java/lang/Cloneable" (some 0) with
  accessFlags := 1537
  interfaces := #[]
  cf := some (fileOf pool16 1 #[] #[] 1537 3 #[] #[])
  fields := #[]
  methods := #[]
  instanceTypes := #[]
  staticTypes := #[]
  resolved := Array.replicate 7 none
  statics := none }

def pool17 : Array CpInfo := pool [(1, .methodref 2 3), (0, .class_ 4), (0, .nameAndType 5 6), (0, u "java/util/AbstractList"), (0, u "<init>"), (0, u "()V"), (0, .class_ 8), (0, u "java/lang/Object"), (0, .fieldref 10 11), (0, .class_ 12), (0, .nameAndType 13 14), (0, u "java/util/ArrayList"), (0, u "elementData"), (0, u "[Ljava/lang/Object;"), (2, u "EMPTY_ELEMENTDATA"), (21, .fieldref 10 40), (0, .nameAndType 41 14), (0, u "DEFAULTCAPACITY_EMPTY_ELEMENTDATA"), (4, u "toArray"), (0, u "()[Ljava/lang/Object;"), (0, .fieldref 10 49), (0, .nameAndType 50 51), (0, u "size"), (0, u "I"), (6, .class_ 60), (1, u "java/util/Arrays"), (0, u "copyOf"), (1, .fieldref 10 64), (0, .nameAndType 65 51), (0, u "modCount"), (0, .methodref 58 67), (0, .nameAndType 61 68), (0, u "([Ljava/lang/Object;I)[Ljava/lang/Object;"), (0, .methodref 10 70), (0, .nameAndType 71 72), (0, u "grow"), (0, u "(I)[Ljava/lang/Object;"), (6, .methodref 80 81), (0, .class_ 82), (0, .nameAndType 83 84), (0, u "java/lang/Math"), (0, u "max"), (0, u "(II)I"), (11, u "(Ljava/lang/Object;)Z"), (32, .methodref 10 130), (0, .nameAndType 71 47), (0, .methodref 10 132), (0, .nameAndType 133 134), (0, u "add"), (0, u "(Ljava/lang/Object;[Ljava/lang/Object;I)V"), (13, .class_ 149), (0, u "java/util/List"), (23, u "()Z"), (88, .class_ 263), (0, u "java/util/ArrayList$ListItr"), (3, .class_ 268), (0, u "java/util/ArrayList$Itr"), (7, .class_ 277), (0, u "java/util/ArrayList$SubList"), (12, .class_ 291), (0, u "java/util/ArrayList$ArrayListSpliterator"), (37, .class_ 330), (0, u "java/util/RandomAccess"), (0, .class_ 332), (0, u "java/lang/Cloneable"), (0, .class_ 334), (0, u "java/io/Serializable"), (0, u "serialVersionUID"), (0, u "J"), (3, u "DEFAULT_CAPACITY"), (22, u "isEmpty"), (136, .class_ 501), (0, u "java/util/ArrayList$SubList$2"), (0, .class_ 503), (0, u "java/util/ArrayList$SubList$1")] 5

def k17c0 : Code := { maxStack := 2, maxLocals := 1, code := jdk_38_method_2_code, exceptionTable := #[], attributes := #[] }
def k17m0 : Method := { name := "<init>", desc := "()V", sig := { parameters := [], returnType := none }, accessFlags := 1, code := some k17c0 }
def k17c1 : Code := { maxStack := 4, maxLocals := 4, code := jdk_38_method_6_code, exceptionTable := #[], attributes := #[] }
def k17m1 : Method := { name := "grow", desc := "(I)[Ljava/lang/Object;", sig := { parameters := [.int], returnType := some (.array (.object "java/lang/Object")) }, accessFlags := 2, code := some k17c1 }
def k17c2 : Code := { maxStack := 3, maxLocals := 1, code := jdk_38_method_7_code, exceptionTable := #[], attributes := #[] }
def k17m2 : Method := { name := "grow", desc := "()[Ljava/lang/Object;", sig := { parameters := [], returnType := some (.array (.object "java/lang/Object")) }, accessFlags := 2, code := some k17c2 }
def k17c3 : Code := { maxStack := 1, maxLocals := 1, code := jdk_38_method_9_code, exceptionTable := #[], attributes := #[] }
def k17m3 : Method := { name := "isEmpty", desc := "()Z", sig := { parameters := [], returnType := some .boolean }, accessFlags := 1, code := some k17c3 }
def k17c4 : Code := { maxStack := 2, maxLocals := 1, code := jdk_38_method_16_code, exceptionTable := #[], attributes := #[] }
def k17m4 : Method := { name := "toArray", desc := "()[Ljava/lang/Object;", sig := { parameters := [], returnType := some (.array (.object "java/lang/Object")) }, accessFlags := 1, code := some k17c4 }
def k17c5 : Code := { maxStack := 3, maxLocals := 4, code := jdk_38_method_24_code, exceptionTable := #[], attributes := #[] }
def k17m5 : Method := { name := "add", desc := "(Ljava/lang/Object;[Ljava/lang/Object;I)V", sig := { parameters := [(.object "java/lang/Object"), (.array (.object "java/lang/Object")), .int], returnType := none }, accessFlags := 2, code := some k17c5 }
def k17c6 : Code := { maxStack := 4, maxLocals := 2, code := jdk_38_method_25_code, exceptionTable := #[], attributes := #[] }
def k17m6 : Method := { name := "add", desc := "(Ljava/lang/Object;)Z", sig := { parameters := [(.object "java/lang/Object")], returnType := some .boolean }, accessFlags := 1, code := some k17c6 }
/-- java/util/ArrayList -/
def k17 : Class := { plain "java/util/ArrayList" (some 14) with
  accessFlags := 33
  interfaces := #[13, 15, 16, 2]
  cf := some (fileOf pool17 10 #[.nestMembers #[290, 276, 500, 502, 262, 267]] #[{ accessFlags := 1, nameIndex := 5, descriptorIndex := 6, attributes := #[] }, { accessFlags := 2, nameIndex := 71, descriptorIndex := 72, attributes := #[] }, { accessFlags := 2, nameIndex := 71, descriptorIndex := 47, attributes := #[] }, { accessFlags := 1, nameIndex := 363, descriptorIndex := 173, attributes := #[] }, { accessFlags := 1, nameIndex := 46, descriptorIndex := 47, attributes := #[] }, { accessFlags := 2, nameIndex := 133, descriptorIndex := 134, attributes := #[] }, { accessFlags := 1, nameIndex := 133, descriptorIndex := 96, attributes := #[] }] 33 2 #[148, 329, 331, 333] #[{ accessFlags := 26, nameIndex := 335, descriptorIndex := 336, attributes := #[] }, { accessFlags := 26, nameIndex := 340, descriptorIndex := 51, attributes := #[] }, { accessFlags := 26, nameIndex := 17, descriptorIndex := 14, attributes := #[] }, { accessFlags := 26, nameIndex := 41, descriptorIndex := 14, attributes := #[] }, { accessFlags := 128, nameIndex := 13, descriptorIndex := 14, attributes := #[] }, { accessFlags := 2, nameIndex := 50, descriptorIndex := 51, attributes := #[] }])
  fields := #[{ name := "serialVersionUID", type := .long, accessFlags := 26, slot := 0, constantValue := 0 }, { name := "DEFAULT_CAPACITY", type := .int, accessFlags := 26, slot := 1, constantValue := 0 }, { name := "EMPTY_ELEMENTDATA", type := (.array (.object "java/lang/Object")), accessFlags := 26, slot := 2, constantValue := 0 }, { name := "DEFAULTCAPACITY_EMPTY_ELEMENTDATA", type := (.array (.object "java/lang/Object")), accessFlags := 26, slot := 3, constantValue := 0 }, { name := "elementData", type := (.array (.object "java/lang/Object")), accessFlags := 128, slot := 1, constantValue := 0 }, { name := "size", type := .int, accessFlags := 2, slot := 2, constantValue := 0 }]
  methods := #[k17m0, k17m1, k17m2, k17m3, k17m4, k17m5, k17m6]
  instanceTypes := #[.int, (.array (.object "java/lang/Object")), .int]
  staticTypes := #[.long, .int, (.array (.object "java/lang/Object")), (.array (.object "java/lang/Object"))]
  resolved := Array.replicate 509 none
  statics := some 1 }

def pool18 : Array CpInfo := pool [(4, .class_ 6), (1, u "java/lang/Object"), (0, u "<init>"), (0, u "()V"), (5, .class_ 16), (1, u "java/lang/StringLatin1"), (73, u "canEncode"), (14, u "(C)Z"), (15, u "$assertionsDisabled"), (0, u "Z"), (98, .class_ 223), (1, u "java/lang/StringLatin1$LinesSpliterator"), (57, u "equals"), (0, u "([B[B)Z"), (97, u "toBytes"), (1, u "(C)[B"), (7, .class_ 391), (0, u "java/lang/StringLatin1$CharsSpliterator")] 3

def k18m0 : Method := { name := "<init>", desc := "()V", sig := { parameters := [], returnType := none }, accessFlags := 0, code := none }
def k18c1 : Code := { maxStack := 2, maxLocals := 1, code := jdk_43_method_3_code, exceptionTable := #[], attributes := #[] }
def k18m1 : Method := { name := "canEncode", desc := "(C)Z", sig := { parameters := [.char], returnType := some .boolean }, accessFlags := 9, code := some k18c1 }
def k18c2 : Code := { maxStack := 3, maxLocals := 3, code := jdk_43_method_13_code, exceptionTable := #[], attributes := #[] }
def k18m2 : Method := { name := "equals", desc := "([B[B)Z", sig := { parameters := [(.array .byte), (.array .byte)], returnType := some .boolean }, accessFlags := 9, code := some k18c2 }
def k18c3 : Code := { maxStack := 4, maxLocals := 1, code := jdk_43_method_46_code, exceptionTable := #[], attributes := #[] }
def k18m3 : Method := { name := "toBytes", desc := "(C)[B", sig := { parameters := [.char], returnType := some (.array .byte) }, accessFlags := 9, code := some k18c3 }
/-- java/lang/StringLatin1 -/
def k18 : Class := { plain "java/lang/StringLatin1" (some 0) with
  accessFlags := 48
  interfaces := #[]
  cf := some (fileOf pool18 14 #[.nestMembers #[390, 221]] #[{ accessFlags := 0, nameIndex := 7, descriptorIndex := 8, attributes := #[] }, { accessFlags := 9, nameIndex := 90, descriptorIndex := 105, attributes := #[] }, { accessFlags := 9, nameIndex := 281, descriptorIndex := 282, attributes := #[] }, { accessFlags := 9, nameIndex := 380, descriptorIndex := 382, attributes := #[] }] 48 4 #[] #[{ accessFlags := 4120, nameIndex := 121, descriptorIndex := 122, attributes := #[] }])
  fields := #[{ name := "$assertionsDisabled", type := .boolean, accessFlags := 4120, slot := 0, constantValue := 0 }]
  methods := #[k18m0, k18m1, k18m2, k18m3]
  instanceTypes := #[]
  staticTypes := #[.boolean]
  resolved := Array.replicate 395 none
  statics := none }

def pool19 : Array CpInfo := pool [(1, .class_ 2), (0, u "java/lang/Math"), (1, .class_ 6), (1, u "java/lang/Object"), (0, u "<init>"), (0, u "()V"), (89, .class_ 100), (1, u "java/lang/Math$RandomNumberGeneratorHolder"), (71, u "negativeZeroFloatBits"), (0, u "J"), (2, u "negativeZeroDoubleBits"), (21, u "max"), (2, u "min"), (43, u "$assertionsDisabled"), (0, u "Z"), (88, u "(II)I"), (2, u "twoToTheDoubleScaleDown"), (0, u "D"), (4, u "twoToTheDoubleScaleUp"), (9, u "E"), (3, u "PI"), (2, u "TAU"), (2, u "DEGREES_TO_RADIANS"), (0, u "RADIANS_TO_DEGREES")] 94

def k19m0 : Method := { name := "<init>", desc := "()V", sig := { parameters := [], returnType := none }, accessFlags := 2, code := none }
def k19c1 : Code := { maxStack := 2, maxLocals := 2, code := jdk_29_method_65_code, exceptionTable := #[], attributes := #[] }
def k19m1 : Method := { name := "max", desc := "(II)I", sig := { parameters := [.int, .int], returnType := some .int }, accessFlags := 9, code := some k19c1 }
def k19c2 : Code := { maxStack := 2, maxLocals := 2, code := jdk_29_method_69_code, exceptionTable := #[], attributes := #[] }
def k19m2 : Method := { name := "min", desc := "(II)I", sig := { parameters := [.int, .int], returnType := some .int }, accessFlags := 9, code := some k19c2 }
/-- java/lang/Math -/
def k19 : Class := { plain "java/lang/Math" (some 0) with
  accessFlags := 49
  interfaces := #[]
  cf := some (fileOf pool19 1 #[.nestMembers #[98]] #[{ accessFlags := 2, nameIndex := 7, descriptorIndex := 8, attributes := #[] }, { accessFlags := 9, nameIndex := 198, descriptorIndex := 335, attributes := #[] }, { accessFlags := 9, nameIndex := 201, descriptorIndex := 335, attributes := #[] }] 49 4 #[] #[{ accessFlags := 25, nameIndex := 354, descriptorIndex := 339, attributes := #[] }, { accessFlags := 25, nameIndex := 358, descriptorIndex := 339, attributes := #[] }, { accessFlags := 25, nameIndex := 361, descriptorIndex := 339, attributes := #[] }, { accessFlags := 26, nameIndex := 364, descriptorIndex := 339, attributes := #[] }, { accessFlags := 26, nameIndex := 365, descriptorIndex := 339, attributes := #[] }, { accessFlags := 26, nameIndex := 172, descriptorIndex := 173, attributes := #[] }, { accessFlags := 26, nameIndex := 176, descriptorIndex := 173, attributes := #[] }, { accessFlags := 8, nameIndex := 344, descriptorIndex := 339, attributes := #[] }, { accessFlags := 8, nameIndex := 338, descriptorIndex := 339, attributes := #[] }, { accessFlags := 4120, nameIndex := 245, descriptorIndex := 246, attributes := #[] }])
  fields := #[{ name := "E", type := .double, accessFlags := 25, slot := 0, constantValue := 0 }, { name := "PI", type := .double, accessFlags := 25, slot := 1, constantValue := 0 }, { name := "TAU", type := .double, accessFlags := 25, slot := 2, constantValue := 0 }, { name := "DEGREES_TO_RADIANS", type := .double, accessFlags := 26, slot := 3, constantValue := 0 }, { name := "RADIANS_TO_DEGREES", type := .double, accessFlags := 26, slot := 4, constantValue := 0 }, { name := "negativeZeroFloatBits", type := .long, accessFlags := 26, slot := 5, constantValue := 0 }, { name := "negativeZeroDoubleBits", type := .long, accessFlags := 26, slot := 6, constantValue := 0 }, { name := "twoToTheDoubleScaleUp", type := .double, accessFlags := 8, slot := 7, constantValue := 0 }, { name := "twoToTheDoubleScaleDown", type := .double, accessFlags := 8, slot := 8, constantValue := 0 }, { name := "$assertionsDisabled", type := .boolean, accessFlags := 4120, slot := 9, constantValue := 0 }]
  methods := #[k19m0, k19m1, k19m2]
  instanceTypes := #[]
  staticTypes := #[.double, .double, .double, .double, .double, .long, .long, .double, .double, .boolean]
  resolved := Array.replicate 460 none
  statics := none }

def pool20 : Array CpInfo := pool [(1, .methodref 2 3), (0, .class_ 4), (0, .nameAndType 5 6), (0, u "java/lang/Object"), (0, u "<init>"), (0, u "()V"), (0, .class_ 8), (0, u "java/lang/Record")] 13

def k20c0 : Code := { maxStack := 1, maxLocals := 1, code := jdk_30_method_1_code, exceptionTable := #[], attributes := #[] }
def k20m0 : Method := { name := "<init>", desc := "()V", sig := { parameters := [], returnType := none }, accessFlags := 4, code := some k20c0 }
/-- java/lang/Record -/
def k20 : Class := { plain "java/lang/Record" (some 0) with
  accessFlags := 1057
  interfaces := #[]
  cf := some (fileOf pool20 7 #[] #[{ accessFlags := 4, nameIndex := 5, descriptorIndex := 6, attributes := #[] }] 1057 2 #[] #[])
  fields := #[]
  methods := #[k20m0]
  instanceTypes := #[]
  staticTypes := #[]
  resolved := Array.replicate 22 none
  statics := none }

def pool21 : Array CpInfo := pool [(1, .methodref 2 3), (0, .class_ 4), (0, .nameAndType 5 6), (0, u "java/lang/Record"), (0, u "<init>"), (0, u "()V"), (0, .interfaceMethodref 8 9), (0, .class_ 10), (0, .nameAndType 11 12), (0, u "java/util/List"), (0, u "copyOf"), (0, u "(Ljava/util/Collection;)Ljava/util/List;"), (0, .fieldref 14 15), (0, .class_ 16), (0, .nameAndType 17 18), (0, u "com/example/passlane/passlane/oidc/Client"), (0, u "id"), (0, u "Ljava/lang/String;"), (0, .fieldref 14 20), (0, .nameAndType 21 18), (0, u "secret"), (0, .fieldref 14 23), (0, .nameAndType 24 25), (0, u "redirectUris"), (0, u "Ljava/util/List;"), (0, .fieldref 14 27), (0, .nameAndType 28 25), (0, u "postLogoutRedirectUris"), (0, .fieldref 14 30), (0, .nameAndType 31 18), (0, u "backChannelLogoutUri"), (24, .class_ 57), (0, u "java/lang/StringBuilder"), (0, .methodref 56 3), (0, .string 60), (0, u "Client[id="), (0, .methodref 56 62), (0, .nameAndType 63 64), (0, u "append"), (0, u "(Ljava/lang/String;)Ljava/lang/StringBuilder;"), (0, .string 66), (0, u ", redirectUris="), (0, .methodref 56 68), (0, .nameAndType 63 69), (0, u "(Ljava/lang/Object;)Ljava/lang/StringBuilder;"), (0, .string 71), (0, u "]"), (0, .methodref 56 73), (0, .nameAndType 74 75), (0, u "toString"), (0, u "()Ljava/lang/String;"), (10, u "(Ljava/lang/String;Ljava/lang/String;Ljava/util/List;Ljava/util/List;Ljava/lang/String;)V")] 34

def k21c0 : Code := { maxStack := 2, maxLocals := 6, code := prog_8_method_1_code, exceptionTable := #[], attributes := #[] }
def k21m0 : Method := { name := "<init>", desc := "(Ljava/lang/String;Ljava/lang/String;Ljava/util/List;Ljava/util/List;Ljava/lang/String;)V", sig := { parameters := [(.object "java/lang/String"), (.object "java/lang/String"), (.object "java/util/List"), (.object "java/util/List"), (.object "java/lang/String")], returnType := none }, accessFlags := 1, code := some k21c0 }
def k21c1 : Code := { maxStack := 2, maxLocals := 1, code := prog_8_method_3_code, exceptionTable := #[], attributes := #[] }
def k21m1 : Method := { name := "toString", desc := "()Ljava/lang/String;", sig := { parameters := [], returnType := some (.object "java/lang/String") }, accessFlags := 1, code := some k21c1 }
/-- com/example/passlane/passlane/oidc/Client -/
def k21 : Class := { plain "com/example/passlane/passlane/oidc/Client" (some 20) with
  accessFlags := 49
  interfaces := #[]
  cf := some (fileOf pool21 14 #[] #[{ accessFlags := 1, nameIndex := 5, descriptorIndex := 86, attributes := #[] }, { accessFlags := 1, nameIndex := 74, descriptorIndex := 75, attributes := #[] }] 49 2 #[] #[{ accessFlags := 18, nameIndex := 17, descriptorIndex := 18, attributes := #[] }, { accessFlags := 18, nameIndex := 21, descriptorIndex := 18, attributes := #[] }, { accessFlags := 18, nameIndex := 24, descriptorIndex := 25, attributes := #[] }, { accessFlags := 18, nameIndex := 28, descriptorIndex := 25, attributes := #[] }, { accessFlags := 18, nameIndex := 31, descriptorIndex := 18, attributes := #[] }])
  fields := #[{ name := "id", type := (.object "java/lang/String"), accessFlags := 18, slot := 0, constantValue := 0 }, { name := "secret", type := (.object "java/lang/String"), accessFlags := 18, slot := 1, constantValue := 0 }, { name := "redirectUris", type := (.object "java/util/List"), accessFlags := 18, slot := 2, constantValue := 0 }, { name := "postLogoutRedirectUris", type := (.object "java/util/List"), accessFlags := 18, slot := 3, constantValue := 0 }, { name := "backChannelLogoutUri", type := (.object "java/lang/String"), accessFlags := 18, slot := 4, constantValue := 0 }]
  methods := #[k21m0, k21m1]
  instanceTypes := #[(.object "java/lang/String"), (.object "java/lang/String"), (.object "java/util/List"), (.object "java/util/List"), (.object "java/lang/String")]
  staticTypes := #[]
  resolved := Array.replicate 121 none
  statics := none }

def pool22 : Array CpInfo := pool [(2, .class_ 4), (1, u "java/lang/Object"), (0, u "<init>"), (0, u "()V"), (3, .class_ 11), (0, u "java/util/ImmutableCollections$List12"), (0, .class_ 13), (0, u "java/util/ImmutableCollections$ListN"), (3, u "Z"), (0, .class_ 19), (0, u "java/util/List"), (0, .interfaceMethodref 21 22), (0, .class_ 23), (0, .nameAndType 24 25), (0, u "java/util/Collection"), (0, u "isEmpty"), (0, u "()Z"), (0, .interfaceMethodref 18 27), (0, .nameAndType 28 29), (0, u "of"), (0, u "()Ljava/util/List;"), (0, .interfaceMethodref 21 31), (0, .nameAndType 32 33), (0, u "toArray"), (0, u "()[Ljava/lang/Object;"), (0, .interfaceMethodref 18 35), (0, .nameAndType 28 36), (0, u "([Ljava/lang/Object;)Ljava/util/List;"), (10, .class_ 49), (1, u "java/util/ImmutableCollections"), (0, u "$assertionsDisabled"), (5, u "[Ljava/lang/Object;"), (5, u "EMPTY_LIST"), (0, u "Ljava/util/ImmutableCollections$ListN;"), (8, u "EMPTY_LIST_NULLS"), (22, u "SALT32L"), (0, u "J"), (2, u "REVERSE"), (6, u "archivedObjects"), (2, u "EMPTY"), (0, u "Ljava/lang/Object;"), (0, .class_ 112), (0, u "java/util/ImmutableCollections$SetN"), (5, u "EMPTY_SET"), (0, u "Ljava/util/ImmutableCollections$SetN;"), (0, .class_ 121), (0, u "java/util/ImmutableCollections$MapN"), (3, u "EMPTY_MAP"), (0, u "Ljava/util/ImmutableCollections$MapN;"), (4, u "EXPAND_FACTOR"), (0, u "I"), (9, u "listCopy"), (0, u "(Ljava/util/Collection;)Ljava/util/List;"), (25, .class_ 170), (0, u "java/util/ImmutableCollections$MapN$MapNIterator"), (0, .class_ 172), (0, u "java/util/ImmutableCollections$MapN$1"), (0, .class_ 174), (0, u "java/util/ImmutableCollections$Map1"), (0, .class_ 176), (0, u "java/util/ImmutableCollections$AbstractImmutableMap"), (0, .class_ 178), (0, u "java/util/ImmutableCollections$SetN$SetNIterator"), (0, .class_ 180), (0, u "java/util/ImmutableCollections$Set12"), (0, .class_ 182), (0, u "java/util/ImmutableCollections$Set12$1"), (0, .class_ 184), (0, u "java/util/ImmutableCollections$AbstractImmutableSet"), (0, .class_ 186), (0, u "java/util/ImmutableCollections$SubList"), (0, .class_ 188), (0, u "java/util/ImmutableCollections$ListItr"), (0, .class_ 190), (0, u "java/util/ImmutableCollections$AbstractImmutableList"), (0, .class_ 192), (0, u "java/util/ImmutableCollections$AbstractImmutableCollection"), (0, .class_ 194), (0, u "java/util/ImmutableCollections$Access"), (0, .class_ 196), (0, u "java/util/ImmutableCollections$Access$1")] 16

def k22m0 : Method := { name := "<init>", desc := "()V", sig := { parameters := [], returnType := none }, accessFlags := 2, code := none }
def k22c1 : Code := { maxStack := 1, maxLocals := 2, code := jdk_56_method_3_code, exceptionTable := #[], attributes := #[] }
def k22m1 : Method := { name := "listCopy", desc := "(Ljava/util/Collection;)Ljava/util/List;", sig := { parameters := [(.object "java/util/Collection")], returnType := some (.object "java/util/List") }, accessFlags := 8, code := some k22c1 }
/-- java/util/ImmutableCollections -/
def k22 : Class := { plain "java/util/ImmutableCollections" (some 0) with
  accessFlags := 32
  interfaces := #[]
  cf := some (fileOf pool22 47 #[.nestMembers #[120, 169, 171, 173, 175, 111, 177, 179, 181, 183, 12, 10, 185, 187, 189, 191, 193, 195]] #[{ accessFlags := 2, nameIndex := 5, descriptorIndex := 6, attributes := #[] }, { accessFlags := 8, nameIndex := 142, descriptorIndex := 143, attributes := #[] }] 32 2 #[] #[{ accessFlags := 26, nameIndex := 95, descriptorIndex := 96, attributes := #[] }, { accessFlags := 26, nameIndex := 99, descriptorIndex := 17, attributes := #[] }, { accessFlags := 10, nameIndex := 106, descriptorIndex := 56, attributes := #[] }, { accessFlags := 26, nameIndex := 109, descriptorIndex := 110, attributes := #[] }, { accessFlags := 24, nameIndex := 62, descriptorIndex := 63, attributes := #[] }, { accessFlags := 24, nameIndex := 72, descriptorIndex := 63, attributes := #[] }, { accessFlags := 24, nameIndex := 118, descriptorIndex := 119, attributes := #[] }, { accessFlags := 24, nameIndex := 125, descriptorIndex := 126, attributes := #[] }, { accessFlags := 24, nameIndex := 131, descriptorIndex := 132, attributes := #[] }, { accessFlags := 4120, nameIndex := 50, descriptorIndex := 17, attributes := #[] }])
  fields := #[{ name := "SALT32L", type := .long, accessFlags := 26, slot := 0, constantValue := 0 }, { name := "REVERSE", type := .boolean, accessFlags := 26, slot := 1, constantValue := 0 }, { name := "archivedObjects", type := (.array (.object "java/lang/Object")), accessFlags := 10, slot := 2, constantValue := 0 }, { name := "EMPTY", type := (.object "java/lang/Object"), accessFlags := 26, slot := 3, constantValue := 0 }, { name := "EMPTY_LIST", type := (.object "java/util/ImmutableCollections$ListN"), accessFlags := 24, slot := 4, constantValue := 0 }, { name := "EMPTY_LIST_NULLS", type := (.object "java/util/ImmutableCollections$ListN"), accessFlags := 24, slot := 5, constantValue := 0 }, { name := "EMPTY_SET", type := (.object "java/util/ImmutableCollections$SetN"), accessFlags := 24, slot := 6, constantValue := 0 }, { name := "EMPTY_MAP", type := (.object "java/util/ImmutableCollections$MapN"), accessFlags := 24, slot := 7, constantValue := 0 }, { name := "EXPAND_FACTOR", type := .int, accessFlags := 24, slot := 8, constantValue := 0 }, { name := "$assertionsDisabled", type := .boolean, accessFlags := 4120, slot := 9, constantValue := 0 }]
  methods := #[k22m0, k22m1]
  instanceTypes := #[]
  staticTypes := #[.long, .boolean, (.array (.object "java/lang/Object")), (.object "java/lang/Object"), (.object "java/util/ImmutableCollections$ListN"), (.object "java/util/ImmutableCollections$ListN"), (.object "java/util/ImmutableCollections$SetN"), (.object "java/util/ImmutableCollections$MapN"), .int, .boolean]
  resolved := Array.replicate 213 none
  statics := some 2 }

def pool23 : Array CpInfo := pool [(1, .methodref 2 3), (0, .class_ 4), (0, .nameAndType 5 6), (0, u "java/util/AbstractCollection"), (0, u "<init>"), (0, u "()V"), (1, .class_ 10), (1, u "java/util/ImmutableCollections"), (2, .class_ 14), (0, u "java/util/ImmutableCollections$AbstractImmutableCollection")] 41

def k23c0 : Code := { maxStack := 1, maxLocals := 1, code := jdk_47_method_1_code, exceptionTable := #[], attributes := #[] }
def k23m0 : Method := { name := "<init>", desc := "()V", sig := { parameters := [], returnType := none }, accessFlags := 0, code := some k23c0 }
/-- java/util/ImmutableCollections$AbstractImmutableCollection -/
def k23 : Class := { plain "java/util/ImmutableCollections$AbstractImmutableCollection" (some 11) with
  accessFlags := 1056
  interfaces := #[]
  cf := some (fileOf pool23 13 #[.nestHost 8] #[{ accessFlags := 0, nameIndex := 5, descriptorIndex := 6, attributes := #[] }] 1056 2 #[] #[])
  fields := #[]
  methods := #[k23m0]
  instanceTypes := #[]
  staticTypes := #[]
  resolved := Array.replicate 56 none
  statics := none }

def pool24 : Array CpInfo := pool [(1, .methodref 2 3), (0, .class_ 4), (0, .nameAndType 5 6), (0, u "java/util/ImmutableCollections$AbstractImmutableCollection"), (0, u "<init>"), (0, u "()V"), (1, .class_ 10), (1, u "java/util/ImmutableCollections"), (2, .methodref 14 15), (0, .class_ 16), (0, .nameAndType 17 18), (0, u "java/util/ImmutableCollections$AbstractImmutableList"), (0, u "size"), (0, u "()I"), (42, .class_ 62), (0, u "java/util/ImmutableCollections$ListItr"), (0, .methodref 61 64), (0, .nameAndType 5 65), (0, u "(Ljava/util/List;I)V"), (11, .class_ 78), (0, u "java/util/List"), (2, u "iterator"), (0, u "()Ljava/util/Iterator;"), (41, .class_ 125), (0, u "java/util/RandomAccess")] 70

def k24c0 : Code := { maxStack := 1, maxLocals := 1, code := jdk_46_method_1_code, exceptionTable := #[], attributes := #[] }
def k24m0 : Method := { name := "<init>", desc := "()V", sig := { parameters := [], returnType := none }, accessFlags := 0, code := some k24c0 }
def k24c1 : Code := { maxStack := 4, maxLocals := 1, code := jdk_46_method_10_code, exceptionTable := #[], attributes := #[] }
def k24m1 : Method := { name := "iterator", desc := "()Ljava/util/Iterator;", sig := { parameters := [], returnType := some (.object "java/util/Iterator") }, accessFlags := 1, code := some k24c1 }
/-- java/util/ImmutableCollections$AbstractImmutableList -/
def k24 : Class := { plain "java/util/ImmutableCollections$AbstractImmutableList" (some 23) with
  accessFlags := 1056
  interfaces := #[13, 15]
  cf := some (fileOf pool24 14 #[.nestHost 8] #[{ accessFlags := 0, nameIndex := 5, descriptorIndex := 6, attributes := #[] }, { accessFlags := 1, nameIndex := 81, descriptorIndex := 82, attributes := #[] }] 1056 2 #[77, 124] #[])
  fields := #[]
  methods := #[k24m0, k24m1]
  instanceTypes := #[]
  staticTypes := #[]
  resolved := Array.replicate 196 none
  statics := none }

def pool25 : Array CpInfo := pool [(1, .methodref 2 3), (0, .class_ 4), (0, .nameAndType 5 6), (0, u "java/util/ImmutableCollections$AbstractImmutableList"), (0, u "<init>"), (0, u "()V"), (0, .methodref 8 9), (0, .class_ 10), (0, .nameAndType 11 12), (0, u "java/util/Objects"), (0, u "requireNonNull"), (0, u "(Ljava/lang/Object;)Ljava/lang/Object;"), (0, .fieldref 14 15), (0, .class_ 16), (0, .nameAndType 17 18), (0, u "java/util/ImmutableCollections$List12"), (0, u "e0"), (0, u "Ljava/lang/Object;"), (0, .fieldref 20 21), (0, .class_ 22), (0, .nameAndType 23 18), (0, u "java/util/ImmutableCollections"), (0, u "EMPTY"), (0, .fieldref 14 25), (0, .nameAndType 26 18), (0, u "e1"), (24, u "size"), (0, u "()I"), (17, .class_ 71), (0, u "java/io/Serializable"), (4, u "(Ljava/lang/Object;)V"), (8, u "(Ljava/lang/Object;Ljava/lang/Object;)V"), (4, u "get"), (0, u "(I)Ljava/lang/Object;")] 33

def k25c0 : Code := { maxStack := 2, maxLocals := 2, code := jdk_44_method_1_code, exceptionTable := #[], attributes := #[] }
def k25m0 : Method := { name := "<init>", desc := "(Ljava/lang/Object;)V", sig := { parameters := [(.object "java/lang/Object")], returnType := none }, accessFlags := 0, code := some k25c0 }
def k25c1 : Code := { maxStack := 2, maxLocals := 3, code := jdk_44_method_2_code, exceptionTable := #[], attributes := #[] }
def k25m1 : Method := { name := "<init>", desc := "(Ljava/lang/Object;Ljava/lang/Object;)V", sig := { parameters := [(.object "java/lang/Object"), (.object "java/lang/Object")], returnType := none }, accessFlags := 0, code := some k25c1 }
def k25c2 : Code := { maxStack := 2, maxLocals := 1, code := jdk_44_method_3_code, exceptionTable := #[], attributes := #[] }
def k25m2 : Method := { name := "size", desc := "()I", sig := { parameters := [], returnType := some .int }, accessFlags := 1, code := some k25c2 }
def k25c3 : Code := { maxStack := 2, maxLocals := 2, code := jdk_44_method_5_code, exceptionTable := #[], attributes := #[] }
def k25m3 : Method := { name := "get", desc := "(I)Ljava/lang/Object;", sig := { parameters := [.int], returnType := some (.object "java/lang/Object") }, accessFlags := 1, code := some k25c3 }
/-- java/util/ImmutableCollections$List12 -/
def k25 : Class := { plain "java/util/ImmutableCollections$List12" (some 24) with
  accessFlags := 48
  interfaces := #[2]
  cf := some (fileOf pool25 14 #[.nestHost 20] #[{ accessFlags := 0, nameIndex := 5, descriptorIndex := 76, attributes := #[] }, { accessFlags := 0, nameIndex := 5, descriptorIndex := 85, attributes := #[] }, { accessFlags := 1, nameIndex := 51, descriptorIndex := 52, attributes := #[] }, { accessFlags := 1, nameIndex := 90, descriptorIndex := 91, attributes := #[] }] 48 2 #[70] #[{ accessFlags := 18, nameIndex := 17, descriptorIndex := 18, attributes := #[] }, { accessFlags := 18, nameIndex := 26, descriptorIndex := 18, attributes := #[] }])
  fields := #[{ name := "e0", type := (.object "java/lang/Object"), accessFlags := 18, slot := 0, constantValue := 0 }, { name := "e1", type := (.object "java/lang/Object"), accessFlags := 18, slot := 1, constantValue := 0 }]
  methods := #[k25m0, k25m1, k25m2, k25m3]
  instanceTypes := #[(.object "java/lang/Object"), (.object "java/lang/Object")]
  staticTypes := #[]
  resolved := Array.replicate 125 none
  statics := none }

def pool26 : Array CpInfo := pool [(2, .class_ 4), (1, u "java/util/ImmutableCollections$AbstractImmutableList"), (2, .fieldref 8 9), (0, .class_ 10), (0, .nameAndType 11 12), (0, u "java/util/ImmutableCollections$ListN"), (0, u "elements"), (0, u "[Ljava/lang/Object;"), (2, u "allowNulls"), (0, u "Z"), (42, .class_ 60), (0, u "java/io/Serializable"), (16, u "size"), (0, u "()I"), (35, .class_ 115), (0, u "java/util/ImmutableCollections")] 3

def k26c0 : Code := { maxStack := 1, maxLocals := 1, code := jdk_45_method_3_code, exceptionTable := #[], attributes := #[] }
def k26m0 : Method := { name := "size", desc := "()I", sig := { parameters := [], returnType := some .int }, accessFlags := 1, code := some k26c0 }
/-- java/util/ImmutableCollections$ListN -/
def k26 : Class := { plain "java/util/ImmutableCollections$ListN" (some 24) with
  accessFlags := 48
  interfaces := #[2]
  cf := some (fileOf pool26 8 #[.nestHost 114] #[{ accessFlags := 1, nameIndex := 77, descriptorIndex := 78, attributes := #[] }] 48 2 #[59] #[{ accessFlags := 18, nameIndex := 11, descriptorIndex := 12, attributes := #[] }, { accessFlags := 18, nameIndex := 15, descriptorIndex := 16, attributes := #[] }])
  fields := #[{ name := "elements", type := (.array (.object "java/lang/Object")), accessFlags := 18, slot := 0, constantValue := 0 }, { name := "allowNulls", type := .boolean, accessFlags := 18, slot := 1, constantValue := 0 }]
  methods := #[k26m0]
  instanceTypes := #[(.array (.object "java/lang/Object")), .boolean]
  staticTypes := #[]
  resolved := Array.replicate 119 none
  statics := none }

def pool27 : Array CpInfo := pool [(2, .class_ 4), (1, u "java/lang/Object"), (0, u "<init>"), (0, u "()V"), (7, .class_ 16), (1, u "java/util/Arrays"), (57, .class_ 76), (1, u "java/util/Arrays$NaturalOrder"), (9, .methodref 2 87), (0, .nameAndType 88 89), (0, u "getClass"), (0, u "()Ljava/lang/Class;"), (19, u "()Ljava/lang/Object;"), (0, .class_ 111), (0, u "[Ljava/lang/Object;"), (1, .class_ 115), (1, u "java/util/Arrays$LegacyMergeSort"), (1, u "Z"), (10, .nameAndType 129 109), (0, u "clone"), (9, u "copyOfRange"), (10, .methodref 151 152), (0, .class_ 153), (0, .nameAndType 154 155), (0, u "java/lang/System"), (0, u "arraycopy"), (0, u "(Ljava/lang/Object;ILjava/lang/Object;II)V"), (144, .methodref 14 301), (0, .nameAndType 302 303), (0, u "copyOf"), (0, u "([Ljava/lang/Object;ILjava/lang/Class;)[Ljava/lang/Object;"), (0, .methodref 305 306), (0, .class_ 307), (0, .nameAndType 308 309), (0, u "java/lang/Math"), (0, u "min"), (0, u "(II)I"), (0, .methodref 311 128), (0, .class_ 312), (0, u "[B"), (26, .methodref 14 340), (0, .nameAndType 341 342), (0, u "copyOfRangeByte"), (0, u "([BII)[B"), (0, .methodref 14 344), (0, .nameAndType 345 346), (0, u "checkLength"), (0, u "(II)V"), (28, .class_ 376), (0, u "java/util/Arrays$ArrayList"), (68, u "$assertionsDisabled"), (269, u "MIN_ARRAY_SORT_GRAN"), (0, u "I"), (2, u "INSERTIONSORT_THRESHOLD"), (140, u "([Ljava/lang/Object;I)[Ljava/lang/Object;"), (8, u "([BI)[B"), (105, .class_ 976), (0, u "java/util/Arrays$ArrayItr")] 52

def k27m0 : Method := { name := "<init>", desc := "()V", sig := { parameters := [], returnType := none }, accessFlags := 2, code := none }
def k27c1 : Code := { maxStack := 3, maxLocals := 2, code := jdk_65_method_119_code, exceptionTable := #[], attributes := #[] }
def k27m1 : Method := { name := "copyOf", desc := "([Ljava/lang/Object;I)[Ljava/lang/Object;", sig := { parameters := [(.array (.object "java/lang/Object")), .int], returnType := some (.array (.object "java/lang/Object")) }, accessFlags := 9, code := some k27c1 }
def k27c2 : Code := { maxStack := 6, maxLocals := 4, code := jdk_65_method_120_code, exceptionTable := #[], attributes := #[] }
def k27m2 : Method := { name := "copyOf", desc := "([Ljava/lang/Object;ILjava/lang/Class;)[Ljava/lang/Object;", sig := { parameters := [(.array (.object "java/lang/Object")), .int, (.object "java/lang/Class")], returnType := some (.array (.object "java/lang/Object")) }, accessFlags := 9, code := some k27c2 }
def k27c3 : Code := { maxStack := 6, maxLocals := 3, code := jdk_65_method_121_code, exceptionTable := #[], attributes := #[] }
def k27m3 : Method := { name := "copyOf", desc := "([BI)[B", sig := { parameters := [(.array .byte), .int], returnType := some (.array .byte) }, accessFlags := 9, code := some k27c3 }
def k27c4 : Code := { maxStack := 4, maxLocals := 2, code := jdk_65_method_131_code, exceptionTable := #[], attributes := #[] }
def k27m4 : Method := { name := "checkLength", desc := "(II)V", sig := { parameters := [.int, .int], returnType := none }, accessFlags := 10, code := some k27c4 }
def k27c5 : Code := { maxStack := 3, maxLocals := 3, code := jdk_65_method_132_code, exceptionTable := #[], attributes := #[] }
def k27m5 : Method := { name := "copyOfRange", desc := "([BII)[B", sig := { parameters := [(.array .byte), .int, .int], returnType := some (.array .byte) }, accessFlags := 9, code := some k27c5 }
def k27c6 : Code := { maxStack := 6, maxLocals := 5, code := jdk_65_method_133_code, exceptionTable := #[], attributes := #[] }
def k27m6 : Method := { name := "copyOfRangeByte", desc := "([BII)[B", sig := { parameters := [(.array .byte), .int, .int], returnType := some (.array .byte) }, accessFlags := 10, code := some k27c6 }
/-- java/util/Arrays -/
def k27 : Class := { plain "java/util/Arrays" (some 0) with
  accessFlags := 49
  interfaces := #[]
  cf := some (fileOf pool27 14 #[.nestMembers #[975, 375, 113, 74]] #[{ accessFlags := 2, nameIndex := 5, descriptorIndex := 6, attributes := #[] }, { accessFlags := 9, nameIndex := 302, descriptorIndex := 860, attributes := #[] }, { accessFlags := 9, nameIndex := 302, descriptorIndex := 303, attributes := #[] }, { accessFlags := 9, nameIndex := 302, descriptorIndex := 869, attributes := #[] }, { accessFlags := 10, nameIndex := 345, descriptorIndex := 346, attributes := #[] }, { accessFlags := 9, nameIndex := 139, descriptorIndex := 342, attributes := #[] }, { accessFlags := 10, nameIndex := 341, descriptorIndex := 342, attributes := #[] }] 49 2 #[] #[{ accessFlags := 26, nameIndex := 715, descriptorIndex := 716, attributes := #[] }, { accessFlags := 26, nameIndex := 719, descriptorIndex := 716, attributes := #[] }, { accessFlags := 4120, nameIndex := 445, descriptorIndex := 117, attributes := #[] }])
  fields := #[{ name := "MIN_ARRAY_SORT_GRAN", type := .int, accessFlags := 26, slot := 0, constantValue := 0 }, { name := "INSERTIONSORT_THRESHOLD", type := .int, accessFlags := 26, slot := 1, constantValue := 0 }, { name := "$assertionsDisabled", type := .boolean, accessFlags := 4120, slot := 2, constantValue := 0 }]
  methods := #[k27m0, k27m1, k27m2, k27m3, k27m4, k27m5, k27m6]
  instanceTypes := #[]
  staticTypes := #[.int, .int, .boolean]
  resolved := Array.replicate 1029 none
  statics := none }

def pool28 : Array CpInfo := pool [(2, .class_ 4), (1, u "java/lang/Object"), (0, u "<init>"), (0, u "()V"), (1, .class_ 10), (1, u "java/lang/System"), (0, u "allowSecurityManager"), (0, u "I"), (16, u "cons"), (0, u "Ljava/io/Console;"), (77, .class_ 110), (1, u "java/lang/System$CallersHolder"), (43, u "initialErrStream"), (0, u "Ljava/io/PrintStream;"), (19, u "security"), (0, u "Ljava/lang/SecurityManager;"), (31, .class_ 209), (0, u "java/lang/System$1"), (7, u "props"), (0, u "Ljava/util/Properties;"), (2, u "lineSeparator"), (0, u "Ljava/lang/String;"), (96, .class_ 321), (1, u "java/lang/System$LoggerFinder"), (5, .class_ 328), (0, u "java/lang/System$Logger"), (67, u "err"), (2, u "out"), (91, u "notSupportedJnuEncoding"), (15, u "in"), (17, u "initialIn"), (0, u "Ljava/io/InputStream;"), (35, u "bootLayer"), (0, u "Ljava/lang/ModuleLayer;"), (99, .class_ 664), (0, u "java/lang/System$2"), (9, u "NEVER"), (2, u "MAYBE"), (49, u "arraycopy"), (0, u "(Ljava/lang/Object;ILjava/lang/Object;II)V"), (72, .class_ 802), (0, u "java/lang/System$Logger$Level")] 31

def k28m0 : Method := { name := "<init>", desc := "()V", sig := { parameters := [], returnType := none }, accessFlags := 2, code := none }
def k28m1 : Method := { name := "arraycopy", desc := "(Ljava/lang/Object;ILjava/lang/Object;II)V", sig := { parameters := [(.object "java/lang/Object"), .int, (.object "java/lang/Object"), .int, .int], returnType := none }, accessFlags := 265, code := none }
/-- java/lang/System -/
def k28 : Class := { plain "java/lang/System" (some 0) with
  accessFlags := 49
  interfaces := #[]
  cf := some (fileOf pool28 8 #[.nestMembers #[319, 327, 801, 108, 663, 208]] #[{ accessFlags := 2, nameIndex := 5, descriptorIndex := 6, attributes := #[] }, { accessFlags := 265, nameIndex := 727, descriptorIndex := 728, attributes := #[] }] 49 2 #[] #[{ accessFlags := 25, nameIndex := 507, descriptorIndex := 526, attributes := #[] }, { accessFlags := 25, nameIndex := 399, descriptorIndex := 155, attributes := #[] }, { accessFlags := 25, nameIndex := 396, descriptorIndex := 155, attributes := #[] }, { accessFlags := 10, nameIndex := 525, descriptorIndex := 526, attributes := #[] }, { accessFlags := 26, nameIndex := 674, descriptorIndex := 12, attributes := #[] }, { accessFlags := 26, nameIndex := 677, descriptorIndex := 12, attributes := #[] }, { accessFlags := 10, nameIndex := 11, descriptorIndex := 12, attributes := #[] }, { accessFlags := 74, nameIndex := 175, descriptorIndex := 176, attributes := #[] }, { accessFlags := 10, nameIndex := 491, descriptorIndex := 222, attributes := #[] }, { accessFlags := 74, nameIndex := 29, descriptorIndex := 30, attributes := #[] }, { accessFlags := 74, nameIndex := 154, descriptorIndex := 155, attributes := #[] }, { accessFlags := 10, nameIndex := 217, descriptorIndex := 218, attributes := #[] }, { accessFlags := 10, nameIndex := 221, descriptorIndex := 222, attributes := #[] }, { accessFlags := 8, nameIndex := 562, descriptorIndex := 563, attributes := #[] }])
  fields := #[{ name := "in", type := (.object "java/io/InputStream"), accessFlags := 25, slot := 0, constantValue := 0 }, { name := "out", type := (.object "java/io/PrintStream"), accessFlags := 25, slot := 1, constantValue := 0 }, { name := "err", type := (.object "java/io/PrintStream"), accessFlags := 25, slot := 2, constantValue := 0 }, { name := "initialIn", type := (.object "java/io/InputStream"), accessFlags := 10, slot := 3, constantValue := 0 }, { name := "NEVER", type := .int, accessFlags := 26, slot := 4, constantValue := 0 }, { name := "MAYBE", type := .int, accessFlags := 26, slot := 5, constantValue := 0 }, { name := "allowSecurityManager", type := .int, accessFlags := 10, slot := 6, constantValue := 0 }, { name := "security", type := (.object "java/lang/SecurityManager"), accessFlags := 74, slot := 7, constantValue := 0 }, { name := "notSupportedJnuEncoding", type := (.object "java/lang/String"), accessFlags := 10, slot := 8, constantValue := 0 }, { name := "cons", type := (.object "java/io/Console"), accessFlags := 74, slot := 9, constantValue := 0 }, { name := "initialErrStream", type := (.object "java/io/PrintStream"), accessFlags := 74, slot := 10, constantValue := 0 }, { name := "props", type := (.object "java/util/Properties"), accessFlags := 10, slot := 11, constantValue := 0 }, { name := "lineSeparator", type := (.object "java/lang/String"), accessFlags := 10, slot := 12, constantValue := 0 }, { name := "bootLayer", type := (.object "java/lang/ModuleLayer"), accessFlags := 8, slot := 13, constantValue := 0 }]
  methods := #[k28m0, k28m1]
  instanceTypes := #[]
  staticTypes := #[(.object "java/io/InputStream"), (.object "java/io/PrintStream"), (.object "java/io/PrintStream"), (.object "java/io/InputStream"), .int, .int, .int, (.object "java/lang/SecurityManager"), (.object "java/lang/String"), (.object "java/io/Console"), (.object "java/io/PrintStream"), (.object "java/util/Properties"), (.object "java/lang/String"), (.object "java/lang/ModuleLayer")]
  resolved := Array.replicate 834 none
  statics := none }

def pool29 : Array CpInfo := pool [(2, .class_ 4), (1, u "java/lang/Object"), (0, u "<init>"), (0, u "()V"), (35, .class_ 44), (1, u "java/util/Objects"), (0, u "requireNonNull"), (0, u "(Ljava/lang/Object;)Ljava/lang/Object;")] 137

def k29m0 : Method := { name := "<init>", desc := "()V", sig := { parameters := [], returnType := none }, accessFlags := 2, code := none }
def k29c1 : Code := { maxStack := 2, maxLocals := 1, code := jdk_31_method_10_code, exceptionTable := #[], attributes := #[] }
def k29m1 : Method := { name := "requireNonNull", desc := "(Ljava/lang/Object;)Ljava/lang/Object;", sig := { parameters := [(.object "java/lang/Object")], returnType := some (.object "java/lang/Object") }, accessFlags := 9, code := some k29c1 }
/-- java/util/Objects -/
def k29 : Class := { plain "java/util/Objects" (some 0) with
  accessFlags := 49
  interfaces := #[]
  cf := some (fileOf pool29 42 #[] #[{ accessFlags := 2, nameIndex := 5, descriptorIndex := 6, attributes := #[] }, { accessFlags := 9, nameIndex := 45, descriptorIndex := 46, attributes := #[] }] 49 2 #[] #[])
  fields := #[]
  methods := #[k29m0, k29m1]
  instanceTypes := #[]
  staticTypes := #[]
  resolved := Array.replicate 184 none
  statics := none }

def pool30 : Array CpInfo := pool [(1, .class_ 2), (0, u "java/lang/Appendable"), (0, .class_ 4), (0, u "java/lang/Object")] 9

/-- java/lang/Appendable -/
def k30 : Class := { plain "java/lang/Appendable" (some 0) with
  accessFlags := 1537
  interfaces := #[]
  cf := some (fileOf pool30 1 #[] #[] 1537 3 #[] #[])
  fields := #[]
  methods := #[]
  instanceTypes := #[]
  staticTypes := #[]
  resolved := Array.replicate 14 none
  statics := none }

def pool31 : Array CpInfo := pool [(1, .class_ 2), (0, u "java/lang/String"), (0, .methodref 4 5), (0, .class_ 6), (0, .nameAndType 7 8), (0, u "java/lang/Object"), (0, u "<init>"), (0, u "()V"), (1, .class_ 12), (1, u "java/lang/AbstractStringBuilder"), (0, u "EMPTYVALUE"), (0, u "[B"), (0, .fieldref 10 16), (0, .nameAndType 17 14), (0, u "value"), (0, .fieldref 1 19), (0, .nameAndType 20 21), (0, u "COMPACT_STRINGS"), (0, u "Z"), (0, .fieldref 10 23), (0, .nameAndType 24 25), (0, u "coder"), (0, u "B"), (6, .methodref 1 33), (0, .nameAndType 34 35), (0, u "length"), (0, u "()I"), (3, .integer 2147483647), (0, .methodref 1 41), (0, .nameAndType 24 42), (0, u "()B"), (2, u "append"), (0, u "(Ljava/lang/String;)Ljava/lang/AbstractStringBuilder;"), (1, .class_ 49), (0, u "java/lang/CharSequence"), (19, u "(Ljava/lang/String;)V"), (5, u "maybeLatin1"), (3, .fieldref 10 80), (0, .nameAndType 81 82), (0, u "count"), (0, u "I"), (0, .methodref 10 84), (0, .nameAndType 85 86), (0, u "isLatin1"), (0, u "()Z"), (1, .class_ 90), (1, u "java/lang/StringLatin1"), (9, .methodref 10 101), (0, .nameAndType 102 103), (0, u "ensureCapacityInternal"), (0, u "(I)V"), (0, .methodref 10 105), (0, .nameAndType 106 107), (0, u "newCapacity"), (0, u "(I)I"), (0, .methodref 109 110), (0, .class_ 111), (0, .nameAndType 112 113), (0, u "java/util/Arrays"), (0, u "copyOf"), (0, u "([BI)[B"), (0, .methodref 115 116), (0, .class_ 117), (0, .nameAndType 118 119), (0, u "jdk/internal/util/ArraysSupport"), (0, u "newLength"), (0, u "(III)I"), (71, .methodref 88 192), (0, .nameAndType 193 194), (0, u "canEncode"), (0, u "(C)Z"), (13, .methodref 10 209), (0, .nameAndType 210 211), (0, u "putStringAt"), (0, u "(ILjava/lang/String;)V"), (5, u "inflateIfNeededFor"), (2, .nameAndType 221 222), (0, u "getBytes"), (0, u "([BIB)V"), (69, u "(C)Ljava/lang/AbstractStringBuilder;"), (104, .methodref 10 398), (0, .nameAndType 217 69), (0, .methodref 1 220), (3, u "()[B"), (40, .class_ 445), (0, u "java/lang/Appendable"), (106, u "getValue")] 56

def k31m0 : Method := { name := "<init>", desc := "()V", sig := { parameters := [], returnType := none }, accessFlags := 0, code := none }
def k31c1 : Code := { maxStack := 2, maxLocals := 2, code := jdk_68_method_2_code, exceptionTable := #[], attributes := #[] }
def k31m1 : Method := { name := "<init>", desc := "(I)V", sig := { parameters := [.int], returnType := none }, accessFlags := 0, code := some k31c1 }
def k31c2 : Code := { maxStack := 1, maxLocals := 1, code := jdk_68_method_6_code, exceptionTable := #[], attributes := #[] }
def k31m2 : Method := { name := "length", desc := "()I", sig := { parameters := [], returnType := some .int }, accessFlags := 1, code := some k31c2 }
def k31c3 : Code := { maxStack := 4, maxLocals := 3, code := jdk_68_method_9_code, exceptionTable := #[], attributes := #[] }
def k31m3 : Method := { name := "ensureCapacityInternal", desc := "(I)V", sig := { parameters := [.int], returnType := none }, accessFlags := 2, code := some k31c3 }
def k31c4 : Code := { maxStack := 5, maxLocals := 6, code := jdk_68_method_10_code, exceptionTable := #[], attributes := #[] }
def k31m4 : Method := { name := "newCapacity", desc := "(I)I", sig := { parameters := [.int], returnType := some .int }, accessFlags := 2, code := some k31c4 }
def k31c5 : Code := { maxStack := 3, maxLocals := 3, code := jdk_68_method_22_code, exceptionTable := #[], attributes := #[] }
def k31m5 : Method := { name := "append", desc := "(Ljava/lang/String;)Ljava/lang/AbstractStringBuilder;", sig := { parameters := [(.object "java/lang/String")], returnType := some (.object "java/lang/AbstractStringBuilder") }, accessFlags := 1, code := some k31c5 }
def k31c6 : Code := { maxStack := 5, maxLocals := 2, code := jdk_68_method_31_code, exceptionTable := #[], attributes := #[] }
def k31m6 : Method := { name := "append", desc := "(C)Ljava/lang/AbstractStringBuilder;", sig := { parameters := [.char], returnType := some (.object "java/lang/AbstractStringBuilder") }, accessFlags := 1, code := some k31c6 }
def k31c7 : Code := { maxStack := 1, maxLocals := 1, code := jdk_68_method_64_code, exceptionTable := #[], attributes := #[] }
def k31m7 : Method := { name := "getValue", desc := "()[B", sig := { parameters := [], returnType := some (.array .byte) }, accessFlags := 16, code := some k31c7 }
def k31c8 : Code := { maxStack := 1, maxLocals := 1, code := jdk_68_method_68_code, exceptionTable := #[], attributes := #[] }
def k31m8 : Method := { name := "isLatin1", desc := "()Z", sig := { parameters := [], returnType := some .boolean }, accessFlags := 16, code := some k31c8 }
def k31c9 : Code := { maxStack := 2, maxLocals := 2, code := jdk_68_method_71_code, exceptionTable := #[], attributes := #[] }
def k31m9 : Method := { name := "inflateIfNeededFor", desc := "(Ljava/lang/String;)V", sig := { parameters := [(.object "java/lang/String")], returnType := none }, accessFlags := 2, code := some k31c9 }
def k31c10 : Code := { maxStack := 4, maxLocals := 3, code := jdk_68_method_73_code, exceptionTable := #[], attributes := #[] }
def k31m10 : Method := { name := "putStringAt", desc := "(ILjava/lang/String;)V", sig := { parameters := [.int, (.object "java/lang/String")], returnType := none }, accessFlags := 2, code := some k31c10 }
/-- java/lang/AbstractStringBuilder -/
def k31 : Class := { plain "java/lang/AbstractStringBuilder" (some 0) with
  accessFlags := 1056
  interfaces := #[30, 4]
  cf := some (fileOf pool31 10 #[] #[{ accessFlags := 0, nameIndex := 7, descriptorIndex := 8, attributes := #[] }, { accessFlags := 0, nameIndex := 7, descriptorIndex := 103, attributes := #[] }, { accessFlags := 1, nameIndex := 34, descriptorIndex := 35, attributes := #[] }, { accessFlags := 2, nameIndex := 102, descriptorIndex := 103, attributes := #[] }, { accessFlags := 2, nameIndex := 106, descriptorIndex := 107, attributes := #[] }, { accessFlags := 1, nameIndex := 45, descriptorIndex := 46, attributes := #[] }, { accessFlags := 1, nameIndex := 45, descriptorIndex := 292, attributes := #[] }, { accessFlags := 16, nameIndex := 552, descriptorIndex := 403, attributes := #[] }, { accessFlags := 16, nameIndex := 85, descriptorIndex := 86, attributes := #[] }, { accessFlags := 2, nameIndex := 217, descriptorIndex := 69, attributes := #[] }, { accessFlags := 2, nameIndex := 210, descriptorIndex := 211, attributes := #[] }] 1056 4 #[444, 48] #[{ accessFlags := 0, nameIndex := 17, descriptorIndex := 14, attributes := #[] }, { accessFlags := 0, nameIndex := 24, descriptorIndex := 25, attributes := #[] }, { accessFlags := 0, nameIndex := 75, descriptorIndex := 21, attributes := #[] }, { accessFlags := 0, nameIndex := 81, descriptorIndex := 82, attributes := #[] }, { accessFlags := 26, nameIndex := 13, descriptorIndex := 14, attributes := #[] }])
  fields := #[{ name := "value", type := (.array .byte), accessFlags := 0, slot := 0, constantValue := 0 }, { name := "coder", type := .byte, accessFlags := 0, slot := 1, constantValue := 0 }, { name := "maybeLatin1", type := .boolean, accessFlags := 0, slot := 2, constantValue := 0 }, { name := "count", type := .int, accessFlags := 0, slot := 3, constantValue := 0 }, { name := "EMPTYVALUE", type := (.array .byte), accessFlags := 26, slot := 0, constantValue := 0 }]
  methods := #[k31m0, k31m1, k31m2, k31m3, k31m4, k31m5, k31m6, k31m7, k31m8, k31m9, k31m10]
  instanceTypes := #[(.array .byte), .byte, .boolean, .int]
  staticTypes := #[(.array .byte)]
  resolved := Array.replicate 609 none
  statics := none }

def pool32 : Array CpInfo := pool [(1, .methodref 2 3), (0, .class_ 4), (0, .nameAndType 5 6), (0, u "java/lang/AbstractStringBuilder"), (0, u "<init>"), (0, u "(I)V"), (10, .methodref 18 19), (0, .class_ 20), (0, .nameAndType 21 22), (0, u "java/lang/String"), (0, u "valueOf"), (0, u "(Ljava/lang/Object;)Ljava/lang/String;"), (0, .methodref 24 25), (0, .class_ 26), (0, .nameAndType 27 28), (0, u "java/lang/StringBuilder"), (0, u "append"), (0, u "(Ljava/lang/String;)Ljava/lang/StringBuilder;"), (0, .methodref 2 30), (0, .nameAndType 27 31), (0, u "(Ljava/lang/String;)Ljava/lang/AbstractStringBuilder;"), (18, .methodref 2 51), (0, .nameAndType 27 52), (0, u "(C)Ljava/lang/AbstractStringBuilder;"), (84, .methodref 18 138), (0, .nameAndType 5 139), (0, u "(Ljava/lang/StringBuilder;)V"), (5, u "()V"), (10, u "()I"), (129, u "(C)Ljava/lang/StringBuilder;"), (20, u "(Ljava/lang/Object;)Ljava/lang/StringBuilder;"), (35, .methodref 2 344), (0, .nameAndType 345 156), (0, u "length"), (3, .class_ 350), (0, u "java/lang/Appendable"), (0, .class_ 352), (0, u "java/io/Serializable"), (0, .class_ 354), (0, u "java/lang/Comparable"), (0, .class_ 356), (0, u "java/lang/CharSequence"), (0, u "serialVersionUID"), (0, u "J"), (40, u "toString"), (0, u "()Ljava/lang/String;")] 21

def k32c0 : Code := { maxStack := 2, maxLocals := 1, code := jdk_67_method_1_code, exceptionTable := #[], attributes := #[] }
def k32m0 : Method := { name := "<init>", desc := "()V", sig := { parameters := [], returnType := none }, accessFlags := 1, code := some k32c0 }
def k32c1 : Code := { maxStack := 2, maxLocals := 2, code := jdk_67_method_6_code, exceptionTable := #[], attributes := #[] }
def k32m1 : Method := { name := "append", desc := "(Ljava/lang/Object;)Ljava/lang/StringBuilder;", sig := { parameters := [(.object "java/lang/Object")], returnType := some (.object "java/lang/StringBuilder") }, accessFlags := 1, code := some k32c1 }
def k32c2 : Code := { maxStack := 2, maxLocals := 2, code := jdk_67_method_7_code, exceptionTable := #[], attributes := #[] }
def k32m2 : Method := { name := "append", desc := "(Ljava/lang/String;)Ljava/lang/StringBuilder;", sig := { parameters := [(.object "java/lang/String")], returnType := some (.object "java/lang/StringBuilder") }, accessFlags := 1, code := some k32c2 }
def k32c3 : Code := { maxStack := 2, maxLocals := 2, code := jdk_67_method_14_code, exceptionTable := #[], attributes := #[] }
def k32m3 : Method := { name := "append", desc := "(C)Ljava/lang/StringBuilder;", sig := { parameters := [.char], returnType := some (.object "java/lang/StringBuilder") }, accessFlags := 1, code := some k32c3 }
def k32c4 : Code := { maxStack := 3, maxLocals := 1, code := jdk_67_method_42_code, exceptionTable := #[], attributes := #[] }
def k32m4 : Method := { name := "toString", desc := "()Ljava/lang/String;", sig := { parameters := [], returnType := some (.object "java/lang/String") }, accessFlags := 1, code := some k32c4 }
def k32c5 : Code := { maxStack := 1, maxLocals := 1, code := jdk_67_method_93_code, exceptionTable := #[], attributes := #[] }
def k32m5 : Method := { name := "length", desc := "()I", sig := { parameters := [], returnType := some .int }, accessFlags := 4161, code := some k32c5 }
/-- java/lang/StringBuilder -/
def k32 : Class := { plain "java/lang/StringBuilder" (some 31) with
  accessFlags := 49
  interfaces := #[30, 2, 3, 4]
  cf := some (fileOf pool32 24 #[] #[{ accessFlags := 1, nameIndex := 5, descriptorIndex := 145, attributes := #[] }, { accessFlags := 1, nameIndex := 27, descriptorIndex := 307, attributes := #[] }, { accessFlags := 1, nameIndex := 27, descriptorIndex := 28, attributes := #[] }, { accessFlags := 1, nameIndex := 27, descriptorIndex := 286, attributes := #[] }, { accessFlags := 1, nameIndex := 399, descriptorIndex := 400, attributes := #[] }, { accessFlags := 4161, nameIndex := 345, descriptorIndex := 156, attributes := #[] }] 49 2 #[349, 351, 353, 355] #[{ accessFlags := 24, nameIndex := 357, descriptorIndex := 358, attributes := #[] }])
  fields := #[{ name := "serialVersionUID", type := .long, accessFlags := 24, slot := 0, constantValue := 0 }]
  methods := #[k32m0, k32m1, k32m2, k32m3, k32m4, k32m5]
  instanceTypes := #[(.array .byte), .byte, .boolean, .int]
  staticTypes := #[.long]
  resolved := Array.replicate 422 none
  statics := none }

def pool33 : Array CpInfo := pool [(9, u "<init>"), (6, .class_ 18), (1, u "java/lang/Object"), (0, u "()V"), (1, .class_ 23), (1, u "jdk/internal/util/ArraysSupport"), (0, u "LOG2_ARRAY_LONG_INDEX_SCALE"), (0, u "I"), (2, u "U"), (0, u "Ljdk/internal/misc/Unsafe;"), (8, u "BIG_ENDIAN"), (0, u "Z"), (8, u "LOG2_BYTE_BIT_SIZE"), (4, u "LOG2_ARRAY_INT_INDEX_SCALE"), (54, u "JLA"), (0, u "Ljdk/internal/access/JavaLangAccess;"), (11, u "LOG2_ARRAY_BOOLEAN_INDEX_SCALE"), (9, u "LOG2_ARRAY_BYTE_INDEX_SCALE"), (5, u "LOG2_ARRAY_CHAR_INDEX_SCALE"), (5, u "LOG2_ARRAY_SHORT_INDEX_SCALE"), (18, u "LOG2_ARRAY_FLOAT_INDEX_SCALE"), (24, u "LOG2_ARRAY_DOUBLE_INDEX_SCALE"), (6, .methodref 195 196), (0, .class_ 197), (0, .nameAndType 198 199), (0, u "java/lang/Math"), (0, u "max"), (0, u "(II)I"), (0, .integer 2147483639), (76, u "T_BOOLEAN"), (2, u "T_CHAR"), (1, u "T_FLOAT"), (1, u "T_DOUBLE"), (1, u "T_BYTE"), (1, u "T_SHORT"), (1, u "T_INT"), (1, u "T_LONG"), (1, u "SOFT_MAX_ARRAY_LENGTH"), (56, u "newLength"), (0, u "(III)I")] 25

def k33m0 : Method := { name := "<init>", desc := "()V", sig := { parameters := [], returnType := none }, accessFlags := 2, code := none }
def k33c1 : Code := { maxStack := 3, maxLocals := 4, code := jdk_48_method_27_code, exceptionTable := #[], attributes := #[] }
def k33m1 : Method := { name := "newLength", desc := "(III)I", sig := { parameters := [.int, .int, .int], returnType := some .int }, accessFlags := 9, code := some k33c1 }
/-- jdk/internal/util/ArraysSupport -/
def k33 : Class := { plain "jdk/internal/util/ArraysSupport" (some 0) with
  accessFlags := 33
  interfaces := #[]
  cf := some (fileOf pool33 21 #[] #[{ accessFlags := 2, nameIndex := 9, descriptorIndex := 19, attributes := #[] }, { accessFlags := 9, nameIndex := 351, descriptorIndex := 352, attributes := #[] }] 33 16 #[] #[{ accessFlags := 24, nameIndex := 28, descriptorIndex := 29, attributes := #[] }, { accessFlags := 26, nameIndex := 38, descriptorIndex := 39, attributes := #[] }, { accessFlags := 25, nameIndex := 121, descriptorIndex := 25, attributes := #[] }, { accessFlags := 25, nameIndex := 131, descriptorIndex := 25, attributes := #[] }, { accessFlags := 25, nameIndex := 137, descriptorIndex := 25, attributes := #[] }, { accessFlags := 25, nameIndex := 143, descriptorIndex := 25, attributes := #[] }, { accessFlags := 25, nameIndex := 53, descriptorIndex := 25, attributes := #[] }, { accessFlags := 25, nameIndex := 24, descriptorIndex := 25, attributes := #[] }, { accessFlags := 25, nameIndex := 162, descriptorIndex := 25, attributes := #[] }, { accessFlags := 25, nameIndex := 187, descriptorIndex := 25, attributes := #[] }, { accessFlags := 26, nameIndex := 48, descriptorIndex := 25, attributes := #[] }, { accessFlags := 25, nameIndex := 277, descriptorIndex := 25, attributes := #[] }, { accessFlags := 25, nameIndex := 280, descriptorIndex := 25, attributes := #[] }, { accessFlags := 25, nameIndex := 282, descriptorIndex := 25, attributes := #[] }, { accessFlags := 25, nameIndex := 284, descriptorIndex := 25, attributes := #[] }, { accessFlags := 25, nameIndex := 286, descriptorIndex := 25, attributes := #[] }, { accessFlags := 25, nameIndex := 288, descriptorIndex := 25, attributes := #[] }, { accessFlags := 25, nameIndex := 290, descriptorIndex := 25, attributes := #[] }, { accessFlags := 25, nameIndex := 292, descriptorIndex := 25, attributes := #[] }, { accessFlags := 26, nameIndex := 108, descriptorIndex := 109, attributes := #[] }, { accessFlags := 25, nameIndex := 294, descriptorIndex := 25, attributes := #[] }])
  fields := #[{ name := "U", type := (.object "jdk/internal/misc/Unsafe"), accessFlags := 24, slot := 0, constantValue := 0 }, { name := "BIG_ENDIAN", type := .boolean, accessFlags := 26, slot := 1, constantValue := 0 }, { name := "LOG2_ARRAY_BOOLEAN_INDEX_SCALE", type := .int, accessFlags := 25, slot := 2, constantValue := 0 }, { name := "LOG2_ARRAY_BYTE_INDEX_SCALE", type := .int, accessFlags := 25, slot := 3, constantValue := 0 }, { name := "LOG2_ARRAY_CHAR_INDEX_SCALE", type := .int, accessFlags := 25, slot := 4, constantValue := 0 }, { name := "LOG2_ARRAY_SHORT_INDEX_SCALE", type := .int, accessFlags := 25, slot := 5, constantValue := 0 }, { name := "LOG2_ARRAY_INT_INDEX_SCALE", type := .int, accessFlags := 25, slot := 6, constantValue := 0 }, { name := "LOG2_ARRAY_LONG_INDEX_SCALE", type := .int, accessFlags := 25, slot := 7, constantValue := 0 }, { name := "LOG2_ARRAY_FLOAT_INDEX_SCALE", type := .int, accessFlags := 25, slot := 8, constantValue := 0 }, { name := "LOG2_ARRAY_DOUBLE_INDEX_SCALE", type := .int, accessFlags := 25, slot := 9, constantValue := 0 }, { name := "LOG2_BYTE_BIT_SIZE", type := .int, accessFlags := 26, slot := 10, constantValue := 0 }, { name := "T_BOOLEAN", type := .int, accessFlags := 25, slot := 11, constantValue := 0 }, { name := "T_CHAR", type := .int, accessFlags := 25, slot := 12, constantValue := 0 }, { name := "T_FLOAT", type := .int, accessFlags := 25, slot := 13, constantValue := 0 }, { name := "T_DOUBLE", type := .int, accessFlags := 25, slot := 14, constantValue := 0 }, { name := "T_BYTE", type := .int, accessFlags := 25, slot := 15, constantValue := 0 }, { name := "T_SHORT", type := .int, accessFlags := 25, slot := 16, constantValue := 0 }, { name := "T_INT", type := .int, accessFlags := 25, slot := 17, constantValue := 0 }, { name := "T_LONG", type := .int, accessFlags := 25, slot := 18, constantValue := 0 }, { name := "JLA", type := (.object "jdk/internal/access/JavaLangAccess"), accessFlags := 26, slot := 19, constantValue := 0 }, { name := "SOFT_MAX_ARRAY_LENGTH", type := .int, accessFlags := 25, slot := 20, constantValue := 0 }]
  methods := #[k33m0, k33m1]
  instanceTypes := #[]
  staticTypes := #[(.object "jdk/internal/misc/Unsafe"), .boolean, .int, .int, .int, .int, .int, .int, .int, .int, .int, .int, .int, .int, .int, .int, .int, .int, .int, (.object "jdk/internal/access/JavaLangAccess"), .int]
  resolved := Array.replicate 378 none
  statics := none }

def pool34 : Array CpInfo := pool [(16, .class_ 18), (1, u "java/util/Iterator"), (0, u "hasNext"), (0, u "()Z"), (2, u "next"), (0, u "()Ljava/lang/Object;"), (6, .class_ 32), (0, u "java/lang/Object")] 20

def k34m0 : Method := { name := "hasNext", desc := "()Z", sig := { parameters := [], returnType := some .boolean }, accessFlags := 1025, code := none }
def k34m1 : Method := { name := "next", desc := "()Ljava/lang/Object;", sig := { parameters := [], returnType := some (.object "java/lang/Object") }, accessFlags := 1025, code := none }
/-- java/util/Iterator -/
def k34 : Class := { plain "java/util/Iterator" (some 0) with
  accessFlags := 1537
  interfaces := #[]
  cf := some (fileOf pool34 16 #[] #[{ accessFlags := 1025, nameIndex := 19, descriptorIndex := 20, attributes := #[] }, { accessFlags := 1025, nameIndex := 23, descriptorIndex := 24, attributes := #[] }] 1537 31 #[] #[])
  fields := #[]
  methods := #[k34m0, k34m1]
  instanceTypes := #[]
  staticTypes := #[]
  resolved := Array.replicate 53 none
  statics := none }

def pool35 : Array CpInfo := pool [(1, .class_ 2), (0, u "java/util/ListIterator"), (0, .class_ 4), (0, u "java/lang/Object"), (0, .class_ 6), (0, u "java/util/Iterator")] 20

/-- java/util/ListIterator -/
def k35 : Class := { plain "java/util/ListIterator" (some 0) with
  accessFlags := 1537
  interfaces := #[34]
  cf := some (fileOf pool35 1 #[] #[] 1537 3 #[5] #[])
  fields := #[]
  methods := #[]
  instanceTypes := #[]
  staticTypes := #[]
  resolved := Array.replicate 27 none
  statics := none }

def pool36 : Array CpInfo := pool [(1, .methodref 2 3), (0, .class_ 4), (0, .nameAndType 5 6), (0, u "java/lang/Object"), (0, u "<init>"), (0, u "()V"), (0, .fieldref 8 9), (0, .class_ 10), (0, .nameAndType 11 12), (0, u "java/util/ImmutableCollections$ListItr"), (0, u "list"), (0, u "Ljava/util/List;"), (0, .fieldref 8 14), (0, .nameAndType 15 16), (0, u "size"), (0, u "I"), (0, .fieldref 8 18), (0, .nameAndType 19 16), (0, u "cursor"), (0, .fieldref 8 21), (0, .nameAndType 22 23), (0, u "isListIterator"), (0, u "Z"), (0, .interfaceMethodref 25 26), (0, .class_ 27), (0, .nameAndType 28 29), (0, u "java/util/List"), (0, u "get"), (0, u "(I)Ljava/lang/Object;"), (6, .class_ 38), (1, u "java/util/ImmutableCollections"), (2, .class_ 42), (0, u "java/util/ListIterator"), (4, u "(Ljava/util/List;I)V"), (11, u "hasNext"), (0, u "()Z"), (1, u "next"), (0, u "()Ljava/lang/Object;")] 22

def k36c0 : Code := { maxStack := 2, maxLocals := 3, code := jdk_53_method_1_code, exceptionTable := #[], attributes := #[] }
def k36m0 : Method := { name := "<init>", desc := "(Ljava/util/List;I)V", sig := { parameters := [(.object "java/util/List"), .int], returnType := none }, accessFlags := 0, code := some k36c0 }
def k36c1 : Code := { maxStack := 2, maxLocals := 1, code := jdk_53_method_3_code, exceptionTable := #[], attributes := #[] }
def k36m1 : Method := { name := "hasNext", desc := "()Z", sig := { parameters := [], returnType := some .boolean }, accessFlags := 1, code := some k36c1 }
def k36c2 : Code := { maxStack := 3, maxLocals := 3, code := jdk_53_method_4_code, exceptionTable := #[{ startPc := 0, endPc := 24, handlerPc := 25, catchType := 30 }], attributes := #[] }
def k36m2 : Method := { name := "next", desc := "()Ljava/lang/Object;", sig := { parameters := [], returnType := some (.object "java/lang/Object") }, accessFlags := 1, code := some k36c2 }
/-- java/util/ImmutableCollections$ListItr -/
def k36 : Class := { plain "java/util/ImmutableCollections$ListItr" (some 0) with
  accessFlags := 48
  interfaces := #[35]
  cf := some (fileOf pool36 8 #[.nestHost 36] #[{ accessFlags := 0, nameIndex := 5, descriptorIndex := 47, attributes := #[] }, { accessFlags := 1, nameIndex := 59, descriptorIndex := 60, attributes := #[] }, { accessFlags := 1, nameIndex := 62, descriptorIndex := 63, attributes := #[] }] 48 2 #[41] #[{ accessFlags := 18, nameIndex := 11, descriptorIndex := 12, attributes := #[] }, { accessFlags := 18, nameIndex := 15, descriptorIndex := 16, attributes := #[] }, { accessFlags := 18, nameIndex := 22, descriptorIndex := 23, attributes := #[] }, { accessFlags := 2, nameIndex := 19, descriptorIndex := 16, attributes := #[] }])
  fields := #[{ name := "list", type := (.object "java/util/List"), accessFlags := 18, slot := 0, constantValue := 0 }, { name := "size", type := .int, accessFlags := 18, slot := 1, constantValue := 0 }, { name := "isListIterator", type := .boolean, accessFlags := 18, slot := 2, constantValue := 0 }, { name := "cursor", type := .int, accessFlags := 2, slot := 3, constantValue := 0 }]
  methods := #[k36m0, k36m1, k36m2]
  instanceTypes := #[(.object "java/util/List"), .int, .boolean, .int]
  staticTypes := #[]
  resolved := Array.replicate 86 none
  statics := none }

def pool37 : Array CpInfo := pool [(2, .class_ 4), (1, u "java/lang/Object"), (0, u "<init>"), (0, u "()V"), (17, .class_ 26), (1, u "jdk/internal/util/Preconditions"), (28, .class_ 56), (0, u "jdk/internal/util/Preconditions$4"), (57, .class_ 115), (0, u "jdk/internal/util/Preconditions$1"), (7, u "SIOOBE_FORMATTER"), (0, u "Ljava/util/function/BiFunction;"), (0, .class_ 126), (0, u "jdk/internal/util/Preconditions$2"), (3, u "AIOOBE_FORMATTER"), (0, .class_ 132), (0, u "jdk/internal/util/Preconditions$3"), (3, u "IOOBE_FORMATTER")] 57

def k37m0 : Method := { name := "<init>", desc := "()V", sig := { parameters := [], returnType := none }, accessFlags := 1, code := none }
/-- jdk/internal/util/Preconditions -/
def k37 : Class := { plain "jdk/internal/util/Preconditions" (some 0) with
  accessFlags := 33
  interfaces := #[]
  cf := some (fileOf pool37 24 #[.nestMembers #[55, 131, 125, 114]] #[{ accessFlags := 1, nameIndex := 5, descriptorIndex := 6, attributes := #[] }] 33 2 #[] #[{ accessFlags := 25, nameIndex := 123, descriptorIndex := 124, attributes := #[] }, { accessFlags := 25, nameIndex := 130, descriptorIndex := 124, attributes := #[] }, { accessFlags := 25, nameIndex := 136, descriptorIndex := 124, attributes := #[] }])
  fields := #[{ name := "SIOOBE_FORMATTER", type := (.object "java/util/function/BiFunction"), accessFlags := 25, slot := 0, constantValue := 0 }, { name := "AIOOBE_FORMATTER", type := (.object "java/util/function/BiFunction"), accessFlags := 25, slot := 1, constantValue := 0 }, { name := "IOOBE_FORMATTER", type := (.object "java/util/function/BiFunction"), accessFlags := 25, slot := 2, constantValue := 0 }]
  methods := #[k37m0]
  instanceTypes := #[]
  staticTypes := #[(.object "java/util/function/BiFunction"), (.object "java/util/function/BiFunction"), (.object "java/util/function/BiFunction")]
  resolved := Array.replicate 194 none
  statics := some 3 }

def pool38 : Array CpInfo := pool [(1, u "java/lang/Class"), (0, .class_ 1), (0, u "java/lang/Object"), (0, .class_ 3)] 3

/-- java/lang/Class -/
def k38 : Class := { plain "java/lang/Class" (some 0) with
  accessFlags := 49
  interfaces := #[]
  cf := some (fileOf pool38 2 #[] #[] 49 4 #[] #[])
  fields := #[]
  methods := #[]
  instanceTypes := #[]
  staticTypes := #[]
  resolved := Array.replicate 8 none
  statics := none }

/-- the primitive byte -/
def k39 : Class := { plain "byte" none with kind := .primitive 'B', accessFlags := 0x411 }
/-- [B -/
def k40 : Class := { plain "[B" (some 0) with kind := .array 39 .byte, interfaces := #[16, 2], accessFlags := 1041 }

/-- the primitive char -/
def k41 : Class := { plain "char" none with kind := .primitive 'C', accessFlags := 0x411 }
/-- [C -/
def k42 : Class := { plain "[C" (some 0) with kind := .array 41 .char, interfaces := #[16, 2], accessFlags := 1041 }

/-- the primitive int -/
def k43 : Class := { plain "int" none with kind := .primitive 'I', accessFlags := 0x411 }
/-- [I -/
def k44 : Class := { plain "[I" (some 0) with kind := .array 43 .int, interfaces := #[16, 2], accessFlags := 1041 }

/-- [Ljava/lang/Object; -/
def k45 : Class := { plain "[Ljava/lang/Object;" (some 0) with kind := .array 0 (.object "java/lang/Object"), interfaces := #[16, 2], accessFlags := 1041, mirror := some 4 }

def heap : Heap := #[{ cls := 7, slots := #[.long 0, .int 1, .null, .int 0, .null, .int 0, .int 0], vm := .statics 7 },
  { cls := 17, slots := #[.long 0, .int 0, .ref 7, .ref 8], vm := .statics 17 },
  { cls := 22, slots := #[.long 0, .int 0, .null, .ref 9, .ref 6, .null, .null, .null, .int 0, .int 1], vm := .statics 22 },
  { cls := 37, slots := #[.null, .null, .null], vm := .statics 37 },
  { cls := 38, slots := #[], vm := .mirror 45 },
  { cls := 45, slots := #[], vm := .none },
  { cls := 26, slots := #[.ref 5, .int 0], vm := .none },
  { cls := 45, slots := #[], vm := .none },
  { cls := 45, slots := #[], vm := .none },
  { cls := 0, slots := #[], vm := .none }]
def classes : Array Class := #[k0, k1, k2, k3, k4, k5, k6, k7, k8, k9, k10, k11, k12, k13, k14, k15, k16, k17, k18, k19, k20, k21, k22, k23, k24, k25, k26, k27, k28, k29, k30, k31, k32, k33, k34, k35, k36, k37, k38, k39, k40, k41, k42, k43, k44, k45]
def interned : List (Array UInt16 × Addr) := []
def slotsUsed : Nat := 26
def theMethod : MethodId := ⟨1, 1⟩
def args0 : Array Value := #[.int 5, .int 5, .int 5, .int 5]
def aboutOver (below : List Frame) : State where
  vm := { classes := classes, interned := interned.toArray }
  heap := heap
  slotsUsed := slotsUsed
  threads := #[{ frames := .invoking theMethod args0 :: below }]
def below0 : List Frame := [.native { method := ⟨0, 0⟩, args := #[] }]
def about1 : State := aboutOver below0
def p0 : Program := .bare "" "" ""
def e0 : Env := launch0.env 0 0 0
theorem w_frames : about1.frames = Frame.invoking theMethod args0 :: below0 := rfl
set_option maxRecDepth 65536 in
theorem w_args : argsFit about1.vm theMethod args0 = true := by decide +kernel
set_option maxRecDepth 65536 in
theorem w_heap : heapFits about1 = true := by decide +kernel
set_option maxRecDepth 65536 in
theorem w_runnable : about1.curStatus? = some .runnable := by decide +kernel
set_option maxRecDepth 65536 in
theorem w_alone : about1.alone = true := by decide +kernel
set_option maxRecDepth 65536 in
theorem w_named : about1.methodNamed? x = some theMethod := by decide +kernel
set_option maxRecDepth 65536 in
theorem w_hears : about1.hears theMethod below0 = true := by decide +kernel
set_option maxRecDepth 65536 in
theorem w_ripe : about1.ripe theMethod args0 below0 = true := by decide +kernel
theorem w_running : about1.status = .running := rfl
set_option maxRecDepth 65536 in
theorem w_room : about1.hasRoom e0.platform room_1 = true :=
  launch0.hasRoom_least _ room_1 (by decide +kernel) (by decide +kernel) (by decide +kernel) (by decide +kernel) (by decide +kernel) (by decide +kernel)
theorem allAtoms_all (ts : List Jvm.Cond) (a : Array Jvm.Value) (st : Jvm.State) : (allAtoms ts).before a st = ts.all (fun c => c.before a st) := by
  induction ts with
  | nil => rfl
  | cons c t ih =>
    show (Jvm.Cond.and c (allAtoms t)).before a st = _
    rw [Jvm.Cond.before_and, ih, List.all_cons]
def words1 : List Jvm.Cond := Jvm.Cond.code x code maxLocals ret :: tables_1
/-- a 'code' word, met by the world's own term for the bytes: nothing is compared byte by byte -/
theorem code_word {y : MethodName} {bytes : ByteArray} {mx : Nat} {rt : Option FieldType} {a : Array Value} {s : State} {m : MethodId} {meth : Method} {c : Code} (h1 : s.methodNamed? y = some m) (h2 : s.vm.method? m = some meth) (h3 : meth.code = some c) (h4 : c.code = bytes)
    (h5 : (c.maxLocals == mx && c.exceptionTable.isEmpty && decide (c.maxStack ≤ mostOperands) && decide (meth.sig.returnType = rt) && !meth.locks && decide (parseMethodDescriptor y.desc = some meth.sig)) = true) : (Jvm.Cond.code y bytes mx rt).before a s = true := by
  simp only [Bool.and_eq_true, beq_iff_eq, Bool.not_eq_true', decide_eq_true_eq] at h5
  obtain ⟨⟨⟨⟨⟨g1, g2⟩, g3⟩, g4⟩, g5⟩, g6⟩ := h5
  simp [Cond.before, Cond.holds, Cond.value, h1, h2, h3, h4, g1, g2, g3, g4, g5, g6]
def isCode : Jvm.Cond → Bool
  | .code _ _ _ _ => true
  | _ => false
theorem all_split {L : List Jvm.Cond} {P : Jvm.Cond → Bool} (h1 : L.all (fun c => isCode c || P c) = true) (h2 : ∀ c ∈ L.filter isCode, P c = true) : L.all P = true := by
  refine List.all_eq_true.mpr fun c hc => ?_
  have h := List.all_eq_true.mp h1 c hc
  rcases Bool.eq_false_or_eq_true (isCode c) with hi | hi
  · exact h2 c (List.mem_filter.mpr ⟨hc, hi⟩)
  · simpa [hi] using h
set_option maxRecDepth 65536 in
theorem w_c0 : (Jvm.Cond.code x code maxLocals ret).before args0 about1 = true := code_word (m := ⟨1, 1⟩) (meth := k1m1) (c := k1c1) (by decide +kernel) rfl rfl rfl (by decide +kernel)
set_option maxRecDepth 65536 in
theorem w_c1 : (Jvm.Cond.code ({ cls := "java/lang/String", name := "<init>", desc := "([C)V" } : Jvm.MethodName) jdk_42_method_3_code (2 : Nat) (Option.none : Option Jvm.ClassFile.FieldType)).before args0 about1 = true := code_word (m := ⟨7, 1⟩) (meth := k7m1) (c := k7c1) (by decide +kernel) rfl rfl rfl (by decide +kernel)
set_option maxRecDepth 65536 in
theorem w_c2 : (Jvm.Cond.code ({ cls := "java/lang/String", name := "<init>", desc := "([CIILjava/lang/Void;)V" } : Jvm.MethodName) jdk_42_method_149_code (6 : Nat) (Option.none : Option Jvm.ClassFile.FieldType)).before args0 about1 = true := code_word (m := ⟨7, 9⟩) (meth := k7m9) (c := k7c9) (by decide +kernel) rfl rfl rfl (by decide +kernel)
set_option maxRecDepth 65536 in
theorem w_c3 : (Jvm.Cond.code ({ cls := "java/lang/Object", name := "<init>", desc := "()V" } : Jvm.MethodName) object_method_1_code (1 : Nat) (Option.none : Option Jvm.ClassFile.FieldType)).before args0 about1 = true := code_word (m := ⟨0, 0⟩) (meth := k0m0) (c := k0c0) (by decide +kernel) rfl rfl rfl (by decide +kernel)
set_option maxRecDepth 65536 in
theorem w_c4 : (Jvm.Cond.code ({ cls := "java/lang/StringUTF16", name := "compress", desc := "([CII)[B" } : Jvm.MethodName) jdk_52_method_16_code (6 : Nat) (Option.some (Jvm.ClassFile.FieldType.array Jvm.ClassFile.FieldType.byte))).before args0 about1 = true := code_word (m := ⟨8, 2⟩) (meth := k8m2) (c := k8c2) (by decide +kernel) rfl rfl rfl (by decide +kernel)
set_option maxRecDepth 65536 in
theorem w_c5 : (Jvm.Cond.code ({ cls := "java/lang/StringUTF16", name := "compress", desc := "([CI[BII)I" } : Jvm.MethodName) jdk_52_method_21_code (7 : Nat) (Option.some Jvm.ClassFile.FieldType.int)).before args0 about1 = true := code_word (m := ⟨8, 3⟩) (meth := k8m3) (c := k8c3) (by decide +kernel) rfl rfl rfl (by decide +kernel)
set_option maxRecDepth 65536 in
theorem w_c6 : (Jvm.Cond.code ({ cls := "java/lang/StringUTF16", name := "coderFromArrayLen", desc := "([BI)B" } : Jvm.MethodName) jdk_52_method_15_code (2 : Nat) (Option.some Jvm.ClassFile.FieldType.byte)).before args0 about1 = true := code_word (m := ⟨8, 1⟩) (meth := k8m1) (c := k8c1) (by decide +kernel) rfl rfl rfl (by decide +kernel)
set_option maxRecDepth 65536 in
theorem w_c7 : (Jvm.Cond.code ({ cls := "java/util/ArrayList", name := "<init>", desc := "()V" } : Jvm.MethodName) jdk_38_method_2_code (1 : Nat) (Option.none : Option Jvm.ClassFile.FieldType)).before args0 about1 = true := code_word (m := ⟨17, 0⟩) (meth := k17m0) (c := k17c0) (by decide +kernel) rfl rfl rfl (by decide +kernel)
set_option maxRecDepth 65536 in
theorem w_c8 : (Jvm.Cond.code ({ cls := "java/util/AbstractList", name := "<init>", desc := "()V" } : Jvm.MethodName) jdk_39_method_1_code (1 : Nat) (Option.none : Option Jvm.ClassFile.FieldType)).before args0 about1 = true := code_word (m := ⟨14, 0⟩) (meth := k14m0) (c := k14c0) (by decide +kernel) rfl rfl rfl (by decide +kernel)
set_option maxRecDepth 65536 in
theorem w_c9 : (Jvm.Cond.code ({ cls := "java/util/AbstractCollection", name := "<init>", desc := "()V" } : Jvm.MethodName) jdk_22_method_1_code (1 : Nat) (Option.none : Option Jvm.ClassFile.FieldType)).before args0 about1 = true := code_word (m := ⟨11, 0⟩) (meth := k11m0) (c := k11c0) (by decide +kernel) rfl rfl rfl (by decide +kernel)
set_option maxRecDepth 65536 in
theorem w_c10 : (Jvm.Cond.code ({ cls := "java/lang/String", name := "valueOf", desc := "(C)Ljava/lang/String;" } : Jvm.MethodName) jdk_42_method_139_code (1 : Nat) (Option.some (Jvm.ClassFile.FieldType.object "java/lang/String"))).before args0 about1 = true := code_word (m := ⟨7, 7⟩) (meth := k7m7) (c := k7c7) (by decide +kernel) rfl rfl rfl (by decide +kernel)
set_option maxRecDepth 65536 in
theorem w_c11 : (Jvm.Cond.code ({ cls := "java/lang/StringLatin1", name := "canEncode", desc := "(C)Z" } : Jvm.MethodName) jdk_43_method_3_code (1 : Nat) (Option.some Jvm.ClassFile.FieldType.boolean)).before args0 about1 = true := code_word (m := ⟨18, 1⟩) (meth := k18m1) (c := k18c1) (by decide +kernel) rfl rfl rfl (by decide +kernel)
set_option maxRecDepth 65536 in
theorem w_c12 : (Jvm.Cond.code ({ cls := "java/lang/StringLatin1", name := "toBytes", desc := "(C)[B" } : Jvm.MethodName) jdk_43_method_46_code (1 : Nat) (Option.some (Jvm.ClassFile.FieldType.array Jvm.ClassFile.FieldType.byte))).before args0 about1 = true := code_word (m := ⟨18, 3⟩) (meth := k18m3) (c := k18c3) (by decide +kernel) rfl rfl rfl (by decide +kernel)
set_option maxRecDepth 65536 in
theorem w_c13 : (Jvm.Cond.code ({ cls := "java/lang/String", name := "<init>", desc := "([BB)V" } : Jvm.MethodName) jdk_42_method_151_code (3 : Nat) (Option.none : Option Jvm.ClassFile.FieldType)).before args0 about1 = true := code_word (m := ⟨7, 11⟩) (meth := k7m11) (c := k7c11) (by decide +kernel) rfl rfl rfl (by decide +kernel)
set_option maxRecDepth 65536 in
theorem w_c14 : (Jvm.Cond.code ({ cls := "java/util/ArrayList", name := "add", desc := "(Ljava/lang/Object;)Z" } : Jvm.MethodName) jdk_38_method_25_code (2 : Nat) (Option.some Jvm.ClassFile.FieldType.boolean)).before args0 about1 = true := code_word (m := ⟨17, 6⟩) (meth := k17m6) (c := k17c6) (by decide +kernel) rfl rfl rfl (by decide +kernel)
set_option maxRecDepth 65536 in
theorem w_c15 : (Jvm.Cond.code ({ cls := "java/util/ArrayList", name := "add", desc := "(Ljava/lang/Object;[Ljava/lang/Object;I)V" } : Jvm.MethodName) jdk_38_method_24_code (4 : Nat) (Option.none : Option Jvm.ClassFile.FieldType)).before args0 about1 = true := code_word (m := ⟨17, 5⟩) (meth := k17m5) (c := k17c5) (by decide +kernel) rfl rfl rfl (by decide +kernel)
set_option maxRecDepth 65536 in
theorem w_c16 : (Jvm.Cond.code ({ cls := "java/util/ArrayList", name := "grow", desc := "()[Ljava/lang/Object;" } : Jvm.MethodName) jdk_38_method_7_code (1 : Nat) (Option.some (Jvm.ClassFile.FieldType.array (Jvm.ClassFile.FieldType.object "java/lang/Object")))).before args0 about1 = true := code_word (m := ⟨17, 2⟩) (meth := k17m2) (c := k17c2) (by decide +kernel) rfl rfl rfl (by decide +kernel)
set_option maxRecDepth 65536 in
theorem w_c17 : (Jvm.Cond.code ({ cls := "java/util/ArrayList", name := "grow", desc := "(I)[Ljava/lang/Object;" } : Jvm.MethodName) jdk_38_method_6_code (4 : Nat) (Option.some (Jvm.ClassFile.FieldType.array (Jvm.ClassFile.FieldType.object "java/lang/Object")))).before args0 about1 = true := code_word (m := ⟨17, 1⟩) (meth := k17m1) (c := k17c1) (by decide +kernel) rfl rfl rfl (by decide +kernel)
set_option maxRecDepth 65536 in
theorem w_c18 : (Jvm.Cond.code ({ cls := "java/lang/Math", name := "max", desc := "(II)I" } : Jvm.MethodName) jdk_29_method_65_code (2 : Nat) (Option.some Jvm.ClassFile.FieldType.int)).before args0 about1 = true := code_word (m := ⟨19, 1⟩) (meth := k19m1) (c := k19c1) (by decide +kernel) rfl rfl rfl (by decide +kernel)
set_option maxRecDepth 65536 in
theorem w_c19 : (Jvm.Cond.code ({ cls := "com/example/passlane/passlane/oidc/ClientToStringPinLaw", name := "expected", desc := "(CCICC)[C" } : Jvm.MethodName) method_3_code (6 : Nat) (Option.some (Jvm.ClassFile.FieldType.array Jvm.ClassFile.FieldType.char))).before args0 about1 = true := code_word (m := ⟨1, 2⟩) (meth := k1m2) (c := k1c2) (by decide +kernel) rfl rfl rfl (by decide +kernel)
set_option maxRecDepth 65536 in
theorem w_c20 : (Jvm.Cond.code ({ cls := "com/example/passlane/passlane/oidc/Client", name := "<init>", desc := "(Ljava/lang/String;Ljava/lang/String;Ljava/util/List;Ljava/util/List;Ljava/lang/String;)V" } : Jvm.MethodName) prog_8_method_1_code (6 : Nat) (Option.none : Option Jvm.ClassFile.FieldType)).before args0 about1 = true := code_word (m := ⟨21, 0⟩) (meth := k21m0) (c := k21c0) (by decide +kernel) rfl rfl rfl (by decide +kernel)
set_option maxRecDepth 65536 in
theorem w_c21 : (Jvm.Cond.code ({ cls := "java/lang/Record", name := "<init>", desc := "()V" } : Jvm.MethodName) jdk_30_method_1_code (1 : Nat) (Option.none : Option Jvm.ClassFile.FieldType)).before args0 about1 = true := code_word (m := ⟨20, 0⟩) (meth := k20m0) (c := k20c0) (by decide +kernel) rfl rfl rfl (by decide +kernel)
set_option maxRecDepth 65536 in
theorem w_c22 : (Jvm.Cond.code ({ cls := "java/util/List", name := "copyOf", desc := "(Ljava/util/Collection;)Ljava/util/List;" } : Jvm.MethodName) jdk_40_method_48_code (1 : Nat) (Option.some (Jvm.ClassFile.FieldType.object "java/util/List"))).before args0 about1 = true := code_word (m := ⟨13, 3⟩) (meth := k13m3) (c := k13c3) (by decide +kernel) rfl rfl rfl (by decide +kernel)
set_option maxRecDepth 65536 in
theorem w_c23 : (Jvm.Cond.code ({ cls := "java/util/ImmutableCollections", name := "listCopy", desc := "(Ljava/util/Collection;)Ljava/util/List;" } : Jvm.MethodName) jdk_56_method_3_code (2 : Nat) (Option.some (Jvm.ClassFile.FieldType.object "java/util/List"))).before args0 about1 = true := code_word (m := ⟨22, 1⟩) (meth := k22m1) (c := k22c1) (by decide +kernel) rfl rfl rfl (by decide +kernel)
set_option maxRecDepth 65536 in
theorem w_c24 : (Jvm.Cond.code ({ cls := "java/util/ArrayList", name := "isEmpty", desc := "()Z" } : Jvm.MethodName) jdk_38_method_9_code (1 : Nat) (Option.some Jvm.ClassFile.FieldType.boolean)).before args0 about1 = true := code_word (m := ⟨17, 3⟩) (meth := k17m3) (c := k17c3) (by decide +kernel) rfl rfl rfl (by decide +kernel)
set_option maxRecDepth 65536 in
theorem w_c25 : (Jvm.Cond.code ({ cls := "java/util/ArrayList", name := "toArray", desc := "()[Ljava/lang/Object;" } : Jvm.MethodName) jdk_38_method_16_code (1 : Nat) (Option.some (Jvm.ClassFile.FieldType.array (Jvm.ClassFile.FieldType.object "java/lang/Object")))).before args0 about1 = true := code_word (m := ⟨17, 4⟩) (meth := k17m4) (c := k17c4) (by decide +kernel) rfl rfl rfl (by decide +kernel)
set_option maxRecDepth 65536 in
theorem w_c26 : (Jvm.Cond.code ({ cls := "java/util/Arrays", name := "copyOf", desc := "([Ljava/lang/Object;I)[Ljava/lang/Object;" } : Jvm.MethodName) jdk_65_method_119_code (2 : Nat) (Option.some (Jvm.ClassFile.FieldType.array (Jvm.ClassFile.FieldType.object "java/lang/Object")))).before args0 about1 = true := code_word (m := ⟨27, 1⟩) (meth := k27m1) (c := k27c1) (by decide +kernel) rfl rfl rfl (by decide +kernel)
set_option maxRecDepth 65536 in
theorem w_c27 : (Jvm.Cond.code ({ cls := "java/util/Arrays", name := "copyOf", desc := "([Ljava/lang/Object;ILjava/lang/Class;)[Ljava/lang/Object;" } : Jvm.MethodName) jdk_65_method_120_code (4 : Nat) (Option.some (Jvm.ClassFile.FieldType.array (Jvm.ClassFile.FieldType.object "java/lang/Object")))).before args0 about1 = true := code_word (m := ⟨27, 2⟩) (meth := k27m2) (c := k27c2) (by decide +kernel) rfl rfl rfl (by decide +kernel)
set_option maxRecDepth 65536 in
theorem w_c28 : (Jvm.Cond.code ({ cls := "java/lang/Math", name := "min", desc := "(II)I" } : Jvm.MethodName) jdk_29_method_69_code (2 : Nat) (Option.some Jvm.ClassFile.FieldType.int)).before args0 about1 = true := code_word (m := ⟨19, 2⟩) (meth := k19m2) (c := k19c2) (by decide +kernel) rfl rfl rfl (by decide +kernel)
set_option maxRecDepth 65536 in
theorem w_c29 : (Jvm.Cond.code ({ cls := "java/util/List", name := "of", desc := "([Ljava/lang/Object;)Ljava/util/List;" } : Jvm.MethodName) jdk_40_method_47_code (2 : Nat) (Option.some (Jvm.ClassFile.FieldType.object "java/util/List"))).before args0 about1 = true := code_word (m := ⟨13, 2⟩) (meth := k13m2) (c := k13c2) (by decide +kernel) rfl rfl rfl (by decide +kernel)
set_option maxRecDepth 65536 in
theorem w_c30 : (Jvm.Cond.code ({ cls := "java/util/ImmutableCollections$List12", name := "<init>", desc := "(Ljava/lang/Object;Ljava/lang/Object;)V" } : Jvm.MethodName) jdk_44_method_2_code (3 : Nat) (Option.none : Option Jvm.ClassFile.FieldType)).before args0 about1 = true := code_word (m := ⟨25, 1⟩) (meth := k25m1) (c := k25c1) (by decide +kernel) rfl rfl rfl (by decide +kernel)
set_option maxRecDepth 65536 in
theorem w_c31 : (Jvm.Cond.code ({ cls := "java/util/ImmutableCollections$AbstractImmutableList", name := "<init>", desc := "()V" } : Jvm.MethodName) jdk_46_method_1_code (1 : Nat) (Option.none : Option Jvm.ClassFile.FieldType)).before args0 about1 = true := code_word (m := ⟨24, 0⟩) (meth := k24m0) (c := k24c0) (by decide +kernel) rfl rfl rfl (by decide +kernel)
set_option maxRecDepth 65536 in
theorem w_c32 : (Jvm.Cond.code ({ cls := "java/util/ImmutableCollections$AbstractImmutableCollection", name := "<init>", desc := "()V" } : Jvm.MethodName) jdk_47_method_1_code (1 : Nat) (Option.none : Option Jvm.ClassFile.FieldType)).before args0 about1 = true := code_word (m := ⟨23, 0⟩) (meth := k23m0) (c := k23c0) (by decide +kernel) rfl rfl rfl (by decide +kernel)
set_option maxRecDepth 65536 in
theorem w_c33 : (Jvm.Cond.code ({ cls := "java/util/Objects", name := "requireNonNull", desc := "(Ljava/lang/Object;)Ljava/lang/Object;" } : Jvm.MethodName) jdk_31_method_10_code (1 : Nat) (Option.some (Jvm.ClassFile.FieldType.object "java/lang/Object"))).before args0 about1 = true := code_word (m := ⟨29, 1⟩) (meth := k29m1) (c := k29c1) (by decide +kernel) rfl rfl rfl (by decide +kernel)
set_option maxRecDepth 65536 in
theorem w_c34 : (Jvm.Cond.code ({ cls := "java/util/List", name := "of", desc := "()Ljava/util/List;" } : Jvm.MethodName) jdk_40_method_36_code (0 : Nat) (Option.some (Jvm.ClassFile.FieldType.object "java/util/List"))).before args0 about1 = true := code_word (m := ⟨13, 1⟩) (meth := k13m1) (c := k13c1) (by decide +kernel) rfl rfl rfl (by decide +kernel)
set_option maxRecDepth 65536 in
theorem w_c35 : (Jvm.Cond.code ({ cls := "com/example/passlane/passlane/oidc/Client", name := "toString", desc := "()Ljava/lang/String;" } : Jvm.MethodName) prog_8_method_3_code (1 : Nat) (Option.some (Jvm.ClassFile.FieldType.object "java/lang/String"))).before args0 about1 = true := code_word (m := ⟨21, 1⟩) (meth := k21m1) (c := k21c1) (by decide +kernel) rfl rfl rfl (by decide +kernel)
set_option maxRecDepth 65536 in
theorem w_c36 : (Jvm.Cond.code ({ cls := "java/lang/StringBuilder", name := "<init>", desc := "()V" } : Jvm.MethodName) jdk_67_method_1_code (1 : Nat) (Option.none : Option Jvm.ClassFile.FieldType)).before args0 about1 = true := code_word (m := ⟨32, 0⟩) (meth := k32m0) (c := k32c0) (by decide +kernel) rfl rfl rfl (by decide +kernel)
set_option maxRecDepth 65536 in
theorem w_c37 : (Jvm.Cond.code ({ cls := "java/lang/AbstractStringBuilder", name := "<init>", desc := "(I)V" } : Jvm.MethodName) jdk_68_method_2_code (2 : Nat) (Option.none : Option Jvm.ClassFile.FieldType)).before args0 about1 = true := code_word (m := ⟨31, 1⟩) (meth := k31m1) (c := k31c1) (by decide +kernel) rfl rfl rfl (by decide +kernel)
set_option maxRecDepth 65536 in
theorem w_c38 : (Jvm.Cond.code ({ cls := "java/lang/StringBuilder", name := "append", desc := "(Ljava/lang/String;)Ljava/lang/StringBuilder;" } : Jvm.MethodName) jdk_67_method_7_code (2 : Nat) (Option.some (Jvm.ClassFile.FieldType.object "java/lang/StringBuilder"))).before args0 about1 = true := code_word (m := ⟨32, 2⟩) (meth := k32m2) (c := k32c2) (by decide +kernel) rfl rfl rfl (by decide +kernel)
set_option maxRecDepth 65536 in
theorem w_c39 : (Jvm.Cond.code ({ cls := "java/lang/AbstractStringBuilder", name := "append", desc := "(Ljava/lang/String;)Ljava/lang/AbstractStringBuilder;" } : Jvm.MethodName) jdk_68_method_22_code (3 : Nat) (Option.some (Jvm.ClassFile.FieldType.object "java/lang/AbstractStringBuilder"))).before args0 about1 = true := code_word (m := ⟨31, 5⟩) (meth := k31m5) (c := k31c5) (by decide +kernel) rfl rfl rfl (by decide +kernel)
set_option maxRecDepth 65536 in
theorem w_c40 : (Jvm.Cond.code ({ cls := "java/lang/String", name := "length", desc := "()I" } : Jvm.MethodName) jdk_42_method_54_code (1 : Nat) (Option.some Jvm.ClassFile.FieldType.int)).before args0 about1 = true := code_word (m := ⟨7, 3⟩) (meth := k7m3) (c := k7c3) (by decide +kernel) rfl rfl rfl (by decide +kernel)
set_option maxRecDepth 65536 in
theorem w_c41 : (Jvm.Cond.code ({ cls := "java/lang/String", name := "coder", desc := "()B" } : Jvm.MethodName) jdk_42_method_152_code (1 : Nat) (Option.some Jvm.ClassFile.FieldType.byte)).before args0 about1 = true := code_word (m := ⟨7, 12⟩) (meth := k7m12) (c := k7c12) (by decide +kernel) rfl rfl rfl (by decide +kernel)
set_option maxRecDepth 65536 in
theorem w_c42 : (Jvm.Cond.code ({ cls := "java/lang/AbstractStringBuilder", name := "ensureCapacityInternal", desc := "(I)V" } : Jvm.MethodName) jdk_68_method_9_code (3 : Nat) (Option.none : Option Jvm.ClassFile.FieldType)).before args0 about1 = true := code_word (m := ⟨31, 3⟩) (meth := k31m3) (c := k31c3) (by decide +kernel) rfl rfl rfl (by decide +kernel)
set_option maxRecDepth 65536 in
theorem w_c43 : (Jvm.Cond.code ({ cls := "java/lang/AbstractStringBuilder", name := "putStringAt", desc := "(ILjava/lang/String;)V" } : Jvm.MethodName) jdk_68_method_73_code (3 : Nat) (Option.none : Option Jvm.ClassFile.FieldType)).before args0 about1 = true := code_word (m := ⟨31, 10⟩) (meth := k31m10) (c := k31c10) (by decide +kernel) rfl rfl rfl (by decide +kernel)
set_option maxRecDepth 65536 in
theorem w_c44 : (Jvm.Cond.code ({ cls := "java/lang/AbstractStringBuilder", name := "inflateIfNeededFor", desc := "(Ljava/lang/String;)V" } : Jvm.MethodName) jdk_68_method_71_code (2 : Nat) (Option.none : Option Jvm.ClassFile.FieldType)).before args0 about1 = true := code_word (m := ⟨31, 9⟩) (meth := k31m9) (c := k31c9) (by decide +kernel) rfl rfl rfl (by decide +kernel)
set_option maxRecDepth 65536 in
theorem w_c45 : (Jvm.Cond.code ({ cls := "java/lang/String", name := "getBytes", desc := "([BIB)V" } : Jvm.MethodName) jdk_42_method_147_code (4 : Nat) (Option.none : Option Jvm.ClassFile.FieldType)).before args0 about1 = true := code_word (m := ⟨7, 8⟩) (meth := k7m8) (c := k7c8) (by decide +kernel) rfl rfl rfl (by decide +kernel)
set_option maxRecDepth 65536 in
theorem w_c46 : (Jvm.Cond.code ({ cls := "java/lang/AbstractStringBuilder", name := "newCapacity", desc := "(I)I" } : Jvm.MethodName) jdk_68_method_10_code (6 : Nat) (Option.some Jvm.ClassFile.FieldType.int)).before args0 about1 = true := code_word (m := ⟨31, 4⟩) (meth := k31m4) (c := k31c4) (by decide +kernel) rfl rfl rfl (by decide +kernel)
set_option maxRecDepth 65536 in
theorem w_c47 : (Jvm.Cond.code ({ cls := "jdk/internal/util/ArraysSupport", name := "newLength", desc := "(III)I" } : Jvm.MethodName) jdk_48_method_27_code (4 : Nat) (Option.some Jvm.ClassFile.FieldType.int)).before args0 about1 = true := code_word (m := ⟨33, 1⟩) (meth := k33m1) (c := k33c1) (by decide +kernel) rfl rfl rfl (by decide +kernel)
set_option maxRecDepth 65536 in
theorem w_c48 : (Jvm.Cond.code ({ cls := "java/util/Arrays", name := "copyOf", desc := "([BI)[B" } : Jvm.MethodName) jdk_65_method_121_code (3 : Nat) (Option.some (Jvm.ClassFile.FieldType.array Jvm.ClassFile.FieldType.byte))).before args0 about1 = true := code_word (m := ⟨27, 3⟩) (meth := k27m3) (c := k27c3) (by decide +kernel) rfl rfl rfl (by decide +kernel)
set_option maxRecDepth 65536 in
theorem w_c49 : (Jvm.Cond.code ({ cls := "java/lang/StringBuilder", name := "append", desc := "(Ljava/lang/Object;)Ljava/lang/StringBuilder;" } : Jvm.MethodName) jdk_67_method_6_code (2 : Nat) (Option.some (Jvm.ClassFile.FieldType.object "java/lang/StringBuilder"))).before args0 about1 = true := code_word (m := ⟨32, 1⟩) (meth := k32m1) (c := k32c1) (by decide +kernel) rfl rfl rfl (by decide +kernel)
set_option maxRecDepth 65536 in
theorem w_c50 : (Jvm.Cond.code ({ cls := "java/lang/String", name := "valueOf", desc := "(Ljava/lang/Object;)Ljava/lang/String;" } : Jvm.MethodName) jdk_42_method_133_code (1 : Nat) (Option.some (Jvm.ClassFile.FieldType.object "java/lang/String"))).before args0 about1 = true := code_word (m := ⟨7, 6⟩) (meth := k7m6) (c := k7c6) (by decide +kernel) rfl rfl rfl (by decide +kernel)
set_option maxRecDepth 65536 in
theorem w_c51 : (Jvm.Cond.code ({ cls := "java/util/AbstractCollection", name := "toString", desc := "()Ljava/lang/String;" } : Jvm.MethodName) jdk_22_method_16_code (4 : Nat) (Option.some (Jvm.ClassFile.FieldType.object "java/lang/String"))).before args0 about1 = true := code_word (m := ⟨11, 3⟩) (meth := k11m3) (c := k11c3) (by decide +kernel) rfl rfl rfl (by decide +kernel)
set_option maxRecDepth 65536 in
theorem w_c52 : (Jvm.Cond.code ({ cls := "java/util/ImmutableCollections$AbstractImmutableList", name := "iterator", desc := "()Ljava/util/Iterator;" } : Jvm.MethodName) jdk_46_method_10_code (1 : Nat) (Option.some (Jvm.ClassFile.FieldType.object "java/util/Iterator"))).before args0 about1 = true := code_word (m := ⟨24, 1⟩) (meth := k24m1) (c := k24c1) (by decide +kernel) rfl rfl rfl (by decide +kernel)
set_option maxRecDepth 65536 in
theorem w_c53 : (Jvm.Cond.code ({ cls := "java/util/ImmutableCollections$List12", name := "size", desc := "()I" } : Jvm.MethodName) jdk_44_method_3_code (1 : Nat) (Option.some Jvm.ClassFile.FieldType.int)).before args0 about1 = true := code_word (m := ⟨25, 2⟩) (meth := k25m2) (c := k25c2) (by decide +kernel) rfl rfl rfl (by decide +kernel)
set_option maxRecDepth 65536 in
theorem w_c54 : (Jvm.Cond.code ({ cls := "java/util/ImmutableCollections$ListItr", name := "<init>", desc := "(Ljava/util/List;I)V" } : Jvm.MethodName) jdk_53_method_1_code (3 : Nat) (Option.none : Option Jvm.ClassFile.FieldType)).before args0 about1 = true := code_word (m := ⟨36, 0⟩) (meth := k36m0) (c := k36c0) (by decide +kernel) rfl rfl rfl (by decide +kernel)
set_option maxRecDepth 65536 in
theorem w_c55 : (Jvm.Cond.code ({ cls := "java/util/ImmutableCollections$ListItr", name := "hasNext", desc := "()Z" } : Jvm.MethodName) jdk_53_method_3_code (1 : Nat) (Option.some Jvm.ClassFile.FieldType.boolean)).before args0 about1 = true := code_word (m := ⟨36, 1⟩) (meth := k36m1) (c := k36c1) (by decide +kernel) rfl rfl rfl (by decide +kernel)
set_option maxRecDepth 65536 in
theorem w_c56 : (Jvm.Cond.code ({ cls := "java/lang/StringBuilder", name := "append", desc := "(C)Ljava/lang/StringBuilder;" } : Jvm.MethodName) jdk_67_method_14_code (2 : Nat) (Option.some (Jvm.ClassFile.FieldType.object "java/lang/StringBuilder"))).before args0 about1 = true := code_word (m := ⟨32, 3⟩) (meth := k32m3) (c := k32c3) (by decide +kernel) rfl rfl rfl (by decide +kernel)
set_option maxRecDepth 65536 in
theorem w_c57 : (Jvm.Cond.code ({ cls := "java/lang/AbstractStringBuilder", name := "append", desc := "(C)Ljava/lang/AbstractStringBuilder;" } : Jvm.MethodName) jdk_68_method_31_code (2 : Nat) (Option.some (Jvm.ClassFile.FieldType.object "java/lang/AbstractStringBuilder"))).before args0 about1 = true := code_word (m := ⟨31, 6⟩) (meth := k31m6) (c := k31c6) (by decide +kernel) rfl rfl rfl (by decide +kernel)
set_option maxRecDepth 65536 in
theorem w_c58 : (Jvm.Cond.code ({ cls := "java/lang/AbstractStringBuilder", name := "isLatin1", desc := "()Z" } : Jvm.MethodName) jdk_68_method_68_code (1 : Nat) (Option.some Jvm.ClassFile.FieldType.boolean)).before args0 about1 = true := code_word (m := ⟨31, 8⟩) (meth := k31m8) (c := k31c8) (by decide +kernel) rfl rfl rfl (by decide +kernel)
set_option maxRecDepth 65536 in
theorem w_c59 : (Jvm.Cond.code ({ cls := "java/util/ImmutableCollections$List12", name := "get", desc := "(I)Ljava/lang/Object;" } : Jvm.MethodName) jdk_44_method_5_code (2 : Nat) (Option.some (Jvm.ClassFile.FieldType.object "java/lang/Object"))).before args0 about1 = true := code_word (m := ⟨25, 3⟩) (meth := k25m3) (c := k25c3) (by decide +kernel) rfl rfl rfl (by decide +kernel)
set_option maxRecDepth 65536 in
theorem w_c60 : (Jvm.Cond.code ({ cls := "java/lang/String", name := "toString", desc := "()Ljava/lang/String;" } : Jvm.MethodName) jdk_42_method_126_code (1 : Nat) (Option.some (Jvm.ClassFile.FieldType.object "java/lang/String"))).before args0 about1 = true := code_word (m := ⟨7, 5⟩) (meth := k7m5) (c := k7c5) (by decide +kernel) rfl rfl rfl (by decide +kernel)
set_option maxRecDepth 65536 in
theorem w_c61 : (Jvm.Cond.code ({ cls := "java/lang/StringBuilder", name := "toString", desc := "()Ljava/lang/String;" } : Jvm.MethodName) jdk_67_method_42_code (1 : Nat) (Option.some (Jvm.ClassFile.FieldType.object "java/lang/String"))).before args0 about1 = true := code_word (m := ⟨32, 4⟩) (meth := k32m4) (c := k32c4) (by decide +kernel) rfl rfl rfl (by decide +kernel)
set_option maxRecDepth 65536 in
theorem w_c62 : (Jvm.Cond.code ({ cls := "java/lang/String", name := "<init>", desc := "(Ljava/lang/StringBuilder;)V" } : Jvm.MethodName) jdk_42_method_53_code (2 : Nat) (Option.none : Option Jvm.ClassFile.FieldType)).before args0 about1 = true := code_word (m := ⟨7, 2⟩) (meth := k7m2) (c := k7c2) (by decide +kernel) rfl rfl rfl (by decide +kernel)
set_option maxRecDepth 65536 in
theorem w_c63 : (Jvm.Cond.code ({ cls := "java/lang/String", name := "<init>", desc := "(Ljava/lang/AbstractStringBuilder;Ljava/lang/Void;)V" } : Jvm.MethodName) jdk_42_method_150_code (5 : Nat) (Option.none : Option Jvm.ClassFile.FieldType)).before args0 about1 = true := code_word (m := ⟨7, 10⟩) (meth := k7m10) (c := k7c10) (by decide +kernel) rfl rfl rfl (by decide +kernel)
set_option maxRecDepth 65536 in
theorem w_c64 : (Jvm.Cond.code ({ cls := "java/lang/AbstractStringBuilder", name := "getValue", desc := "()[B" } : Jvm.MethodName) jdk_68_method_64_code (1 : Nat) (Option.some (Jvm.ClassFile.FieldType.array Jvm.ClassFile.FieldType.byte))).before args0 about1 = true := code_word (m := ⟨31, 7⟩) (meth := k31m7) (c := k31c7) (by decide +kernel) rfl rfl rfl (by decide +kernel)
set_option maxRecDepth 65536 in
theorem w_c65 : (Jvm.Cond.code ({ cls := "java/lang/StringBuilder", name := "length", desc := "()I" } : Jvm.MethodName) jdk_67_method_93_code (1 : Nat) (Option.some Jvm.ClassFile.FieldType.int)).before args0 about1 = true := code_word (m := ⟨32, 5⟩) (meth := k32m5) (c := k32c5) (by decide +kernel) rfl rfl rfl (by decide +kernel)
set_option maxRecDepth 65536 in
theorem w_c66 : (Jvm.Cond.code ({ cls := "java/lang/AbstractStringBuilder", name := "length", desc := "()I" } : Jvm.MethodName) jdk_68_method_6_code (1 : Nat) (Option.some Jvm.ClassFile.FieldType.int)).before args0 about1 = true := code_word (m := ⟨31, 2⟩) (meth := k31m2) (c := k31c2) (by decide +kernel) rfl rfl rfl (by decide +kernel)
set_option maxRecDepth 65536 in
theorem w_c67 : (Jvm.Cond.code ({ cls := "java/util/Arrays", name := "copyOfRange", desc := "([BII)[B" } : Jvm.MethodName) jdk_65_method_132_code (3 : Nat) (Option.some (Jvm.ClassFile.FieldType.array Jvm.ClassFile.FieldType.byte))).before args0 about1 = true := code_word (m := ⟨27, 5⟩) (meth := k27m5) (c := k27c5) (by decide +kernel) rfl rfl rfl (by decide +kernel)
set_option maxRecDepth 65536 in
theorem w_c68 : (Jvm.Cond.code ({ cls := "java/util/Arrays", name := "copyOfRangeByte", desc := "([BII)[B" } : Jvm.MethodName) jdk_65_method_133_code (5 : Nat) (Option.some (Jvm.ClassFile.FieldType.array Jvm.ClassFile.FieldType.byte))).before args0 about1 = true := code_word (m := ⟨27, 6⟩) (meth := k27m6) (c := k27c6) (by decide +kernel) rfl rfl rfl (by decide +kernel)
set_option maxRecDepth 65536 in
theorem w_c69 : (Jvm.Cond.code ({ cls := "java/util/Arrays", name := "checkLength", desc := "(II)V" } : Jvm.MethodName) jdk_65_method_131_code (2 : Nat) (Option.none : Option Jvm.ClassFile.FieldType)).before args0 about1 = true := code_word (m := ⟨27, 4⟩) (meth := k27m4) (c := k27c4) (by decide +kernel) rfl rfl rfl (by decide +kernel)
set_option maxRecDepth 65536 in
theorem w_c70 : (Jvm.Cond.code ({ cls := "java/lang/String", name := "equals", desc := "(Ljava/lang/Object;)Z" } : Jvm.MethodName) jdk_42_method_66_code (3 : Nat) (Option.some Jvm.ClassFile.FieldType.boolean)).before args0 about1 = true := code_word (m := ⟨7, 4⟩) (meth := k7m4) (c := k7c4) (by decide +kernel) rfl rfl rfl (by decide +kernel)
set_option maxRecDepth 65536 in
theorem w_c71 : (Jvm.Cond.code ({ cls := "java/lang/StringLatin1", name := "equals", desc := "([B[B)Z" } : Jvm.MethodName) jdk_43_method_13_code (3 : Nat) (Option.some Jvm.ClassFile.FieldType.boolean)).before args0 about1 = true := code_word (m := ⟨18, 2⟩) (meth := k18m2) (c := k18c2) (by decide +kernel) rfl rfl rfl (by decide +kernel)
set_option maxRecDepth 65536 in
theorem w_c72 : (Jvm.Cond.code ({ cls := "java/util/ImmutableCollections$List12", name := "<init>", desc := "(Ljava/lang/Object;)V" } : Jvm.MethodName) jdk_44_method_1_code (2 : Nat) (Option.none : Option Jvm.ClassFile.FieldType)).before args0 about1 = true := code_word (m := ⟨25, 0⟩) (meth := k25m0) (c := k25c0) (by decide +kernel) rfl rfl rfl (by decide +kernel)
set_option maxRecDepth 65536 in
theorem w_c73 : (Jvm.Cond.code ({ cls := "java/util/ImmutableCollections$ListN", name := "size", desc := "()I" } : Jvm.MethodName) jdk_45_method_3_code (1 : Nat) (Option.some Jvm.ClassFile.FieldType.int)).before args0 about1 = true := code_word (m := ⟨26, 0⟩) (meth := k26m0) (c := k26c0) (by decide +kernel) rfl rfl rfl (by decide +kernel)
def codes1 : List Jvm.Cond := [Jvm.Cond.code x code maxLocals ret, Jvm.Cond.code ({ cls := "java/lang/String", name := "<init>", desc := "([C)V" } : Jvm.MethodName) jdk_42_method_3_code (2 : Nat) (Option.none : Option Jvm.ClassFile.FieldType), Jvm.Cond.code ({ cls := "java/lang/String", name := "<init>", desc := "([CIILjava/lang/Void;)V" } : Jvm.MethodName) jdk_42_method_149_code (6 : Nat) (Option.none : Option Jvm.ClassFile.FieldType), Jvm.Cond.code ({ cls := "java/lang/Object", name := "<init>", desc := "()V" } : Jvm.MethodName) object_method_1_code (1 : Nat) (Option.none : Option Jvm.ClassFile.FieldType), Jvm.Cond.code ({ cls := "java/lang/StringUTF16", name := "compress", desc := "([CII)[B" } : Jvm.MethodName) jdk_52_method_16_code (6 : Nat) (Option.some (Jvm.ClassFile.FieldType.array Jvm.ClassFile.FieldType.byte)), Jvm.Cond.code ({ cls := "java/lang/StringUTF16", name := "compress", desc := "([CI[BII)I" } : Jvm.MethodName) jdk_52_method_21_code (7 : Nat) (Option.some Jvm.ClassFile.FieldType.int), Jvm.Cond.code ({ cls := "java/lang/StringUTF16", name := "coderFromArrayLen", desc := "([BI)B" } : Jvm.MethodName) jdk_52_method_15_code (2 : Nat) (Option.some Jvm.ClassFile.FieldType.byte), Jvm.Cond.code ({ cls := "java/util/ArrayList", name := "<init>", desc := "()V" } : Jvm.MethodName) jdk_38_method_2_code (1 : Nat) (Option.none : Option Jvm.ClassFile.FieldType), Jvm.Cond.code ({ cls := "java/util/AbstractList", name := "<init>", desc := "()V" } : Jvm.MethodName) jdk_39_method_1_code (1 : Nat) (Option.none : Option Jvm.ClassFile.FieldType), Jvm.Cond.code ({ cls := "java/util/AbstractCollection", name := "<init>", desc := "()V" } : Jvm.MethodName) jdk_22_method_1_code (1 : Nat) (Option.none : Option Jvm.ClassFile.FieldType), Jvm.Cond.code ({ cls := "java/lang/String", name := "valueOf", desc := "(C)Ljava/lang/String;" } : Jvm.MethodName) jdk_42_method_139_code (1 : Nat) (Option.some (Jvm.ClassFile.FieldType.object "java/lang/String")), Jvm.Cond.code ({ cls := "java/lang/StringLatin1", name := "canEncode", desc := "(C)Z" } : Jvm.MethodName) jdk_43_method_3_code (1 : Nat) (Option.some Jvm.ClassFile.FieldType.boolean), Jvm.Cond.code ({ cls := "java/lang/StringLatin1", name := "toBytes", desc := "(C)[B" } : Jvm.MethodName) jdk_43_method_46_code (1 : Nat) (Option.some (Jvm.ClassFile.FieldType.array Jvm.ClassFile.FieldType.byte)), Jvm.Cond.code ({ cls := "java/lang/String", name := "<init>", desc := "([BB)V" } : Jvm.MethodName) jdk_42_method_151_code (3 : Nat) (Option.none : Option Jvm.ClassFile.FieldType), Jvm.Cond.code ({ cls := "java/util/ArrayList", name := "add", desc := "(Ljava/lang/Object;)Z" } : Jvm.MethodName) jdk_38_method_25_code (2 : Nat) (Option.some Jvm.ClassFile.FieldType.boolean), Jvm.Cond.code ({ cls := "java/util/ArrayList", name := "add", desc := "(Ljava/lang/Object;[Ljava/lang/Object;I)V" } : Jvm.MethodName) jdk_38_method_24_code (4 : Nat) (Option.none : Option Jvm.ClassFile.FieldType), Jvm.Cond.code ({ cls := "java/util/ArrayList", name := "grow", desc := "()[Ljava/lang/Object;" } : Jvm.MethodName) jdk_38_method_7_code (1 : Nat) (Option.some (Jvm.ClassFile.FieldType.array (Jvm.ClassFile.FieldType.object "java/lang/Object"))), Jvm.Cond.code ({ cls := "java/util/ArrayList", name := "grow", desc := "(I)[Ljava/lang/Object;" } : Jvm.MethodName) jdk_38_method_6_code (4 : Nat) (Option.some (Jvm.ClassFile.FieldType.array (Jvm.ClassFile.FieldType.object "java/lang/Object"))), Jvm.Cond.code ({ cls := "java/lang/Math", name := "max", desc := "(II)I" } : Jvm.MethodName) jdk_29_method_65_code (2 : Nat) (Option.some Jvm.ClassFile.FieldType.int), Jvm.Cond.code ({ cls := "com/example/passlane/passlane/oidc/ClientToStringPinLaw", name := "expected", desc := "(CCICC)[C" } : Jvm.MethodName) method_3_code (6 : Nat) (Option.some (Jvm.ClassFile.FieldType.array Jvm.ClassFile.FieldType.char)), Jvm.Cond.code ({ cls := "com/example/passlane/passlane/oidc/Client", name := "<init>", desc := "(Ljava/lang/String;Ljava/lang/String;Ljava/util/List;Ljava/util/List;Ljava/lang/String;)V" } : Jvm.MethodName) prog_8_method_1_code (6 : Nat) (Option.none : Option Jvm.ClassFile.FieldType), Jvm.Cond.code ({ cls := "java/lang/Record", name := "<init>", desc := "()V" } : Jvm.MethodName) jdk_30_method_1_code (1 : Nat) (Option.none : Option Jvm.ClassFile.FieldType), Jvm.Cond.code ({ cls := "java/util/List", name := "copyOf", desc := "(Ljava/util/Collection;)Ljava/util/List;" } : Jvm.MethodName) jdk_40_method_48_code (1 : Nat) (Option.some (Jvm.ClassFile.FieldType.object "java/util/List")), Jvm.Cond.code ({ cls := "java/util/ImmutableCollections", name := "listCopy", desc := "(Ljava/util/Collection;)Ljava/util/List;" } : Jvm.MethodName) jdk_56_method_3_code (2 : Nat) (Option.some (Jvm.ClassFile.FieldType.object "java/util/List")), Jvm.Cond.code ({ cls := "java/util/ArrayList", name := "isEmpty", desc := "()Z" } : Jvm.MethodName) jdk_38_method_9_code (1 : Nat) (Option.some Jvm.ClassFile.FieldType.boolean), Jvm.Cond.code ({ cls := "java/util/ArrayList", name := "toArray", desc := "()[Ljava/lang/Object;" } : Jvm.MethodName) jdk_38_method_16_code (1 : Nat) (Option.some (Jvm.ClassFile.FieldType.array (Jvm.ClassFile.FieldType.object "java/lang/Object"))), Jvm.Cond.code ({ cls := "java/util/Arrays", name := "copyOf", desc := "([Ljava/lang/Object;I)[Ljava/lang/Object;" } : Jvm.MethodName) jdk_65_method_119_code (2 : Nat) (Option.some (Jvm.ClassFile.FieldType.array (Jvm.ClassFile.FieldType.object "java/lang/Object"))), Jvm.Cond.code ({ cls := "java/util/Arrays", name := "copyOf", desc := "([Ljava/lang/Object;ILjava/lang/Class;)[Ljava/lang/Object;" } : Jvm.MethodName) jdk_65_method_120_code (4 : Nat) (Option.some (Jvm.ClassFile.FieldType.array (Jvm.ClassFile.FieldType.object "java/lang/Object"))), Jvm.Cond.code ({ cls := "java/lang/Math", name := "min", desc := "(II)I" } : Jvm.MethodName) jdk_29_method_69_code (2 : Nat) (Option.some Jvm.ClassFile.FieldType.int), Jvm.Cond.code ({ cls := "java/util/List", name := "of", desc := "([Ljava/lang/Object;)Ljava/util/List;" } : Jvm.MethodName) jdk_40_method_47_code (2 : Nat) (Option.some (Jvm.ClassFile.FieldType.object "java/util/List")), Jvm.Cond.code ({ cls := "java/util/ImmutableCollections$List12", name := "<init>", desc := "(Ljava/lang/Object;Ljava/lang/Object;)V" } : Jvm.MethodName) jdk_44_method_2_code (3 : Nat) (Option.none : Option Jvm.ClassFile.FieldType), Jvm.Cond.code ({ cls := "java/util/ImmutableCollections$AbstractImmutableList", name := "<init>", desc := "()V" } : Jvm.MethodName) jdk_46_method_1_code (1 : Nat) (Option.none : Option Jvm.ClassFile.FieldType), Jvm.Cond.code ({ cls := "java/util/ImmutableCollections$AbstractImmutableCollection", name := "<init>", desc := "()V" } : Jvm.MethodName) jdk_47_method_1_code (1 : Nat) (Option.none : Option Jvm.ClassFile.FieldType), Jvm.Cond.code ({ cls := "java/util/Objects", name := "requireNonNull", desc := "(Ljava/lang/Object;)Ljava/lang/Object;" } : Jvm.MethodName) jdk_31_method_10_code (1 : Nat) (Option.some (Jvm.ClassFile.FieldType.object "java/lang/Object")), Jvm.Cond.code ({ cls := "java/util/List", name := "of", desc := "()Ljava/util/List;" } : Jvm.MethodName) jdk_40_method_36_code (0 : Nat) (Option.some (Jvm.ClassFile.FieldType.object "java/util/List")), Jvm.Cond.code ({ cls := "com/example/passlane/passlane/oidc/Client", name := "toString", desc := "()Ljava/lang/String;" } : Jvm.MethodName) prog_8_method_3_code (1 : Nat) (Option.some (Jvm.ClassFile.FieldType.object "java/lang/String")), Jvm.Cond.code ({ cls := "java/lang/StringBuilder", name := "<init>", desc := "()V" } : Jvm.MethodName) jdk_67_method_1_code (1 : Nat) (Option.none : Option Jvm.ClassFile.FieldType), Jvm.Cond.code ({ cls := "java/lang/AbstractStringBuilder", name := "<init>", desc := "(I)V" } : Jvm.MethodName) jdk_68_method_2_code (2 : Nat) (Option.none : Option Jvm.ClassFile.FieldType), Jvm.Cond.code ({ cls := "java/lang/StringBuilder", name := "append", desc := "(Ljava/lang/String;)Ljava/lang/StringBuilder;" } : Jvm.MethodName) jdk_67_method_7_code (2 : Nat) (Option.some (Jvm.ClassFile.FieldType.object "java/lang/StringBuilder")), Jvm.Cond.code ({ cls := "java/lang/AbstractStringBuilder", name := "append", desc := "(Ljava/lang/String;)Ljava/lang/AbstractStringBuilder;" } : Jvm.MethodName) jdk_68_method_22_code (3 : Nat) (Option.some (Jvm.ClassFile.FieldType.object "java/lang/AbstractStringBuilder")), Jvm.Cond.code ({ cls := "java/lang/String", name := "length", desc := "()I" } : Jvm.MethodName) jdk_42_method_54_code (1 : Nat) (Option.some Jvm.ClassFile.FieldType.int), Jvm.Cond.code ({ cls := "java/lang/String", name := "coder", desc := "()B" } : Jvm.MethodName) jdk_42_method_152_code (1 : Nat) (Option.some Jvm.ClassFile.FieldType.byte), Jvm.Cond.code ({ cls := "java/lang/AbstractStringBuilder", name := "ensureCapacityInternal", desc := "(I)V" } : Jvm.MethodName) jdk_68_method_9_code (3 : Nat) (Option.none : Option Jvm.ClassFile.FieldType), Jvm.Cond.code ({ cls := "java/lang/AbstractStringBuilder", name := "putStringAt", desc := "(ILjava/lang/String;)V" } : Jvm.MethodName) jdk_68_method_73_code (3 : Nat) (Option.none : Option Jvm.ClassFile.FieldType), Jvm.Cond.code ({ cls := "java/lang/AbstractStringBuilder", name := "inflateIfNeededFor", desc := "(Ljava/lang/String;)V" } : Jvm.MethodName) jdk_68_method_71_code (2 : Nat) (Option.none : Option Jvm.ClassFile.FieldType), Jvm.Cond.code ({ cls := "java/lang/String", name := "getBytes", desc := "([BIB)V" } : Jvm.MethodName) jdk_42_method_147_code (4 : Nat) (Option.none : Option Jvm.ClassFile.FieldType), Jvm.Cond.code ({ cls := "java/lang/AbstractStringBuilder", name := "newCapacity", desc := "(I)I" } : Jvm.MethodName) jdk_68_method_10_code (6 : Nat) (Option.some Jvm.ClassFile.FieldType.int), Jvm.Cond.code ({ cls := "jdk/internal/util/ArraysSupport", name := "newLength", desc := "(III)I" } : Jvm.MethodName) jdk_48_method_27_code (4 : Nat) (Option.some Jvm.ClassFile.FieldType.int), Jvm.Cond.code ({ cls := "java/util/Arrays", name := "copyOf", desc := "([BI)[B" } : Jvm.MethodName) jdk_65_method_121_code (3 : Nat) (Option.some (Jvm.ClassFile.FieldType.array Jvm.ClassFile.FieldType.byte)), Jvm.Cond.code ({ cls := "java/lang/StringBuilder", name := "append", desc := "(Ljava/lang/Object;)Ljava/lang/StringBuilder;" } : Jvm.MethodName) jdk_67_method_6_code (2 : Nat) (Option.some (Jvm.ClassFile.FieldType.object "java/lang/StringBuilder")), Jvm.Cond.code ({ cls := "java/lang/String", name := "valueOf", desc := "(Ljava/lang/Object;)Ljava/lang/String;" } : Jvm.MethodName) jdk_42_method_133_code (1 : Nat) (Option.some (Jvm.ClassFile.FieldType.object "java/lang/String")), Jvm.Cond.code ({ cls := "java/util/AbstractCollection", name := "toString", desc := "()Ljava/lang/String;" } : Jvm.MethodName) jdk_22_method_16_code (4 : Nat) (Option.some (Jvm.ClassFile.FieldType.object "java/lang/String")), Jvm.Cond.code ({ cls := "java/util/ImmutableCollections$AbstractImmutableList", name := "iterator", desc := "()Ljava/util/Iterator;" } : Jvm.MethodName) jdk_46_method_10_code (1 : Nat) (Option.some (Jvm.ClassFile.FieldType.object "java/util/Iterator")), Jvm.Cond.code ({ cls := "java/util/ImmutableCollections$List12", name := "size", desc := "()I" } : Jvm.MethodName) jdk_44_method_3_code (1 : Nat) (Option.some Jvm.ClassFile.FieldType.int), Jvm.Cond.code ({ cls := "java/util/ImmutableCollections$ListItr", name := "<init>", desc := "(Ljava/util/List;I)V" } : Jvm.MethodName) jdk_53_method_1_code (3 : Nat) (Option.none : Option Jvm.ClassFile.FieldType), Jvm.Cond.code ({ cls := "java/util/ImmutableCollections$ListItr", name := "hasNext", desc := "()Z" } : Jvm.MethodName) jdk_53_method_3_code (1 : Nat) (Option.some Jvm.ClassFile.FieldType.boolean), Jvm.Cond.code ({ cls := "java/lang/StringBuilder", name := "append", desc := "(C)Ljava/lang/StringBuilder;" } : Jvm.MethodName) jdk_67_method_14_code (2 : Nat) (Option.some (Jvm.ClassFile.FieldType.object "java/lang/StringBuilder")), Jvm.Cond.code ({ cls := "java/lang/AbstractStringBuilder", name := "append", desc := "(C)Ljava/lang/AbstractStringBuilder;" } : Jvm.MethodName) jdk_68_method_31_code (2 : Nat) (Option.some (Jvm.ClassFile.FieldType.object "java/lang/AbstractStringBuilder")), Jvm.Cond.code ({ cls := "java/lang/AbstractStringBuilder", name := "isLatin1", desc := "()Z" } : Jvm.MethodName) jdk_68_method_68_code (1 : Nat) (Option.some Jvm.ClassFile.FieldType.boolean), Jvm.Cond.code ({ cls := "java/util/ImmutableCollections$List12", name := "get", desc := "(I)Ljava/lang/Object;" } : Jvm.MethodName) jdk_44_method_5_code (2 : Nat) (Option.some (Jvm.ClassFile.FieldType.object "java/lang/Object")), Jvm.Cond.code ({ cls := "java/lang/String", name := "toString", desc := "()Ljava/lang/String;" } : Jvm.MethodName) jdk_42_method_126_code (1 : Nat) (Option.some (Jvm.ClassFile.FieldType.object "java/lang/String")), Jvm.Cond.code ({ cls := "java/lang/StringBuilder", name := "toString", desc := "()Ljava/lang/String;" } : Jvm.MethodName) jdk_67_method_42_code (1 : Nat) (Option.some (Jvm.ClassFile.FieldType.object "java/lang/String")), Jvm.Cond.code ({ cls := "java/lang/String", name := "<init>", desc := "(Ljava/lang/StringBuilder;)V" } : Jvm.MethodName) jdk_42_method_53_code (2 : Nat) (Option.none : Option Jvm.ClassFile.FieldType), Jvm.Cond.code ({ cls := "java/lang/String", name := "<init>", desc := "(Ljava/lang/AbstractStringBuilder;Ljava/lang/Void;)V" } : Jvm.MethodName) jdk_42_method_150_code (5 : Nat) (Option.none : Option Jvm.ClassFile.FieldType), Jvm.Cond.code ({ cls := "java/lang/AbstractStringBuilder", name := "getValue", desc := "()[B" } : Jvm.MethodName) jdk_68_method_64_code (1 : Nat) (Option.some (Jvm.ClassFile.FieldType.array Jvm.ClassFile.FieldType.byte)), Jvm.Cond.code ({ cls := "java/lang/StringBuilder", name := "length", desc := "()I" } : Jvm.MethodName) jdk_67_method_93_code (1 : Nat) (Option.some Jvm.ClassFile.FieldType.int), Jvm.Cond.code ({ cls := "java/lang/AbstractStringBuilder", name := "length", desc := "()I" } : Jvm.MethodName) jdk_68_method_6_code (1 : Nat) (Option.some Jvm.ClassFile.FieldType.int), Jvm.Cond.code ({ cls := "java/util/Arrays", name := "copyOfRange", desc := "([BII)[B" } : Jvm.MethodName) jdk_65_method_132_code (3 : Nat) (Option.some (Jvm.ClassFile.FieldType.array Jvm.ClassFile.FieldType.byte)), Jvm.Cond.code ({ cls := "java/util/Arrays", name := "copyOfRangeByte", desc := "([BII)[B" } : Jvm.MethodName) jdk_65_method_133_code (5 : Nat) (Option.some (Jvm.ClassFile.FieldType.array Jvm.ClassFile.FieldType.byte)), Jvm.Cond.code ({ cls := "java/util/Arrays", name := "checkLength", desc := "(II)V" } : Jvm.MethodName) jdk_65_method_131_code (2 : Nat) (Option.none : Option Jvm.ClassFile.FieldType), Jvm.Cond.code ({ cls := "java/lang/String", name := "equals", desc := "(Ljava/lang/Object;)Z" } : Jvm.MethodName) jdk_42_method_66_code (3 : Nat) (Option.some Jvm.ClassFile.FieldType.boolean), Jvm.Cond.code ({ cls := "java/lang/StringLatin1", name := "equals", desc := "([B[B)Z" } : Jvm.MethodName) jdk_43_method_13_code (3 : Nat) (Option.some Jvm.ClassFile.FieldType.boolean), Jvm.Cond.code ({ cls := "java/util/ImmutableCollections$List12", name := "<init>", desc := "(Ljava/lang/Object;)V" } : Jvm.MethodName) jdk_44_method_1_code (2 : Nat) (Option.none : Option Jvm.ClassFile.FieldType), Jvm.Cond.code ({ cls := "java/util/ImmutableCollections$ListN", name := "size", desc := "()I" } : Jvm.MethodName) jdk_45_method_3_code (1 : Nat) (Option.some Jvm.ClassFile.FieldType.int)]
set_option maxRecDepth 65536 in
theorem codes_eq : words1.filter isCode = codes1 := rfl
theorem w_codes : ∀ c ∈ words1.filter isCode, c.before args0 about1 = true := by
  rw [codes_eq]
  intro c hc
  simp only [codes1, List.mem_cons, List.not_mem_nil, or_false] at hc
  rcases hc with rfl | rfl | rfl | rfl | rfl | rfl | rfl | rfl | rfl | rfl | rfl | rfl | rfl | rfl | rfl | rfl | rfl | rfl | rfl | rfl | rfl | rfl | rfl | rfl | rfl | rfl | rfl | rfl | rfl | rfl | rfl | rfl | rfl | rfl | rfl | rfl | rfl | rfl | rfl | rfl | rfl | rfl | rfl | rfl | rfl | rfl | rfl | rfl | rfl | rfl | rfl | rfl | rfl | rfl | rfl | rfl | rfl | rfl | rfl | rfl | rfl | rfl | rfl | rfl | rfl | rfl | rfl | rfl | rfl | rfl | rfl | rfl | rfl | rfl
  · exact w_c0
  · exact w_c1
  · exact w_c2
  · exact w_c3
  · exact w_c4
  · exact w_c5
  · exact w_c6
  · exact w_c7
  · exact w_c8
  · exact w_c9
  · exact w_c10
  · exact w_c11
  · exact w_c12
  · exact w_c13
  · exact w_c14
  · exact w_c15
  · exact w_c16
  · exact w_c17
  · exact w_c18
  · exact w_c19
  · exact w_c20
  · exact w_c21
  · exact w_c22
  · exact w_c23
  · exact w_c24
  · exact w_c25
  · exact w_c26
  · exact w_c27
  · exact w_c28
  · exact w_c29
  · exact w_c30
  · exact w_c31
  · exact w_c32
  · exact w_c33
  · exact w_c34
  · exact w_c35
  · exact w_c36
  · exact w_c37
  · exact w_c38
  · exact w_c39
  · exact w_c40
  · exact w_c41
  · exact w_c42
  · exact w_c43
  · exact w_c44
  · exact w_c45
  · exact w_c46
  · exact w_c47
  · exact w_c48
  · exact w_c49
  · exact w_c50
  · exact w_c51
  · exact w_c52
  · exact w_c53
  · exact w_c54
  · exact w_c55
  · exact w_c56
  · exact w_c57
  · exact w_c58
  · exact w_c59
  · exact w_c60
  · exact w_c61
  · exact w_c62
  · exact w_c63
  · exact w_c64
  · exact w_c65
  · exact w_c66
  · exact w_c67
  · exact w_c68
  · exact w_c69
  · exact w_c70
  · exact w_c71
  · exact w_c72
  · exact w_c73
set_option maxRecDepth 65536 in
theorem w_t1 : (words1.take 24).all (fun c => isCode c || c.before args0 about1) = true := by decide +kernel
set_option maxRecDepth 65536 in
theorem w_t2 : ((words1.drop 24).take 24).all (fun c => isCode c || c.before args0 about1) = true := by decide +kernel
set_option maxRecDepth 65536 in
theorem w_t3 : (((words1.drop 24).drop 24).take 24).all (fun c => isCode c || c.before args0 about1) = true := by decide +kernel
set_option maxRecDepth 65536 in
theorem w_t4 : ((((words1.drop 24).drop 24).drop 24).take 24).all (fun c => isCode c || c.before args0 about1) = true := by decide +kernel
set_option maxRecDepth 65536 in
theorem w_t5 : (((((words1.drop 24).drop 24).drop 24).drop 24).take 24).all (fun c => isCode c || c.before args0 about1) = true := by decide +kernel
set_option maxRecDepth 65536 in
theorem w_t6 : ((((((words1.drop 24).drop 24).drop 24).drop 24).drop 24).take 24).all (fun c => isCode c || c.before args0 about1) = true := by decide +kernel
set_option maxRecDepth 65536 in
theorem w_t7 : (((((((words1.drop 24).drop 24).drop 24).drop 24).drop 24).drop 24).take 24).all (fun c => isCode c || c.before args0 about1) = true := by decide +kernel
set_option maxRecDepth 65536 in
theorem w_t8 : ((((((((words1.drop 24).drop 24).drop 24).drop 24).drop 24).drop 24).drop 24).take 24).all (fun c => isCode c || c.before args0 about1) = true := by decide +kernel
set_option maxRecDepth 65536 in
theorem w_t9 : (((((((((words1.drop 24).drop 24).drop 24).drop 24).drop 24).drop 24).drop 24).drop 24).take 24).all (fun c => isCode c || c.before args0 about1) = true := by decide +kernel
set_option maxRecDepth 65536 in
theorem w_t10 : ((((((((((words1.drop 24).drop 24).drop 24).drop 24).drop 24).drop 24).drop 24).drop 24).drop 24).take 24).all (fun c => isCode c || c.before args0 about1) = true := by decide +kernel
set_option maxRecDepth 65536 in
theorem w_t11 : (((((((((((words1.drop 24).drop 24).drop 24).drop 24).drop 24).drop 24).drop 24).drop 24).drop 24).drop 24).take 24).all (fun c => isCode c || c.before args0 about1) = true := by decide +kernel
set_option maxRecDepth 65536 in
theorem w_t12 : ((((((((((((words1.drop 24).drop 24).drop 24).drop 24).drop 24).drop 24).drop 24).drop 24).drop 24).drop 24).drop 24).take 24).all (fun c => isCode c || c.before args0 about1) = true := by decide +kernel
set_option maxRecDepth 65536 in
theorem w_t13 : (((((((((((((words1.drop 24).drop 24).drop 24).drop 24).drop 24).drop 24).drop 24).drop 24).drop 24).drop 24).drop 24).drop 24).take 24).all (fun c => isCode c || c.before args0 about1) = true := by decide +kernel
set_option maxRecDepth 65536 in
theorem w_t14 : ((((((((((((((words1.drop 24).drop 24).drop 24).drop 24).drop 24).drop 24).drop 24).drop 24).drop 24).drop 24).drop 24).drop 24).drop 24).take 24).all (fun c => isCode c || c.before args0 about1) = true := by decide +kernel
set_option maxRecDepth 65536 in
theorem w_t15 : (((((((((((((((words1.drop 24).drop 24).drop 24).drop 24).drop 24).drop 24).drop 24).drop 24).drop 24).drop 24).drop 24).drop 24).drop 24).drop 24).take 24).all (fun c => isCode c || c.before args0 about1) = true := by decide +kernel
set_option maxRecDepth 65536 in
theorem w_t16 : ((((((((((((((((words1.drop 24).drop 24).drop 24).drop 24).drop 24).drop 24).drop 24).drop 24).drop 24).drop 24).drop 24).drop 24).drop 24).drop 24).drop 24).take 24).all (fun c => isCode c || c.before args0 about1) = true := by decide +kernel
set_option maxRecDepth 65536 in
theorem w_t17 : (((((((((((((((((words1.drop 24).drop 24).drop 24).drop 24).drop 24).drop 24).drop 24).drop 24).drop 24).drop 24).drop 24).drop 24).drop 24).drop 24).drop 24).drop 24).take 24).all (fun c => isCode c || c.before args0 about1) = true := by decide +kernel
set_option maxRecDepth 65536 in
theorem w_t18 : ((((((((((((((((((words1.drop 24).drop 24).drop 24).drop 24).drop 24).drop 24).drop 24).drop 24).drop 24).drop 24).drop 24).drop 24).drop 24).drop 24).drop 24).drop 24).drop 24).take 24).all (fun c => isCode c || c.before args0 about1) = true := by decide +kernel
set_option maxRecDepth 65536 in
theorem w_t19 : (((((((((((((((((((words1.drop 24).drop 24).drop 24).drop 24).drop 24).drop 24).drop 24).drop 24).drop 24).drop 24).drop 24).drop 24).drop 24).drop 24).drop 24).drop 24).drop 24).drop 24).take 24).all (fun c => isCode c || c.before args0 about1) = true := by decide +kernel
set_option maxRecDepth 65536 in
theorem w_t20 : (((((((((((((((((((words1.drop 24).drop 24).drop 24).drop 24).drop 24).drop 24).drop 24).drop 24).drop 24).drop 24).drop 24).drop 24).drop 24).drop 24).drop 24).drop 24).drop 24).drop 24).drop 24).all (fun c => isCode c || c.before args0 about1) = true := by decide +kernel
theorem w_tables : (allAtoms (Jvm.Cond.code x code maxLocals ret :: tables_1)).before args0 about1 = true := by
  rw [allAtoms_all]
  show words1.all (fun c => c.before args0 about1) = true
  refine all_split ?_ w_codes
  rw [← List.take_append_drop 24 words1, List.all_append, w_t1, ← List.take_append_drop 24 (words1.drop 24), List.all_append, w_t2, ← List.take_append_drop 24 ((words1.drop 24).drop 24), List.all_append, w_t3, ← List.take_append_drop 24 (((words1.drop 24).drop 24).drop 24), List.all_append, w_t4, ← List.take_append_drop 24 ((((words1.drop 24).drop 24).drop 24).drop 24), List.all_append, w_t5, ← List.take_append_drop 24 (((((words1.drop 24).drop 24).drop 24).drop 24).drop 24), List.all_append, w_t6, ← List.take_append_drop 24 ((((((words1.drop 24).drop 24).drop 24).drop 24).drop 24).drop 24), List.all_append, w_t7, ← List.take_append_drop 24 (((((((words1.drop 24).drop 24).drop 24).drop 24).drop 24).drop 24).drop 24), List.all_append, w_t8, ← List.take_append_drop 24 ((((((((words1.drop 24).drop 24).drop 24).drop 24).drop 24).drop 24).drop 24).drop 24), List.all_append, w_t9, ← List.take_append_drop 24 (((((((((words1.drop 24).drop 24).drop 24).drop 24).drop 24).drop 24).drop 24).drop 24).drop 24), List.all_append, w_t10, ← List.take_append_drop 24 ((((((((((words1.drop 24).drop 24).drop 24).drop 24).drop 24).drop 24).drop 24).drop 24).drop 24).drop 24), List.all_append, w_t11, ← List.take_append_drop 24 (((((((((((words1.drop 24).drop 24).drop 24).drop 24).drop 24).drop 24).drop 24).drop 24).drop 24).drop 24).drop 24), List.all_append, w_t12, ← List.take_append_drop 24 ((((((((((((words1.drop 24).drop 24).drop 24).drop 24).drop 24).drop 24).drop 24).drop 24).drop 24).drop 24).drop 24).drop 24), List.all_append, w_t13, ← List.take_append_drop 24 (((((((((((((words1.drop 24).drop 24).drop 24).drop 24).drop 24).drop 24).drop 24).drop 24).drop 24).drop 24).drop 24).drop 24).drop 24), List.all_append, w_t14, ← List.take_append_drop 24 ((((((((((((((words1.drop 24).drop 24).drop 24).drop 24).drop 24).drop 24).drop 24).drop 24).drop 24).drop 24).drop 24).drop 24).drop 24).drop 24), List.all_append, w_t15, ← List.take_append_drop 24 (((((((((((((((words1.drop 24).drop 24).drop 24).drop 24).drop 24).drop 24).drop 24).drop 24).drop 24).drop 24).drop 24).drop 24).drop 24).drop 24).drop 24), List.all_append, w_t16, ← List.take_append_drop 24 ((((((((((((((((words1.drop 24).drop 24).drop 24).drop 24).drop 24).drop 24).drop 24).drop 24).drop 24).drop 24).drop 24).drop 24).drop 24).drop 24).drop 24).drop 24), List.all_append, w_t17, ← List.take_append_drop 24 (((((((((((((((((words1.drop 24).drop 24).drop 24).drop 24).drop 24).drop 24).drop 24).drop 24).drop 24).drop 24).drop 24).drop 24).drop 24).drop 24).drop 24).drop 24).drop 24), List.all_append, w_t18, ← List.take_append_drop 24 ((((((((((((((((((words1.drop 24).drop 24).drop 24).drop 24).drop 24).drop 24).drop 24).drop 24).drop 24).drop 24).drop 24).drop 24).drop 24).drop 24).drop 24).drop 24).drop 24).drop 24), List.all_append, w_t19, w_t20]
  rfl
set_option maxRecDepth 65536 in
theorem w_rest : rest_1_c.before args0 about1 = true := by decide +kernel
set_option maxRecDepth 65536 in
theorem w_case : (Jvm.Cond.and given_1 narrow_1).before args0 about1 = true := by decide +kernel
set_option maxRecDepth 65536 in
theorem w_consts : constsHeld consts_1 about1 := Jvm.Lit.constsHeldB_iff.mp (by decide +kernel)
theorem w_applies : (headSpec (Jvm.Cond.code x code maxLocals ret :: tables_1) room_1).applies x e0.platform about1 = true :=
  (Spec.applies_iff w_frames).mpr ⟨w_running, w_runnable, w_alone, w_named, w_hears, w_ripe, w_room, w_tables⟩
theorem atStart : AtStart classFile x code maxLocals ret World_1 tables_1 room_1 Calls_1 rest_1 Pre_1 launch0 p0 e0 about1 theMethod args0 below0 :=
  ⟨lists_1, trivial, launch0.admits_env _ _ _, launch0.least_env, fairChoices_fair.cas, fairChoices_fair.clock, w_frames, w_args, w_heap, w_applies, ⟨⟨45, k45, 4, by decide +kernel, rfl, rfl, _, rfl, rfl⟩, ⟨w_consts, trivial⟩⟩, w_rest, w_case⟩
end start1
theorem witness_1 : WitnessClaimed_1 := ⟨start1.p0, start1.e0, start1.about1, start1.theMethod, start1.args0, start1.below0, start1.atStart⟩
end Jvm.Pilot.@@N@@
