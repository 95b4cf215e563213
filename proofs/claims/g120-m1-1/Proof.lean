import JvmDerived
import JvmDerived.Pilot.@@N@@Statement
import JvmDerived.Pilot.@@N@@Code
set_option linter.unusedVariables false
set_option linter.unusedSimpArgs false
namespace Jvm.RoadKit
open Sem ClassFile Op Lib Jvm.Stand Jvm.Free Jvm.LawKit
section New
variable {p : Program} {l : Launch} {e : Env} {R : Room} {s : State} {m : MethodId} {args : Array Value} {below : List Frame} {meth : Method} {c : Code} {T : State} {locs : List Loc} {cells slots : Nat}
theorem retI (X : Stand p l e R s m args below meth c T locs cells slots) (hx : p.tables.exec = Jvm.exec) {pc : Nat} {Ls : Array Slot} {z : Int32} {rest : List Value} (hret : meth.sig.returnType = some .int) (hd : decode c.code pc = .ok (.ireturn, 1)) {fs : List Frame}
    (hl : ∀ (f : JFrame) (acts : List Action), f.method = m → f.locked = none → f.entered = [] → (doReturn e (T.setTop f) acts (some (.int z))).1 = T.setFrames fs) : Steps p.tables e below (T.setTop (mkF m pc Ls (.int z :: rest))) (T.setFrames fs) := by
  have hm' : T.vm.method? m = some meth := X.method'
  have hn : narrow .int (.int z) = .int z := rfl
  show Steps p.tables e below (T.setTop { method := m, pc := pc, locals := Ls, stack := _ :: rest, locked := none }) _
  jvm_step X.here [X.here.top, hx, hd, hm', hret, hn]
  first | (intro acts; rw [hl _ acts rfl rfl rfl]) | rw [hl _ _ rfl rfl rfl]
  exact Steps.refl _
end New
end Jvm.RoadKit
namespace Jvm.Pilot.@@N@@
open Jvm Jvm.ClassFile Sem Op Lib Jvm.Free Jvm.Stand Jvm.LawKit Jvm.RoadKit Bundle Jvm.Pilot.@@N@@.Jvm.D

/-! doubles that are whole numbers -/
theorem own_one : FP.Core.DInt 1 (4607182418800017408 : UInt64) := FP.Core.dint_one
theorem own_zero : FP.Core.DInt 0 (0 : UInt64) := by
  have h := FP.Core.i2d_int (0 : Int32)
  rwa [show FP.Core.i2d (0 : Int32) = 0 by decide +kernel, show (0 : Int32).toInt = 0 by decide] at h
theorem own_nzero : FP.Core.DInt 0 (9223372036854775808 : UInt64) := by
  have h := FP.Core.dneg_int own_zero
  rwa [show FP.Core.dneg (0 : UInt64) = 9223372036854775808 by decide +kernel, show (-(0 : Int)) = 0 by decide] at h
theorem own_mone : FP.Core.DInt (-1) (13830554455654793216 : UInt64) := by
  have h := FP.Core.i2d_int (-1 : Int32)
  rwa [show FP.Core.i2d (-1 : Int32) = 13830554455654793216 by decide +kernel, show (-1 : Int32).toInt = -1 by decide] at h
theorem own_num {i : Int} {a : UInt64} (h : FP.Core.DInt i a) : Jvm.Free.Fl.NoNaN64 a := Jvm.Free.Fl.val64_no.mpr (FP.Core.DInt_ne_nan h)
/-- the int that a comparison pushes -/
def own_c (i j : Int) : Int32 := if i < j then -1 else if i = j then 0 else 1
theorem own_cmp {i j : Int} {a b : UInt64} (o : CmpOp) (ha : FP.Core.DInt i a) (hb : FP.Core.DInt j b) : cmpValue (FP.dcmp a b) o = own_c i j := by
  have h : FP.dcmp a b = some (compare i j) := FP.Core.dcmp_int ha hb
  rw [h, FP.Core.compare_ite]
  unfold own_c
  by_cases h1 : i < j
  · simp only [if_pos h1]; rfl
  · by_cases h2 : i = j
    · simp only [if_neg h1, if_pos h2]; rfl
    · simp only [if_neg h1, if_neg h2]; rfl
theorem own_c_gt {i j : Int} (h : j < i) : (0 : Int32) < own_c i j := by
  unfold own_c; rw [if_neg (by omega), if_neg (by omega)]; decide
theorem own_c_ngt {i j : Int} (h : i ≤ j) : ¬ (0 : Int32) < own_c i j := by
  unfold own_c
  by_cases h1 : i < j
  · rw [if_pos h1]; decide
  · rw [if_neg h1, if_pos (by omega)]; decide
theorem own_c_eq {i j : Int} (h : i = j) : own_c i j = 0 := by
  unfold own_c; rw [if_neg (by omega), if_pos h]
theorem own_c_ne {i j : Int} (h : ¬ i = j) : ¬ own_c i j = 0 := by
  unfold own_c
  by_cases h1 : i < j
  · rw [if_pos h1]; decide
  · rw [if_neg h1, if_neg h]; decide
theorem own_c_lt {i j : Int} (h : i < j) : own_c i j < (0 : Int32) := by
  unfold own_c; rw [if_pos h]; decide
theorem own_c_ge {i j : Int} (h : ¬ i < j) : ¬ own_c i j < (0 : Int32) := by
  unfold own_c; rw [if_neg h]; split <;> decide
theorem own_mul {i j : Int} {a b : UInt64} (ha : FP.Core.DInt i a) (hb : FP.Core.DInt j b) (h : (i * j).natAbs ≤ 9007199254740992) : FP.Core.DInt (i * j) (FP.dmul a b) :=
  FP.Core.dmul_int ha hb (by have e : (2 : Nat) ^ 53 = 9007199254740992 := by decide +kernel
                             omega)
theorem own_i2d (n : Int32) : ∃ k : Int, FP.Core.DInt k (FP.i2d n) ∧ k.natAbs ≤ 2147483648 := by
  refine ⟨n.toInt, FP.Core.i2d_int n, ?_⟩
  have h1 := n.toInt_lt
  have h2 := n.le_toInt
  omega
/-- the first of the four that isn't zero, or the last -/
def own_first (k1 k2 k3 k4 : Int) : Int := if k1 = 0 then (if k2 = 0 then (if k3 = 0 then k4 else k3) else k2) else k1
def own_sg (k : Int) : UInt64 := if k < 0 then 13830554455654793216 else 4607182418800017408

theorem d1_0 : decode method_2_code 0 = .ok (.iload_n 0, 1) := by decide +kernel
theorem d1_1 : decode method_2_code 1 = .ok (.iconst 3, 1) := by decide +kernel
theorem d1_2 : decode method_2_code 2 = .ok (.iand, 1) := by decide +kernel
theorem d1_3 : decode method_2_code 3 = .ok (.istore_n 1, 1) := by decide +kernel
theorem d1_4 : decode method_2_code 4 = .ok (.iload_n 1, 1) := by decide +kernel
theorem d1_5 : decode method_2_code 5 = .ok (.ifCond .ne 5, 3) := by decide +kernel
theorem d1_8 : decode method_2_code 8 = .ok (.dconst 0, 1) := by decide +kernel
theorem d1_9 : decode method_2_code 9 = .ok (.dreturn, 1) := by decide +kernel
theorem d1_10 : decode method_2_code 10 = .ok (.iload_n 1, 1) := by decide +kernel
theorem d1_11 : decode method_2_code 11 = .ok (.iconst 1, 1) := by decide +kernel
theorem d1_12 : decode method_2_code 12 = .ok (.if_icmp .ne 7, 3) := by decide +kernel
theorem d1_15 : decode method_2_code 15 = .ok (.ldc2_w 7, 3) := by decide +kernel
theorem d1_18 : decode method_2_code 18 = .ok (.dreturn, 1) := by decide +kernel
theorem d1_19 : decode method_2_code 19 = .ok (.iload_n 0, 1) := by decide +kernel
theorem d1_20 : decode method_2_code 20 = .ok (.iconst 2, 1) := by decide +kernel
theorem d1_21 : decode method_2_code 21 = .ok (.ishr, 1) := by decide +kernel
theorem d1_22 : decode method_2_code 22 = .ok (.i2d, 1) := by decide +kernel
theorem d1_23 : decode method_2_code 23 = .ok (.dreturn, 1) := by decide +kernel
theorem d2_0 : decode prog_2_method_3_code 0 = .ok (.dload_n 0, 1) := by decide +kernel
theorem d2_1 : decode prog_2_method_3_code 1 = .ok (.dconst 0, 1) := by decide +kernel
theorem d2_2 : decode prog_2_method_3_code 2 = .ok (.dcmp .l, 1) := by decide +kernel
theorem d2_3 : decode prog_2_method_3_code 3 = .ok (.ifCond .eq 9, 3) := by decide +kernel
theorem d2_6 : decode prog_2_method_3_code 6 = .ok (.dload_n 0, 1) := by decide +kernel
theorem d2_7 : decode prog_2_method_3_code 7 = .ok (.dstore 8, 2) := by decide +kernel
theorem d2_9 : decode prog_2_method_3_code 9 = .ok (.goto 33, 3) := by decide +kernel
theorem d2_12 : decode prog_2_method_3_code 12 = .ok (.dload_n 2, 1) := by decide +kernel
theorem d2_13 : decode prog_2_method_3_code 13 = .ok (.dconst 0, 1) := by decide +kernel
theorem d2_14 : decode prog_2_method_3_code 14 = .ok (.dcmp .l, 1) := by decide +kernel
theorem d2_15 : decode prog_2_method_3_code 15 = .ok (.ifCond .eq 9, 3) := by decide +kernel
theorem d2_18 : decode prog_2_method_3_code 18 = .ok (.dload_n 2, 1) := by decide +kernel
theorem d2_19 : decode prog_2_method_3_code 19 = .ok (.dstore 8, 2) := by decide +kernel
theorem d2_21 : decode prog_2_method_3_code 21 = .ok (.goto 21, 3) := by decide +kernel
theorem d2_24 : decode prog_2_method_3_code 24 = .ok (.dload 4, 2) := by decide +kernel
theorem d2_26 : decode prog_2_method_3_code 26 = .ok (.dconst 0, 1) := by decide +kernel
theorem d2_27 : decode prog_2_method_3_code 27 = .ok (.dcmp .l, 1) := by decide +kernel
theorem d2_28 : decode prog_2_method_3_code 28 = .ok (.ifCond .eq 10, 3) := by decide +kernel
theorem d2_31 : decode prog_2_method_3_code 31 = .ok (.dload 4, 2) := by decide +kernel
theorem d2_33 : decode prog_2_method_3_code 33 = .ok (.dstore 8, 2) := by decide +kernel
theorem d2_35 : decode prog_2_method_3_code 35 = .ok (.goto 7, 3) := by decide +kernel
theorem d2_38 : decode prog_2_method_3_code 38 = .ok (.dload 6, 2) := by decide +kernel
theorem d2_40 : decode prog_2_method_3_code 40 = .ok (.dstore 8, 2) := by decide +kernel
theorem d2_42 : decode prog_2_method_3_code 42 = .ok (.dload 8, 2) := by decide +kernel
theorem d2_44 : decode prog_2_method_3_code 44 = .ok (.dconst 0, 1) := by decide +kernel
theorem d2_45 : decode prog_2_method_3_code 45 = .ok (.dcmp .g, 1) := by decide +kernel
theorem d2_46 : decode prog_2_method_3_code 46 = .ok (.ifCond .ge 9, 3) := by decide +kernel
theorem d2_49 : decode prog_2_method_3_code 49 = .ok (.ldc2_w 7, 3) := by decide +kernel
theorem d2_52 : decode prog_2_method_3_code 52 = .ok (.goto 4, 3) := by decide +kernel
theorem d2_55 : decode prog_2_method_3_code 55 = .ok (.dconst 1, 1) := by decide +kernel
theorem d2_56 : decode prog_2_method_3_code 56 = .ok (.dreturn, 1) := by decide +kernel
theorem pn_1 : plainName "com/example/axangle/axangle/CanonicalSignPinLaw" = true := by first | (simp [plainName, overriddenIn]; done) | decide +kernel
theorem pn_2 : plainName "com/example/axangle/axangle/Canonical" = true := by first | (simp [plainName, overriddenIn]; done) | decide +kernel
theorem pd_1 : parseMethodDescriptor "(I)D" = some ⟨[.int], some .double⟩ := by decide +kernel
theorem pd_2 : parseMethodDescriptor "(DDDD)D" = some ⟨[.double, .double, .double, .double], some .double⟩ := by decide +kernel
theorem ef_1 (m : MethodId) (x0 : Int32) : entryFrame m #[(.int x0)] 2 = mkF m 0 #[.val (.int x0), .unset] [] := by first | (simp [entryFrame, mkF, argsToLocals, Value.category]; done) | rfl
theorem ef_2 (m : MethodId) (x0 x1 x2 x3 : UInt64) : entryFrame m #[(.double x0), (.double x1), (.double x2), (.double x3)] 10 = mkF m 0 #[.val (.double x0), .second, .val (.double x1), .second, .val (.double x2), .second, .val (.double x3), .second, .unset, .unset] [] := by first | (simp [entryFrame, mkF, argsToLocals, Value.category]; done) | rfl
def Q1 (h0 : Heap) (n0 : Nat) (v : Option Value) (h : Heap) (L : List Loc) : Prop := ∃ (k : Int) (b : UInt64), v = some (.double b) ∧ FP.Core.DInt k b ∧ k.natAbs ≤ 2147483648 ∧ Fr n0 L ∧ h = h0
/-- what draw gives -/
def own_draw (p : Int32) : UInt64 := if (p &&& (3 : Int32)) = (0 : Int32) then 0 else if (p &&& (3 : Int32)) = (1 : Int32) then 9223372036854775808 else FP.i2d (p >>> ((2 : Int32) &&& 31))
theorem own_draw_int (p : Int32) : ∃ k : Int, FP.Core.DInt k (own_draw p) ∧ k.natAbs ≤ 2147483648 := by
  unfold own_draw
  by_cases h1 : (p &&& (3 : Int32)) = (0 : Int32)
  · rw [if_pos h1]; exact ⟨0, own_zero, by decide⟩
  · rw [if_neg h1]
    by_cases h2 : (p &&& (3 : Int32)) = (1 : Int32)
    · rw [if_pos h2]; exact ⟨0, own_nzero, by decide⟩
    · rw [if_neg h2]; exact own_i2d _
set_option maxRecDepth 65536 in
set_option maxHeartbeats 40000000 in
theorem rm1 (l : Launch) (Z : State) (a0 : Array Value) (hw : ∀ d ∈ tables_1, d.before a0 Z = true) (ws : List Jvm.Cond) (p1 : Int32) (h0 : Heap) (n0 : Nat) :
    MetFree l (⟨"com/example/axangle/axangle/CanonicalSignPinLaw", "draw", "(I)D"⟩ : MethodName) (head1 (Jvm.Cond.code (⟨"com/example/axangle/axangle/CanonicalSignPinLaw", "draw", "(I)D"⟩ : MethodName) method_2_code 2 (some .double) :: ws) ({ frames := 0, cells := 0, slots := 0, locals := 0 } : Room)) (fun a U => a = #[(.int p1)] ∧ Z.Warmed39 U.vm ∧ U.heap = h0) (fun _ _ _ _ _ => True) (fun _ U o U' => ∃ v L, o = .returned v ∧ Q1 h0 n0 v U'.heap L ∧ FrameEnd U o U' L ({ frames := 0, cells := 0, slots := 0, locals := 0 } : Room).cells ({ frames := 0, cells := 0, slots := 0, locals := 0 } : Room).slots) := by
  refine MetFree.of_bodySF (plainFor_of_name pn_1) hisR ?_
  intro p e s m args below meth c s₁ Bd hml0 hP hK
  obtain ⟨rfl, hZ, hh⟩ := hP
  have hx := Bd.exec
  have hby := Bd.bytes
  have hml : c.maxLocals = 2 := hml0
  have hown : s.vm.findClass "com/example/axangle/axangle/CanonicalSignPinLaw" = some m.cls := findClass_of_methodNamed Bd.named
  have hnm := (name_of_methodNamed Bd.named Bd.method).1
  have X0 : Stand p l e ({ frames := 0, cells := 0, slots := 0, locals := 0 } : Room) s m #[(.int p1)] below meth c s₁ [] 0 0 := Stand.of_body Bd
  have e0 : s₁.heap = h0 := by rw [← hh, Bd.state]; rfl
  have N0 := Fr.nil n0
  have pre0 : ∀ t, Steps p.tables e below (s₁.setTop (mkF m 0 #[.val (.int p1), .unset] [])) t → Steps p.tables e below (s₁.setTop (entryFrame m #[(.int p1)] 2)) t := fun t k => castTop (ef_1 m p1) k
  obtain ⟨fs, hr, hrun, hended, hW, hsame⟩ := X0.leave (v := some (.double (own_draw p1))) (fun h => by rw [Bd.returns] at h; cases h)
  refine ⟨_, _, pre0 _ ?_, hrun, hended, _, _, rfl, ?_, ⟨_, rfl⟩, hW, hsame.mono (by decide) (by decide)⟩
  · show Steps p.tables e below (s₁.setTop (mkF m 0 #[.val (.int p1), .unset] [])) _
    refine XS.iloadN X0.here hx rfl (hb hby d1_0) rfl ?_
    show Steps p.tables e below (s₁.setTop (mkF m 1 #[.val (.int p1), .unset] [(.int p1)])) _
    refine XS.iconst X0.here hx rfl (hb hby d1_1) ?_
    show Steps p.tables e below (s₁.setTop (mkF m 2 #[.val (.int p1), .unset] [(.int (3 : Int32)), (.int p1)])) _
    refine XS.iand X0.here hx rfl (hb hby d1_2) rfl ?_
    show Steps p.tables e below (s₁.setTop (mkF m 3 #[.val (.int p1), .unset] [(.int (p1 &&& (3 : Int32)))])) _
    refine XS.istoreN X0.here hx rfl (hb hby d1_3) rfl (l' := #[.val (.int p1), .val (.int (p1 &&& (3 : Int32)))]) rfl ?_
    show Steps p.tables e below (s₁.setTop (mkF m 4 #[.val (.int p1), .val (.int (p1 &&& (3 : Int32)))] [])) _
    refine XS.iloadN X0.here hx rfl (hb hby d1_4) rfl ?_
    show Steps p.tables e below (s₁.setTop (mkF m 5 #[.val (.int p1), .val (.int (p1 &&& (3 : Int32)))] [(.int (p1 &&& (3 : Int32)))])) _
    by_cases hc5 : (p1 &&& (3 : Int32)) = (0 : Int32)
    · have hv : own_draw p1 = 0 := by unfold own_draw; rw [if_pos hc5]
      rw [hv] at hr
      refine XS.ifNo X0.here hx rfl (hb hby d1_5) rfl ((if0 _ _).trans (teq hc5).2) ?_
      show Steps p.tables e below (s₁.setTop (mkF m 8 #[.val (.int p1), .val (.int (p1 &&& (3 : Int32)))] [])) _
      refine XS.dconst0 X0.here hx rfl (hb hby d1_8) (v := (0 : UInt64)) rfl ?_
      show Steps p.tables e below (s₁.setTop (mkF m 9 #[.val (.int p1), .val (.int (p1 &&& (3 : Int32)))] [(.double (0 : UInt64))])) _
      exact retOut X0 hx Bd.returns rfl (Or.inr (Or.inr (Or.inl ⟨rfl, rfl, _, rfl⟩))) (hb hby d1_9) hr
    · refine XS.ifYes X0.here hx rfl (pc0 := 5) (pc' := 10) rfl (hb hby d1_5) rfl ((if0 _ _).trans (feq hc5).2) (by decide) (by decide) ?_
      show Steps p.tables e below (s₁.setTop (mkF m 10 #[.val (.int p1), .val (.int (p1 &&& (3 : Int32)))] [])) _
      refine XS.iloadN X0.here hx rfl (hb hby d1_10) rfl ?_
      show Steps p.tables e below (s₁.setTop (mkF m 11 #[.val (.int p1), .val (.int (p1 &&& (3 : Int32)))] [(.int (p1 &&& (3 : Int32)))])) _
      refine XS.iconst X0.here hx rfl (hb hby d1_11) ?_
      show Steps p.tables e below (s₁.setTop (mkF m 12 #[.val (.int p1), .val (.int (p1 &&& (3 : Int32)))] [(.int (1 : Int32)), (.int (p1 &&& (3 : Int32)))])) _
      by_cases hc12 : (p1 &&& (3 : Int32)) = (1 : Int32)
      · have hv : own_draw p1 = 9223372036854775808 := by unfold own_draw; rw [if_neg hc5, if_pos hc12]
        rw [hv] at hr
        refine XS.icmpNo X0.here hx rfl (hb hby d1_12) rfl (teq hc12).2 ?_
        show Steps p.tables e below (s₁.setTop (mkF m 15 #[.val (.int p1), .val (.int (p1 &&& (3 : Int32)))] [])) _
        refine X0.ldc2DoubleC hx hown (mvT hZ (hw _ (List.mem_of_getElem? (i := 4) rfl))) (g := (mkF m 15 #[.val (.int p1), .val (.int (p1 &&& (3 : Int32)))] [])) rfl (hb hby d1_15) _ ?_
        show Steps p.tables e below (s₁.setTop (mkF m 18 #[.val (.int p1), .val (.int (p1 &&& (3 : Int32)))] [(.double (9223372036854775808 : UInt64))])) _
        exact retOut X0 hx Bd.returns rfl (Or.inr (Or.inr (Or.inl ⟨rfl, rfl, _, rfl⟩))) (hb hby d1_18) hr
      · have hv : own_draw p1 = FP.i2d (p1 >>> ((2 : Int32) &&& 31)) := by unfold own_draw; rw [if_neg hc5, if_neg hc12]
        rw [hv] at hr
        refine XS.icmpYes X0.here hx rfl (pc0 := 12) (pc' := 19) rfl (hb hby d1_12) rfl (feq hc12).2 (by decide) (by decide) ?_
        show Steps p.tables e below (s₁.setTop (mkF m 19 #[.val (.int p1), .val (.int (p1 &&& (3 : Int32)))] [])) _
        refine XS.iloadN X0.here hx rfl (hb hby d1_19) rfl ?_
        show Steps p.tables e below (s₁.setTop (mkF m 20 #[.val (.int p1), .val (.int (p1 &&& (3 : Int32)))] [(.int p1)])) _
        refine XS.iconst X0.here hx rfl (hb hby d1_20) ?_
        show Steps p.tables e below (s₁.setTop (mkF m 21 #[.val (.int p1), .val (.int (p1 &&& (3 : Int32)))] [(.int (2 : Int32)), (.int p1)])) _
        refine XS.ishr X0.here hx rfl (hb hby d1_21) rfl ?_
        show Steps p.tables e below (s₁.setTop (mkF m 22 #[.val (.int p1), .val (.int (p1 &&& (3 : Int32)))] [(.int (p1 >>> ((2 : Int32) &&& 31)))])) _
        refine XS.i2dS X0.here hx rfl (hb hby d1_22) rfl rfl ?_
        show Steps p.tables e below (s₁.setTop (mkF m 23 #[.val (.int p1), .val (.int (p1 &&& (3 : Int32)))] [(.double (FP.i2d (p1 >>> ((2 : Int32) &&& 31))))])) _
        exact retOut X0 hx Bd.returns rfl (Or.inr (Or.inr (Or.inl ⟨rfl, rfl, _, rfl⟩))) (hb hby d1_23) hr
  · obtain ⟨k, hk, hk2⟩ := own_draw_int p1
    exact ⟨k, own_draw p1, rfl, hk, hk2, N0, e0⟩
def Q2 (k1 k2 k3 k4 : Int) (h0 : Heap) (n0 : Nat) (v : Option Value) (h : Heap) (L : List Loc) : Prop := v = some (.double (own_sg (own_first k1 k2 k3 k4))) ∧ Fr n0 L ∧ h = h0
set_option maxRecDepth 65536 in
set_option maxHeartbeats 40000000 in
theorem rm2 (l : Launch) (Z : State) (a0 : Array Value) (hw : ∀ d ∈ tables_1, d.before a0 Z = true) (ws : List Jvm.Cond) (k1 k2 k3 k4 : Int) (b1 b2 b3 b4 : UInt64) (i1 : FP.Core.DInt k1 b1) (i2 : FP.Core.DInt k2 b2) (i3 : FP.Core.DInt k3 b3) (i4 : FP.Core.DInt k4 b4) (h0 : Heap) (n0 : Nat) :
    MetFree l (⟨"com/example/axangle/axangle/Canonical", "sign", "(DDDD)D"⟩ : MethodName) (head1 (Jvm.Cond.code (⟨"com/example/axangle/axangle/Canonical", "sign", "(DDDD)D"⟩ : MethodName) prog_2_method_3_code 10 (some .double) :: ws) ({ frames := 0, cells := 0, slots := 0, locals := 0 } : Room)) (fun a U => a = #[(.double b1), (.double b2), (.double b3), (.double b4)] ∧ Z.Warmed39 U.vm ∧ U.heap = h0) (fun _ _ _ _ _ => True) (fun _ U o U' => ∃ v L, o = .returned v ∧ Q2 k1 k2 k3 k4 h0 n0 v U'.heap L ∧ FrameEnd U o U' L ({ frames := 0, cells := 0, slots := 0, locals := 0 } : Room).cells ({ frames := 0, cells := 0, slots := 0, locals := 0 } : Room).slots) := by
  refine MetFree.of_bodySF (plainFor_of_name pn_2) hisR ?_
  intro p e s m args below meth c s₁ Bd hml0 hP hK
  obtain ⟨rfl, hZ, hh⟩ := hP
  have hx := Bd.exec
  have hby := Bd.bytes
  have hml : c.maxLocals = 10 := hml0
  have hown : s.vm.findClass "com/example/axangle/axangle/Canonical" = some m.cls := findClass_of_methodNamed Bd.named
  have hnm := (name_of_methodNamed Bd.named Bd.method).1
  have X0 : Stand p l e ({ frames := 0, cells := 0, slots := 0, locals := 0 } : Room) s m #[(.double b1), (.double b2), (.double b3), (.double b4)] below meth c s₁ [] 0 0 := Stand.of_body Bd
  have e0 : s₁.heap = h0 := by rw [← hh, Bd.state]; rfl
  have N0 := Fr.nil n0
  have pre0 : ∀ t, Steps p.tables e below (s₁.setTop (mkF m 0 #[.val (.double b1), .second, .val (.double b2), .second, .val (.double b3), .second, .val (.double b4), .second, .unset, .unset] [])) t → Steps p.tables e below (s₁.setTop (entryFrame m #[(.double b1), (.double b2), (.double b3), (.double b4)] 10)) t := fun t k => castTop (ef_2 m b1 b2 b3 b4) k
  obtain ⟨fs, hr, hrun, hended, hW, hsame⟩ := X0.leave (v := some (.double (own_sg (own_first k1 k2 k3 k4)))) (fun h => by rw [Bd.returns] at h; cases h)
  refine ⟨_, _, pre0 _ ?_, hrun, hended, _, _, rfl, ⟨rfl, N0, e0⟩, ⟨_, rfl⟩, hW, hsame.mono (by decide) (by decide)⟩
  have tail : ∀ (k : Int) (f : UInt64), FP.Core.DInt k f → own_first k1 k2 k3 k4 = k → Steps p.tables e below (s₁.setTop (mkF m 42 #[.val (.double b1), .second, .val (.double b2), .second, .val (.double b3), .second, .val (.double b4), .second, .val (.double f), .second] [])) (s₁.setFrames fs) := by
    intro k f hf hk
    rw [hk] at hr
    show Steps p.tables e below (s₁.setTop (mkF m 42 #[.val (.double b1), .second, .val (.double b2), .second, .val (.double b3), .second, .val (.double b4), .second, .val (.double f), .second] [])) _
    refine XS.dload X0.here hx rfl (hb hby d2_42) rfl ?_
    show Steps p.tables e below (s₁.setTop (mkF m 44 #[.val (.double b1), .second, .val (.double b2), .second, .val (.double b3), .second, .val (.double b4), .second, .val (.double f), .second] [(.double f)])) _
    refine XS.dconst0 X0.here hx rfl (hb hby d2_44) (v := (0 : UInt64)) rfl ?_
    show Steps p.tables e below (s₁.setTop (mkF m 45 #[.val (.double b1), .second, .val (.double b2), .second, .val (.double b3), .second, .val (.double b4), .second, .val (.double f), .second] [(.double (0 : UInt64)), (.double f)])) _
    refine XS.dcmpS X0.here hx rfl (hb hby d2_45) rfl (own_cmp .g hf own_zero) ?_
    show Steps p.tables e below (s₁.setTop (mkF m 46 #[.val (.double b1), .second, .val (.double b2), .second, .val (.double b3), .second, .val (.double b4), .second, .val (.double f), .second] [(.int (own_c k 0))])) _
    by_cases hc : k < 0
    · have hv : own_sg k = 13830554455654793216 := by unfold own_sg; rw [if_pos hc]
      rw [hv] at hr
      refine XS.ifNo X0.here hx rfl (hb hby d2_46) rfl ((if0 _ _).trans (tlt (own_c_lt hc)).2.1) ?_
      show Steps p.tables e below (s₁.setTop (mkF m 49 #[.val (.double b1), .second, .val (.double b2), .second, .val (.double b3), .second, .val (.double b4), .second, .val (.double f), .second] [])) _
      refine X0.ldc2DoubleC hx hown (mvT hZ (hw _ (List.mem_of_getElem? (i := 9) rfl))) (g := (mkF m 49 #[.val (.double b1), .second, .val (.double b2), .second, .val (.double b3), .second, .val (.double b4), .second, .val (.double f), .second] [])) rfl (hb hby d2_49) _ ?_
      show Steps p.tables e below (s₁.setTop (mkF m 52 #[.val (.double b1), .second, .val (.double b2), .second, .val (.double b3), .second, .val (.double b4), .second, .val (.double f), .second] [(.double (13830554455654793216 : UInt64))])) _
      refine XS.goto X0.here hx rfl (pc0 := 52) (pc' := 56) rfl (hb hby d2_52) (by decide) (by decide) ?_
      show Steps p.tables e below (s₁.setTop (mkF m 56 #[.val (.double b1), .second, .val (.double b2), .second, .val (.double b3), .second, .val (.double b4), .second, .val (.double f), .second] [(.double (13830554455654793216 : UInt64))])) _
      exact retOut X0 hx Bd.returns rfl (Or.inr (Or.inr (Or.inl ⟨rfl, rfl, _, rfl⟩))) (hb hby d2_56) hr
    · have hv : own_sg k = 4607182418800017408 := by unfold own_sg; rw [if_neg hc]
      rw [hv] at hr
      refine XS.ifYes X0.here hx rfl (pc0 := 46) (pc' := 55) rfl (hb hby d2_46) rfl ((if0 _ _).trans (flt (own_c_ge hc)).2.1) (by decide) (by decide) ?_
      show Steps p.tables e below (s₁.setTop (mkF m 55 #[.val (.double b1), .second, .val (.double b2), .second, .val (.double b3), .second, .val (.double b4), .second, .val (.double f), .second] [])) _
      refine XS.dconst1 X0.here hx rfl (hb hby d2_55) (v := (4607182418800017408 : UInt64)) rfl ?_
      show Steps p.tables e below (s₁.setTop (mkF m 56 #[.val (.double b1), .second, .val (.double b2), .second, .val (.double b3), .second, .val (.double b4), .second, .val (.double f), .second] [(.double (4607182418800017408 : UInt64))])) _
      exact retOut X0 hx Bd.returns rfl (Or.inr (Or.inr (Or.inl ⟨rfl, rfl, _, rfl⟩))) (hb hby d2_56) hr
  show Steps p.tables e below (s₁.setTop (mkF m 0 #[.val (.double b1), .second, .val (.double b2), .second, .val (.double b3), .second, .val (.double b4), .second, .unset, .unset] [])) _
  refine XS.dloadN X0.here hx rfl (hb hby d2_0) rfl ?_
  show Steps p.tables e below (s₁.setTop (mkF m 1 #[.val (.double b1), .second, .val (.double b2), .second, .val (.double b3), .second, .val (.double b4), .second, .unset, .unset] [(.double b1)])) _
  refine XS.dconst0 X0.here hx rfl (hb hby d2_1) (v := (0 : UInt64)) rfl ?_
  show Steps p.tables e below (s₁.setTop (mkF m 2 #[.val (.double b1), .second, .val (.double b2), .second, .val (.double b3), .second, .val (.double b4), .second, .unset, .unset] [(.double (0 : UInt64)), (.double b1)])) _
  refine XS.dcmpS X0.here hx rfl (hb hby d2_2) rfl (own_cmp .l i1 own_zero) ?_
  show Steps p.tables e below (s₁.setTop (mkF m 3 #[.val (.double b1), .second, .val (.double b2), .second, .val (.double b3), .second, .val (.double b4), .second, .unset, .unset] [(.int (own_c k1 0))])) _
  by_cases hc1 : k1 = 0
  · refine XS.ifYes X0.here hx rfl (pc0 := 3) (pc' := 12) rfl (hb hby d2_3) rfl ((if0 _ _).trans (teq (own_c_eq hc1)).1) (by decide) (by decide) ?_
    show Steps p.tables e below (s₁.setTop (mkF m 12 #[.val (.double b1), .second, .val (.double b2), .second, .val (.double b3), .second, .val (.double b4), .second, .unset, .unset] [])) _
    refine XS.dloadN X0.here hx rfl (hb hby d2_12) rfl ?_
    show Steps p.tables e below (s₁.setTop (mkF m 13 #[.val (.double b1), .second, .val (.double b2), .second, .val (.double b3), .second, .val (.double b4), .second, .unset, .unset] [(.double b2)])) _
    refine XS.dconst0 X0.here hx rfl (hb hby d2_13) (v := (0 : UInt64)) rfl ?_
    show Steps p.tables e below (s₁.setTop (mkF m 14 #[.val (.double b1), .second, .val (.double b2), .second, .val (.double b3), .second, .val (.double b4), .second, .unset, .unset] [(.double (0 : UInt64)), (.double b2)])) _
    refine XS.dcmpS X0.here hx rfl (hb hby d2_14) rfl (own_cmp .l i2 own_zero) ?_
    show Steps p.tables e below (s₁.setTop (mkF m 15 #[.val (.double b1), .second, .val (.double b2), .second, .val (.double b3), .second, .val (.double b4), .second, .unset, .unset] [(.int (own_c k2 0))])) _
    by_cases hc2 : k2 = 0
    · refine XS.ifYes X0.here hx rfl (pc0 := 15) (pc' := 24) rfl (hb hby d2_15) rfl ((if0 _ _).trans (teq (own_c_eq hc2)).1) (by decide) (by decide) ?_
      show Steps p.tables e below (s₁.setTop (mkF m 24 #[.val (.double b1), .second, .val (.double b2), .second, .val (.double b3), .second, .val (.double b4), .second, .unset, .unset] [])) _
      refine XS.dload X0.here hx rfl (hb hby d2_24) rfl ?_
      show Steps p.tables e below (s₁.setTop (mkF m 26 #[.val (.double b1), .second, .val (.double b2), .second, .val (.double b3), .second, .val (.double b4), .second, .unset, .unset] [(.double b3)])) _
      refine XS.dconst0 X0.here hx rfl (hb hby d2_26) (v := (0 : UInt64)) rfl ?_
      show Steps p.tables e below (s₁.setTop (mkF m 27 #[.val (.double b1), .second, .val (.double b2), .second, .val (.double b3), .second, .val (.double b4), .second, .unset, .unset] [(.double (0 : UInt64)), (.double b3)])) _
      refine XS.dcmpS X0.here hx rfl (hb hby d2_27) rfl (own_cmp .l i3 own_zero) ?_
      show Steps p.tables e below (s₁.setTop (mkF m 28 #[.val (.double b1), .second, .val (.double b2), .second, .val (.double b3), .second, .val (.double b4), .second, .unset, .unset] [(.int (own_c k3 0))])) _
      by_cases hc3 : k3 = 0
      · refine XS.ifYes X0.here hx rfl (pc0 := 28) (pc' := 38) rfl (hb hby d2_28) rfl ((if0 _ _).trans (teq (own_c_eq hc3)).1) (by decide) (by decide) ?_
        show Steps p.tables e below (s₁.setTop (mkF m 38 #[.val (.double b1), .second, .val (.double b2), .second, .val (.double b3), .second, .val (.double b4), .second, .unset, .unset] [])) _
        refine XS.dload X0.here hx rfl (hb hby d2_38) rfl ?_
        show Steps p.tables e below (s₁.setTop (mkF m 40 #[.val (.double b1), .second, .val (.double b2), .second, .val (.double b3), .second, .val (.double b4), .second, .unset, .unset] [(.double b4)])) _
        refine XS.dstore X0.here hx rfl (hb hby d2_40) rfl (l' := #[.val (.double b1), .second, .val (.double b2), .second, .val (.double b3), .second, .val (.double b4), .second, .val (.double b4), .second]) rfl ?_
        show Steps p.tables e below (s₁.setTop (mkF m 42 #[.val (.double b1), .second, .val (.double b2), .second, .val (.double b3), .second, .val (.double b4), .second, .val (.double b4), .second] [])) _
        exact tail k4 b4 i4 (by unfold own_first; rw [if_pos hc1, if_pos hc2, if_pos hc3])
      · refine XS.ifNo X0.here hx rfl (hb hby d2_28) rfl ((if0 _ _).trans (feq (own_c_ne hc3)).1) ?_
        show Steps p.tables e below (s₁.setTop (mkF m 31 #[.val (.double b1), .second, .val (.double b2), .second, .val (.double b3), .second, .val (.double b4), .second, .unset, .unset] [])) _
        refine XS.dload X0.here hx rfl (hb hby d2_31) rfl ?_
        show Steps p.tables e below (s₁.setTop (mkF m 33 #[.val (.double b1), .second, .val (.double b2), .second, .val (.double b3), .second, .val (.double b4), .second, .unset, .unset] [(.double b3)])) _
        refine XS.dstore X0.here hx rfl (hb hby d2_33) rfl (l' := #[.val (.double b1), .second, .val (.double b2), .second, .val (.double b3), .second, .val (.double b4), .second, .val (.double b3), .second]) rfl ?_
        show Steps p.tables e below (s₁.setTop (mkF m 35 #[.val (.double b1), .second, .val (.double b2), .second, .val (.double b3), .second, .val (.double b4), .second, .val (.double b3), .second] [])) _
        refine XS.goto X0.here hx rfl (pc0 := 35) (pc' := 42) rfl (hb hby d2_35) (by decide) (by decide) ?_
        show Steps p.tables e below (s₁.setTop (mkF m 42 #[.val (.double b1), .second, .val (.double b2), .second, .val (.double b3), .second, .val (.double b4), .second, .val (.double b3), .second] [])) _
        exact tail k3 b3 i3 (by unfold own_first; rw [if_pos hc1, if_pos hc2, if_neg hc3])
    · refine XS.ifNo X0.here hx rfl (hb hby d2_15) rfl ((if0 _ _).trans (feq (own_c_ne hc2)).1) ?_
      show Steps p.tables e below (s₁.setTop (mkF m 18 #[.val (.double b1), .second, .val (.double b2), .second, .val (.double b3), .second, .val (.double b4), .second, .unset, .unset] [])) _
      refine XS.dloadN X0.here hx rfl (hb hby d2_18) rfl ?_
      show Steps p.tables e below (s₁.setTop (mkF m 19 #[.val (.double b1), .second, .val (.double b2), .second, .val (.double b3), .second, .val (.double b4), .second, .unset, .unset] [(.double b2)])) _
      refine XS.dstore X0.here hx rfl (hb hby d2_19) rfl (l' := #[.val (.double b1), .second, .val (.double b2), .second, .val (.double b3), .second, .val (.double b4), .second, .val (.double b2), .second]) rfl ?_
      show Steps p.tables e below (s₁.setTop (mkF m 21 #[.val (.double b1), .second, .val (.double b2), .second, .val (.double b3), .second, .val (.double b4), .second, .val (.double b2), .second] [])) _
      refine XS.goto X0.here hx rfl (pc0 := 21) (pc' := 42) rfl (hb hby d2_21) (by decide) (by decide) ?_
      show Steps p.tables e below (s₁.setTop (mkF m 42 #[.val (.double b1), .second, .val (.double b2), .second, .val (.double b3), .second, .val (.double b4), .second, .val (.double b2), .second] [])) _
      exact tail k2 b2 i2 (by unfold own_first; rw [if_pos hc1, if_neg hc2])
  · refine XS.ifNo X0.here hx rfl (hb hby d2_3) rfl ((if0 _ _).trans (feq (own_c_ne hc1)).1) ?_
    show Steps p.tables e below (s₁.setTop (mkF m 6 #[.val (.double b1), .second, .val (.double b2), .second, .val (.double b3), .second, .val (.double b4), .second, .unset, .unset] [])) _
    refine XS.dloadN X0.here hx rfl (hb hby d2_6) rfl ?_
    show Steps p.tables e below (s₁.setTop (mkF m 7 #[.val (.double b1), .second, .val (.double b2), .second, .val (.double b3), .second, .val (.double b4), .second, .unset, .unset] [(.double b1)])) _
    refine XS.dstore X0.here hx rfl (hb hby d2_7) rfl (l' := #[.val (.double b1), .second, .val (.double b2), .second, .val (.double b3), .second, .val (.double b4), .second, .val (.double b1), .second]) rfl ?_
    show Steps p.tables e below (s₁.setTop (mkF m 9 #[.val (.double b1), .second, .val (.double b2), .second, .val (.double b3), .second, .val (.double b4), .second, .val (.double b1), .second] [])) _
    refine XS.goto X0.here hx rfl (pc0 := 9) (pc' := 42) rfl (hb hby d2_9) (by decide) (by decide) ?_
    show Steps p.tables e below (s₁.setTop (mkF m 42 #[.val (.double b1), .second, .val (.double b2), .second, .val (.double b3), .second, .val (.double b4), .second, .val (.double b1), .second] [])) _
    exact tail k1 b1 i1 (by unfold own_first; rw [if_neg hc1])
theorem ef_0 (m : MethodId) (x0 x1 x2 x3 : Int32) : entryFrame m #[(.int x0), (.int x1), (.int x2), (.int x3)] maxLocals = mkF m 0 #[.val (.int x0), .val (.int x1), .val (.int x2), .val (.int x3), .unset, .unset, .unset, .unset, .unset, .unset, .unset, .unset, .unset, .unset, .unset, .unset, .unset, .unset, .unset, .unset, .unset, .unset] [] := by first | (simp [entryFrame, mkF, argsToLocals, Value.category, maxLocals]; done) | rfl
theorem own_road (k1 k2 k3 k4 g : Int) (hg : (own_first k1 k2 k3 k4 < 0 ∧ g = -1) ∨ (¬ own_first k1 k2 k3 k4 < 0 ∧ g = 1)) : 0 < g * k1 ∨ (g * k1 = 0 ∧ (0 < g * k2 ∨ (g * k2 = 0 ∧ (0 < g * k3 ∨ (g * k3 = 0 ∧ (0 < g * k4 ∨ (g * k4 = 0 ∧ g = 1))))))) := by
  unfold own_first at hg
  rcases hg with ⟨h, rfl⟩ | ⟨h, rfl⟩ <;> (repeat' split at h) <;> omega
theorem own_abs {g k : Int} (hg : g = -1 ∨ g = 1) (h : k.natAbs ≤ 2147483648) : (g * k).natAbs ≤ 9007199254740992 := by
  rcases hg with rfl | rfl <;> omega
theorem own_sg_int (k : Int) : ∃ g : Int, FP.Core.DInt g (own_sg k) ∧ ((k < 0 ∧ g = -1) ∨ (¬ k < 0 ∧ g = 1)) := by
  unfold own_sg
  by_cases h : k < 0
  · rw [if_pos h]; exact ⟨-1, own_mone, Or.inl ⟨h, rfl⟩⟩
  · rw [if_neg h]; exact ⟨1, own_one, Or.inr ⟨h, rfl⟩⟩
def Q0 (n0 : Nat) (v : Option Value) (L : List Loc) : Prop := v = some (.int 1) ∧ Fr n0 L
set_option maxRecDepth 65536 in
set_option maxHeartbeats 40000000 in
theorem rm0 (l : Launch) (Z : State) (a0 : Array Value) (hw : ∀ d ∈ tables_1, d.before a0 Z = true) (ws : List Jvm.Cond) (p1 p2 p3 p4 : Int32) (h0 : Heap) (n0 : Nat) :
    MetFree l x (head1 (Jvm.Cond.code x code maxLocals ret :: ws) room_1) (fun a U => a = #[(.int p1), (.int p2), (.int p3), (.int p4)] ∧ Z.Warmed39 U.vm ∧ U.heap = h0) (fun _ _ _ _ _ => True) (fun _ U o U' => ∃ v L, o = .returned v ∧ Q0 n0 v L ∧ FrameEnd U o U' L 0 0) := by
  refine MetFree.of_bodySF (plainFor_of_name pn_1) hisR ?_
  intro p e s m args below meth c s₁ Bd hml0 hP hK
  obtain ⟨rfl, hZ, hh⟩ := hP
  have hx := Bd.exec
  have hby := Bd.bytes
  have hml : c.maxLocals = 22 := hml0
  have hown : s.vm.findClass "com/example/axangle/axangle/CanonicalSignPinLaw" = some m.cls := findClass_of_methodNamed Bd.named
  have hnm := (name_of_methodNamed Bd.named Bd.method).1
  have X0 : Stand p l e room_1 s m #[(.int p1), (.int p2), (.int p3), (.int p4)] below meth c s₁ [] 0 0 := Stand.of_body Bd
  have e0 : s₁.heap = h0 := by rw [← hh, Bd.state]; rfl
  have N0 := Fr.nil n0
  have pre0 : ∀ t, Steps p.tables e below (s₁.setTop (mkF m 0 #[.val (.int p1), .val (.int p2), .val (.int p3), .val (.int p4), .unset, .unset, .unset, .unset, .unset, .unset, .unset, .unset, .unset, .unset, .unset, .unset, .unset, .unset, .unset, .unset, .unset, .unset] [])) t → Steps p.tables e below (s₁.setTop (entryFrame m #[(.int p1), (.int p2), (.int p3), (.int p4)] maxLocals)) t := fun t k => castTop (ef_0 m p1 p2 p3 p4) k
  obtain ⟨_, _, ⟨Ta1, La1, ka1, na1⟩, -, Xa1, ⟨Lc1, hQ1, l1, y1, z1⟩, st1⟩ := Jvm.LawKit.callS X0 hx (y := (⟨"com/example/axangle/axangle/CanonicalSignPinLaw", "draw", "(I)D"⟩ : MethodName)) hown (mvT hZ (hw _ (List.mem_of_getElem? (i := 0) rfl))) (mvT hZ (hw _ (List.mem_of_getElem? (i := 1) rfl))) (mvT hZ (hw _ (List.mem_of_getElem? (i := 2) rfl))) (mvT hZ (hw _ (List.mem_of_getElem? (i := 3) rfl))) (by decide) (backOf (W := 0) (rm1 l Z a0 hw [] p1 h0 n0) hZ (hw _ (List.mem_of_getElem? (i := 3) rfl)) (hw _ (List.mem_of_getElem? (i := 2) rfl)) (by decide) (by decide)) (g := (mkF m 1 #[.val (.int p1), .val (.int p2), .val (.int p3), .val (.int p4), .unset, .unset, .unset, .unset, .unset, .unset, .unset, .unset, .unset, .unset, .unset, .unset, .unset, .unset, .unset, .unset, .unset, .unset] [(.int p1)])) rfl (by rw [hml]; rfl) (argsL := [(.int p1)]) (rest := []) (lenOf pd_1 rfl) rfl (by show 2 * 0 + _ ≤ _; exact Nat.le_of_eq rfl) (hb hby at_1) (fun _ _ => ⟨rfl, e0, (by decide : 0 + 0 ≤ _), (by decide : 0 + 0 ≤ _)⟩)
  dsimp only [Pt.U, Pt.locs, Pt.cells, Pt.slots] at Xa1 l1 y1 z1 st1 hQ1
  subst l1 y1 z1
  obtain ⟨k1, b1, rfl, i1, m1, Nq1, e1⟩ := hQ1
  have N1 := Fr.app N0 Nq1
  obtain ⟨_, _, ⟨Ta2, La2, ka2, na2⟩, -, Xa2, ⟨Lc2, hQ2, l2, y2, z2⟩, st2⟩ := Jvm.LawKit.callS Xa1 hx (y := (⟨"com/example/axangle/axangle/CanonicalSignPinLaw", "draw", "(I)D"⟩ : MethodName)) hown (mvT hZ (hw _ (List.mem_of_getElem? (i := 0) rfl))) (mvT hZ (hw _ (List.mem_of_getElem? (i := 1) rfl))) (mvT hZ (hw _ (List.mem_of_getElem? (i := 2) rfl))) (mvT hZ (hw _ (List.mem_of_getElem? (i := 3) rfl))) (by decide) (backOf (W := 0) (rm1 l Z a0 hw [] p2 h0 n0) hZ (hw _ (List.mem_of_getElem? (i := 3) rfl)) (hw _ (List.mem_of_getElem? (i := 2) rfl)) (by decide) (by decide)) (g := (mkF m 7 #[.val (.int p1), .val (.int p2), .val (.int p3), .val (.int p4), .val (.double b1), .second, .unset, .unset, .unset, .unset, .unset, .unset, .unset, .unset, .unset, .unset, .unset, .unset, .unset, .unset, .unset, .unset] [(.int p2)])) rfl (by rw [hml]; rfl) (argsL := [(.int p2)]) (rest := []) (lenOf pd_1 rfl) rfl (by show 2 * 0 + _ ≤ _; exact Nat.le_of_eq rfl) (hb hby at_7) (fun _ _ => ⟨rfl, e1, (by decide : 0 + 0 ≤ _), (by decide : 0 + 0 ≤ _)⟩)
  dsimp only [Pt.U, Pt.locs, Pt.cells, Pt.slots] at Xa2 l2 y2 z2 st2 hQ2
  subst l2 y2 z2
  obtain ⟨k2, b2, rfl, i2, m2, Nq2, e2⟩ := hQ2
  have N2 := Fr.app N1 Nq2
  obtain ⟨_, _, ⟨Ta3, La3, ka3, na3⟩, -, Xa3, ⟨Lc3, hQ3, l3, y3, z3⟩, st3⟩ := Jvm.LawKit.callS Xa2 hx (y := (⟨"com/example/axangle/axangle/CanonicalSignPinLaw", "draw", "(I)D"⟩ : MethodName)) hown (mvT hZ (hw _ (List.mem_of_getElem? (i := 0) rfl))) (mvT hZ (hw _ (List.mem_of_getElem? (i := 1) rfl))) (mvT hZ (hw _ (List.mem_of_getElem? (i := 2) rfl))) (mvT hZ (hw _ (List.mem_of_getElem? (i := 3) rfl))) (by decide) (backOf (W := 0) (rm1 l Z a0 hw [] p3 h0 n0) hZ (hw _ (List.mem_of_getElem? (i := 3) rfl)) (hw _ (List.mem_of_getElem? (i := 2) rfl)) (by decide) (by decide)) (g := (mkF m 13 #[.val (.int p1), .val (.int p2), .val (.int p3), .val (.int p4), .val (.double b1), .second, .val (.double b2), .second, .unset, .unset, .unset, .unset, .unset, .unset, .unset, .unset, .unset, .unset, .unset, .unset, .unset, .unset] [(.int p3)])) rfl (by rw [hml]; rfl) (argsL := [(.int p3)]) (rest := []) (lenOf pd_1 rfl) rfl (by show 2 * 0 + _ ≤ _; exact Nat.le_of_eq rfl) (hb hby at_13) (fun _ _ => ⟨rfl, e2, (by decide : 0 + 0 ≤ _), (by decide : 0 + 0 ≤ _)⟩)
  dsimp only [Pt.U, Pt.locs, Pt.cells, Pt.slots] at Xa3 l3 y3 z3 st3 hQ3
  subst l3 y3 z3
  obtain ⟨k3, b3, rfl, i3, m3, Nq3, e3⟩ := hQ3
  have N3 := Fr.app N2 Nq3
  obtain ⟨_, _, ⟨Ta4, La4, ka4, na4⟩, -, Xa4, ⟨Lc4, hQ4, l4, y4, z4⟩, st4⟩ := Jvm.LawKit.callS Xa3 hx (y := (⟨"com/example/axangle/axangle/CanonicalSignPinLaw", "draw", "(I)D"⟩ : MethodName)) hown (mvT hZ (hw _ (List.mem_of_getElem? (i := 0) rfl))) (mvT hZ (hw _ (List.mem_of_getElem? (i := 1) rfl))) (mvT hZ (hw _ (List.mem_of_getElem? (i := 2) rfl))) (mvT hZ (hw _ (List.mem_of_getElem? (i := 3) rfl))) (by decide) (backOf (W := 0) (rm1 l Z a0 hw [] p4 h0 n0) hZ (hw _ (List.mem_of_getElem? (i := 3) rfl)) (hw _ (List.mem_of_getElem? (i := 2) rfl)) (by decide) (by decide)) (g := (mkF m 19 #[.val (.int p1), .val (.int p2), .val (.int p3), .val (.int p4), .val (.double b1), .second, .val (.double b2), .second, .val (.double b3), .second, .unset, .unset, .unset, .unset, .unset, .unset, .unset, .unset, .unset, .unset, .unset, .unset] [(.int p4)])) rfl (by rw [hml]; rfl) (argsL := [(.int p4)]) (rest := []) (lenOf pd_1 rfl) rfl (by show 2 * 0 + _ ≤ _; exact Nat.le_of_eq rfl) (hb hby at_19) (fun _ _ => ⟨rfl, e3, (by decide : 0 + 0 ≤ _), (by decide : 0 + 0 ≤ _)⟩)
  dsimp only [Pt.U, Pt.locs, Pt.cells, Pt.slots] at Xa4 l4 y4 z4 st4 hQ4
  subst l4 y4 z4
  obtain ⟨k4, b4, rfl, i4, m4, Nq4, e4⟩ := hQ4
  have N4 := Fr.app N3 Nq4
  obtain ⟨_, _, ⟨Ta5, La5, ka5, na5⟩, -, Xa5, ⟨Lc5, hQ5, l5, y5, z5⟩, st5⟩ := Jvm.LawKit.callS Xa4 hx (y := (⟨"com/example/axangle/axangle/Canonical", "sign", "(DDDD)D"⟩ : MethodName)) hown (mvT hZ (hw _ (List.mem_of_getElem? (i := 5) rfl))) (mvT hZ (hw _ (List.mem_of_getElem? (i := 6) rfl))) (mvT hZ (hw _ (List.mem_of_getElem? (i := 7) rfl))) (mvT hZ (hw _ (List.mem_of_getElem? (i := 8) rfl))) (by decide) (backOf (W := 0) (rm2 l Z a0 hw [] k1 k2 k3 k4 b1 b2 b3 b4 i1 i2 i3 i4 h0 n0) hZ (hw _ (List.mem_of_getElem? (i := 8) rfl)) (hw _ (List.mem_of_getElem? (i := 7) rfl)) (by decide) (by decide)) (g := (mkF m 32 #[.val (.int p1), .val (.int p2), .val (.int p3), .val (.int p4), .val (.double b1), .second, .val (.double b2), .second, .val (.double b3), .second, .val (.double b4), .second, .unset, .unset, .unset, .unset, .unset, .unset, .unset, .unset, .unset, .unset] [(.double b4), (.double b3), (.double b2), (.double b1)])) rfl (by rw [hml]; rfl) (argsL := [(.double b1), (.double b2), (.double b3), (.double b4)]) (rest := []) (lenOf pd_2 rfl) rfl (by show 2 * 0 + _ ≤ _; exact Nat.le_of_eq rfl) (hb hby at_32) (fun _ _ => ⟨rfl, e4, (by decide : 0 + 0 ≤ _), (by decide : 0 + 0 ≤ _)⟩)
  dsimp only [Pt.U, Pt.locs, Pt.cells, Pt.slots] at Xa5 l5 y5 z5 st5 hQ5
  subst l5 y5 z5
  obtain ⟨rfl, Nq5, e5⟩ := hQ5
  have N5 := Fr.app N4 Nq5
  obtain ⟨g, ig, hg⟩ := own_sg_int (own_first k1 k2 k3 k4)
  generalize own_sg (own_first k1 k2 k3 k4) = sg at st5 ig
  have hg1 : g = -1 ∨ g = 1 := hg.imp And.right And.right
  have road := own_road k1 k2 k3 k4 g hg
  have j1 := own_mul ig i1 (own_abs hg1 m1)
  have j2 := own_mul ig i2 (own_abs hg1 m2)
  have j3 := own_mul ig i3 (own_abs hg1 m3)
  have j4 := own_mul ig i4 (own_abs hg1 m4)
  obtain ⟨fs, hr, hrun, hended, hW, hsame⟩ := Xa5.leave (v := some (.int (1 : Int32))) (fun h => by rw [Bd.returns] at h; cases h)
  refine ⟨_, _, pre0 _ ?_, hrun, hended, _, _, rfl, ⟨rfl, N5⟩, ⟨_, rfl⟩, hW, hsame.mono (by decide) (by decide)⟩
  have t146 : Steps p.tables e below (Ta5.setTop (mkF m 146 #[.val (.int p1), .val (.int p2), .val (.int p3), .val (.int p4), .val (.double b1), .second, .val (.double b2), .second, .val (.double b3), .second, .val (.double b4), .second, .val (.double sg), .second, .val (.double (FP.dmul sg b1)), .second, .val (.double (FP.dmul sg b2)), .second, .val (.double (FP.dmul sg b3)), .second, .val (.double (FP.dmul sg b4)), .second] [])) (Ta5.setFrames fs) := by
    show Steps p.tables e below (Ta5.setTop (mkF m 146 #[.val (.int p1), .val (.int p2), .val (.int p3), .val (.int p4), .val (.double b1), .second, .val (.double b2), .second, .val (.double b3), .second, .val (.double b4), .second, .val (.double sg), .second, .val (.double (FP.dmul sg b1)), .second, .val (.double (FP.dmul sg b2)), .second, .val (.double (FP.dmul sg b3)), .second, .val (.double (FP.dmul sg b4)), .second] [])) _
    refine XS.iconst Xa5.here hx rfl (hb hby at_146) ?_
    show Steps p.tables e below (Ta5.setTop (mkF m 147 #[.val (.int p1), .val (.int p2), .val (.int p3), .val (.int p4), .val (.double b1), .second, .val (.double b2), .second, .val (.double b3), .second, .val (.double b4), .second, .val (.double sg), .second, .val (.double (FP.dmul sg b1)), .second, .val (.double (FP.dmul sg b2)), .second, .val (.double (FP.dmul sg b3)), .second, .val (.double (FP.dmul sg b4)), .second] [(.int (1 : Int32))])) _
    refine XS.goto Xa5.here hx rfl (pc0 := 147) (pc' := 151) rfl (hb hby at_147) (by decide) (by decide) ?_
    show Steps p.tables e below (Ta5.setTop (mkF m 151 #[.val (.int p1), .val (.int p2), .val (.int p3), .val (.int p4), .val (.double b1), .second, .val (.double b2), .second, .val (.double b3), .second, .val (.double b4), .second, .val (.double sg), .second, .val (.double (FP.dmul sg b1)), .second, .val (.double (FP.dmul sg b2)), .second, .val (.double (FP.dmul sg b3)), .second, .val (.double (FP.dmul sg b4)), .second] [(.int (1 : Int32))])) _
    exact retN Xa5 hx (t := .boolean) Bd.returns (by simp) (hb hby at_151) hr
  have t139 : g = 1 → Steps p.tables e below (Ta5.setTop (mkF m 139 #[.val (.int p1), .val (.int p2), .val (.int p3), .val (.int p4), .val (.double b1), .second, .val (.double b2), .second, .val (.double b3), .second, .val (.double b4), .second, .val (.double sg), .second, .val (.double (FP.dmul sg b1)), .second, .val (.double (FP.dmul sg b2)), .second, .val (.double (FP.dmul sg b3)), .second, .val (.double (FP.dmul sg b4)), .second] [])) (Ta5.setFrames fs) := by
    intro hq
    show Steps p.tables e below (Ta5.setTop (mkF m 139 #[.val (.int p1), .val (.int p2), .val (.int p3), .val (.int p4), .val (.double b1), .second, .val (.double b2), .second, .val (.double b3), .second, .val (.double b4), .second, .val (.double sg), .second, .val (.double (FP.dmul sg b1)), .second, .val (.double (FP.dmul sg b2)), .second, .val (.double (FP.dmul sg b3)), .second, .val (.double (FP.dmul sg b4)), .second] [])) _
    refine XS.dload Xa5.here hx rfl (hb hby at_139) rfl ?_
    show Steps p.tables e below (Ta5.setTop (mkF m 141 #[.val (.int p1), .val (.int p2), .val (.int p3), .val (.int p4), .val (.double b1), .second, .val (.double b2), .second, .val (.double b3), .second, .val (.double b4), .second, .val (.double sg), .second, .val (.double (FP.dmul sg b1)), .second, .val (.double (FP.dmul sg b2)), .second, .val (.double (FP.dmul sg b3)), .second, .val (.double (FP.dmul sg b4)), .second] [(.double sg)])) _
    refine XS.dconst1 Xa5.here hx rfl (hb hby at_141) (v := (4607182418800017408 : UInt64)) rfl ?_
    show Steps p.tables e below (Ta5.setTop (mkF m 142 #[.val (.int p1), .val (.int p2), .val (.int p3), .val (.int p4), .val (.double b1), .second, .val (.double b2), .second, .val (.double b3), .second, .val (.double b4), .second, .val (.double sg), .second, .val (.double (FP.dmul sg b1)), .second, .val (.double (FP.dmul sg b2)), .second, .val (.double (FP.dmul sg b3)), .second, .val (.double (FP.dmul sg b4)), .second] [(.double (4607182418800017408 : UInt64)), (.double sg)])) _
    refine XS.dcmpS Xa5.here hx rfl (hb hby at_142) rfl (own_cmp .l ig own_one) ?_
    show Steps p.tables e below (Ta5.setTop (mkF m 143 #[.val (.int p1), .val (.int p2), .val (.int p3), .val (.int p4), .val (.double b1), .second, .val (.double b2), .second, .val (.double b3), .second, .val (.double b4), .second, .val (.double sg), .second, .val (.double (FP.dmul sg b1)), .second, .val (.double (FP.dmul sg b2)), .second, .val (.double (FP.dmul sg b3)), .second, .val (.double (FP.dmul sg b4)), .second] [(.int (own_c g 1))])) _
    refine XS.ifNo Xa5.here hx rfl (hb hby at_143) rfl ((if0 _ _).trans (teq (own_c_eq hq)).2) ?_
    show Steps p.tables e below (Ta5.setTop (mkF m 146 #[.val (.int p1), .val (.int p2), .val (.int p3), .val (.int p4), .val (.double b1), .second, .val (.double b2), .second, .val (.double b3), .second, .val (.double b4), .second, .val (.double sg), .second, .val (.double (FP.dmul sg b1)), .second, .val (.double (FP.dmul sg b2)), .second, .val (.double (FP.dmul sg b3)), .second, .val (.double (FP.dmul sg b4)), .second] [])) _
    exact t146
  have t125 : (0 < g * k4 ∨ (g * k4 = 0 ∧ (g = 1))) → Steps p.tables e below (Ta5.setTop (mkF m 125 #[.val (.int p1), .val (.int p2), .val (.int p3), .val (.int p4), .val (.double b1), .second, .val (.double b2), .second, .val (.double b3), .second, .val (.double b4), .second, .val (.double sg), .second, .val (.double (FP.dmul sg b1)), .second, .val (.double (FP.dmul sg b2)), .second, .val (.double (FP.dmul sg b3)), .second, .val (.double (FP.dmul sg b4)), .second] [])) (Ta5.setFrames fs) := by
    intro hq
    show Steps p.tables e below (Ta5.setTop (mkF m 125 #[.val (.int p1), .val (.int p2), .val (.int p3), .val (.int p4), .val (.double b1), .second, .val (.double b2), .second, .val (.double b3), .second, .val (.double b4), .second, .val (.double sg), .second, .val (.double (FP.dmul sg b1)), .second, .val (.double (FP.dmul sg b2)), .second, .val (.double (FP.dmul sg b3)), .second, .val (.double (FP.dmul sg b4)), .second] [])) _
    refine XS.dload Xa5.here hx rfl (hb hby at_125) rfl ?_
    show Steps p.tables e below (Ta5.setTop (mkF m 127 #[.val (.int p1), .val (.int p2), .val (.int p3), .val (.int p4), .val (.double b1), .second, .val (.double b2), .second, .val (.double b3), .second, .val (.double b4), .second, .val (.double sg), .second, .val (.double (FP.dmul sg b1)), .second, .val (.double (FP.dmul sg b2)), .second, .val (.double (FP.dmul sg b3)), .second, .val (.double (FP.dmul sg b4)), .second] [(.double (FP.dmul sg b4))])) _
    refine XS.dconst0 Xa5.here hx rfl (hb hby at_127) (v := (0 : UInt64)) rfl ?_
    show Steps p.tables e below (Ta5.setTop (mkF m 128 #[.val (.int p1), .val (.int p2), .val (.int p3), .val (.int p4), .val (.double b1), .second, .val (.double b2), .second, .val (.double b3), .second, .val (.double b4), .second, .val (.double sg), .second, .val (.double (FP.dmul sg b1)), .second, .val (.double (FP.dmul sg b2)), .second, .val (.double (FP.dmul sg b3)), .second, .val (.double (FP.dmul sg b4)), .second] [(.double (0 : UInt64)), (.double (FP.dmul sg b4))])) _
    refine XS.dcmpS Xa5.here hx rfl (hb hby at_128) rfl (own_cmp .l j4 own_zero) ?_
    show Steps p.tables e below (Ta5.setTop (mkF m 129 #[.val (.int p1), .val (.int p2), .val (.int p3), .val (.int p4), .val (.double b1), .second, .val (.double b2), .second, .val (.double b3), .second, .val (.double b4), .second, .val (.double sg), .second, .val (.double (FP.dmul sg b1)), .second, .val (.double (FP.dmul sg b2)), .second, .val (.double (FP.dmul sg b3)), .second, .val (.double (FP.dmul sg b4)), .second] [(.int (own_c (g * k4) 0))])) _
    rcases hq with hq | ⟨hz, hq⟩
    · refine XS.ifYes Xa5.here hx rfl (pc0 := 129) (pc' := 146) rfl (hb hby at_129) rfl ((if0 _ _).trans (tlt (own_c_gt hq)).2.2.1) (by decide) (by decide) ?_
      show Steps p.tables e below (Ta5.setTop (mkF m 146 #[.val (.int p1), .val (.int p2), .val (.int p3), .val (.int p4), .val (.double b1), .second, .val (.double b2), .second, .val (.double b3), .second, .val (.double b4), .second, .val (.double sg), .second, .val (.double (FP.dmul sg b1)), .second, .val (.double (FP.dmul sg b2)), .second, .val (.double (FP.dmul sg b3)), .second, .val (.double (FP.dmul sg b4)), .second] [])) _
      exact t146
    · refine XS.ifNo Xa5.here hx rfl (hb hby at_129) rfl ((if0 _ _).trans (flt (own_c_ngt (Int.le_of_eq hz))).2.2.1) ?_
      show Steps p.tables e below (Ta5.setTop (mkF m 132 #[.val (.int p1), .val (.int p2), .val (.int p3), .val (.int p4), .val (.double b1), .second, .val (.double b2), .second, .val (.double b3), .second, .val (.double b4), .second, .val (.double sg), .second, .val (.double (FP.dmul sg b1)), .second, .val (.double (FP.dmul sg b2)), .second, .val (.double (FP.dmul sg b3)), .second, .val (.double (FP.dmul sg b4)), .second] [])) _
      refine XS.dload Xa5.here hx rfl (hb hby at_132) rfl ?_
      show Steps p.tables e below (Ta5.setTop (mkF m 134 #[.val (.int p1), .val (.int p2), .val (.int p3), .val (.int p4), .val (.double b1), .second, .val (.double b2), .second, .val (.double b3), .second, .val (.double b4), .second, .val (.double sg), .second, .val (.double (FP.dmul sg b1)), .second, .val (.double (FP.dmul sg b2)), .second, .val (.double (FP.dmul sg b3)), .second, .val (.double (FP.dmul sg b4)), .second] [(.double (FP.dmul sg b4))])) _
      refine XS.dconst0 Xa5.here hx rfl (hb hby at_134) (v := (0 : UInt64)) rfl ?_
      show Steps p.tables e below (Ta5.setTop (mkF m 135 #[.val (.int p1), .val (.int p2), .val (.int p3), .val (.int p4), .val (.double b1), .second, .val (.double b2), .second, .val (.double b3), .second, .val (.double b4), .second, .val (.double sg), .second, .val (.double (FP.dmul sg b1)), .second, .val (.double (FP.dmul sg b2)), .second, .val (.double (FP.dmul sg b3)), .second, .val (.double (FP.dmul sg b4)), .second] [(.double (0 : UInt64)), (.double (FP.dmul sg b4))])) _
      refine XS.dcmpS Xa5.here hx rfl (hb hby at_135) rfl (own_cmp .l j4 own_zero) ?_
      show Steps p.tables e below (Ta5.setTop (mkF m 136 #[.val (.int p1), .val (.int p2), .val (.int p3), .val (.int p4), .val (.double b1), .second, .val (.double b2), .second, .val (.double b3), .second, .val (.double b4), .second, .val (.double sg), .second, .val (.double (FP.dmul sg b1)), .second, .val (.double (FP.dmul sg b2)), .second, .val (.double (FP.dmul sg b3)), .second, .val (.double (FP.dmul sg b4)), .second] [(.int (own_c (g * k4) 0))])) _
      refine XS.ifNo Xa5.here hx rfl (hb hby at_136) rfl ((if0 _ _).trans (teq (own_c_eq hz)).2) ?_
      show Steps p.tables e below (Ta5.setTop (mkF m 139 #[.val (.int p1), .val (.int p2), .val (.int p3), .val (.int p4), .val (.double b1), .second, .val (.double b2), .second, .val (.double b3), .second, .val (.double b4), .second, .val (.double sg), .second, .val (.double (FP.dmul sg b1)), .second, .val (.double (FP.dmul sg b2)), .second, .val (.double (FP.dmul sg b3)), .second, .val (.double (FP.dmul sg b4)), .second] [])) _
      exact t139 hq
  have t111 : (0 < g * k3 ∨ (g * k3 = 0 ∧ (0 < g * k4 ∨ (g * k4 = 0 ∧ (g = 1))))) → Steps p.tables e below (Ta5.setTop (mkF m 111 #[.val (.int p1), .val (.int p2), .val (.int p3), .val (.int p4), .val (.double b1), .second, .val (.double b2), .second, .val (.double b3), .second, .val (.double b4), .second, .val (.double sg), .second, .val (.double (FP.dmul sg b1)), .second, .val (.double (FP.dmul sg b2)), .second, .val (.double (FP.dmul sg b3)), .second, .val (.double (FP.dmul sg b4)), .second] [])) (Ta5.setFrames fs) := by
    intro hq
    show Steps p.tables e below (Ta5.setTop (mkF m 111 #[.val (.int p1), .val (.int p2), .val (.int p3), .val (.int p4), .val (.double b1), .second, .val (.double b2), .second, .val (.double b3), .second, .val (.double b4), .second, .val (.double sg), .second, .val (.double (FP.dmul sg b1)), .second, .val (.double (FP.dmul sg b2)), .second, .val (.double (FP.dmul sg b3)), .second, .val (.double (FP.dmul sg b4)), .second] [])) _
    refine XS.dload Xa5.here hx rfl (hb hby at_111) rfl ?_
    show Steps p.tables e below (Ta5.setTop (mkF m 113 #[.val (.int p1), .val (.int p2), .val (.int p3), .val (.int p4), .val (.double b1), .second, .val (.double b2), .second, .val (.double b3), .second, .val (.double b4), .second, .val (.double sg), .second, .val (.double (FP.dmul sg b1)), .second, .val (.double (FP.dmul sg b2)), .second, .val (.double (FP.dmul sg b3)), .second, .val (.double (FP.dmul sg b4)), .second] [(.double (FP.dmul sg b3))])) _
    refine XS.dconst0 Xa5.here hx rfl (hb hby at_113) (v := (0 : UInt64)) rfl ?_
    show Steps p.tables e below (Ta5.setTop (mkF m 114 #[.val (.int p1), .val (.int p2), .val (.int p3), .val (.int p4), .val (.double b1), .second, .val (.double b2), .second, .val (.double b3), .second, .val (.double b4), .second, .val (.double sg), .second, .val (.double (FP.dmul sg b1)), .second, .val (.double (FP.dmul sg b2)), .second, .val (.double (FP.dmul sg b3)), .second, .val (.double (FP.dmul sg b4)), .second] [(.double (0 : UInt64)), (.double (FP.dmul sg b3))])) _
    refine XS.dcmpS Xa5.here hx rfl (hb hby at_114) rfl (own_cmp .l j3 own_zero) ?_
    show Steps p.tables e below (Ta5.setTop (mkF m 115 #[.val (.int p1), .val (.int p2), .val (.int p3), .val (.int p4), .val (.double b1), .second, .val (.double b2), .second, .val (.double b3), .second, .val (.double b4), .second, .val (.double sg), .second, .val (.double (FP.dmul sg b1)), .second, .val (.double (FP.dmul sg b2)), .second, .val (.double (FP.dmul sg b3)), .second, .val (.double (FP.dmul sg b4)), .second] [(.int (own_c (g * k3) 0))])) _
    rcases hq with hq | ⟨hz, hq⟩
    · refine XS.ifYes Xa5.here hx rfl (pc0 := 115) (pc' := 146) rfl (hb hby at_115) rfl ((if0 _ _).trans (tlt (own_c_gt hq)).2.2.1) (by decide) (by decide) ?_
      show Steps p.tables e below (Ta5.setTop (mkF m 146 #[.val (.int p1), .val (.int p2), .val (.int p3), .val (.int p4), .val (.double b1), .second, .val (.double b2), .second, .val (.double b3), .second, .val (.double b4), .second, .val (.double sg), .second, .val (.double (FP.dmul sg b1)), .second, .val (.double (FP.dmul sg b2)), .second, .val (.double (FP.dmul sg b3)), .second, .val (.double (FP.dmul sg b4)), .second] [])) _
      exact t146
    · refine XS.ifNo Xa5.here hx rfl (hb hby at_115) rfl ((if0 _ _).trans (flt (own_c_ngt (Int.le_of_eq hz))).2.2.1) ?_
      show Steps p.tables e below (Ta5.setTop (mkF m 118 #[.val (.int p1), .val (.int p2), .val (.int p3), .val (.int p4), .val (.double b1), .second, .val (.double b2), .second, .val (.double b3), .second, .val (.double b4), .second, .val (.double sg), .second, .val (.double (FP.dmul sg b1)), .second, .val (.double (FP.dmul sg b2)), .second, .val (.double (FP.dmul sg b3)), .second, .val (.double (FP.dmul sg b4)), .second] [])) _
      refine XS.dload Xa5.here hx rfl (hb hby at_118) rfl ?_
      show Steps p.tables e below (Ta5.setTop (mkF m 120 #[.val (.int p1), .val (.int p2), .val (.int p3), .val (.int p4), .val (.double b1), .second, .val (.double b2), .second, .val (.double b3), .second, .val (.double b4), .second, .val (.double sg), .second, .val (.double (FP.dmul sg b1)), .second, .val (.double (FP.dmul sg b2)), .second, .val (.double (FP.dmul sg b3)), .second, .val (.double (FP.dmul sg b4)), .second] [(.double (FP.dmul sg b3))])) _
      refine XS.dconst0 Xa5.here hx rfl (hb hby at_120) (v := (0 : UInt64)) rfl ?_
      show Steps p.tables e below (Ta5.setTop (mkF m 121 #[.val (.int p1), .val (.int p2), .val (.int p3), .val (.int p4), .val (.double b1), .second, .val (.double b2), .second, .val (.double b3), .second, .val (.double b4), .second, .val (.double sg), .second, .val (.double (FP.dmul sg b1)), .second, .val (.double (FP.dmul sg b2)), .second, .val (.double (FP.dmul sg b3)), .second, .val (.double (FP.dmul sg b4)), .second] [(.double (0 : UInt64)), (.double (FP.dmul sg b3))])) _
      refine XS.dcmpS Xa5.here hx rfl (hb hby at_121) rfl (own_cmp .l j3 own_zero) ?_
      show Steps p.tables e below (Ta5.setTop (mkF m 122 #[.val (.int p1), .val (.int p2), .val (.int p3), .val (.int p4), .val (.double b1), .second, .val (.double b2), .second, .val (.double b3), .second, .val (.double b4), .second, .val (.double sg), .second, .val (.double (FP.dmul sg b1)), .second, .val (.double (FP.dmul sg b2)), .second, .val (.double (FP.dmul sg b3)), .second, .val (.double (FP.dmul sg b4)), .second] [(.int (own_c (g * k3) 0))])) _
      refine XS.ifNo Xa5.here hx rfl (hb hby at_122) rfl ((if0 _ _).trans (teq (own_c_eq hz)).2) ?_
      show Steps p.tables e below (Ta5.setTop (mkF m 125 #[.val (.int p1), .val (.int p2), .val (.int p3), .val (.int p4), .val (.double b1), .second, .val (.double b2), .second, .val (.double b3), .second, .val (.double b4), .second, .val (.double sg), .second, .val (.double (FP.dmul sg b1)), .second, .val (.double (FP.dmul sg b2)), .second, .val (.double (FP.dmul sg b3)), .second, .val (.double (FP.dmul sg b4)), .second] [])) _
      exact t125 hq
  have t97 : (0 < g * k2 ∨ (g * k2 = 0 ∧ (0 < g * k3 ∨ (g * k3 = 0 ∧ (0 < g * k4 ∨ (g * k4 = 0 ∧ (g = 1))))))) → Steps p.tables e below (Ta5.setTop (mkF m 97 #[.val (.int p1), .val (.int p2), .val (.int p3), .val (.int p4), .val (.double b1), .second, .val (.double b2), .second, .val (.double b3), .second, .val (.double b4), .second, .val (.double sg), .second, .val (.double (FP.dmul sg b1)), .second, .val (.double (FP.dmul sg b2)), .second, .val (.double (FP.dmul sg b3)), .second, .val (.double (FP.dmul sg b4)), .second] [])) (Ta5.setFrames fs) := by
    intro hq
    show Steps p.tables e below (Ta5.setTop (mkF m 97 #[.val (.int p1), .val (.int p2), .val (.int p3), .val (.int p4), .val (.double b1), .second, .val (.double b2), .second, .val (.double b3), .second, .val (.double b4), .second, .val (.double sg), .second, .val (.double (FP.dmul sg b1)), .second, .val (.double (FP.dmul sg b2)), .second, .val (.double (FP.dmul sg b3)), .second, .val (.double (FP.dmul sg b4)), .second] [])) _
    refine XS.dload Xa5.here hx rfl (hb hby at_97) rfl ?_
    show Steps p.tables e below (Ta5.setTop (mkF m 99 #[.val (.int p1), .val (.int p2), .val (.int p3), .val (.int p4), .val (.double b1), .second, .val (.double b2), .second, .val (.double b3), .second, .val (.double b4), .second, .val (.double sg), .second, .val (.double (FP.dmul sg b1)), .second, .val (.double (FP.dmul sg b2)), .second, .val (.double (FP.dmul sg b3)), .second, .val (.double (FP.dmul sg b4)), .second] [(.double (FP.dmul sg b2))])) _
    refine XS.dconst0 Xa5.here hx rfl (hb hby at_99) (v := (0 : UInt64)) rfl ?_
    show Steps p.tables e below (Ta5.setTop (mkF m 100 #[.val (.int p1), .val (.int p2), .val (.int p3), .val (.int p4), .val (.double b1), .second, .val (.double b2), .second, .val (.double b3), .second, .val (.double b4), .second, .val (.double sg), .second, .val (.double (FP.dmul sg b1)), .second, .val (.double (FP.dmul sg b2)), .second, .val (.double (FP.dmul sg b3)), .second, .val (.double (FP.dmul sg b4)), .second] [(.double (0 : UInt64)), (.double (FP.dmul sg b2))])) _
    refine XS.dcmpS Xa5.here hx rfl (hb hby at_100) rfl (own_cmp .l j2 own_zero) ?_
    show Steps p.tables e below (Ta5.setTop (mkF m 101 #[.val (.int p1), .val (.int p2), .val (.int p3), .val (.int p4), .val (.double b1), .second, .val (.double b2), .second, .val (.double b3), .second, .val (.double b4), .second, .val (.double sg), .second, .val (.double (FP.dmul sg b1)), .second, .val (.double (FP.dmul sg b2)), .second, .val (.double (FP.dmul sg b3)), .second, .val (.double (FP.dmul sg b4)), .second] [(.int (own_c (g * k2) 0))])) _
    rcases hq with hq | ⟨hz, hq⟩
    · refine XS.ifYes Xa5.here hx rfl (pc0 := 101) (pc' := 146) rfl (hb hby at_101) rfl ((if0 _ _).trans (tlt (own_c_gt hq)).2.2.1) (by decide) (by decide) ?_
      show Steps p.tables e below (Ta5.setTop (mkF m 146 #[.val (.int p1), .val (.int p2), .val (.int p3), .val (.int p4), .val (.double b1), .second, .val (.double b2), .second, .val (.double b3), .second, .val (.double b4), .second, .val (.double sg), .second, .val (.double (FP.dmul sg b1)), .second, .val (.double (FP.dmul sg b2)), .second, .val (.double (FP.dmul sg b3)), .second, .val (.double (FP.dmul sg b4)), .second] [])) _
      exact t146
    · refine XS.ifNo Xa5.here hx rfl (hb hby at_101) rfl ((if0 _ _).trans (flt (own_c_ngt (Int.le_of_eq hz))).2.2.1) ?_
      show Steps p.tables e below (Ta5.setTop (mkF m 104 #[.val (.int p1), .val (.int p2), .val (.int p3), .val (.int p4), .val (.double b1), .second, .val (.double b2), .second, .val (.double b3), .second, .val (.double b4), .second, .val (.double sg), .second, .val (.double (FP.dmul sg b1)), .second, .val (.double (FP.dmul sg b2)), .second, .val (.double (FP.dmul sg b3)), .second, .val (.double (FP.dmul sg b4)), .second] [])) _
      refine XS.dload Xa5.here hx rfl (hb hby at_104) rfl ?_
      show Steps p.tables e below (Ta5.setTop (mkF m 106 #[.val (.int p1), .val (.int p2), .val (.int p3), .val (.int p4), .val (.double b1), .second, .val (.double b2), .second, .val (.double b3), .second, .val (.double b4), .second, .val (.double sg), .second, .val (.double (FP.dmul sg b1)), .second, .val (.double (FP.dmul sg b2)), .second, .val (.double (FP.dmul sg b3)), .second, .val (.double (FP.dmul sg b4)), .second] [(.double (FP.dmul sg b2))])) _
      refine XS.dconst0 Xa5.here hx rfl (hb hby at_106) (v := (0 : UInt64)) rfl ?_
      show Steps p.tables e below (Ta5.setTop (mkF m 107 #[.val (.int p1), .val (.int p2), .val (.int p3), .val (.int p4), .val (.double b1), .second, .val (.double b2), .second, .val (.double b3), .second, .val (.double b4), .second, .val (.double sg), .second, .val (.double (FP.dmul sg b1)), .second, .val (.double (FP.dmul sg b2)), .second, .val (.double (FP.dmul sg b3)), .second, .val (.double (FP.dmul sg b4)), .second] [(.double (0 : UInt64)), (.double (FP.dmul sg b2))])) _
      refine XS.dcmpS Xa5.here hx rfl (hb hby at_107) rfl (own_cmp .l j2 own_zero) ?_
      show Steps p.tables e below (Ta5.setTop (mkF m 108 #[.val (.int p1), .val (.int p2), .val (.int p3), .val (.int p4), .val (.double b1), .second, .val (.double b2), .second, .val (.double b3), .second, .val (.double b4), .second, .val (.double sg), .second, .val (.double (FP.dmul sg b1)), .second, .val (.double (FP.dmul sg b2)), .second, .val (.double (FP.dmul sg b3)), .second, .val (.double (FP.dmul sg b4)), .second] [(.int (own_c (g * k2) 0))])) _
      refine XS.ifNo Xa5.here hx rfl (hb hby at_108) rfl ((if0 _ _).trans (teq (own_c_eq hz)).2) ?_
      show Steps p.tables e below (Ta5.setTop (mkF m 111 #[.val (.int p1), .val (.int p2), .val (.int p3), .val (.int p4), .val (.double b1), .second, .val (.double b2), .second, .val (.double b3), .second, .val (.double b4), .second, .val (.double sg), .second, .val (.double (FP.dmul sg b1)), .second, .val (.double (FP.dmul sg b2)), .second, .val (.double (FP.dmul sg b3)), .second, .val (.double (FP.dmul sg b4)), .second] [])) _
      exact t111 hq
  have t83 : (0 < g * k1 ∨ (g * k1 = 0 ∧ (0 < g * k2 ∨ (g * k2 = 0 ∧ (0 < g * k3 ∨ (g * k3 = 0 ∧ (0 < g * k4 ∨ (g * k4 = 0 ∧ (g = 1))))))))) → Steps p.tables e below (Ta5.setTop (mkF m 83 #[.val (.int p1), .val (.int p2), .val (.int p3), .val (.int p4), .val (.double b1), .second, .val (.double b2), .second, .val (.double b3), .second, .val (.double b4), .second, .val (.double sg), .second, .val (.double (FP.dmul sg b1)), .second, .val (.double (FP.dmul sg b2)), .second, .val (.double (FP.dmul sg b3)), .second, .val (.double (FP.dmul sg b4)), .second] [])) (Ta5.setFrames fs) := by
    intro hq
    show Steps p.tables e below (Ta5.setTop (mkF m 83 #[.val (.int p1), .val (.int p2), .val (.int p3), .val (.int p4), .val (.double b1), .second, .val (.double b2), .second, .val (.double b3), .second, .val (.double b4), .second, .val (.double sg), .second, .val (.double (FP.dmul sg b1)), .second, .val (.double (FP.dmul sg b2)), .second, .val (.double (FP.dmul sg b3)), .second, .val (.double (FP.dmul sg b4)), .second] [])) _
    refine XS.dload Xa5.here hx rfl (hb hby at_83) rfl ?_
    show Steps p.tables e below (Ta5.setTop (mkF m 85 #[.val (.int p1), .val (.int p2), .val (.int p3), .val (.int p4), .val (.double b1), .second, .val (.double b2), .second, .val (.double b3), .second, .val (.double b4), .second, .val (.double sg), .second, .val (.double (FP.dmul sg b1)), .second, .val (.double (FP.dmul sg b2)), .second, .val (.double (FP.dmul sg b3)), .second, .val (.double (FP.dmul sg b4)), .second] [(.double (FP.dmul sg b1))])) _
    refine XS.dconst0 Xa5.here hx rfl (hb hby at_85) (v := (0 : UInt64)) rfl ?_
    show Steps p.tables e below (Ta5.setTop (mkF m 86 #[.val (.int p1), .val (.int p2), .val (.int p3), .val (.int p4), .val (.double b1), .second, .val (.double b2), .second, .val (.double b3), .second, .val (.double b4), .second, .val (.double sg), .second, .val (.double (FP.dmul sg b1)), .second, .val (.double (FP.dmul sg b2)), .second, .val (.double (FP.dmul sg b3)), .second, .val (.double (FP.dmul sg b4)), .second] [(.double (0 : UInt64)), (.double (FP.dmul sg b1))])) _
    refine XS.dcmpS Xa5.here hx rfl (hb hby at_86) rfl (own_cmp .l j1 own_zero) ?_
    show Steps p.tables e below (Ta5.setTop (mkF m 87 #[.val (.int p1), .val (.int p2), .val (.int p3), .val (.int p4), .val (.double b1), .second, .val (.double b2), .second, .val (.double b3), .second, .val (.double b4), .second, .val (.double sg), .second, .val (.double (FP.dmul sg b1)), .second, .val (.double (FP.dmul sg b2)), .second, .val (.double (FP.dmul sg b3)), .second, .val (.double (FP.dmul sg b4)), .second] [(.int (own_c (g * k1) 0))])) _
    rcases hq with hq | ⟨hz, hq⟩
    · refine XS.ifYes Xa5.here hx rfl (pc0 := 87) (pc' := 146) rfl (hb hby at_87) rfl ((if0 _ _).trans (tlt (own_c_gt hq)).2.2.1) (by decide) (by decide) ?_
      show Steps p.tables e below (Ta5.setTop (mkF m 146 #[.val (.int p1), .val (.int p2), .val (.int p3), .val (.int p4), .val (.double b1), .second, .val (.double b2), .second, .val (.double b3), .second, .val (.double b4), .second, .val (.double sg), .second, .val (.double (FP.dmul sg b1)), .second, .val (.double (FP.dmul sg b2)), .second, .val (.double (FP.dmul sg b3)), .second, .val (.double (FP.dmul sg b4)), .second] [])) _
      exact t146
    · refine XS.ifNo Xa5.here hx rfl (hb hby at_87) rfl ((if0 _ _).trans (flt (own_c_ngt (Int.le_of_eq hz))).2.2.1) ?_
      show Steps p.tables e below (Ta5.setTop (mkF m 90 #[.val (.int p1), .val (.int p2), .val (.int p3), .val (.int p4), .val (.double b1), .second, .val (.double b2), .second, .val (.double b3), .second, .val (.double b4), .second, .val (.double sg), .second, .val (.double (FP.dmul sg b1)), .second, .val (.double (FP.dmul sg b2)), .second, .val (.double (FP.dmul sg b3)), .second, .val (.double (FP.dmul sg b4)), .second] [])) _
      refine XS.dload Xa5.here hx rfl (hb hby at_90) rfl ?_
      show Steps p.tables e below (Ta5.setTop (mkF m 92 #[.val (.int p1), .val (.int p2), .val (.int p3), .val (.int p4), .val (.double b1), .second, .val (.double b2), .second, .val (.double b3), .second, .val (.double b4), .second, .val (.double sg), .second, .val (.double (FP.dmul sg b1)), .second, .val (.double (FP.dmul sg b2)), .second, .val (.double (FP.dmul sg b3)), .second, .val (.double (FP.dmul sg b4)), .second] [(.double (FP.dmul sg b1))])) _
      refine XS.dconst0 Xa5.here hx rfl (hb hby at_92) (v := (0 : UInt64)) rfl ?_
      show Steps p.tables e below (Ta5.setTop (mkF m 93 #[.val (.int p1), .val (.int p2), .val (.int p3), .val (.int p4), .val (.double b1), .second, .val (.double b2), .second, .val (.double b3), .second, .val (.double b4), .second, .val (.double sg), .second, .val (.double (FP.dmul sg b1)), .second, .val (.double (FP.dmul sg b2)), .second, .val (.double (FP.dmul sg b3)), .second, .val (.double (FP.dmul sg b4)), .second] [(.double (0 : UInt64)), (.double (FP.dmul sg b1))])) _
      refine XS.dcmpS Xa5.here hx rfl (hb hby at_93) rfl (own_cmp .l j1 own_zero) ?_
      show Steps p.tables e below (Ta5.setTop (mkF m 94 #[.val (.int p1), .val (.int p2), .val (.int p3), .val (.int p4), .val (.double b1), .second, .val (.double b2), .second, .val (.double b3), .second, .val (.double b4), .second, .val (.double sg), .second, .val (.double (FP.dmul sg b1)), .second, .val (.double (FP.dmul sg b2)), .second, .val (.double (FP.dmul sg b3)), .second, .val (.double (FP.dmul sg b4)), .second] [(.int (own_c (g * k1) 0))])) _
      refine XS.ifNo Xa5.here hx rfl (hb hby at_94) rfl ((if0 _ _).trans (teq (own_c_eq hz)).2) ?_
      show Steps p.tables e below (Ta5.setTop (mkF m 97 #[.val (.int p1), .val (.int p2), .val (.int p3), .val (.int p4), .val (.double b1), .second, .val (.double b2), .second, .val (.double b3), .second, .val (.double b4), .second, .val (.double sg), .second, .val (.double (FP.dmul sg b1)), .second, .val (.double (FP.dmul sg b2)), .second, .val (.double (FP.dmul sg b3)), .second, .val (.double (FP.dmul sg b4)), .second] [])) _
      exact t97 hq
  have t55 : Steps p.tables e below (Ta5.setTop (mkF m 55 #[.val (.int p1), .val (.int p2), .val (.int p3), .val (.int p4), .val (.double b1), .second, .val (.double b2), .second, .val (.double b3), .second, .val (.double b4), .second, .val (.double sg), .second, .unset, .unset, .unset, .unset, .unset, .unset, .unset, .unset] [])) (Ta5.setFrames fs) := by
    show Steps p.tables e below (Ta5.setTop (mkF m 55 #[.val (.int p1), .val (.int p2), .val (.int p3), .val (.int p4), .val (.double b1), .second, .val (.double b2), .second, .val (.double b3), .second, .val (.double b4), .second, .val (.double sg), .second, .unset, .unset, .unset, .unset, .unset, .unset, .unset, .unset] [])) _
    refine XS.dload Xa5.here hx rfl (hb hby at_55) rfl ?_
    show Steps p.tables e below (Ta5.setTop (mkF m 57 #[.val (.int p1), .val (.int p2), .val (.int p3), .val (.int p4), .val (.double b1), .second, .val (.double b2), .second, .val (.double b3), .second, .val (.double b4), .second, .val (.double sg), .second, .unset, .unset, .unset, .unset, .unset, .unset, .unset, .unset] [(.double sg)])) _
    refine XS.dload Xa5.here hx rfl (hb hby at_57) rfl ?_
    show Steps p.tables e below (Ta5.setTop (mkF m 59 #[.val (.int p1), .val (.int p2), .val (.int p3), .val (.int p4), .val (.double b1), .second, .val (.double b2), .second, .val (.double b3), .second, .val (.double b4), .second, .val (.double sg), .second, .unset, .unset, .unset, .unset, .unset, .unset, .unset, .unset] [(.double b1), (.double sg)])) _
    refine XS.dmulS Xa5.here hx rfl (hb hby at_59) rfl (own_num j1) rfl ?_
    show Steps p.tables e below (Ta5.setTop (mkF m 60 #[.val (.int p1), .val (.int p2), .val (.int p3), .val (.int p4), .val (.double b1), .second, .val (.double b2), .second, .val (.double b3), .second, .val (.double b4), .second, .val (.double sg), .second, .unset, .unset, .unset, .unset, .unset, .unset, .unset, .unset] [(.double (FP.dmul sg b1))])) _
    refine XS.dstore Xa5.here hx rfl (hb hby at_60) rfl (l' := #[.val (.int p1), .val (.int p2), .val (.int p3), .val (.int p4), .val (.double b1), .second, .val (.double b2), .second, .val (.double b3), .second, .val (.double b4), .second, .val (.double sg), .second, .val (.double (FP.dmul sg b1)), .second, .unset, .unset, .unset, .unset, .unset, .unset]) rfl ?_
    show Steps p.tables e below (Ta5.setTop (mkF m 62 #[.val (.int p1), .val (.int p2), .val (.int p3), .val (.int p4), .val (.double b1), .second, .val (.double b2), .second, .val (.double b3), .second, .val (.double b4), .second, .val (.double sg), .second, .val (.double (FP.dmul sg b1)), .second, .unset, .unset, .unset, .unset, .unset, .unset] [])) _
    refine XS.dload Xa5.here hx rfl (hb hby at_62) rfl ?_
    show Steps p.tables e below (Ta5.setTop (mkF m 64 #[.val (.int p1), .val (.int p2), .val (.int p3), .val (.int p4), .val (.double b1), .second, .val (.double b2), .second, .val (.double b3), .second, .val (.double b4), .second, .val (.double sg), .second, .val (.double (FP.dmul sg b1)), .second, .unset, .unset, .unset, .unset, .unset, .unset] [(.double sg)])) _
    refine XS.dload Xa5.here hx rfl (hb hby at_64) rfl ?_
    show Steps p.tables e below (Ta5.setTop (mkF m 66 #[.val (.int p1), .val (.int p2), .val (.int p3), .val (.int p4), .val (.double b1), .second, .val (.double b2), .second, .val (.double b3), .second, .val (.double b4), .second, .val (.double sg), .second, .val (.double (FP.dmul sg b1)), .second, .unset, .unset, .unset, .unset, .unset, .unset] [(.double b2), (.double sg)])) _
    refine XS.dmulS Xa5.here hx rfl (hb hby at_66) rfl (own_num j2) rfl ?_
    show Steps p.tables e below (Ta5.setTop (mkF m 67 #[.val (.int p1), .val (.int p2), .val (.int p3), .val (.int p4), .val (.double b1), .second, .val (.double b2), .second, .val (.double b3), .second, .val (.double b4), .second, .val (.double sg), .second, .val (.double (FP.dmul sg b1)), .second, .unset, .unset, .unset, .unset, .unset, .unset] [(.double (FP.dmul sg b2))])) _
    refine XS.dstore Xa5.here hx rfl (hb hby at_67) rfl (l' := #[.val (.int p1), .val (.int p2), .val (.int p3), .val (.int p4), .val (.double b1), .second, .val (.double b2), .second, .val (.double b3), .second, .val (.double b4), .second, .val (.double sg), .second, .val (.double (FP.dmul sg b1)), .second, .val (.double (FP.dmul sg b2)), .second, .unset, .unset, .unset, .unset]) rfl ?_
    show Steps p.tables e below (Ta5.setTop (mkF m 69 #[.val (.int p1), .val (.int p2), .val (.int p3), .val (.int p4), .val (.double b1), .second, .val (.double b2), .second, .val (.double b3), .second, .val (.double b4), .second, .val (.double sg), .second, .val (.double (FP.dmul sg b1)), .second, .val (.double (FP.dmul sg b2)), .second, .unset, .unset, .unset, .unset] [])) _
    refine XS.dload Xa5.here hx rfl (hb hby at_69) rfl ?_
    show Steps p.tables e below (Ta5.setTop (mkF m 71 #[.val (.int p1), .val (.int p2), .val (.int p3), .val (.int p4), .val (.double b1), .second, .val (.double b2), .second, .val (.double b3), .second, .val (.double b4), .second, .val (.double sg), .second, .val (.double (FP.dmul sg b1)), .second, .val (.double (FP.dmul sg b2)), .second, .unset, .unset, .unset, .unset] [(.double sg)])) _
    refine XS.dload Xa5.here hx rfl (hb hby at_71) rfl ?_
    show Steps p.tables e below (Ta5.setTop (mkF m 73 #[.val (.int p1), .val (.int p2), .val (.int p3), .val (.int p4), .val (.double b1), .second, .val (.double b2), .second, .val (.double b3), .second, .val (.double b4), .second, .val (.double sg), .second, .val (.double (FP.dmul sg b1)), .second, .val (.double (FP.dmul sg b2)), .second, .unset, .unset, .unset, .unset] [(.double b3), (.double sg)])) _
    refine XS.dmulS Xa5.here hx rfl (hb hby at_73) rfl (own_num j3) rfl ?_
    show Steps p.tables e below (Ta5.setTop (mkF m 74 #[.val (.int p1), .val (.int p2), .val (.int p3), .val (.int p4), .val (.double b1), .second, .val (.double b2), .second, .val (.double b3), .second, .val (.double b4), .second, .val (.double sg), .second, .val (.double (FP.dmul sg b1)), .second, .val (.double (FP.dmul sg b2)), .second, .unset, .unset, .unset, .unset] [(.double (FP.dmul sg b3))])) _
    refine XS.dstore Xa5.here hx rfl (hb hby at_74) rfl (l' := #[.val (.int p1), .val (.int p2), .val (.int p3), .val (.int p4), .val (.double b1), .second, .val (.double b2), .second, .val (.double b3), .second, .val (.double b4), .second, .val (.double sg), .second, .val (.double (FP.dmul sg b1)), .second, .val (.double (FP.dmul sg b2)), .second, .val (.double (FP.dmul sg b3)), .second, .unset, .unset]) rfl ?_
    show Steps p.tables e below (Ta5.setTop (mkF m 76 #[.val (.int p1), .val (.int p2), .val (.int p3), .val (.int p4), .val (.double b1), .second, .val (.double b2), .second, .val (.double b3), .second, .val (.double b4), .second, .val (.double sg), .second, .val (.double (FP.dmul sg b1)), .second, .val (.double (FP.dmul sg b2)), .second, .val (.double (FP.dmul sg b3)), .second, .unset, .unset] [])) _
    refine XS.dload Xa5.here hx rfl (hb hby at_76) rfl ?_
    show Steps p.tables e below (Ta5.setTop (mkF m 78 #[.val (.int p1), .val (.int p2), .val (.int p3), .val (.int p4), .val (.double b1), .second, .val (.double b2), .second, .val (.double b3), .second, .val (.double b4), .second, .val (.double sg), .second, .val (.double (FP.dmul sg b1)), .second, .val (.double (FP.dmul sg b2)), .second, .val (.double (FP.dmul sg b3)), .second, .unset, .unset] [(.double sg)])) _
    refine XS.dload Xa5.here hx rfl (hb hby at_78) rfl ?_
    show Steps p.tables e below (Ta5.setTop (mkF m 80 #[.val (.int p1), .val (.int p2), .val (.int p3), .val (.int p4), .val (.double b1), .second, .val (.double b2), .second, .val (.double b3), .second, .val (.double b4), .second, .val (.double sg), .second, .val (.double (FP.dmul sg b1)), .second, .val (.double (FP.dmul sg b2)), .second, .val (.double (FP.dmul sg b3)), .second, .unset, .unset] [(.double b4), (.double sg)])) _
    refine XS.dmulS Xa5.here hx rfl (hb hby at_80) rfl (own_num j4) rfl ?_
    show Steps p.tables e below (Ta5.setTop (mkF m 81 #[.val (.int p1), .val (.int p2), .val (.int p3), .val (.int p4), .val (.double b1), .second, .val (.double b2), .second, .val (.double b3), .second, .val (.double b4), .second, .val (.double sg), .second, .val (.double (FP.dmul sg b1)), .second, .val (.double (FP.dmul sg b2)), .second, .val (.double (FP.dmul sg b3)), .second, .unset, .unset] [(.double (FP.dmul sg b4))])) _
    refine XS.dstore Xa5.here hx rfl (hb hby at_81) rfl (l' := #[.val (.int p1), .val (.int p2), .val (.int p3), .val (.int p4), .val (.double b1), .second, .val (.double b2), .second, .val (.double b3), .second, .val (.double b4), .second, .val (.double sg), .second, .val (.double (FP.dmul sg b1)), .second, .val (.double (FP.dmul sg b2)), .second, .val (.double (FP.dmul sg b3)), .second, .val (.double (FP.dmul sg b4)), .second]) rfl ?_
    show Steps p.tables e below (Ta5.setTop (mkF m 83 #[.val (.int p1), .val (.int p2), .val (.int p3), .val (.int p4), .val (.double b1), .second, .val (.double b2), .second, .val (.double b3), .second, .val (.double b4), .second, .val (.double sg), .second, .val (.double (FP.dmul sg b1)), .second, .val (.double (FP.dmul sg b2)), .second, .val (.double (FP.dmul sg b3)), .second, .val (.double (FP.dmul sg b4)), .second] [])) _
    exact t83 road
  show Steps p.tables e below (s₁.setTop (mkF m 0 #[.val (.int p1), .val (.int p2), .val (.int p3), .val (.int p4), .unset, .unset, .unset, .unset, .unset, .unset, .unset, .unset, .unset, .unset, .unset, .unset, .unset, .unset, .unset, .unset, .unset, .unset] [])) _
  refine XS.iloadN X0.here hx rfl (hb hby at_0) rfl ?_
  show Steps p.tables e below (s₁.setTop (mkF m 1 #[.val (.int p1), .val (.int p2), .val (.int p3), .val (.int p4), .unset, .unset, .unset, .unset, .unset, .unset, .unset, .unset, .unset, .unset, .unset, .unset, .unset, .unset, .unset, .unset, .unset, .unset] [(.int p1)])) _
  refine st1 _ ?_
  show Steps p.tables e below (Ta1.setTop (mkF m 4 #[.val (.int p1), .val (.int p2), .val (.int p3), .val (.int p4), .unset, .unset, .unset, .unset, .unset, .unset, .unset, .unset, .unset, .unset, .unset, .unset, .unset, .unset, .unset, .unset, .unset, .unset] [(.double b1)])) _
  refine XS.dstore Xa1.here hx rfl (hb hby at_4) rfl (l' := #[.val (.int p1), .val (.int p2), .val (.int p3), .val (.int p4), .val (.double b1), .second, .unset, .unset, .unset, .unset, .unset, .unset, .unset, .unset, .unset, .unset, .unset, .unset, .unset, .unset, .unset, .unset]) rfl ?_
  show Steps p.tables e below (Ta1.setTop (mkF m 6 #[.val (.int p1), .val (.int p2), .val (.int p3), .val (.int p4), .val (.double b1), .second, .unset, .unset, .unset, .unset, .unset, .unset, .unset, .unset, .unset, .unset, .unset, .unset, .unset, .unset, .unset, .unset] [])) _
  refine XS.iloadN Xa1.here hx rfl (hb hby at_6) rfl ?_
  show Steps p.tables e below (Ta1.setTop (mkF m 7 #[.val (.int p1), .val (.int p2), .val (.int p3), .val (.int p4), .val (.double b1), .second, .unset, .unset, .unset, .unset, .unset, .unset, .unset, .unset, .unset, .unset, .unset, .unset, .unset, .unset, .unset, .unset] [(.int p2)])) _
  refine st2 _ ?_
  show Steps p.tables e below (Ta2.setTop (mkF m 10 #[.val (.int p1), .val (.int p2), .val (.int p3), .val (.int p4), .val (.double b1), .second, .unset, .unset, .unset, .unset, .unset, .unset, .unset, .unset, .unset, .unset, .unset, .unset, .unset, .unset, .unset, .unset] [(.double b2)])) _
  refine XS.dstore Xa2.here hx rfl (hb hby at_10) rfl (l' := #[.val (.int p1), .val (.int p2), .val (.int p3), .val (.int p4), .val (.double b1), .second, .val (.double b2), .second, .unset, .unset, .unset, .unset, .unset, .unset, .unset, .unset, .unset, .unset, .unset, .unset, .unset, .unset]) rfl ?_
  show Steps p.tables e below (Ta2.setTop (mkF m 12 #[.val (.int p1), .val (.int p2), .val (.int p3), .val (.int p4), .val (.double b1), .second, .val (.double b2), .second, .unset, .unset, .unset, .unset, .unset, .unset, .unset, .unset, .unset, .unset, .unset, .unset, .unset, .unset] [])) _
  refine XS.iloadN Xa2.here hx rfl (hb hby at_12) rfl ?_
  show Steps p.tables e below (Ta2.setTop (mkF m 13 #[.val (.int p1), .val (.int p2), .val (.int p3), .val (.int p4), .val (.double b1), .second, .val (.double b2), .second, .unset, .unset, .unset, .unset, .unset, .unset, .unset, .unset, .unset, .unset, .unset, .unset, .unset, .unset] [(.int p3)])) _
  refine st3 _ ?_
  show Steps p.tables e below (Ta3.setTop (mkF m 16 #[.val (.int p1), .val (.int p2), .val (.int p3), .val (.int p4), .val (.double b1), .second, .val (.double b2), .second, .unset, .unset, .unset, .unset, .unset, .unset, .unset, .unset, .unset, .unset, .unset, .unset, .unset, .unset] [(.double b3)])) _
  refine XS.dstore Xa3.here hx rfl (hb hby at_16) rfl (l' := #[.val (.int p1), .val (.int p2), .val (.int p3), .val (.int p4), .val (.double b1), .second, .val (.double b2), .second, .val (.double b3), .second, .unset, .unset, .unset, .unset, .unset, .unset, .unset, .unset, .unset, .unset, .unset, .unset]) rfl ?_
  show Steps p.tables e below (Ta3.setTop (mkF m 18 #[.val (.int p1), .val (.int p2), .val (.int p3), .val (.int p4), .val (.double b1), .second, .val (.double b2), .second, .val (.double b3), .second, .unset, .unset, .unset, .unset, .unset, .unset, .unset, .unset, .unset, .unset, .unset, .unset] [])) _
  refine XS.iloadN Xa3.here hx rfl (hb hby at_18) rfl ?_
  show Steps p.tables e below (Ta3.setTop (mkF m 19 #[.val (.int p1), .val (.int p2), .val (.int p3), .val (.int p4), .val (.double b1), .second, .val (.double b2), .second, .val (.double b3), .second, .unset, .unset, .unset, .unset, .unset, .unset, .unset, .unset, .unset, .unset, .unset, .unset] [(.int p4)])) _
  refine st4 _ ?_
  show Steps p.tables e below (Ta4.setTop (mkF m 22 #[.val (.int p1), .val (.int p2), .val (.int p3), .val (.int p4), .val (.double b1), .second, .val (.double b2), .second, .val (.double b3), .second, .unset, .unset, .unset, .unset, .unset, .unset, .unset, .unset, .unset, .unset, .unset, .unset] [(.double b4)])) _
  refine XS.dstore Xa4.here hx rfl (hb hby at_22) rfl (l' := #[.val (.int p1), .val (.int p2), .val (.int p3), .val (.int p4), .val (.double b1), .second, .val (.double b2), .second, .val (.double b3), .second, .val (.double b4), .second, .unset, .unset, .unset, .unset, .unset, .unset, .unset, .unset, .unset, .unset]) rfl ?_
  show Steps p.tables e below (Ta4.setTop (mkF m 24 #[.val (.int p1), .val (.int p2), .val (.int p3), .val (.int p4), .val (.double b1), .second, .val (.double b2), .second, .val (.double b3), .second, .val (.double b4), .second, .unset, .unset, .unset, .unset, .unset, .unset, .unset, .unset, .unset, .unset] [])) _
  refine XS.dload Xa4.here hx rfl (hb hby at_24) rfl ?_
  show Steps p.tables e below (Ta4.setTop (mkF m 26 #[.val (.int p1), .val (.int p2), .val (.int p3), .val (.int p4), .val (.double b1), .second, .val (.double b2), .second, .val (.double b3), .second, .val (.double b4), .second, .unset, .unset, .unset, .unset, .unset, .unset, .unset, .unset, .unset, .unset] [(.double b1)])) _
  refine XS.dload Xa4.here hx rfl (hb hby at_26) rfl ?_
  show Steps p.tables e below (Ta4.setTop (mkF m 28 #[.val (.int p1), .val (.int p2), .val (.int p3), .val (.int p4), .val (.double b1), .second, .val (.double b2), .second, .val (.double b3), .second, .val (.double b4), .second, .unset, .unset, .unset, .unset, .unset, .unset, .unset, .unset, .unset, .unset] [(.double b2), (.double b1)])) _
  refine XS.dload Xa4.here hx rfl (hb hby at_28) rfl ?_
  show Steps p.tables e below (Ta4.setTop (mkF m 30 #[.val (.int p1), .val (.int p2), .val (.int p3), .val (.int p4), .val (.double b1), .second, .val (.double b2), .second, .val (.double b3), .second, .val (.double b4), .second, .unset, .unset, .unset, .unset, .unset, .unset, .unset, .unset, .unset, .unset] [(.double b3), (.double b2), (.double b1)])) _
  refine XS.dload Xa4.here hx rfl (hb hby at_30) rfl ?_
  show Steps p.tables e below (Ta4.setTop (mkF m 32 #[.val (.int p1), .val (.int p2), .val (.int p3), .val (.int p4), .val (.double b1), .second, .val (.double b2), .second, .val (.double b3), .second, .val (.double b4), .second, .unset, .unset, .unset, .unset, .unset, .unset, .unset, .unset, .unset, .unset] [(.double b4), (.double b3), (.double b2), (.double b1)])) _
  refine st5 _ ?_
  show Steps p.tables e below (Ta5.setTop (mkF m 35 #[.val (.int p1), .val (.int p2), .val (.int p3), .val (.int p4), .val (.double b1), .second, .val (.double b2), .second, .val (.double b3), .second, .val (.double b4), .second, .unset, .unset, .unset, .unset, .unset, .unset, .unset, .unset, .unset, .unset] [(.double sg)])) _
  refine XS.dstore Xa5.here hx rfl (hb hby at_35) rfl (l' := #[.val (.int p1), .val (.int p2), .val (.int p3), .val (.int p4), .val (.double b1), .second, .val (.double b2), .second, .val (.double b3), .second, .val (.double b4), .second, .val (.double sg), .second, .unset, .unset, .unset, .unset, .unset, .unset, .unset, .unset]) rfl ?_
  show Steps p.tables e below (Ta5.setTop (mkF m 37 #[.val (.int p1), .val (.int p2), .val (.int p3), .val (.int p4), .val (.double b1), .second, .val (.double b2), .second, .val (.double b3), .second, .val (.double b4), .second, .val (.double sg), .second, .unset, .unset, .unset, .unset, .unset, .unset, .unset, .unset] [])) _
  refine XS.dload Xa5.here hx rfl (hb hby at_37) rfl ?_
  show Steps p.tables e below (Ta5.setTop (mkF m 39 #[.val (.int p1), .val (.int p2), .val (.int p3), .val (.int p4), .val (.double b1), .second, .val (.double b2), .second, .val (.double b3), .second, .val (.double b4), .second, .val (.double sg), .second, .unset, .unset, .unset, .unset, .unset, .unset, .unset, .unset] [(.double sg)])) _
  refine XS.dconst1 Xa5.here hx rfl (hb hby at_39) (v := (4607182418800017408 : UInt64)) rfl ?_
  show Steps p.tables e below (Ta5.setTop (mkF m 40 #[.val (.int p1), .val (.int p2), .val (.int p3), .val (.int p4), .val (.double b1), .second, .val (.double b2), .second, .val (.double b3), .second, .val (.double b4), .second, .val (.double sg), .second, .unset, .unset, .unset, .unset, .unset, .unset, .unset, .unset] [(.double (4607182418800017408 : UInt64)), (.double sg)])) _
  refine XS.dcmpS Xa5.here hx rfl (hb hby at_40) rfl (own_cmp .l ig own_one) ?_
  show Steps p.tables e below (Ta5.setTop (mkF m 41 #[.val (.int p1), .val (.int p2), .val (.int p3), .val (.int p4), .val (.double b1), .second, .val (.double b2), .second, .val (.double b3), .second, .val (.double b4), .second, .val (.double sg), .second, .unset, .unset, .unset, .unset, .unset, .unset, .unset, .unset] [(.int (own_c g 1))])) _
  rcases hg1 with hq | hq
  · refine XS.ifNo Xa5.here hx rfl (hb hby at_41) rfl ((if0 _ _).trans (feq (own_c_ne (by omega))).1) ?_
    show Steps p.tables e below (Ta5.setTop (mkF m 44 #[.val (.int p1), .val (.int p2), .val (.int p3), .val (.int p4), .val (.double b1), .second, .val (.double b2), .second, .val (.double b3), .second, .val (.double b4), .second, .val (.double sg), .second, .unset, .unset, .unset, .unset, .unset, .unset, .unset, .unset] [])) _
    refine XS.dload Xa5.here hx rfl (hb hby at_44) rfl ?_
    show Steps p.tables e below (Ta5.setTop (mkF m 46 #[.val (.int p1), .val (.int p2), .val (.int p3), .val (.int p4), .val (.double b1), .second, .val (.double b2), .second, .val (.double b3), .second, .val (.double b4), .second, .val (.double sg), .second, .unset, .unset, .unset, .unset, .unset, .unset, .unset, .unset] [(.double sg)])) _
    refine Xa5.ldc2DoubleC hx hown (mvT hZ (hw _ (List.mem_of_getElem? (i := 10) rfl))) (g := (mkF m 46 #[.val (.int p1), .val (.int p2), .val (.int p3), .val (.int p4), .val (.double b1), .second, .val (.double b2), .second, .val (.double b3), .second, .val (.double b4), .second, .val (.double sg), .second, .unset, .unset, .unset, .unset, .unset, .unset, .unset, .unset] [(.double sg)])) rfl (hb hby at_46) _ ?_
    show Steps p.tables e below (Ta5.setTop (mkF m 49 #[.val (.int p1), .val (.int p2), .val (.int p3), .val (.int p4), .val (.double b1), .second, .val (.double b2), .second, .val (.double b3), .second, .val (.double b4), .second, .val (.double sg), .second, .unset, .unset, .unset, .unset, .unset, .unset, .unset, .unset] [(.double (13830554455654793216 : UInt64)), (.double sg)])) _
    refine XS.dcmpS Xa5.here hx rfl (hb hby at_49) rfl (own_cmp .l ig own_mone) ?_
    show Steps p.tables e below (Ta5.setTop (mkF m 50 #[.val (.int p1), .val (.int p2), .val (.int p3), .val (.int p4), .val (.double b1), .second, .val (.double b2), .second, .val (.double b3), .second, .val (.double b4), .second, .val (.double sg), .second, .unset, .unset, .unset, .unset, .unset, .unset, .unset, .unset] [(.int (own_c g (-1)))])) _
    refine XS.ifYes Xa5.here hx rfl (pc0 := 50) (pc' := 55) rfl (hb hby at_50) rfl ((if0 _ _).trans (teq (own_c_eq hq)).1) (by decide) (by decide) ?_
    show Steps p.tables e below (Ta5.setTop (mkF m 55 #[.val (.int p1), .val (.int p2), .val (.int p3), .val (.int p4), .val (.double b1), .second, .val (.double b2), .second, .val (.double b3), .second, .val (.double b4), .second, .val (.double sg), .second, .unset, .unset, .unset, .unset, .unset, .unset, .unset, .unset] [])) _
    exact t55
  · refine XS.ifYes Xa5.here hx rfl (pc0 := 41) (pc' := 55) rfl (hb hby at_41) rfl ((if0 _ _).trans (teq (own_c_eq hq)).1) (by decide) (by decide) ?_
    show Steps p.tables e below (Ta5.setTop (mkF m 55 #[.val (.int p1), .val (.int p2), .val (.int p3), .val (.int p4), .val (.double b1), .second, .val (.double b2), .second, .val (.double b3), .second, .val (.double b4), .second, .val (.double sg), .second, .unset, .unset, .unset, .unset, .unset, .unset, .unset, .unset] [])) _
    exact t55
set_option maxRecDepth 65536 in
set_option maxHeartbeats 40000000 in
theorem comes_1 {Post : Tables → Env → Array Value → State → Outcome → State → Prop} (hpost : ∀ tb e args s v u, (limb_1_1.after args s (.returned v) u = true ∧ limb_1_2.after args s (.returned v) u = true ∧ True) → FrameEnd s (.returned v) u (Jvm.fieldLocs frame_1_writes args s ++ Jvm.arrayLocs frame_1_arrays args s ++ Jvm.staticLocs frame_1_statics s) 0 0 → Post tb e args s (.returned v) u) :
    ArmFor flags0 classFile x code maxLocals ret World_1 tables_1 room_1 Calls_1 rest_1 Pre_1 Post := by
  intro l hfl _ _ p e ha hc hk s m args below hf hA hF happ hP
  obtain ⟨hcalls, hrest, hpre⟩ := hP
  obtain ⟨-, -, -, hnamed, -, -, -, hat⟩ := (Spec.applies_iff hf).mp happ
  obtain ⟨hg, hn⟩ := and_e (Cond.before_iff.mp (show (Jvm.Cond.and given_1 narrow_1).before args s = true from hpre))
  obtain ⟨h1, h2⟩ := and_e hg
  obtain ⟨h3, h4⟩ := and_e h2
  obtain ⟨h5, h6⟩ := and_e h4
  obtain ⟨h7, h8⟩ := and_e h6
  obtain ⟨w0, w1, w2, w3, rfl⟩ : ∃ w0 w1 w2 w3 : Value, args = #[w0, w1, w2, w3] := by
    have hs : args.size = 4 := by simpa [Cond.value, given_1] using h1
    obtain ⟨L⟩ := args
    match L, hs with
    | [w0, w1, w2, w3], _ => exact ⟨w0, w1, w2, w3, rfl⟩
  have hw := fun d (hd : d ∈ tables_1) => atoms_spec (ws := Jvm.Cond.code x code maxLocals ret :: tables_1) hat d (List.mem_cons_of_mem _ hd)
  obtain ⟨i0, e0⟩ := is_v h3
  obtain rfl : w0 = (.int i0) := Option.some.inj e0
  obtain ⟨i1, e1⟩ := is_v h5
  obtain rfl : w1 = (.int i1) := Option.some.inj e1
  obtain ⟨i2, e2⟩ := is_v h7
  obtain rfl : w2 = (.int i2) := Option.some.inj e2
  obtain ⟨i3, e3⟩ := is_v h8
  obtain rfl : w3 = (.int i3) := Option.some.inj e3
  obtain ⟨n, o, h1, h2, h3, _, L, rfl, ⟨rfl, N⟩, hq⟩ := rm0 l s _ hw tables_1 i0 i1 i2 i3 s.heap s.heap.size p e ha hc hk s m _ below hf ((Spec.applies_iff_loose hf).mp happ).1 ⟨rfl, State.Warmed39.refl s, rfl⟩ trivial
  refine ⟨n, _, h1, h2, h3, hpost _ _ _ _ _ _ ⟨Cond.after_iff.mpr rfl, Cond.after_iff.mpr (eq_i res_at (Term.int_eval (1)) rfl), trivial⟩ ⟨hq.1, hq.2.1, (hq.2.2.sift fun y hy => Or.inr (N y hy)).mono (by decide) (by decide)⟩⟩
theorem main_1_1 : Claimed_1_1 := comes_1 fun _ _ _ _ _ _ h hF => ⟨h.1, hF⟩
theorem main_1_2 : Claimed_1_2 := comes_1 fun _ _ _ _ _ _ h hF => ⟨h.2.1, hF⟩
end Jvm.Pilot.@@N@@
namespace Jvm.Pilot.@@N@@
open Jvm Jvm.ClassFile Sem Op Lib Jvm.Free Jvm.Stand Jvm.Pilot.@@N@@.Jvm.D
/-! MADE BY PROGRAM (witnessworld.py) out of the Statement's table words and the real class files: 7 classes; the members and pool entries that the words name. The judged class is class 1, her method 2. -/
namespace start1
open Jvm.ClassFile
def u (s : String) : CpInfo := .utf8 (stringToUtf16 s)
/-- a pool by its gaps: so many unusable entries, then the entry; so many at the end -/
def gap : Nat → List CpInfo → List CpInfo
  | 0, r => r
  | n + 1, r => .unusable :: gap n r
def poolList (es : List (Nat × CpInfo)) (last : Nat) : List CpInfo := es.foldr (fun e r => gap e.1 (e.2 :: r)) (gap last [])
def pool (es : List (Nat × CpInfo)) (last : Nat) : Array CpInfo := ⟨poolList es last⟩
def fileOf (pool : Array CpInfo) (this : Nat) (attrs : Array Attribute := #[]) (ms : Array MethodInfo := #[]) (fl : Nat := 33) (sup : Nat := 0) (ifs : Array Nat := #[]) (fds : Array FieldInfo := #[]) : ClassFile where
  minorVersion := 0
  majorVersion := 65
  constantPool := pool
  accessFlags := fl
  thisClass := this
  superClass := sup
  interfaces := ifs
  fields := fds
  methods := ms
  attributes := attrs
def plain (name : String) (sup : Option ClassId) : Class where
  name := name
  kind := .ordinary
  loader := none
  accessFlags := 33
  super := sup
  interfaces := #[]
  cf := none
  fields := #[]
  methods := #[]
  instanceTypes := #[]
  staticTypes := #[]
  resolved := #[]
  callSites := []
  init := .initialized
  statics := none
  mirror := none

def pool0 : Array CpInfo := pool [(5, u "<init>"), (0, u "()V"), (1, .class_ 10), (1, u "java/lang/Object")] 113

def k0m0 : Method := { name := "<init>", desc := "()V", sig := { parameters := [], returnType := none }, accessFlags := 1, code := none }
/-- java/lang/Object -/
def k0 : Class := { plain "java/lang/Object" none with
  accessFlags := 33
  interfaces := #[]
  cf := some (fileOf pool0 8 #[] #[{ accessFlags := 1, nameIndex := 5, descriptorIndex := 6, attributes := #[] }] 33 0 #[] #[])
  fields := #[]
  methods := #[k0m0]
  instanceTypes := #[]
  staticTypes := #[]
  resolved := Array.replicate 124 none
  statics := none }

def pool1 : Array CpInfo := pool [(2, .class_ 4), (1, u "java/lang/Object"), (0, u "<init>"), (0, u "()V"), (0, .double 9223372036854775808), (1, .methodref 10 11), (0, .class_ 12), (0, .nameAndType 13 14), (0, u "com/example/axangle/axangle/CanonicalSignPinLaw"), (0, u "draw"), (0, u "(I)D"), (0, .methodref 16 17), (0, .class_ 18), (0, .nameAndType 19 20), (0, u "com/example/axangle/axangle/Canonical"), (0, u "sign"), (0, u "(DDDD)D"), (0, .double 13830554455654793216), (4, u "law"), (0, u "(IIII)Z")] 2

def k1m0 : Method := { name := "<init>", desc := "()V", sig := { parameters := [], returnType := none }, accessFlags := 2, code := none }
def k1c1 : Code := { maxStack := 2, maxLocals := 2, code := method_2_code, exceptionTable := #[], attributes := #[] }
def k1m1 : Method := { name := "draw", desc := "(I)D", sig := { parameters := [.int], returnType := some .double }, accessFlags := 10, code := some k1c1 }
def k1c2 : Code := { maxStack := 8, maxLocals := 22, code := code, exceptionTable := #[], attributes := #[] }
def k1m2 : Method := { name := "law", desc := "(IIII)Z", sig := { parameters := [.int, .int, .int, .int], returnType := some .boolean }, accessFlags := 9, code := some k1c2 }
/-- com/example/axangle/axangle/CanonicalSignPinLaw -/
def k1 : Class := { plain "com/example/axangle/axangle/CanonicalSignPinLaw" (some 0) with
  accessFlags := 49
  interfaces := #[]
  cf := some (fileOf pool1 10 #[] #[{ accessFlags := 2, nameIndex := 5, descriptorIndex := 6, attributes := #[] }, { accessFlags := 10, nameIndex := 13, descriptorIndex := 14, attributes := #[] }, { accessFlags := 9, nameIndex := 26, descriptorIndex := 27, attributes := #[] }] 49 2 #[] #[])
  fields := #[]
  methods := #[k1m0, k1m1, k1m2]
  instanceTypes := #[]
  staticTypes := #[]
  resolved := Array.replicate 30 none
  statics := none }

def pool2 : Array CpInfo := pool [(2, .class_ 4), (1, u "java/lang/Object"), (0, u "<init>"), (0, u "()V"), (0, .double 13830554455654793216), (1, .class_ 10), (0, u "com/example/axangle/axangle/Canonical"), (4, u "sign"), (0, u "(DDDD)D")] 3

def k2m0 : Method := { name := "<init>", desc := "()V", sig := { parameters := [], returnType := none }, accessFlags := 2, code := none }
def k2c1 : Code := { maxStack := 4, maxLocals := 10, code := prog_2_method_3_code, exceptionTable := #[], attributes := #[] }
def k2m1 : Method := { name := "sign", desc := "(DDDD)D", sig := { parameters := [.double, .double, .double, .double], returnType := some .double }, accessFlags := 8, code := some k2c1 }
/-- com/example/axangle/axangle/Canonical -/
def k2 : Class := { plain "com/example/axangle/axangle/Canonical" (some 0) with
  accessFlags := 48
  interfaces := #[]
  cf := some (fileOf pool2 9 #[] #[{ accessFlags := 2, nameIndex := 5, descriptorIndex := 6, attributes := #[] }, { accessFlags := 8, nameIndex := 15, descriptorIndex := 16, attributes := #[] }] 48 2 #[] #[])
  fields := #[]
  methods := #[k2m0, k2m1]
  instanceTypes := #[]
  staticTypes := #[]
  resolved := Array.replicate 20 none
  statics := none }

def pool3 : Array CpInfo := pool [(1, u "java/lang/Cloneable"), (0, .class_ 1), (0, u "java/lang/Object"), (0, .class_ 3)] 3

/-- java/lang/Cloneable -/
def k3 : Class := { plain "java/lang/Cloneable" (some 0) with
  accessFlags := 1537
  interfaces := #[]
  cf := some (fileOf pool3 2 #[] #[] 1537 4 #[] #[])
  fields := #[]
  methods := #[]
  instanceTypes := #[]
  staticTypes := #[]
  resolved := Array.replicate 8 none
  statics := none }

def pool4 : Array CpInfo := pool [(1, u "java/io/Serializable"), (0, .class_ 1), (0, u "java/lang/Object"), (0, .class_ 3)] 3

/-- java/io/Serializable -/
def k4 : Class := { plain "java/io/Serializable" (some 0) with
  accessFlags := 1537
  interfaces := #[]
  cf := some (fileOf pool4 2 #[] #[] 1537 4 #[] #[])
  fields := #[]
  methods := #[]
  instanceTypes := #[]
  staticTypes := #[]
  resolved := Array.replicate 8 none
  statics := none }

/-- the primitive byte -/
def k5 : Class := { plain "byte" none with kind := .primitive 'B', accessFlags := 0x411 }
/-- [B -/
def k6 : Class := { plain "[B" (some 0) with kind := .array 5 .byte, interfaces := #[3, 4], accessFlags := 1041 }

def heap : Heap := #[]
def classes : Array Class := #[k0, k1, k2, k3, k4, k5, k6]
def interned : List (Array UInt16 × Addr) := []
def slotsUsed : Nat := 0
def theMethod : MethodId := ⟨1, 2⟩
def args0 : Array Value := #[.int 5, .int 6, .int 7, .int 8]
def aboutOver (below : List Frame) : State where
  vm := { classes := classes, interned := interned.toArray }
  heap := heap
  slotsUsed := slotsUsed
  threads := #[{ frames := .invoking theMethod args0 :: below }]
def below0 : List Frame := [.native { method := ⟨0, 0⟩, args := #[] }]
def about1 : State := aboutOver below0
def p0 : Program := .bare "" "" ""
def e0 : Env := launch0.env 0 0 0
theorem w_frames : about1.frames = Frame.invoking theMethod args0 :: below0 := rfl
set_option maxRecDepth 65536 in
theorem w_args : argsFit about1.vm theMethod args0 = true := by decide +kernel
set_option maxRecDepth 65536 in
theorem w_heap : heapFits about1 = true := by decide +kernel
set_option maxRecDepth 65536 in
theorem w_runnable : about1.curStatus? = some .runnable := by decide +kernel
set_option maxRecDepth 65536 in
theorem w_alone : about1.alone = true := by decide +kernel
set_option maxRecDepth 65536 in
theorem w_named : about1.methodNamed? x = some theMethod := by decide +kernel
set_option maxRecDepth 65536 in
theorem w_hears : about1.hears theMethod below0 = true := by decide +kernel
set_option maxRecDepth 65536 in
theorem w_ripe : about1.ripe theMethod args0 below0 = true := by decide +kernel
theorem w_running : about1.status = .running := rfl
set_option maxRecDepth 65536 in
theorem w_room : about1.hasRoom e0.platform room_1 = true :=
  launch0.hasRoom_least _ room_1 (by decide +kernel) (by decide +kernel) (by decide +kernel) (by decide +kernel) (by decide +kernel) (by decide +kernel)
theorem allAtoms_all (ts : List Jvm.Cond) (a : Array Jvm.Value) (st : Jvm.State) : (allAtoms ts).before a st = ts.all (fun c => c.before a st) := by
  induction ts with
  | nil => rfl
  | cons c t ih =>
    show (Jvm.Cond.and c (allAtoms t)).before a st = _
    rw [Jvm.Cond.before_and, ih, List.all_cons]
def words1 : List Jvm.Cond := Jvm.Cond.code x code maxLocals ret :: tables_1
/-- a 'code' word, met by the world's own term for the bytes: nothing is compared byte by byte -/
theorem code_word {y : MethodName} {bytes : ByteArray} {mx : Nat} {rt : Option FieldType} {a : Array Value} {s : State} {m : MethodId} {meth : Method} {c : Code} (h1 : s.methodNamed? y = some m) (h2 : s.vm.method? m = some meth) (h3 : meth.code = some c) (h4 : c.code = bytes)
    (h5 : (c.maxLocals == mx && c.exceptionTable.isEmpty && decide (c.maxStack ≤ mostOperands) && decide (meth.sig.returnType = rt) && !meth.locks && decide (parseMethodDescriptor y.desc = some meth.sig)) = true) : (Jvm.Cond.code y bytes mx rt).before a s = true := by
  simp only [Bool.and_eq_true, beq_iff_eq, Bool.not_eq_true', decide_eq_true_eq] at h5
  obtain ⟨⟨⟨⟨⟨g1, g2⟩, g3⟩, g4⟩, g5⟩, g6⟩ := h5
  simp [Cond.before, Cond.holds, Cond.value, h1, h2, h3, h4, g1, g2, g3, g4, g5, g6]
def isCode : Jvm.Cond → Bool
  | .code _ _ _ _ => true
  | _ => false
theorem all_split {L : List Jvm.Cond} {P : Jvm.Cond → Bool} (h1 : L.all (fun c => isCode c || P c) = true) (h2 : ∀ c ∈ L.filter isCode, P c = true) : L.all P = true := by
  refine List.all_eq_true.mpr fun c hc => ?_
  have h := List.all_eq_true.mp h1 c hc
  rcases Bool.eq_false_or_eq_true (isCode c) with hi | hi
  · exact h2 c (List.mem_filter.mpr ⟨hc, hi⟩)
  · simpa [hi] using h
set_option maxRecDepth 65536 in
theorem w_c0 : (Jvm.Cond.code x code maxLocals ret).before args0 about1 = true := code_word (m := ⟨1, 2⟩) (meth := k1m2) (c := k1c2) (by decide +kernel) rfl rfl rfl (by decide +kernel)
set_option maxRecDepth 65536 in
theorem w_c1 : (Jvm.Cond.code ({ cls := "com/example/axangle/axangle/CanonicalSignPinLaw", name := "draw", desc := "(I)D" } : Jvm.MethodName) method_2_code (2 : Nat) (Option.some Jvm.ClassFile.FieldType.double)).before args0 about1 = true := code_word (m := ⟨1, 1⟩) (meth := k1m1) (c := k1c1) (by decide +kernel) rfl rfl rfl (by decide +kernel)
set_option maxRecDepth 65536 in
theorem w_c2 : (Jvm.Cond.code ({ cls := "com/example/axangle/axangle/Canonical", name := "sign", desc := "(DDDD)D" } : Jvm.MethodName) prog_2_method_3_code (10 : Nat) (Option.some Jvm.ClassFile.FieldType.double)).before args0 about1 = true := code_word (m := ⟨2, 1⟩) (meth := k2m1) (c := k2c1) (by decide +kernel) rfl rfl rfl (by decide +kernel)
def codes1 : List Jvm.Cond := [Jvm.Cond.code x code maxLocals ret, Jvm.Cond.code ({ cls := "com/example/axangle/axangle/CanonicalSignPinLaw", name := "draw", desc := "(I)D" } : Jvm.MethodName) method_2_code (2 : Nat) (Option.some Jvm.ClassFile.FieldType.double), Jvm.Cond.code ({ cls := "com/example/axangle/axangle/Canonical", name := "sign", desc := "(DDDD)D" } : Jvm.MethodName) prog_2_method_3_code (10 : Nat) (Option.some Jvm.ClassFile.FieldType.double)]
set_option maxRecDepth 65536 in
theorem codes_eq : words1.filter isCode = codes1 := rfl
theorem w_codes : ∀ c ∈ words1.filter isCode, c.before args0 about1 = true := by
  rw [codes_eq]
  intro c hc
  simp only [codes1, List.mem_cons, List.not_mem_nil, or_false] at hc
  rcases hc with rfl | rfl | rfl
  · exact w_c0
  · exact w_c1
  · exact w_c2
set_option maxRecDepth 65536 in
theorem w_t1 : words1.all (fun c => isCode c || c.before args0 about1) = true := by decide +kernel
theorem w_tables : (allAtoms (Jvm.Cond.code x code maxLocals ret :: tables_1)).before args0 about1 = true := by
  rw [allAtoms_all]
  show words1.all (fun c => c.before args0 about1) = true
  refine all_split ?_ w_codes
  rw [w_t1]
set_option maxRecDepth 65536 in
theorem w_case : (Jvm.Cond.and given_1 narrow_1).before args0 about1 = true := by decide +kernel
theorem w_applies : (headSpec (Jvm.Cond.code x code maxLocals ret :: tables_1) room_1).applies x e0.platform about1 = true :=
  (Spec.applies_iff w_frames).mpr ⟨w_running, w_runnable, w_alone, w_named, w_hears, w_ripe, w_room, w_tables⟩
theorem atStart : AtStart classFile x code maxLocals ret World_1 tables_1 room_1 Calls_1 rest_1 Pre_1 launch0 p0 e0 about1 theMethod args0 below0 :=
  ⟨lists_1, trivial, launch0.admits_env _ _ _, launch0.least_env, fairChoices_fair.cas, fairChoices_fair.clock, w_frames, w_args, w_heap, w_applies, trivial, trivial, w_case⟩
end start1
theorem witness_1 : WitnessClaimed_1 := ⟨start1.p0, start1.e0, start1.about1, start1.theMethod, start1.args0, start1.below0, start1.atStart⟩
end Jvm.Pilot.@@N@@
